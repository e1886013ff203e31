import PyProof.Rows.All
import Wide.All
import OpenK.AllK
import Wide.FinOn
import PySem.Challenge.RW_tc0035_01
set_option Elab.async false
section
open PySem PySem.W PySem.Calls PyProof.Rows
set_option maxRecDepth 100000
set_option maxHeartbeats 8000000
namespace Mine
abbrev pw : Program := PySem.Challenge.pw_tc0035_01
noncomputable def stAt (i : Nat) : Stmt := (pw.main.body[i]?).getD (.Pass ⟨0, 0, 0, 0⟩)
noncomputable def hidO (i : Nat) : Obj := match stAt i with
  | .FunctionDef name args body _ _ _ scope _ _ _ => { cls := .none, data := .func { name, qualname := name, params := args, body := .stmts body, scope, globals := 0, closure := [], defaults := .none, kwdefaults := .none } }
  | _ => default
noncomputable def pubO (i : Nat) (c : Addr) (md : Value) : Obj := match stAt i with
  | .FunctionDef name args body _ _ _ scope _ _ _ => { cls := .type "function", data := .func { name, qualname := name, params := args, body := .stmts body, scope, globals := 3, closure := [], defaults := .none, kwdefaults := .none, pyModule := md, code := .ref c } }
  | _ => default
noncomputable def o11 : Obj := { cls := PySem.Value.type "tuple", data := PySem.Data.seq #[] }
noncomputable def o13 : Obj := { cls := PySem.Value.type "code", data := PySem.Data.fields #[PySem.Value.str (PySem.Str.ofString "<module>") 182, PySem.Value.str (PySem.Str.ofString "<module>") 183, PySem.Value.str (PySem.Str.ofString "/claim/cut.py") 184, PySem.Value.int 1 0, PySem.Value.int 0 0, PySem.Value.int 0 0, PySem.Value.int 0 0, PySem.Value.int 0 0, PySem.Value.ref 11, PySem.Value.bool Bool.false, PySem.Value.int 181 0, PySem.Value.ref 12, PySem.Value.none, PySem.Value.none, PySem.Value.none, PySem.Value.none, PySem.Value.int 185 0, PySem.Value.int 1 0, PySem.Value.str (PySem.Str.ofString "/claim/cut.py") 186] }
noncomputable def o14 : Obj := { cls := PySem.Value.type "frame", slots := #[Option.some (PySem.Value.ref 13), Option.some (PySem.Value.ref 3), Option.some (PySem.Value.ref 3), Option.none, Option.some (PySem.Value.str (PySem.Str.ofString "__main__") 164), Option.none, Option.some (PySem.Value.ref 0)] }
noncomputable def o15 : Obj := { cls := PySem.Value.type "tuple", data := PySem.Data.seq #[] }
noncomputable def o16 : Obj := { cls := PySem.Value.none, data := PySem.Data.fields #[] }
noncomputable def o17 : Obj := { cls := PySem.Value.type "tuple", data := PySem.Data.seq #[PySem.Value.str (PySem.Str.ofString "a") 192, PySem.Value.str (PySem.Str.ofString "b") 193] }
noncomputable def o18 : Obj := { cls := PySem.Value.type "tuple", data := PySem.Data.seq #[] }
noncomputable def o19 : Obj := hidO 1
noncomputable def o20 : Obj := { cls := PySem.Value.type "code", data := PySem.Data.fields #[PySem.Value.str (PySem.Str.ofString "and_") 189, PySem.Value.str (PySem.Str.ofString "and_") 190, PySem.Value.str (PySem.Str.ofString "/claim/cut.py") 191, PySem.Value.int 2 0, PySem.Value.int 2 0, PySem.Value.int 0 0, PySem.Value.int 0 0, PySem.Value.int 3 0, PySem.Value.ref 15, PySem.Value.bool Bool.true, PySem.Value.int 181 0, PySem.Value.ref 16, PySem.Value.none, PySem.Value.ref 17, PySem.Value.ref 18, PySem.Value.ref 19, PySem.Value.int 194 0, PySem.Value.int 2 0, PySem.Value.str (PySem.Str.ofString "/claim/cut.py") 195] }
noncomputable def o21 : Obj := pubO 1 20 (PySem.Value.str (PySem.Str.ofString "cpy313.operator") 187)
noncomputable def o22 : Obj := { cls := PySem.Value.type "tuple", data := PySem.Data.seq #[] }
noncomputable def o23 : Obj := { cls := PySem.Value.none, data := PySem.Data.fields #[] }
noncomputable def o24 : Obj := { cls := PySem.Value.type "tuple", data := PySem.Data.seq #[PySem.Value.str (PySem.Str.ofString "a") 200, PySem.Value.str (PySem.Str.ofString "b") 201] }
noncomputable def o25 : Obj := { cls := PySem.Value.type "tuple", data := PySem.Data.seq #[] }
noncomputable def o26 : Obj := hidO 2
noncomputable def o27 : Obj := { cls := PySem.Value.type "code", data := PySem.Data.fields #[PySem.Value.str (PySem.Str.ofString "mul") 197, PySem.Value.str (PySem.Str.ofString "mul") 198, PySem.Value.str (PySem.Str.ofString "/claim/cut.py") 199, PySem.Value.int 4 0, PySem.Value.int 2 0, PySem.Value.int 0 0, PySem.Value.int 0 0, PySem.Value.int 3 0, PySem.Value.ref 22, PySem.Value.bool Bool.true, PySem.Value.int 181 0, PySem.Value.ref 23, PySem.Value.none, PySem.Value.ref 24, PySem.Value.ref 25, PySem.Value.ref 26, PySem.Value.int 202 0, PySem.Value.int 4 0, PySem.Value.str (PySem.Str.ofString "/claim/cut.py") 203] }
noncomputable def o28 : Obj := pubO 2 27 (PySem.Value.str (PySem.Str.ofString "cpy313.operator") 187)
noncomputable def o29 : Obj := { cls := PySem.Value.type "tuple", data := PySem.Data.seq #[] }
noncomputable def o30 : Obj := { cls := PySem.Value.none, data := PySem.Data.fields #[] }
noncomputable def o31 : Obj := { cls := PySem.Value.type "tuple", data := PySem.Data.seq #[PySem.Value.str (PySem.Str.ofString "a") 208, PySem.Value.str (PySem.Str.ofString "b") 209] }
noncomputable def o32 : Obj := { cls := PySem.Value.type "tuple", data := PySem.Data.seq #[] }
noncomputable def o33 : Obj := hidO 3
noncomputable def o34 : Obj := { cls := PySem.Value.type "code", data := PySem.Data.fields #[PySem.Value.str (PySem.Str.ofString "xor") 205, PySem.Value.str (PySem.Str.ofString "xor") 206, PySem.Value.str (PySem.Str.ofString "/claim/cut.py") 207, PySem.Value.int 6 0, PySem.Value.int 2 0, PySem.Value.int 0 0, PySem.Value.int 0 0, PySem.Value.int 3 0, PySem.Value.ref 29, PySem.Value.bool Bool.true, PySem.Value.int 181 0, PySem.Value.ref 30, PySem.Value.none, PySem.Value.ref 31, PySem.Value.ref 32, PySem.Value.ref 33, PySem.Value.int 210 0, PySem.Value.int 6 0, PySem.Value.str (PySem.Str.ofString "/claim/cut.py") 211] }
noncomputable def o35 : Obj := pubO 3 34 (PySem.Value.str (PySem.Str.ofString "cpy313.operator") 187)
noncomputable def o36 : Obj := { cls := PySem.Value.type "tuple", data := PySem.Data.seq #[] }
noncomputable def o37 : Obj := { cls := PySem.Value.none, data := PySem.Data.fields #[] }
noncomputable def o38 : Obj := { cls := PySem.Value.type "tuple", data := PySem.Data.seq #[PySem.Value.str (PySem.Str.ofString "a") 216, PySem.Value.str (PySem.Str.ofString "b") 217, PySem.Value.str (PySem.Str.ofString "msg") 218] }
noncomputable def o39 : Obj := { cls := PySem.Value.type "tuple", data := PySem.Data.seq #[] }
noncomputable def o40 : Obj := hidO 4
noncomputable def o41 : Obj := { cls := PySem.Value.type "code", data := PySem.Data.fields #[PySem.Value.str (PySem.Str.ofString "concat") 213, PySem.Value.str (PySem.Str.ofString "concat") 214, PySem.Value.str (PySem.Str.ofString "/claim/cut.py") 215, PySem.Value.int 8 0, PySem.Value.int 2 0, PySem.Value.int 0 0, PySem.Value.int 0 0, PySem.Value.int 3 0, PySem.Value.ref 36, PySem.Value.bool Bool.true, PySem.Value.int 181 0, PySem.Value.ref 37, PySem.Value.none, PySem.Value.ref 38, PySem.Value.ref 39, PySem.Value.ref 40, PySem.Value.int 219 0, PySem.Value.int 8 0, PySem.Value.str (PySem.Str.ofString "/claim/cut.py") 220] }
noncomputable def o42 : Obj := pubO 4 41 (PySem.Value.str (PySem.Str.ofString "cpy313.operator") 187)
noncomputable def o43 : Obj := { cls := PySem.Value.type "tuple", data := PySem.Data.seq #[] }
noncomputable def o44 : Obj := { cls := PySem.Value.none, data := PySem.Data.fields #[] }
noncomputable def o45 : Obj := { cls := PySem.Value.type "tuple", data := PySem.Data.seq #[PySem.Value.str (PySem.Str.ofString "a") 225, PySem.Value.str (PySem.Str.ofString "b") 226] }
noncomputable def o46 : Obj := { cls := PySem.Value.type "tuple", data := PySem.Data.seq #[] }
noncomputable def o47 : Obj := hidO 5
noncomputable def o48 : Obj := { cls := PySem.Value.type "code", data := PySem.Data.fields #[PySem.Value.str (PySem.Str.ofString "contains") 222, PySem.Value.str (PySem.Str.ofString "contains") 223, PySem.Value.str (PySem.Str.ofString "/claim/cut.py") 224, PySem.Value.int 13 0, PySem.Value.int 2 0, PySem.Value.int 0 0, PySem.Value.int 0 0, PySem.Value.int 3 0, PySem.Value.ref 43, PySem.Value.bool Bool.true, PySem.Value.int 181 0, PySem.Value.ref 44, PySem.Value.none, PySem.Value.ref 45, PySem.Value.ref 46, PySem.Value.ref 47, PySem.Value.int 227 0, PySem.Value.int 13 0, PySem.Value.str (PySem.Str.ofString "/claim/cut.py") 228] }
noncomputable def o49 : Obj := pubO 5 48 (PySem.Value.str (PySem.Str.ofString "cpy313.operator") 187)
noncomputable def o50 : Obj := { cls := PySem.Value.type "tuple", data := PySem.Data.seq #[] }
noncomputable def o51 : Obj := { cls := PySem.Value.none, data := PySem.Data.fields #[] }
noncomputable def o52 : Obj := { cls := PySem.Value.type "tuple", data := PySem.Data.seq #[PySem.Value.str (PySem.Str.ofString "a") 233, PySem.Value.str (PySem.Str.ofString "b") 234, PySem.Value.str (PySem.Str.ofString "count") 235, PySem.Value.str (PySem.Str.ofString "i") 236] }
noncomputable def o53 : Obj := { cls := PySem.Value.type "tuple", data := PySem.Data.seq #[] }
noncomputable def o54 : Obj := hidO 6
noncomputable def o55 : Obj := { cls := PySem.Value.type "code", data := PySem.Data.fields #[PySem.Value.str (PySem.Str.ofString "countOf") 230, PySem.Value.str (PySem.Str.ofString "countOf") 231, PySem.Value.str (PySem.Str.ofString "/claim/cut.py") 232, PySem.Value.int 15 0, PySem.Value.int 2 0, PySem.Value.int 0 0, PySem.Value.int 0 0, PySem.Value.int 3 0, PySem.Value.ref 50, PySem.Value.bool Bool.true, PySem.Value.int 181 0, PySem.Value.ref 51, PySem.Value.none, PySem.Value.ref 52, PySem.Value.ref 53, PySem.Value.ref 54, PySem.Value.int 237 0, PySem.Value.int 15 0, PySem.Value.str (PySem.Str.ofString "/claim/cut.py") 238] }
noncomputable def o56 : Obj := pubO 6 55 (PySem.Value.str (PySem.Str.ofString "cpy313.operator") 187)
noncomputable def o57 : Obj := { cls := PySem.Value.type "tuple", data := PySem.Data.seq #[] }
noncomputable def o58 : Obj := { cls := PySem.Value.none, data := PySem.Data.fields #[] }
noncomputable def o59 : Obj := { cls := PySem.Value.type "tuple", data := PySem.Data.seq #[PySem.Value.str (PySem.Str.ofString "want") 247, PySem.Value.str (PySem.Str.ofString "got") 248, PySem.Value.str (PySem.Str.ofString "ws") 249, PySem.Value.str (PySem.Str.ofString "startpos") 250, PySem.Value.str (PySem.Str.ofString "endpos") 251, PySem.Value.str (PySem.Str.ofString "w") 252] }
noncomputable def o60 : Obj := { cls := PySem.Value.type "tuple", data := PySem.Data.seq #[] }
noncomputable def o61 : Obj := hidO 9
noncomputable def o62 : Obj := { cls := PySem.Value.type "code", data := PySem.Data.fields #[PySem.Value.str (PySem.Str.ofString "_ellipsis_match") 244, PySem.Value.str (PySem.Str.ofString "_ellipsis_match") 245, PySem.Value.str (PySem.Str.ofString "/claim/cut.py") 246, PySem.Value.int 23 0, PySem.Value.int 2 0, PySem.Value.int 0 0, PySem.Value.int 0 0, PySem.Value.int 3 0, PySem.Value.ref 57, PySem.Value.bool Bool.true, PySem.Value.int 181 0, PySem.Value.ref 58, PySem.Value.none, PySem.Value.ref 59, PySem.Value.ref 60, PySem.Value.ref 61, PySem.Value.int 253 0, PySem.Value.int 23 0, PySem.Value.str (PySem.Str.ofString "/claim/cut.py") 254] }
noncomputable def o63 : Obj := pubO 9 62 (PySem.Value.str (PySem.Str.ofString "cpy313.doctest") 240)
noncomputable def o64 : Obj := { cls := PySem.Value.type "list", data := PySem.Data.seq #[PySem.Value.int 173 258, PySem.Value.int 847 259, PySem.Value.int 6150 260, PySem.Value.int 6155 261, PySem.Value.int 6156 262, PySem.Value.int 6157 263, PySem.Value.int 8203 264, PySem.Value.int 8204 265, PySem.Value.int 8205 266, PySem.Value.int 8288 267, PySem.Value.int 65279 268] }
noncomputable def o65 : Obj := { cls := PySem.Value.type "range", data := PySem.Data.fields #[PySem.Value.int 65024 269, PySem.Value.int 65040 270, PySem.Value.int 1 271] }
noncomputable def o66 : Obj := { cls := PySem.Value.type "list", data := PySem.Data.seq #[PySem.Value.int 65024 274, PySem.Value.int 65025 275, PySem.Value.int 65026 276, PySem.Value.int 65027 277, PySem.Value.int 65028 278, PySem.Value.int 65029 279, PySem.Value.int 65030 280, PySem.Value.int 65031 281, PySem.Value.int 65032 282, PySem.Value.int 65033 283, PySem.Value.int 65034 284, PySem.Value.int 65035 285, PySem.Value.int 65036 286, PySem.Value.int 65037 287, PySem.Value.int 65038 288, PySem.Value.int 65039 289] 18 }
noncomputable def o67 : Obj := { cls := PySem.Value.type "range_iterator", data := PySem.Data.fields #[PySem.Value.int 65040 0, PySem.Value.int 0 0, PySem.Value.int 1 0] }
noncomputable def o68 : Obj := { cls := PySem.Value.type "tuple", data := PySem.Data.seq #[] }
noncomputable def o69 : Obj := { cls := PySem.Value.type "StopIteration", data := PySem.Data.fields #[PySem.Value.ref 68, PySem.Value.none, PySem.Value.none, PySem.Value.none, PySem.Value.bool Bool.false, PySem.Value.none] }
noncomputable def o70 : Obj := { cls := PySem.Value.type "list", data := PySem.Data.seq #[PySem.Value.int 173 258, PySem.Value.int 847 259, PySem.Value.int 6150 260, PySem.Value.int 6155 261, PySem.Value.int 6156 262, PySem.Value.int 6157 263, PySem.Value.int 8203 264, PySem.Value.int 8204 265, PySem.Value.int 8205 266, PySem.Value.int 8288 267, PySem.Value.int 65279 268, PySem.Value.int 65024 274, PySem.Value.int 65025 275, PySem.Value.int 65026 276, PySem.Value.int 65027 277, PySem.Value.int 65028 278, PySem.Value.int 65029 279, PySem.Value.int 65030 280, PySem.Value.int 65031 281, PySem.Value.int 65032 282, PySem.Value.int 65033 283, PySem.Value.int 65034 284, PySem.Value.int 65035 285, PySem.Value.int 65036 286, PySem.Value.int 65037 287, PySem.Value.int 65038 288, PySem.Value.int 65039 289] }
noncomputable def o72 : Obj := { cls := PySem.Value.type "list_iterator", data := PySem.Data.fields #[PySem.Value.none, PySem.Value.int 27 0] }
noncomputable def o73 : Obj := { cls := PySem.Value.type "tuple", data := PySem.Data.seq #[] }
noncomputable def o74 : Obj := { cls := PySem.Value.type "StopIteration", data := PySem.Data.fields #[PySem.Value.ref 73, PySem.Value.none, PySem.Value.none, PySem.Value.none, PySem.Value.bool Bool.false, PySem.Value.none] }
noncomputable def o75 : Obj := { cls := PySem.Value.type "tuple", data := PySem.Data.seq #[] }
noncomputable def o76 : Obj := { cls := PySem.Value.none, data := PySem.Data.fields #[] }
noncomputable def o77 : Obj := { cls := PySem.Value.type "tuple", data := PySem.Data.seq #[PySem.Value.str (PySem.Str.ofString "code") 321] }
noncomputable def o78 : Obj := { cls := PySem.Value.type "tuple", data := PySem.Data.seq #[] }
noncomputable def o79 : Obj := hidO 12
noncomputable def o80 : Obj := { cls := PySem.Value.type "code", data := PySem.Data.fields #[PySem.Value.str (PySem.Str.ofString "in_table_b1") 318, PySem.Value.str (PySem.Str.ofString "in_table_b1") 319, PySem.Value.str (PySem.Str.ofString "/claim/cut.py") 320, PySem.Value.int 53 0, PySem.Value.int 1 0, PySem.Value.int 0 0, PySem.Value.int 0 0, PySem.Value.int 3 0, PySem.Value.ref 75, PySem.Value.bool Bool.true, PySem.Value.int 181 0, PySem.Value.ref 76, PySem.Value.none, PySem.Value.ref 77, PySem.Value.ref 78, PySem.Value.ref 79, PySem.Value.int 322 0, PySem.Value.int 53 0, PySem.Value.str (PySem.Str.ofString "/claim/cut.py") 323] }
noncomputable def o81 : Obj := pubO 12 80 (PySem.Value.str (PySem.Str.ofString "cpy313.stringprep") 256)
noncomputable def o121 : Obj := { cls := PySem.Value.type "tuple", data := PySem.Data.seq #[] }
noncomputable def o122 : Obj := { cls := PySem.Value.none, data := PySem.Data.fields #[] }
noncomputable def o123 : Obj := { cls := PySem.Value.type "tuple", data := PySem.Data.seq #[PySem.Value.str (PySem.Str.ofString "code") 2279, PySem.Value.str (PySem.Str.ofString "r") 2280] }
noncomputable def o124 : Obj := { cls := PySem.Value.type "tuple", data := PySem.Data.seq #[] }
noncomputable def o125 : Obj := hidO 14
noncomputable def o126 : Obj := { cls := PySem.Value.type "code", data := PySem.Data.fields #[PySem.Value.str (PySem.Str.ofString "map_table_b3") 2276, PySem.Value.str (PySem.Str.ofString "map_table_b3") 2277, PySem.Value.str (PySem.Str.ofString "/claim/cut.py") 2278, PySem.Value.int 56 0, PySem.Value.int 1 0, PySem.Value.int 0 0, PySem.Value.int 0 0, PySem.Value.int 3 0, PySem.Value.ref 121, PySem.Value.bool Bool.true, PySem.Value.int 181 0, PySem.Value.ref 122, PySem.Value.none, PySem.Value.ref 123, PySem.Value.ref 124, PySem.Value.ref 125, PySem.Value.int 2281 0, PySem.Value.int 56 0, PySem.Value.str (PySem.Str.ofString "/claim/cut.py") 2282] }
noncomputable def o127 : Obj := pubO 14 126 (PySem.Value.str (PySem.Str.ofString "cpy313.stringprep") 256)
noncomputable def o128 : Obj := { cls := PySem.Value.type "tuple", data := PySem.Data.seq #[] }
noncomputable def o129 : Obj := { cls := PySem.Value.none, data := PySem.Data.fields #[] }
noncomputable def o130 : Obj := { cls := PySem.Value.type "tuple", data := PySem.Data.seq #[PySem.Value.str (PySem.Str.ofString "turn") 2289, PySem.Value.str (PySem.Str.ofString "place") 2290] }
noncomputable def o131 : Obj := { cls := PySem.Value.type "tuple", data := PySem.Data.seq #[] }
noncomputable def o132 : Obj := hidO 16
noncomputable def o133 : Obj := { cls := PySem.Value.type "code", data := PySem.Data.fields #[PySem.Value.str (PySem.Str.ofString "_law_gone") 2286, PySem.Value.str (PySem.Str.ofString "_law_gone") 2287, PySem.Value.str (PySem.Str.ofString "/claim/cut.py") 2288, PySem.Value.int 62 0, PySem.Value.int 1 0, PySem.Value.int 0 0, PySem.Value.int 0 0, PySem.Value.int 3 0, PySem.Value.ref 128, PySem.Value.bool Bool.true, PySem.Value.int 181 0, PySem.Value.ref 129, PySem.Value.none, PySem.Value.ref 130, PySem.Value.ref 131, PySem.Value.ref 132, PySem.Value.int 2291 0, PySem.Value.int 62 0, PySem.Value.str (PySem.Str.ofString "/claim/cut.py") 2292] }
noncomputable def o134 : Obj := pubO 16 133 (PySem.Value.str (PySem.Str.ofString "law_tc0035_01") 2284)
noncomputable def o135 : Obj := { cls := PySem.Value.type "tuple", data := PySem.Data.seq #[] }
noncomputable def o136 : Obj := { cls := PySem.Value.none, data := PySem.Data.fields #[] }
noncomputable def o137 : Obj := { cls := PySem.Value.type "tuple", data := PySem.Data.seq #[PySem.Value.str (PySem.Str.ofString "place") 2297, PySem.Value.str (PySem.Str.ofString "turn") 2298] }
noncomputable def o138 : Obj := { cls := PySem.Value.type "tuple", data := PySem.Data.seq #[] }
noncomputable def o139 : Obj := hidO 17
noncomputable def o140 : Obj := { cls := PySem.Value.type "code", data := PySem.Data.fields #[PySem.Value.str (PySem.Str.ofString "_law_spelled") 2294, PySem.Value.str (PySem.Str.ofString "_law_spelled") 2295, PySem.Value.str (PySem.Str.ofString "/claim/cut.py") 2296, PySem.Value.int 65 0, PySem.Value.int 2 0, PySem.Value.int 0 0, PySem.Value.int 0 0, PySem.Value.int 3 0, PySem.Value.ref 135, PySem.Value.bool Bool.true, PySem.Value.int 181 0, PySem.Value.ref 136, PySem.Value.none, PySem.Value.ref 137, PySem.Value.ref 138, PySem.Value.ref 139, PySem.Value.int 2299 0, PySem.Value.int 65 0, PySem.Value.str (PySem.Str.ofString "/claim/cut.py") 2300] }
noncomputable def o141 : Obj := pubO 17 140 (PySem.Value.str (PySem.Str.ofString "law_tc0035_01") 2284)
noncomputable def o142 : Obj := { cls := PySem.Value.type "tuple", data := PySem.Data.seq #[] }
noncomputable def o143 : Obj := { cls := PySem.Value.none, data := PySem.Data.fields #[] }
noncomputable def o144 : Obj := hidO 18
noncomputable def o145 : Obj := { cls := PySem.Value.type "code", data := PySem.Data.fields #[PySem.Value.str (PySem.Str.ofString "_law_choices") 2302, PySem.Value.str (PySem.Str.ofString "_law_choices") 2303, PySem.Value.str (PySem.Str.ofString "/claim/cut.py") 2304, PySem.Value.int 67 0, PySem.Value.int 2 0, PySem.Value.int 0 0, PySem.Value.int 0 0, PySem.Value.int 3 0, PySem.Value.ref 142, PySem.Value.bool Bool.true, PySem.Value.int 181 0, PySem.Value.ref 143, PySem.Value.none, PySem.Value.none, PySem.Value.none, PySem.Value.ref 144, PySem.Value.int 2305 0, PySem.Value.int 67 0, PySem.Value.str (PySem.Str.ofString "/claim/cut.py") 2306] }
noncomputable def o146 : Obj := pubO 18 145 (PySem.Value.str (PySem.Str.ofString "law_tc0035_01") 2284)
noncomputable def o147 : Obj := { cls := PySem.Value.type "tuple", data := PySem.Data.seq #[] }
noncomputable def o148 : Obj := { cls := PySem.Value.none, data := PySem.Data.fields #[] }
noncomputable def o149 : Obj := hidO 19
noncomputable def o150 : Obj := { cls := PySem.Value.type "code", data := PySem.Data.fields #[PySem.Value.str (PySem.Str.ofString "_law_least") 2308, PySem.Value.str (PySem.Str.ofString "_law_least") 2309, PySem.Value.str (PySem.Str.ofString "/claim/cut.py") 2310, PySem.Value.int 73 0, PySem.Value.int 2 0, PySem.Value.int 0 0, PySem.Value.int 0 0, PySem.Value.int 3 0, PySem.Value.ref 147, PySem.Value.bool Bool.true, PySem.Value.int 181 0, PySem.Value.ref 148, PySem.Value.none, PySem.Value.none, PySem.Value.none, PySem.Value.ref 149, PySem.Value.int 2311 0, PySem.Value.int 73 0, PySem.Value.str (PySem.Str.ofString "/claim/cut.py") 2312] }
noncomputable def o151 : Obj := pubO 19 150 (PySem.Value.str (PySem.Str.ofString "law_tc0035_01") 2284)
noncomputable def o152 : Obj := { cls := PySem.Value.type "tuple", data := PySem.Data.seq #[] }
noncomputable def o153 : Obj := { cls := PySem.Value.none, data := PySem.Data.fields #[] }
noncomputable def o154 : Obj := hidO 20
noncomputable def o155 : Obj := { cls := PySem.Value.type "code", data := PySem.Data.fields #[PySem.Value.str (PySem.Str.ofString "_law_merged") 2314, PySem.Value.str (PySem.Str.ofString "_law_merged") 2315, PySem.Value.str (PySem.Str.ofString "/claim/cut.py") 2316, PySem.Value.int 83 0, PySem.Value.int 2 0, PySem.Value.int 0 0, PySem.Value.int 0 0, PySem.Value.int 3 0, PySem.Value.ref 152, PySem.Value.bool Bool.true, PySem.Value.int 181 0, PySem.Value.ref 153, PySem.Value.none, PySem.Value.none, PySem.Value.none, PySem.Value.ref 154, PySem.Value.int 2317 0, PySem.Value.int 83 0, PySem.Value.str (PySem.Str.ofString "/claim/cut.py") 2318] }
noncomputable def o156 : Obj := pubO 20 155 (PySem.Value.str (PySem.Str.ofString "law_tc0035_01") 2284)
noncomputable def o157 : Obj := { cls := PySem.Value.type "tuple", data := PySem.Data.seq #[] }
noncomputable def o158 : Obj := { cls := PySem.Value.none, data := PySem.Data.fields #[] }
noncomputable def o159 : Obj := hidO 21
noncomputable def o160 : Obj := { cls := PySem.Value.type "code", data := PySem.Data.fields #[PySem.Value.str (PySem.Str.ofString "law") 2320, PySem.Value.str (PySem.Str.ofString "law") 2321, PySem.Value.str (PySem.Str.ofString "/claim/cut.py") 2322, PySem.Value.int 91 0, PySem.Value.int 1 0, PySem.Value.int 0 0, PySem.Value.int 0 0, PySem.Value.int 3 0, PySem.Value.ref 157, PySem.Value.bool Bool.true, PySem.Value.int 181 0, PySem.Value.ref 158, PySem.Value.none, PySem.Value.none, PySem.Value.none, PySem.Value.ref 159, PySem.Value.int 2323 0, PySem.Value.int 91 0, PySem.Value.str (PySem.Str.ofString "/claim/cut.py") 2324] }
noncomputable def o161 : Obj := pubO 21 160 (PySem.Value.str (PySem.Str.ofString "law_tc0035_01") 2284)
noncomputable def mainRest (P : Params) : List DictEntry := [
  { hash := PySem.PyData.keyHash P (PySem.Str.ofString "__doc__"), key := PySem.Value.str (PySem.Str.ofString "__doc__") 166, val := PySem.Value.none },
  { hash := PySem.PyData.keyHash P (PySem.Str.ofString "__package__"), key := PySem.Value.str (PySem.Str.ofString "__package__") 167, val := PySem.Value.none },
  { hash := PySem.PyData.keyHash P (PySem.Str.ofString "__loader__"), key := PySem.Value.str (PySem.Str.ofString "__loader__") 168, val := PySem.Value.builtin "__main__.__loader__#opaque" },
  { hash := PySem.PyData.keyHash P (PySem.Str.ofString "__spec__"), key := PySem.Value.str (PySem.Str.ofString "__spec__") 169, val := PySem.Value.none },
  { hash := PySem.PyData.keyHash P (PySem.Str.ofString "__annotations__"), key := PySem.Value.str (PySem.Str.ofString "__annotations__") 170, val := PySem.Value.ref 6 },
  { hash := PySem.PyData.keyHash P (PySem.Str.ofString "__builtins__"), key := PySem.Value.str (PySem.Str.ofString "__builtins__") 171, val := PySem.Value.ref 4 },
  { hash := PySem.PyData.keyHash P (PySem.Str.ofString "__file__"), key := PySem.Value.str (PySem.Str.ofString "__file__") 173, val := PySem.Value.str (PySem.Str.ofString "/claim/cut.py") 172 },
  { hash := PySem.PyData.keyHash P (PySem.Str.ofString "__cached__"), key := PySem.Value.str (PySem.Str.ofString "__cached__") 174, val := PySem.Value.none },
  { hash := PySem.PyData.keyHash P (PySem.Str.ofString "and_"), key := PySem.Value.str (PySem.Str.ofString "and_") 196, val := PySem.Value.ref 21 },
  { hash := PySem.PyData.keyHash P (PySem.Str.ofString "mul"), key := PySem.Value.str (PySem.Str.ofString "mul") 204, val := PySem.Value.ref 28 },
  { hash := PySem.PyData.keyHash P (PySem.Str.ofString "xor"), key := PySem.Value.str (PySem.Str.ofString "xor") 212, val := PySem.Value.ref 35 },
  { hash := PySem.PyData.keyHash P (PySem.Str.ofString "concat"), key := PySem.Value.str (PySem.Str.ofString "concat") 221, val := PySem.Value.ref 42 },
  { hash := PySem.PyData.keyHash P (PySem.Str.ofString "contains"), key := PySem.Value.str (PySem.Str.ofString "contains") 229, val := PySem.Value.ref 49 },
  { hash := PySem.PyData.keyHash P (PySem.Str.ofString "countOf"), key := PySem.Value.str (PySem.Str.ofString "countOf") 239, val := PySem.Value.ref 56 },
  { hash := PySem.PyData.keyHash P (PySem.Str.ofString "ELLIPSIS_MARKER"), key := PySem.Value.str (PySem.Str.ofString "ELLIPSIS_MARKER") 243, val := PySem.Value.str (PySem.Str.ofString "...") 242 },
  { hash := PySem.PyData.keyHash P (PySem.Str.ofString "_ellipsis_match"), key := PySem.Value.str (PySem.Str.ofString "_ellipsis_match") 255, val := PySem.Value.ref 63 },
  { hash := PySem.PyData.keyHash P (PySem.Str.ofString "b1_set"), key := PySem.Value.str (PySem.Str.ofString "b1_set") 317, val := PySem.Value.ref 71 },
  { hash := PySem.PyData.keyHash P (PySem.Str.ofString "in_table_b1"), key := PySem.Value.str (PySem.Str.ofString "in_table_b1") 324, val := PySem.Value.ref 81 },
  { hash := PySem.PyData.keyHash P (PySem.Str.ofString "b3_exceptions"), key := PySem.Value.str (PySem.Str.ofString "b3_exceptions") 2275, val := PySem.Value.ref 82 },
  { hash := PySem.PyData.keyHash P (PySem.Str.ofString "map_table_b3"), key := PySem.Value.str (PySem.Str.ofString "map_table_b3") 2283, val := PySem.Value.ref 127 },
  { hash := PySem.PyData.keyHash P (PySem.Str.ofString "_law_gone"), key := PySem.Value.str (PySem.Str.ofString "_law_gone") 2293, val := PySem.Value.ref 134 },
  { hash := PySem.PyData.keyHash P (PySem.Str.ofString "_law_spelled"), key := PySem.Value.str (PySem.Str.ofString "_law_spelled") 2301, val := PySem.Value.ref 141 },
  { hash := PySem.PyData.keyHash P (PySem.Str.ofString "_law_choices"), key := PySem.Value.str (PySem.Str.ofString "_law_choices") 2307, val := PySem.Value.ref 146 },
  { hash := PySem.PyData.keyHash P (PySem.Str.ofString "_law_least"), key := PySem.Value.str (PySem.Str.ofString "_law_least") 2313, val := PySem.Value.ref 151 },
  { hash := PySem.PyData.keyHash P (PySem.Str.ofString "_law_merged"), key := PySem.Value.str (PySem.Str.ofString "_law_merged") 2319, val := PySem.Value.ref 156 },
  { hash := PySem.PyData.keyHash P (PySem.Str.ofString "law"), key := PySem.Value.str (PySem.Str.ofString "law") 2325, val := PySem.Value.ref 161 }]
noncomputable def nameE (P : Params) (v : Value) : DictEntry := { hash := PyData.keyHash P (Str.ofString "__name__"), key := .str (Str.ofString "__name__") 165, val := v }
noncomputable def mainO (P : Params) (k : Nat) (v : Value) : Obj := { cls := .type "dict", data := .dict (nameE P v :: (mainRest P).take (k - 1)).toArray k }
noncomputable def codeTab : List Value := [.int 2 0, .int 0 0, .ref 20, .int 4 0, .int 0 0, .ref 27, .int 6 0, .int 0 0, .ref 34, .int 8 0, .int 0 0, .ref 41, .int 13 0, .int 0 0, .ref 48, .int 15 0, .int 0 0, .ref 55, .int 23 0, .int 0 0, .ref 62, .int 53 0, .int 0 0, .ref 80, .int 56 0, .int 0 0, .ref 126, .int 62 0, .int 0 0, .ref 133, .int 65 0, .int 0 0, .ref 140, .int 67 0, .int 0 0, .ref 145, .int 73 0, .int 0 0, .ref 150, .int 83 0, .int 0 0, .ref 155, .int 91 0, .int 0 0, .ref 160]
noncomputable def o12 (k : Nat) : Obj := { cls := .none, data := .fields ((codeTab.take (3 * k)).toArray) }
noncomputable def nm (x : String) (t : Tok) : Value := .str (Str.ofString x) t
noncomputable def T0 (P : Params) : BT :=
  (.node (boot_o_0 P) (.node (boot_o_1 P) (.node (mainO P 9 (nm "__main__" 164)) (.node (boot_o_7 P) .nil .nil) (.node o11 .nil .nil)) (.node (boot_o_5 P) (.node (boot_o_9 P) .nil .nil) (.node o13 .nil .nil))) (.node (boot_o_2 P) (.node (boot_o_4 P) (.node (boot_o_8 P) .nil .nil) (.node (o12 0) .nil .nil)) (.node (boot_o_6 P) (.node (boot_o_10 P) .nil .nil) (.node o14 .nil .nil))))
noncomputable def T10 (P : Params) : BT :=
  (.node (boot_o_0 P) (.node (boot_o_1 P) (.node (mainO P 17 (nm "cpy313.stringprep" 256)) (.node (boot_o_7 P) (.node o15 (.node o31 (.node o63 .nil .nil) .nil) (.node o47 .nil .nil)) (.node o23 (.node o39 .nil .nil) (.node o55 .nil .nil))) (.node o11 (.node o19 (.node o35 .nil .nil) (.node o51 .nil .nil)) (.node o27 (.node o43 .nil .nil) (.node o59 .nil .nil)))) (.node (boot_o_5 P) (.node (boot_o_9 P) (.node o17 (.node o33 .nil .nil) (.node o49 .nil .nil)) (.node o25 (.node o41 .nil .nil) (.node o57 .nil .nil))) (.node o13 (.node o21 (.node o37 .nil .nil) (.node o53 .nil .nil)) (.node o29 (.node o45 .nil .nil) (.node o61 .nil .nil))))) (.node (boot_o_2 P) (.node (boot_o_4 P) (.node (boot_o_8 P) (.node o16 (.node o32 .nil .nil) (.node o48 .nil .nil)) (.node o24 (.node o40 .nil .nil) (.node o56 .nil .nil))) (.node (o12 7) (.node o20 (.node o36 .nil .nil) (.node o52 .nil .nil)) (.node o28 (.node o44 .nil .nil) (.node o60 .nil .nil)))) (.node (boot_o_6 P) (.node (boot_o_10 P) (.node o18 (.node o34 .nil .nil) (.node o50 .nil .nil)) (.node o26 (.node o42 .nil .nil) (.node o58 .nil .nil))) (.node o14 (.node o22 (.node o38 .nil .nil) (.node o54 .nil .nil)) (.node o30 (.node o46 .nil .nil) (.node o62 .nil .nil))))))
noncomputable def T11 (P : Params) (S : Obj) : BT :=
  (.node (boot_o_0 P) (.node (boot_o_1 P) (.node (mainO P 18 (nm "cpy313.stringprep" 256)) (.node (boot_o_7 P) (.node o15 (.node o31 (.node o63 .nil .nil) .nil) (.node o47 .nil .nil)) (.node o23 (.node o39 (.node S .nil .nil) .nil) (.node o55 .nil .nil))) (.node o11 (.node o19 (.node o35 (.node o67 .nil .nil) .nil) (.node o51 .nil .nil)) (.node o27 (.node o43 .nil .nil) (.node o59 .nil .nil)))) (.node (boot_o_5 P) (.node (boot_o_9 P) (.node o17 (.node o33 (.node o65 .nil .nil) .nil) (.node o49 .nil .nil)) (.node o25 (.node o41 (.node o73 .nil .nil) .nil) (.node o57 .nil .nil))) (.node o13 (.node o21 (.node o37 (.node o69 .nil .nil) .nil) (.node o53 .nil .nil)) (.node o29 (.node o45 .nil .nil) (.node o61 .nil .nil))))) (.node (boot_o_2 P) (.node (boot_o_4 P) (.node (boot_o_8 P) (.node o16 (.node o32 (.node o64 .nil .nil) .nil) (.node o48 .nil .nil)) (.node o24 (.node o40 (.node o72 .nil .nil) .nil) (.node o56 .nil .nil))) (.node (o12 7) (.node o20 (.node o36 (.node o68 .nil .nil) .nil) (.node o52 .nil .nil)) (.node o28 (.node o44 .nil .nil) (.node o60 .nil .nil)))) (.node (boot_o_6 P) (.node (boot_o_10 P) (.node o18 (.node o34 (.node o66 .nil .nil) .nil) (.node o50 .nil .nil)) (.node o26 (.node o42 (.node o74 .nil .nil) .nil) (.node o58 .nil .nil))) (.node o14 (.node o22 (.node o38 (.node o70 .nil .nil) .nil) (.node o54 .nil .nil)) (.node o30 (.node o46 .nil .nil) (.node o62 .nil .nil))))))
noncomputable def T12 (P : Params) (S : Obj) : BT :=
  (.node (boot_o_0 P) (.node (boot_o_1 P) (.node (mainO P 19 (nm "cpy313.stringprep" 256)) (.node (boot_o_7 P) (.node o15 (.node o31 (.node o63 .nil .nil) .nil) (.node o47 (.node o79 .nil .nil) .nil)) (.node o23 (.node o39 (.node S .nil .nil) .nil) (.node o55 .nil .nil))) (.node o11 (.node o19 (.node o35 (.node o67 .nil .nil) .nil) (.node o51 .nil .nil)) (.node o27 (.node o43 (.node o75 .nil .nil) .nil) (.node o59 .nil .nil)))) (.node (boot_o_5 P) (.node (boot_o_9 P) (.node o17 (.node o33 (.node o65 .nil .nil) .nil) (.node o49 (.node o81 .nil .nil) .nil)) (.node o25 (.node o41 (.node o73 .nil .nil) .nil) (.node o57 .nil .nil))) (.node o13 (.node o21 (.node o37 (.node o69 .nil .nil) .nil) (.node o53 .nil .nil)) (.node o29 (.node o45 (.node o77 .nil .nil) .nil) (.node o61 .nil .nil))))) (.node (boot_o_2 P) (.node (boot_o_4 P) (.node (boot_o_8 P) (.node o16 (.node o32 (.node o64 .nil .nil) .nil) (.node o48 (.node o80 .nil .nil) .nil)) (.node o24 (.node o40 (.node o72 .nil .nil) .nil) (.node o56 .nil .nil))) (.node (o12 8) (.node o20 (.node o36 (.node o68 .nil .nil) .nil) (.node o52 .nil .nil)) (.node o28 (.node o44 (.node o76 .nil .nil) .nil) (.node o60 .nil .nil)))) (.node (boot_o_6 P) (.node (boot_o_10 P) (.node o18 (.node o34 (.node o66 .nil .nil) .nil) (.node o50 .nil .nil)) (.node o26 (.node o42 (.node o74 .nil .nil) .nil) (.node o58 .nil .nil))) (.node o14 (.node o22 (.node o38 (.node o70 .nil .nil) .nil) (.node o54 .nil .nil)) (.node o30 (.node o46 (.node o78 .nil .nil) .nil) (.node o62 .nil .nil))))))
noncomputable def T13 (P : Params) (S : Obj) (D : Nat → Obj) : BT :=
  (.node (boot_o_0 P) (.node (boot_o_1 P) (.node (mainO P 20 (nm "cpy313.stringprep" 256)) (.node (boot_o_7 P) (.node o15 (.node o31 (.node o63 .nil .nil) (.node (D 13) .nil .nil)) (.node o47 (.node o79 .nil .nil) (.node (D 29) .nil .nil))) (.node o23 (.node o39 (.node S .nil .nil) (.node (D 21) .nil .nil)) (.node o55 (.node (D 5) .nil .nil) (.node (D 37) .nil .nil)))) (.node o11 (.node o19 (.node o35 (.node o67 .nil .nil) (.node (D 17) .nil .nil)) (.node o51 (.node (D 1) .nil .nil) (.node (D 33) .nil .nil))) (.node o27 (.node o43 (.node o75 .nil .nil) (.node (D 25) .nil .nil)) (.node o59 (.node (D 9) .nil .nil) .nil)))) (.node (boot_o_5 P) (.node (boot_o_9 P) (.node o17 (.node o33 (.node o65 .nil .nil) (.node (D 15) .nil .nil)) (.node o49 (.node o81 .nil .nil) (.node (D 31) .nil .nil))) (.node o25 (.node o41 (.node o73 .nil .nil) (.node (D 23) .nil .nil)) (.node o57 (.node (D 7) .nil .nil) .nil))) (.node o13 (.node o21 (.node o37 (.node o69 .nil .nil) (.node (D 19) .nil .nil)) (.node o53 (.node (D 3) .nil .nil) (.node (D 35) .nil .nil))) (.node o29 (.node o45 (.node o77 .nil .nil) (.node (D 27) .nil .nil)) (.node o61 (.node (D 11) .nil .nil) .nil))))) (.node (boot_o_2 P) (.node (boot_o_4 P) (.node (boot_o_8 P) (.node o16 (.node o32 (.node o64 .nil .nil) (.node (D 14) .nil .nil)) (.node o48 (.node o80 .nil .nil) (.node (D 30) .nil .nil))) (.node o24 (.node o40 (.node o72 .nil .nil) (.node (D 22) .nil .nil)) (.node o56 (.node (D 6) .nil .nil) (.node (D 38) .nil .nil)))) (.node (o12 8) (.node o20 (.node o36 (.node o68 .nil .nil) (.node (D 18) .nil .nil)) (.node o52 (.node (D 2) .nil .nil) (.node (D 34) .nil .nil))) (.node o28 (.node o44 (.node o76 .nil .nil) (.node (D 26) .nil .nil)) (.node o60 (.node (D 10) .nil .nil) .nil)))) (.node (boot_o_6 P) (.node (boot_o_10 P) (.node o18 (.node o34 (.node o66 .nil .nil) (.node (D 16) .nil .nil)) (.node o50 (.node (D 0) .nil .nil) (.node (D 32) .nil .nil))) (.node o26 (.node o42 (.node o74 .nil .nil) (.node (D 24) .nil .nil)) (.node o58 (.node (D 8) .nil .nil) .nil))) (.node o14 (.node o22 (.node o38 (.node o70 .nil .nil) (.node (D 20) .nil .nil)) (.node o54 (.node (D 4) .nil .nil) (.node (D 36) .nil .nil))) (.node o30 (.node o46 (.node o78 .nil .nil) (.node (D 28) .nil .nil)) (.node o62 (.node (D 12) .nil .nil) .nil))))))
noncomputable def T21 (P : Params) (S : Obj) (D : Nat → Obj) : BT :=
  (.node (boot_o_0 P) (.node (boot_o_1 P) (.node (mainO P 27 (nm "law_tc0035_01" 2284)) (.node (boot_o_7 P) (.node o15 (.node o31 (.node o63 (.node o127 .nil .nil) .nil) (.node (D 13) (.node o159 .nil .nil) .nil)) (.node o47 (.node o79 (.node o143 .nil .nil) .nil) (.node (D 29) .nil .nil))) (.node o23 (.node o39 (.node S (.node o135 .nil .nil) .nil) (.node (D 21) .nil .nil)) (.node o55 (.node (D 5) (.node o151 .nil .nil) .nil) (.node (D 37) .nil .nil)))) (.node o11 (.node o19 (.node o35 (.node o67 (.node o131 .nil .nil) .nil) (.node (D 17) .nil .nil)) (.node o51 (.node (D 1) (.node o147 .nil .nil) .nil) (.node (D 33) .nil .nil))) (.node o27 (.node o43 (.node o75 (.node o139 .nil .nil) .nil) (.node (D 25) .nil .nil)) (.node o59 (.node (D 9) (.node o155 .nil .nil) .nil) (.node o123 .nil .nil))))) (.node (boot_o_5 P) (.node (boot_o_9 P) (.node o17 (.node o33 (.node o65 (.node o129 .nil .nil) .nil) (.node (D 15) (.node o161 .nil .nil) .nil)) (.node o49 (.node o81 (.node o145 .nil .nil) .nil) (.node (D 31) .nil .nil))) (.node o25 (.node o41 (.node o73 (.node o137 .nil .nil) .nil) (.node (D 23) .nil .nil)) (.node o57 (.node (D 7) (.node o153 .nil .nil) .nil) (.node o121 .nil .nil)))) (.node o13 (.node o21 (.node o37 (.node o69 (.node o133 .nil .nil) .nil) (.node (D 19) .nil .nil)) (.node o53 (.node (D 3) (.node o149 .nil .nil) .nil) (.node (D 35) .nil .nil))) (.node o29 (.node o45 (.node o77 (.node o141 .nil .nil) .nil) (.node (D 27) .nil .nil)) (.node o61 (.node (D 11) (.node o157 .nil .nil) .nil) (.node o125 .nil .nil)))))) (.node (boot_o_2 P) (.node (boot_o_4 P) (.node (boot_o_8 P) (.node o16 (.node o32 (.node o64 (.node o128 .nil .nil) .nil) (.node (D 14) (.node o160 .nil .nil) .nil)) (.node o48 (.node o80 (.node o144 .nil .nil) .nil) (.node (D 30) .nil .nil))) (.node o24 (.node o40 (.node o72 (.node o136 .nil .nil) .nil) (.node (D 22) .nil .nil)) (.node o56 (.node (D 6) (.node o152 .nil .nil) .nil) (.node (D 38) .nil .nil)))) (.node (o12 15) (.node o20 (.node o36 (.node o68 (.node o132 .nil .nil) .nil) (.node (D 18) .nil .nil)) (.node o52 (.node (D 2) (.node o148 .nil .nil) .nil) (.node (D 34) .nil .nil))) (.node o28 (.node o44 (.node o76 (.node o140 .nil .nil) .nil) (.node (D 26) .nil .nil)) (.node o60 (.node (D 10) (.node o156 .nil .nil) .nil) (.node o124 .nil .nil))))) (.node (boot_o_6 P) (.node (boot_o_10 P) (.node o18 (.node o34 (.node o66 (.node o130 .nil .nil) .nil) (.node (D 16) .nil .nil)) (.node o50 (.node (D 0) (.node o146 .nil .nil) .nil) (.node (D 32) .nil .nil))) (.node o26 (.node o42 (.node o74 (.node o138 .nil .nil) .nil) (.node (D 24) .nil .nil)) (.node o58 (.node (D 8) (.node o154 .nil .nil) .nil) (.node o122 .nil .nil)))) (.node o14 (.node o22 (.node o38 (.node o70 (.node o134 .nil .nil) .nil) (.node (D 20) .nil .nil)) (.node o54 (.node (D 4) (.node o150 .nil .nil) .nil) (.node (D 36) .nil .nil))) (.node o30 (.node o46 (.node o78 (.node o142 .nil .nil) .nil) (.node (D 28) .nil .nil)) (.node o62 (.node (D 12) (.node o158 .nil .nil) .nil) (.node o126 .nil .nil)))))))
noncomputable def setO (led : Bool) : Obj := { cls := .type "set", data := (Data.set #[(65024, .int 65024 274), (65025, .int 65025 275), (65026, .int 65026 276), (65027, .int 65027 277), (65028, .int 65028 278), (65029, .int 65029 279), (6150, .int 6150 260), (65030, .int 65030 280), (65031, .int 65031 281), (65032, .int 65032 282),
  (65033, .int 65033 283), (6155, .int 6155 261), (6156, .int 6156 262), (6157, .int 6157 263), (8203, .int 8203 264), (8204, .int 8204 265), (8205, .int 8205 266), (65034, .int 65034 284), (65035, .int 65035 285), (65036, .int 65036 286), (65037, .int 65037 287), (65038, .int 65038 288), (65039, .int 65039 289),
  (173, .int 173 258), (847, .int 847 259), (8288, .int 8288 267), (65279, .int 65279 268)] 29 { mask := 127, place := #[0, 1, 2, 3, 4, 5, 6, 7, 8, 9, 10, 11, 12, 13, 14, 15, 16, 17, 18, 19, 20, 21, 22, 45, 79, 96, 127], dummies := #[], finger := 0, led := led, moves := 2, plain := true }) }
noncomputable def env0 : Env := { scope := pw.main.scope, locals := mainNs, globals := mainNs, cells := [], code := .ref 13, frame := some 14 }
noncomputable def cE : Code := .body (behindTheImports pw) env0
noncomputable def B0 : List Frame := [topFrame ⟨0, 0, 0, 0⟩]
noncomputable def sts (a n : Nat) : List Stmt := (pw.main.body.drop a).take n
noncomputable def stT (T : BT) (n : Nat) (tk : Nat) (os : OsState) : SharedT := ⟨T, n, {}, ⟨[]⟩, {}, tk, os⟩
end Mine
end
section
open PySem PySem.W PySem.Calls PyProof.Rows
set_option maxRecDepth 100000
set_option maxHeartbeats 8000000
namespace Mine
theorem run0 (w : World) (os : OsState) : segRunT treeTable pw w 11 (some (.ref 6)) 1 254 (stT (T0 w.params) 15 187 os) (piecesOf (sts 0 11) env0 cE ⟨0, 0, 0, 0⟩ B0) = some (.next, stT (T10 w.params) 64 258 os, cE, ⟨51, 0, 51, 8⟩) := by kernel_rfl
theorem run12 (S : Obj) (w : World) (os : OsState) : segRunT treeTable pw w 11 (some (.ref 6)) 1 30 (stT (T11 w.params S) 75 318 os) (piecesOf (sts 12 1) env0 cE ⟨52, 0, 52, 6⟩ B0) = some (.next, stT (T12 w.params S) 82 325 os, cE, ⟨53, 0, 54, 30⟩) := by kernel_rfl
theorem run14 (S : Obj) (D : Nat → Obj) (w : World) (os : OsState) : segRunT treeTable pw w 11 (some (.ref 6)) 1 204 (stT (T13 w.params S D) 121 2276 os) (piecesOf (sts 14 8) env0 cE ⟨55, 0, 55, 13⟩ B0) = some (.next, stT (T21 w.params S D) 162 2326 os, cE, ⟨91, 0, 104, 111⟩) := by kernel_rfl
end Mine
end
section
open PySem PySem.W PySem.Calls PyProof.Rows
set_option maxRecDepth 100000
set_option maxHeartbeats 8000000
namespace Mine
noncomputable abbrev quickRun := @PySem.W.Fast.tw10110043849684766642
theorem quickRun_eq : @segRunT = quickRun := PySem.W.Fast.te10110043849684766642
noncomputable abbrev quickTab := PySem.W.Fast.tw14364793385576792824
theorem quickTab_eq : treeTable = quickTab := PySem.W.Fast.te14364793385576792824
noncomputable abbrev quickExecs := @PySem.W.Fast.tw12563942051412417395
theorem quickExecs_eq : @execs = quickExecs := PySem.W.Fast.te12563942051412417395
theorem run11q (b : Bool) (w : World) (os : OsState) : quickRun quickTab pw (w.withFollow "special-get-raises" b) 11 (some (.ref 6)) 1 999 (stT (T10 (w.withFollow "special-get-raises" b).params) 64 258 os) ⟨(quickExecs (sts 11 1) env0).wrap doneF deadEnd id id, cE, ⟨51, 0, 51, 8⟩, B0⟩ = some (.next, stT (T11 (w.withFollow "special-get-raises" b).params (setO (!(w.withFollow "special-get-raises" b).params.followText "set-order"))) 75 318 os, cE, ⟨52, 0, 52, 6⟩) := by
  cases b <;> kernel_rfl
theorem run11 (w : World) : ∀ os : OsState, segRunT treeTable pw w 11 (some (.ref 6)) 1 999 (stT (T10 w.params) 64 258 os) (piecesOf (sts 11 1) env0 cE ⟨51, 0, 51, 8⟩ B0) = some (.next, stT (T11 w.params (setO (!w.params.followText "set-order"))) 75 318 os, cE, ⟨52, 0, 52, 6⟩) := by
  rw [quickRun_eq, quickTab_eq]
  unfold piecesOf
  rw [quickExecs_eq]
  exact byRow2 "special-get-raises" (P := fun w => ∀ os : OsState, quickRun quickTab pw w 11 (some (.ref 6)) 1 999 (stT (T10 w.params) 64 258 os) ⟨(quickExecs (sts 11 1) env0).wrap doneF deadEnd id id, cE, ⟨51, 0, 51, 8⟩, B0⟩ = some (.next, stT (T11 w.params (setO (!w.params.followText "set-order"))) 75 318 os, cE, ⟨52, 0, 52, 6⟩)) (run11q false) (run11q true) w
end Mine
end
section
open PySem PySem.W PySem.Calls PyProof.Rows
set_option maxRecDepth 100000
set_option maxHeartbeats 8000000
namespace Mine
/-- from one thread to another in n steps, ahead of any end -/
noncomputable def Reach (w : World) (n : Nat) (s : Shared) (t : Thread) (s' : Shared) (t' : Thread) : Prop :=
  ∀ N r, topRun treeTable pw w 11 (some (.ref 6)) N s' t' = some r → topRun treeTable pw w 11 (some (.ref 6)) (N + n) s t = some r
theorem Reach.refl {w : World} {s : Shared} {t : Thread} : Reach w 0 s t s t := fun _ _ h => h
theorem Reach.trans {w : World} {n m : Nat} {s s1 s2 : Shared} {t t1 t2 : Thread} (h1 : Reach w n s t s1 t1) (h2 : Reach w m s1 t1 s2 t2) : Reach w (m + n) s t s2 t2 :=
  fun N r h => by rw [← Nat.add_assoc]; exact h1 _ _ (h2 _ _ h)
theorem Reach.one {w : World} {s s' : Shared} {t t' : Thread} (ht : through t = false) (hk : stepOk 11 (some (.ref 6)) t = true) (hs : step (denote treeTable) pw w s t = .go s' t') : Reach w 1 s t s' t' := fun N r h => by
  show topRun treeTable pw w 11 (some (.ref 6)) (N + 1) s t = some r
  unfold topRun
  rw [ht, hk, hs]
  exact h
theorem through_cons {c : Sem Fin} {code : Code} {p : Pos} {f : Frame} {B : List Frame} : through ⟨c, code, p, f :: B⟩ = false := rfl

/-- a tree of the body's own, from a state to a state, its value a -/
noncomputable def Go {α : Type} (w : World) (n : Nat) (x : Sem α) (s : Shared) (p : Pos) (a : α) (s' : Shared) (p' : Pos) : Prop :=
  ∀ (K : α → Sem Fin) (H : Value → Sem Fin) (gd : Bool → Bool) (lv : List Value → List Value) (f : Frame) (B : List Frame), Reach w n s ⟨x.wrap K H gd lv, cE, p, f :: B⟩ s' ⟨K a, cE, p', f :: B⟩
section
variable {α β : Type} {w : World} {n k : Nat} {s s1 s2 : Shared} {p p1 p2 : Pos}
theorem Go.pure {a : α} : Go w 0 (pure a : Sem α) s p a s p := fun _ _ _ _ _ _ => Reach.refl
theorem Go.bind {m : Sem α} {g : α → Sem β} {a : α} {b : β} (h1 : Go w n m s p a s1 p1) (h2 : Go w k (g a) s1 p1 b s2 p2) : Go w (k + n) (m >>= g) s p b s2 p2 := fun K H gd lv f B => by
  rw [Sem.bind_eq_wrap', Sem.wrap_wrap]
  exact (h1 _ _ _ _ f B).trans (h2 K H gd lv f B)
theorem Go.keep {vs : List Value} {m : Sem α} {a : α} (h : Go w n m s p a s1 p1) : Go w n (m.keep vs) s p a s1 p1 := fun K H gd lv f B => by
  rw [Sem.keep_eq_wrap, Sem.wrap_wrap]
  exact h _ _ _ _ f B
theorem Go.holding {vs : List Value} {m : Sem α} {a : α} (h : Go w n m s p a s1 p1) : Go w n (holding vs m) s p a s1 p1 := by
  unfold PySem.holding
  split
  · exact h
  · exact h.keep
theorem Go.onRaise {m : Sem α} {g : Value → Sem Unit} {a : α} (h : Go w n m s p a s1 p1) : Go w n (m.onRaise g) s p a s1 p1 := fun K H gd lv f B => by
  rw [Sem.onRaise_eq_wrap, Sem.wrap_wrap]
  exact h _ _ _ _ f B
theorem Go.rule {t : String} : Go w 1 (PySem.rule t) s p () s p := fun K H gd lv f B => Reach.one rfl rfl (by obtain ⟨a, b, c, d, e⟩ := s; rfl)
theorem Go.point : Go w 1 PySem.point s p () s p := fun K H gd lv f B => Reach.one rfl rfl (by obtain ⟨a, b, c, d, e⟩ := s; rfl)
theorem Go.at {q : Pos} : Go w 1 (standAt q) s p () s q := fun K H gd lv f B => Reach.one rfl rfl (by obtain ⟨a, b, c, d, e⟩ := s; rfl)
theorem Go.fresh : Go w 1 PySem.fresh s p s.toks { s with toks := s.toks + 1 } p := fun K H gd lv f B => Reach.one rfl rfl (by obtain ⟨a, b, c, d, e⟩ := s; rfl)
theorem Go.ask : Go w 1 PySem.ask s p ⟨pw, w.params⟩ s p := fun K H gd lv f B => Reach.one rfl rfl (by obtain ⟨a, b, c, d, e⟩ := s; rfl)
theorem Go.alloc {o : Obj} : Go w 1 (PySem.alloc o) s p s.heap.objs.size { s with heap := s.heap.push o } p := fun K H gd lv f B => Reach.one rfl rfl (by obtain ⟨a, b, c, d, e⟩ := s; rfl)
theorem Go.load {a : Addr} {part : Option Value} {o : Obj} (ho : s.heap.get? a = some o) : Go w 1 (loadPart a part) s p o s p := fun K H gd lv f B => Reach.one rfl rfl (by
  obtain ⟨a, b, c, d, e⟩ := s
  show step _ _ _ _ ⟨.load _ _ _, _, _, _⟩ = _
  simp only [step]
  rw [show Heap.get? _ _ = some o from ho]
  rfl)
theorem Go.update {a : Addr} {part : Option Value} {g : Obj → Obj} {o : Obj} (ho : s.heap.get? a = some o) (ha : (Nat.ble 11 a || a == mainNs) = true) : Go w 1 (updatePart a part g) s p () { s with heap := s.heap.update a g } p := fun K H gd lv f B => Reach.one rfl (by
    show (_ && ((Nat.ble 11 a || a == mainNs) || a == cStatics || _)) = true
    rw [ha]; rfl) (by
  obtain ⟨a, b, c, d, e⟩ := s
  show step _ _ _ _ ⟨.update _ _ _ _, _, _, _⟩ = _
  simp only [step]
  rw [show Heap.get? _ _ = some o from ho]
  rfl)
theorem Go.cast {m : Nat} {x : Sem α} {a : α} (h : Go w n x s p a s1 p1) (e : n = m) : Go w m x s p a s1 p1 := e ▸ h
end
theorem hash_run (b : Bool) (w : World) (heap : Heap) (gens : Array GenState) (drawn : Drawn) (toks : Nat) (os : OsState) (k : Int) (t : Tok) (K : Int → Sem Fin) (H : Value → Sem Fin) (gd : Bool → Bool) (lv : List Value → List Value) (f : Frame) (B : List Frame) (p : Pos) (N : Nat) :
    topRun treeTable pw (w.withFollow "special-get-raises" b) 11 (some (.ref 6)) (N + 5) ⟨heap, gens, drawn, toks, os⟩ ⟨(pyHash (.int k t)).wrap K H gd lv, cE, p, f :: B⟩ =
    topRun treeTable pw (w.withFollow "special-get-raises" b) 11 (some (.ref 6)) N ⟨heap, gens, drawn, toks + 1, os⟩ ⟨(pyHashByItsType.reduced (rawHash k)).wrap K H gd lv, cE, p, f :: B⟩ := by
  cases b <;> kernel_rfl
end Mine
end
section
open PySem PySem.W PySem.Calls PyProof.Rows
set_option maxRecDepth 100000
set_option maxHeartbeats 8000000
namespace Mine
noncomputable def dO (l : List DictEntry) : Obj := { cls := .type "dict", data := .dict l.toArray l.length }
theorem dO_push (l : List DictEntry) (e : DictEntry) : Obj.mapDictKeys (·.push e) (dO l) = dO (l ++ [e]) := by
  show ({ cls := .type "dict", data := .dict (l.toArray.push e) (l.length + 1) } : Obj) = { cls := .type "dict", data := .dict (l ++ [e]).toArray (l ++ [e]).length }
  rw [List.push_toArray, List.length_append, List.length_singleton]
noncomputable def apH (h : Heap) (l : List Obj) : Heap := ⟨(h.objs.toList ++ l).toArray, h.life⟩
theorem apH_nil (h : Heap) : apH h [] = h := by
  obtain ⟨a, b⟩ := h
  simp [apH]
theorem apH_push (h : Heap) (l : List Obj) (o : Obj) : (apH h l).push o = apH h (l ++ [o]) := by
  simp [apH, Heap.push, List.append_assoc]
theorem apH_size (h : Heap) (l : List Obj) : (apH h l).objs.size = h.objs.size + l.length := by simp [apH]
theorem apH_get {h : Heap} {l : List Obj} {i : Nat} {o : Obj} (e : l[i]? = some o) (hf : o.isFreed = false) : (apH h l).get? (h.objs.size + i) = some o := by
  refine Heap.get?_some_iff.mpr ⟨?_, hf⟩
  have hi : i < l.length := by
    rcases Nat.lt_or_ge i l.length with h | h
    · exact h
    · rw [List.getElem?_eq_none h] at e; cases e
  simp only [apH, List.getElem?_toArray]
  rw [List.getElem?_append_right (by simp)]
  simpa using e
theorem apH_old {h : Heap} {l : List Obj} {a : Addr} {o : Obj} (e : h.get? a = some o) : (apH h l).get? a = some o := by
  obtain ⟨e1, e2⟩ := Heap.get?_some_iff.mp e
  refine Heap.get?_some_iff.mpr ⟨?_, e2⟩
  simp only [apH, List.getElem?_toArray]
  rw [List.getElem?_append_left (by have := Heap.lt_size e; simpa using this)]
  simpa using e1
theorem apH_update (h : Heap) (l : List Obj) (i : Nat) (f : Obj → Obj) : (apH h l).update (h.objs.size + i) f = apH h (l.modify i f) := by
  show Heap.mk _ _ = Heap.mk _ _
  congr 1
  apply Array.ext_getElem?
  intro j
  simp only [apH, Array.getElem?_modify, List.getElem?_toArray]
  rcases Nat.lt_or_ge j h.objs.size with hj | hj
  · rw [if_neg (by show ¬ h.objs.size + i = j; omega), List.getElem?_append_left (by simpa using hj), List.getElem?_append_left (by simpa using hj)]
  · rw [List.getElem?_append_right (by simpa using hj), List.getElem?_append_right (by simpa using hj), List.getElem?_modify]
    simp only [Array.length_toList]
    by_cases e : h.objs.size + i = j
    · subst e; simp
    · have e' : i ≠ j - h.objs.size := by omega
      rw [if_neg e]
      simp only [if_neg e']
      cases l[j - h.objs.size]? <;> rfl
noncomputable def sh (h : Heap) (l : List Obj) (tk : Nat) (os : OsState) : Shared := ⟨apH h l, ⟨[]⟩, {}, tk, os⟩

theorem reduced_small {k : Int} (h0 : 0 ≤ k) (h1 : k < 2 ^ 61 - 1) : pyHashByItsType.reduced (rawHash k) = (pure k : Sem Int) := by
  have e : rawHash k = k := by
    unfold rawHash
    have h2 : ¬ k < 0 := by omega
    have h3 : ((k.natAbs % (2 ^ 61 - 1) : Nat) : Int) = k := by omega
    simp only [h2, if_false]
    show (if (((k.natAbs % (2 ^ 61 - 1) : Nat) : Int) == -1) = true then (-2 : Int) else ((k.natAbs % (2 ^ 61 - 1) : Nat) : Int)) = k
    rw [h3, if_neg]
    simp only [beq_iff_eq]; omega
  rw [e]
  unfold pyHashByItsType.reduced
  have h4 : (decide (-(2 ^ 63 : Int) ≤ k) && decide (k < 2 ^ 63)) = true := by simp; omega
  have h5 : (k == -1) = false := by simp; omega
  simp only [h4, h5, if_true]
  rfl
section
variable {w : World} {s : Shared} {p : Pos}
theorem Go.hash {k : Int} {t : Tok} (h0 : 0 ≤ k) (h1 : k < 2 ^ 61 - 1) : Go w 5 (pyHash (.int k t)) s p k { s with toks := s.toks + 1 } p := fun K H gd lv f B N r h => by
  obtain ⟨heap, gens, drawn, toks, os⟩ := s
  have e := World.withFollow_self w "special-get-raises"
  rw [← e]
  rw [← e] at h
  have z : Sem.wrap K H gd lv (Pure.pure k : Sem Int) = K k := rfl
  rw [hash_run, reduced_small h0 h1, z]
  exact h
theorem Go.entries {d : Addr} {part : Option Value} {es : List DictEntry} (ho : s.heap.get? d = some (dO es)) : Go w 1 (dictEntries d part) s p es.toArray s p :=
  by
  unfold dictEntries
  refine (Go.bind (n := 1) (k := 0) (Go.load ho) ?_).cast rfl
  exact Go.pure
theorem places_none {es : List DictEntry} {h : Int} (hno : ∀ e ∈ es, e.hash ≠ h) : placesWithHash es.toArray.size (fun i => (es.toArray[i]?).map (·.hash)) h = [] := by
  unfold placesWithHash
  rw [List.filter_eq_nil_iff]
  intro i hi
  have hi' : i < es.length := by simpa using hi
  simp only [List.getElem?_toArray, List.getElem?_eq_getElem hi', Option.map_some, beq_iff_eq, Option.some.injEq]
  exact hno _ (List.getElem_mem hi')
theorem Go.findNone {d : Addr} {k : Int} {t : Tok} {h : Int} {es : List DictEntry} (ho : s.heap.get? d = some (dO es)) (hno : ∀ e ∈ es, e.hash ≠ h) : Go w 1 (dictFind d (.int k t) h) s p none s p := by
  unfold dictFind
  refine Go.holding ((Go.bind (Go.entries ho) ?_).cast rfl)
  dsimp only
  rw [places_none hno]
  exact Go.pure
theorem Go.updKeys {d : Addr} {part : Option Value} {es : List DictEntry} {e : DictEntry} (ho : s.heap.get? d = some (dO es)) (hd : 11 ≤ d) (hsz : es.length ≤ 1000) :
    Go w 3 (updateDictKeys d (·.push e) part) s p () { s with heap := s.heap.update d (Obj.mapDictKeys (·.push e)) } p := by
  unfold updateDictKeys
  refine (Go.bind (n := 1) (k := 2) (Go.load ho) ?_).cast rfl
  dsimp only [dO]
  refine (Go.bind (n := 1) (k := 1) (Go.update ho (by rw [show Nat.ble 11 d = true from Nat.ble_eq_true_of_le hd]; rfl)) ?_).cast rfl
  unfold lookBehind
  have hu : ({ s with heap := s.heap.update d (Obj.mapDictKeys (·.push e)) } : Shared).heap.get? d = some (dO (es ++ [e])) := by
    rw [← dO_push]
    exact Heap.get?_update_self _ ho (by rw [dO_push]; rfl)
  refine (Go.bind (n := 1) (k := 0) (Go.load hu) ?_).cast rfl
  have : (dO (es ++ [e])).data.pastItsLine = none := by
    show (if (es ++ [e]).toArray.size > sizeLine + 1 then _ else _) = none
    rw [if_neg]
    have := sizeLine_eq
    rw [List.size_toArray, List.length_append, List.length_singleton]
    omega
  rw [this]
  exact Go.pure
theorem Go.setHashed {d : Addr} {k : Int} {t : Tok} {h : Int} {v : Value} {es : List DictEntry} (ho : s.heap.get? d = some (dO es)) (hno : ∀ e ∈ es, e.hash ≠ h) (hd : 11 ≤ d) (hsz : es.length ≤ 1000) :
    Go w 5 (dictSetHashed d (.int k t) h v) s p () { s with heap := s.heap.update d (Obj.mapDictKeys (·.push ⟨h, .int k t, v⟩)) } p := by
  unfold dictSetHashed
  refine Go.holding ((Go.bind (n := 1) (k := 4) (Go.findNone ho hno) ?_).cast rfl)
  exact (Go.bind (n := 1) (k := 3) Go.rule (Go.updKeys ho hd hsz)).cast rfl
theorem Go.setNew {d : Addr} {k : Int} {t : Tok} {v : Value} {es : List DictEntry} (ho : s.heap.get? d = some (dO es)) (hno : ∀ e ∈ es, e.hash ≠ k) (hd : 11 ≤ d) (hsz : es.length ≤ 1000) (h0 : 0 ≤ k) (h1 : k < 2 ^ 61 - 1) :
    Go w 10 (dictSet d (.int k t) v) s p () { s with heap := s.heap.update d (Obj.mapDictKeys (·.push ⟨k, .int k t, v⟩)), toks := s.toks + 1 } p := by
  unfold dictSet
  refine Go.holding ?_
  refine (Go.bind (n := 5) (k := 5) (s1 := { s with toks := s.toks + 1 }) (p1 := p) (a := k) ?_ ?_).cast rfl
  · exact Go.hash h0 h1
  · have ho' : ({ s with toks := s.toks + 1 } : Shared).heap.get? d = some (dO es) := ho
    exact Go.setHashed ho' hno hd hsz
theorem Go.put {d : Addr} {k : Int} {t : Tok} {h : Int} {v : Value} {es : List DictEntry} (ho : s.heap.get? d = some (dO es)) (hno : ∀ e ∈ es, e.hash ≠ h) (hd : 11 ≤ d) (hsz : es.length ≤ 1000) :
    Go w 4 (dictPut d h (.int k t) v) s p () { s with heap := s.heap.update d (Obj.mapDictKeys (·.push ⟨h, .int k t, v⟩)) } p := by
  unfold dictPut
  exact (Go.bind (n := 1) (k := 3) (Go.findNone ho hno) (Go.updKeys ho hd hsz)).cast rfl
end
end Mine
end
section
open PySem PySem.W PySem.Calls PyProof.Rows
set_option maxRecDepth 100000
set_option maxHeartbeats 8000000
namespace Mine
abbrev itemOf (pd : Pos) (q : Int × Str) : Sem Value × Sem Value := (mkInt q.1, do let x ← mkText q.2; standAt pd; pure x)
noncomputable def longBody (d : Addr) : Sem Value × Sem Value → PUnit → Sem (ForInStep PUnit) := fun x _ => do
  let kv ← x.1
  let vv ← holding [kv] x.2
  holding [kv, vv] (dictSet d kv vv)
  pure (ForInStep.yield PUnit.unit)
theorem Go.map {α β : Type} {w : World} {n : Nat} {s s1 : Shared} {p p1 : Pos} {m : Sem α} {g : α → β} {a : α} (h : Go w n m s p a s1 p1) : Go w n (m >>= fun x => Pure.pure (g x)) s p (g a) s1 p1 := by
  refine Go.cast (Go.bind (k := 0) h ?_) (Nat.zero_add _)
  exact Go.pure
theorem subDict_long {pairs : List (Sem Value × Sem Value)} (hl : ¬ pairs.length ≤ 15) : subDict pairs = (do
    let d ← alloc { cls := .type "dict", data := .dict #[] }
    holding [.ref d] (do rule "dict.display.long"; forIn pairs PUnit.unit (longBody d); pure ())
    pure d) := by
  unfold subDict
  simp only [if_neg hl]
  rfl
noncomputable def entsL : Nat → List (Int × Str) → List DictEntry
  | _, [] => []
  | t, q :: r => ⟨q.1, .int q.1 t, .str q.2 (t + 1)⟩ :: entsL (t + 3) r
theorem entsL_hash : ∀ (t : Nat) (ps : List (Int × Str)), ∀ e ∈ entsL t ps, ∃ q ∈ ps, e.hash = q.1
  | _, [], _, h => nomatch h
  | t, q :: r, e, h => by
    rcases List.mem_cons.mp h with rfl | h
    · exact ⟨q, .head _, rfl⟩
    · obtain ⟨q', a, b⟩ := entsL_hash (t + 3) r e h
      exact ⟨q', .tail _ a, b⟩
theorem entsL_length : ∀ (t : Nat) (ps : List (Int × Str)), (entsL t ps).length = ps.length
  | _, [] => rfl
  | t, q :: r => congrArg (· + 1) (entsL_length (t + 3) r)
/-- keys fit to be met once -/
noncomputable def KeysOk : List (Int × Str) → Prop
  | [] => True
  | q :: r => (0 ≤ q.1 ∧ q.1 < 2 ^ 61 - 1) ∧ (∀ q' ∈ r, q.1 ≠ q'.1) ∧ KeysOk r
section
variable {w : World} {h : Heap} {os : OsState} {pd : Pos}
theorem sh_dict {l : List Obj} {es : List DictEntry} {tk : Nat} {r : List Obj} : (sh h (l ++ dO es :: r) tk os).heap.get? (h.objs.size + l.length) = some (dO es) :=
  apH_get (by rw [List.getElem?_append_right (Nat.le_refl _), Nat.sub_self]; rfl) rfl
theorem modify_mid {l r : List Obj} {o : Obj} {f : Obj → Obj} : (l ++ o :: r).modify l.length f = l ++ f o :: r := by
  induction l with
  | nil => rfl
  | cons a l ih => simp only [List.cons_append, List.length_cons, List.modify_succ_cons, ih]
theorem sh_push {l r : List Obj} {es : List DictEntry} {e : DictEntry} {tk tk' : Nat} :
    ({ sh h (l ++ dO es :: r) tk os with heap := (sh h (l ++ dO es :: r) tk os).heap.update (h.objs.size + l.length) (Obj.mapDictKeys (·.push e)), toks := tk' } : Shared) = sh h (l ++ dO (es ++ [e]) :: r) tk' os := by
  show Shared.mk (Heap.update (apH h _) _ _) _ _ _ _ = Shared.mk (apH h _) _ _ _ _
  rw [apH_update, modify_mid, dO_push]
  rfl
theorem long_loop (hd : 11 ≤ h.objs.size) (l : List Obj) : ∀ (ps : List (Int × Str)) (es : List DictEntry) (tk : Nat), KeysOk ps → (∀ e ∈ es, ∀ q ∈ ps, e.hash ≠ q.1) → es.length + ps.length ≤ 1000 →
    Go w (13 * ps.length) (forIn (ps.map (itemOf pd)) PUnit.unit (longBody (h.objs.size + l.length))) (sh h (l ++ [dO es]) tk os) pd PUnit.unit (sh h (l ++ [dO (es ++ entsL tk ps)]) (tk + 3 * ps.length) os) pd
  | [], es, tk, _, _, _ => by
    simp only [List.map_nil, List.forIn_nil, entsL, List.append_nil]
    exact Go.pure
  | q :: r, es, tk, ⟨hq, hne, hr⟩, hno, hsz => by
    rw [List.map_cons, List.forIn_cons]
    have ih := long_loop hd l r (es ++ [⟨q.1, .int q.1 tk, .str q.2 (tk + 1)⟩]) (tk + 3) hr (fun e he q' hq' => by
      rcases List.mem_append.mp he with he | he
      · exact hno e he q' (.tail _ hq')
      · rw [List.mem_singleton.mp he]; exact hne q' hq') (by simp only [List.length_append, List.length_cons, List.length_nil] at hsz ⊢; omega)
    have e1 : tk + 3 * (q :: r).length = tk + 3 + 3 * r.length := by rw [List.length_cons]; omega
    have e2 : es ++ entsL tk (q :: r) = es ++ [⟨q.1, .int q.1 tk, .str q.2 (tk + 1)⟩] ++ entsL (tk + 3) r := by rw [List.append_assoc]; rfl
    rw [e1, e2]
    refine (Go.bind (n := 13) (k := 13 * r.length) (a := .yield PUnit.unit) (s1 := sh h (l ++ [dO (es ++ [⟨q.1, .int q.1 tk, .str q.2 (tk + 1)⟩])]) (tk + 3) os) (p1 := pd) ?_ ih).cast (by rw [List.length_cons]; omega)
    unfold longBody
    refine (Go.bind (n := 1) (k := 12) (a := .int q.1 tk) (s1 := sh h (l ++ [dO es]) (tk + 1) os) (p1 := pd) ?_ ?_).cast rfl
    · exact Go.map (g := fun t => Value.int q.1 t) Go.fresh
    refine (Go.bind (n := 2) (k := 10) (a := .str q.2 (tk + 1)) (s1 := sh h (l ++ [dO es]) (tk + 2) os) (p1 := pd) ?_ ?_).cast rfl
    · refine Go.holding ?_
      refine (Go.bind (n := 1) (k := 1) (a := .str q.2 (tk + 1)) (s1 := sh h (l ++ [dO es]) (tk + 2) os) (p1 := pd) ?_ ?_).cast rfl
      · exact Go.map (g := fun t => Value.str q.2 t) Go.fresh
      · exact Go.map (g := fun _ => Value.str q.2 (tk + 1)) Go.at
    refine Go.map (g := fun _ => ForInStep.yield PUnit.unit) (a := ()) (Go.holding ?_)
    have z := Go.setNew (w := w) (s := sh h (l ++ [dO es]) (tk + 2) os) (p := pd) (d := h.objs.size + l.length) (k := q.1) (t := tk) (v := .str q.2 (tk + 1)) (es := es) sh_dict (fun e he => hno e he q (.head _)) (Nat.le_trans hd (Nat.le_add_right _ _)) (by rw [List.length_cons] at hsz; omega) hq.1 hq.2
    rw [show ({ sh h (l ++ [dO es]) (tk + 2) os with heap := (sh h (l ++ [dO es]) (tk + 2) os).heap.update (h.objs.size + l.length) (Obj.mapDictKeys (·.push ⟨q.1, .int q.1 tk, .str q.2 (tk + 1)⟩)), toks := (sh h (l ++ [dO es]) (tk + 2) os).toks + 1 } : Shared) = sh h (l ++ [dO (es ++ [⟨q.1, .int q.1 tk, .str q.2 (tk + 1)⟩])]) (tk + 3) os from sh_push] at z
    exact z
theorem sub_long (hd : 11 ≤ h.objs.size) (l : List Obj) (ps : List (Int × Str)) (tk : Nat) (hk : KeysOk ps) (hl : ¬ ps.length ≤ 15) (hsz : ps.length ≤ 1000) :
    Go w (13 * ps.length + 2) (subDict (ps.map (itemOf pd))) (sh h l tk os) pd (h.objs.size + l.length) (sh h (l ++ [dO (entsL tk ps)]) (tk + 3 * ps.length) os) pd := by
  rw [subDict_long (by rw [List.length_map]; exact hl)]
  refine (Go.bind (n := 1) (k := 13 * ps.length + 1) (a := h.objs.size + l.length) (s1 := sh h (l ++ [dO []]) tk os) (p1 := pd) ?_ ?_).cast rfl
  · have z := Go.alloc (w := w) (s := sh h l tk os) (p := pd) (o := { cls := .type "dict", data := .dict #[] })
    rw [show (sh h l tk os).heap.objs.size = h.objs.size + l.length from apH_size h l, show ({ sh h l tk os with heap := (sh h l tk os).heap.push { cls := .type "dict", data := .dict #[] } } : Shared) = sh h (l ++ [dO []]) tk os from congrArg (fun x => Shared.mk x _ _ _ _) (apH_push h l _)] at z
    exact z
  refine Go.map (g := fun _ => h.objs.size + l.length) (a := ()) (Go.holding ?_)
  refine Go.bind Go.rule ?_
  refine Go.map (g := fun _ => ()) (a := PUnit.unit) ?_
  exact (long_loop hd l ps [] tk hk (fun _ h => nomatch h) (by simpa using hsz))
end
end Mine
end
section
open PySem PySem.W PySem.Calls PyProof.Rows
set_option maxRecDepth 100000
set_option maxHeartbeats 8000000
namespace Mine
noncomputable def entsS : Nat → List (Int × Str) → List DictEntry
  | _, [] => []
  | t, q :: r => ⟨q.1, .int q.1 t, .str q.2 (t + 1)⟩ :: entsS (t + 2) r
noncomputable def valsS (l : List DictEntry) : List (Value × Value) := l.map fun e => (e.key, e.val)
noncomputable def shortBody (d : Addr) : Value × Value → PUnit → Sem (ForInStep PUnit) := fun x _ => do
  dictSet d x.1 x.2
  pure (ForInStep.yield PUnit.unit)
theorem subDict_short {pairs : List (Sem Value × Sem Value)} (hl : pairs.length ≤ 15) : subDict pairs = (do
    let d ← alloc { cls := .type "dict", data := .dict #[] }
    holding [.ref d] (do
      let vs ← evalPairs pairs
      holding (vs.flatMap fun (k, v) => [k, v]) (do forIn vs PUnit.unit (shortBody d); pure ()))
    pure d) := by
  unfold subDict
  simp only [if_pos hl]
  rfl
section
variable {w : World} {h : Heap} {os : OsState} {pd : Pos}
theorem eval_pairs (l : List Obj) : ∀ (ps : List (Int × Str)) (tk : Nat),
    Go w (3 * ps.length) (evalPairs (ps.map (itemOf pd))) (sh h l tk os) pd (valsS (entsS tk ps)) (sh h l (tk + 2 * ps.length) os) pd
  | [], tk => by
    exact Go.pure
  | q :: r, tk => by
    rw [List.map_cons]
    have ih := eval_pairs l r (tk + 2)
    rw [show tk + 2 * (q :: r).length = tk + 2 + 2 * r.length by rw [List.length_cons]; omega]
    show Go w _ (evalPairs ((mkInt q.1, _) :: _)) _ _ _ _ _
    unfold evalPairs
    refine (Go.bind (n := 1) (k := 3 * r.length + 2) (a := .int q.1 tk) (s1 := sh h l (tk + 1) os) (p1 := pd) ?_ ?_).cast (by rw [List.length_cons]; omega)
    · exact Go.map (g := fun t => Value.int q.1 t) Go.fresh
    refine (Go.bind (n := 2) (k := 3 * r.length) (a := .str q.2 (tk + 1)) (s1 := sh h l (tk + 2) os) (p1 := pd) (Go.holding ?_) ?_).cast (by omega)
    · refine (Go.bind (n := 1) (k := 1) (a := .str q.2 (tk + 1)) (s1 := sh h l (tk + 2) os) (p1 := pd) ?_ ?_).cast rfl
      · exact Go.map (g := fun t => Value.str q.2 t) Go.fresh
      · exact Go.map (g := fun _ => Value.str q.2 (tk + 1)) Go.at
    exact Go.map (g := fun r => (Value.int q.1 tk, Value.str q.2 (tk + 1)) :: r) (Go.holding ih)
theorem short_loop (hd : 11 ≤ h.objs.size) (l : List Obj) : ∀ (ps : List (Int × Str)) (es : List DictEntry) (t0 tk : Nat), KeysOk ps → (∀ e ∈ es, ∀ q ∈ ps, e.hash ≠ q.1) → es.length + ps.length ≤ 1000 →
    Go w (10 * ps.length) (forIn (valsS (entsS t0 ps)) PUnit.unit (shortBody (h.objs.size + l.length))) (sh h (l ++ [dO es]) tk os) pd PUnit.unit (sh h (l ++ [dO (es ++ entsS t0 ps)]) (tk + ps.length) os) pd
  | [], es, t0, tk, _, _, _ => by
    simp only [valsS, entsS, List.map_nil, List.forIn_nil, List.append_nil]
    exact Go.pure
  | q :: r, es, t0, tk, ⟨hq, hne, hr⟩, hno, hsz => by
    show Go w _ (forIn ((Value.int q.1 t0, Value.str q.2 (t0 + 1)) :: valsS (entsS (t0 + 2) r)) _ _) _ _ _ _ _
    rw [List.forIn_cons]
    have ih := short_loop hd l r (es ++ [⟨q.1, .int q.1 t0, .str q.2 (t0 + 1)⟩]) (t0 + 2) (tk + 1) hr (fun e he q' hq' => by
      rcases List.mem_append.mp he with he | he
      · exact hno e he q' (.tail _ hq')
      · rw [List.mem_singleton.mp he]; exact hne q' hq') (by simp only [List.length_append, List.length_cons, List.length_nil] at hsz ⊢; omega)
    have e1 : tk + (q :: r).length = tk + 1 + r.length := by rw [List.length_cons]; omega
    have e2 : es ++ entsS t0 (q :: r) = es ++ [⟨q.1, .int q.1 t0, .str q.2 (t0 + 1)⟩] ++ entsS (t0 + 2) r := by rw [List.append_assoc]; rfl
    rw [e1, e2]
    refine (Go.bind (n := 10) (k := 10 * r.length) (a := .yield PUnit.unit) (s1 := sh h (l ++ [dO (es ++ [⟨q.1, .int q.1 t0, .str q.2 (t0 + 1)⟩])]) (tk + 1) os) (p1 := pd) ?_ ih).cast (by rw [List.length_cons]; omega)
    unfold shortBody
    refine Go.map (g := fun _ => ForInStep.yield PUnit.unit) (a := ()) ?_
    have z := Go.setNew (w := w) (s := sh h (l ++ [dO es]) tk os) (p := pd) (d := h.objs.size + l.length) (k := q.1) (t := t0) (v := .str q.2 (t0 + 1)) (es := es) sh_dict (fun e he => hno e he q (.head _)) (Nat.le_trans hd (Nat.le_add_right _ _)) (by rw [List.length_cons] at hsz; omega) hq.1 hq.2
    rw [show ({ sh h (l ++ [dO es]) tk os with heap := (sh h (l ++ [dO es]) tk os).heap.update (h.objs.size + l.length) (Obj.mapDictKeys (·.push ⟨q.1, .int q.1 t0, .str q.2 (t0 + 1)⟩)), toks := (sh h (l ++ [dO es]) tk os).toks + 1 } : Shared) = sh h (l ++ [dO (es ++ [⟨q.1, .int q.1 t0, .str q.2 (t0 + 1)⟩])]) (tk + 1) os from sh_push] at z
    exact z
theorem sub_short (hd : 11 ≤ h.objs.size) (l : List Obj) (ps : List (Int × Str)) (tk : Nat) (hk : KeysOk ps) (hl : ps.length ≤ 15) :
    Go w (13 * ps.length + 1) (subDict (ps.map (itemOf pd))) (sh h l tk os) pd (h.objs.size + l.length) (sh h (l ++ [dO (entsS tk ps)]) (tk + 3 * ps.length) os) pd := by
  rw [subDict_short (by rw [List.length_map]; exact hl)]
  refine (Go.bind (n := 1) (k := 13 * ps.length) (a := h.objs.size + l.length) (s1 := sh h (l ++ [dO []]) tk os) (p1 := pd) ?_ ?_).cast rfl
  · have z := Go.alloc (w := w) (s := sh h l tk os) (p := pd) (o := { cls := .type "dict", data := .dict #[] })
    rw [show (sh h l tk os).heap.objs.size = h.objs.size + l.length from apH_size h l, show ({ sh h l tk os with heap := (sh h l tk os).heap.push { cls := .type "dict", data := .dict #[] } } : Shared) = sh h (l ++ [dO []]) tk os from congrArg (fun x => Shared.mk x _ _ _ _) (apH_push h l _)] at z
    exact z
  refine Go.map (g := fun _ => h.objs.size + l.length) (a := ()) (Go.holding ?_)
  refine (Go.bind (n := 3 * ps.length) (k := 10 * ps.length) (eval_pairs (l ++ [dO []]) ps tk) (Go.holding ?_)).cast (by omega)
  refine Go.map (g := fun _ => ()) (a := PUnit.unit) ?_
  have z := short_loop (w := w) (os := os) (pd := pd) hd l ps [] tk (tk + 2 * ps.length) hk (fun _ h => nomatch h) (by simp; omega)
  rw [show tk + 2 * ps.length + ps.length = tk + 3 * ps.length by omega] at z
  exact z
noncomputable def mergeBody (d a : Addr) (epoch : Nat) : Nat → PUnit → Sem (ForInStep PUnit) := fun i _ => do
  let es ← dictEntries a
  match es[i]? with
  | some e => do
    holding [e.key, e.val] (dictPut d e.hash e.key e.val)
    let n ← dictEpoch a
    if (n != epoch) = true then do
      unsupported "dict.changed-during-merge"
      pure (ForInStep.yield PUnit.unit)
    else pure (ForInStep.yield PUnit.unit)
  | x => do
    unsupported "dict.changed-during-merge"
    pure (ForInStep.yield PUnit.unit)
/-- entries of int keys, each hash once -/
noncomputable def EntsOk : List DictEntry → Prop
  | [] => True
  | e :: r => (∃ k t, e.key = .int k t) ∧ (∀ e' ∈ r, e.hash ≠ e'.hash) ∧ EntsOk r
theorem Go.epoch {s : Shared} {p : Pos} {d : Addr} {part : Option Value} {es : List DictEntry} (ho : s.heap.get? d = some (dO es)) : Go w 1 (dictEpoch d part) s p es.length s p := by
  unfold dictEpoch
  refine (Go.bind (n := 1) (k := 0) (Go.load ho) ?_).cast rfl
  exact Go.pure
theorem sh_last {l : List Obj} {es : List DictEntry} {tk : Nat} : (sh h (l ++ [dO es]) tk os).heap.get? (h.objs.size + l.length) = some (dO es) := sh_dict
theorem merge_loop (hd : 11 ≤ h.objs.size) (mid : List Obj) (subs : List DictEntry) (tk : Nat) : ∀ (rest pre es : List DictEntry), subs = pre ++ rest → EntsOk rest → (∀ e ∈ es, ∀ e' ∈ rest, e.hash ≠ e'.hash) → es.length + rest.length ≤ 1000 →
    Go w (6 * rest.length) (forIn (List.range' pre.length rest.length) PUnit.unit (mergeBody h.objs.size (h.objs.size + (mid.length + 1)) subs.length)) (sh h (dO es :: (mid ++ [dO subs])) tk os) pd PUnit.unit (sh h (dO (es ++ rest) :: (mid ++ [dO subs])) tk os) pd
  | [], pre, es, _, _, _, _ => by
    simp only [List.length_nil, List.range'_zero, List.forIn_nil, List.append_nil]
    exact Go.pure
  | e :: r, pre, es, hs, ⟨⟨k, t, hk⟩, hne, hr⟩, hno, hsz => by
    rw [List.length_cons, List.range'_succ, List.forIn_cons]
    have ih := merge_loop hd mid subs tk r (pre ++ [e]) (es ++ [e]) (by rw [hs, List.append_assoc]; rfl) hr (fun x hx y hy => by
      rcases List.mem_append.mp hx with hx | hx
      · exact hno x hx y (.tail _ hy)
      · rw [List.mem_singleton.mp hx]; exact hne y hy) (by simp only [List.length_append, List.length_cons, List.length_nil] at hsz ⊢; omega)
    rw [List.length_append, List.length_singleton, List.append_assoc] at ih
    have hlast : ∀ x, (sh h (dO x :: (mid ++ [dO subs])) tk os).heap.get? (h.objs.size + (mid.length + 1)) = some (dO subs) := fun x => sh_last (l := dO x :: mid)
    have hfirst : (sh h (dO es :: (mid ++ [dO subs])) tk os).heap.get? h.objs.size = some (dO es) := sh_dict (l := [])
    refine (Go.bind (n := 6) (k := 6 * r.length) (a := .yield PUnit.unit) (s1 := sh h (dO (es ++ [e]) :: (mid ++ [dO subs])) tk os) (p1 := pd) ?_ ih).cast (by omega)
    unfold mergeBody
    refine (Go.bind (n := 1) (k := 5) (Go.entries (hlast es)) ?_).cast rfl
    have hi : subs.toArray[pre.length]? = some e := by
      rw [List.getElem?_toArray, hs, List.getElem?_append_right (Nat.le_refl _), Nat.sub_self]; rfl
    rw [hi]
    dsimp only
    refine (Go.bind (n := 4) (k := 1) (a := ()) (s1 := sh h (dO (es ++ [e]) :: (mid ++ [dO subs])) tk os) (p1 := pd) (Go.holding ?_) ?_).cast rfl
    · rw [hk]
      have z := Go.put (w := w) (s := sh h (dO es :: (mid ++ [dO subs])) tk os) (p := pd) (d := h.objs.size) (k := k) (t := t) (h := e.hash) (v := e.val) (es := es) hfirst (fun x hx => hno x hx e (.head _)) hd (by rw [List.length_cons] at hsz; omega)
      have y : ({ sh h (dO es :: (mid ++ [dO subs])) tk os with heap := (sh h (dO es :: (mid ++ [dO subs])) tk os).heap.update h.objs.size (Obj.mapDictKeys (·.push ⟨e.hash, .int k t, e.val⟩)) } : Shared) = sh h (dO (es ++ [e]) :: (mid ++ [dO subs])) tk os := by
        have y := sh_push (h := h) (os := os) (l := []) (r := mid ++ [dO subs]) (es := es) (e := e) (tk := tk) (tk' := tk)
        have ee : e = ⟨e.hash, .int k t, e.val⟩ := by rw [← hk]
        rw [← ee]
        exact y
      rw [y] at z
      exact z
    refine (Go.bind (n := 1) (k := 0) (Go.epoch (hlast (es ++ [e]))) ?_).cast rfl
    rw [if_neg (by simp)]
    exact Go.pure
theorem go_isDict {s : Shared} {p : Pos} {a : Addr} {es : List DictEntry} (ho : s.heap.get? a = some (dO es)) : Go w 1 (isInstance (.ref a) (.type "dict")) s p true s p := by
  unfold isInstance
  refine (Go.bind (n := 1) (k := 0) (a := .type "dict") (s1 := s) (p1 := p) (Go.map (g := fun o => o.cls) (a := dO es) (Go.load ho)) ?_).cast rfl
  rw [show isSubtype (.type "dict") (.type "dict") = (pure true : Sem Bool) by rw [isSubtype_type]; kernel_rfl]
  exact Go.pure
theorem go_iter {s : Shared} {p : Pos} {a : Addr} {es : List DictEntry} (ho : s.heap.get? a = some (dO es)) : Go w 1 (specialOf (.ref a) "__iter__") s p (some (.builtin "dict.__iter__")) s p := by
  unfold specialOf
  refine (Go.bind (n := 1) (k := 0) (a := .type "dict") (s1 := s) (p1 := p) (Go.map (g := fun o => o.cls) (a := dO es) (Go.load ho)) ?_).cast rfl
  rw [show typeLookup (.type "dict") "__iter__" = (pure (some (.builtin "dict.__iter__")) : Sem (Option Value)) by rw [typeLookup_type, builtinLookup_eq_fast]; kernel_rfl]
  exact Go.pure
theorem go_merge (hd : 11 ≤ h.objs.size) (mid : List Obj) (subs es : List DictEntry) (tk : Nat) (hk : EntsOk subs) (hno : ∀ e ∈ es, ∀ e' ∈ subs, e.hash ≠ e'.hash) (hsz : es.length + subs.length ≤ 1000) (hne : es ≠ []) :
    Go w (6 * subs.length + 5) (mergeMapping h.objs.size (.ref (h.objs.size + (mid.length + 1))) false) (sh h (dO es :: (mid ++ [dO subs])) tk os) pd () (sh h (dO (es ++ subs) :: (mid ++ [dO subs])) tk os) pd := by
  have hlast : (sh h (dO es :: (mid ++ [dO subs])) tk os).heap.get? (h.objs.size + (mid.length + 1)) = some (dO subs) := sh_last (l := dO es :: mid)
  have hfirst : (sh h (dO es :: (mid ++ [dO subs])) tk os).heap.get? h.objs.size = some (dO es) := sh_dict (l := [])
  unfold mergeMapping
  refine (Go.bind (n := 1) (k := 6 * subs.length + 4) (go_isDict hlast) ?_).cast rfl
  dsimp only
  rw [if_pos rfl]
  refine (Go.bind (n := 1) (k := 6 * subs.length + 3) (go_iter hlast) ?_).cast rfl
  refine (Go.bind (n := 0) (k := 6 * subs.length + 3) (a := true) Go.pure ?_).cast rfl
  dsimp only
  have hs : ((h.objs.size + (mid.length + 1) : Nat) == sysModules) = false := by
    have : sysModules = 1 := rfl
    rw [this]
    simp; omega
  rw [hs, if_neg (by simp)]
  refine (Go.bind (n := 1) (k := 6 * subs.length + 2) (Go.entries hfirst) ?_).cast rfl
  rw [if_neg (by cases es with | nil => exact absurd rfl hne | cons _ _ => simp)]
  refine (Go.bind (n := 1) (k := 6 * subs.length + 1) (Go.entries hlast) ?_).cast rfl
  refine (Go.bind (n := 1) (k := 6 * subs.length) (Go.epoch hlast) ?_).cast rfl
  refine Go.map (g := fun _ => ()) (a := PUnit.unit) ?_
  rw [List.size_toArray, List.range_eq_range']
  exact merge_loop hd mid subs tk subs [] es rfl hk hno hsz
end
end Mine
end
section
open PySem PySem.W PySem.Calls PyProof.Rows
set_option maxRecDepth 100000
set_option maxHeartbeats 8000000
namespace Mine
abbrev ItemT := Option (Sem Value) × Sem Value
abbrev RunT := List (Sem Value × Sem Value)
noncomputable def flushD (run : RunT) (main : Option Addr) : Sem (Option Addr) :=
  if run.isEmpty = true then pure main
  else match main with
    | none => do
      let d ← subDict run
      pure (some d)
    | some d => do
      let sub ← holding [.ref d] (subDict run)
      (holding [.ref d, .ref sub] (mergeMapping d (.ref sub) false)).onRaise fun x => do
        let _ ← holding [.ref d, x] (runValue (.builtin "proto.let_go" {}))
        pure ()
      pure (some d)
noncomputable def dispEnd (s : Option Addr × RunT) : Sem Value := do
  let m ← flushD s.2 s.1
  match m with
  | some d => pure (.ref d)
  | none => newDict
theorem display_open (items : List ItemT) : ∃ body : ItemT → Option Addr × RunT → Sem (ForInStep (Option Addr × RunT)), dictDisplay items = (forIn items (none, []) body >>= dispEnd) ∧
    ∀ k v main run, body (some k, v) (main, run) = if ((run ++ [(k, v)]).length == 17) = true then (do let m ← flushD (run ++ [(k, v)]) main; pure (ForInStep.yield (m, []))) else pure (ForInStep.yield (main, run ++ [(k, v)])) :=
  ⟨_, rfl, fun _ _ _ _ => rfl⟩
abbrev itD (pd : Pos) (q : Int × Str) : ItemT := (some (itemOf pd q).1, (itemOf pd q).2)
section
variable {body : ItemT → Option Addr × RunT → Sem (ForInStep (Option Addr × RunT))} {pd : Pos}
theorem gather (hb : ∀ k v main run, body (some k, v) (main, run) = if ((run ++ [(k, v)]).length == 17) = true then (do let m ← flushD (run ++ [(k, v)]) main; pure (ForInStep.yield (m, []))) else pure (ForInStep.yield (main, run ++ [(k, v)])))
    (main : Option Addr) : ∀ (c : List (Int × Str)) (rest : List ItemT) (run : RunT), run.length + c.length < 17 → forIn (c.map (itD pd) ++ rest) (main, run) body = forIn rest (main, run ++ c.map (itemOf pd)) body
  | [], rest, run, _ => by rw [List.map_nil, List.nil_append, List.map_nil, List.append_nil]
  | q :: r, rest, run, hl => by
    rw [List.map_cons, List.cons_append, List.forIn_cons, hb, if_neg (by simp only [List.length_append, List.length_cons, List.length_nil] at hl ⊢; simp; omega)]
    have e := gather hb main r rest (run ++ [itemOf pd q]) (by simp only [List.length_append, List.length_cons, List.length_nil] at hl ⊢; omega)
    rw [List.append_assoc] at e
    exact e
theorem gather17 (hb : ∀ k v main run, body (some k, v) (main, run) = if ((run ++ [(k, v)]).length == 17) = true then (do let m ← flushD (run ++ [(k, v)]) main; pure (ForInStep.yield (m, []))) else pure (ForInStep.yield (main, run ++ [(k, v)])))
    (main : Option Addr) (c : List (Int × Str)) (rest : List ItemT) (hc : c.length = 17) : forIn (c.map (itD pd) ++ rest) (main, []) body = (flushD (c.map (itemOf pd)) main >>= fun m => forIn rest (m, []) body) := by
  obtain ⟨c', q, rfl⟩ : ∃ c' q, c = c' ++ [q] := by
    rcases List.eq_nil_or_concat c with rfl | ⟨c', q, rfl⟩
    · simp at hc
    · exact ⟨c', q, by simp⟩
  have h16 : c'.length = 16 := by simpa using hc
  rw [List.map_append, List.append_assoc, gather hb main c' _ [] (by simp [h16])]
  simp only [List.map_cons, List.map_nil, List.nil_append, List.singleton_append]
  rw [List.forIn_cons, hb, if_pos (by simp [h16])]
  rw [List.map_append]
  show ((flushD _ main).bind _).bind _ = (flushD _ main).bind _
  rw [Sem.bind_assoc]
  rfl
end
noncomputable def midL : Nat → List (List (Int × Str)) → List Obj
  | _, [] => []
  | t, c :: r => dO (entsL t c) :: midL (t + 3 * c.length) r
theorem entsL_app : ∀ (t : Nat) (a b : List (Int × Str)), entsL t (a ++ b) = entsL t a ++ entsL (t + 3 * a.length) b
  | _, [], _ => rfl
  | t, q :: r, b => by
    show _ :: entsL (t + 3) (r ++ b) = _ :: (entsL (t + 3) r ++ _)
    rw [entsL_app (t + 3) r b, List.length_cons, show t + 3 + 3 * r.length = t + 3 * (r.length + 1) by omega]
theorem entsOk_L : ∀ (t : Nat) (ps : List (Int × Str)), KeysOk ps → EntsOk (entsL t ps)
  | _, [], _ => trivial
  | t, q :: r, ⟨_, b, c⟩ => ⟨⟨q.1, t, rfl⟩, fun e' he => by
    obtain ⟨q', hq, e⟩ := entsL_hash (t + 3) r e' he
    rw [e]
    exact b q' hq, entsOk_L (t + 3) r c⟩
theorem entsS_hash : ∀ (t : Nat) (ps : List (Int × Str)), ∀ e ∈ entsS t ps, ∃ q ∈ ps, e.hash = q.1
  | _, [], _, h => nomatch h
  | t, q :: r, e, h => by
    rcases List.mem_cons.mp h with rfl | h
    · exact ⟨q, .head _, rfl⟩
    · obtain ⟨q', a, b⟩ := entsS_hash (t + 2) r e h
      exact ⟨q', .tail _ a, b⟩
theorem entsS_length : ∀ (t : Nat) (ps : List (Int × Str)), (entsS t ps).length = ps.length
  | _, [] => rfl
  | t, _ :: r => congrArg (· + 1) (entsS_length (t + 2) r)
theorem entsOk_S : ∀ (t : Nat) (ps : List (Int × Str)), KeysOk ps → EntsOk (entsS t ps)
  | _, [], _ => trivial
  | t, q :: r, ⟨_, b, c⟩ => ⟨⟨q.1, t, rfl⟩, fun e' he => by
    obtain ⟨q', hq, e⟩ := entsS_hash (t + 2) r e' he
    rw [e]
    exact b q' hq, entsOk_S (t + 2) r c⟩
theorem keysOk_left : ∀ {a b : List (Int × Str)}, KeysOk (a ++ b) → KeysOk a
  | [], _, _ => trivial
  | _ :: _, _, ⟨x, y, z⟩ => ⟨x, fun q hq => y q (List.mem_append.mpr (.inl hq)), keysOk_left z⟩
theorem keysOk_right : ∀ {a b : List (Int × Str)}, KeysOk (a ++ b) → KeysOk b
  | [], _, h => h
  | _ :: _, _, ⟨_, _, z⟩ => keysOk_right z
theorem keysOk_apart : ∀ {a b : List (Int × Str)}, KeysOk (a ++ b) → ∀ q ∈ a, ∀ q' ∈ b, q.1 ≠ q'.1
  | _ :: _, _, ⟨_, y, z⟩, q, hq, q', hq' => by
    rcases List.mem_cons.mp hq with rfl | hq
    · exact y q' (List.mem_append.mpr (.inr hq'))
    · exact keysOk_apart z q hq q' hq'
section
variable {w : World} {h : Heap} {os : OsState} {pd : Pos} {body : ItemT → Option Addr × RunT → Sem (ForInStep (Option Addr × RunT))}
theorem flush_first (hd : 11 ≤ h.objs.size) (c : List (Int × Str)) (tk : Nat) (hk : KeysOk c) (hc : c.length = 17) :
    Go w 223 (flushD (c.map (itemOf pd)) none) (sh h [] tk os) pd (some h.objs.size) (sh h [dO (entsL tk c)] (tk + 51) os) pd := by
  unfold flushD
  rw [if_neg (by cases c with | nil => simp at hc | cons _ _ => simp)]
  refine Go.map (g := fun d => some d) ?_
  have z := sub_long (w := w) (os := os) (pd := pd) hd [] c tk hk (by omega) (by omega)
  rw [hc] at z
  exact z
theorem flush_next (hd : 11 ≤ h.objs.size) (mid : List Obj) (c : List (Int × Str)) (es : List DictEntry) (tk : Nat) (hk : KeysOk c) (hno : ∀ e ∈ es, ∀ q ∈ c, e.hash ≠ q.1) (hne : es ≠ []) (hc : c.length = 17) (hsz : es.length + 17 ≤ 1000) :
    Go w 330 (flushD (c.map (itemOf pd)) (some h.objs.size)) (sh h (dO es :: mid) tk os) pd (some h.objs.size) (sh h (dO (es ++ entsL tk c) :: (mid ++ [dO (entsL tk c)])) (tk + 51) os) pd := by
  unfold flushD
  rw [if_neg (by cases c with | nil => simp at hc | cons _ _ => simp)]
  dsimp only
  have z := sub_long (w := w) (os := os) (pd := pd) hd (dO es :: mid) c tk hk (by omega) (by omega)
  rw [hc] at z
  refine (Go.bind (n := 223) (k := 107) (Go.holding z) ?_).cast rfl
  have y := go_merge (w := w) (os := os) (pd := pd) hd mid (entsL tk c) es (tk + 51) (entsOk_L tk c hk) (fun e he e' he' => by
    obtain ⟨q, hq, e2⟩ := entsL_hash tk c e' he'
    rw [e2]
    exact hno e he q hq) (by rw [entsL_length, hc]; exact hsz) hne
  rw [entsL_length, hc] at y
  exact Go.map (g := fun _ => some h.objs.size) (a := ()) (Go.onRaise (Go.holding y))
theorem flush_last (hd : 11 ≤ h.objs.size) (mid : List Obj) (c : List (Int × Str)) (es : List DictEntry) (tk : Nat) (hk : KeysOk c) (hno : ∀ e ∈ es, ∀ q ∈ c, e.hash ≠ q.1) (hne : es ≠ []) (hc : c.length = 4) (hsz : es.length + 4 ≤ 1000) :
    Go w 82 (flushD (c.map (itemOf pd)) (some h.objs.size)) (sh h (dO es :: mid) tk os) pd (some h.objs.size) (sh h (dO (es ++ entsS tk c) :: (mid ++ [dO (entsS tk c)])) (tk + 12) os) pd := by
  unfold flushD
  rw [if_neg (by cases c with | nil => simp at hc | cons _ _ => simp)]
  dsimp only
  have z := sub_short (w := w) (os := os) (pd := pd) hd (dO es :: mid) c tk hk (by omega)
  rw [hc] at z
  refine (Go.bind (n := 53) (k := 29) (Go.holding z) ?_).cast rfl
  have y := go_merge (w := w) (os := os) (pd := pd) hd mid (entsS tk c) es (tk + 12) (entsOk_S tk c hk) (fun e he e' he' => by
    obtain ⟨q, hq, e2⟩ := entsS_hash tk c e' he'
    rw [e2]
    exact hno e he q hq) (by rw [entsS_length, hc]; exact hsz) hne
  rw [entsS_length, hc] at y
  exact Go.map (g := fun _ => some h.objs.size) (a := ()) (Go.onRaise (Go.holding y))
theorem loop_next (hb : ∀ k v main run, body (some k, v) (main, run) = if ((run ++ [(k, v)]).length == 17) = true then (do let m ← flushD (run ++ [(k, v)]) main; pure (ForInStep.yield (m, []))) else pure (ForInStep.yield (main, run ++ [(k, v)])))
    (hd : 11 ≤ h.objs.size) (last : List (Int × Str)) (hl : last.length < 17) : ∀ (cs : List (List (Int × Str))) (mid : List Obj) (es : List DictEntry) (tk : Nat), (∀ c ∈ cs, c.length = 17) → KeysOk (cs.flatten ++ last) → (∀ e ∈ es, ∀ q ∈ cs.flatten ++ last, e.hash ≠ q.1) → es ≠ [] → es.length + 17 * cs.length ≤ 1000 →
    Go w (330 * cs.length) (forIn ((cs.flatten ++ last).map (itD pd)) (some h.objs.size, []) body) (sh h (dO es :: mid) tk os) pd (some h.objs.size, last.map (itemOf pd)) (sh h (dO (es ++ entsL tk cs.flatten) :: (mid ++ midL tk cs)) (tk + 51 * cs.length) os) pd
  | [], mid, es, tk, _, _, _, _, _ => by
    have e := gather (pd := pd) hb (some h.objs.size) last [] [] (by simpa using hl)
    simp only [List.append_nil, List.nil_append, List.forIn_nil] at e
    simp only [List.flatten_nil, List.nil_append, entsL, midL, List.append_nil, List.length_nil, Nat.mul_zero, Nat.add_zero]
    rw [e]
    exact Go.pure
  | c :: r, mid, es, tk, hc, hk, hno, hne, hsz => by
    have hc17 := hc c (.head _)
    rw [List.flatten_cons, List.append_assoc] at hk hno ⊢
    rw [List.map_append, gather17 hb _ _ _ hc17]
    have ih := loop_next hb hd last hl r (mid ++ [dO (entsL tk c)]) (es ++ entsL tk c) (tk + 51) (fun c' h' => hc c' (.tail _ h')) (keysOk_right hk) (fun e he q hq => by
      rcases List.mem_append.mp he with he | he
      · exact hno e he q (List.mem_append.mpr (.inr hq))
      · obtain ⟨q', hq', e2⟩ := entsL_hash tk c e he
        rw [e2]
        exact keysOk_apart hk q' hq' q hq) (by simp [hne]) (by rw [List.length_append, entsL_length, hc17]; rw [List.length_cons] at hsz; omega)
    have e1 : es ++ entsL tk (c ++ r.flatten) = es ++ entsL tk c ++ entsL (tk + 51) r.flatten := by rw [entsL_app, hc17, List.append_assoc]
    have e2 : mid ++ midL tk (c :: r) = mid ++ [dO (entsL tk c)] ++ midL (tk + 51) r := by
      rw [List.append_assoc, midL, hc17]; rfl
    have e3 : tk + 51 * (c :: r).length = tk + 51 + 51 * r.length := by rw [List.length_cons]; omega
    rw [e1, e2, e3]
    exact (Go.bind (n := 330) (k := 330 * r.length) (flush_next hd mid c es tk (keysOk_left hk) (fun e he q hq => hno e he q (List.mem_append.mpr (.inl hq))) hne hc17 (by rw [List.length_cons] at hsz; omega)) ih).cast (by rw [List.length_cons]; omega)
theorem display_go (hd : 11 ≤ h.objs.size) (c0 : List (Int × Str)) (cs : List (List (Int × Str))) (last : List (Int × Str)) (tk : Nat) (h0 : c0.length = 17) (hc : ∀ c ∈ cs, c.length = 17) (hl : last.length = 4) (hk : KeysOk (c0 ++ (cs.flatten ++ last))) (hsz : 17 * cs.length ≤ 900) :
    Go w (330 * cs.length + 305) (dictDisplay ((c0 ++ (cs.flatten ++ last)).map (itD pd))) (sh h [] tk os) pd (.ref h.objs.size)
      (sh h (dO (entsL tk c0 ++ entsL (tk + 51) cs.flatten ++ entsS (tk + 51 + 51 * cs.length) last) :: (midL (tk + 51) cs ++ [dO (entsS (tk + 51 + 51 * cs.length) last)])) (tk + 51 + 51 * cs.length + 12) os) pd := by
  obtain ⟨body, e, hb⟩ := display_open ((c0 ++ (cs.flatten ++ last)).map (itD pd))
  rw [e, List.map_append, gather17 hb _ _ _ h0]
  have hne : entsL tk c0 ≠ [] := by
    intro q
    have := entsL_length tk c0
    rw [q, h0] at this
    cases this
  have l1 := loop_next (w := w) (os := os) (pd := pd) hb hd last (by omega) cs [] (entsL tk c0) (tk + 51) hc (keysOk_right hk) (fun e he q hq => by
    obtain ⟨q', hq', e2⟩ := entsL_hash tk c0 e he
    rw [e2]
    exact keysOk_apart hk q' hq' q hq) hne (by rw [entsL_length, h0]; omega)
  have hk2 : KeysOk ((c0 ++ cs.flatten) ++ last) := by rw [List.append_assoc]; exact hk
  have l2 := flush_last (w := w) (os := os) (pd := pd) hd ([] ++ midL (tk + 51) cs) last (entsL tk c0 ++ entsL (tk + 51) cs.flatten) (tk + 51 + 51 * cs.length) (keysOk_right hk2) (fun e he q hq => by
    have : ∃ q' ∈ c0 ++ cs.flatten, e.hash = q'.1 := by
      rcases List.mem_append.mp he with he | he
      · obtain ⟨q', a, b⟩ := entsL_hash _ _ e he
        exact ⟨q', List.mem_append.mpr (.inl a), b⟩
      · obtain ⟨q', a, b⟩ := entsL_hash _ _ e he
        exact ⟨q', List.mem_append.mpr (.inr a), b⟩
    obtain ⟨q', a, b⟩ := this
    rw [b]
    exact keysOk_apart hk2 q' a q hq) (by simp [hne]) hl (by
      have e1 : cs.flatten.length = 17 * cs.length := by
        clear l1 hk hk2 hsz hb e
        induction cs with
        | nil => rfl
        | cons c r ih => rw [List.flatten_cons, List.length_append, ih (fun c' h' => hc c' (.tail _ h')), hc c (.head _), List.length_cons]; omega
      rw [List.length_append, entsL_length, entsL_length, h0, e1]; omega)
  have a1 := Go.bind (n := 223) (k := 330 * cs.length) (g := fun m => forIn ((cs.flatten ++ last).map (itD pd)) (m, []) body) (flush_first (w := w) (os := os) (pd := pd) hd c0 tk (keysOk_left hk) h0) l1
  rw [List.nil_append] at l2
  refine (Go.bind a1 (k := 82) ?_).cast (by omega)
  unfold dispEnd
  refine (Go.bind (n := 82) (k := 0) l2 ?_).cast rfl
  exact Go.pure
end
end Mine
end
section
open PySem PySem.W PySem.Calls PyProof.Rows
set_option maxRecDepth 100000
set_option maxHeartbeats 8000000
namespace Mine
noncomputable def ks13 : List (Option PySem.Expr) := match stAt 13 with | .Assign _ (.Dict ks _ _) _ => ks | _ => []
noncomputable def vs13 : List PySem.Expr := match stAt 13 with | .Assign _ (.Dict _ vs _) _ => vs | _ => []
noncomputable def pd13 : Pos := match stAt 13 with | .Assign _ (.Dict _ _ p) _ => p | _ => ⟨0, 0, 0, 0⟩
noncomputable def ps13 : Pos := match stAt 13 with | .Assign _ _ p => p | _ => ⟨0, 0, 0, 0⟩
noncomputable def pn13 : Pos := match stAt 13 with | .Assign [.Name _ p] _ _ => p | _ => ⟨0, 0, 0, 0⟩
theorem st13 : stAt 13 = .Assign [.Name "b3_exceptions" pn13] (.Dict ks13 vs13 pd13) ps13 := by kernel_rfl
/-- the table's pairs, read off the text -/
noncomputable def b3Pairs : List (Int × Str) := (ks13.zip vs13).map fun x => match x with
  | (some (.Constant (.int k) _ _), .Constant (.str s) _ _) => (k, s)
  | _ => (0, ⟨#[]⟩)
noncomputable def ch0 : List (Int × Str) := b3Pairs.take 17
noncomputable def chs : List (List (Int × Str)) := (List.range 37).map fun i => (b3Pairs.drop (17 * i + 17)).take 17
noncomputable def chL : List (Int × Str) := b3Pairs.drop 646
theorem chunks : ch0 ++ (chs.flatten ++ chL) = b3Pairs := by kernel_rfl
theorem items13 : (evalEachOpt ks13 env0).zip ((evalEach vs13 env0).map fun v => do let x ← v; standAt pd13; pure x) = b3Pairs.map (itD pd13) := by kernel_rfl
noncomputable def keysUp : Int → List (Int × Str) → Bool
  | _, [] => true
  | a, q :: r => decide (a < q.1) && decide (q.1 < 2 ^ 61 - 1) && keysUp q.1 r
theorem keysUp_all : ∀ {a : Int} {l : List (Int × Str)}, keysUp a l = true → ∀ q ∈ l, a < q.1
  | _, _ :: _, h, q, hq => by
    simp only [keysUp, Bool.and_eq_true, decide_eq_true_eq] at h
    rcases List.mem_cons.mp hq with rfl | hq
    · exact h.1.1
    · exact Int.lt_trans h.1.1 (keysUp_all h.2 q hq)
theorem keysUp_ok : ∀ {a : Int} {l : List (Int × Str)}, 0 ≤ a → keysUp a l = true → KeysOk l
  | _, [], _, _ => trivial
  | a, q :: r, h0, h => by
    simp only [keysUp, Bool.and_eq_true, decide_eq_true_eq] at h
    have h1 : 0 ≤ q.1 := by omega
    exact ⟨⟨h1, h.1.2⟩, fun q' hq' e => absurd (keysUp_all h.2 q' hq') (by omega), keysUp_ok h1 h.2⟩
theorem keys13 : keysUp 0 b3Pairs = true := by kernel_rfl
theorem lens13 : (ch0.length == 17 && chs.all (fun c => c.length == 17) && chL.length == 4 && chs.length == 37) = true := by kernel_rfl
/-- the table's entries as they lie at the end -/
noncomputable def b3Ents : List DictEntry := entsL 325 ch0 ++ entsL 376 chs.flatten ++ entsS 2263 chL
noncomputable def b3Objs : List Obj := dO b3Ents :: (midL 376 chs ++ [dO (entsS 2263 chL)])
noncomputable def dAt (i : Nat) : Obj := (b3Objs[i]?).getD default
theorem b3Objs_eq : (List.range 39).map dAt = b3Objs := by kernel_rfl
theorem heap13 (S : Obj) (D : Nat → Obj) (w : World) : (apH (absHeap (T12 w.params S) 82 {}) ((List.range 39).map D)).update mainNs (Obj.putName "b3_exceptions" (PyData.keyHash w.params "b3_exceptions") (.str "b3_exceptions" 2275) (.ref 82)) = absHeap (T13 w.params S D) 121 {} := by kernel_rfl
theorem main12 (S : Obj) (w : World) : (T12 w.params S).get mainNs = some (mainO w.params 19 (nm "cpy313.stringprep" 256)) := by kernel_rfl
theorem main12_free (w : World) : aRefKeyMayBeTheName "b3_exceptions" (nameE w.params (nm "cpy313.stringprep" 256) :: (mainRest w.params).take 18).toArray = false := by kernel_rfl
end Mine
end
section
open PySem PySem.W PySem.Calls PyProof.Rows
set_option maxRecDepth 100000
set_option maxHeartbeats 200000
namespace Mine
section
variable {w : World} {s : Shared} {p : Pos}
theorem go_bindName {v : Value} {o : Obj} {es : Array DictEntry} {n : Nat} {c : Value} {sl : Array (Option Value)} (ho : s.heap.get? mainNs = some o) (hd : o = ⟨c, none, .dict es n, sl⟩) (hf : aRefKeyMayBeTheName "b3_exceptions" es = false) :
    Go w 6 (bindName env0 "b3_exceptions" v) s p () { s with heap := s.heap.update mainNs (Obj.putName "b3_exceptions" (PyData.keyHash w.params "b3_exceptions") (.str "b3_exceptions" s.toks) v), toks := s.toks + 1 } p := by
  unfold bindName
  refine (Go.bind (n := 1) (k := 5) (Go.holding Go.point) ?_).cast rfl
  refine (Go.bind (n := 4) (k := 1) (a := ()) ?_ Go.point).cast rfl
  have e : storeName env0 "b3_exceptions" v = nsSet mainNs "b3_exceptions" v := by kernel_rfl
  rw [e]
  unfold nsSet
  refine (Go.bind (n := 1) (k := 3) (a := PyData.keyHash w.params "b3_exceptions") (s1 := s) (p1 := p) ?_ ?_).cast rfl
  · exact Go.map (g := fun x : Setting => PyData.keyHash x.params "b3_exceptions") Go.ask
  refine (Go.bind (n := 1) (k := 2) (a := .str "b3_exceptions" s.toks) (s1 := { s with toks := s.toks + 1 }) (p1 := p) ?_ ?_).cast rfl
  · exact Go.map (g := fun t => Value.str "b3_exceptions" t) Go.fresh
  have ho' : ({ s with toks := s.toks + 1 } : Shared).heap.get? mainNs = some o := ho
  refine (Go.bind (n := 1) (k := 1) (Go.load ho') ?_).cast rfl
  subst hd
  dsimp only
  rw [hf, if_neg (by simp)]
  exact Go.update ho' rfl
end
theorem abs_main (S : Obj) (w : World) : (absHeap (T12 w.params S) 82 {}).get? mainNs = some (mainO w.params 19 (nm "cpy313.stringprep" 256)) := by
  rw [abs_get (by decide) (main12 S w)]
  rfl
theorem stores13 (v : Value) : assignStores env0 v none ((assignEach [.Name "b3_exceptions" pn13] env0).map (·.2)) = ((standAt pn13 >>= fun _ => bindName env0 "b3_exceptions" v) >>= fun _ => Pure.pure Flow.next) := by kernel_rfl
theorem chs_len : chs.length = 37 := by
  have h := lens13
  simp only [Bool.and_eq_true, beq_iff_eq] at h
  exact h.2
theorem go13 (S : Obj) (w : World) (os : OsState) : Go w 12524 (exec (stAt 13) env0) (stT (T12 w.params S) 82 325 os).abs ⟨53, 0, 54, 30⟩ .next (stT (T13 w.params S dAt) 121 2276 os).abs pn13 := by
  have hl := lens13
  simp only [Bool.and_eq_true, beq_iff_eq, List.all_eq_true] at hl
  obtain ⟨⟨⟨l0, lc⟩, lL⟩, ln⟩ := hl
  rw [st13, arm_exec_Assign]
  refine (Go.bind (n := 1) (k := 12523) Go.at ?_).cast rfl
  refine (Go.bind (n := 0) (k := 12523) (a := false) Go.pure ?_).cast rfl
  rw [if_neg (by simp)]
  have e0 : (stT (T12 w.params S) 82 325 os).abs = sh (absHeap (T12 w.params S) 82 {}) [] 325 os := by
    show Shared.mk _ _ _ _ _ = Shared.mk (apH _ []) _ _ _ _
    rw [apH_nil]
    rfl
  have hsz : (absHeap (T12 w.params S) 82 {}).objs.size = 82 := absHeap_size _ _ _
  have dg := display_go (w := w) (h := absHeap (T12 w.params S) 82 {}) (os := os) (pd := pd13) (by rw [hsz]; decide) ch0 chs chL 325 l0 lc lL (by rw [chunks]; exact keysUp_ok (Int.le_refl 0) keys13) (by rw [ln]; decide)
  rw [chunks, ln, hsz] at dg
  simp only [Nat.reduceAdd, Nat.reduceMul] at dg
  have e2 : dO (entsL 325 ch0 ++ entsL 376 chs.flatten ++ entsS 2263 chL) :: (midL 376 chs ++ [dO (entsS 2263 chL)]) = b3Objs := rfl
  rw [e2] at dg
  refine (Go.bind (n := 12516) (k := 7) (a := .ref 82) (s1 := sh (absHeap (T12 w.params S) 82 {}) b3Objs 2275 os) (p1 := pd13) ?_ ?_).cast rfl
  · rw [arm_eval_Dict, items13, e0]
    refine (Go.bind (n := 1) (k := 12515) Go.at ?_).cast rfl
    exact dg
  refine (Go.bind (n := 0) (k := 7) (a := none) Go.pure ?_).cast rfl
  rw [stores13]
  refine Go.map (g := fun _ => Flow.next) (a := ()) ?_
  have z := go_bindName (w := w) (s := sh (absHeap (T12 w.params S) 82 {}) b3Objs 2275 os) (p := pn13) (v := .ref 82) (apH_old (abs_main S w)) rfl (main12_free w)
  have e1 : ({ sh (absHeap (T12 w.params S) 82 {}) b3Objs 2275 os with heap := (sh (absHeap (T12 w.params S) 82 {}) b3Objs 2275 os).heap.update mainNs (Obj.putName "b3_exceptions" (PyData.keyHash w.params "b3_exceptions") (.str "b3_exceptions" (sh (absHeap (T12 w.params S) 82 {}) b3Objs 2275 os).toks) (.ref 82)), toks := (sh (absHeap (T12 w.params S) 82 {}) b3Objs 2275 os).toks + 1 } : Shared) = (stT (T13 w.params S dAt) 121 2276 os).abs := by
    show Shared.mk (Heap.update (apH _ b3Objs) _ _) _ _ _ _ = Shared.mk (absHeap _ _ _) _ _ _ _
    rw [← b3Objs_eq]
    have hh := heap13 S dAt w
    show Shared.mk (Heap.update (apH _ ((List.range 39).map dAt)) mainNs (Obj.putName "b3_exceptions" (PyData.keyHash w.params "b3_exceptions") (.str "b3_exceptions" 2275) (.ref 82))) _ _ _ _ = _
    rw [hh]
    rfl
  rw [e1] at z
  refine (Go.bind (n := 1) (k := 6) Go.at ?_).cast rfl
  exact z
end Mine
end
section
open PySem PySem.W PySem.Calls PyProof.Rows
set_option maxRecDepth 100000
set_option maxHeartbeats 8000000
namespace Mine
noncomputable def kpart (P : Params) : Frag :=
  (nat_lit 2, boot_o_2 P) ::
  (nat_lit 3, mainO P 27 (nm "law_tc0035_01" 2284)) ::
  (nat_lit 6, boot_o_6 P) ::
  (nat_lit 15, o15) ::
  (nat_lit 17, o17) ::
  (nat_lit 18, o18) ::
  (nat_lit 20, o20) ::
  (nat_lit 21, o21) ::
  (nat_lit 22, o22) ::
  (nat_lit 24, o24) ::
  (nat_lit 25, o25) ::
  (nat_lit 27, o27) ::
  (nat_lit 28, o28) ::
  (nat_lit 29, o29) ::
  (nat_lit 31, o31) ::
  (nat_lit 32, o32) ::
  (nat_lit 34, o34) ::
  (nat_lit 35, o35) ::
  (nat_lit 36, o36) ::
  (nat_lit 38, o38) ::
  (nat_lit 39, o39) ::
  (nat_lit 41, o41) ::
  (nat_lit 42, o42) ::
  (nat_lit 43, o43) ::
  (nat_lit 45, o45) ::
  (nat_lit 46, o46) ::
  (nat_lit 48, o48) ::
  (nat_lit 49, o49) ::
  (nat_lit 50, o50) ::
  (nat_lit 52, o52) ::
  (nat_lit 53, o53) ::
  (nat_lit 55, o55) ::
  (nat_lit 56, o56) ::
  (nat_lit 57, o57) ::
  (nat_lit 59, o59) ::
  (nat_lit 60, o60) ::
  (nat_lit 62, o62) ::
  (nat_lit 63, o63) ::
  (nat_lit 71, setO (!P.followText "set-order")) ::
  (nat_lit 75, o75) ::
  (nat_lit 77, o77) ::
  (nat_lit 78, o78) ::
  (nat_lit 80, o80) ::
  (nat_lit 81, o81) ::
  (nat_lit 82, dO b3Ents) ::
  (nat_lit 121, o121) ::
  (nat_lit 123, o123) ::
  (nat_lit 124, o124) ::
  (nat_lit 126, o126) ::
  (nat_lit 127, o127) ::
  (nat_lit 128, o128) ::
  (nat_lit 130, o130) ::
  (nat_lit 131, o131) ::
  (nat_lit 133, o133) ::
  (nat_lit 134, o134) ::
  (nat_lit 135, o135) ::
  (nat_lit 137, o137) ::
  (nat_lit 138, o138) ::
  (nat_lit 140, o140) ::
  (nat_lit 141, o141) ::
  (nat_lit 142, o142) ::
  (nat_lit 145, o145) ::
  (nat_lit 146, o146) ::
  (nat_lit 147, o147) ::
  (nat_lit 150, o150) ::
  (nat_lit 151, o151) ::
  (nat_lit 152, o152) ::
  (nat_lit 155, o155) ::
  (nat_lit 156, o156) ::
  (nat_lit 157, o157) ::
  (nat_lit 160, o160) ::
  (nat_lit 161, o161) :: []
noncomputable def kaddrs : List Nat := [2, 3, 6, 15, 17, 18, 20, 21, 22, 24, 25, 27, 28, 29, 31, 32, 34, 35, 36, 38, 39, 41, 42, 43, 45, 46, 48, 49, 50, 52, 53, 55, 56, 57, 59, 60, 62, 63, 71, 75, 77, 78, 80, 81, 82, 121, 123, 124, 126, 127, 128, 130, 131, 133, 134, 135, 137, 138, 140, 141, 142, 145, 146, 147, 150, 151, 152, 155, 156, 157, 160, 161]
theorem kaddrs_eq (P : Params) : kaddrs = (kpart P).map (·.1) := by kernel_rfl
noncomputable def qv : Program := view pw [1, 2, 3, 4, 5, 6, 8, 9, 12, 14, 16, 17, 18, 19, 20, 21]
noncomputable def looseN : List Str := ["b1_set", "b3_exceptions"]
noncomputable def hook : Hook := kHook kpart kaddrs kaddrs_eq
noncomputable def H1 (P : Params) : Heap := absHeap (T21 P (setO (!P.followText "set-order")) dAt) 162 {}
noncomputable def xt (s : Shared) : Bool := xlAt qv [] s && recOk (RowW.records PySem.Challenge.rw_tc0035_01.row.toRowW) s
theorem looks_a (w : World) (os : OsState) : (staticsOk (importedModules pw.main.body) (boot_heap w.params) (H1 w.params) && namesBound pw (H1 w.params) && gensDone ⟨H1 w.params, ⟨[]⟩, {}, 2326, os⟩ && laidKept (boot_heap w.params) (H1 w.params)) = true := by kernel_rfl
theorem looks_c (w : World) (os : OsState) : hook.obs ⟨H1 w.params, ⟨[]⟩, {}, 2326, os⟩ = hook.val w := by kernel_rfl
theorem looks_b (w : World) (os : OsState) : openSeen qv looseN (importedModules pw.main.body) xt true ⟨H1 w.params, ⟨[]⟩, {}, 2326, os⟩ = openGood qv looseN := by kernel_rfl
end Mine
end
section
open PySem PySem.W PySem.Calls PyProof.Rows
set_option maxRecDepth 100000
set_option maxHeartbeats 8000000
namespace Mine
theorem pre_run (w : World) (os : OsState) : topGo treeTable pw w 11 (some (.ref 6)) 12 ⟨boot_heap w.params, ⟨[]⟩, boot_drawn, boot_toks, os⟩ (topStub pw) = some ((stT (T0 w.params) 15 187 os).abs, ⟨denote treeTable cE, cE, ⟨0, 0, 0, 0⟩, B0⟩) := by kernel_rfl
theorem block_run (w : World) (os : OsState) : segRun treeTable pw w 11 (some (.ref 6)) 1 1 (stT (T0 w.params) 15 187 os).abs (blockOf (behindTheImports pw) env0 cE ⟨0, 0, 0, 0⟩ B0) = some (.next, (stT (T0 w.params) 15 187 os).abs, cE, ⟨0, 0, 0, 0⟩) := by kernel_rfl
theorem body_is : behindTheImports pw = sts 0 11 ++ (sts 11 1 ++ (sts 12 1 ++ (stAt 13 :: (sts 14 8 ++ [])))) := by kernel_rfl
theorem fin_run (s : Shared) (w : World) : topRun treeTable pw w 11 (some (.ref 6)) 2 s (restOf [] env0 cE ⟨91, 0, 104, 111⟩ B0) = some s := by
  obtain ⟨a, b, c, d, e⟩ := s
  kernel_rfl
noncomputable def steps0 : Nat := 12 + (1 + (254 + (999 + (30 + ((204 + 2) + 12524)))))
theorem top_run (w : World) (os : OsState) : topRun treeTable pw w 11 (some (.ref 6)) steps0 ⟨boot_heap w.params, ⟨[]⟩, boot_drawn, boot_toks, os⟩ (topStub pw) = some ⟨H1 w.params, ⟨[]⟩, {}, 2326, os⟩ := by
  have S := setO (!w.params.followText "set-order")
  refine go_top (pre_run w os) ?_
  refine piece_block (block_run w os) ?_
  rw [body_is]
  refine piece_app (segRun_of (run0 w os)) ?_
  refine piece_app (segRun_of (run11 w os)) ?_
  refine piece_app (segRun_of (run12 _ w os)) ?_
  unfold restOf
  rw [execs_cons_wrap]
  refine go13 _ w os _ _ _ _ _ _ (204 + 2) _ ?_
  refine piece_app (segRun_of (run14 _ dAt w os)) ?_
  exact fin_run _ w
theorem left : LeftO pw qv looseN xt hook.obs hook.val 20000 :=
  LeftO.of_pieces (H₀ := boot_heap) (H₁ := H1) (gs₀ := ⟨[]⟩) (gs₁ := ⟨[]⟩) (d₀ := boot_drawn) (d₁ := {}) (k₀ := boot_toks) (k₁ := 2326) (m₀ := 11) (ann := some (.ref 6)) (M := steps0)
    (boot_open (by kernel_rfl) (by decide) (fun _ => rfl)) (fun w => by kernel_rfl) top_run (by decide)
    (fun w => by
      funext os
      rw [looks_b w os, looks_c w os, looks_a w os])
end Mine
end
section
open PySem PySem.W PySem.Calls PyProof.Rows
set_option maxRecDepth 100000
set_option maxHeartbeats 4000000
namespace Mine
theorem use_claim {w : World} {K : Frag} {p : Program} {loose : List Str} {mean : ExcName → Option Value} {mg mb : Str → Option Value} {f : Addr} {news : List (Addr × Obj)} {pre : Prop} {vs : List Value} {R : Tok → Value}
    (C : CbClaim pw w K p loose mean mg mb f news [] pre vs R) {dp un : Nat} {gd : Option (List Code)} {cn : Str} {cs : Scope} {a : Addr} {ccd : Value} {cl : List (Str × Addr)} {outer : List Env} {A₀ : Around} {base h₀ : Heap} {L : Addr} {m : Str → Option Value} {s : Shared} {Q E : Value → Shared → Prop}
    (B : Below A₀ base outer h₀) (F : Fr h₀ L s.heap m) (X : K.In h₀) (N : News h₀ L s.heap news) (T : Top p loose mean mg mb h₀) (hk : cs.kind = .function) (hp : pre) (hd : dp + 1 < recursionLimit) (hu : un + 8 < cLine) (hr : CbRet h₀ L m news s Q R) :
    wpAny (model pw w) (ktrTop dp un gd cn cs L a ccd cl outer) (call (.ref f) vs) Q E s :=
  C dp un gd cn cs a ccd cl outer A₀ base h₀ L m s Q E B F X N T hk hp hd hu hr
noncomputable def signs : List Nat := [173, 847, 6150, 6155, 6156, 6157, 8203, 8204, 8205, 8288, 65279]
noncomputable def goneC (turn : Int) : Nat := if turn.fmod 27 < 11 then signs.getD (turn.fmod 27).toNat 0 else (65013 + turn.fmod 27).toNat
theorem item_signs : ∀ k : Fin 11, Txt.item (match (stAt 16) with | .FunctionDef _ _ [_, .Return (some (.IfExp _ (.Subscript (.Constant (.str x) _ _) _ _) _ _)) _] _ _ _ _ _ _ _ => x | _ => ⟨#[]⟩) (k.val : Int) = ⟨#[signs.getD k.val 0]⟩ := by decide +kernel
theorem fmod_pos (a b : Int) (h : 0 < b) : 0 ≤ a.fmod b ∧ a.fmod b < b := by
  rw [Int.fmod_eq_emod_of_nonneg a (Int.le_of_lt h)]
  exact ⟨Int.emod_nonneg a (by omega), Int.emod_lt_of_pos a h⟩
theorem item_gone (turn : Int) (h : turn.fmod 27 < 11) : Txt.item (match (stAt 16) with | .FunctionDef _ _ [_, .Return (some (.IfExp _ (.Subscript (.Constant (.str x) _ _) _ _) _ _)) _] _ _ _ _ _ _ _ => x | _ => ⟨#[]⟩) (turn.fmod 27) = ⟨#[goneC turn]⟩ := by
  have h0 := (fmod_pos turn 27 (by decide)).1
  obtain ⟨k, hk⟩ : ∃ k : Nat, turn.fmod 27 = (k : Int) := ⟨(turn.fmod 27).toNat, by omega⟩
  have e := item_signs ⟨k, by omega⟩
  unfold goneC
  rw [if_pos h, hk]
  exact e
theorem far_gone (turn : Int) (h : ¬ turn.fmod 27 < 11) : (⟨#[(65013 + turn.fmod 27).toNat]⟩ : Str) = ⟨#[goneC turn]⟩ := by
  unfold goneC
  rw [if_neg h]
theorem gone_spec : PySem.Challenge.rw_tc0035_01 = PySem.Challenge.rw_tc0035_01 → ∀ (w : World) (mean : ExcName → Option Value) (mg mb : Str → Option Value) (turn : Int) (t : Tok) (news : List (Addr × Obj)),
    CbClaim pw w (kpart w.params) qv (looseW qv looseN) mean mg mb 134 news [] (0 ≤ turn ∧ turn < 100000000) [.int turn t] (fun t => .str ⟨#[goneC turn]⟩ t) := by
  k_fill
  intro _
  dsimp only [CbClaim, CbLists, CbRet]
  intros
  rename_i hret
  refine wpAny_call ?_
  k_dflt cell_enter
  k_steps
  · refine cb_retS hret ?_ (by assumption) (by assumption)
    exact item_gone _ (by assumption)
  · refine cb_retS hret ?_ (by assumption) (by assumption)
    exact far_gone _ (by omega)
end Mine
end
section
open PySem PySem.W PySem.Calls PyProof.Rows
set_option maxRecDepth 100000
set_option maxHeartbeats 4000000
namespace Mine
noncomputable def menu : List Int := [97, 65, 119808, 119860, 119912, 120016, 120172, 120224, 120276, 120328, 120380, 120432]
noncomputable def spelledC (place turn : Int) : Nat := (menu.getD (turn.fmod 12).toNat 0 + place).toNat
theorem menu_lo (k : Int) (h0 : 0 ≤ k) (h1 : k < 12) : 65 ≤ menu.getD k.toNat 0 ∧ menu.getD k.toNat 0 ≤ 120432 := by
  obtain ⟨n, rfl⟩ : ∃ n : Nat, k = (n : Int) := ⟨k.toNat, by omega⟩
  have : ∀ n : Fin 12, 65 ≤ menu.getD n.val 0 ∧ menu.getD n.val 0 ≤ 120432 := by decide
  exact this ⟨n, by omega⟩
theorem spelled_lo {k place : Int} (h0 : 0 ≤ k) (h1 : k < 12) (p0 : 0 ≤ place) (p1 : place < 26) : 0 ≤ menu.getD k.toNat 0 + place ∧ menu.getD k.toNat 0 + place ≤ 1114111 := by
  have := menu_lo k h0 h1
  omega
theorem spelled_spec : PySem.Challenge.rw_tc0035_01 = PySem.Challenge.rw_tc0035_01 → ∀ (w : World) (mean : ExcName → Option Value) (mg mb : Str → Option Value) (place turn : Int) (t u : Tok) (news : List (Addr × Obj)),
    CbClaim pw w (kpart w.params) qv (looseW qv looseN) mean mg mb 141 news [] (0 ≤ place ∧ place < 26 ∧ 0 ≤ turn ∧ turn < 100000000) [.int place t, .int turn u] (fun t => .str ⟨#[spelledC place turn]⟩ t) := by
  k_fill
  intro _
  dsimp only [CbClaim, CbLists, CbRet]
  intros
  rename_i hp _ _ hret
  refine wpAny_call ?_
  k_dflt cell_enter
  k_steps
  refine chr_of_range (spelled_lo (by assumption) (by assumption) hp.1 hp.2.1).1 (spelled_lo (by assumption) (by assumption) hp.1 hp.2.1).2 ?_
  k_steps
  refine cb_retS hret rfl (by assumption) (cb_drop (by assumption) (fun _ h => .tail _ h))
noncomputable def b3D : List (Int × PyData) := b3Pairs.map fun q => (q.1, .str q.2)
theorem keysOk_nodup : ∀ {l : List (Int × Str)}, KeysOk l → (l.map (·.1)).Nodup
  | [], _ => List.nodup_nil
  | q :: r, ⟨_, b, c⟩ => by
    rw [List.map_cons, List.nodup_cons]
    refine ⟨fun h => ?_, keysOk_nodup c⟩
    obtain ⟨q', hq, e⟩ := List.mem_map.mp h
    exact b q' hq e.symm
theorem b3_ok : KeysOk b3Pairs := keysUp_ok (Int.le_refl 0) keys13
theorem look82 (P : Params) : (kpart P).lookup 82 = some (dO b3Ents) := by kernel_rfl
theorem nums82 : KTD.numsLook b3Ents b3D = true := by kernel_rfl
theorem keyed82 {P : Params} {h : Heap} (X : (kpart P).In h) : KTD.Keyed h 82 b3D := by
  intro prog w
  obtain ⟨hk, kvs, hp, hf, hm⟩ := KTD.nums_of_look prog w nums82
  refine ⟨by decide, kvs, ⟨dO b3Ents, b3Ents.toArray, b3Ents.length, X _ _ (look82 P), ⟨rfl, rfl, rfl⟩, rfl, fun e he => hk e (by simpa using he), hp, ?_⟩, hf⟩
  rw [hm]
  have := keysOk_nodup b3_ok
  rw [show b3D.map (·.1) = b3Pairs.map (·.1) by unfold b3D; rw [List.map_map]; rfl]
  exact this
noncomputable def b3At (c : Nat) : Option Str := b3Pairs.lookup (c : Int)
noncomputable def foldsTo (c r : Nat) : Bool := match b3At c with
  | some s => decide (s = ⟨#[r]⟩)
  | none => decide (Txt.lower ⟨#[c]⟩ = ⟨#[r]⟩)
theorem lookup_mem : ∀ {l : List (Int × Str)}, KeysOk l → ∀ {k : Int} {x : Str}, (k, x) ∈ l → l.lookup k = some x
  | q :: r, ⟨_, b, c⟩, k, x, h => by
    rw [List.lookup_cons]
    rcases List.mem_cons.mp h with rfl | h
    · simp
    · have : (k == q.1) = false := by
        have := b (k, x) h
        simp only [beq_eq_false_iff_ne]
        exact fun e => this e.symm
      rw [this]
      exact lookup_mem c h
theorem lookup_low : ∀ {a : Int} {l : List (Int × Str)}, keysUp a l = true → ∀ {k : Int}, k ≤ a → l.lookup k = none
  | _, [], _, _, _ => rfl
  | a, q :: r, h, k, hk => by
    simp only [keysUp, Bool.and_eq_true, decide_eq_true_eq] at h
    rw [List.lookup_cons]
    have : (k == q.1) = false := by
      simp only [beq_eq_false_iff_ne]
      omega
    rw [this]
    exact lookup_low h.2 (by omega)
theorem keys180 : keysUp 180 b3Pairs = true := by kernel_rfl
noncomputable def starts : List Nat := [202, 228, 254, 298, 364, 390, 416, 442, 468, 494]
theorem alphabets : ((List.range 10).all fun k => (List.range 26).all fun p => decide ((b3Pairs.drop (starts.getD k 0))[p]? = some (menu.getD (k + 2) 0 + (p : Int), (⟨#[97 + p]⟩ : Str)))) = true := by kernel_rfl
theorem lowers : ((List.range 26).all fun p => decide (Txt.lower ⟨#[97 + p]⟩ = ⟨#[97 + p]⟩) && decide (Txt.lower ⟨#[65 + p]⟩ = ⟨#[97 + p]⟩)) = true := by decide +kernel
theorem spelled_folds (k p : Nat) (hk : k < 12) (hp : p < 26) : foldsTo (spelledC (p : Int) (k : Int)) (97 + p) = true := by
  have hf : (k : Int).fmod 12 = k := by
    rw [Int.fmod_eq_emod_of_nonneg _ (by decide)]
    omega
  have hlow := lowers
  simp only [List.all_eq_true, List.mem_range, Bool.and_eq_true, decide_eq_true_eq] at hlow
  unfold foldsTo spelledC b3At
  rw [hf, Int.toNat_natCast]
  rcases Nat.lt_or_ge k 2 with h2 | h2
  · have hm : menu.getD k 0 = 97 ∨ menu.getD k 0 = 65 := by
      rcases k with _ | _ | k
      · exact .inl rfl
      · exact .inr rfl
      · omega
    have hb : menu.getD k 0 + (p : Int) ≤ 180 := by omega
    have hn : ((menu.getD k 0 + (p : Int)).toNat : Int) = menu.getD k 0 + (p : Int) := by omega
    rw [hn, lookup_low keys180 hb]
    rcases hm with hm | hm
    · rw [hm, show ((97 : Int) + (p : Int)).toNat = 97 + p by omega]
      exact decide_eq_true (hlow p hp).1
    · rw [hm, show ((65 : Int) + (p : Int)).toNat = 65 + p by omega]
      exact decide_eq_true (hlow p hp).2
  · have ha := alphabets
    simp only [List.all_eq_true, List.mem_range, decide_eq_true_eq] at ha
    have hq := ha (k - 2) (by omega) p hp
    rw [show k - 2 + 2 = k by omega] at hq
    have hmem : (menu.getD k 0 + (p : Int), (⟨#[97 + p]⟩ : Str)) ∈ b3Pairs := List.mem_of_mem_drop (List.mem_of_getElem? hq)
    have h0 : 0 ≤ menu.getD k 0 + (p : Int) := by
      have := (menu_lo (k : Int) (by omega) (by omega)).1
      rw [Int.toNat_natCast] at this
      omega
    rw [Int.toNat_of_nonneg h0, lookup_mem b3_ok hmem]
    exact decide_eq_true rfl
end Mine
end
section
open PySem PySem.W PySem.Calls PyProof.Rows
set_option maxRecDepth 100000
set_option maxHeartbeats 4000000
namespace Mine
theorem each_of {h : Heap} {k : Int} {P : Value → Prop} {els : Prop} : ∀ (l : List (Int × Str)), (∀ x, l.lookup k = some x → ∀ t, P (.str x t)) → (l.lookup k = none → els) → KTD.Each h k P els (KTD.asDat (l.map fun q => (q.1, PyData.str q.2)))
  | [], _, h2 => h2 rfl
  | q :: r, h1, h2 => by
    refine KTD.each_ite ?_
    by_cases e : k = q.1
    · rw [if_pos (decide_eq_true e)]
      have : (q :: r).lookup k = some q.2 := by rw [List.lookup_cons, beq_iff_eq.mpr e]
      exact fun t => h1 _ this t
    · rw [if_neg (by simpa using e)]
      have z : (q :: r).lookup k = r.lookup k := by
        have : (k == q.1) = false := by simpa using e
        rw [List.lookup_cons, this]
      rw [z] at h1 h2
      exact each_of r h1 h2
theorem folds_some {c r : Nat} {x : Str} (hp : foldsTo c r = true) (hx : b3Pairs.lookup (c : Int) = some x) : x = ⟨#[r]⟩ := by
  unfold foldsTo b3At at hp
  rw [hx] at hp
  exact of_decide_eq_true hp
theorem folds_none {c r : Nat} (hp : foldsTo c r = true) (hx : b3Pairs.lookup (c : Int) = none) : Txt.lower ⟨#[c]⟩ = ⟨#[r]⟩ := by
  unfold foldsTo b3At at hp
  rw [hx] at hp
  exact of_decide_eq_true hp
theorem map_spec : PySem.Challenge.rw_tc0035_01 = PySem.Challenge.rw_tc0035_01 → ∀ (w : World) (mean : ExcName → Option Value) (mg mb : Str → Option Value) (c r : Nat) (t : Tok) (news : List (Addr × Obj)),
    CbClaim pw w (kpart w.params) qv (looseW qv looseN) mean mg mb 127 news [] (foldsTo c r = true) [.str ⟨#[c]⟩ t] (fun t => .str ⟨#[r]⟩ t) := by
  k_fill
  intro _
  dsimp only [CbClaim, CbLists, CbRet]
  intros
  rename_i hp _ _ hret
  refine wpAny_call ?_
  k_dflt cell_enter
  k_steps
  have K82 := keyed82 (show (kpart _).In _ by assumption)
  refine KTD.getMethod_keyed K82 ?hk ?_
  case hk => exact Fr.keep (by assumption)
  k_steps
  refine each_of b3Pairs (fun x hx tx => ?_) (fun hx => ?_)
  · have hr := folds_some hp hx
    subst hr
    k_steps
    exact cb_retS hret rfl (by assumption) (by assumption)
  · have hr := folds_none hp hx
    k_steps
    refine SCL.lower (by show (1:Nat) ≤ 5592405; decide) ?_
    intro _
    rw [hr]
    k_steps
    exact cb_retS hret rfl (by assumption) (by assumption)
end Mine
end
section
open PySem PySem.W PySem.Calls PyProof.Rows
set_option maxRecDepth 100000
set_option maxHeartbeats 4000000
namespace Mine
namespace HA
theorem lk_item : typeLookup (.type "str") "__getitem__" = pure (some (.builtin "str.__getitem__")) := by rw [typeLookup_type, builtinLookup_eq_fast]; kernel_rfl
theorem ty_item : typeOf (.builtin "str.__getitem__") = pure (.type "wrapper_descriptor") := by kernel_rfl
theorem slot_get : Slot "wrapper_descriptor" "__get__" "wrapper_descriptor.__get__" :=
  .of (owner := "wrapper_descriptor") (n := "__get__") (by rw [typeLookup_type, builtinLookup_eq_fast]; kernel_rfl) (by decide +kernel) (by decide +kernel) (by decide +kernel)
    (by first | exact .inl (by decide +kernel) | exact .inr (by decide +kernel)) (by rw [isSubtype_type]; kernel_rfl)
theorem no_set : typeLookup (.type "wrapper_descriptor") "__set__" = pure none := by rw [typeLookup_type, builtinLookup_eq_fast]; kernel_rfl
theorem no_del : typeLookup (.type "wrapper_descriptor") "__delete__" = pure none := by rw [typeLookup_type, builtinLookup_eq_fast]; kernel_rfl
theorem entry_get : entryFor table "wrapper_descriptor.__get__" = some Builtin.«wrapper_descriptor.__get__» := entryFor_of_tree (by kernel_rfl)
theorem args_get (a b c : Value) : argsOk "wrapper_descriptor.__get__" ⟨[a, b, c], []⟩ := by unfold argsOk; kernel_rfl
theorem owner_item : (".".intercalate ("str.__getitem__".cutAt '.').dropLast) = "str" := by
  have e0 : "str.__getitem__".cutAt '.' = ["str", "__getitem__"] := by first | rfl | decide +kernel
  rw [e0]; decide +kernel
theorem sub_item : isSubtype (.type "str") (.type (".".intercalate ("str.__getitem__".cutAt '.').dropLast)) = pure true := by
  rw [owner_item, isSubtype_type]; kernel_rfl
section
variable {prog : Program} {w : World} {A : Around} {E : Value → Shared → Prop} {h : Heap} {g : Array GenState} {d : Drawn} {t : Nat} {os : OsState} {x : Str} {u : Tok}
noncomputable def wrapO (v : Value) : Obj := { cls := .type "method-wrapper", data := .fields #[.builtin "str.__getitem__", v] }
theorem item_get {R : Result → Shared → Prop} (hq : R (.ok (.ret (.ref h.objs.size))) ⟨h.push (wrapO (.str x u)), g, d, t, os⟩) :
    codeAny (model prog w) A (.call (.builtin "wrapper_descriptor.__get__") ⟨[.builtin "str.__getitem__", .str x u, .type "str"], []⟩) R ⟨h, g, d, t, os⟩ := by
  have hT : (⟨h, g, d, t, os⟩ : Shared).TypeIs (.str x u) "str" := rfl
  have hT5 : (⟨h, g, d, t, os⟩ : Shared).TypeIs (.builtin "str.__getitem__") "wrapper_descriptor" := ty_item
  have f8 := sub_item
  refine codeAny_call_builtin slot_get.plain entry_get (slot_get.check _ _ _ _ _ _ _ _ hT5 (args_get _ _ _) ?_)
  unfold Builtin.«wrapper_descriptor.__get__»
  repeat (any_goals (first | assumption | wp_step))
theorem item_entry {tk : Tok} {Q : Fin → Shared → Prop} (hq : Q (.done (.ret (.ref h.objs.size))) ⟨h.push (wrapO (.str x u)), g, d, t, os⟩) :
    wpAny (model prog w) A (Builtin.«object.__getattribute__» ⟨[.str x u, .str "__getitem__" tk], []⟩) Q E ⟨h, g, d, t, os⟩ := by
  have hT : (⟨h, g, d, t, os⟩ : Shared).TypeIs (.str x u) "str" := rfl
  have hT5 : (⟨h, g, d, t, os⟩ : Shared).TypeIs (.builtin "str.__getitem__") "wrapper_descriptor" := ty_item
  have f4 := lk_item
  have f5 := ty_item
  have f6 := slot_get.lookup
  have f7 := no_set
  have f8 := no_del
  repeat (any_goals (first | assumption | wp_step))
  refine item_get ?_
  repeat (any_goals (first | assumption | wp_step))
theorem item_call {tk : Tok} {R : Result → Shared → Prop} (hq : R (.ok (.ret (.ref h.objs.size))) ⟨h.push (wrapO (.str x u)), g, d, t, os⟩) :
    codeAny (model prog w) A (.call (.builtin "object.__getattribute__") ⟨[.str x u, .str "__getitem__" tk], []⟩) R ⟨h, g, d, t, os⟩ :=
  codeAny_call_builtin F.slot_str_getattribute.plain F.entry_object_getattribute (F.slot_str_getattribute.check _ _ _ _ _ _ _ _ (show (⟨h, g, d, t, os⟩ : Shared).TypeIs (.str x u) "str" from rfl) (F.args_object_getattribute_2 _ _) (item_entry hq))
theorem item_by {tk : Tok} {Q : Value → Shared → Prop} (hq : Q (.ref h.objs.size) ⟨h.push (wrapO (.str x u)), g, d, t, os⟩) : wpAny (model prog w) A (getAttrBy (.str x u) (.str "__getitem__" tk) false) Q E ⟨h, g, d, t, os⟩ := by
  have hT : (⟨h, g, d, t, os⟩ : Shared).TypeIs (.str x u) "str" := rfl
  have f2 := F.slot_str_getattribute.lookup
  have f3 := F.slot_str_getattribute.bind (.str x u)
  repeat (any_goals (first | assumption | wp_step))
  refine item_call ?_
  repeat (any_goals (first | assumption | wp_step))
theorem entry : entryFor table "hasattr" = some Builtin.«hasattr» := entryFor_of_tree (by kernel_rfl)
theorem ha_entry {tk : Tok} {Q : Fin → Shared → Prop} (hq : Q (.done (.ret (.bool true))) ⟨h.push (wrapO (.str x u)), g, d, t, os⟩) :
    wpAny (model prog w) A (Builtin.«hasattr» ⟨[.str x u, .str "__getitem__" tk], []⟩) Q E ⟨h, g, d, t, os⟩ := by
  have hT : (⟨h, g, d, t, os⟩ : Shared).TypeIs (.str x u) "str" := rfl
  have f4 := lk_item
  have f2 := F.slot_str_getattribute.lookup
  unfold Builtin.«hasattr» getAttrBy?
  repeat (any_goals (first | assumption | with_reducible apply item_by | wp_step))
theorem kind_ha : builtinKind "hasattr" = none := by decide +kernel
theorem plain_ha : plainId "hasattr" = true := by decide +kernel
theorem args_ha (a b : Value) : argsOk "hasattr" ⟨[a, b], []⟩ := by unfold argsOk; kernel_rfl
theorem hasattr_item {s : Shared} {tk : Tok} {Q : Value → Shared → Prop} (hq : Q (.bool true) { s with heap := s.heap.push (wrapO (.str x u)) }) :
    wpAny (model prog w) A (call (.builtin "hasattr") [.str x u, .str "__getitem__" tk]) Q E s := by
  obtain ⟨h, g, d, t, os⟩ := s
  refine call_function_entry kind_ha plain_ha entry (args_ha _ _) (ha_entry ⟨_, rfl, hq⟩)
end
end HA
end Mine
end
section
open PySem PySem.W PySem.Calls PyProof.Rows
set_option maxRecDepth 100000
set_option maxHeartbeats 4000000
namespace Mine
section
variable {prog : Program} {w : World} {A : Around} {E : Value → Shared → Prop} {s : Shared} {h₀ : Heap} {L : Addr} {m : Str → Option Value} {news : List (Addr × Obj)}
theorem hasattr_N {x : Str} {u tk : Tok} {Q : Value → Shared → Prop} (F : Fr h₀ L s.heap m) (N : News h₀ L s.heap news) (hq : ∀ h', Fr h₀ L h' m → News h₀ L h' news → Q (.bool true) { s with heap := h' }) :
    wpAny (model prog w) A (call (.builtin "hasattr") [.str x u, .str "__getitem__" tk]) Q E s :=
  HA.hasattr_item (hq _ (F.push _) (N.pushKeep _))
end
local macro_rules | `(tactic| walk_at "call builtin:hasattr") => `(tactic| (k_here; k_dflt (refine' hasattr_N ?F ?N ?_; (case F => k_asm); (case N => k_asm); intro h' F' N')))
theorem concat_spec : PySem.Challenge.rw_tc0035_01 = PySem.Challenge.rw_tc0035_01 → ∀ (w : World) (mean : ExcName → Option Value) (mg mb : Str → Option Value) (a b : Str) (t u : Tok) (news : List (Addr × Obj)),
    CbClaim pw w (kpart w.params) qv (looseW qv looseN) mean mg mb 42 news [] (a.length ≤ 100 ∧ b.length ≤ 100) [.str a t, .str b u] (fun t => .str (a ++ b) t) := by
  k_fill
  intro _
  dsimp only [CbClaim, CbLists, CbRet]
  intros
  rename_i hret
  refine wpAny_call ?_
  k_dflt cell_enter
  k_steps
  exact cb_retS hret rfl (by assumption) (by assumption)
theorem xor_spec : PySem.Challenge.rw_tc0035_01 = PySem.Challenge.rw_tc0035_01 → ∀ (w : World) (mean : ExcName → Option Value) (mg mb : Str → Option Value) (a b : Int) (t u : Tok) (news : List (Addr × Obj)),
    CbClaim pw w (kpart w.params) qv (looseW qv looseN) mean mg mb 35 news [] (0 ≤ a ∧ a < 64 ∧ 0 ≤ b ∧ b < 64) [.int a t, .int b u] (fun t => .int (PySem.Builtin.bitXor a b) t) := by
  k_fill
  intro _
  dsimp only [CbClaim, CbLists, CbRet]
  intros
  rename_i hret
  refine wpAny_call ?_
  k_dflt cell_enter
  k_steps
  exact cb_retI hret rfl (by assumption) (by assumption)
theorem and_spec : PySem.Challenge.rw_tc0035_01 = PySem.Challenge.rw_tc0035_01 → ∀ (w : World) (mean : ExcName → Option Value) (mg mb : Str → Option Value) (a b : Int) (t u : Tok) (news : List (Addr × Obj)),
    CbClaim pw w (kpart w.params) qv (looseW qv looseN) mean mg mb 21 news [] (0 ≤ a ∧ a < 64 ∧ 0 ≤ b ∧ b < 64) [.int a t, .int b u] (fun t => .int (PySem.Builtin.bitAnd a b) t) := by
  k_fill
  intro _
  dsimp only [CbClaim, CbLists, CbRet]
  intros
  rename_i hret
  refine wpAny_call ?_
  k_dflt cell_enter
  k_steps
  exact cb_retI hret rfl (by assumption) (by assumption)
theorem mul_spec : PySem.Challenge.rw_tc0035_01 = PySem.Challenge.rw_tc0035_01 → ∀ (w : World) (mean : ExcName → Option Value) (mg mb : Str → Option Value) (a b : Int) (t u : Tok) (news : List (Addr × Obj)),
    CbClaim pw w (kpart w.params) qv (looseW qv looseN) mean mg mb 28 news [] (0 ≤ a ∧ a < 1000 ∧ 0 ≤ b ∧ b < 1000) [.int a t, .int b u] (fun t => .int (a * b) t) := by
  k_fill
  intro _
  dsimp only [CbClaim, CbLists, CbRet]
  intros
  rename_i hret
  refine wpAny_call ?_
  k_dflt cell_enter
  k_steps
  exact cb_retI hret rfl (by assumption) (by assumption)
end Mine
end
section
open PySem PySem.W PySem.Calls PyProof.Rows
set_option maxRecDepth 100000
set_option maxHeartbeats 4000000
namespace Mine
noncomputable def b1List : List Int := [65024, 65025, 65026, 65027, 65028, 65029, 6150, 65030, 65031, 65032, 65033, 6155, 6156, 6157, 8203, 8204, 8205, 65034, 65035, 65036, 65037, 65038, 65039, 173, 847, 8288, 65279]
noncomputable def inB1 (k : Int) : Bool := b1List.any (· == k)
noncomputable def setEs (led : Bool) : List (Int × Value) := match (setO led).data with | .set es _ _ => es.toList | _ => []
noncomputable def intsIn : List (Int × Value) → List Int → Bool
  | [], [] => true
  | (h, .int n _) :: r, k :: ks => decide (h = hashInt k) && decide (n = k) && intsIn r ks
  | _, _ => false
section
variable {prog : Program} {w : World} {A : Around} {E : Value → Shared → Prop} {s : Shared} {h₀ : Heap} {L : Addr} {m : Str → Option Value} {news : List (Addr × Obj)}
theorem set_at (led : Bool) (P : Params) (hl : (!P.followText "set-order") = led) : (kpart P).lookup 71 = some (setO led) := by
  subst hl
  kernel_rfl
theorem elems_of : ∀ (l : List (Int × Value)) (ns : List Int), intsIn l ns = true → ElemsOf (PySem.intKind prog w) l ∧ ∀ k : Int, (ns.any (· == k)) = true ↔ ∃ e ∈ l, (PySem.intKind prog w).is k e.2 = true
  | [], [], _ => ⟨fun e h => absurd h List.not_mem_nil, fun k => ⟨fun h => (by cases h), fun ⟨e, h, _⟩ => absurd h List.not_mem_nil⟩⟩
  | [], _ :: _, h => by cases h
  | (_, .int _ _) :: _, [], h => by cases h
  | (h, .int n t) :: r, k :: ks, hi => by
    simp only [intsIn, Bool.and_eq_true, decide_eq_true_eq] at hi
    obtain ⟨⟨rfl, rfl⟩, hr⟩ := hi
    obtain ⟨a, b⟩ := elems_of r ks hr
    refine ⟨fun e he => ?_, fun k => ?_⟩
    · rcases List.mem_cons.mp he with rfl | he
      · exact ⟨⟨n, intKind_is _ _ _ _, rfl⟩, rfl⟩
      · exact a e he
    · rw [List.any_cons, Bool.or_eq_true, b k]
      constructor
      · rintro (h | ⟨e, he, h⟩)
        · rw [beq_iff_eq] at h
          subst h
          exact ⟨_, .head _, intKind_is _ _ _ _⟩
        · exact ⟨e, .tail _ he, h⟩
      · rintro ⟨e, he, h⟩
        rcases List.mem_cons.mp he with rfl | he
        · refine .inl ?_
          obtain ⟨t', ht⟩ := Value.isInt_shape (show Value.isInt k (.int n t) = true from h)
          injection ht with h1
        · exact .inr ⟨e, he, h⟩
theorem ints71 (led : Bool) : intsIn (setEs led) b1List = true := by cases led <;> decide +kernel
theorem set71 {P : Params} {h : Heap} (X : (kpart P).In h) : h.SetOf (PySem.intKind prog w) 71 inB1 27 := by
  obtain ⟨a, b⟩ := elems_of (prog := prog) (w := w) _ _ (ints71 (!P.followText "set-order"))
  exact ⟨setO (!P.followText "set-order"), _, _, _, X _ _ (set_at _ P rfl), ⟨rfl, rfl, rfl⟩, rfl, a, b, by show (27 : Nat) < 4096; decide, by show SetTable.fits _ 27 = true; cases (!P.followText "set-order") <;> decide +kernel, rfl⟩
theorem in71 {P : Params} {k : Int} {t : Tok} {Q : Value → Shared → Prop} (F : Fr h₀ L s.heap m) (X : (kpart P).In h₀) (h : Q (.bool (inB1 k)) { s with toks := s.toks + 1 }) :
    wpAny (model prog w) A (compareOp .In (.int k t) (.ref 71)) Q E s :=
  wpAny_inSet_of (knd := PySem.intKind prog w) (intKind_is _ _ _ _) rfl (set71 (P := P) (fun a o z => F.keep a o (X a o z))) h
end
theorem in_spec : PySem.Challenge.rw_tc0035_01 = PySem.Challenge.rw_tc0035_01 → ∀ (w : World) (mean : ExcName → Option Value) (mg mb : Str → Option Value) (c : Nat) (t : Tok) (news : List (Addr × Obj)),
    CbClaim pw w (kpart w.params) qv (looseW qv looseN) mean mg mb 81 news [] True [.str ⟨#[c]⟩ t] (fun _ => .bool (inB1 (c : Int))) := by
  k_fill
  intro _
  dsimp only [CbClaim, CbLists, CbRet]
  intros
  rename_i hret
  refine wpAny_call ?_
  k_dflt cell_enter
  k_steps
  refine in71 (by assumption) (show (kpart _).In _ by assumption) ?_
  k_steps
  exact cb_retB hret rfl (by assumption) (by assumption)
end Mine
end
section
open PySem PySem.W PySem.Calls PyProof.Rows PySem.Builtin PySem.Builtin.Str
set_option maxRecDepth 100000
set_option maxHeartbeats 4000000
namespace Mine
section
variable {prog : Program} {w : World} {A : Around} {E : Value → Shared → Prop} {s : Shared} {h₀ : Heap} {L : Addr} {m : PySem.Str → Option Value} {news : List (Addr × Obj)} {x y : PySem.Str} {t u : Tok} {Q : Value → Shared → Prop}
theorem split13 {a b c : Str} (hs : Txt.split x y = [a, b, c]) (hF : Fr h₀ L s.heap m) (hN : News h₀ L s.heap news) (hy : (y.length == 0) = false) (hsz : x.length + 2 ≤ sizeLine)
    (h : ∀ D t1 t2 t3 h' k, Fr h₀ L h' m → News h₀ L h' ((D, listOf #[.str a t1, .str b t2, .str c t3] 0) :: news) → (∀ p ∈ news, p.1 < D) → Q (.ref D) { s with heap := h', toks := k }) :
    wpAny (model prog w) A (call (.builtin "str.split") [.str x t, .str y u]) Q E s := by
  refine KSpl.split1 hF hN hy (fun D l h' k e0 sa F N z => ?_) hsz
  rw [hs] at e0
  obtain ⟨t1, l1, rfl, e1⟩ := KSpl.cons_of e0
  obtain ⟨t2, l2, rfl, e2⟩ := KSpl.cons_of e1
  obtain ⟨t3, l3, rfl, e3⟩ := KSpl.cons_of e2
  obtain rfl := KSpl.nil_of e3
  exact h D t1 t2 t3 h' k F N z
theorem split14 {a b c d : Str} (hs : Txt.split x y = [a, b, c, d]) (hF : Fr h₀ L s.heap m) (hN : News h₀ L s.heap news) (hy : (y.length == 0) = false) (hsz : x.length + 2 ≤ sizeLine)
    (h : ∀ D t1 t2 t3 t4 h' k, Fr h₀ L h' m → News h₀ L h' ((D, listOf #[.str a t1, .str b t2, .str c t3, .str d t4] 0) :: news) → (∀ p ∈ news, p.1 < D) → Q (.ref D) { s with heap := h', toks := k }) :
    wpAny (model prog w) A (call (.builtin "str.split") [.str x t, .str y u]) Q E s := by
  refine KSpl.split1 hF hN hy (fun D l h' k e0 sa F N z => ?_) hsz
  rw [hs] at e0
  obtain ⟨t1, l1, rfl, e1⟩ := KSpl.cons_of e0
  obtain ⟨t2, l2, rfl, e2⟩ := KSpl.cons_of e1
  obtain ⟨t3, l3, rfl, e3⟩ := KSpl.cons_of e2
  obtain ⟨t4, l4, rfl, e4⟩ := KSpl.cons_of e3
  obtain rfl := KSpl.nil_of e4
  exact h D t1 t2 t3 t4 h' k F N z
end
noncomputable def find4 (x y : Str) (i j : Int) : Int := match occurrences x y (fromIndex x.length i) (min (fromIndex x.length j) x.length) 1 with | k :: _ => (k : Int) | [] => -1
theorem gives_find4 (x y : Str) (i j : Int) (t u v z : Tok) : PySem.Gives (PySem.Builtin.«str.find» ⟨[.str x t, .str y u, .int i v, .int j z], []⟩) (.int (find4 x y i j)) := by
  show PySem.Gives (match occurrences x y (fromIndex x.length i) (min (fromIndex x.length j) x.length) 1 with | k :: _ => retInt k | [] => (do rule "str.find.not-found"; retInt (-1))) _
  unfold find4
  cases occurrences x y (fromIndex x.length i) (min (fromIndex x.length j) x.length) 1 with
  | nil => exact .rule (.of_eq rfl)
  | cons k _ => exact .of_eq rfl
section
variable {prog : Program} {w : World} {A : Around} {E : Value → Shared → Prop} {s : Shared} {x y : Str} {t u v z : Tok} {i j : Int} {Q : Value → Shared → Prop}
theorem call_find4 (hq : Q (.int (find4 x y i j) s.toks) { s with toks := s.toks + 1 }) : wpAny (model prog w) A (call (.builtin "str.find") [.str x t, .str y u, .int i v, .int j z]) Q E s :=
  call_gives F.slot_str_find (typeIs_str _ _ _) F.entry_str_find (F.args_str_find_4 _ _ _ _) (gives_find4 x y i j t u v z) hq
end
theorem len1 {c : Nat} : ¬ ((⟨#[c]⟩ : Str).length : Int) ≥ 2 ^ 63 := by show ¬ ((1 : Nat) : Int) ≥ 2 ^ 63; decide
theorem len0 : ¬ ((⟨#[]⟩ : Str).length : Int) ≥ 2 ^ 63 := by show ¬ ((0 : Nat) : Int) ≥ 2 ^ 63; decide
section
variable {prog : Program} {w : World} {A : Around} {E : Value → Shared → Prop} {s : Shared} {t : Tok} {Q : Value → Shared → Prop}
theorem call_len0 (h : Q (.int 0 (s.toks + 1)) { s with toks := s.toks + 1 + 1 }) : wpAny (model prog w) A (call (.builtin "len") [.str ⟨#[]⟩ t]) Q E s := PySem.P.len_str len0 h
theorem call_len1 {c : Nat} (h : Q (.int 1 (s.toks + 1)) { s with toks := s.toks + 1 + 1 }) : wpAny (model prog w) A (call (.builtin "len") [.str ⟨#[c]⟩ t]) Q E s := PySem.P.len_str len1 h
end
local macro_rules | `(tactic| walk_at "call builtin:len") => `(tactic| first | refine call_len0 ?_ | refine call_len1 ?_)
local macro_rules | `(tactic| walk_at "call builtin:str.find") => `(tactic| refine call_find4 ?_)
local macro_rules | `(tactic| walk_at "call builtin:str.split") => `(tactic| (k_here; k_dflt (refine' split13 ?S ?F ?N ?y ?z ?_; (case S => exact And.left (by assumption)); (case F => k_asm); (case N => k_asm); (case y => decide); (case z => exact Nat.le_of_ble_eq_true rfl); intro D' t1' t2' t3' h' k' F' N' l1; (try k_lt l1))))
local macro_rules | `(tactic| walk_at "exec For Name Name cons nil") => `(tactic| (k_here; (rename Fr _ _ _ _ => lF'); (with_unfolding_all refine' For_invVF lF' ?k1 ?k2 ?_; (case k1 => exact rfl); (case k2 => exact rfl); k_whole)))
local macro_rules | `(tactic| walk_at "pyIter ref") => `(tactic| ((with_reducible show wpAny _ _ (pyIter (Value.ref _)) (fun it s₂ => LoopAtV _ _ _ _ _ _ _ _ _ it s₂) _ _); (rename Fr _ _ _ _ => lF'); (rename News _ _ _ _ => lN'); (with_unfolding_all refine iter_listUnr (vs := [_, _, _]) (by rfl) lF' lN' (by k_mem) (by rfl) (by rfl) ?_); clear lF'; intro i' l1))
local macro_rules | `(tactic| walk_at "UnrEnd") => `(tactic| (refine UnrEnd.intro (by assumption) (by assumption) _ (fun p hp => hp) (fun p hp => Nat.ne_of_lt ((by assumption : ∀ p ∈ _, p.1 < _) p hp)) ⟨by k_mem, ?_⟩))
noncomputable def m1 (c : Nat) (g : Str) : Bool :=
  if find4 g ⟨#[]⟩ 0 g.length < 0 then false
  else if find4 g ⟨#[c]⟩ (find4 g ⟨#[]⟩ 0 g.length + 0) g.length < 0 then false
  else if find4 g ⟨#[]⟩ (find4 g ⟨#[c]⟩ (find4 g ⟨#[]⟩ 0 g.length + 0) g.length + 1) g.length < 0 then false else true
theorem match1_spec : PySem.Challenge.rw_tc0035_01 = PySem.Challenge.rw_tc0035_01 → ∀ (w : World) (mean : ExcName → Option Value) (mg mb : Str → Option Value) (c : Nat) (g : Str) (t u : Tok) (news : List (Addr × Obj)),
    CbClaim pw w (kpart w.params) qv (looseW qv looseN) mean mg mb 63 news [] (Txt.split ⟨#[46,46,46,c,46,46,46]⟩ ⟨#[46,46,46]⟩ = [⟨#[]⟩, ⟨#[c]⟩, ⟨#[]⟩] ∧ (occurrences ⟨#[46,46,46,c,46,46,46]⟩ (Str.ofString "...") 0 (⟨#[46,46,46,c,46,46,46]⟩ : Str).length 1).isEmpty = false ∧ g.length ≤ 100) [.str ⟨#[46,46,46,c,46,46,46]⟩ t, .str g u] (fun _ => .bool (m1 c g)) := by
  k_fill
  intro _
  dsimp only [CbClaim, CbLists, CbRet]
  intros
  rename_i hp _ _ hret
  refine wpAny_call ?_
  k_dflt cell_enter
  k_steps
  · exact Bool.noConfusion (Eq.trans (Eq.symm hp.2.1) (by assumption))
  · exact cb_retB hret (by unfold m1; rw [if_pos (by assumption)]) (by assumption) (by (first | assumption | exact cb_drop (by assumption) (fun _ h => .tail _ h) | exact cb_drop (by assumption) (fun _ h => .tail _ (.tail _ h)) | exact cb_drop (by assumption) (fun _ h => .tail _ (.tail _ (.tail _ h)))))
  · exact cb_retB hret (by unfold m1; rw [if_neg (by assumption), if_pos (by assumption)]) (by assumption) (by (first | assumption | exact cb_drop (by assumption) (fun _ h => .tail _ h) | exact cb_drop (by assumption) (fun _ h => .tail _ (.tail _ h)) | exact cb_drop (by assumption) (fun _ h => .tail _ (.tail _ (.tail _ h)))))
  · exact cb_retB hret (by unfold m1; rw [if_neg (by assumption), if_neg (by assumption), if_pos (by assumption)]) (by assumption) (by (first | assumption | exact cb_drop (by assumption) (fun _ h => .tail _ h) | exact cb_drop (by assumption) (fun _ h => .tail _ (.tail _ h)) | exact cb_drop (by assumption) (fun _ h => .tail _ (.tail _ (.tail _ h)))))
  · exact cb_retB hret (by unfold m1; rw [if_neg (by assumption), if_neg (by assumption), if_neg (by assumption)]) (by assumption) (by (first | assumption | exact cb_drop (by assumption) (fun _ h => .tail _ h) | exact cb_drop (by assumption) (fun _ h => .tail _ (.tail _ h)) | exact cb_drop (by assumption) (fun _ h => .tail _ (.tail _ (.tail _ h)))))
end Mine
end
section
open PySem PySem.W PySem.Calls PyProof.Rows PySem.Builtin PySem.Builtin.Str
set_option maxRecDepth 100000
set_option maxHeartbeats 4000000
namespace Mine
local macro_rules | `(tactic| walk_at "no such key") => `(tactic| skip)
local macro_rules | `(tactic| walk_at "call builtin:len") => `(tactic| first | refine call_len0 ?_ | refine call_len1 ?_)
local macro_rules | `(tactic| walk_at "call builtin:str.find") => `(tactic| refine call_find4 ?_)
local macro_rules | `(tactic| walk_at "call builtin:str.split") => `(tactic| (k_here; k_dflt (refine' split14 ?S ?F ?N ?y ?z ?_; (case S => exact And.left (by assumption)); (case F => k_asm); (case N => k_asm); (case y => decide); (case z => exact Nat.le_of_ble_eq_true rfl); intro D' t1' t2' t3' t4' h' k' F' N' l1; (try k_lt l1))))
local macro_rules | `(tactic| walk_at "exec For Name Name cons nil") => `(tactic| (k_here; (rename Fr _ _ _ _ => lF'); (with_unfolding_all refine' For_invVF lF' ?k1 ?k2 ?_; (case k1 => exact rfl); (case k2 => exact rfl); k_whole)))
local macro_rules | `(tactic| walk_at "pyIter ref") => `(tactic| ((with_reducible show wpAny _ _ (pyIter (Value.ref _)) (fun it s₂ => LoopAtV _ _ _ _ _ _ _ _ _ it s₂) _ _); (rename Fr _ _ _ _ => lF'); (rename News _ _ _ _ => lN'); (with_unfolding_all refine iter_listUnr (vs := [_, _, _, _]) (by rfl) lF' lN' (by k_mem) (by rfl) (by rfl) ?_); clear lF'; intro i' l1))
local macro_rules | `(tactic| walk_at "UnrEnd") => `(tactic| (refine UnrEnd.intro (by assumption) (by assumption) _ (fun p hp => hp) (fun p hp => Nat.ne_of_lt ((by assumption : ∀ p ∈ _, p.1 < _) p hp)) ⟨by k_mem, ?_⟩))
noncomputable def m2 (a b : Nat) (g : Str) : Bool :=
  if find4 g ⟨#[]⟩ 0 g.length < 0 then false
  else if find4 g ⟨#[a]⟩ (find4 g ⟨#[]⟩ 0 g.length + 0) g.length < 0 then false
  else if find4 g ⟨#[b]⟩ (find4 g ⟨#[a]⟩ (find4 g ⟨#[]⟩ 0 g.length + 0) g.length + 1) g.length < 0 then false
  else if find4 g ⟨#[]⟩ (find4 g ⟨#[b]⟩ (find4 g ⟨#[a]⟩ (find4 g ⟨#[]⟩ 0 g.length + 0) g.length + 1) g.length + 1) g.length < 0 then false else true
theorem match2_spec : PySem.Challenge.rw_tc0035_01 = PySem.Challenge.rw_tc0035_01 → ∀ (w : World) (mean : ExcName → Option Value) (mg mb : Str → Option Value) (a b : Nat) (g : Str) (t u : Tok) (news : List (Addr × Obj)),
    CbClaim pw w (kpart w.params) qv (looseW qv looseN) mean mg mb 63 news [] (Txt.split ⟨#[46,46,46,a,46,46,46,b,46,46,46]⟩ ⟨#[46,46,46]⟩ = [⟨#[]⟩, ⟨#[a]⟩, ⟨#[b]⟩, ⟨#[]⟩] ∧ (occurrences ⟨#[46,46,46,a,46,46,46,b,46,46,46]⟩ (Str.ofString "...") 0 (⟨#[46,46,46,a,46,46,46,b,46,46,46]⟩ : Str).length 1).isEmpty = false ∧ g.length ≤ 100) [.str ⟨#[46,46,46,a,46,46,46,b,46,46,46]⟩ t, .str g u] (fun _ => .bool (m2 a b g)) := by
  k_fill
  intro _
  dsimp only [CbClaim, CbLists, CbRet]
  intros
  rename_i hp _ _ hret
  refine wpAny_call ?_
  k_dflt cell_enter
  k_steps
  · exact Bool.noConfusion (Eq.trans (Eq.symm hp.2.1) (by assumption))
  · exact cb_retB hret (by unfold m2; rw [if_pos (by assumption)]) (by assumption) (by (first | assumption | exact cb_drop (by assumption) (fun _ h => .tail _ h) | exact cb_drop (by assumption) (fun _ h => .tail _ (.tail _ h)) | exact cb_drop (by assumption) (fun _ h => .tail _ (.tail _ (.tail _ h)))))
  · exact cb_retB hret (by unfold m2; rw [if_neg (by assumption), if_pos (by assumption)]) (by assumption) (by (first | assumption | exact cb_drop (by assumption) (fun _ h => .tail _ h) | exact cb_drop (by assumption) (fun _ h => .tail _ (.tail _ h)) | exact cb_drop (by assumption) (fun _ h => .tail _ (.tail _ (.tail _ h)))))
  · exact cb_retB hret (by unfold m2; rw [if_neg (by assumption), if_neg (by assumption), if_pos (by assumption)]) (by assumption) (by (first | assumption | exact cb_drop (by assumption) (fun _ h => .tail _ h) | exact cb_drop (by assumption) (fun _ h => .tail _ (.tail _ h)) | exact cb_drop (by assumption) (fun _ h => .tail _ (.tail _ (.tail _ h)))))
  · exact cb_retB hret (by unfold m2; rw [if_neg (by assumption), if_neg (by assumption), if_neg (by assumption), if_pos (by assumption)]) (by assumption) (by (first | assumption | exact cb_drop (by assumption) (fun _ h => .tail _ h) | exact cb_drop (by assumption) (fun _ h => .tail _ (.tail _ h)) | exact cb_drop (by assumption) (fun _ h => .tail _ (.tail _ (.tail _ h)))))
  · exact cb_retB hret (by unfold m2; rw [if_neg (by assumption), if_neg (by assumption), if_neg (by assumption), if_neg (by assumption)]) (by assumption) (by (first | assumption | exact cb_drop (by assumption) (fun _ h => .tail _ h) | exact cb_drop (by assumption) (fun _ h => .tail _ (.tail _ h)) | exact cb_drop (by assumption) (fun _ h => .tail _ (.tail _ (.tail _ h)))))
end Mine
end
section
open PySem PySem.W PySem.Calls PyProof.Rows PySem.Builtin PySem.Builtin.Str
set_option maxRecDepth 100000
set_option maxHeartbeats 4000000
namespace Mine
section
variable {prog : Program} {w : World} {A : Around} {E : Value → Shared → Prop} {s : Shared} {env : Env} {h₀ : Heap} {x : Str} {body : List Stmt} {Q : Flow → Shared → Prop} {I : Addr} {lp : Addr × Obj} {news : List (Addr × Obj)} {Inv : List Value → (Str → Option Value) → Prop}
theorem listRest_inv (hm : lp ∈ news)
    (step : ∀ v r m it h tk, Inv (v :: r) m → it.cls = .type "list_iterator" → Fr h₀ env.locals h (fun y => if y = x then some v else m y) → News h₀ env.locals h ((I, it) :: news) →
      wpAny (model prog w) A (execs body env) (UnrPost h₀ env.locals { s with heap := h, toks := tk } I it (fun m' n' => n' = news ∧ Inv r m') Q) E { s with heap := h, toks := tk })
    (fin : ∀ m h tk, Inv [] m → Fr h₀ env.locals h m → News h₀ env.locals h news → Q .next { s with heap := h, toks := tk }) :
    ∀ l m, Inv l m → ListRest prog w A E h₀ env x body Q s I lp l m news
  | [], m, i => fun h tk F N => fin m h tk i F N
  | v :: r, m, i => fun it h tk hc F N => by
    refine wpAny_mono (step v r m it h tk i hc F N) (fun f s₂ p => ?_) (fun _ _ z => z)
    have go : UnrEnd h₀ env.locals { s with heap := h, toks := tk } I it (fun m' n' => n' = news ∧ Inv r m') s₂ →
        UnrEnd h₀ env.locals { s with heap := h, toks := tk } I it (fun m' n' => lp ∈ n' ∧ ListRest prog w A E h₀ env x body Q s I lp r m' n') s₂ := by
      rintro ⟨h', tk', m', n', e, F', N', off, en, j⟩
      exact ⟨h', tk', m', n', e, F', N', off, en.symm ▸ hm, en.symm ▸ listRest_inv hm step fin r m' j⟩
    cases f with
    | ret v => exact p
    | brk => exact p
    | next => exact go p
    | cont => exact go p
end
section
variable {prog : Program} {w : World} {A : Around} {E : Value → Shared → Prop} {s : Shared}
theorem nsIn2 (P : Params) : nsIn (kpart P) cStatics sharingNotToldKey = some none := by kernel_rfl
theorem notTold {P : Params} {t : Tok} {Q : Bool → Shared → Prop} (X : (kpart P).In s.heap) (h : Q false s) : wpAny (model prog w) A (sharingNotTold t) Q E s := by
  unfold sharingNotTold
  refine wpAny_bind ((looks_nsIn (M := model prog w) X (nsIn2 P)).at ?_)
  exact wpAny_pure h
theorem isSame_str {P : Params} {y z : Str} {u v : Tok} {Q : Bool → Shared → Prop} (X : (kpart P).In s.heap) (hu : u ≠ 0) (hv : v ≠ 0) (hd : u = v → y = z) (hq : ∀ b, (b = true → y = z) → Q b s) :
    wpAny (model prog w) A (isSame (.str y u) (.str z v)) Q E s := by
  show wpAny (model prog w) A (isSame.created (y == z) u v) Q E s
  unfold isSame.created
  refine wpAny_ite ?_
  split
  · rename_i h
    rw [Bool.or_eq_true, beq_iff_eq, beq_iff_eq] at h
    rcases h with h | h
    · exact absurd h hu
    · exact absurd h hv
  refine wpAny_ite ?_
  split
  · rename_i h
    exact wpAny_pure (hq _ fun _ => hd (beq_iff_eq.mp h))
  refine wpAny_ite ?_
  split
  · exact wpAny_pure (hq _ fun h => (by cases h))
  rename_i he
  have e : y = z := by
    cases hb : y == z with
    | true => exact beq_iff_eq.mp hb
    | false => rw [hb] at he; exact absurd rfl he
  refine wpAny_bind (notTold X ?_)
  rw [if_neg Bool.false_ne_true]
  refine wpAny_bind (notTold X ?_)
  rw [if_neg Bool.false_ne_true]
  exact wpAny_bind (wpAny_rule (wpAny_bind (wpAny_askSetting (wpAny_pure (hq _ fun _ => e)))))
theorem is_str {P : Params} {y z : Str} {u v : Tok} {Q : Value → Shared → Prop} {h₀ : Heap} {L : Addr} {m : Str → Option Value} (F : Fr h₀ L s.heap m) (X : (kpart P).In h₀) (hu : u ≠ 0) (hv : v ≠ 0) (hd : u = v → y = z) (hq : ∀ b, (b = true → y = z) → Q (.bool b) s) :
    wpAny (model prog w) A (compareOp .Is (.str y u) (.str z v)) Q E s :=
  wpAny_bind (isSame_str (P := P) (fun a o q => F.keep a o (X a o q)) hu hv hd fun b h => wpAny_pure (hq b h))
end
noncomputable def tokOk (T : Nat) : Value → Prop
  | .str _ t => t ≠ 0 ∧ t < T
  | _ => False
noncomputable def countM (D : Addr) (x : Str) (t : Tok) (k : Int) (tk : Tok) (iv : Option Value) : Str → Option Value := fun y =>
  if y = Str.ofString "i" then iv else if y = Str.ofString "count" then some (.int k tk) else if y = Str.ofString "b" then some (.str x t) else if y = Str.ofString "a" then some (.ref D) else none
theorem countM_i {D : Addr} {x : Str} {t : Tok} {k : Int} {tk : Tok} {iv : Option Value} {v : Option Value} : (fun y => if y = Str.ofString "i" then v else countM D x t k tk iv y) = countM D x t k tk v := by
  funext y
  unfold countM
  by_cases e : y = Str.ofString "i"
  · rw [if_pos e, if_pos e]
  · rw [if_neg e, if_neg e, if_neg e]
theorem countM_c {D : Addr} {x : Str} {t : Tok} {k k' : Int} {tk tk' : Tok} {iv : Option Value} : (fun y => if y = Str.ofString "count" then some (.int k' tk') else countM D x t k tk iv y) = countM D x t k' tk' iv := by
  funext y
  unfold countM
  by_cases e : y = Str.ofString "i"
  · subst e; rfl
  rw [if_neg e, if_neg e]
  by_cases e : y = Str.ofString "count"
  · rw [if_pos e, if_pos e]
  · rw [if_neg e, if_neg e, if_neg e]
theorem countM_ci {D : Addr} {x : Str} {t : Tok} {k k' : Int} {tk tk' : Tok} {iv v : Option Value} : (fun y => if y = Str.ofString "count" then some (.int k' tk') else if y = Str.ofString "i" then v else countM D x t k tk iv y) = countM D x t k' tk' v := by
  have := countM_i (D := D) (x := x) (t := t) (k := k) (tk := tk) (iv := iv) (v := v)
  funext y
  have h1 := congrFun this y
  have h2 := congrFun (countM_c (D := D) (x := x) (t := t) (k := k) (k' := k') (tk := tk) (tk' := tk') (iv := v)) y
  rw [← h2, ← h1]
noncomputable def countInv (D : Addr) (x : Str) (t : Tok) (tot : Int) (l : List Value) (m : Str → Option Value) : Prop :=
  ∃ (xs : List Str) (k : Int) (tk : Tok) (iv : Option Value), StrsAre l xs ∧ (∀ v ∈ l, tokOk t v) ∧ (∀ y ∈ xs, y.length ≤ 100) ∧ 0 ≤ k ∧ k + (xs.length : Int) ≤ 40 ∧ k + ((xs.filter (· == x)).length : Int) = tot ∧ m = countM D x t k tk iv
local macro_rules | `(tactic| walk_at "exec For Name Name cons nil") => `(tactic| (k_here; (rename Fr _ _ _ _ => lF'); (with_unfolding_all refine' For_invVF lF' ?k1 ?k2 ?_; (case k1 => exact rfl); (case k2 => exact rfl); k_whole)))
theorem count_spec : PySem.Challenge.rw_tc0035_01 = PySem.Challenge.rw_tc0035_01 → ∀ (w : World) (mean : ExcName → Option Value) (mg mb : Str → Option Value) (D : Addr) (len0 : Nat) (vs : List Value) (xs : List Str) (x : Str) (t : Tok) (news : List (Addr × Obj)),
    CbClaim pw w (kpart w.params) qv (looseW qv looseN) mean mg mb 56 news [] (StrsAre vs xs ∧ (∀ v ∈ vs, tokOk t v) ∧ (D, listOf vs.toArray len0) ∈ news ∧ xs.length ≤ 40 ∧ (∀ y ∈ xs, y.length ≤ 100)) [.ref D, .str x t] (fun t => .int ((xs.filter (· == x)).length : Int) t) := by
  k_fill
  intro _ w mean mg mb D len0 vs xs x t news
  dsimp only [CbClaim, CbLists, CbRet]
  intros
  rename_i hp _ _ hret
  refine wpAny_call ?_
  k_dflt cell_enter
  k_steps
  rename Fr _ _ _ _ => lF'
  rename News _ _ _ _ => lN'
  have hmem := hp.2.2.1
  with_unfolding_all refine iter_listUnr (lo := listOf vs.toArray len0) (vs := vs) (by rfl) lF' lN' (by first | exact hmem | exact .tail _ hmem | k_mem) (by rfl) (by rfl) ?_
  intro I l1
  refine listRest_inv (Inv := countInv D x t ((xs.filter (· == x)).length : Int)) ?_ ?_ ?_ _ _ ?_
  case refine_1 => exact hmem
  case refine_4 =>
    refine ⟨xs, 0, ?tk0, none, hp.1, hp.2.1, hp.2.2.2.2, Int.le_refl 0, by have := hp.2.2.2.1; omega, by rw [Int.zero_add], ?eqm⟩
    case eqm =>
      funext y
      by_cases e2 : y = Str.ofString "count"
      · rw [if_pos e2]
        subst e2
        rfl
      rw [if_neg e2]
      refine Eq.trans (b := List.lookup y [(Str.ofString "b", Value.str x t), (Str.ofString "a", Value.ref D)]) (by first | kernel_rfl | (with_unfolding_all rfl)) ?_
      unfold countM
      by_cases e1 : y = Str.ofString "i"
      · subst e1; rfl
      by_cases e3 : y = Str.ofString "b"
      · subst e3; rfl
      by_cases e4 : y = Str.ofString "a"
      · subst e4; rfl
      rw [if_neg e1, if_neg e2, if_neg e3, if_neg e4, List.lookup_cons, List.lookup_cons]
      rw [beq_eq_false_iff_ne.mpr e3, beq_eq_false_iff_ne.mpr e4]
      rfl
  case refine_2 =>
    rintro v r m it h tk ⟨ys, k, tk1, iv, ha, hto, hl, h0, hk, ht, rfl⟩ hc F N
    obtain ⟨y, ys', rfl⟩ : ∃ y ys', ys = y :: ys' := by cases ha; exact ⟨_, _, rfl⟩
    obtain ⟨ty, hv, ha'⟩ : ∃ ty, v = .str y ty ∧ StrsAre r ys' := by cases ha; exact ⟨_, rfl, by assumption⟩
    subst hv
    have hly : y.length ≤ 100 := hl y (.head _)
    have hk1 : k + 1 ≤ 40 := by rw [List.length_cons] at hk; omega
    have hto1 : ty ≠ 0 ∧ ty < t := hto _ (.head _)
    k_steps
    refine is_str (P := w.params) F (show (kpart w.params).In _ by assumption) hto1.1 (Nat.ne_of_gt (Nat.lt_of_le_of_lt (Nat.zero_le _) hto1.2)) (fun e => absurd e (Nat.ne_of_lt hto1.2)) (fun b hb => ?_)
    k_steps
    all_goals (refine UnrEnd.intro (by assumption) (by assumption) _ (fun p hp => hp) (fun p hp => Nat.ne_of_lt (l1 p hp)) ⟨rfl, ?_⟩)
    all_goals have hto2 : ∀ v ∈ r, tokOk t v := fun v h => hto v (.tail _ h)
    all_goals have hl2 : ∀ z ∈ ys', z.length ≤ 100 := fun z h => hl z (.tail _ h)
    all_goals rw [List.length_cons] at hk
    · have e : (y == x) = true := beq_iff_eq.mpr (hb (by assumption))
      rw [countM_ci]
      exact ⟨ys', k + 1, _, _, ha', hto2, hl2, by omega, by omega, by rw [← ht, List.filter_cons, if_pos e, List.length_cons]; omega, rfl⟩
    · have e : (y == x) = true := by assumption
      rw [countM_ci]
      exact ⟨ys', k + 1, _, _, ha', hto2, hl2, by omega, by omega, by rw [← ht, List.filter_cons, if_pos e, List.length_cons]; omega, rfl⟩
    · have e : (y == x) = false := by assumption
      rw [countM_i]
      exact ⟨ys', k, _, _, ha', hto2, hl2, by omega, by omega, by rw [← ht, List.filter_cons, if_neg (by rw [e]; exact Bool.false_ne_true)], rfl⟩
  case refine_3 =>
    rintro m h tk ⟨ys, k, tk1, iv, ha, hto, hl, h0, hk, ht, rfl⟩ F N
    obtain rfl : ys = [] := by cases ha; rfl
    k_steps
    have hk0 : k = ((xs.filter (· == x)).length : Int) := by rw [← ht]; simp
    subst hk0
    exact cb_retI hret rfl (by assumption) (by assumption)
end Mine
end
section
open PySem PySem.Spec PySem.W PySem.Calls PyProof.Rows PyProof.Rows.LCg
set_option maxRecDepth 100000
set_option maxHeartbeats 4000000
namespace Mine
section
variable {prog : Program} {w : World} {A : Around} {E : Value → Shared → Prop} {s : Shared} {h₀ : Heap} {L : Addr} {m : Str → Option Value} {env : Env}
/-- the tests of a comprehension's one clause -/
abbrev testsJ (ifs : List Expr) (cenv : Env) : Sem Bool := forIn ifs true fun c r => if r = true then do let ok ← isTrue c cenv (eval c cenv); pure (ForInStep.yield ok) else pure (ForInStep.yield r)
noncomputable def EndJ (h₀ : Heap) (L : Addr) (m : Str → Option Value) (s : Shared) (led : List (Addr × Obj)) (J : Nat → Prop) (s' : Shared) : Prop :=
  ∃ h' tk', s' = { s with heap := h', toks := tk' } ∧ Fr h₀ L h' m ∧ News h₀ L h' led ∧ J tk'
theorem EndJ.intro {s₁ : Shared} {led led' : List (Addr × Obj)} {J : Nat → Prop} {h' : Heap} {tk' : Nat} (F : Fr h₀ L h' m) (N : News h₀ L h' led') (hs : ∀ p ∈ led, p ∈ led') (j : J tk') : EndJ h₀ L m s₁ led J { s₁ with heap := h', toks := tk' } :=
  ⟨h', tk', rfl, F, fun p hp => N p (hs p hp), j⟩
/-- a walk over items that tells of their tokens -/
structure WalkK (prog : Program) (w : World) (A : Around) (I : Addr) (fp wr : List Addr) (n lo : Nat) (P : Nat → Value → Nat → Prop) (St : Nat → Heap → Prop) : Prop where
  sub : ∀ b ∈ wr, b ∈ fp
  frame : ∀ i h h', St i h → (∀ b ∈ fp, ∀ o, h.get? b = some o → h'.get? b = some o) → St i h'
  item : ∀ i (s : Shared) (Q : Option Value → Shared → Prop) (E : Value → Shared → Prop), i < n → lo ≤ s.toks → St i s.heap →
    (∀ v h' tk, P i v tk → St (i + 1) h' → (∀ b o, b ∉ wr → s.heap.get? b = some o → h'.get? b = some o) → Q (some v) { s with heap := h', toks := tk }) → wpAny (model prog w) A (pyNext (.ref I)) Q E s
  done : ∀ (s : Shared) (Q : Option Value → Shared → Prop) (E : Value → Shared → Prop), St n s.heap →
    (∀ h' tk, (∀ b o, b ∉ wr → s.heap.get? b = some o → h'.get? b = some o) → Q none { s with heap := h', toks := tk }) → wpAny (model prog w) A (pyNext (.ref I)) Q E s
  self : ∀ i (s : Shared) (Q : Value → Shared → Prop) (E : Value → Shared → Prop), St i s.heap → Q (.ref I) s → wpAny (model prog w) A (pyIter (.ref I)) Q E s
theorem WalkK.of {prog : Program} {w : World} {A : Around} {I : Addr} {fp wr : List Addr} {n lo : Nat} {P : Nat → Value → Prop} {St : Nat → Heap → Prop} (W : Walks prog w A I fp wr n P St) : WalkK prog w A I fp wr n lo (fun i v _ => P i v) St where
  sub := W.sub
  frame := W.frame
  item := fun i s Q E hi _ st hQ => W.item i s Q E hi st fun v h' tk hP st' hk => hQ v h' tk hP st' hk
  done := W.done
  self := W.self
noncomputable def TurnJ (prog : Program) (w : World) (A : Around) (h₀ : Heap) (L : Addr) (m : Str → Option Value) (env : Env) (ifs : List Expr) (elt : Expr) (x : Str) (scope : Scope) (cl : List (Str × Addr)) (s : Shared) (news : List (Addr × Obj)) (n : Nat) (P : Nat → Value → Nat → Prop) (J : Nat → List Value → Nat → Prop) : Prop :=
  ∀ i v ys I oI C oC D m₂ h tk (E' : Value → Shared → Prop), i < n → J i ys tk → P i v tk → NsObj oC m₂ → m₂ x = some v → Fr h₀ L h m → News h₀ L h ((I, oI) :: (C, oC) :: (D, lst ys) :: news) → Off3 I C D news → ((@Ne Nat I C) ∧ (@Ne Nat I D) ∧ (@Ne Nat C D)) →
    wpAny (model prog w) A (testsJ ifs (compEnvC scope cl C env)) (fun ok s₃ =>
      if ok = true then wpAny (model prog w) A (eval elt (compEnvC scope cl C env)) (fun y s₄ => EndJ h₀ L m { s with heap := h, toks := tk } ((I, oI) :: (C, oC) :: (D, lst ys) :: news) (J (i + 1) (ys ++ [y])) s₄) E' s₃
      else EndJ h₀ L m { s with heap := h, toks := tk } ((I, oI) :: (C, oC) :: (D, lst ys) :: news) (J (i + 1) ys) s₃) E' { s with heap := h, toks := tk }
noncomputable def FinJ (h₀ : Heap) (L : Addr) (m : Str → Option Value) (s : Shared) (news : List (Addr × Obj)) (J : List Value → Nat → Prop) (Q : Value → Heap → Nat → Prop) : Prop :=
  ∀ D h tk ys, J ys tk → Fr h₀ L h m → News h₀ L h ((D, lst ys) :: news) → (∀ p ∈ news, @LT.lt Nat _ p.1 D) → Q (.ref D) h tk
/-- a source, its turns and what comes after -/
noncomputable def SrcJ (prog : Program) (w : World) (A : Around) (h₀ : Heap) (L : Addr) (m : Str → Option Value) (env : Env) (ifs : List Expr) (elt : Expr) (x : Str) (scope : Scope) (cl : List (Str × Addr)) (Fin : Shared → List (Addr × Obj) → (List Value → Nat → Prop) → Prop) (it : Value) (s₂ : Shared) : Prop :=
  ∃ (I : Addr) (fp : List Addr) (n : Nat) (P : Nat → Value → Nat → Prop) (St : Nat → Heap → Prop) (news : List (Addr × Obj)) (J : Nat → List Value → Nat → Prop),
    it = .ref I ∧ WalkK prog w A I fp [I] n s₂.toks P St ∧ (∀ i v t t', t ≤ t' → P i v t → P i v t') ∧ n ≤ sizeLine ∧ (∀ i h, St i h → ∃ o, h.get? I = some o) ∧
    (∀ i h h' o, St i h → h.get? I = some o → h'.get? I = some o → (∀ b o, h₀.get? b = some o → h'.get? b = some o) → News h₀ L h' news → St i h') ∧
    St 0 s₂.heap ∧ (∀ b ∈ fp, b < s₂.heap.objs.size) ∧ Fr h₀ L s₂.heap m ∧ News h₀ L s₂.heap news ∧ (∀ p ∈ news, p.1 ≠ I) ∧ L ≠ I ∧ h₀.get? I = none ∧
    (∀ i ys t t', t ≤ t' → J i ys t → J i ys t') ∧ J 0 [] s₂.toks ∧ (∀ i ys t, J i ys t → ys.length ≤ i) ∧
    TurnJ prog w A h₀ L m env ifs elt x scope cl s₂ news n P J ∧ Fin s₂ news (J n)
theorem block_J {ifs : List Expr} {elt iter : Expr} {x : Str} {px : Pos} {scope : Scope} {cl : List (Str × Addr)} {pos : Pos} {s₂ : Shared} {I : Addr} {fp : List Addr} {n : Nat} {P : Nat → Value → Nat → Prop} {St : Nat → Heap → Prop} {news : List (Addr × Obj)} {J : Nat → List Value → Nat → Prop}
    {RR : Value → Addr → Result → Shared → Prop}
    (W : WalkK prog w A I fp [I] n s₂.toks P St) (hPm : ∀ i v t t', t ≤ t' → P i v t → P i v t') (hsz : n ≤ sizeLine) (hIo : ∀ i h, St i h → ∃ o, h.get? I = some o)
    (hSt : ∀ i h h' o, St i h → h.get? I = some o → h'.get? I = some o → (∀ b o, h₀.get? b = some o → h'.get? b = some o) → News h₀ L h' news → St i h')
    (hcell : ∀ y ∈ scope.names, y.2 ≠ .cell) (hkind : scope.kind = .function) (hx : scope.names.lookup x = some .local) (hst : St 0 s₂.heap) (hfp : ∀ b ∈ fp, b < s₂.heap.objs.size)
    (F : Fr h₀ L s₂.heap m) (N : News h₀ L s₂.heap news) (off : ∀ p ∈ news, p.1 ≠ I) (hIL : L ≠ I) (hI₀ : h₀.get? I = none)
    (mono : ∀ i ys t t', t ≤ t' → J i ys t → J i ys t') (hJ : J 0 [] s₂.toks) (hJl : ∀ i ys t, J i ys t → ys.length ≤ i)
    (R : TurnJ prog w A h₀ L m env ifs elt x scope cl s₂ news n P J)
    (hRR : ∀ D C h tk m' ys, J n ys tk → Fr h₀ L h m → News h₀ L h ((D, lst ys) :: news) → (∀ p ∈ news, @LT.lt Nat _ p.1 D) → h.Ns C m' → h₀.get? C = none → h₀.get? D = none → C ≠ L → D ≠ L → C ≠ D → (∀ p ∈ news, p.1 ≠ C) → RR (.ref D) C (.ok .next) { s₂ with heap := h, toks := tk }) :
    wpAny (model prog w) A (newList []) (fun acc s₃ => wpAny (model prog w) A (newFunctionEnv scope env.globals cl [] env.qual none .none (some env)) (fun cenv s₄ =>
      codeAny (model prog w) A (.compStart (.ListComp elt [⟨.Name x px, iter, ifs, 0⟩] scope pos) 0 (.ref I) acc { cenv with scope := relabel scope env }) (RR acc cenv.locals) s₄) E s₃) E s₂ := by
  refine wpAny_newObj_type (wpAny_newFunctionEnv hcell (by intro y hy; simp at hy) (fun h₁ hns₁ hsb₁ => ?_) hkind)
  dsimp only at hns₁ hsb₁ ⊢
  obtain ⟨D, hDdef⟩ : ∃ D, D = s₂.heap.objs.size := ⟨_, rfl⟩
  generalize hH2 : s₂.heap.push { cls := .type "list", dict := none, data := .seq ([] : List Value).toArray } = H2 at hns₁ hsb₁ ⊢
  obtain ⟨C, hCdef⟩ : ∃ C, C = H2.objs.size := ⟨_, rfl⟩
  rw [← hCdef] at hns₁ hsb₁ ⊢
  rw [← hDdef]
  have hC : C = D + 1 := by rw [hCdef, ← hH2, Heap.size_push, hDdef]
  have hDC : D ≠ C := by rw [hC]; exact Nat.ne_of_lt (Nat.lt_succ_self _)
  have lo : ∀ b, b < s₂.heap.objs.size → b ≠ C ∧ b ≠ D := fun b hb => by
    rw [← hDdef] at hb
    exact ⟨by rw [hC]; exact Nat.ne_of_lt (Nat.lt_succ_of_lt hb), Nat.ne_of_lt hb⟩
  have hIlt : I < s₂.heap.objs.size := hfp I (W.sub I (List.mem_singleton.mpr rfl))
  have hLlt : L < s₂.heap.objs.size := F.ns.lt
  have hDf : D ∉ fp := fun hm => Nat.lt_irrefl _ (hDdef ▸ hfp _ hm)
  have hCf : C ∉ fp := fun hm => (lo _ (hfp _ hm)).1 rfl
  have old : ∀ b o, s₂.heap.get? b = some o → h₁.get? b = some o := fun b o e => hsb₁.extBut b o (lo b (Heap.lt_size e)).1 (Heap.get?_push_of_some _ (hH2 ▸ Heap.get?_push_of_some _ e))
  have hacc : h₁.get? D = some (lst []) := hsb₁.extBut _ _ hDC (Heap.get?_push_of_some _ (hH2 ▸ hDdef ▸ Heap.get?_push_size _ rfl))
  have gone : ∀ a, s₂.heap.objs.size ≤ a → h₀.get? a = none := fun a ha => by
    cases e : h₀.get? a with
    | none => rfl
    | some o' => exact absurd (Heap.lt_size (F.keep a o' e)) (Nat.not_lt.mpr ha)
  have hD₀ : h₀.get? D = none := gone _ (hDdef ▸ Nat.le_refl _)
  have hC₀ : h₀.get? C = none := gone _ (by rw [hC, hDdef]; exact Nat.le_succ _)
  have hDL : D ≠ L := Ne.symm (lo L hLlt).2
  have hCL : C ≠ L := Ne.symm (lo L hLlt).1
  have hCI : I ≠ C := (lo I hIlt).1
  have hDI : I ≠ D := (lo I hIlt).2
  have nC : ∀ p ∈ news, p.1 ≠ C := fun p hp => (lo _ (Heap.lt_size (N p hp).1)).1
  have nD : ∀ p ∈ news, p.1 ≠ D := fun p hp => (lo _ (Heap.lt_size (N p hp).1)).2
  have nL : ∀ p ∈ news, @LT.lt Nat _ p.1 D := fun p hp => hDdef ▸ Heap.lt_size (N p hp).1
  have off3 : Off3 I C D news := Off3.of fun p hp => ⟨off p hp, nC p hp, nD p hp⟩
  refine codeAny_compStart_list ?goal (W.self 0 _ _ _ (W.frame _ _ _ hst fun b _ o e => old b o e) ?goal)
  refine codeAny_compLoop_tests
    (fun k s' => ∃ h' tk i ys m', s' = { s₂ with heap := h', toks := tk } ∧ i ≤ n ∧ k = n + 1 - i ∧ St i h' ∧ Fr h₀ L h' m ∧ h'.Ns C m' ∧ News h₀ L h' ((D, lst ys) :: news) ∧ J i ys tk ∧ s₂.toks ≤ tk) ?_ (n + 1)
    ⟨h₁, _, 0, [], _, rfl, Nat.zero_le _, rfl, W.frame _ _ _ hst fun b _ o e => old b o e, F.keeps old, hns₁, fun p hp => ?_, mono _ _ _ _ (Nat.le_add_right _ _) hJ, Nat.le_add_right _ _⟩
  · rintro k s' ⟨h', tk, i, ys, m', rfl, hi, rfl, hst', F', hn', N', j, hlo⟩
    have sub2 : ∀ h'' : Heap, (∀ b o, b ∉ [I] → h'.get? b = some o → h''.get? b = some o) → Fr h₀ L h'' m ∧ h''.Ns C m' ∧ News h₀ L h'' ((D, lst ys) :: news) := fun h'' hk =>
      ⟨fr_but F' hk hIL hI₀, hn'.at' fun o e => hk _ o (by simpa using Ne.symm hCI) e, news_but N' hk fun p hp => by
        rcases List.mem_cons.mp hp with rfl | hp
        · exact Ne.symm hDI
        · exact off p hp⟩
    by_cases hlt : i < n
    · refine wpAny_with_toks (n := tk) (Nat.le_refl _) (W.item i _ _ _ hlt hlo hst' fun v h₂ tk₂ hPv hst₂ hk₂ hle => ?_)
      obtain ⟨F₂, hn₂, N₂⟩ := sub2 h₂ hk₂
      refine wpAny_with_toks (n := tk) hle (wpAny_assign_Name (wpAny_storeName_local (lookup_relabel_local hx) hn₂ (fun h₃ hn₃ hs₃ hle₃ => ?_) (by simp [compEnvC, relabel, hkind])))
      have hlo₃ := Nat.le_trans hlo hle₃
      have hst₃ : St (i + 1) h₃ := W.frame _ _ _ hst₂ fun b hb o e => hs₃.extBut b o (fun (q : b = C) => hCf (by rw [← q]; exact hb)) e
      obtain ⟨oI, heI⟩ := hIo _ _ hst₃
      obtain ⟨oC, heC, hoC⟩ := ns_obj hn₃
      have F₃ : Fr h₀ L h₃ m := F₂.change hs₃ hCL hC₀
      have N₃ : News h₀ L h₃ ((I, oI) :: (C, oC) :: (D, lst ys) :: news) := fun p hp => by
        rcases List.mem_cons.mp hp with rfl | hp
        · exact ⟨heI, Ne.symm hIL, hI₀⟩
        rcases List.mem_cons.mp hp with rfl | hp
        · exact ⟨heC, hCL, hC₀⟩
        refine ⟨hs₃.extBut _ _ ?_ (N₂ p hp).1, (N₂ p hp).2⟩
        rcases List.mem_cons.mp hp with rfl | hp
        · exact hDC
        · exact nC p hp
      have after : ∀ h₄, Fr h₀ L h₄ m → News h₀ L h₄ ((I, oI) :: (C, oC) :: (D, lst ys) :: news) → St (i + 1) h₄ ∧ (∃ m', h₄.Ns C m') ∧ News h₀ L h₄ ((D, lst ys) :: news) := fun h₄ F₄ N₄ =>
        ⟨hSt _ _ _ _ hst₃ heI (N₄ (I, oI) (.head _)).1 F₄.keep fun p hp => N₄ p (.tail _ (.tail _ (.tail _ hp))), ⟨_, hoC.ns (N₄ (C, oC) (.tail _ (.head _))).1⟩, fun p hp => N₄ p (.tail _ (.tail _ hp))⟩
      refine wpAny_with_toks (n := s₂.toks) hlo₃ (wpAny_mono (R i v ys I oI C oC D _ h₃ _ _ hlt (mono _ _ _ _ hle₃ j) (hPm _ _ _ _ (Nat.le_succ _) hPv) hoC (by simp) F₃ N₃ off3 ⟨hCI, hDI, Ne.symm hDC⟩) (fun ok s₄ h₄ => ?_) fun _ _ e _ => e)
      intro hlo₄
      cases ok with
      | false =>
        simp only [Bool.false_eq_true, if_false] at h₄ ⊢
        obtain ⟨h₄, tk₄, rfl, F₄, N₄, j₄⟩ := h₄
        obtain ⟨hst₄, ⟨m₄, hn₄⟩, N₄'⟩ := after h₄ F₄ N₄
        exact ⟨n + 1 - (i + 1), by omega, h₄, tk₄, i + 1, ys, m₄, rfl, hlt, rfl, hst₄, F₄, hn₄, N₄', j₄, hlo₄⟩
      | true =>
        simp only [if_true] at h₄ ⊢
        refine wpAny_with_toks (n := s₂.toks) hlo₄ (wpAny_mono h₄ (fun y s₅ h₅ => ?_) fun _ _ e _ => e)
        intro hlo₅
        obtain ⟨h₄, tk₄, rfl, F₄, N₄, j₄⟩ := h₅
        obtain ⟨hst₄, ⟨m₄, hn₄⟩, N₄'⟩ := after h₄ F₄ N₄
        have hlen := hJl _ _ _ j₄
        rw [List.length_append, List.length_singleton] at hlen
        refine append_at (hsz := by show ys.toArray.size ≤ sizeLine; rw [List.size_toArray]; omega) (N₄' _ (.head _)).1 fun h₅ hs₅ hD₅ => ?_
        refine ⟨n + 1 - (i + 1), by omega, h₅, tk₄, i + 1, ys ++ [y], m₄, rfl, hlt, rfl, W.frame _ _ _ hst₄ fun b hb o e => hs₅.extBut b o (fun q => hDf (q ▸ hb)) e, F₄.change hs₅ hDL hD₀, hn₄.sameBut hs₅ (Ne.symm hDC), fun p hp => ?_, j₄, hlo₅⟩
        rcases List.mem_cons.mp hp with rfl | hp
        · exact ⟨hD₅.trans (congrArg some (lst_snoc ys y)), hDL, hD₀⟩
        · exact ⟨hs₅.extBut _ _ (nD p hp) (N₄' p (.tail _ hp)).1, (N₄' p (.tail _ hp)).2⟩
    · obtain rfl : i = n := Nat.le_antisymm hi (Nat.not_lt.mp hlt)
      refine wpAny_with_toks (n := tk) (Nat.le_refl _) (W.done _ _ _ hst' fun h₂ tk₂ hk₂ hle => ?_)
      obtain ⟨F₂, hn₂, N₂⟩ := sub2 h₂ hk₂
      exact hRR _ _ h₂ tk₂ _ ys (mono _ _ _ _ hle j) F₂ N₂ nL hn₂ hC₀ hD₀ hCL hDL (Ne.symm hDC) nC
  · rcases List.mem_cons.mp hp with rfl | hp
    · exact ⟨hacc, hDL, hD₀⟩
    · exact ⟨old _ _ (N p hp).1, (N p hp).2⟩
theorem ListComp_J {ifs : List Expr} {elt iter : Expr} {x : Str} {px : Pos} {scope : Scope} {cl : List (Str × Addr)} {pos : Pos} {Q : Value → Shared → Prop} (_F₀ : Fr h₀ L s.heap m)
    (hclos : closureFor scope env = pure cl) (hcell : ∀ y ∈ scope.names, y.2 ≠ .cell) (hkind : scope.kind = .function)
    (hnames : ∀ y ∈ scope.names, y.2 = .local → scope.names.lookup y.1 = some .local) (hx : scope.names.lookup x = some .local)
    (hs : ∀ x, foldedSetIterable iter env x = pure x)
    (h : wpAny (model prog w) A (eval iter env) (fun xv s₁ => wpAny (model prog w) A (pyIter xv) (fun it s₂ => SrcJ prog w A h₀ L m env ifs elt x scope cl (fun s₂ news J => FinJ h₀ L m s₂ news J fun v h tk => Q v { s₂ with heap := h, toks := tk }) it s₂) E s₁) E s) :
    wpAny (model prog w) A (eval (.ListComp elt [⟨.Name x px, iter, ifs, 0⟩] scope pos) env) Q E s := by
  rw [eval_ListComp]
  refine wpAny_comprehension_free (use := none) rfl hs hclos hkind hnames (wpAny_mono h (fun xv s₁ h₁ => wpAny_mono h₁ (fun it s₂ h₂ => ?_) fun _ _ e => e) fun _ _ e => e)
  obtain ⟨I, fp, n, P, St, news, J, rfl, W, hPm, hsz, hIo, hSt, hst, hfp, F, N, off, hIL, hI₀, mono, hJ, hJl, R, fin⟩ := h₂
  refine block_J W hPm hsz hIo hSt hcell hkind hx hst hfp F N off hIL hI₀ mono hJ hJl R ?_
  intro D C h tk m' ys j F' N' o1 hn hC₀ hD₀ hCL hDL hCD offC
  refine ⟨m', hn, fun h'' hs'' => fin D h'' tk ys j (F'.change hs'' hCL hC₀) (fun p hp => ?_) o1⟩
  refine ⟨hs''.extBut _ _ ?_ (N' p hp).1, (N' p hp).2⟩
  rcases List.mem_cons.mp hp with rfl | hp
  · exact Ne.symm hCD
  · exact offC p hp
theorem Assign_ListComp_J {ifs : List Expr} {elt iter : Expr} {x y : Str} {px py : Pos} {scope : Scope} {cl : List (Str × Addr)} {pos spos : Pos} {Q : Flow → Shared → Prop} (_F₀ : Fr h₀ L s.heap m) (hLe : env.locals = L)
    (hsw : swapsWith (.ListComp elt [⟨.Name x px, iter, ifs, 0⟩] scope pos) (some (.Name y py)) spos.line env = pure true)
    (hclos : closureFor scope env = pure cl) (hcell : ∀ z ∈ scope.names, z.2 ≠ .cell) (hkind : scope.kind = .function)
    (hnames : ∀ z ∈ scope.names, z.2 = .local → scope.names.lookup z.1 = some .local) (hx : scope.names.lookup x = some .local)
    (hy : env.kindOf y = some .local) (hp : (env.scope.kind == .class || (env.scope.kind == .module && env.locals != env.globals)) = false)
    (hs : ∀ x, foldedSetIterable iter env x = pure x)
    (h : wpAny (model prog w) A (eval iter env) (fun xv s₁ => wpAny (model prog w) A (pyIter xv) (fun it s₂ => SrcJ prog w A h₀ L m env ifs elt x scope cl (fun s₂ news J =>
      ∀ D h tk ys, J ys tk → Fr h₀ L h (fun z => if z = y then some (.ref D) else m z) → News h₀ L h ((D, lst ys) :: news) → (∀ p ∈ news, @LT.lt Nat _ p.1 D) → Q .next { s₂ with heap := h, toks := tk + 1 }) it s₂) E s₁) E s) :
    wpAny (model prog w) A (exec (.Assign [.Name y py] (.ListComp elt [⟨.Name x px, iter, ifs, 0⟩] scope pos) spos) env) Q E s := by
  subst hLe
  rw [exec_Assign_Name_used _ _ _ _ hsw]
  refine wpAny_bind (wpAny_standAt (wpAny_bind ?_))
  show wpAny _ A (do let _ ← comprehension (.ListComp elt [⟨.Name x px, iter, ifs, 0⟩] scope pos) scope env _ (newList []) false (eval iter env) (some (assign (.Name y py) env))) _ _ s
  refine wpAny_bind (wpAny_mono (wpAny_comprehension_free (use := some (assign (.Name y py) env)) (Q := fun _ s' => Q .next s') rfl hs hclos hkind hnames
    (wpAny_mono h (fun xv s₁ h₁ => wpAny_mono h₁ (fun it s₂ h₂ => ?_) fun _ _ e => e) fun _ _ e => e)) (fun _ s' hq => wpAny_pure (wpAny_pure hq)) fun _ _ e => e)
  obtain ⟨I, fp, n, P, St, news, J, rfl, W, hPm, hsz, hIo, hSt, hst, hfp, F, N, off, hIL, hI₀, mono, hJ, hJl, R, fin⟩ := h₂
  refine block_J W hPm hsz hIo hSt hcell hkind hx hst hfp F N off hIL hI₀ mono hJ hJl R ?_
  intro D C h tk m' ys j F' N' o1 hn hC₀ hD₀ hCL hDL hCD offC
  show wpAny _ A (assign (.Name y py) env (.ref D)) _ _ _
  refine wpAny_assign_Name (wpAny_storeName_local hy F'.ns (fun h₂ hn₂ hs₂ => ?_) hp)
  have hL₀ : h₀.get? env.locals = none := Heap.get?_none_of_le F'.above
  have F₂ : Fr h₀ env.locals h₂ (fun z => if z = y then some (.ref D) else m z) := ⟨hn₂, fun b o e => hs₂.extBut b o (fun q => by rw [q, hL₀] at e; cases e) (F'.keep b o e), F'.above⟩
  refine ⟨m', hn.sameBut hs₂ hCL, fun h'' hs'' => fin D h'' _ ys j (F₂.change hs'' hCL hC₀) (fun p hp => ?_) o1⟩
  have z : h₂.get? p.1 = some p.2 := hs₂.extBut _ _ (N' p hp).2.1 (N' p hp).1
  refine ⟨hs''.extBut _ _ ?_ z, (N' p hp).2⟩
  rcases List.mem_cons.mp hp with rfl | hp
  · exact Ne.symm hCD
  · exact offC p hp
end
end Mine
end
section
open PySem PySem.W PySem.Calls PyProof.Rows PyProof.Rows.LCg
set_option maxRecDepth 100000
set_option maxHeartbeats 4000000
namespace Mine
abbrev ClaimJ (w : World) (mean : ExcName → Option Value) (mg mb : Str → Option Value) (f : Addr) (k : Nat) (news : List (Addr × Obj)) (pre : Prop) (vs : List Value) (Ret : Heap → Addr → (Str → Option Value) → Shared → (Value → Shared → Prop) → Prop) : Prop :=
  ∀ (dp un : Nat) (gd : Option (List Code)) (cn : Str) (cs : Scope) (a : Addr) (ccd : Value) (cl : List (Str × Addr)) (outer : List Env) (A₀ : Around) (base h₀ : Heap) (L : Addr) (m : Str → Option Value) (s : Shared) (Q E : Value → Shared → Prop),
    Below A₀ base outer h₀ → Fr h₀ L s.heap m → (kpart w.params).In h₀ → News h₀ L s.heap news → Top qv (looseW qv looseN) mean mg mb h₀ → cs.kind = .function →
    pre → dp + k < recursionLimit → un + 8 * k < cLine → Ret h₀ L m s Q →
      wpAny (model pw w) (ktrTop dp un gd cn cs L a ccd cl outer) (call (.ref f) vs) Q E s
abbrev RetV (news : List (Addr × Obj)) (R : Value → Nat → Nat → Prop) (h₀ : Heap) (L : Addr) (m : Str → Option Value) (s : Shared) (Q : Value → Shared → Prop) : Prop :=
  ∀ v h' tk', R v s.toks tk' → Fr h₀ L h' m → News h₀ L h' news → Q v { s with heap := h', toks := tk' }
abbrev lsn (ys : List Value) (k : Nat) : Obj := { cls := .type "list", data := .seq ys.toArray k }
abbrev RetL (news : List (Addr × Obj)) (R : List Value → Nat → Nat → Prop) (h₀ : Heap) (L : Addr) (m : Str → Option Value) (s : Shared) (Q : Value → Shared → Prop) : Prop :=
  ∀ D k ys h' tk', R ys s.toks tk' → Fr h₀ L h' m → News h₀ L h' ((D, lsn ys k) :: news) → (∀ p ∈ news, @LT.lt Nat _ p.1 D) → Q (.ref D) { s with heap := h', toks := tk' }
theorem use_J {w : World} {mean : ExcName → Option Value} {mg mb : Str → Option Value} {f : Addr} {k : Nat} {news : List (Addr × Obj)} {pre : Prop} {vs : List Value} {Ret : Heap → Addr → (Str → Option Value) → Shared → (Value → Shared → Prop) → Prop}
    (C : ClaimJ w mean mg mb f k news pre vs Ret) {dp un : Nat} {gd : Option (List Code)} {cn : Str} {cs : Scope} {a : Addr} {ccd : Value} {cl : List (Str × Addr)} {outer : List Env} {A₀ : Around} {base h₀ : Heap} {L : Addr} {m : Str → Option Value} {s : Shared} {Q E : Value → Shared → Prop}
    (B : Below A₀ base outer h₀) (F : Fr h₀ L s.heap m) (X : (kpart w.params).In h₀) (N : News h₀ L s.heap news) (T : Top qv (looseW qv looseN) mean mg mb h₀) (hk : cs.kind = .function) (hp : pre) (hd : dp + k < recursionLimit) (hu : un + 8 * k < cLine) (hr : Ret h₀ L m s Q) :
    wpAny (model pw w) (ktrTop dp un gd cn cs L a ccd cl outer) (call (.ref f) vs) Q E s :=
  C dp un gd cn cs a ccd cl outer A₀ base h₀ L m s Q E B F X N T hk hp hd hu hr
/-- a value that a concat hands back: its text, and a new token or an operand's -/
noncomputable def catR (a b : Str) (t u : Tok) (v : Value) (lo _hi : Nat) : Prop := ∃ t', v = .str (a ++ b) t' ∧ (lo ≤ t' ∨ (t' = u ∧ a.length = 0) ∨ (t' = t ∧ b.length = 0))
theorem add_tok {w : World} {A : Around} {E : Value → Shared → Prop} {s : Shared} {x y : Str} {t u : Tok} {Q : Value → Shared → Prop} (hx : x.length ≤ 100) (hy : y.length ≤ 100)
    (h : ∀ t' k, (s.toks ≤ t' ∨ (t' = u ∧ x.length = 0) ∨ (t' = t ∧ y.length = 0)) → Q (.str (x ++ y) t') { s with toks := k }) : wpAny (model pw w) A (binaryOp .Add (.str x t) (.str y u)) Q E s := by
  refine concat_gives (typeIs_str s x t) (typeIs_str s y u) PySem.noFill_str_add PySem.seq_str_add F.slot_str_add F.entry_str_add (F.args_str_add_2 _ _) (gives_str_add x y t u) ?_
  by_cases hb : x.length = 0
  · rw [if_pos (by rw [hb]; rfl)]
    have e : x ++ y = y := PySem.Str.ext' (by rw [PySem.Str.cps_append, Array.eq_empty_of_size_eq_zero hb, Array.empty_append])
    have h' := h u s.toks (.inr (.inl ⟨rfl, hb⟩))
    rw [e] at h'
    exact h'
  rw [if_neg (by simpa using hb)]
  by_cases hc : y.length = 0
  · rw [if_pos (by rw [hc]; rfl)]
    have e : x ++ y = x := PySem.Str.ext' (by rw [PySem.Str.cps_append, Array.eq_empty_of_size_eq_zero hc, Array.append_empty])
    have h' := h t s.toks (.inr (.inr ⟨rfl, hc⟩))
    rw [e] at h'
    exact h'
  rw [if_neg (by simpa using hc)]
  exact ⟨by rw [PySem.Str.length_append, sizeLine_eq]; omega, h s.toks (s.toks + 1) (.inl (Nat.le_refl _))⟩
/-- the walk forgets the count of tokens at each row: with a floor in sight it is kept from below -/
noncomputable def Floor (_ : Nat) : Prop := True
theorem floor_gen {M : Model} {A : Around} {α : Type} {t : Sem α} {Q : α → Shared → Prop} {E : Value → Shared → Prop} {h : Heap} {gs : Array GenState} {dr : Drawn} {os : OsState} {n X c : Nat} (_ : Floor n) (hle : n ≤ X + c)
    (k : ∀ tk, n ≤ tk → wpAny M A t Q E ⟨h, gs, dr, tk, os⟩) : wpAny M A t Q E ⟨h, gs, dr, X + c, os⟩ := k _ hle
section
local macro_rules | `(tactic| walk_at "execs cons") => `(tactic| (k_here; refine floor_gen (by assumption) (by (try dsimp only); omega) ?_; intro tk' hk'))
local macro_rules | `(tactic| walk_at "execs nil") => `(tactic| (k_here; refine floor_gen (by assumption) (by (try dsimp only); omega) ?_; intro tk' hk'))
local macro_rules | `(tactic| walk_at "call builtin:hasattr") => `(tactic| (k_here; k_dflt (refine' hasattr_N ?F ?N ?_; (case F => k_asm); (case N => k_asm); intro h' F' N')))
local macro_rules | `(tactic| walk_at "binaryOp Add str str") => `(tactic| (k_here; refine add_tok (by assumption) (by assumption) ?_; intro t' k' ht'))
theorem concatT_spec : PySem.Challenge.rw_tc0035_01 = PySem.Challenge.rw_tc0035_01 → ∀ (w : World) (mean : ExcName → Option Value) (mg mb : Str → Option Value) (a b : Str) (t u : Tok) (news : List (Addr × Obj)),
    ClaimJ w mean mg mb 42 1 news (a.length ≤ 100 ∧ b.length ≤ 100) [.str a t, .str b u] (RetV news (catR a b t u)) := by
  dsimp only [ClaimJ, RetV]
  k_fill
  intro _
  intro w mean mg mb a b t u news dp un gd cn cs ad ccd cl outer A₀ base h₀ L m s Q E B F X N T hk hp hd hu hret
  have hp1 := hp.1
  have hp2 := hp.2
  obtain ⟨n0, hn0⟩ : ∃ n, n = s.toks := ⟨_, rfl⟩
  have hfl : Floor n0 := trivial
  refine wpAny_call ?_
  k_dflt cell_enter
  k_steps
  rename _ ∨ _ => ht'
  refine hret _ _ _ ⟨_, rfl, ?_⟩ (by assumption) (by assumption)
  rcases ht' with h | h
  · exact .inl (by dsimp only at h; omega)
  · exact .inr h
end
theorem use_cat {w : World} {mean : ExcName → Option Value} {mg mb : Str → Option Value} {news : List (Addr × Obj)} {x y : Str} {t u : Tok} {dp un : Nat} {gd : Option (List Code)} {cn : Str} {cs : Scope} {a : Addr} {ccd : Value} {cl : List (Str × Addr)} {outer : List Env} {A₀ : Around} {base h₀ : Heap} {L : Addr} {m : Str → Option Value} {h : Heap} {gs : Array GenState} {dr : Drawn} {tk : Nat} {os : OsState} {Q E : Value → Shared → Prop}
    (B : Below A₀ base outer h₀) (F : Fr h₀ L h m) (X : (kpart w.params).In h₀) (N : News h₀ L h news) (T : Top qv (looseW qv looseN) mean mg mb h₀) (hk : cs.kind = .function) (hx : x.length ≤ 100) (hy : y.length ≤ 100) (hd : dp + 1 < recursionLimit) (hu : un + 8 * 1 < cLine)
    (hq : ∀ t' h' tk', (tk ≤ t' ∨ (t' = u ∧ x.length = 0) ∨ (t' = t ∧ y.length = 0)) → tk ≤ tk' → Fr h₀ L h' m → News h₀ L h' news → Q (.str (x ++ y) t') ⟨h', gs, dr, tk', os⟩) :
    wpAny (model pw w) (ktrTop dp un gd cn cs L a ccd cl outer) (call (.ref 42) [.str x t, .str y u]) Q E ⟨h, gs, dr, tk, os⟩ := by
  refine wpAny_with_toks (n := tk) (Nat.le_refl _) (use_J (concatT_spec rfl w mean mg mb x y t u news) B F X N T hk ⟨hx, hy⟩ hd hu ?_)
  rintro v h' tk' ⟨t', rfl, z⟩ F' N' le
  exact hq t' h' tk' z le F' N'
theorem use_list {w : World} {mean : ExcName → Option Value} {mg mb : Str → Option Value} {f : Addr} {k : Nat} {news : List (Addr × Obj)} {pre : Prop} {vs : List Value} {R : List Value → Nat → Nat → Prop}
    (C : ClaimJ w mean mg mb f k news pre vs (RetL news R)) {dp un : Nat} {gd : Option (List Code)} {cn : Str} {cs : Scope} {a : Addr} {ccd : Value} {cl : List (Str × Addr)} {outer : List Env} {A₀ : Around} {base h₀ : Heap} {L : Addr} {m : Str → Option Value} {h : Heap} {gs : Array GenState} {dr : Drawn} {tk : Nat} {os : OsState} {Q E : Value → Shared → Prop}
    (B : Below A₀ base outer h₀) (F : Fr h₀ L h m) (X : (kpart w.params).In h₀) (N : News h₀ L h news) (T : Top qv (looseW qv looseN) mean mg mb h₀) (hk : cs.kind = .function) (hp : pre) (hd : dp + k < recursionLimit) (hu : un + 8 * k < cLine)
    (hq : ∀ D k ys h' tk', R ys tk tk' → tk ≤ tk' → Fr h₀ L h' m → News h₀ L h' ((D, lsn ys k) :: news) → (∀ p ∈ news, @LT.lt Nat _ p.1 D) → Q (.ref D) ⟨h', gs, dr, tk', os⟩) :
    wpAny (model pw w) (ktrTop dp un gd cn cs L a ccd cl outer) (call (.ref f) vs) Q E ⟨h, gs, dr, tk, os⟩ := by
  refine wpAny_with_toks (n := tk) (Nat.le_refl _) (use_J C B F X N T hk hp hd hu ?_)
  intro D k ys h' tk' r F' N' lt le
  exact hq D k ys h' tk' r le F' N' lt
theorem allLt_mem {d : Addr} {l : List (Addr × Obj)} : AllLt d l → ∀ p ∈ l, @LT.lt Nat _ p.1 d := by
  induction l with
  | nil => intro _ p hp; cases hp
  | cons q r ih =>
    intro h p hp
    rcases List.mem_cons.mp hp with e | hp
    · rw [e]; exact And.left h
    · exact ih (And.right h) p hp
theorem ret_list {h₀ : Heap} {L : Addr} {m : Str → Option Value} {news led : List (Addr × Obj)} {gs : Array GenState} {dr : Drawn} {os : OsState} {Q : Value → Shared → Prop} {R : List Value → Nat → Prop} {D : Addr} {k : Nat} {ys : List Value} {h' : Heap} {tk' : Nat}
    (hret : ∀ D k ys h' tk', R ys tk' → Fr h₀ L h' m → News h₀ L h' ((D, lsn ys k) :: news) → (∀ p ∈ news, @LT.lt Nat _ p.1 D) → Q (.ref D) ⟨h', gs, dr, tk', os⟩)
    (N : News h₀ L h' led) (hm : (D, lsn ys k) ∈ led) (sub : ∀ p ∈ news, p ∈ led) (lt : AllLt D news) (F : Fr h₀ L h' m) (r : R ys tk') : Q (.ref D) ⟨h', gs, dr, tk', os⟩ :=
  hret D k ys h' tk' r F (fun p hp => by
    rcases List.mem_cons.mp hp with rfl | hp
    · exact N _ hm
    · exact N _ (sub _ hp)) (allLt_mem lt)
section
variable {prog : Program} {w : World} {A A₀ : Around} {s : Shared} {K : Frag} {L : Addr} {h₀ base : Heap} {m mg mb : Str → Option Value} {news : List (Addr × Obj)} {p : Program} {loose : List Str} {mean : ExcName → Option Value}
/-- to enter a def with cells, and keep sight of the tokens' count -/
theorem enter_cells {env : Env} {outer : List Env} {R : Result → Shared → Prop} {name qual : Str} {params : Arguments} {body : List Stmt} {scope : Scope} {dV kV doc pm cdv ct oc : Value} {an od : Option Addr} {osl : Array (Option Value)} {f : Addr} {args : Args} {binds : List (Str × Value)}
    (B : Below A₀ base outer h₀) (F : Fr h₀ L s.heap m) (X₀ : K.In h₀) (N : News h₀ L s.heap news) (T : Top p loose mean mg mb h₀) (hA : A.frames = some (env :: outer)) (hf : env.frame = some L) (hke : env.scope.kind = .function)
    (ho : K.lookup f = some ⟨oc, od, .func (fnOf name qual params body scope dV kV doc pm an cdv ct), osl⟩) (hcd : codeIn K cdv qual = true) (hroom : A.depth < recursionLimit)
    (hbind : BindsTo s (fnOf name qual params body scope dV kV doc pm an cdv ct) args binds) (hkind : (binds.all fun y => scope.names.lookup y.1 == some .local || scope.names.lookup y.1 == some .cell) = true)
    (hnd : ((cellsFrom 0 scope.names []).map (·.1)).Nodup)
    (h : ∀ g L' h₁ tk cells, s.toks ≤ tk → Fr h₀ L g m → Fr g L' h₁ (bindL (envOfC qual scope L' f cdv).kindOf binds fun _ => none) → News g L' h₁ (cells ++ news) →
      CellsAre (bindC (envOfC qual scope L' f cdv).kindOf binds fun _ => none) (cellsFrom (L' + 1) scope.names []) cells → Below A base (env :: outer) g → K.In g → Top p loose mean mg mb g → (∀ p ∈ news, p.1 < L') →
      wpAny (model prog w) (A.deeper (envOfC qual scope L' f cdv)) (execs body (envOfC qual scope L' f cdv))
        (fun fl s' => LeaveK h₀ L m g R (match fl with | .ret v => v | _ => .none) s')
        (fun e s' => wpAny (model prog w) (A.deeper (envOfC qual scope L' f cdv)) (leaving (envOfC qual scope L' f cdv) e) (fun _ s'' => R (.error e) s'') (fun e' s'' => R (.error e') s'') s')
        { s with heap := h₁, toks := tk })
    (hco : scope.isCoroutine = false) (hgen : scope.isGenerator = false) (hk : scope.kind = .function) : codeAny (model prog w) A (.call (.ref f) args) R s := by
  obtain ⟨FG, BG, st, lv⟩ := groundX (R := R) B F N hA hf hke
  have Xs := X₀.keeps F.keep
  refine codeAny_call_function hroom (Xs _ _ ho) rfl hco hgen rfl (codeRec_of Xs hcd) (hbind _ _ _ _ ?_)
  refine wpAny_with_toks (n := s.toks) (Nat.le_refl _) (wpAny_newFunctionEnv_cells hk (kindsX hkind _) fun env' he s' x le => ?_)
  subst he
  refine ⟨(T.nolimit.keeps F.keep).keeps x.toInCall.keep, codeAny_func ?_⟩
  obtain ⟨h₁, tk, rfl, _⟩ := x.done
  have hk₁ := x.toInCall.keep
  obtain ⟨cells, NC, Y⟩ := Cl.news (h₀ := s.heap) (Nat.le_refl _) fun n c hm => ⟨x.cell n c (lookup_of_mem_nodup (cellsFrom_names scope.names 0 (s.heap.objs.size + 1) [] [] rfl ▸ hnd) hm), x.above n c hm⟩
  refine wpAny_mono (h _ s.heap.objs.size h₁ tk cells le FG ⟨x.toInCall.ns, fun b o e => hk₁ b o (of_hideAll _ e), Nat.le_of_eq (hideAll_size _ _)⟩ (fun p hp => ?_) Y BG (X₀.keeps st) (T.keeps st) (fun p hp => Heap.lt_size (N p hp).1)) (fun fl s' hl => lv _ _ hl) fun _ _ y => y
  rcases List.mem_append.mp hp with hp | hp
  · refine ⟨(NC p hp).1, (NC p hp).2.1, ?_⟩
    cases q : (hideAll s.heap (news.map (·.1))).get? p.1 with
    | none => rfl
    | some o => have := of_hideAll _ q; rw [(NC p hp).2.2] at this; cases this
  · exact ⟨hk₁ _ _ (N p hp).1, Nat.ne_of_lt (Heap.lt_size (N p hp).1), hideAll_none _ (List.mem_map_of_mem hp)⟩
end
end Mine
end
section
open PySem PySem.Spec PySem.W PySem.Calls PyProof.Rows PyProof.Rows.LCg
set_option maxRecDepth 100000
set_option maxHeartbeats 4000000
namespace Mine
section
variable {prog : Program} {w : World} {A : Around} {E : Value → Shared → Prop} {s : Shared} {h₀ : Heap} {L : Addr} {m : Str → Option Value} {env : Env} {elt : Expr} {x : Str} {scope : Scope} {cl : List (Str × Addr)} {ifs : List Expr}
/-- one turn with a test: what it does to the element, told by p and R -/
noncomputable def OneF (prog : Program) (w : World) (A : Around) (h₀ : Heap) (L : Addr) (m : Str → Option Value) (env : Env) (ifs : List Expr) (elt : Expr) (x : Str) (scope : Scope) (cl : List (Str × Addr)) (s : Shared) (news : List (Addr × Obj)) (vs : List Value) (p : Value → Bool) (R : Value → Value → Nat → Prop) : Prop :=
  ∀ v ys I oI C oC D m₂ h tk (E' : Value → Shared → Prop), v ∈ vs → s.toks ≤ tk → NsObj oC m₂ → m₂ x = some v → Fr h₀ L h m → News h₀ L h ((I, oI) :: (C, oC) :: (D, lst ys) :: news) → Off3 I C D news → ((@Ne Nat I C) ∧ (@Ne Nat I D) ∧ (@Ne Nat C D)) →
    wpAny (model prog w) A (testsJ ifs (compEnvC scope cl C env)) (fun ok s₃ =>
      if ok = true then wpAny (model prog w) A (eval elt (compEnvC scope cl C env)) (fun y s₄ => p v = true ∧ EndJ h₀ L m { s with heap := h, toks := tk } ((I, oI) :: (C, oC) :: (D, lst ys) :: news) (R v y) s₄) E' s₃
      else p v = false ∧ EndJ h₀ L m { s with heap := h, toks := tk } ((I, oI) :: (C, oC) :: (D, lst ys) :: news) (fun _ => True) s₃) E' { s with heap := h, toks := tk }
noncomputable def OneM (prog : Program) (w : World) (A : Around) (h₀ : Heap) (L : Addr) (m : Str → Option Value) (env : Env) (elt : Expr) (x : Str) (scope : Scope) (cl : List (Str × Addr)) (s : Shared) (news : List (Addr × Obj)) (vs : List Value) (R : Value → Value → Nat → Prop) : Prop :=
  ∀ v ys I oI C oC D m₂ h tk (E' : Value → Shared → Prop), v ∈ vs → s.toks ≤ tk → NsObj oC m₂ → m₂ x = some v → Fr h₀ L h m → News h₀ L h ((I, oI) :: (C, oC) :: (D, lst ys) :: news) → Off3 I C D news → ((@Ne Nat I C) ∧ (@Ne Nat I D) ∧ (@Ne Nat C D)) →
    wpAny (model prog w) A (eval elt (compEnvC scope cl C env)) (fun y s₄ => EndJ h₀ L m { s with heap := h, toks := tk } ((I, oI) :: (C, oC) :: (D, lst ys) :: news) (R v y) s₄) E' { s with heap := h, toks := tk }
theorem OneM.toF {news : List (Addr × Obj)} {vs : List Value} {R : Value → Value → Nat → Prop} (h : OneM prog w A h₀ L m env elt x scope cl s news vs R) : OneF prog w A h₀ L m env [] elt x scope cl s news vs (fun _ => true) R := by
  intro v ys I oI C oC D m₂ h' tk E' hv ht hC hx F N off ne
  refine wpAny_tests_nil ?_
  simp only [if_true]
  exact wpAny_mono (h v ys I oI C oC D m₂ h' tk E' hv ht hC hx F N off ne) (fun _ _ z => ⟨trivial, z⟩) fun _ _ z => z
abbrev JF (vs : List Value) (p : Value → Bool) (R : Value → Value → Nat → Prop) (lo : Nat) (i : Nat) (ys : List Value) (tk : Nat) : Prop := lo ≤ tk ∧ Paired (fun v y => R v y tk) ((vs.take i).filter p) ys
theorem turnF {news : List (Addr × Obj)} {vs : List Value} {p : Value → Bool} {R : Value → Value → Nat → Prop} (mono : ∀ v y t t', t ≤ t' → R v y t → R v y t')
    (h : OneF prog w A h₀ L m env ifs elt x scope cl s news vs p R) : TurnJ prog w A h₀ L m env ifs elt x scope cl s news vs.toArray.size (fun i v _ => vs.toArray[i]? = some v) (JF vs p R s.toks) := by
  intro i v ys I oI C oC D m₂ h' tk E' hi j hv hC hx F N off ne
  have hv' : vs[i]? = some v := by simpa using hv
  refine wpAny_with_toks (n := tk) (Nat.le_refl _) (wpAny_mono (h v ys I oI C oC D m₂ h' tk _ (List.mem_of_getElem? hv') j.1 hC hx F N off ne) (fun ok s₃ q => ?_) fun _ _ z => z)
  intro hle
  cases ok with
  | true =>
    simp only [if_true] at q ⊢
    refine wpAny_with_toks (n := tk) hle (wpAny_mono q (fun y s₄ q => ?_) fun _ _ z => z)
    intro hle₄
    obtain ⟨hp, h₄, tk₄, rfl, F₄, N₄, r⟩ := q
    refine ⟨h₄, tk₄, rfl, F₄, N₄, Nat.le_trans j.1 hle₄, ?_⟩
    rw [take_succ_filter p vs i v hv', if_pos hp]
    exact Paired.snoc (j.2.mono fun v y r => mono v y _ _ hle₄ r) r
  | false =>
    simp only [Bool.false_eq_true, if_false] at q ⊢
    obtain ⟨hp, h₄, tk₄, rfl, F₄, N₄, _⟩ := q
    refine ⟨h₄, tk₄, rfl, F₄, N₄, Nat.le_trans j.1 hle, ?_⟩
    rw [take_succ_filter p vs i v hv', if_neg (by rw [hp]; exact Bool.false_ne_true), List.append_nil]
    exact j.2.mono fun v y r => mono v y _ _ hle r
theorem JF_mono {vs : List Value} {p : Value → Bool} {R : Value → Value → Nat → Prop} {lo : Nat} (mono : ∀ v y t t', t ≤ t' → R v y t → R v y t') : ∀ i ys t t', t ≤ t' → JF vs p R lo i ys t → JF vs p R lo i ys t' :=
  fun _ _ _ _ le j => ⟨Nat.le_trans j.1 le, j.2.mono fun v y r => mono v y _ _ le r⟩
theorem JF_len {vs : List Value} {p : Value → Bool} {R : Value → Value → Nat → Prop} {lo : Nat} : ∀ i ys t, JF vs p R lo i ys t → ys.length ≤ i := fun i ys t j => by
  rw [← j.2.length]
  refine Nat.le_trans (List.length_filter_le _ _) ?_
  rw [List.length_take]
  exact Nat.min_le_left _ _
theorem src_list {ax : Addr} {vs : List Value} {news : List (Addr × Obj)} {p : Value → Bool} {R : Value → Value → Nat → Prop} {Fin : Shared → List (Addr × Obj) → (List Value → Nat → Prop) → Prop}
    (hh : A.handled = none) (F : Fr h₀ L s.heap m) (N : News h₀ L s.heap news) (S : SrcAt h₀ ax vs.toArray news) (hsz : vs.length ≤ sizeLine) (mono : ∀ v y t t', t ≤ t' → R v y t → R v y t')
    (one : ∀ g, OneF prog w A h₀ L m env ifs elt x scope cl { s with heap := g } news vs p R)
    (fin : ∀ g, Fin { s with heap := g } news (fun ys tk => s.toks ≤ tk ∧ Paired (fun v y => R v y tk) (vs.filter p) ys)) :
    wpAny (model prog w) A (pyIter (.ref ax)) (fun it s₂ => SrcJ prog w A h₀ L m env ifs elt x scope cl Fin it s₂) E s := by
  have hl := S.list F.keep N
  have hlt : ax < s.heap.objs.size := by obtain ⟨_, e, _⟩ := hl; exact Heap.lt_size e
  refine wpAny_pyIter_list hl ?_
  have up : ∀ b o, s.heap.get? b = some o → (s.heap.push { cls := .type "list_iterator", data := .fields #[.ref ax, .int 0 0] }).get? b = some o := fun b o e => Heap.get?_push_of_some _ e
  refine ⟨s.heap.objs.size, _, _, _, _, news, JF vs p R s.toks, rfl, .of (Walks.list hh s.heap.objs.size ax (Nat.ne_of_lt hlt) vs.toArray), fun _ _ _ _ _ h => h, by rw [List.size_toArray]; exact hsz, fun i h st => by obtain ⟨o, e, _⟩ := st.1; exact ⟨o, e⟩,
    fun i h h' o st e e' k N' => list_st i h h' o news st e e' k N' S, ⟨⟨_, Heap.get?_push_size _ rfl, rfl, rfl⟩, hl.push _⟩, fun b hb => ?_, F.keeps up, N.grown up, fun p hp => Nat.ne_of_lt (Heap.lt_size (N p hp).1), Nat.ne_of_lt F.ns.lt, next_is_new F,
    JF_mono mono, ⟨Nat.le_refl _, by simpa using Paired.nil⟩, JF_len, turnF mono (one _), ?_⟩
  · show b < (s.heap.push _).objs.size
    rw [Heap.size_push]
    rcases List.mem_cons.mp hb with rfl | hb
    · exact Nat.lt_succ_self _
    · rw [List.mem_singleton.mp hb]; exact Nat.lt_succ_of_lt hlt
  · have e : vs.take vs.toArray.size = vs := by rw [List.size_toArray, List.take_length]
    have q := fin (s.heap.push { cls := .type "list_iterator", data := .fields #[.ref ax, .int 0 0] })
    unfold JF
    rw [e]
    exact q
theorem src_tuple {ax : Addr} {vs : List Value} {news : List (Addr × Obj)} {p : Value → Bool} {R : Value → Value → Nat → Prop} {Fin : Shared → List (Addr × Obj) → (List Value → Nat → Prop) → Prop}
    (hh : A.handled = none) (F : Fr h₀ L s.heap m) (N : News h₀ L s.heap news) (S : h₀.IsTuple ax vs.toArray ∨ ∃ o, (ax, o) ∈ news ∧ o.cls = .type "tuple" ∧ o.data = .seq vs.toArray 0) (hsz : vs.length ≤ sizeLine) (mono : ∀ v y t t', t ≤ t' → R v y t → R v y t')
    (one : ∀ g, OneF prog w A h₀ L m env ifs elt x scope cl { s with heap := g } news vs p R)
    (fin : ∀ g, Fin { s with heap := g } news (fun ys tk => s.toks ≤ tk ∧ Paired (fun v y => R v y tk) (vs.filter p) ys)) :
    wpAny (model prog w) A (pyIter (.ref ax)) (fun it s₂ => SrcJ prog w A h₀ L m env ifs elt x scope cl Fin it s₂) E s := by
  have tup : ∀ h : Heap, (∀ b o, h₀.get? b = some o → h.get? b = some o) → News h₀ L h news → h.IsTuple ax vs.toArray := fun h k N => by
    rcases S with S | ⟨o, hm, c, d⟩
    · exact S.at fun o e => k _ o e
    · exact ⟨o, (N _ hm).1, c, by rw [d]; exact ⟨_, rfl⟩⟩
  have hl := tup _ F.keep N
  have hlt : ax < s.heap.objs.size := by obtain ⟨_, e, _⟩ := hl; exact Heap.lt_size e
  refine wpAny_pyIter_tuple hl ?_
  have up : ∀ b o, s.heap.get? b = some o → (s.heap.push { cls := .type "tuple_iterator", data := .fields #[.ref ax, .int 0 0] }).get? b = some o := fun b o e => Heap.get?_push_of_some _ e
  refine ⟨s.heap.objs.size, _, _, _, _, news, JF vs p R s.toks, rfl, .of (Walks.tuple hh s.heap.objs.size ax (Nat.ne_of_lt hlt) vs.toArray), fun _ _ _ _ _ h => h, by rw [List.size_toArray]; exact hsz, fun i h st => by obtain ⟨o, e, _⟩ := st.1; exact ⟨o, e⟩,
    fun i h h' o st e e' k N' => ⟨by obtain ⟨o', q, r⟩ := st.1; rw [e] at q; cases q; exact ⟨o, e', r⟩, tup _ k N'⟩, ⟨⟨_, Heap.get?_push_size _ rfl, rfl, rfl⟩, hl.at fun o e => up _ o e⟩, fun b hb => ?_, F.keeps up, N.grown up, fun p hp => Nat.ne_of_lt (Heap.lt_size (N p hp).1), Nat.ne_of_lt F.ns.lt, next_is_new F,
    JF_mono mono, ⟨Nat.le_refl _, by simpa using Paired.nil⟩, JF_len, turnF mono (one _), ?_⟩
  · show b < (s.heap.push _).objs.size
    rw [Heap.size_push]
    rcases List.mem_cons.mp hb with rfl | hb
    · exact Nat.lt_succ_self _
    · rw [List.mem_singleton.mp hb]; exact Nat.lt_succ_of_lt hlt
  · have e : vs.take vs.toArray.size = vs := by rw [List.size_toArray, List.take_length]
    have q := fin (s.heap.push { cls := .type "tuple_iterator", data := .fields #[.ref ax, .int 0 0] })
    unfold JF
    rw [e]
    exact q
end
end Mine
end
section
open PySem PySem.W PySem.Calls PyProof.Rows PyProof.Rows.LCg
set_option maxRecDepth 100000
set_option maxHeartbeats 4000000
namespace Mine
abbrev tx (l : List Nat) : Str := ⟨l.toArray⟩
noncomputable def mergeN : Nat → List Nat → List Nat → List (List Nat)
  | 0, a, b => [a ++ b]
  | n + 1, a, b => if a = [] ∨ b = [] then [a ++ b] else
      (mergeN n a.dropLast b).map (· ++ [a.getLastD 0]) ++ (mergeN n a b.dropLast).map (· ++ [b.getLastD 0]) ++ (if a.getLastD 0 = b.getLastD 0 then (mergeN n a.dropLast b.dropLast).map (· ++ [a.getLastD 0]) else [])
noncomputable def WordsAre (lo : Nat) (ws : List (List Nat)) (ys : List Value) : Prop := Paired (fun w y => ∃ t, y = .str (tx w) t ∧ lo ≤ t) ws ys
abbrev mergedR (n : Nat) (la lb : List Nat) (ys : List Value) (lo _hi : Nat) : Prop := WordsAre (if la = [] ∨ lb = [] then 0 else lo) (mergeN n la lb) ys
theorem tx_app (a b : List Nat) : tx a ++ tx b = tx (a ++ b) := by
  show (⟨a.toArray ++ b.toArray⟩ : Str) = _
  rw [List.append_toArray]
theorem tx_len (a : List Nat) : (tx a).length = a.length := List.size_toArray ..
theorem str_nil : Str.ofString "" = tx [] := by kernel_rfl
theorem tx_inj {a b : List Nat} (h : tx a = tx b) : a = b := by
  have := congrArg (fun x : Str => x.cps.toList) h
  simpa using this
theorem tx_empty {l : List Nat} (h : (tx l == Str.ofString "") = true) : l = [] := by
  rw [str_nil] at h
  exact tx_inj (beq_iff_eq.mp h)
theorem tx_full {l : List Nat} (h : (tx l == Str.ofString "") = false) : l ≠ [] := by
  rw [str_nil] at h
  intro e
  rw [e] at h
  exact absurd rfl (beq_eq_false_iff_ne.mp h)
theorem no_both {la lb : List Nat} {P : Prop} (h : (la = [] ∨ lb = []) ∧ P) (h1 : (tx la == Str.ofString "") = false) (h2 : (tx lb == Str.ofString "") = false) : False :=
  h.1.elim (tx_full h1) (tx_full h2)
section
local macro_rules | `(tactic| walk_at "execs cons") => `(tactic| (k_here; refine floor_gen (by assumption) (by (try dsimp only); omega) ?_; intro tk' hk'))
local macro_rules | `(tactic| walk_at "execs nil") => `(tactic| (k_here; refine floor_gen (by assumption) (by (try dsimp only); omega) ?_; intro tk' hk'))
local macro_rules | `(tactic| walk_at "call ref") => `(tactic| (k_here; k_dflt (refine' use_cat ?B ?F ?X ?N ?T ?k ?p ?q ?d ?u ?_; (case B => k_asm); (case F => k_asm); (case X => k_asm); (case N => k_asm); (case T => k_asm); (case k => rfl); (case p => assumption); (case q => assumption); (case d => ktr_room); (case u => ktr_units); intro t' h' tk' ht' le' F' N')))
section
local macro_rules | `(tactic| walk_at "exec Assign cons ListComp") => `(tactic| (exfalso; exact no_both (by assumption) (by assumption) (by assumption)))
theorem merged_nil : PySem.Challenge.rw_tc0035_01 = PySem.Challenge.rw_tc0035_01 → ∀ (n : Nat) (w : World) (mean : ExcName → Option Value) (mg mb : Str → Option Value) (la lb : List Nat) (t u : Tok) (news : List (Addr × Obj)),
    ClaimJ w mean mg mb 156 (n + 2) news ((la = [] ∨ lb = []) ∧ la.length + lb.length ≤ 4) [.str (tx la) t, .str (tx lb) u] (RetL news (fun ys _ _ => WordsAre 0 [la ++ lb] ys)) := by
  dsimp only [ClaimJ, RetL]
  k_fill
  intro _
  intro n w mean mg mb la lb t u news dp un gd cn cs ad ccd cl outer A₀ base h₀ L m s Q E B F X N T hk hp hd hu hret
  have hp1 : (tx la).length ≤ 100 := by rw [tx_len]; omega
  have hp2 : (tx lb).length ≤ 100 := by rw [tx_len]; omega
  obtain ⟨n0, hn0⟩ : ∃ n, n = s.toks := ⟨_, rfl⟩
  have hfl : Floor n0 := trivial
  refine wpAny_call ?_
  first | k_dflt cell_enter | (refine' enter_cells ?k1 ?k2 ?k3 ?k4 ?k5 ?kA ?kF ?kK ?k6 ?k7 ?k8 ?k9 ?kB ?kD ?_ ?c2 ?c3 ?c4; (case kA => exact rfl); (case kF => exact rfl); (case kK => assumption); (case k1 => k_asm); (case k2 => k_asm); (case k3 => k_asm); (case k4 => k_asm); (case k5 => k_asm); (case k6 => k_is); (case k7 => k_is); (case k8 => ktr_room); (case k9 => exact BindsTo.of_eq rfl); (case kB => exact rfl); (case kD => decide +kernel); (case c2 => exact rfl); (case c3 => exact rfl); (case c4 => exact rfl); k_whole; intro g' L' h' tk' cells' kE' FG' F' N' Y' B' X' T' l1; (try k_lt l1); k_cells Y'; (try simp only [List.cons_append, List.nil_append] at N'); (try dsimp only at kE'); (try dsimp only); (try k_lift B'); (try k_fold))
  k_steps
  all_goals (rename _ ∧ _ ∧ AllLt _ _ => hlt)
  all_goals
    rename News h₀ _ _ ((_, _) :: _) => hN
    refine ret_list (ys := [_]) hret hN (.head _) (fun p hp => .tail _ (.tail _ (.tail _ hp))) hlt.2.2 (by assumption) ?_
    exact .cons ⟨_, congrArg (Value.str · _) (tx_app la lb), Nat.zero_le _⟩ .nil
end
end
end Mine
end
section
open PySem PySem.W PySem.Calls PyProof.Rows PyProof.Rows.LCg
set_option maxRecDepth 100000
set_option maxHeartbeats 4000000
namespace Mine
noncomputable def MergedAt (n : Nat) : Prop := ∀ (w : World) (mean : ExcName → Option Value) (mg mb : Str → Option Value) (la lb : List Nat) (t u : Tok) (news : List (Addr × Obj)),
    ClaimJ w mean mg mb 156 (n + 2) news (la.length + lb.length ≤ n ∧ (la.length ≤ 2 ∧ lb.length ≤ 2) ∧ n ≤ 4) [.str (tx la) t, .str (tx lb) u] (RetL news (mergedR n la lb))
theorem use_merged {w : World} {mean : ExcName → Option Value} {mg mb : Str → Option Value} {n : Nat} (I : MergedAt n) {news : List (Addr × Obj)} {la lb : List Nat} {t u : Tok} {dp un : Nat} {gd : Option (List Code)} {cn : Str} {cs : Scope} {a : Addr} {ccd : Value} {cl : List (Str × Addr)} {outer : List Env} {A₀ : Around} {base h₀ : Heap} {L : Addr} {m : Str → Option Value} {h : Heap} {gs : Array GenState} {dr : Drawn} {tk : Nat} {os : OsState} {Q E : Value → Shared → Prop}
    (B : Below A₀ base outer h₀) (F : Fr h₀ L h m) (X : (kpart w.params).In h₀) (N : News h₀ L h news) (T : Top qv (looseW qv looseN) mean mg mb h₀) (hk : cs.kind = .function) (hl : la.length + lb.length ≤ n) (hn : (la.length ≤ 2 ∧ lb.length ≤ 2) ∧ n ≤ 4) (hd : dp + (n + 2) < recursionLimit) (hu : un + 8 * (n + 2) < cLine)
    (hq : ∀ D k ys h' tk', mergedR n la lb ys tk tk' → tk ≤ tk' → Fr h₀ L h' m → News h₀ L h' ((D, lsn ys k) :: news) → (∀ p ∈ news, @LT.lt Nat _ p.1 D) → Q (.ref D) ⟨h', gs, dr, tk', os⟩) :
    wpAny (model pw w) (ktrTop dp un gd cn cs L a ccd cl outer) (call (.ref 156) [.str (tx la) t, .str (tx lb) u]) Q E ⟨h, gs, dr, tk, os⟩ :=
  use_list (I w mean mg mb la lb t u news) B F X N T hk ⟨hl, hn⟩ hd hu hq
theorem slice_tx (l : List Nat) (x : Nat) (h : l.length ≤ 1) : Txt.slice (tx (l ++ [x])) none (some (-1)) = tx l := by
  have e1 : Builtin.Str.strSliceIndices none (some (-1)) 1 1 = [] := by decide +kernel
  have e2 : Builtin.Str.strSliceIndices none (some (-1)) 1 2 = [0] := by decide +kernel
  match l, h with
  | [], _ =>
    unfold Txt.slice
    rw [show (tx ([] ++ [x])).length = 1 from rfl, e1]
    rfl
  | [a], _ => 
    unfold Txt.slice
    rw [show (tx ([a] ++ [x])).length = 2 from rfl, e2]
    rfl
theorem item_tx (l : List Nat) (x : Nat) (h : l.length ≤ 1) : Txt.item (tx (l ++ [x])) (-1) = tx [x] := by
  match l, h with
  | [], _ => rfl
  | [a], _ => rfl
section
variable {prog : Program} {w : World} {A : Around} {E : Value → Shared → Prop} {h₀ : Heap} {L : Addr} {m : Str → Option Value} {news : List (Addr × Obj)} {h : Heap} {gs : Array GenState} {dr : Drawn} {tk : Nat} {os : OsState} {Q : Value → Shared → Prop} {value slice : Expr} {l : List Nat} {x : Nat} {t : Tok}
theorem slice_tail {j : Int} {uj : Tok} (hF : Fr h₀ L h m) (hN : News h₀ L h news) (hl : l.length ≤ 1) (hj : j = -1) (hq : ∀ h' t' k, tk ≤ k → Fr h₀ L h' m → News h₀ L h' news → Q (.str (tx l) t') ⟨h', gs, dr, k, os⟩)
    (hs : subscripted slice false (.str (tx (l ++ [x])) t) (.ref h.objs.size) = operate [.ref h.objs.size, .str (tx (l ++ [x])) t] (getItem (.str (tx (l ++ [x])) t) (.ref h.objs.size)) := by with_unfolding_all rfl)
    (ht : ∀ r, letTemporaryGo value (.str (tx (l ++ [x])) t) r = pure () := by intro _; with_unfolding_all rfl) :
    wpAny (model prog w) A (subscriptTail value slice (.str (tx (l ++ [x])) t) (.ref h.objs.size)) Q E ⟨h.push { cls := .type "slice", data := .fields #[.none, .int j uj, .none] }, gs, dr, tk, os⟩ := by
  subst hj
  refine wpAny_with_toks (n := tk) (Nat.le_refl _) (slice_strN_ns (s := ⟨h, gs, dr, tk, os⟩) hF hN (fun h' t' k F N => ?_) hs ht ?_)
  · intro le
    rw [slice_tx l x hl]
    exact hq h' t' k le F N
  · rw [tx_len, List.length_append, List.length_singleton, sizeLine_eq]
    omega
theorem item_tail {i : Int} {u : Tok} (hl : l.length ≤ 1) (hi : i = -1) (hq : Q (.str (tx [x]) tk) ⟨h, gs, dr, tk + 1, os⟩)
    (hs : subscripted slice false (.str (tx (l ++ [x])) t) (.int i u) = operate [.str (tx (l ++ [x])) t, .int i u] (getItem (.str (tx (l ++ [x])) t) (.int i u)) := by with_unfolding_all rfl)
    (ht : ∀ r, letTemporaryGo value (.str (tx (l ++ [x])) t) r = pure () := by intro _; with_unfolding_all rfl) :
    wpAny (model prog w) A (subscriptTail value slice (.str (tx (l ++ [x])) t) (.int i u)) Q E ⟨h, gs, dr, tk, os⟩ := by
  subst hi
  refine item_str (by decide) ?_ ?_ (fun _ => ?_) hs ht
  · rw [tx_len, List.length_append, List.length_singleton]; omega
  · rw [tx_len]; omega
  · rw [item_tx l x hl]
    exact hq
end
theorem mergeN_len : ∀ (n : Nat) (a b w : List Nat), w ∈ mergeN n a b → w.length ≤ a.length + b.length := by
  intro n
  induction n with
  | zero =>
    intro a b w h
    rw [List.mem_singleton.mp h, List.length_append]
    exact Nat.le_refl _
  | succ n ih =>
    intro a b w h
    unfold mergeN at h
    split at h
    · rw [List.mem_singleton.mp h, List.length_append]
      exact Nat.le_refl _
    · rename_i hne
      have ha : a.dropLast.length + 1 = a.length := by
        have : a.length ≠ 0 := fun e => hne (.inl (List.length_eq_zero_iff.mp e))
        rw [List.length_dropLast]; omega
      have hb : b.dropLast.length + 1 = b.length := by
        have : b.length ≠ 0 := fun e => hne (.inr (List.length_eq_zero_iff.mp e))
        rw [List.length_dropLast]; omega
      rcases List.mem_append.mp h with h | h
      · rcases List.mem_append.mp h with h | h
        · obtain ⟨v, hv, rfl⟩ := List.mem_map.mp h
          have := ih _ _ _ hv
          rw [List.length_append, List.length_singleton]; omega
        · obtain ⟨v, hv, rfl⟩ := List.mem_map.mp h
          have := ih _ _ _ hv
          rw [List.length_append, List.length_singleton]; omega
      · split at h
        · obtain ⟨v, hv, rfl⟩ := List.mem_map.mp h
          have := ih _ _ _ hv
          rw [List.length_append, List.length_singleton]; omega
        · cases h
theorem mergeN_count : ∀ (n : Nat) (a b : List Nat), (mergeN n a b).length ≤ 3 ^ n := by
  intro n
  induction n with
  | zero => intro a b; exact Nat.le_refl _
  | succ n ih =>
    intro a b
    unfold mergeN
    have h1 : 1 ≤ 3 ^ n := Nat.pos_of_ne_zero (by simp)
    split
    · rw [List.length_singleton, Nat.pow_succ]; omega
    · have := ih a.dropLast b
      have := ih a b.dropLast
      have := ih a.dropLast b.dropLast
      rw [List.length_append, List.length_append, List.length_map, List.length_map, Nat.pow_succ]
      split
      · rw [List.length_map]; omega
      · rw [List.length_nil]; omega
theorem WordsAre.mem {lo : Nat} {ws : List (List Nat)} {ys : List Value} (h : WordsAre lo ws ys) {v : Value} : v ∈ ys → ∃ w, w ∈ ws ∧ ∃ t, v = .str (tx w) t ∧ lo ≤ t := by
  unfold WordsAre at h
  induction h with
  | nil => intro hv; cases hv
  | cons f _ ih =>
    intro hv
    rcases List.mem_cons.mp hv with rfl | hv
    · exact ⟨_, .head _, f⟩
    · obtain ⟨w, hw, r⟩ := ih hv
      exact ⟨w, .tail _ hw, r⟩
/-- what a comprehension of concat(word, letter) makes of a word -/
noncomputable def AddR (lo x : Nat) (v y : Value) (_ : Nat) : Prop := ∀ w t, v = .str (tx w) t → ∃ t', y = .str (tx (w ++ [x])) t' ∧ lo ≤ t'
theorem words_add {l lo x : Nat} {ws : List (List Nat)} {vs : List Value} (h : WordsAre l ws vs) : ∀ {ys : List Value} {tk : Nat}, Paired (fun v y => AddR lo x v y tk) (vs.filter fun _ => true) ys → WordsAre lo (ws.map (· ++ [x])) ys := by
  have e : vs.filter (fun _ => true) = vs := List.filter_eq_self.mpr fun _ _ => rfl
  rw [e]
  clear e
  unfold WordsAre at h ⊢
  induction h with
  | nil => intro ys tk p; cases p; exact .nil
  | cons f _ ih =>
    intro ys tk p
    cases p with
    | cons q r =>
      obtain ⟨t, rfl, _⟩ := f
      exact .cons (q _ _ rfl) (ih r)
theorem addR_of {lo x tk k tw t' u : Nat} {wd : List Nat} (h : lo ≤ k) (hu : lo ≤ u) (ht : k ≤ t' ∨ (t' = u ∧ (tx wd).length = 0) ∨ (t' = tw ∧ (tx [x]).length = 0)) : AddR lo x (.str (tx wd) tw) (.str (tx wd ++ tx [x]) t') tk := by
  intro w t e
  injection e with e1 _
  have := tx_inj e1
  subst this
  refine ⟨t', congrArg (Value.str · _) (tx_app wd [x]), ?_⟩
  rcases ht with z | ⟨z, _⟩ | ⟨_, z⟩
  · omega
  · omega
  · rw [tx_len] at z; cases z
theorem words_app {lo : Nat} {a b : List (List Nat)} {ys zs : List Value} (h : WordsAre lo a ys) (k : WordsAre lo b zs) : WordsAre lo (a ++ b) (ys ++ zs) := by
  unfold WordsAre at h k ⊢
  induction h with
  | nil => exact k
  | cons f _ ih => exact .cons f ih
theorem words_81 {lo n x : Nat} {a b : List Nat} (hn : n ≤ 4) {ys : List Value} (h : WordsAre lo ((mergeN n a b).map (· ++ [x])) ys) : ys.length ≤ 81 := by
  rw [(Paired.length h).symm, List.length_map]
  exact Nat.le_trans (mergeN_count _ _ _) (Nat.pow_le_pow_right (by decide) hn : 3 ^ n ≤ 3 ^ 4)
theorem words_len {lo : Nat} {a : List (List Nat)} {ys : List Value} (h : WordsAre lo a ys) : ys.length = a.length := (Paired.length h).symm
theorem add_led {w : World} {A : Around} {E : Value → Shared → Prop} {h₀ : Heap} {L : Addr} {m : Str → Option Value} {news : List (Addr × Obj)} {h : Heap} {gs : Array GenState} {dr : Drawn} {tk : Nat} {os : OsState} {Q : Value → Shared → Prop} {a b : Addr} {ys zs : List Value} {k k' : Nat}
    (F : Fr h₀ L h m) (N : News h₀ L h news) (ha : (a, lsn ys k) ∈ news) (hb : (b, lsn zs k') ∈ news) (hz : ys.length + zs.length ≤ sizeLine)
    (hq : ∀ D h', Fr h₀ L h' m → News h₀ L h' ((D, lsn (ys ++ zs) 0) :: news) → (∀ p ∈ news, @LT.lt Nat _ p.1 D) → Q (.ref D) ⟨h', gs, dr, tk, os⟩) :
    wpAny (model pw w) A (binaryOp .Add (.ref a) (.ref b)) Q E ⟨h, gs, dr, tk, os⟩ :=
  kmk_add_lit (s := ⟨h, gs, dr, tk, os⟩) (zs := ys ++ zs) F N ⟨_, (N _ ha).1, rfl, _, rfl⟩ ⟨_, (N _ hb).1, rfl, _, rfl⟩ rfl (fun D h' F' N' lt => hq D h' F' N' lt) hz
theorem merged_ne {n x y lo hi : Nat} {ia ib : List Nat} {ys1 ys2 : List Value} (he : ¬ (ia ++ [x] = [] ∨ ib ++ [y] = [])) (hxy : (tx [x] == tx [y]) = false)
    (h2 : WordsAre lo ((mergeN n ia (ib ++ [y])).map (· ++ [x])) ys1) (h3 : WordsAre lo ((mergeN n (ia ++ [x]) ib).map (· ++ [y])) ys2) : mergedR (n + 1) (ia ++ [x]) (ib ++ [y]) (ys1 ++ ys2) lo hi := by
  have hne : ¬ x = y := fun e => by rw [e] at hxy; exact absurd rfl (beq_eq_false_iff_ne.mp hxy)
  unfold mergedR mergeN
  rw [if_neg he, if_neg he, List.dropLast_concat, List.dropLast_concat, List.getLastD_concat, List.getLastD_concat, if_neg hne, List.append_nil]
  exact words_app h2 h3
theorem merged_eq {n x y lo hi : Nat} {ia ib : List Nat} {ys1 ys2 ys3 : List Value} (he : ¬ (ia ++ [x] = [] ∨ ib ++ [y] = [])) (hxy : (tx [x] == tx [y]) = true)
    (h2 : WordsAre lo ((mergeN n ia (ib ++ [y])).map (· ++ [x])) ys1) (h3 : WordsAre lo ((mergeN n (ia ++ [x]) ib).map (· ++ [y])) ys2) (h4 : WordsAre lo ((mergeN n ia ib).map (· ++ [x])) ys3) : mergedR (n + 1) (ia ++ [x]) (ib ++ [y]) (ys1 ++ ys2 ++ ys3) lo hi := by
  have hxy' : x = y := by
    have := tx_inj (beq_iff_eq.mp hxy)
    simpa using this
  unfold mergedR mergeN
  rw [if_neg he, if_neg he, List.dropLast_concat, List.dropLast_concat, List.getLastD_concat, List.getLastD_concat, if_pos hxy']
  exact words_app (words_app h2 h3) h4
noncomputable def Hold (P : Prop) : Prop := P
theorem hold {P : Prop} (h : Hold P) : P := h
theorem eq_snoc {w : World} {A : Around} {E : Value → Shared → Prop} {s : Shared} {l : List Nat} {x : Nat} {t u : Tok} {Q : Value → Shared → Prop} (h : Q (.bool false) s) : wpAny (model pw w) A (compareOp .Eq (.str (tx (l ++ [x])) t) (.str (Str.ofString "") u)) Q E s := by
  refine eq_str ?_
  have e : (tx (l ++ [x]) == Str.ofString "") = false := by
    rw [str_nil]
    refine beq_eq_false_iff_ne.mpr fun h => ?_
    have := tx_inj h
    exact absurd this (by simp)
  rw [e]
  exact h
section
local macro_rules | `(tactic| walk_at "execs cons") => `(tactic| (k_here; refine floor_gen (by assumption) (by (try dsimp only); omega) ?_; intro tk' hk'))
local macro_rules | `(tactic| walk_at "execs nil") => `(tactic| (k_here; refine floor_gen (by assumption) (by (try dsimp only); omega) ?_; intro tk' hk'))
local macro_rules | `(tactic| walk_at "call ref") => `(tactic| (k_here; k_dflt (refine' use_cat ?B ?F ?X ?N ?T ?k ?p ?q ?d ?u ?_; (case B => k_asm); (case F => k_asm); (case X => k_asm); (case N => k_asm); (case T => k_asm); (case k => rfl); (case p => assumption); (case q => assumption); (case d => ktr_room); (case u => ktr_units); intro t' h' tk' ht' le' F' N'; (try dsimp only at le' ht'))))
local macro_rules | `(tactic| walk_at "call ref") => `(tactic| (k_here; k_dflt (refine' use_merged (by assumption) ?B ?F ?X ?N ?T ?k ?p ?q ?d ?u ?_; (case B => k_asm); (case F => k_asm); (case X => k_asm); (case N => k_asm); (case T => k_asm); (case k => rfl); (case p => assumption); (case q => exact ⟨⟨by assumption, by assumption⟩, by assumption⟩); (case d => ktr_room); (case u => ktr_units); intro D' k' ys' h' tk' r' le' F' N' l1; (try k_lt l1); (try dsimp only at le' r'))))
local macro_rules | `(tactic| walk_at "subscriptTail Name Slice str ref") => `(tactic| (k_here; k_dflt (refine' slice_tail ?F ?N ?l ?j ?_; (case F => k_asm); (case N => k_asm); (case l => assumption); (case j => rfl); intro h' t' k' le' F' N'; (try dsimp only at le'))))
local macro_rules | `(tactic| walk_at "subscriptTail Name UnaryOp str int") => `(tactic| (k_here; k_dflt (refine' item_tail ?l ?j ?_; (case l => assumption); (case j => rfl))))
local macro_rules | `(tactic| walk_at "binaryOp Add ref ref") => `(tactic| (k_here; k_dflt (refine' add_led ?F ?N ?a ?b ?z ?_; (case F => k_asm); (case N => k_asm); (case a => k_mem); (case b => k_mem); (case z => (rw [sizeLine_eq]; omega)); intro D' h' F' N' l1; (try k_lt l1))))
local macro_rules | `(tactic| walk_at "exec Assign cons ListComp") => `(tactic| (k_here; k_dflt (refine Assign_ListComp_J (by k_asm) (by rfl) (by with_unfolding_all rfl) (by with_unfolding_all rfl) (by decide) (by rfl) (by decide) (by rfl) (by rfl) (by rfl) (by intro _; rfl) ?_)))
local macro_rules | `(tactic| walk_at "compareOp Eq str str") => `(tactic| (refine eq_snoc ?_))
local macro_rules | `(tactic| walk_at "eval ListComp") => `(tactic| (k_here; k_dflt (refine ListComp_J (by k_asm) (by with_unfolding_all rfl) (by decide) (by rfl) (by decide) (by rfl) (by intro _; rfl) ?_)))
theorem merged_spec : PySem.Challenge.rw_tc0035_01 = PySem.Challenge.rw_tc0035_01 → ∀ (n : Nat), MergedAt n := by
  unfold MergedAt
  dsimp only [ClaimJ, RetL]
  k_fill
  intro hrw
  intro n
  show MergedAt n
  induction n with
  | zero =>
    intro w mean mg mb la lb t u news dp un gd cn cs ad ccd cl outer A₀ base h₀ L m s Q E B F X N T hk hp hd hu hret
    have ha : la = [] := List.length_eq_zero_iff.mp (by omega)
    refine merged_nil hrw 0 w mean mg mb la lb t u news dp un gd cn cs ad ccd cl outer A₀ base h₀ L m s Q E B F X N T hk ⟨.inl ha, by omega⟩ hd hu ?_
    intro D k ys h' tk' r F' N' lt
    exact hret D k ys h' tk' (by unfold mergedR; rw [if_pos (.inl ha)]; exact r) F' N' lt
  | succ n ih =>
    intro w mean mg mb la lb t u news dp un gd cn cs ad ccd cl outer A₀ base h₀ L m s Q E B F X N T hk hp hd hu hret
    by_cases he : la = [] ∨ lb = []
    · refine merged_nil hrw (n + 1) w mean mg mb la lb t u news dp un gd cn cs ad ccd cl outer A₀ base h₀ L m s Q E B F X N T hk ⟨he, by omega⟩ hd hu ?_
      intro D k ys h' tk' r F' N' lt
      exact hret D k ys h' tk' (by unfold mergedR mergeN; rw [if_pos he, if_pos he]; exact r) F' N' lt
    obtain ⟨ia, x, rfl⟩ : ∃ ia x, la = ia ++ [x] := ⟨la.dropLast, la.getLast (fun e => he (.inl e)), (List.dropLast_concat_getLast _).symm⟩
    obtain ⟨ib, y, rfl⟩ : ∃ ib y, lb = ib ++ [y] := ⟨lb.dropLast, lb.getLast (fun e => he (.inr e)), (List.dropLast_concat_getLast _).symm⟩
    simp only [List.length_append, List.length_singleton] at hp
    have hn4 : n ≤ 4 := by omega
    have hia : ia.length ≤ 1 := by omega
    have hib : ib.length ≤ 1 := by omega
    have hia2 : ia.length ≤ 2 := by omega
    have hib2 : ib.length ≤ 2 := by omega
    have hxa : (ia ++ [x]).length ≤ 2 := by rw [List.length_append, List.length_singleton]; omega
    have hxb : (ib ++ [y]).length ≤ 2 := by rw [List.length_append, List.length_singleton]; omega
    have h1 : ia.length + (ib ++ [y]).length ≤ n := by rw [List.length_append, List.length_singleton]; omega
    have h2 : (ia ++ [x]).length + ib.length ≤ n := by rw [List.length_append, List.length_singleton]; omega
    have h3 : ia.length + ib.length ≤ n := by omega
    obtain ⟨n0, hn0⟩ : ∃ n, n = s.toks := ⟨_, rfl⟩
    have hfl : Floor n0 := trivial
    refine wpAny_call ?_
    first | k_dflt cell_enter | (refine' enter_cells ?k1 ?k2 ?k3 ?k4 ?k5 ?kA ?kF ?kK ?k6 ?k7 ?k8 ?k9 ?kB ?kD ?_ ?c2 ?c3 ?c4; (case kA => exact rfl); (case kF => exact rfl); (case kK => assumption); (case k1 => k_asm); (case k2 => k_asm); (case k3 => k_asm); (case k4 => k_asm); (case k5 => k_asm); (case k6 => k_is); (case k7 => k_is); (case k8 => ktr_room); (case k9 => exact BindsTo.of_eq rfl); (case kB => exact rfl); (case kD => decide +kernel); (case c2 => exact rfl); (case c3 => exact rfl); (case c4 => exact rfl); k_whole; intro g' L' h' tk' cells' kE' FG' F' N' Y' B' X' T' l1; (try k_lt l1); k_cells Y'; (try simp only [List.cons_append, List.nil_append] at N'); (try dsimp only at kE'); (try dsimp only); (try k_lift B'); (try k_fold))
    k_steps
    rename mergedR _ _ _ _ _ _ => hw
    refine src_list (p := fun _ => true) (R := AddR n0 x) (by rfl) (by assumption) (by assumption) (.inr ⟨_, .head _, rfl, _, rfl⟩) ?_ (fun _ _ _ _ _ h => h) ?_ ?_
    case refine_2 =>
      intro g
      refine OneM.toF ?_
      intro v ys I oI C oC D m₂ h tk E' hv ht hC hx F N off ne
      dsimp only at ht
      obtain ⟨wd, hwd, tw, rfl, _⟩ := hw.mem hv
      have hl := mergeN_len _ _ _ _ hwd
      have hwl : (tx wd).length ≤ 100 := by rw [tx_len]; omega
      have hxl : (tx [x]).length ≤ 100 := by rw [tx_len, List.length_singleton]; omega
      k_steps
      rename _ ∨ _ => hor
      exact EndJ.intro (by assumption) (by assumption) (fun p hp => hp) (addR_of (by omega) (by omega) hor)
    case refine_1 =>
      rw [words_len hw, sizeLine_eq]
      exact Nat.le_trans (mergeN_count _ _ _) (Nat.le_trans (Nat.pow_le_pow_right (by decide) hn4) (by decide))
    case refine_3 =>
      intro g D h tk ys1 j F N lt
      have hw2 := words_add hw j.2
      have hlo := j.1
      dsimp only at hlo
      have hc2 := words_81 hn4 hw2
      try k_lt lt
      dsimp only
      k_steps
      clear hw
      rename mergedR _ _ _ _ _ _ => hw
      refine src_list (p := fun _ => true) (R := AddR n0 y) (by rfl) (by assumption) (by assumption) (.inr ⟨_, .head _, rfl, _, rfl⟩) ?_ (fun _ _ _ _ _ h => h) ?_ ?_
      case refine_2 =>
        intro g
        refine OneM.toF ?_
        intro v ys I oI C oC D m₂ h tk E' hv ht hC hx F N off ne
        dsimp only at ht
        obtain ⟨wd, hwd, tw, rfl, _⟩ := hw.mem hv
        have hl := mergeN_len _ _ _ _ hwd
        have hwl : (tx wd).length ≤ 100 := by rw [tx_len]; omega
        have hxl : (tx [y]).length ≤ 100 := by rw [tx_len, List.length_singleton]; omega
        k_steps
        rename _ ∨ _ => hor
        exact EndJ.intro (by assumption) (by assumption) (fun p hp => hp) (addR_of (by omega) (by omega) hor)
      case refine_1 =>
        rw [words_len hw, sizeLine_eq]
        exact Nat.le_trans (mergeN_count _ _ _) (Nat.le_trans (Nat.pow_le_pow_right (by decide) hn4) (by decide))
      case refine_3 =>
        intro g D h tk ys2 j F N lt
        have hw3 := words_add hw j.2
        have hlo := j.1
        dsimp only at hlo
        have hc3 := words_81 hn4 hw3
        clear hw
        try k_lt lt
        dsimp only
        k_steps
        · rename mergedR _ _ _ _ _ _ => hw
          refine src_list (p := fun _ => true) (R := AddR n0 x) (by rfl) (by assumption) (by assumption) (.inr ⟨_, .head _, rfl, _, rfl⟩) ?_ (fun _ _ _ _ _ h => h) ?_ ?_
          case refine_2 =>
            intro g
            refine OneM.toF ?_
            intro v ys I oI C oC D m₂ h tk E' hv ht hC hx F N off ne
            dsimp only at ht
            obtain ⟨wd, hwd, tw, rfl, _⟩ := hw.mem hv
            have hl := mergeN_len _ _ _ _ hwd
            have hwl : (tx wd).length ≤ 100 := by rw [tx_len]; omega
            have hxl : (tx [x]).length ≤ 100 := by rw [tx_len, List.length_singleton]; omega
            k_steps
            rename _ ∨ _ => hor
            exact EndJ.intro (by assumption) (by assumption) (fun p hp => hp) (addR_of (by omega) (by omega) hor)
          case refine_1 =>
            rw [words_len hw, sizeLine_eq]
            exact Nat.le_trans (mergeN_count _ _ _) (Nat.le_trans (Nat.pow_le_pow_right (by decide) hn4) (by decide))
          case refine_3 =>
            intro g D h tk ys j F N lt
            have hw4 := words_add hw j.2
            have hlo := j.1
            dsimp only at hlo
            have hc4 := words_81 hn4 hw4
            have hc5 : (ys1 ++ ys2).length ≤ 162 := by rw [List.length_append]; omega
            clear hw
            try k_lt lt
            dsimp only
            k_steps
            rename _ ∧ _ ∧ _ ∧ _ ∧ _ ∧ _ ∧ _ ∧ _ ∧ _ ∧ AllLt _ _ => hlt
            rename News h₀ _ _ ((_, _) :: _) => hN
            rename (tx [x] == tx [y]) = true => hxy
            refine ret_list hret hN (.head _) (fun p hp => .tail _ (.tail _ (.tail _ (.tail _ (.tail _ (.tail _ (.tail _ (.tail _ (.tail _ (.tail _ hp)))))))))) hlt.2.2.2.2.2.2.2.2.2 (by assumption) ?_
            exact merged_eq he hxy (hn0 ▸ hw2) (hn0 ▸ hw3) (hn0 ▸ hw4)
        · rename _ ∧ _ ∧ _ ∧ _ ∧ _ ∧ _ ∧ AllLt _ _ => hlt
          rename News h₀ _ _ ((_, _) :: _) => hN
          rename (tx [x] == tx [y]) = false => hxy
          refine ret_list hret hN (.head _) (fun p hp => .tail _ (.tail _ (.tail _ (.tail _ (.tail _ (.tail _ (.tail _ hp))))))) hlt.2.2.2.2.2.2 (by assumption) ?_
          exact merged_ne he hxy (hn0 ▸ hw2) (hn0 ▸ hw3)
end
end Mine
end
section
open PySem PySem.W PySem.Calls PyProof.Rows PyProof.Rows.LCg
set_option maxRecDepth 100000
set_option maxHeartbeats 4000000
namespace Mine
section
variable {prog : Program} {w : World} {A : Around} {E : Value → Shared → Prop} {s : Shared} {env : Env} {h₀ : Heap} {x : Str} {body : List Stmt} {Q : Flow → Shared → Prop} {I : Addr} {lp : Addr × Obj} {Inv : List Value → (Str → Option Value) → List (Addr × Obj) → Prop}
/-- a loop over a list, with an invariant on the names and the ledger -/
theorem listRest_led (hlp : ∀ l m n, Inv l m n → lp ∈ n)
    (step : ∀ v r m n it h tk, Inv (v :: r) m n → it.cls = .type "list_iterator" → Fr h₀ env.locals h (fun y => if y = x then some v else m y) → News h₀ env.locals h ((I, it) :: n) →
      wpAny (model prog w) A (execs body env) (UnrPost h₀ env.locals { s with heap := h, toks := tk } I it (fun m' n' => Inv r m' n') Q) E { s with heap := h, toks := tk })
    (fin : ∀ m n h tk, Inv [] m n → Fr h₀ env.locals h m → News h₀ env.locals h n → Q .next { s with heap := h, toks := tk }) :
    ∀ l m n, Inv l m n → ListRest prog w A E h₀ env x body Q s I lp l m n
  | [], m, n, i => fun h tk F N => fin m n h tk i F N
  | v :: r, m, n, i => fun it h tk hc F N => by
    refine wpAny_mono (step v r m n it h tk i hc F N) (fun f s₂ p => ?_) (fun _ _ z => z)
    have go : UnrEnd h₀ env.locals { s with heap := h, toks := tk } I it (fun m' n' => Inv r m' n') s₂ →
        UnrEnd h₀ env.locals { s with heap := h, toks := tk } I it (fun m' n' => lp ∈ n' ∧ ListRest prog w A E h₀ env x body Q s I lp r m' n') s₂ := by
      rintro ⟨h', tk', m', n', e, F', N', off, j⟩
      exact ⟨h', tk', m', n', e, F', N', off, hlp _ _ _ j, listRest_led hlp step fin r m' n' j⟩
    cases f with
    | ret v => exact p
    | brk => exact p
    | next => exact go p
    | cont => exact go p
end
noncomputable def letterC (low c : Int) : Nat := (97 + (low + c.fmod 2)).toNat
noncomputable def stepC (low c : Int) (ws : List (List Nat)) : List (List Nat) := ws.map (· ++ [goneC (c.fdiv 24)]) ++ ws.map (· ++ [letterC low c])
noncomputable def choicesN (low : Int) (cs : List Int) (ws : List (List Nat)) : List (List Nat) := cs.foldl (fun ws c => stepC low c ws) ws
theorem folds_turn {place turn : Int} (h0 : 0 ≤ place) (h1 : place < 26) : foldsTo (spelledC place turn) ((97 + place).toNat) = true := by
  have hf := fmod_pos turn 12 (by decide)
  have := spelled_folds (turn.fmod 12).toNat place.toNat (by omega) (by omega)
  have e : spelledC (place.toNat : Int) ((turn.fmod 12).toNat : Int) = spelledC place turn := by
    unfold spelledC
    rw [Int.toNat_of_nonneg h0, Int.toNat_of_nonneg hf.1]
    have : (turn.fmod 12).fmod 12 = turn.fmod 12 := by
      rw [Int.fmod_eq_emod_of_nonneg turn (by decide), Int.fmod_eq_emod_of_nonneg _ (by decide)]
      omega
    rw [this]
  rw [e] at this
  rw [show (97 + place).toNat = 97 + place.toNat by omega]
  exact this
noncomputable def choicesM (low : Int) (u : Tok) (m0 : Str → Option Value) (iv tv : Option Value) : Str → Option Value := fun y => if y = Str.ofString "texts" then tv else if y = Str.ofString "cell" then iv else if y = Str.ofString "low" then some (.int low u) else m0 y
theorem choicesM_i {low : Int} {u : Tok} {m0 : Str → Option Value} {iv tv v : Option Value} : (fun y => if y = Str.ofString "cell" then v else choicesM low u m0 iv tv y) = choicesM low u m0 v tv := by
  funext y
  unfold choicesM
  by_cases e : y = Str.ofString "cell"
  · rw [if_pos e, if_pos e, if_neg (by rw [e]; decide)]
  · rw [if_neg e, if_neg e, if_neg e]
theorem choicesM_t {low : Int} {u : Tok} {m0 : Str → Option Value} {iv tv v : Option Value} : (fun y => if y = Str.ofString "texts" then v else choicesM low u m0 iv tv y) = choicesM low u m0 iv v := by
  funext y
  unfold choicesM
  by_cases e : y = Str.ofString "texts"
  · rw [if_pos e, if_pos e]
  · rw [if_neg e, if_neg e, if_neg e]
theorem choicesM_ti {low : Int} {u : Tok} {m0 : Str → Option Value} {iv tv v t : Option Value} : (fun y => if y = Str.ofString "texts" then t else if y = Str.ofString "cell" then v else choicesM low u m0 iv tv y) = choicesM low u m0 v t := by
  have h1 := choicesM_i (low := low) (u := u) (m0 := m0) (iv := iv) (tv := tv) (v := v)
  funext y
  have h2 := congrFun (choicesM_t (low := low) (u := u) (m0 := m0) (iv := v) (tv := tv) (v := t)) y
  rw [← h2, ← h1]
theorem choicesM_start {low : Int} {u : Tok} {m0 : Str → Option Value} {t : Option Value} (h : m0 (Str.ofString "low") = some (.int low u)) : (fun y => if y = Str.ofString "texts" then t else m0 y) = choicesM low u m0 (m0 (Str.ofString "cell")) t := by
  funext y
  unfold choicesM
  by_cases e : y = Str.ofString "texts"
  · rw [if_pos e, if_pos e]
  · rw [if_neg e, if_neg e]
    by_cases e : y = Str.ofString "cell"
    · rw [if_pos e, e]
    · rw [if_neg e]
      by_cases e : y = Str.ofString "low"
      · rw [if_pos e, e, h]
      · rw [if_neg e]
noncomputable def choicesInv (low : Int) (u : Tok) (m0 : Str → Option Value) (c1 c2 I : Addr) (news : List (Addr × Obj)) (res : List (List Nat)) (l : List Value) (m : Str → Option Value) (n : List (Addr × Obj)) : Prop :=
  ∃ (T k : Nat) (ys : List Value) (o1 o2 : Obj) (v1 v2 iv : Option Value) (ws : List (List Nat)) (cs : List Int), IntsAre l cs ∧ (∀ c ∈ cs, 0 ≤ c ∧ c < 100000000) ∧ m = choicesM low u m0 iv (some (.ref T)) ∧ n = (T, lsn ys k) :: (c1, o1) :: (c2, o2) :: news ∧
    o1.data = .cell v1 ∧ o2.data = .cell v2 ∧ WordsAre 0 ws ys ∧ choicesN low cs ws = res ∧ (@Ne Nat T I) ∧ @LT.lt Nat _ c1 T ∧ @LT.lt Nat _ c2 T ∧ (∀ w ∈ ws, w.length + cs.length ≤ 5) ∧ ws.length * 2 ^ cs.length ≤ 32 ∧ (∀ p ∈ news, @LT.lt Nat _ p.1 T)
theorem unrEnd_pick {h₀ : Heap} {L I : Addr} {it : Obj} {rest : (Str → Option Value) → List (Addr × Obj) → Prop} {s₁ : Shared} {h' : Heap} {tk : Nat} {m' : Str → Option Value} {p0 p1 p2 p3 p5 q1 q2 : Addr × Obj} {news : List (Addr × Obj)} (F : Fr h₀ L h' m') (N : News h₀ L h' (p0 :: p1 :: p2 :: p3 :: (I, it) :: p5 :: q1 :: q2 :: news))
    (o0 : p0.1 ≠ I) (o1 : q1.1 ≠ I) (o2 : q2.1 ≠ I) (on : ∀ p ∈ news, p.1 ≠ I) (r : rest m' (p0 :: q1 :: q2 :: news)) : UnrEnd h₀ L s₁ I it rest { s₁ with heap := h', toks := tk } := by
  refine UnrEnd.intro F N (p0 :: q1 :: q2 :: news) ?_ ?_ r
  · intro p hp
    rcases List.mem_cons.mp hp with rfl | hp
    · exact .tail _ (.tail _ (.tail _ (.tail _ (.head _))))
    rcases List.mem_cons.mp hp with rfl | hp
    · exact .head _
    rcases List.mem_cons.mp hp with rfl | hp
    · exact .tail _ (.tail _ (.tail _ (.tail _ (.tail _ (.tail _ (.head _))))))
    rcases List.mem_cons.mp hp with rfl | hp
    · exact .tail _ (.tail _ (.tail _ (.tail _ (.tail _ (.tail _ (.tail _ (.head _)))))))
    · exact .tail _ (.tail _ (.tail _ (.tail _ (.tail _ (.tail _ (.tail _ (.tail _ hp)))))))
  · intro p hp
    rcases List.mem_cons.mp hp with rfl | hp
    · exact o0
    rcases List.mem_cons.mp hp with rfl | hp
    · exact o1
    rcases List.mem_cons.mp hp with rfl | hp
    · exact o2
    · exact on p hp
noncomputable def Hold2 (P : Prop) : Prop := P
theorem hold2 {P : Prop} (h : Hold2 P) : P := h
section
local macro_rules | `(tactic| k_all) => `(tactic| assumption)
local macro_rules | `(tactic| walk_at "call ref") => `(tactic| (k_here; k_dflt (refine' use_cat ?B ?F ?X ?N ?T ?k ?p ?q ?d ?u ?_; (case B => k_asm); (case F => k_asm); (case X => k_asm); (case N => k_asm); (case T => k_asm); (case k => rfl); (case p => assumption); (case q => assumption); (case d => ktr_room); (case u => ktr_units); intro t' h' tk' ht' le' F' N')))
local macro_rules | `(tactic| walk_at "call ref") => `(tactic| (k_here; k_dflt (refine' use_claim (gone_spec rfl _ _ _ _ _ _ _) ?B ?F ?X ?N ?T ?k ?p ?d ?u ?_; (case B => k_asm); (case F => k_asm); (case X => k_asm); (case N => k_asm); (case T => k_asm); (case k => rfl); (case p => first | assumption | omega); (case d => ktr_room); (case u => ktr_units); intro t' h' tk' F' N')))
local macro_rules | `(tactic| walk_at "call ref") => `(tactic| (k_here; k_dflt (refine' use_claim (spelled_spec rfl _ _ _ _ _ _ _ _ _) ?B ?F ?X ?N ?T ?k ?p ?d ?u ?_; (case B => k_asm); (case F => k_asm); (case X => k_asm); (case N => k_asm); (case T => k_asm); (case k => rfl); (case p => first | assumption | omega); (case d => ktr_room); (case u => ktr_units); intro t' h' tk' F' N')))
local macro_rules | `(tactic| walk_at "call ref") => `(tactic| (k_here; k_dflt (refine' use_claim (map_spec rfl _ _ _ _ _ _ _ _) ?B ?F ?X ?N ?T ?k ?p ?d ?u ?_; (case B => k_asm); (case F => k_asm); (case X => k_asm); (case N => k_asm); (case T => k_asm); (case k => rfl); (case p => exact folds_turn (by assumption) (by assumption)); (case d => ktr_room); (case u => ktr_units); intro t' h' tk' F' N')))
local macro_rules | `(tactic| walk_at "binaryOp Add ref ref") => `(tactic| (k_here; k_dflt (refine' add_led ?F ?N ?a ?b ?z ?_; (case F => k_asm); (case N => k_asm); (case a => k_mem); (case b => k_mem); (case z => (rw [sizeLine_eq]; omega)); intro D' h' F' N' l1; (try k_lt l1))))
local macro_rules | `(tactic| walk_at "eval ListComp") => `(tactic| (k_here; k_dflt (refine ListComp_J (by k_asm) (by with_unfolding_all rfl) (by decide) (by rfl) (by decide) (by rfl) (by intro _; rfl) ?_)))
local macro_rules | `(tactic| walk_at "exec For Name Name cons nil") => `(tactic| (k_here; (rename Fr _ _ _ _ => lF'); (with_unfolding_all refine' For_invVF lF' ?k1 ?k2 ?_; (case k1 => exact rfl); (case k2 => exact rfl); k_whole)))
theorem choices_spec : PySem.Challenge.rw_tc0035_01 = PySem.Challenge.rw_tc0035_01 → ∀ (w : World) (mean : ExcName → Option Value) (mg mb : Str → Option Value) (D k : Nat) (vs : List Value) (cs : List Int) (low : Int) (u : Tok) (news : List (Addr × Obj)),
    ClaimJ w mean mg mb 146 3 news ((D, lsn vs k) ∈ news ∧ IntsAre vs cs ∧ (∀ c ∈ cs, 0 ≤ c ∧ c < 100000000) ∧ cs.length ≤ 5 ∧ 0 ≤ low ∧ low < 25) [.ref D, .int low u] (RetL news (fun ys _ _ => WordsAre 0 (choicesN low cs [[]]) ys)) := by
  dsimp only [ClaimJ, RetL]
  k_fill
  intro hrw
  intro w mean mg mb Dc kc vs cs low u news dp un gd cn cs' ad ccd cl outer A₀ base h₀ L m s Q E B F X N T hk hp hd hu hret
  obtain ⟨hmem, hints, hcs, hlen, hl0, hl1⟩ := hp
  refine wpAny_call ?_
  first | k_dflt cell_enter | (refine' enter_cells ?k1 ?k2 ?k3 ?k4 ?k5 ?kA ?kF ?kK ?k6 ?k7 ?k8 ?k9 ?kB ?kD ?_ ?c2 ?c3 ?c4; (case kA => exact rfl); (case kF => exact rfl); (case kK => assumption); (case k1 => k_asm); (case k2 => k_asm); (case k3 => k_asm); (case k4 => k_asm); (case k5 => k_asm); (case k6 => k_is); (case k7 => k_is); (case k8 => ktr_room); (case k9 => exact BindsTo.of_eq rfl); (case kB => exact rfl); (case kD => decide +kernel); (case c2 => exact rfl); (case c3 => exact rfl); (case c4 => exact rfl); k_whole; intro g' L' h' tk' cells' kE' FG' F' N' Y' B' X' T' l1; (try k_lt l1); k_cells Y'; (try simp only [List.cons_append, List.nil_append] at N'); (try dsimp only); (try k_lift B'); (try k_fold))
  rename ∀ p ∈ news, p.1 < L' => l0
  k_steps
  rename Fr _ _ _ _ => lF
  rename News _ _ _ _ => lN
  rw [choicesM_start (low := low) (u := u) (by rfl)] at lF
  obtain ⟨m0, iv, lF⟩ : ∃ m0 iv, Fr _ _ _ (choicesM low u m0 iv _) := ⟨_, _, lF⟩
  rename _ ∧ _ ∧ AllLt _ _ => hlt
  with_unfolding_all refine iter_listUnr (lo := lsn vs kc) (vs := vs) (by rfl) lF lN (.tail _ (.tail _ (.tail _ hmem))) (by rfl) (by rfl) ?_
  intro I l1
  refine listRest_led (Inv := choicesInv low u m0 (L' + 1 + 1) (L' + 1) I news (choicesN low cs [[]])) ?_ ?_ ?_ vs _ _ ?_
  case refine_1 =>
    rintro l m n ⟨T, k, ys, o1, o2, v1, v2, iv, ws, cs, _, _, _, rfl, _⟩
    exact .tail _ (.tail _ (.tail _ hmem))
  case refine_4 =>
    refine ⟨_, _, [_], _, _, _, _, _, [[]], cs, hints, hcs, rfl, rfl, by assumption, by assumption, .cons ⟨_, rfl, Nat.zero_le _⟩ .nil, rfl, ?_, hlt.1, hlt.2.1, ?_, ?_, allLt_mem hlt.2.2⟩
    · exact Nat.ne_of_lt (l1 _ (.head _))
    · intro w hw
      rw [List.mem_singleton.mp hw]
      exact Nat.le_trans (Nat.le_of_eq (Nat.zero_add _)) hlen
    · rw [List.length_singleton, Nat.one_mul]
      exact Nat.le_trans (Nat.pow_le_pow_right (by decide) hlen) (by decide)
  case refine_2 =>
    rintro v r m n it h tk ⟨T, k, ys, o1, o2, v1, v2, iv, ws, rs, hi, hb, rfl, rfl, ho1, ho2, hw, hres, hTI, hT1, hT2, hwl, hws, hTn⟩ hc F N
    obtain ⟨c, rs', rfl⟩ : ∃ c rs', rs = c :: rs' := by cases hi; exact ⟨_, _, rfl⟩
    obtain ⟨tc, hv, hi'⟩ : ∃ tc, v = .int c tc ∧ IntsAre r rs' := by cases hi; exact ⟨_, rfl, by assumption⟩
    subst hv
    have hc0 := hb c (.head _)
    have hn1 : ∀ p ∈ news, @Ne Nat p.1 (L' + 1) := fun p hp => Nat.ne_of_lt (Nat.lt_succ_of_lt (l0 p hp))
    have hn2 : ∀ p ∈ news, @Ne Nat p.1 (L' + 1 + 1) := fun p hp => Nat.ne_of_lt (Nat.lt_succ_of_lt (Nat.lt_succ_of_lt (l0 p hp)))
    have hI1 : @LT.lt Nat _ (L' + 1) I := l1 (L' + 1, _) (.tail _ (.tail _ (.head _)))
    have hI2 : @LT.lt Nat _ (L' + 1 + 1) I := l1 (L' + 1 + 1, _) (.tail _ (.head _))
    have hm := fmod_pos c 2 (by decide)
    have hp0 : 0 ≤ low + c.fmod 2 := by omega
    have hp1 : low + c.fmod 2 < 26 := by omega
    have hg : 0 ≤ c.fdiv 24 ∧ c.fdiv 24 < 100000000 := by rw [Int.fdiv_eq_ediv_of_nonneg c (by decide)]; omega
    have hs : 0 ≤ low + c.fmod 2 ∧ low + c.fmod 2 < 26 ∧ 0 ≤ c.fdiv 2 ∧ c.fdiv 2 < 100000000 := by rw [Int.fdiv_eq_ediv_of_nonneg c (by decide)]; omega
    have hws2 : ws.length ≤ 32 := by
      have : 1 ≤ 2 ^ (c :: rs').length := Nat.pos_of_ne_zero (by simp)
      exact Nat.le_trans (Nat.le_mul_of_pos_right _ this) hws
    k_steps
    refine src_list (p := fun _ => true) (R := AddR 0 (goneC (c.fdiv 24))) (by rfl) (by assumption) (by assumption) (.inr ⟨_, by k_mem, rfl, _, rfl⟩) ?_ (fun _ _ _ _ _ h => h) ?_ ?_
    case refine_2 =>
      intro g
      refine OneM.toF ?_
      intro v ys I oI C oC D m₂ h tk E' hv ht hC hx F N off ne
      dsimp only at ht
      obtain ⟨wd, hwd, tw, rfl, _⟩ := hw.mem hv
      have hl := hwl wd hwd
      have hwl : (tx wd).length ≤ 100 := by rw [tx_len]; omega
      have hxl : (⟨#[goneC (c.fdiv 24)]⟩ : Str).length ≤ 100 := by show 1 ≤ 100; omega
      k_steps
      rename _ ∨ _ => hor
      exact EndJ.intro (by assumption) (by assumption) (fun p hp => hp) (addR_of (Nat.zero_le _) (Nat.zero_le _) hor)
    case refine_1 =>
      rw [words_len hw, sizeLine_eq]
      omega
    case refine_3 =>
      intro g D h tk ys1 j F N lt
      have hw1 := words_add hw j.2
      have hc2 : ys1.length ≤ 32 := by rw [words_len hw1, List.length_map]; omega
      try k_lt lt
      dsimp only
      k_steps
      refine src_list (p := fun _ => true) (R := AddR 0 ((97 + (low + c.fmod 2)).toNat)) (by rfl) (by assumption) (by assumption) (.inr ⟨_, by k_mem, rfl, _, rfl⟩) ?_ (fun _ _ _ _ _ h => h) ?_ ?_
      case refine_2 =>
        intro g
        refine OneM.toF ?_
        intro v ys I oI C oC D m₂ h tk E' hv ht hC hx F N off ne
        dsimp only at ht
        obtain ⟨wd, hwd, tw, rfl, _⟩ := hw.mem hv
        have hl := hwl wd hwd
        have hwl : (tx wd).length ≤ 100 := by rw [tx_len]; omega
        have hxl : (⟨#[(97 + (low + c.fmod 2)).toNat]⟩ : Str).length ≤ 100 := by show 1 ≤ 100; omega
        k_steps
        rename _ ∨ _ => hor
        exact EndJ.intro (by assumption) (by assumption) (fun p hp => hp) (addR_of (Nat.zero_le _) (Nat.zero_le _) hor)
      case refine_1 =>
        rw [words_len hw, sizeLine_eq]
        omega
      case refine_3 =>
        intro g D h tk ys2 j F N lt
        have hw2 := words_add hw j.2
        have hc2 : ys2.length ≤ 32 := by rw [words_len hw2, List.length_map]; omega
        try k_lt lt
        dsimp only
        k_steps
        rename _ ∧ _ ∧ _ ∧ _ ∧ _ ∧ _ ∧ _ ∧ AllLt _ _ => hlt2
        rename News g' _ _ (_ :: _) => hN
        refine unrEnd_pick (by assumption) hN (Nat.ne_of_gt hlt2.2.2.2.1) (Nat.ne_of_lt hI2) (Nat.ne_of_lt hI1) (fun p hp => Nat.ne_of_lt (l1 p (.tail _ (.tail _ (.tail _ hp))))) ?_
        · refine ⟨_, _, _, _, _, _, _, _, stepC low c ws, rs', hi', fun c h => hb c (.tail _ h), choicesM_ti, rfl, by assumption, by assumption, words_app hw1 hw2, hres, Nat.ne_of_gt hlt2.2.2.2.1, hlt2.2.2.2.2.2.1, hlt2.2.2.2.2.2.2.1, ?_, ?_, allLt_mem hlt2.2.2.2.2.2.2.2⟩
          · intro w hw'
            rcases List.mem_append.mp hw' with h' | h'
            · obtain ⟨w', hz, rfl⟩ := List.mem_map.mp h'
              have := hwl w' hz
              rw [List.length_cons] at this
              rw [List.length_append, List.length_singleton]; omega
            · obtain ⟨w', hz, rfl⟩ := List.mem_map.mp h'
              have := hwl w' hz
              rw [List.length_cons] at this
              rw [List.length_append, List.length_singleton]; omega
          · unfold stepC
            rw [List.length_cons, Nat.pow_succ] at hws
            rw [List.length_append, List.length_map, List.length_map, ← Nat.two_mul, Nat.mul_comm 2, Nat.mul_assoc, Nat.mul_comm 2]
            exact hws
  case refine_3 =>
    rintro m n h tk ⟨T, k, ys, o1, o2, v1, v2, iv, ws, rs, hi, hb, rfl, rfl, ho1, ho2, hw, hres, hTI, hT1, hT2, hwl, hws, hTn⟩ F N
    obtain rfl : rs = [] := by cases hi; rfl
    k_steps
    rename News h₀ _ _ (_ :: _) => hN
    refine ret_list hret hN (.head _) (fun p hp => .tail _ (.tail _ (.tail _ hp))) (allLt_of hTn) (by assumption) ?_
    rw [← hres]
    exact hw
end
end Mine
end
section
open PySem PySem.Spec PySem.W PySem.Calls PyProof.Rows PyProof.Rows.LCg
set_option maxRecDepth 100000
set_option maxHeartbeats 4000000
namespace Mine
section
variable {prog : Program} {w : World} {A : Around} {E : Value → Shared → Prop} {s : Shared} {env : Env} {h₀ : Heap} {target : Expr} {body : List Stmt} {Q : Flow → Shared → Prop}
/-- a for over range(b), whatever its target, with an invariant on the names and the ledger -/
theorem range_turns {r : Addr} {b : Int} {t u v : Tok} {n : Nat} {m₀ : Str → Option Value} {news : List (Addr × Obj)} {Inv : Nat → (Str → Option Value) → List (Addr × Obj) → Prop}
    (hh : A.handled = none) (F : Fr h₀ env.locals s.heap m₀) (N : News h₀ env.locals s.heap news) (hr : IsRange s.heap r 0 b 1 t u v) (hsm : Builtin.Range.small 0 b 1 = true) (hn : Builtin.Range.rangeSize 0 b 1 = ((n : Nat) : Int))
    (hgo : ∀ I v, letOwnedTupleGo target (.ref I) v = pure ()) (h0 : Inv 0 m₀ news)
    (step : ∀ I i m n' it h tk t', (∀ p ∈ news, @LT.lt Nat _ p.1 I) → i < n → Inv i m n' → Fr h₀ env.locals h m → News h₀ env.locals h ((I, it) :: n') → (∀ p ∈ n', @Ne Nat p.1 I) →
      wpAny (model prog w) A (assign target env (.int (i : Int) t')) (fun _ s₂ => wpAny (model prog w) A (execs body env) (UnrPost h₀ env.locals { s with heap := h, toks := tk } I it (fun m' n'' => Inv (i + 1) m' n'') Q) E s₂) E { s with heap := h, toks := tk })
    (fin : ∀ m n' h tk, Inv n m n' → Fr h₀ env.locals h m → News h₀ env.locals h n' → Q .next { s with heap := h, toks := tk }) :
    wpAny (model prog w) A (pyIter (.ref r)) (fun it s₂ => TurnsAt prog w A h₀ env target body Q E it s₂) E s := by
  refine wpAny_pyIter_range hr hsm ?_
  have hnew := next_is_new F
  refine ⟨s.heap.objs.size, [s.heap.objs.size], [s.heap.objs.size], n, _, _, _, m₀, news, Inv, rfl, KTurns.ofWalks (range_walks hh 0 n) (fun i v s Q E _ q => wpAny_of_eq (hgo _ _) q), ?_, ?_, ?_, ?_, F.push _, (fun p hp => ⟨Heap.get?_push_of_some _ (N p hp).1, (N p hp).2⟩), h0, ?_, ?_⟩
  · intro hm
    exact absurd F.ns.lt ((List.mem_singleton.mp hm) ▸ Nat.lt_irrefl _)
  · intro b hb
    rw [List.mem_singleton.mp hb]
    exact hnew
  · intro p hp hI
    exact absurd (Heap.lt_size (N p hp).1) ((List.mem_singleton.mp hI) ▸ Nat.lt_irrefl _)
  · show IsRangeIter _ _ _ _ _
    rw [hn]
    simpa using Heap.get?_push_size _ rfl
  · rintro i v m₁ news₁ hh' tk' own hin ⟨t', rfl⟩ hJ hoff hown hget hall hst F₁ N₁
    obtain ⟨it, hit⟩ : ∃ it, hh'.get? s.heap.objs.size = some it := ⟨_, hst⟩
    have hmemI := hall s.heap.objs.size (.head _) hnew _ hit
    rw [Int.zero_add]
    refine wpAny_mono (step s.heap.objs.size i m₁ news₁ it hh' tk' t' (fun p hp => Heap.lt_size (N p hp).1) hin hJ F₁ (fun p hp => ?_) fun p hp e => hoff p hp (List.mem_singleton.mpr e)) (fun _ s₂ q => wpAny_mono q (fun f s₃ p => ?_) fun _ _ e => e) fun _ _ e => e
    · rcases List.mem_cons.mp hp with rfl | hp
      · exact N₁ _ (List.mem_append_left _ hmemI)
      · exact N₁ _ (List.mem_append_right _ hp)
    have fin : UnrEnd h₀ env.locals { s with heap := hh', toks := tk' } s.heap.objs.size it (fun m' n'' => Inv (i + 1) m' n'') s₃ →
        LoopStepU h₀ env.locals [s.heap.objs.size] own (Inv (i + 1)) { s with heap := hh', toks := tk' } .next s₃ := by
      rintro ⟨h', tk, m', news', e, F', N', ho, r⟩
      refine ⟨rfl, h', tk, m', news', e, F', fun p hp => ?_, fun p hp hI => ho p hp (List.mem_singleton.mp hI), r⟩
      rcases List.mem_append.mp hp with hp | hp
      · have h2 : hh'.get? p.1 = some p.2 := hget p hp
        have h1 := List.mem_singleton.mp (hown p hp)
        have h3 : p = (s.heap.objs.size, it) := by
          rw [h1, hit] at h2
          exact Prod.ext h1 (Option.some.inj h2).symm
        rw [h3]
        exact N' _ (.head _)
      · exact N' _ (.tail _ hp)
    cases f with
    | ret v => exact .ret p
    | brk => exact .brk p
    | next => exact .next (fin p)
    | cont => exact .cont (fin p)
  · intro h' tk m' news' F' N' _ hJ
    exact fin m' news' h' tk hJ F' N'
end
end Mine
end
section
open PySem PySem.W PySem.Calls PyProof.Rows PyProof.Rows.LCg
set_option maxRecDepth 100000
set_option maxHeartbeats 4000000
namespace Mine
noncomputable def isTrueV : Value → Bool
  | .bool b => b
  | _ => false
theorem in_bools {w : World} {A : Around} {E : Value → Shared → Prop} {h₀ : Heap} {L : Addr} {news : List (Addr × Obj)} {s : Shared} {Q : Value → Shared → Prop} {D : Addr} {ys : List Value} {bs : List Bool} {k : Nat}
    (N : News h₀ L s.heap news) (hm : (D, lsn ys k) ∈ news) (hy : ys = bs.map .bool) (hq : Q (.bool (bs.any id)) s) :
    wpAny (model pw w) A (compareOp .In (.bool true) (.ref D)) Q E s := by
  refine PySem.SeqAt.in_listAt (items := ys.toArray) isTrueV ⟨_, (N _ hm).1, rfl, _, rfl⟩ (fun y hy' => ?_) ?_
  · rw [hy] at hy'
    obtain ⟨b, _, rfl⟩ := List.mem_map.mp (List.mem_toArray.mp hy')
    have := PySem.SeqAt.EqAt.bool_bool (A := A.in1) (s := s) b true
    rw [show (b == true) = isTrueV (.bool b) by cases b <;> rfl] at this
    exact this
  · have e : ys.toArray.any isTrueV = bs.any id := by
      rw [hy, List.any_toArray, List.any_map]
      rfl
    rw [e]
    exact hq
section
local macro_rules | `(tactic| walk_at "compareOp In bool ref") => `(tactic| (k_here; k_dflt (refine' in_bools ?N ?m ?e ?_; (case N => k_asm); (case m => assumption); (case e => assumption))))
theorem contains_spec : PySem.Challenge.rw_tc0035_01 = PySem.Challenge.rw_tc0035_01 → ∀ (w : World) (mean : ExcName → Option Value) (mg mb : Str → Option Value) (D k : Nat) (ys : List Value) (bs : List Bool) (news : List (Addr × Obj)),
    CbClaim pw w (kpart w.params) qv (looseW qv looseN) mean mg mb 49 news [] ((D, lsn ys k) ∈ news ∧ ys = bs.map .bool) [.ref D, .bool true] (fun _ => .bool (bs.any id)) := by
  k_fill
  intro _
  dsimp only [CbClaim, CbLists, CbRet]
  intros
  rename_i hp _ _ hret
  have hp1 := hp.1
  have hp2 := hp.2
  refine wpAny_call ?_
  k_dflt cell_enter
  k_steps
  exact cb_retB hret rfl (by assumption) (by assumption)
end
end Mine
end
section
open PySem PySem.W PySem.Calls PyProof.Rows PyProof.Rows.LCg
set_option maxRecDepth 100000
set_option maxHeartbeats 4000000
namespace Mine
noncomputable def MatchAt (w : World) (mean : ExcName → Option Value) (mg mb : Str → Option Value) (want : Str) (f : Str → Bool) : Prop := ∀ (g : Str) (t u : Tok) (news : List (Addr × Obj)),
  CbClaim pw w (kpart w.params) qv (looseW qv looseN) mean mg mb 63 news [] (g.length ≤ 100) [.str want t, .str g u] (fun _ => .bool (f g))
theorem use_match {w : World} {mean : ExcName → Option Value} {mg mb : Str → Option Value} {want : Str} {f : Str → Bool} (M : MatchAt w mean mg mb want f) {g : Str} {t u : Tok} {news : List (Addr × Obj)} {dp un : Nat} {gd : Option (List Code)} {cn : Str} {cs : Scope} {a : Addr} {ccd : Value} {cl : List (Str × Addr)} {outer : List Env} {A₀ : Around} {base h₀ : Heap} {L : Addr} {m : Str → Option Value} {s : Shared} {Q E : Value → Shared → Prop}
    (B : Below A₀ base outer h₀) (F : Fr h₀ L s.heap m) (X : (kpart w.params).In h₀) (N : News h₀ L s.heap news) (T : Top qv (looseW qv looseN) mean mg mb h₀) (hk : cs.kind = .function) (hl : g.length ≤ 100) (hd : dp + 1 < recursionLimit) (hu : un + 8 < cLine)
    (hq : ∀ h' tk', Fr h₀ L h' m → News h₀ L h' news → Q (.bool (f g)) { s with heap := h', toks := tk' }) :
    wpAny (model pw w) (ktrTop dp un gd cn cs L a ccd cl outer) (call (.ref 63) [.str want t, .str g u]) Q E s :=
  use_claim (M g t u news) B F X N T hk hl hd hu fun _ h' tk' F' N' => hq h' tk' F' N'
noncomputable def ToldR (f : Str → Bool) (v y : Value) (_ : Nat) : Prop := ∀ wd t, v = .str (tx wd) t → y = .bool (f (tx wd))
theorem told_are {f : Str → Bool} {ws : List (List Nat)} {vs : List Value} (h : WordsAre 0 ws vs) : ∀ {ys : List Value} {tk : Nat}, Paired (fun v y => ToldR f v y tk) (vs.filter fun _ => true) ys → ys = ws.map fun w => .bool (f (tx w)) := by
  have e : vs.filter (fun _ => true) = vs := List.filter_eq_self.mpr fun _ _ => rfl
  rw [e]
  clear e
  unfold WordsAre at h
  induction h with
  | nil => intro ys tk p; cases p; rfl
  | cons f _ ih =>
    intro ys tk p
    cases p with
    | cons q r =>
      obtain ⟨t, rfl, _⟩ := f
      rw [List.map_cons, ih (tk := tk) r, q _ _ rfl]
theorem len_led {w : World} {A : Around} {E : Value → Shared → Prop} {h₀ : Heap} {L : Addr} {news : List (Addr × Obj)} {h : Heap} {gs : Array GenState} {dr : Drawn} {tk : Nat} {os : OsState} {Q : Value → Shared → Prop} {D : Addr} {ys : List Value} {k n : Nat}
    (N : News h₀ L h news) (hm : (D, lsn ys k) ∈ news) (hn : ys.length = n) (hb : n ≤ 1000) (hq : Q (.int ((n : Nat) : Int) (tk + 1)) ⟨h, gs, dr, tk + 1 + 1, os⟩) :
    wpAny (model pw w) A (call (.builtin "len") [.ref D]) Q E ⟨h, gs, dr, tk, os⟩ := by
  refine len_list (s := ⟨h, gs, dr, tk, os⟩) (items := ys.toArray) ⟨_, (N _ hm).1, rfl, _, rfl⟩ ?_ ?_
  · rw [List.size_toArray]; omega
  · rw [List.size_toArray, hn]; exact hq
noncomputable def wantE (part : List Nat) : Str := Str.ofString "..." ++ Txt.join (Str.ofString "...") (PyProof.Rows.signs (tx part)) ++ Str.ofString "..."
theorem dots_len : (Str.ofString "...").length = 3 := by decide +kernel
theorem join_len (part : List Nat) (h : part.length ≤ 2) : (Txt.join (Str.ofString "...") (PyProof.Rows.signs (tx part))).length ≤ 5 := by
  have e : Str.ofString "..." = ⟨#[46, 46, 46]⟩ := by kernel_rfl
  rw [e]
  match part, h with
  | [], _ => decide +kernel
  | [a], _ => exact Nat.le_of_ble_eq_true rfl
  | [a, b], _ => exact Nat.le_of_ble_eq_true rfl
section
local macro_rules | `(tactic| k_all) => `(tactic| assumption)
local macro_rules | `(tactic| walk_at "exec Assign cons ListComp") => `(tactic| (k_here; k_dflt (refine Assign_ListComp_J (by k_asm) (by rfl) (by with_unfolding_all rfl) (by with_unfolding_all rfl) (by decide) (by rfl) (by decide) (by rfl) (by rfl) (by rfl) (by intro _; rfl) ?_)))
local macro_rules | `(tactic| walk_at "eval ListComp") => `(tactic| (k_here; k_dflt (refine ListComp_J (by k_asm) (by with_unfolding_all rfl) (by decide) (by rfl) (by decide) (by rfl) (by intro _; rfl) ?_)))
local macro_rules | `(tactic| walk_at "exec For Name Call cons nil") => `(tactic| (k_here; (rename Fr _ _ _ _ => lF'); (with_unfolding_all refine' For_turns lF' ?_; k_whole)))
local macro_rules | `(tactic| walk_at "call builtin:len") => `(tactic| (k_here; k_dflt (refine' len_led ?N ?m ?n ?b ?_; (case N => k_asm); (case m => k_mem); (case n => assumption); (case b => decide))))
local macro_rules | `(tactic| walk_at "subscriptTail Name Name ref int") => `(tactic| (k_here; k_dflt (refine' kbo_sub ?N ?m ?b ?k0 ?k1 ?k2 ?_ ?k3; (case N => k_asm); (case m => k_mem); (case b => assumption); (case k0 => assumption); (case k1 => assumption); (case k2 => assumption); (case k3 => with_unfolding_all rfl))))
local macro_rules | `(tactic| walk_at "subscriptTail Name Call ref int") => `(tactic| (k_here; k_dflt (refine' kbo_sub ?N ?m ?b ?k0 ?k1 ?k2 ?_ ?k3; (case N => k_asm); (case m => k_mem); (case b => assumption); (case k0 => assumption); (case k1 => assumption); (case k2 => assumption); (case k3 => with_unfolding_all rfl))))
local macro_rules | `(tactic| walk_at "call ref") => `(tactic| (k_here; k_dflt (refine' use_claim (xor_spec rfl _ _ _ _ _ _ _ _ _) ?B ?F ?X ?N ?T ?k ?p ?d ?u ?_; (case B => k_asm); (case F => k_asm); (case X => k_asm); (case N => k_asm); (case T => k_asm); (case k => rfl); (case p => omega); (case d => ktr_room); (case u => ktr_units); intro t' h' tk' F' N')))
local macro_rules | `(tactic| walk_at "call ref") => `(tactic| (k_here; k_dflt (refine' use_claim (and_spec rfl _ _ _ _ _ _ _ _ _) ?B ?F ?X ?N ?T ?k ?p ?d ?u ?_; (case B => k_asm); (case F => k_asm); (case X => k_asm); (case N => k_asm); (case T => k_asm); (case k => rfl); (case p => omega); (case d => ktr_room); (case u => ktr_units); intro t' h' tk' F' N')))
local macro_rules | `(tactic| walk_at "call ref") => `(tactic| (k_here; k_dflt (refine' use_claim (contains_spec rfl _ _ _ _ _ _ _ _ _) ?B ?F ?X ?N ?T ?k ?p ?d ?u ?_; (case B => k_asm); (case F => k_asm); (case X => k_asm); (case N => k_asm); (case T => k_asm); (case k => rfl); (case p => exact ⟨by k_mem, by assumption⟩); (case d => ktr_room); (case u => ktr_units); intro t' h' tk' F' N')))
local macro_rules | `(tactic| walk_at "call builtin:str.join") => `(tactic| (k_here; k_dflt (refine' join_strF (by rfl) ?F ?N ?ok ?_; (case F => k_asm); (case N => k_asm); (case ok => exact joinOk_signsN (N := 100) (S := 100) (by assumption) (by assumption) (by decide)); intro h' k' t' F' N')))
local macro_rules | `(tactic| walk_at "binaryOp Add str str") => `(tactic| (k_here; refine add_tok (by assumption) (by assumption) ?_; intro t' k' ht'))
local macro_rules | `(tactic| walk_at "call ref") => `(tactic| (k_here; k_dflt (refine' use_match (by assumption) ?B ?F ?X ?N ?T ?k ?p ?d ?u ?_; (case B => k_asm); (case F => k_asm); (case X => k_asm); (case N => k_asm); (case T => k_asm); (case k => rfl); (case p => assumption); (case d => ktr_room); (case u => ktr_units); intro h' tk' F' N')))
theorem boolsAre_map {g : List Nat → Bool} : ∀ ws : List (List Nat), LSm.BoolsAre (ws.map fun w => Value.bool (g w)) (ws.map g)
  | [] => .nil
  | w :: r => .cons _ (boolsAre_map r)
/-- what the loop counts: choices that are told and of which no less one is -/
noncomputable def fewerB (bs : Nat → Bool) (i : Nat) : Bool := [1, 2, 4, 8, 16].any fun st => decide (i &&& st ≠ 0) && bs (i ^^^ st)
noncomputable def fewP (i : Nat) : Value → Bool
  | .int st _ => decide (PySem.Builtin.bitAnd (i : Int) st ≠ 0)
  | _ => false
noncomputable def fewR (bsl : List Bool) (i : Nat) (v y : Value) (_ : Nat) : Prop := ∀ st t, v = .int st t → y = .bool (bsl.getD (PySem.Builtin.bitXor (i : Int) st).toNat false)
theorem five_mem {v : Value} {t1 t2 t3 t4 t5 : Tok} (h : v ∈ [Value.int 1 t1, .int 2 t2, .int 4 t3, .int 8 t4, .int 16 t5]) : ∃ st t, v = .int st t ∧ (st = 1 ∨ st = 2 ∨ st = 4 ∨ st = 8 ∨ st = 16) := by
  rcases List.mem_cons.mp h with rfl | h
  · exact ⟨_, _, rfl, .inl rfl⟩
  rcases List.mem_cons.mp h with rfl | h
  · exact ⟨_, _, rfl, .inr (.inl rfl)⟩
  rcases List.mem_cons.mp h with rfl | h
  · exact ⟨_, _, rfl, .inr (.inr (.inl rfl))⟩
  rcases List.mem_cons.mp h with rfl | h
  · exact ⟨_, _, rfl, .inr (.inr (.inr (.inl rfl)))⟩
  · exact ⟨_, _, List.mem_singleton.mp h, .inr (.inr (.inr (.inr rfl)))⟩
theorem few_all : ∀ n : Fin 32, ∀ st ∈ ([1, 2, 4, 8, 16] : List Nat), PySem.Builtin.bitXor (n.val : Int) (st : Int) = ((n.val ^^^ st : Nat) : Int) ∧ (n.val ^^^ st) < 32 ∧ PySem.Builtin.bitAnd (n.val : Int) (st : Int) = ((n.val &&& st : Nat) : Int) := by decide +kernel
theorem few_nat {st : Int} (hs : st = 1 ∨ st = 2 ∨ st = 4 ∨ st = 8 ∨ st = 16) : ∃ k : Nat, st = (k : Int) ∧ k ∈ ([1, 2, 4, 8, 16] : List Nat) := by
  rcases hs with rfl | rfl | rfl | rfl | rfl
  · exact ⟨1, rfl, by decide⟩
  · exact ⟨2, rfl, by decide⟩
  · exact ⟨4, rfl, by decide⟩
  · exact ⟨8, rfl, by decide⟩
  · exact ⟨16, rfl, by decide⟩
theorem few_in {n : Nat} {st : Int} (hn : n < 32) (hs : st = 1 ∨ st = 2 ∨ st = 4 ∨ st = 8 ∨ st = 16) : 0 ≤ PySem.Builtin.bitXor (n : Int) st ∧ PySem.Builtin.bitXor (n : Int) st < 32 := by
  obtain ⟨k, rfl, hk⟩ := few_nat hs
  have := few_all ⟨n, hn⟩ k hk
  dsimp only at this
  omega
theorem few_true {i : Nat} {st : Int} {t : Tok} (h : PySem.Builtin.bitAnd (i : Int) st ≠ 0) : fewP i (.int st t) = true := decide_eq_true h
theorem few_false {i : Nat} {st : Int} {t : Tok} (h : PySem.Builtin.bitAnd (i : Int) st = 0) : fewP i (.int st t) = false := decide_eq_false fun n => n h
theorem few_step {bsl : List Bool} {i : Nat} (hi : i < 32) {tk : Nat} : ∀ {ks : List Nat} {vs : List Value}, Paired (fun (k : Nat) v => ∃ t, v = .int (k : Int) t) ks vs → (∀ k ∈ ks, k ∈ ([1, 2, 4, 8, 16] : List Nat)) → ∀ {ys : List Value}, Paired (fun v y => fewR bsl i v y tk) (vs.filter (fewP i)) ys →
    ∃ fbs : List Bool, ys = fbs.map .bool ∧ fbs.any id = ks.any fun st => decide (i &&& st ≠ 0) && bsl.getD (i ^^^ st) false := by
  intro ks vs h
  induction h with
  | nil => intro _ ys p; cases p; exact ⟨[], rfl, rfl⟩
  | @cons k v ks vs f _ ih =>
    intro hk ys p
    obtain ⟨t, rfl⟩ := f
    have h5 := few_all ⟨i, hi⟩ k (hk k (.head _))
    dsimp only at h5
    have hP : fewP i (.int (k : Int) t) = decide (i &&& k ≠ 0) := by
      show decide (PySem.Builtin.bitAnd (i : Int) (k : Int) ≠ 0) = _
      rw [h5.2.2]
      exact decide_eq_decide.mpr (not_congr Int.natCast_eq_zero)
    rw [List.filter_cons] at p
    rw [List.any_cons]
    by_cases hd : decide (i &&& k ≠ 0) = true
    · rw [if_pos (by rw [hP]; exact hd)] at p
      cases p with
      | @cons _ y _ ys' q r =>
        obtain ⟨fbs, e1, e2⟩ := ih (fun k h => hk k (.tail _ h)) r
        refine ⟨bsl.getD (i ^^^ k) false :: fbs, ?_, ?_⟩
        · rw [List.map_cons, ← e1, q _ _ rfl, h5.1, Int.toNat_natCast]
        · rw [List.any_cons, e2, hd, Bool.true_and]; rfl
    · rw [if_neg (by rw [hP]; exact hd)] at p
      obtain ⟨fbs, e1, e2⟩ := ih (fun k h => hk k (.tail _ h)) p
      refine ⟨fbs, e1, ?_⟩
      rw [e2, Bool.not_eq_true _ |>.mp hd, Bool.false_and, Bool.false_or]
theorem few_list {bsl : List Bool} {i : Nat} (hi : i < 32) {tk : Nat} {t1 t2 t3 t4 t5 : Tok} {ys : List Value} (h : Paired (fun v y => fewR bsl i v y tk) ([Value.int 1 t1, .int 2 t2, .int 4 t3, .int 8 t4, .int 16 t5].filter (fewP i)) ys) :
    ∃ fbs : List Bool, ys = fbs.map .bool ∧ fbs.any id = fewerB (fun i => bsl.getD i false) i :=
  few_step hi (ks := [1, 2, 4, 8, 16]) (.cons ⟨_, rfl⟩ (.cons ⟨_, rfl⟩ (.cons ⟨_, rfl⟩ (.cons ⟨_, rfl⟩ (.cons ⟨_, rfl⟩ .nil))))) (fun _ h => h) h
noncomputable def leastM (m0 : Str → Option Value) (fv : Option Value) (k : Int) (tk : Tok) : Str → Option Value := fun y => if y = Str.ofString "fewer" then fv else if y = Str.ofString "count" then some (.int k tk) else m0 y
theorem leastM_c {m0 : Str → Option Value} {fv : Option Value} {k k' : Int} {tk tk' : Tok} : (fun y => if y = Str.ofString "count" then some (.int k' tk') else leastM m0 fv k tk y) = leastM m0 fv k' tk' := by
  funext y
  unfold leastM
  by_cases e : y = Str.ofString "count"
  · rw [if_pos e, if_pos e, if_neg (by rw [e]; decide)]
  · rw [if_neg e, if_neg e, if_neg e]
theorem leastM_f {m0 : Str → Option Value} {fv v : Option Value} {k : Int} {tk : Tok} : (fun y => if y = Str.ofString "fewer" then v else leastM m0 fv k tk y) = leastM m0 v k tk := by
  funext y
  unfold leastM
  by_cases e : y = Str.ofString "fewer"
  · rw [if_pos e, if_pos e]
  · rw [if_neg e, if_neg e, if_neg e]
theorem leastM_start {m0 : Str → Option Value} {k : Int} {tk : Tok} : (fun y => if y = Str.ofString "count" then some (.int k tk) else m0 y) = leastM m0 (m0 (Str.ofString "fewer")) k tk := by
  funext y
  unfold leastM
  by_cases e : y = Str.ofString "fewer"
  · rw [if_pos e, e, if_neg (by decide)]
  · rw [if_neg e]
noncomputable def leastTo (bs : Nat → Bool) : Nat → Nat
  | 0 => 0
  | i + 1 => leastTo bs i + if bs i && !fewerB bs i then 1 else 0
theorem leastTo_le (bs : Nat → Bool) : ∀ i, leastTo bs i ≤ i
  | 0 => Nat.le_refl _
  | i + 1 => by
    have := leastTo_le bs i
    unfold leastTo
    split <;> omega
theorem leastM_up {m0 : Str → Option Value} {fv v : Option Value} {k k' : Int} {tk tk' : Tok} {n : Nat} (e : k' = (n : Int)) : (fun y => if y = Str.ofString "count" then some (.int k' tk') else if y = Str.ofString "fewer" then v else leastM m0 fv k tk y) = leastM m0 v (n : Int) tk' := by
  have h1 := leastM_f (m0 := m0) (fv := fv) (k := k) (tk := tk) (v := v)
  funext y
  have h2 := congrFun (leastM_c (m0 := m0) (fv := v) (k := k) (tk := tk) (k' := k') (tk' := tk')) y
  rw [← e, ← h2, ← h1]
theorem least_same {bs : Nat → Bool} {i : Nat} (h : bs i = true) (hf : fewerB bs i = true) : (leastTo bs i : Int) + 0 = (leastTo bs (i + 1) : Int) := by
  show _ = ((leastTo bs i + if bs i && !fewerB bs i then 1 else 0 : Nat) : Int)
  rw [h, hf]
  rfl
theorem least_more {bs : Nat → Bool} {i : Nat} (h : bs i = true) (hf : fewerB bs i = false) : (leastTo bs i : Int) + 1 = (leastTo bs (i + 1) : Int) := by
  show _ = ((leastTo bs i + if bs i && !fewerB bs i then 1 else 0 : Nat) : Int)
  rw [h, hf]
  rfl
theorem least_not {bs : Nat → Bool} {i : Nat} (h : bs i = false) : leastTo bs i = leastTo bs (i + 1) := by
  show _ = (leastTo bs i + if bs i && !fewerB bs i then 1 else 0 : Nat)
  rw [h]
  rfl
theorem unrEnd_pre {h₀ : Heap} {L I : Addr} {it : Obj} {rest : (Str → Option Value) → List (Addr × Obj) → Prop} {s₁ : Shared} {h' : Heap} {tk : Nat} {m' : Str → Option Value} {pre news : List (Addr × Obj)} (F : Fr h₀ L h' m') (N : News h₀ L h' (pre ++ (I, it) :: news))
    (off : ∀ p ∈ news, @Ne Nat p.1 I) (r : rest m' news) : UnrEnd h₀ L s₁ I it rest { s₁ with heap := h', toks := tk } :=
  UnrEnd.intro F N news (fun _ hp => List.mem_append_right _ hp) off r
noncomputable def leastInv (m0 : Str → Option Value) (bs : Nat → Bool) (c : Addr) (l1 l2 : List (Addr × Obj)) (i : Nat) (m : Str → Option Value) (n : List (Addr × Obj)) : Prop :=
  ∃ (fv : Option Value) (tk : Tok) (oC : Obj) (vC : Option Value), m = leastM m0 fv (leastTo bs i : Int) tk ∧ n = l1 ++ (c, oC) :: l2 ∧ oC.data = .cell vC
theorem least_spec : PySem.Challenge.rw_tc0035_01 = PySem.Challenge.rw_tc0035_01 → ∀ (w : World) (mean : ExcName → Option Value) (mg mb : Str → Option Value) (D k : Nat) (vs : List Value) (ws : List (List Nat)) (part : List Nat) (f : Str → Bool) (t : Tok) (news : List (Addr × Obj)),
    ClaimJ w mean mg mb 151 3 news ((D, lsn vs k) ∈ news ∧ WordsAre 0 ws vs ∧ ws.length = 32 ∧ (∀ w ∈ ws, w.length ≤ 100) ∧ part.length ≤ 2 ∧ MatchAt w mean mg mb (wantE part) f) [.str (tx part) t, .ref D] (RetV news (fun v _ _ => ∃ t, v = .int ((leastTo (fun i => (ws.map fun w => f (tx w)).getD i false) 32 : Nat) : Int) t)) := by
  dsimp only [ClaimJ, RetV]
  k_fill
  intro hrw
  intro w mean mg mb Dc kc vs ws part f t news dp un gd cn cs' ad ccd cl outer A₀ base h₀ L m s Q E B F X N T hk hp hd hu hret
  obtain ⟨hmem, hws, h32, hwl, hpl, hmatch⟩ := hp
  refine wpAny_call ?_
  first | k_dflt cell_enter | (refine' enter_cells ?k1 ?k2 ?k3 ?k4 ?k5 ?kA ?kF ?kK ?k6 ?k7 ?k8 ?k9 ?kB ?kD ?_ ?c2 ?c3 ?c4; (case kA => exact rfl); (case kF => exact rfl); (case kK => assumption); (case k1 => k_asm); (case k2 => k_asm); (case k3 => k_asm); (case k4 => k_asm); (case k5 => k_asm); (case k6 => k_is); (case k7 => k_is); (case k8 => ktr_room); (case k9 => exact BindsTo.of_eq rfl); (case kB => exact rfl); (case kD => decide +kernel); (case c2 => exact rfl); (case c3 => exact rfl); (case c4 => exact rfl); k_whole; intro g' L' h' tk' cells' kE' FG' F' N' Y' B' X' T' l1; (try k_lt l1); k_cells Y'; (try simp only [List.cons_append, List.nil_append] at N'); (try dsimp only); (try k_lift B'); (try k_fold))
  rename ∀ p ∈ news, p.1 < L' => l0
  have hn1 : ∀ p ∈ news, @Ne Nat p.1 (L' + 1) := fun p hp => Nat.ne_of_lt (Nat.lt_succ_of_lt (l0 p hp))
  have hn2 : ∀ p ∈ news, @Ne Nat p.1 (L' + 1 + 1) := fun p hp => Nat.ne_of_lt (Nat.lt_succ_of_lt (Nat.lt_succ_of_lt (l0 p hp)))
  have hn3 : ∀ p ∈ news, @Ne Nat p.1 (L' + 1 + 1 + 1) := fun p hp => Nat.ne_of_lt (Nat.lt_succ_of_lt (Nat.lt_succ_of_lt (Nat.lt_succ_of_lt (l0 p hp))))
  k_steps
  refine src_list (p := fun _ => true) (R := ToldR f) (by rfl) (by assumption) (by assumption) (.inr ⟨_, .tail _ (.tail _ (.tail _ hmem)), rfl, _, rfl⟩) ?_ (fun _ _ _ _ _ h => h) ?_ ?_
  case refine_2 =>
    intro g
    refine OneM.toF ?_
    intro v ys I oI C oC D m₂ h tk E' hv ht hC hx F N off ne
    obtain ⟨wd, hwd, tw, rfl, _⟩ := hws.mem hv
    have hl : (tx wd).length ≤ 100 := by rw [tx_len]; exact hwl wd hwd
    have hj := join_len part hpl
    have hpl2 : (tx part).length ≤ 100 := by rw [tx_len]; omega
    have hd3 : (Str.ofString "...").length ≤ 100 := by rw [dots_len]; omega
    have hj2 : (Txt.join (Str.ofString "...") (PyProof.Rows.signs (tx part))).length ≤ 100 := by omega
    have hj3 : (Str.ofString "..." ++ Txt.join (Str.ofString "...") (PyProof.Rows.signs (tx part))).length ≤ 100 := by rw [Str.length_append, dots_len]; omega
    k_steps
    refine EndJ.intro (by assumption) (by assumption) (fun p hp => hp) (fun wd' t e => ?_)
    injection e with e1 _
    rw [tx_inj e1]
  case refine_1 =>
    rw [words_len hws, sizeLine_eq, h32]
    decide
  case refine_3 =>
    intro g D h tk ys j F N lt
    have hb := told_are hws j.2
    try k_lt lt
    dsimp only
    have hys : ∀ v ∈ ys, ∃ b, v = .bool b := by
      intro v hv
      rw [hb] at hv
      obtain ⟨w, _, rfl⟩ := List.mem_map.mp hv
      exact ⟨_, rfl⟩
    have hlen : ys.length = 32 := by rw [hb, List.length_map, h32]
    k_steps
    refine src_list (p := fun _ => false) (R := fun _ _ _ => True) (by rfl) (by assumption) (by assumption) (.inr ⟨_, .head _, rfl, _, rfl⟩) ?_ (fun _ _ _ _ _ h => h) ?_ ?_
    case refine_2 =>
      intro g v ys2 I oI C oC D m₂ h tk E' hv ht hC hx F N off ne
      obtain ⟨b, rfl⟩ := hys v hv
      refine wpAny_tests_one ?_
      k_steps
      all_goals first | trivial | rfl | exact EndJ.intro (by assumption) (by assumption) (fun p hp => hp) trivial | exact ⟨rfl, EndJ.intro (by assumption) (by assumption) (fun p hp => hp) trivial⟩
    case refine_1 =>
      rw [hlen, sizeLine_eq]
      decide
    case refine_3 =>
      intro g D2 h tk ys2 j F N lt
      obtain rfl : ys2 = [] := by
        have q := j.2
        rw [List.filter_eq_nil_iff.mpr (fun _ _ => Bool.false_ne_true)] at q
        cases q
        rfl
      try k_lt lt
      dsimp only
      k_steps
      rename IsRange _ _ _ _ _ _ _ _ => hR
      rename Fr _ _ _ _ => lF
      rename News _ _ _ _ => lN
      rw [leastM_start] at lF
      obtain ⟨m0, fv, lF⟩ : ∃ m0 fv, Fr _ _ _ (leastM m0 fv 0 _) := ⟨_, _, lF⟩
      obtain ⟨oC, oT, oP, lN2, ⟨vC, hoC⟩, hoT, hoP⟩ : ∃ oC oT oP, News _ _ _ ((D, lst ys) :: (L' + 1 + 1 + 1, oC) :: (L' + 1 + 1, oT) :: (L' + 1, oP) :: news) ∧ (∃ v, oC.data = .cell v) ∧ oT.data = .cell (some (.ref D)) ∧ oP.data = .cell (some (.str (tx part) t)) :=
        ⟨_, _, _, cb_drop lN (fun p hp => .tail _ hp), ⟨_, by assumption⟩, by assumption, by first | assumption | (with_unfolding_all assumption)⟩
      obtain ⟨bsl, hbsl⟩ : ∃ bsl, bsl = ws.map fun w => f (tx w) := ⟨_, rfl⟩
      obtain ⟨bs, hbs⟩ : ∃ bs : Nat → Bool, bs = fun i => bsl.getD i false := ⟨_, rfl⟩
      have hbl : bsl.length = 32 := by rw [hbsl, List.length_map, h32]
      have hBA : LSm.BoolsAre ys bsl := by
        rw [hb, hbsl]
        exact boolsAre_map ws
      refine range_turns (n := 32) (Inv := leastInv m0 bs (L' + 1 + 1 + 1) [(D, lst ys)] ((L' + 1 + 1, oT) :: (L' + 1, oP) :: news)) (by rfl) lF lN2 hR (by decide) (by decide) (fun _ _ => rfl) ?_ ?_ ?_
      case refine_1 => exact ⟨fv, _, oC, vC, rfl, rfl, hoC⟩
      case refine_2 =>
        rintro I i m n' it h tk t' lt hi ⟨fv, tkc, oC, vC, rfl, rfl, hoC⟩ F N off
        have hoC2 := hoC
        have hc1 := leastTo_le bs i
        have hI1 : @Ne Nat I (L' + 1 + 1 + 1) := Ne.symm (off (L' + 1 + 1 + 1, oC) (.tail _ (.head _)))
        have hI2 : @Ne Nat I (L' + 1 + 1) := Ne.symm (off (L' + 1 + 1, oT) (.tail _ (.tail _ (.head _))))
        have hI3 : @Ne Nat I (L' + 1) := Ne.symm (off (L' + 1, oP) (.tail _ (.tail _ (.tail _ (.head _)))))
        have hID : @Ne Nat I D := Ne.symm (off (D, lst ys) (.head _))
        simp only [List.cons_append, List.nil_append] at N
        have hoff2 : ∀ o, ∀ p ∈ (D, lst ys) :: (L' + 1 + 1 + 1, o) :: (L' + 1 + 1, oT) :: (L' + 1, oP) :: news, @Ne Nat p.1 I := by
          intro o p hp
          rcases List.mem_cons.mp hp with rfl | hp
          · exact Ne.symm hID
          rcases List.mem_cons.mp hp with rfl | hp
          · exact Ne.symm hI1
          · exact off p (.tail _ (.tail _ hp))
        have hi0 : (0 : Int) ≤ (i : Int) := Int.natCast_nonneg i
        have hi1 : (i : Int) < (bsl.length : Int) := by rw [hbl]; omega
        have hi2 : (i : Int) < 2 ^ 63 := by omega
        k_steps
        · rename bsl.getD _ false = true => hbi
          refine src_tuple (p := fewP i) (R := fewR bsl i) (by rfl) (by assumption) (by assumption) (.inr ⟨_, .head _, rfl, rfl⟩) (by rw [sizeLine_eq]; exact Nat.le_of_ble_eq_true rfl) (fun _ _ _ _ _ h => h) ?_ ?_
          case refine_1 =>
            intro g v ys2 I2 oI C oC2 D3 m₂ h tk E' hv ht hC hx F N off ne
            obtain ⟨st, ts, rfl, hst⟩ := five_mem hv
            have hst2 : 0 ≤ st ∧ st < 64 := ⟨by omega, by omega⟩
            have hx := few_in (n := i) hi hst
            have hx0 := hx.1
            have hx1 : PySem.Builtin.bitXor (i : Int) st < (bsl.length : Int) := by rw [hbl]; exact hx.2
            have hx2 : PySem.Builtin.bitXor (i : Int) st < 2 ^ 63 := by have := hx.2; omega
            refine wpAny_tests_one ?_
            k_steps
            · exact few_true (by assumption)
            · exact EndJ.intro (by assumption) (by assumption) (fun p hp => hp) (fun st' t e => by injection e with e1 _; rw [e1])
            · exact few_false (by assumption)
            · exact EndJ.intro (by assumption) (by assumption) (fun p hp => hp) trivial
          case refine_2 =>
            intro g D3 h tk ys3 j F N lt
            obtain ⟨fbs, hfy, hfb⟩ := few_list (bsl := bsl) (i := i) hi j.2
            have hbi' : bs i = true := by rw [hbs]; exact hbi
            have hfb' : fbs.any id = fewerB bs i := by rw [hbs]; exact hfb
            try k_lt lt
            dsimp only
            k_steps
            · rename fbs.any id = true => hany
              rename News g' _ _ (_ :: _) => hN
              exact unrEnd_pre (pre := [_, _]) (by assumption) hN (hoff2 _) ⟨_, _, _, _, leastM_up (least_same hbi' (hfb'.symm.trans hany)), rfl, by assumption⟩
            · rename fbs.any id = false => hany
              rename News g' _ _ (_ :: _) => hN
              exact unrEnd_pre (pre := [_, _]) (by assumption) hN (hoff2 _) ⟨_, _, _, _, leastM_up (least_more hbi' (hfb'.symm.trans hany)), rfl, by assumption⟩
        · rename bsl.getD _ false = false => hbi
          have hbi' : bs i = false := by rw [hbs]; exact hbi
          rename News g' _ _ (_ :: _) => hN
          exact unrEnd_pre (pre := []) (by assumption) hN (hoff2 _) ⟨_, _, _, _, congrArg (fun k : Nat => leastM m0 _ (k : Int) _) (least_not hbi'), rfl, by assumption⟩
      case refine_3 =>
        rintro m n' h tk ⟨fv, tkc, oC, vC, rfl, rfl, hoC⟩ F N
        have hc1 := leastTo_le bs 32
        simp only [List.cons_append, List.nil_append] at N
        k_steps
        rename News h₀ _ _ (_ :: _) => hN
        exact hret _ _ _ ⟨_, by rw [hbs, hbsl]⟩ (by assumption) (cb_drop hN (fun p hp => .tail _ (.tail _ (.tail _ (.tail _ hp)))))
end
end Mine
end
section
open PySem PySem.Spec PySem.W PySem.Calls PyProof.Rows PyProof.Rows.LCg
set_option maxRecDepth 100000
set_option maxHeartbeats 4000000
namespace Mine
section
variable {prog : Program} {w : World} {A : Around} {E : Value → Shared → Prop} {s : Shared}
theorem nextOf_tuple_item {it t : Addr} {i : Nat} {items} {x : Value} {Q : Value → Shared → Prop} (hit : s.heap.IsTupleIter it t i)
    (ht : s.heap.IsTuple t items) (hx : items[i]? = some x)
    (hQ : ∀ h', h'.IsTupleIter it t (i + 1) → Heap.SameBut it s.heap h' → Q x { s with heap := h' }) :
    wpAny (model prog w) A (Builtin.SmallTypes.nextOf (.ref it)) Q E s := by
  obtain ⟨o, ho, hc, hd⟩ := id hit
  obtain ⟨ol, hol, _, nl, hdl⟩ := ht
  unfold Builtin.SmallTypes.nextOf
  refine wpAny_bind (wpAny_callSpecial?_slot (name := Str.ofString "__next__") hit.typeIs F.slot_tuple_iterator_next
    (wpAny_call_entry F.slot_tuple_iterator_next hit.typeIs F.entry_tuple_iterator_next ?_ (F.args_tuple_iterator_next_1 _)))
  show wpAny _ _ (field (.ref it) 0 >>= _) _ _ s
  refine wpAny_bind (wpAny_field ho hd (x := .ref t) rfl ?_)
  show wpAny _ _ (if (Value.ref t == Value.none) = true then _ else _) _ _ s
  rw [if_neg (show ¬ ((Value.ref t == Value.none) = true) from Bool.false_ne_true)]
  show wpAny _ _ (field (.ref it) 1 >>= _) _ _ s
  refine wpAny_bind (wpAny_field ho hd (x := .int i 0) rfl ?_)
  show wpAny _ _ (seqItems? (.ref t) >>= _) _ _ s
  refine wpAny_bind (wpAny_seqItems hol hdl ?_)
  simp only [Int.toNat_natCast, hx]
  refine wpAny_bind (wpAny_setField ho hd (by simp) (wpAny_pure ⟨x, rfl, wpAny_pure (hQ _ ?_ (Heap.SameBut.update ..))⟩))
  exact ⟨_, Heap.get?_update_self _ ho (Obj.isFreed_of_fields (Obj.data_mapFields hd _)), (Obj.cls_mapFields ..).trans hc, by
    rw [Obj.data_mapFields hd]; simp [rawInt]⟩
theorem nextOf_tuple_end {it t : Addr} {i : Nat} {items} {Q : Value → Shared → Prop} (hh : A.handled = none)
    (hit : s.heap.IsTupleIter it t i) (ht : s.heap.IsTuple t items) (hx : items[i]? = none)
    (hE : ∀ h' e, Heap.ExtBut it s.heap h' → (∃ o, h'.get? e = some o ∧ o.cls = .type "StopIteration") → E (.ref e) { s with heap := h' }) :
    wpAny (model prog w) A (Builtin.SmallTypes.nextOf (.ref it)) Q E s := by
  obtain ⟨o, ho, hc, hd⟩ := id hit
  obtain ⟨ol, hol, _, nl, hdl⟩ := ht
  unfold Builtin.SmallTypes.nextOf
  refine wpAny_bind (wpAny_callSpecial?_slot (name := Str.ofString "__next__") hit.typeIs F.slot_tuple_iterator_next
    (wpAny_call_entry F.slot_tuple_iterator_next hit.typeIs F.entry_tuple_iterator_next ?_ (F.args_tuple_iterator_next_1 _)))
  show wpAny _ _ (field (.ref it) 0 >>= _) _ _ s
  refine wpAny_bind (wpAny_field ho hd (x := .ref t) rfl ?_)
  show wpAny _ _ (if (Value.ref t == Value.none) = true then _ else _) _ _ s
  rw [if_neg (show ¬ ((Value.ref t == Value.none) = true) from Bool.false_ne_true)]
  show wpAny _ _ (field (.ref it) 1 >>= _) _ _ s
  refine wpAny_bind (wpAny_field ho hd (x := .int i 0) rfl ?_)
  show wpAny _ _ (seqItems? (.ref t) >>= _) _ _ s
  refine wpAny_bind (wpAny_seqItems hol hdl ?_)
  simp only [Int.toNat_natCast, hx]
  refine wpAny_bind (wpAny_rule (wpAny_bind (wpAny_setField ho hd (by simp) ?_)))
  show wpAny _ _ (newExc (.type "StopIteration") [] >>= _) _ _ _
  refine wpAny_bind ?_
  simp only [newExc, newTuple]
  refine wpAny_bind (wpAny_newObj_type ?_ (by size_fits))
  refine wpAny_bind (m := firstArgMember _ _) (wpAny_of_eq (a := Value.none) (by first | rfl | (simp only [firstArgMember]; rfl)) ?_)
  refine wpAny_newObj_type ?_ (by size_fits)
  simp only [raiseNew]
  refine wpAny_bind (wpAny_handled ?_)
  first | rw [show A.in1.handled = none from hh] | rw [hh]
  refine wpAny_bind (wpAny_pure (wpAny_throw ?_))
  exact hE _ _ (((Heap.SameBut.update ..).extBut.push _).push _) ⟨_, Heap.get?_push_size _ rfl, rfl⟩
end
theorem draws_tuple {prog : Program} {w : World} {A : Around} (hh : A.handled = none) (it l : Addr) (hne : l ≠ it) (items : Array Value) :
    Draws prog w A it [it, l] items.size (fun i v => items[i]? = some v) (fun i h => h.IsTupleIter it l i ∧ h.IsTuple l items) where
  live := fun _ _ st => let ⟨o, ho, _⟩ := st.1; ⟨o, ho⟩
  frame := fun _ _ _ st hk => ⟨st.1.at fun o e => hk it (by simp) o e, st.2.at fun o e => hk l (by simp) o e⟩
  item := fun i s Q E hi st hQ => by
    refine nextOf_tuple_item st.1 st.2 (x := items[i]) (by simp [hi]) fun h' hit' hs' => ?_
    exact hQ _ h' s.toks (by simp [hi]) ⟨hit', st.2.extBut hs'.extBut hne⟩ hs'
  done := fun s Q E st hE => nextOf_tuple_end hh st.1 st.2 (by simp) hE
open AutoSeq1 (wpAny_loadPart') in
theorem meets_enumerate_newT (l : Addr) (items : Array Value) (n : Nat) (dct : Option Addr) (sl : Array (Option Value)) :
    Meets (Builtin.«enumerate.__new__» ⟨[.type "enumerate", .ref l], []⟩) (fun _ R s => s.heap.get? l = some { cls := .type "tuple", dict := dct, data := .seq items n, slots := sl } ∧
      R (.ok (.ret (.ref (s.heap.push { cls := .type "tuple_iterator", data := .fields #[.ref l, .int 0 0] }).objs.size)))
        { s with heap := (s.heap.push { cls := .type "tuple_iterator", data := .fields #[.ref l, .int 0 0] }).push { cls := .type "enumerate", data := .fields #[.none, .bool false, .ref s.heap.objs.size, rawInt 0, .none, .none] } }) :=
  .of_wp fun prog w A R s h => by
    obtain ⟨hp, g, d, tk, os⟩ := s; obtain ⟨hl, h⟩ := h
    have hsub := sub_enumerate
    have hL : Heap.IsTuple (Shared.heap ⟨hp, g, d, tk, os⟩) l items := ⟨_, hl, rfl, n, rfl⟩
    wp_walk using wpAny_loadPart' hl
    refine wpAny_stack_any fun st => wpAny_pure ?_
    split
    · rename_i c _ _ _ _ _
      cases (c == Value.type "enumerate")
      · wp_walk using wpAny_loadPart' hl, wpAny_pyIter_tuple hL
        exact ⟨_, rfl, h⟩
      · wp_walk using wpAny_loadPart' hl, wpAny_pyIter_tuple hL
        exact ⟨_, rfl, h⟩
    · wp_walk using wpAny_loadPart' hl, wpAny_pyIter_tuple hL
      exact ⟨_, rfl, h⟩
section
variable {prog : Program} {w : World} {A : Around} {E : Value → Shared → Prop} {s : Shared}
theorem call_enumerate_tuple {l : Addr} {items : Array Value} {Q : Value → Shared → Prop} (hL : s.heap.IsTuple l items)
    (h : ∀ h', IsEnum h' (s.heap.objs.size + 1) s.heap.objs.size 0 .none → h'.IsTupleIter s.heap.objs.size l 0 → h'.objs.size = s.heap.objs.size + 2 →
      (∀ b o, s.heap.get? b = some o → h'.get? b = some o) → Q (.ref (s.heap.objs.size + 1)) { s with heap := h' }) :
    wpAny (model prog w) A (call (.type "enumerate") [.ref l]) Q E s := by
  obtain ⟨⟨c, dct, dt, sl⟩, hl, hc, n, hd⟩ := hL
  replace hc : c = .type "tuple" := hc
  replace hd : dt = .seq items n := hd
  subst hc hd
  refine callType_new F.called_enumerate (by decide) (F.typeCall_enumerate_1 _) (F.newCall_enumerate_1 _) (fun obj => F.args_object_init_2 obj _) F.entry_enumerate_new
    (meets_enumerate_newT l items n dct sl) ⟨hl, ?_⟩
  have hz : (s.heap.push { cls := .type "tuple_iterator", data := .fields #[.ref l, .int 0 0] }).objs.size = s.heap.objs.size + 1 := Heap.size_push ..
  show _ ∧ _
  rw [hz]
  have he : IsEnum ((s.heap.push { cls := .type "tuple_iterator", data := .fields #[.ref l, .int 0 0] }).push
      { cls := .type "enumerate", data := .fields #[.none, .bool false, .ref s.heap.objs.size, rawInt 0, .none, .none] }) (s.heap.objs.size + 1) s.heap.objs.size 0 .none := by
    have := Heap.get?_push_size (s.heap.push { cls := .type "tuple_iterator", data := .fields #[.ref l, .int 0 0] })
      (o := { cls := .type "enumerate", data := .fields #[.none, .bool false, .ref s.heap.objs.size, rawInt 0, .none, .none] }) rfl
    rw [hz] at this; exact this
  refine ⟨⟨_, he, rfl⟩, h _ he ⟨_, Heap.get?_push_of_some _ (Heap.get?_push_size _ rfl), rfl, rfl⟩ (by rw [Heap.size_push, hz]) fun b o x => Heap.get?_push_of_some _ (Heap.get?_push_of_some _ x)⟩
end
end Mine
end
section
open PySem PySem.Spec PySem.W PySem.Calls PyProof.Rows PyProof.Rows.LCg
set_option maxRecDepth 100000
set_option maxHeartbeats 4000000
namespace Mine
section
variable {prog : Program} {w : World} {A : Around} {E : Value → Shared → Prop} {s : Shared} {h₀ : Heap} {L : Addr} {m : Str → Option Value} {env : Env}
noncomputable def TurnE (prog : Program) (w : World) (A : Around) (h₀ : Heap) (L : Addr) (m : Str → Option Value) (env : Env) (elt : Expr) (x1 x2 : Str) (scope : Scope) (cl : List (Str × Addr)) (s : Shared) (news : List (Addr × Obj)) (items : List Value) (J : Nat → List Value → Nat → Prop) : Prop :=
  ∀ i t x ys e oe it oi C oC D m₂ h tk (E' : Value → Shared → Prop), J i ys tk → items[i]? = some x → NsObj oC m₂ → m₂ x1 = some (.int ((i : Nat) : Int) t) → m₂ x2 = some x → Fr h₀ L h m → News h₀ L h ((e, oe) :: (it, oi) :: (C, oC) :: (D, lst ys) :: news) →
    wpAny (model prog w) A (eval elt (compEnvC scope cl C env)) (fun y s₄ => EndJ h₀ L m { s with heap := h, toks := tk } ((e, oe) :: (it, oi) :: (C, oC) :: (D, lst ys) :: news) (J (i + 1) (ys ++ [y])) s₄) E' { s with heap := h, toks := tk }
theorem block_E {elt iter : Expr} {x1 x2 : Str} {p1 p2 tp : Pos} {kk} {scope : Scope} {cl : List (Str × Addr)} {pos : Pos} {s₂ : Shared} {e it l : Addr} {items : List Value} {news : List (Addr × Obj)} {J : Nat → List Value → Nat → Prop} {RR : Value → Addr → Result → Shared → Prop}
    (hh : A.handled = none) (hE : IsEnum s₂.heap e it 0 .none) (hI : s₂.heap.IsTupleIter it l 0) (hT : s₂.heap.IsTuple l items.toArray) (hei : e ≠ it) (hle : l ≠ e) (hli : l ≠ it) (hsz : items.length ≤ sizeLine)
    (hl : (∃ o, (l, o) ∈ news) ∨ ∃ o, h₀.get? l = some o)
    (hcell : ∀ y ∈ scope.names, y.2 ≠ .cell) (hkind : scope.kind = .function) (hx1 : scope.names.lookup x1 = some .local) (hx2 : scope.names.lookup x2 = some .local) (hxx : x1 ≠ x2)
    (F : Fr h₀ L s₂.heap m) (N : News h₀ L s₂.heap news) (offe : ∀ p ∈ news, p.1 ≠ e) (offi : ∀ p ∈ news, p.1 ≠ it) (hLe : L ≠ e) (hLi : L ≠ it) (he₀ : h₀.get? e = none) (hi₀ : h₀.get? it = none)
    (mono : ∀ i ys t t', t ≤ t' → J i ys t → J i ys t') (hJ : J 0 [] s₂.toks) (hJl : ∀ i ys t, J i ys t → ys.length ≤ i)
    (R : TurnE prog w A h₀ L m env elt x1 x2 scope cl s₂ news items J)
    (hRR : ∀ D C h tk m' ys, J items.length ys tk → Fr h₀ L h m → News h₀ L h ((D, lst ys) :: news) → (∀ p ∈ news, @LT.lt Nat _ p.1 D) → h.Ns C m' → h₀.get? C = none → h₀.get? D = none → C ≠ L → D ≠ L → C ≠ D → (∀ p ∈ news, p.1 ≠ C) → RR (.ref D) C (.ok .next) { s₂ with heap := h, toks := tk }) :
    wpAny (model prog w) A (newList []) (fun acc s₃ => wpAny (model prog w) A (newFunctionEnv scope env.globals cl [] env.qual none .none (some env)) (fun cenv s₄ =>
      codeAny (model prog w) A (.compStart (.ListComp elt [⟨.Tuple [.Name x1 p1, .Name x2 p2] kk tp, iter, [], 0⟩] scope pos) 0 (.ref e) acc { cenv with scope := relabel scope env }) (RR acc cenv.locals) s₄) E s₃) E s₂ := by
  have W := WalksT.enumerateD (draws_tuple (prog := prog) (w := w) (A := A.in1) hh it l hli items.toArray) e hei (by simp [hei, Ne.symm hle]) (by simp)
  refine wpAny_newObj_type (wpAny_newFunctionEnv hcell (by intro y hy; simp at hy) (fun h₁ hns₁ hsb₁ => ?_) hkind)
  dsimp only at hns₁ hsb₁ ⊢
  obtain ⟨D, hDdef⟩ : ∃ D, D = s₂.heap.objs.size := ⟨_, rfl⟩
  generalize hH2 : s₂.heap.push { cls := .type "list", dict := none, data := .seq ([] : List Value).toArray } = H2 at hns₁ hsb₁ ⊢
  obtain ⟨C, hCdef⟩ : ∃ C, C = H2.objs.size := ⟨_, rfl⟩
  rw [← hCdef] at hns₁ hsb₁ ⊢
  rw [← hDdef]
  have hC : C = D + 1 := by rw [hCdef, ← hH2, Heap.size_push, hDdef]
  have hDC : D ≠ C := by rw [hC]; exact Nat.ne_of_lt (Nat.lt_succ_self _)
  have lo : ∀ b, b < s₂.heap.objs.size → b ≠ C ∧ b ≠ D := fun b hb => by
    rw [← hDdef] at hb
    exact ⟨by rw [hC]; exact Nat.ne_of_lt (Nat.lt_succ_of_lt hb), Nat.ne_of_lt hb⟩
  have helt : e < s₂.heap.objs.size := Heap.lt_size hE
  have hilt : it < s₂.heap.objs.size := by obtain ⟨_, x, _⟩ := hI; exact Heap.lt_size x
  have hllt : l < s₂.heap.objs.size := by obtain ⟨_, x, _⟩ := hT; exact Heap.lt_size x
  have hLlt : L < s₂.heap.objs.size := F.ns.lt
  have old : ∀ b o, s₂.heap.get? b = some o → h₁.get? b = some o := fun b o e => hsb₁.extBut b o (lo b (Heap.lt_size e)).1 (Heap.get?_push_of_some _ (hH2 ▸ Heap.get?_push_of_some _ e))
  have hacc : h₁.get? D = some (lst []) := hsb₁.extBut _ _ hDC (Heap.get?_push_of_some _ (hH2 ▸ hDdef ▸ Heap.get?_push_size _ rfl))
  have gone : ∀ a, s₂.heap.objs.size ≤ a → h₀.get? a = none := fun a ha => by
    cases q : h₀.get? a with
    | none => rfl
    | some o' => exact absurd (Heap.lt_size (F.keep a o' q)) (Nat.not_lt.mpr ha)
  have hD₀ : h₀.get? D = none := gone _ (hDdef ▸ Nat.le_refl _)
  have hC₀ : h₀.get? C = none := gone _ (by rw [hC, hDdef]; exact Nat.le_succ _)
  have hDL : D ≠ L := Ne.symm (lo L hLlt).2
  have hCL : C ≠ L := Ne.symm (lo L hLlt).1
  have nC : ∀ p ∈ news, p.1 ≠ C := fun p hp => (lo _ (Heap.lt_size (N p hp).1)).1
  have nD : ∀ p ∈ news, p.1 ≠ D := fun p hp => (lo _ (Heap.lt_size (N p hp).1)).2
  have nL : ∀ p ∈ news, @LT.lt Nat _ p.1 D := fun p hp => hDdef ▸ Heap.lt_size (N p hp).1
  have hst₁ : (∃ oldv, IsEnum h₁ e it ((0 : Nat) : Int) oldv) ∧ h₁.IsTupleIter it l 0 ∧ h₁.IsTuple l items.toArray := ⟨⟨_, old _ _ hE⟩, hI.at fun o x => old _ o x, hT.at fun o x => old _ o x⟩
  have hCf : ∀ b ∈ [e, it, l], b ≠ C ∧ b ≠ D := fun b hb => by
    have : b = e ∨ b = it ∨ b = l := by simpa using hb
    rcases this with rfl | rfl | rfl
    · exact lo _ helt
    · exact lo _ hilt
    · exact lo _ hllt
  refine codeAny_compStart_list ?goal (W.self 0 _ _ _ hst₁ ?goal)
  refine PyProof.Rows.LCp.codeAny_compLoop_pair
    (fun k s' => ∃ h' tk i ys m', s' = { s₂ with heap := h', toks := tk } ∧ i ≤ items.length ∧ k = items.length + 1 - i ∧ ((∃ oldv, IsEnum h' e it ((i : Nat) : Int) oldv) ∧ h'.IsTupleIter it l i ∧ h'.IsTuple l items.toArray) ∧ Fr h₀ L h' m ∧ h'.Ns C m' ∧ News h₀ L h' ((D, lst ys) :: news) ∧ J i ys tk) ?_ (items.length + 1)
    ⟨h₁, _, 0, [], _, rfl, Nat.zero_le _, rfl, hst₁, F.keeps old, hns₁, fun p hp => ?_, mono _ _ _ _ (Nat.le_add_right _ _) hJ⟩
  · rintro k s' ⟨h', tk, i, ys, m', rfl, hi, rfl, hst', F', hn', N', j⟩
    have sub2 : ∀ (g g' : Heap), Fr h₀ L g m → g.Ns C m' → News h₀ L g ((D, lst ys) :: news) → (∀ b o, b ∉ [e, it] → g.get? b = some o → g'.get? b = some o) → Fr h₀ L g' m ∧ g'.Ns C m' ∧ News h₀ L g' ((D, lst ys) :: news) := fun g g' Fg ng Ng hk =>
      ⟨⟨Fg.ns.at' fun o q => hk _ o (by simp [hLe, hLi]) q, fun b o q => hk b o (fun hm => by
          have : b = e ∨ b = it := by simpa using hm
          rcases this with rfl | rfl
          · rw [he₀] at q; cases q
          · rw [hi₀] at q; cases q) (Fg.keep b o q), Fg.above⟩,
        ng.at' fun o q => hk _ o (by simp [Ne.symm (hCf e (by simp)).1, Ne.symm (hCf it (by simp)).1]) q, fun p hp => ⟨hk _ _ (by
          rcases List.mem_cons.mp hp with rfl | hp
          · simp [Ne.symm (hCf e (by simp)).2, Ne.symm (hCf it (by simp)).2]
          · simp [offe p hp, offi p hp]) (Ng p hp).1, (Ng p hp).2⟩⟩
    by_cases hlt : i < items.length
    · refine wpAny_with_toks (n := tk) (Nat.le_refl _) (W.item i _ _ _ (by simpa using hlt) hst' fun T vals h₂ tk₂ hPv hTsz hTup hMid hk₂ hle => ?_)
      obtain ⟨F₂, hn₂, N₂⟩ := sub2 _ h₂ F' hn' N' hk₂
      obtain ⟨t, x, hx, rfl⟩ := hPv
      refine W.go _ _ _ i T _ _ _ hMid fun h₃ hst₃ hk₃ => ?_
      obtain ⟨F₃, hn₃, N₃⟩ := sub2 _ h₃ F₂ hn₂ N₂ hk₃
      have hTup₃ : IsTup h₃ T #[.int ((i : Nat) : Int) t, x] := hTup.at fun o q => hk₃ T o (W.apart i T h₂ hMid) q
      refine assign_Tuple_tuple hh hTup₃ rfl rfl fun h₅ he => ?_
      have he' : ∀ b o, h₃.get? b = some o → h₅.get? b = some o := fun b o e => he b o (Nat.ne_of_lt (Heap.lt_size e)) e
      refine assignInOrder_cons (wpAny_assign_Name (wpAny_storeName_local (lookup_relabel_local hx1) (hn₃.at' fun o q => he' _ o q) (fun h₆ hn₆ hs₆ => ?_) (by simp [compEnvC, relabel, hkind])))
      refine assignInOrder_cons (wpAny_assign_Name (wpAny_storeName_local (lookup_relabel_local hx2) hn₆ (fun h₇ hn₇ hs₇ => ?_) (by simp [compEnvC, relabel, hkind])))
      refine assignInOrder_nil ?_
      have old3 : ∀ b o, b ≠ C → h₃.get? b = some o → h₇.get? b = some o := fun b o hb e => hs₇.extBut b o hb (hs₆.extBut b o hb (he' b o e))
      obtain ⟨⟨oldv, hE₃⟩, hI₃, hT₃⟩ := hst₃
      obtain ⟨oi, hoi, hoi'⟩ := id hI₃
      have hE₇ := old3 e _ (hCf e (by simp)).1 hE₃
      have hI₇ := old3 it _ (hCf it (by simp)).1 hoi
      have hT₇ : h₇.IsTuple l items.toArray := hT₃.at fun o q => old3 l o (hCf l (by simp)).1 q
      obtain ⟨oC, heC, hoC⟩ := ns_obj hn₇
      have F₇ : Fr h₀ L h₇ m := ((F₃.keeps he').change hs₆ hCL hC₀).change hs₇ hCL hC₀
      have N₇ : News h₀ L h₇ ((e, _) :: (it, oi) :: (C, oC) :: (D, lst ys) :: news) := fun p hp => by
        rcases List.mem_cons.mp hp with rfl | hp
        · exact ⟨hE₇, Ne.symm hLe, he₀⟩
        rcases List.mem_cons.mp hp with rfl | hp
        · exact ⟨hI₇, Ne.symm hLi, hi₀⟩
        rcases List.mem_cons.mp hp with rfl | hp
        · exact ⟨heC, hCL, hC₀⟩
        refine ⟨old3 _ _ ?_ (N₃ p hp).1, (N₃ p hp).2⟩
        rcases List.mem_cons.mp hp with rfl | hp
        · exact hDC
        · exact nC p hp
      have hle₇ : tk ≤ tk₂ := by simpa using hle
      refine wpAny_mono (R i t x ys e _ it oi C oC D _ h₇ _ _ (mono _ _ _ _ (Nat.le_trans hle₇ (by dsimp only; omega)) j) (by simpa using hx) hoC (by simp [hxx]) (by simp) F₇ N₇) (fun y s₅ h₅ => ?_) fun _ _ e => e
      obtain ⟨h₄, tk₄, rfl, F₄, N₄, j₄⟩ := h₅
      have hlen := hJl _ _ _ j₄
      rw [List.length_append, List.length_singleton] at hlen
      refine append_at (hsz := by show ys.toArray.size ≤ sizeLine; rw [List.size_toArray]; omega) (N₄ _ (.tail _ (.tail _ (.tail _ (.head _))))).1 fun h₈ hs₈ hD₈ => ?_
      refine ⟨items.length + 1 - (i + 1), by omega, h₈, tk₄, i + 1, ys ++ [y], _, rfl, hlt, rfl, ⟨⟨oldv, hs₈.extBut _ _ (hCf e (by simp)).2 (N₄ _ (.head _)).1⟩, ⟨oi, hs₈.extBut _ _ (hCf it (by simp)).2 (N₄ _ (.tail _ (.head _))).1, hoi'⟩, ?_⟩, F₄.change hs₈ hDL hD₀, (hoC.ns (N₄ _ (.tail _ (.tail _ (.head _)))).1).sameBut hs₈ (Ne.symm hDC), fun p hp => ?_, j₄⟩
      · have hT₄ : h₄.IsTuple l items.toArray := by
          rcases hl with ⟨o, ho⟩ | ⟨o, ho⟩
          · have h4 := (N₄ (l, o) (.tail _ (.tail _ (.tail _ (.tail _ ho))))).1
            have h7 := (N₇ (l, o) (.tail _ (.tail _ (.tail _ (.tail _ ho))))).1
            exact hT₇.at fun o' q => by rw [h7] at q; cases q; exact h4
          · have h4 := F₄.keep l o ho
            have h7 := F₇.keep l o ho
            exact hT₇.at fun o' q => by rw [h7] at q; cases q; exact h4
        exact hT₄.at fun o q => hs₈.extBut _ _ (hCf l (by simp)).2 q
      · rcases List.mem_cons.mp hp with rfl | hp
        · exact ⟨hD₈.trans (congrArg some (lst_snoc ys y)), hDL, hD₀⟩
        · exact ⟨hs₈.extBut _ _ (nD p hp) (N₄ p (.tail _ (.tail _ (.tail _ (.tail _ hp))))).1, (N₄ p (.tail _ (.tail _ (.tail _ (.tail _ hp))))).2⟩
    · obtain rfl : i = items.length := Nat.le_antisymm hi (Nat.not_lt.mp hlt)
      refine wpAny_with_toks (n := tk) (Nat.le_refl _) (W.done _ _ _ (by simpa using hst') fun h₂ tk₂ hk₂ hle => ?_)
      obtain ⟨F₂, hn₂, N₂⟩ := sub2 _ h₂ F' hn' N' hk₂
      exact hRR _ _ h₂ tk₂ _ ys (mono _ _ _ _ hle j) F₂ N₂ nL hn₂ hC₀ hD₀ hCL hDL (Ne.symm hDC) nC
  · rcases List.mem_cons.mp hp with rfl | hp
    · exact ⟨hacc, hDL, hD₀⟩
    · exact ⟨old _ _ (N p hp).1, (N p hp).2⟩
end
end Mine
end
section
open PySem PySem.Spec PySem.W PySem.Calls PyProof.Rows PyProof.Rows.LCg
set_option maxRecDepth 100000
set_option maxHeartbeats 4000000
namespace Mine
section
variable {prog : Program} {w : World} {A : Around} {E : Value → Shared → Prop} {s : Shared} {h₀ : Heap} {L : Addr} {m : Str → Option Value} {env : Env}
noncomputable def SrcE (prog : Program) (w : World) (A : Around) (h₀ : Heap) (L : Addr) (m : Str → Option Value) (env : Env) (elt : Expr) (x1 x2 : Str) (scope : Scope) (cl : List (Str × Addr)) (Fin : Shared → List (Addr × Obj) → (List Value → Nat → Prop) → Prop) (it : Value) (s₂ : Shared) : Prop :=
  ∃ (e itr l : Addr) (items : List Value) (news : List (Addr × Obj)) (J : Nat → List Value → Nat → Prop), it = .ref e ∧ A.handled = none ∧ IsEnum s₂.heap e itr 0 .none ∧ s₂.heap.IsTupleIter itr l 0 ∧ s₂.heap.IsTuple l items.toArray ∧ e ≠ itr ∧ l ≠ e ∧ l ≠ itr ∧ items.length ≤ sizeLine ∧ (∃ o, (l, o) ∈ news) ∧
    Fr h₀ L s₂.heap m ∧ News h₀ L s₂.heap news ∧ (∀ p ∈ news, p.1 ≠ e) ∧ (∀ p ∈ news, p.1 ≠ itr) ∧ L ≠ e ∧ L ≠ itr ∧ h₀.get? e = none ∧ h₀.get? itr = none ∧
    (∀ i ys t t', t ≤ t' → J i ys t → J i ys t') ∧ J 0 [] s₂.toks ∧ (∀ i ys t, J i ys t → ys.length ≤ i) ∧ TurnE prog w A h₀ L m env elt x1 x2 scope cl s₂ news items J ∧ Fin s₂ news (J items.length)
theorem Assign_ListComp_E {elt iter : Expr} {x1 x2 y : Str} {p1 p2 tp py : Pos} {kk} {scope : Scope} {cl : List (Str × Addr)} {pos spos : Pos} {Q : Flow → Shared → Prop} (_F₀ : Fr h₀ L s.heap m) (hLe : env.locals = L)
    (hsw : swapsWith (.ListComp elt [⟨.Tuple [.Name x1 p1, .Name x2 p2] kk tp, iter, [], 0⟩] scope pos) (some (.Name y py)) spos.line env = pure true)
    (hclos : closureFor scope env = pure cl) (hcell : ∀ z ∈ scope.names, z.2 ≠ .cell) (hkind : scope.kind = .function)
    (hnames : ∀ z ∈ scope.names, z.2 = .local → scope.names.lookup z.1 = some .local) (hx1 : scope.names.lookup x1 = some .local) (hx2 : scope.names.lookup x2 = some .local) (hxx : x1 ≠ x2)
    (hy : env.kindOf y = some .local) (hp : (env.scope.kind == .class || (env.scope.kind == .module && env.locals != env.globals)) = false)
    (hs : ∀ x, foldedSetIterable iter env x = pure x)
    (h : wpAny (model prog w) A (eval iter env) (fun xv s₁ => wpAny (model prog w) A (pyIter xv) (fun it s₂ => SrcE prog w A h₀ L m env elt x1 x2 scope cl (fun s₂ news J =>
      ∀ D h tk ys, J ys tk → Fr h₀ L h (fun z => if z = y then some (.ref D) else m z) → News h₀ L h ((D, lst ys) :: news) → (∀ p ∈ news, @LT.lt Nat _ p.1 D) → Q .next { s₂ with heap := h, toks := tk + 1 }) it s₂) E s₁) E s) :
    wpAny (model prog w) A (exec (.Assign [.Name y py] (.ListComp elt [⟨.Tuple [.Name x1 p1, .Name x2 p2] kk tp, iter, [], 0⟩] scope pos) spos) env) Q E s := by
  subst hLe
  rw [exec_Assign_Name_used _ _ _ _ hsw]
  refine wpAny_bind (wpAny_standAt (wpAny_bind ?_))
  show wpAny _ A (do let _ ← comprehension (.ListComp elt [⟨.Tuple [.Name x1 p1, .Name x2 p2] kk tp, iter, [], 0⟩] scope pos) scope env _ (newList []) false (eval iter env) (some (assign (.Name y py) env))) _ _ s
  refine wpAny_bind (wpAny_mono (wpAny_comprehension_free (use := some (assign (.Name y py) env)) (Q := fun _ s' => Q .next s') rfl hs hclos hkind hnames
    (wpAny_mono h (fun xv s₁ h₁ => wpAny_mono h₁ (fun it s₂ h₂ => ?_) fun _ _ e => e) fun _ _ e => e)) (fun _ s' hq => wpAny_pure (wpAny_pure hq)) fun _ _ e => e)
  obtain ⟨e, itr, l, items, news, J, rfl, hh, hE, hI, hT, hei, hle, hli, hsz, hl, F, N, offe, offi, hLe, hLi, he₀, hi₀, mono, hJ, hJl, R, fin⟩ := h₂
  refine block_E hh hE hI hT hei hle hli hsz (.inl hl) hcell hkind hx1 hx2 hxx F N offe offi hLe hLi he₀ hi₀ mono hJ hJl R ?_
  intro D C h tk m' ys j F' N' o1 hn hC₀ hD₀ hCL hDL hCD offC
  show wpAny _ A (assign (.Name y py) env (.ref D)) _ _ _
  refine wpAny_assign_Name (wpAny_storeName_local hy F'.ns (fun h₂ hn₂ hs₂ => ?_) hp)
  have hL₀ : h₀.get? env.locals = none := Heap.get?_none_of_le F'.above
  have F₂ : Fr h₀ env.locals h₂ (fun z => if z = y then some (.ref D) else m z) := ⟨hn₂, fun b o e => hs₂.extBut b o (fun q => by rw [q, hL₀] at e; cases e) (F'.keep b o e), F'.above⟩
  refine ⟨m', hn.sameBut hs₂ hCL, fun h'' hs'' => fin D h'' _ ys j (F₂.change hs'' hCL hC₀) (fun p hp => ?_) o1⟩
  have z : h₂.get? p.1 = some p.2 := hs₂.extBut _ _ (N' p hp).2.1 (N' p hp).1
  refine ⟨hs''.extBut _ _ ?_ z, (N' p hp).2⟩
  rcases List.mem_cons.mp hp with rfl | hp
  · exact Ne.symm hCD
  · exact offC p hp
theorem enum_src {elt : Expr} {x1 x2 : Str} {scope : Scope} {cl : List (Str × Addr)} {Fin : Shared → List (Addr × Obj) → (List Value → Nat → Prop) → Prop} {l : Addr} {items : List Value} {k : Nat} {news : List (Addr × Obj)} {J : Nat → List Value → Nat → Prop}
    (hh : A.handled = none) (F : Fr h₀ L s.heap m) (N : News h₀ L s.heap news) (hm : (l, ({ cls := .type "tuple", data := .seq items.toArray k } : Obj)) ∈ news) (hsz : items.length ≤ sizeLine)
    (mono : ∀ i ys t t', t ≤ t' → J i ys t → J i ys t') (hJ : J 0 [] s.toks) (hJl : ∀ i ys t, J i ys t → ys.length ≤ i)
    (R : ∀ g, TurnE prog w A h₀ L m env elt x1 x2 scope cl { s with heap := g } news items J) (fin : ∀ g, Fin { s with heap := g } news (J items.length)) :
    wpAny (model prog w) A (call (.type "enumerate") [.ref l]) (fun xv s₁ => wpAny (model prog w) A (pyIter xv) (fun it s₂ => SrcE prog w A h₀ L m env elt x1 x2 scope cl Fin it s₂) E s₁) E s := by
  have hl : s.heap.IsTuple l items.toArray := ⟨_, (N _ hm).1, rfl, _, rfl⟩
  have hlt : l < s.heap.objs.size := Heap.lt_size (N _ hm).1
  have hLs : L < s.heap.objs.size := F.ns.lt
  refine call_enumerate_tuple hl fun h' hE hI hsz' hk => ?_
  refine wpAny_pyIter_enum hE ?_
  refine ⟨s.heap.objs.size + 1, s.heap.objs.size, l, items, news, J, rfl, hh, hE, hI, hl.at fun o e => hk _ o e, Nat.succ_ne_self _, ktu_ne 1 hlt, Nat.ne_of_lt hlt, hsz, ⟨_, hm⟩, F.keeps hk, N.grown hk, fun p hp => ktu_ne 1 (Heap.lt_size (N p hp).1), fun p hp => Nat.ne_of_lt (Heap.lt_size (N p hp).1), ktu_ne 1 hLs, Nat.ne_of_lt hLs, ktu_new F (Nat.le_add_right _ _), ktu_new F (Nat.le_refl _), mono, hJ, hJl, R _, fin _⟩
end
end Mine
end
section
open PySem PySem.Spec PySem.W PySem.Calls PyProof.Rows PyProof.Rows.LCg
set_option maxRecDepth 100000
set_option maxHeartbeats 4000000
namespace Mine
theorem ints_of_mem {P : Int → Prop} : ∀ l : List Value, (∀ v ∈ l, ∃ n t, v = .int n t ∧ P n) → ∃ ms, IntsAre l ms ∧ (∀ c ∈ ms, P c) ∧ ms.length = l.length
  | [], _ => ⟨[], .nil, fun c h => (by cases h), rfl⟩
  | v :: r, h => by
    obtain ⟨n, t, rfl, hn⟩ := h v (.head _)
    obtain ⟨ms, h1, h2, h3⟩ := ints_of_mem r fun v hv => h v (.tail _ hv)
    refine ⟨n :: ms, .cons _ _ h1, fun c hc => ?_, congrArg (· + 1) h3⟩
    rcases List.mem_cons.mp hc with rfl | hc
    · exact hn
    · exact h2 c hc
theorem ints_mem2 {vs : List Value} {ns : List Int} (h : IntsAre vs ns) {v : Value} : v ∈ vs → ∃ n t, v = .int n t ∧ n ∈ ns := by
  induction h with
  | nil => intro hv; cases hv
  | cons n t _ ih =>
    intro hv
    rcases List.mem_cons.mp hv with rfl | hv
    · exact ⟨_, _, rfl, .head _⟩
    · obtain ⟨n, t, e, hn⟩ := ih hv
      exact ⟨n, t, e, .tail _ hn⟩
theorem pick_mem {items : Array Value} {lo hi st : Option Int} {v : Value} (h : v ∈ (slicePick items lo hi st).toList) : v ∈ items.toList := by
  unfold slicePick at h
  have h' := List.mem_filterMap.mp h
  obtain ⟨i, _, e⟩ := h'
  have := Array.mem_of_getElem? e
  exact Array.mem_toList_iff.mpr this
theorem sum_in {ms : List Int} {b : Int} (h : ∀ c ∈ ms, 0 ≤ c ∧ c < b) : 0 ≤ ms.sum ∧ ms.sum ≤ (ms.length : Int) * b := by
  induction ms with
  | nil => exact ⟨Int.le_refl 0, by simp⟩
  | cons c r ih =>
    have h1 := h c (.head _)
    have h2 := ih fun c hc => h c (.tail _ hc)
    rw [List.sum_cons, List.length_cons]
    have : ((r.length + 1 : Nat) : Int) * b = (r.length : Int) * b + b := by rw [Int.natCast_succ, Int.add_mul, Int.one_mul]
    omega
section
variable {w : World} {A : Around} {E : Value → Shared → Prop} {s : Shared} {h₀ : Heap} {L : Addr} {m : Str → Option Value} {news : List (Addr × Obj)} {Q : Value → Shared → Prop} {value slice : Expr} {ops : List Value}
theorem slice_step {l : Addr} {vs : List Value} {ns : List Int} {k : Nat} {i j : Int} {u u7 : Tok} (F : Fr h₀ L s.heap m) (N : News h₀ L s.heap news) (hm : (l, lsn vs k) ∈ news) (hi : IntsAre vs ns) (hb : ∀ c ∈ ns, 0 ≤ c ∧ c < 1000000) (hz : ns.length ≤ 63) (hj : j = 7)
    (hq : ∀ D zs ms h', IntsAre zs ms → (∀ c ∈ ms, 0 ≤ c ∧ c < 1000000) → ms.length ≤ 63 → Fr h₀ L h' m → News h₀ L h' ((D, lsn zs 0) :: news) → (∀ p ∈ news, @LT.lt Nat _ p.1 D) → Q (.ref D) { s with heap := h' })
    (hs : subscripted slice false (.ref l) (.ref s.heap.objs.size) = operate ops (getItem (.ref l) (.ref s.heap.objs.size))) (ht : ∀ r, letTemporaryGo value (.ref l) r = pure ()) :
    wpAny (model pw w) A (subscriptTail value slice (.ref l) (.ref s.heap.objs.size)) Q E { s with heap := s.heap.push { cls := .type "slice", data := .fields #[.int i u, .none, .int j u7] } } := by
  subst hj
  have hl : s.heap.IsList l vs.toArray := ⟨_, (N _ hm).1, rfl, _, rfl⟩
  have hlen : vs.length = ns.length := hi.length
  obtain ⟨ms, h1, h2, h3⟩ := ints_of_mem (P := fun c => 0 ≤ c ∧ c < 1000000) (slicePick vs.toArray (some i) none (some 7)).toList fun v hv => by
    obtain ⟨n, t, e, hn⟩ := ints_mem2 hi (pick_mem hv)
    exact ⟨n, t, e, hb n hn⟩
  have h4 : ms.length ≤ 63 := by
    have h5 := slicePick_size_le vs.toArray (some i) none (some 7)
    have h6 : vs.toArray.size = vs.length := List.size_toArray ..
    rw [h3, Array.length_toList]
    omega
  exact kmk_slice3_lit F N hl (.int _ _) .none (.int _ _) (by decide) rfl (fun D h' F' N' lt => hq D _ ms h' h1 h2 h4 F' N' lt) hs ht (by rw [List.size_toArray, sizeLine_eq]; omega)
end
noncomputable def CellsJ (i : Nat) (ys : List Value) (_ : Nat) : Prop := ∃ cs, IntsAre ys cs ∧ cs.length = i ∧ ∀ c ∈ cs, 0 ≤ c ∧ c < 100000000
theorem ints_snoc {ys : List Value} {cs : List Int} (h : IntsAre ys cs) (n : Int) (t : Tok) : IntsAre (ys ++ [.int n t]) (cs ++ [n]) := by
  induction h with
  | nil => exact .cons _ _ .nil
  | cons a t _ ih => exact .cons _ _ ih
theorem cells_snoc {i : Nat} {ys : List Value} {tk tk' : Nat} (h : CellsJ i ys tk) {n : Int} {t : Tok} (hn : 0 ≤ n ∧ n < 100000000) : CellsJ (i + 1) (ys ++ [.int n t]) tk' := by
  obtain ⟨cs, h1, h2, h3⟩ := h
  refine ⟨cs ++ [n], ints_snoc h1 n t, by rw [List.length_append, List.length_singleton, h2], fun c hc => ?_⟩
  rcases List.mem_append.mp hc with hc | hc
  · exact h3 c hc
  · rw [List.mem_singleton.mp hc]; exact hn
end Mine
end
section
open PySem PySem.Spec PySem.W PySem.Calls PyProof.Rows PyProof.Rows.LCg
set_option maxRecDepth 100000
set_option maxHeartbeats 4000000
namespace Mine
noncomputable def SignK (x : Str) (lo i : Nat) (v : Value) (tk : Nat) : Prop := ∃ c u, x.cps[i]? = some c ∧ v = .str ⟨#[c]⟩ u ∧ lo ≤ u ∧ u < tk
theorem signK_mono {x : Str} {lo : Nat} : ∀ i v t t', t ≤ t' → SignK x lo i v t → SignK x lo i v t' := fun _ _ _ _ le ⟨c, u, a, b, l, g⟩ => ⟨c, u, a, b, l, Nat.lt_of_lt_of_le g le⟩
theorem walkK_ascii {prog : Program} {w : World} {A : Around} (hh : A.handled = none) (I : Addr) (x : Str) (t : Tok) (lo : Nat) :
    WalkK prog w A I [I] [I] x.cps.size lo (SignK x lo) (fun i h => h.IsStrIter I "str_ascii_iterator" x t i) where
  sub := fun _ hb => hb
  frame := fun _ _ _ st hk => let ⟨o, ho, r⟩ := st; ⟨o, hk I (by simp) o ho, r⟩
  item := fun i s Q E hi hlo st hQ => by
    refine wpAny_pyNext_ascii_item st (c := x.cps[i]) (by simp [hi]) fun h' hit' hs' => ?_
    exact hQ _ h' (s.toks + 1) ⟨_, _, by simp [hi], rfl, hlo, Nat.lt_succ_self _⟩ hit' fun b o hb e => hs'.extBut b o (fun h => hb (by simp [h])) e
  done := (Walks.strAscii hh I x t).done
  self := (Walks.strAscii hh I x t).self
theorem walkK_wide {prog : Program} {w : World} {A : Around} (hh : A.handled = none) (I : Addr) (x : Str) (t : Tok) (lo : Nat) :
    WalkK prog w A I [I] [I] x.cps.size lo (SignK x lo) (fun i h => h.IsStrIter I "str_iterator" x t i) where
  sub := fun _ hb => hb
  frame := fun _ _ _ st hk => let ⟨o, ho, r⟩ := st; ⟨o, hk I (by simp) o ho, r⟩
  item := fun i s Q E hi hlo st hQ => by
    refine wpAny_pyNext_wide_item st (c := x.cps[i]) (by simp [hi]) fun h' hit' hs' => ?_
    exact hQ _ h' (s.toks + 1) ⟨_, _, by simp [hi], rfl, hlo, Nat.lt_succ_self _⟩ hit' fun b o hb e => hs'.extBut b o (fun h => hb (by simp [h])) e
  done := (Walks.strWide hh I x t).done
  self := (Walks.strWide hh I x t).self
theorem walkK_any {prog : Program} {w : World} {A : Around} (hh : A.handled = none) (I : Addr) (x : Str) (t : Tok) (lo : Nat) :
    WalkK prog w A I [I] [I] x.cps.size lo (SignK x lo) (fun i h => h.IsStrIter I (strIterType x) x t i) := by
  unfold strIterType
  split
  · exact walkK_ascii hh I x t lo
  · exact walkK_wide hh I x t lo
section
variable {prog : Program} {w : World} {A : Around} {E : Value → Shared → Prop} {s : Shared} {h₀ : Heap} {L : Addr} {m : Str → Option Value} {env : Env} {elt : Expr} {xn : Str} {scope : Scope} {cl : List (Str × Addr)} {ifs : List Expr}
/-- one sign's turn with a test -/
noncomputable def OneS (prog : Program) (w : World) (A : Around) (h₀ : Heap) (L : Addr) (m : Str → Option Value) (env : Env) (ifs : List Expr) (elt : Expr) (xn : Str) (scope : Scope) (cl : List (Str × Addr)) (s : Shared) (news : List (Addr × Obj)) (p : Nat → Bool) : Prop :=
  ∀ c u ys I oI C oC D m₂ h tk (E' : Value → Shared → Prop), NsObj oC m₂ → m₂ xn = some (.str ⟨#[c]⟩ u) → Fr h₀ L h m → News h₀ L h ((I, oI) :: (C, oC) :: (D, lst ys) :: news) → Off3 I C D news → ((@Ne Nat I C) ∧ (@Ne Nat I D) ∧ (@Ne Nat C D)) →
    wpAny (model prog w) A (testsJ ifs (compEnvC scope cl C env)) (fun ok s₃ =>
      if ok = true then wpAny (model prog w) A (eval elt (compEnvC scope cl C env)) (fun y s₄ => p c = true ∧ EndJ h₀ L m { s with heap := h, toks := tk } ((I, oI) :: (C, oC) :: (D, lst ys) :: news) (fun _ => y = .str ⟨#[c]⟩ u) s₄) E' s₃
      else p c = false ∧ EndJ h₀ L m { s with heap := h, toks := tk } ((I, oI) :: (C, oC) :: (D, lst ys) :: news) (fun _ => True) s₃) E' { s with heap := h, toks := tk }
abbrev oneT (c : Nat) : Str := ⟨#[c]⟩
noncomputable def JS (x : List Nat) (p : Nat → Bool) (lo : Nat) (i : Nat) (ys : List Value) (tk : Nat) : Prop := ∃ us : List (Str × Tok), ys = strValues us ∧ us.map (·.1) = ((x.take i).filter p).map oneT ∧ (∀ q ∈ us, lo ≤ q.2 ∧ q.2 < tk) ∧ lo ≤ tk
theorem take_step (p : Nat → Bool) (l : List Nat) (i c : Nat) (h : l[i]? = some c) : (l.take (i + 1)).filter p = (l.take i).filter p ++ (if p c then [c] else []) := take_succ_filter p l i c h
theorem turnS {x : List Nat} {news : List (Addr × Obj)} {p : Nat → Bool} (h : OneS prog w A h₀ L m env ifs elt xn scope cl s news p) :
    TurnJ prog w A h₀ L m env ifs elt xn scope cl s news (tx x).cps.size (SignK (tx x) s.toks) (JS x p s.toks) := by
  intro i v ys I oI C oC D m₂ h' tk E' hi j hv hC hx F N off ne
  obtain ⟨c, u, hc, rfl, hlo, hu⟩ := hv
  have hc' : x[i]? = some c := by simpa using hc
  obtain ⟨us, rfl, hus, hb, hlt⟩ := j
  refine wpAny_with_toks (n := tk) (Nat.le_refl _) (wpAny_mono (h c u _ I oI C oC D m₂ h' tk _ hC hx F N off ne) (fun ok s₃ q => ?_) fun _ _ z => z)
  intro hle
  cases ok with
  | true =>
    simp only [if_true] at q ⊢
    refine wpAny_with_toks (n := tk) hle (wpAny_mono q (fun y s₄ q => ?_) fun _ _ z => z)
    intro hle₄
    obtain ⟨hp, h₄, tk₄, rfl, F₄, N₄, rfl⟩ := q
    refine ⟨h₄, tk₄, rfl, F₄, N₄, us ++ [(oneT c, u)], ?_, ?_, ?_, Nat.le_trans hlt hle₄⟩
    · unfold strValues
      rw [List.map_append]
      rfl
    · rw [List.map_append, hus, take_step p x i c hc', if_pos hp, List.map_append]
      rfl
    · intro q hq
      rcases List.mem_append.mp hq with hq | hq
      · exact ⟨(hb q hq).1, Nat.lt_of_lt_of_le (hb q hq).2 hle₄⟩
      · rw [List.mem_singleton.mp hq]
        exact ⟨hlo, Nat.lt_of_lt_of_le hu hle₄⟩
  | false =>
    simp only [Bool.false_eq_true, if_false] at q ⊢
    obtain ⟨hp, h₄, tk₄, rfl, F₄, N₄, _⟩ := q
    refine ⟨h₄, tk₄, rfl, F₄, N₄, us, rfl, ?_, fun q hq => ⟨(hb q hq).1, Nat.lt_of_lt_of_le (hb q hq).2 hle⟩, Nat.le_trans hlt hle⟩
    rw [hus, take_step p x i c hc', if_neg (by rw [hp]; exact Bool.false_ne_true), List.append_nil]
theorem src_str {x : List Nat} {t : Tok} {news : List (Addr × Obj)} {p : Nat → Bool} {Fin : Shared → List (Addr × Obj) → (List Value → Nat → Prop) → Prop}
    (hh : A.handled = none) (F : Fr h₀ L s.heap m) (N : News h₀ L s.heap news) (hsz : x.length ≤ sizeLine)
    (one : ∀ g, OneS prog w A h₀ L m env ifs elt xn scope cl { s with heap := g } news p)
    (fin : ∀ g, Fin { s with heap := g } news (fun ys tk => ∃ us : List (Str × Tok), ys = strValues us ∧ us.map (·.1) = (x.filter p).map oneT ∧ (∀ q ∈ us, s.toks ≤ q.2 ∧ q.2 < tk) ∧ s.toks ≤ tk)) :
    wpAny (model prog w) A (pyIter (.str (tx x) t)) (fun it s₂ => SrcJ prog w A h₀ L m env ifs elt xn scope cl Fin it s₂) E s := by
  refine wpAny_pyIter_strU ?_
  have up : ∀ b o, s.heap.get? b = some o → (s.heap.push { cls := .type (strIterType (tx x)), data := .fields #[.str (tx x) t, .int 0 0] }).get? b = some o := fun b o e => Heap.get?_push_of_some _ e
  refine ⟨s.heap.objs.size, _, _, _, _, news, JS x p s.toks, rfl, walkK_any hh s.heap.objs.size (tx x) t s.toks, signK_mono, by show x.toArray.size ≤ _; rw [List.size_toArray]; exact hsz, fun i h st => by obtain ⟨o, e, _⟩ := st; exact ⟨o, e⟩,
    fun i h h' o st e e' k N' => by obtain ⟨o', q, r⟩ := st; rw [e] at q; cases q; exact ⟨o, e', r⟩, ⟨_, Heap.get?_push_size _ rfl, rfl, rfl⟩, fun b hb => ?_, F.keeps up, N.grown up, fun p hp => Nat.ne_of_lt (Heap.lt_size (N p hp).1), Nat.ne_of_lt F.ns.lt, next_is_new F,
    fun i ys t t' le j => ?_, ⟨[], rfl, by simp, fun q hq => (by cases hq), Nat.le_refl _⟩, fun i ys t j => ?_, turnS (one _), ?_⟩
  · rw [List.mem_singleton.mp hb]
    show s.heap.objs.size < (s.heap.push _).objs.size
    rw [Heap.size_push]
    exact Nat.lt_succ_self _
  · obtain ⟨us, a, b, c, d⟩ := j
    exact ⟨us, a, b, fun q hq => ⟨(c q hq).1, Nat.lt_of_lt_of_le (c q hq).2 le⟩, Nat.le_trans d le⟩
  · obtain ⟨us, rfl, b, _⟩ := j
    have := congrArg List.length b
    rw [List.length_map, List.length_map] at this
    unfold strValues
    rw [List.length_map, this]
    refine Nat.le_trans (List.length_filter_le _ _) ?_
    rw [List.length_take]
    exact Nat.min_le_left _ _
  · have e : x.take (tx x).cps.size = x := by
      show x.take x.toArray.size = x
      rw [List.size_toArray, List.take_length]
    have q := fin (s.heap.push { cls := .type (strIterType (tx x)), data := .fields #[.str (tx x) t, .int 0 0] })
    unfold JS
    rw [e]
    exact q
theorem join_tok {x : Str} {t : Tok} {D : Addr} {us : List (Str × Tok)} {Q : Value → Shared → Prop} (hl : s.heap.IsList D (strValues us).toArray) (hok : ((us.map (·.1)).map (·.length)).sum + (us.map (·.1)).length * x.length ≤ 16777216)
    (h : ∀ t' k, s.toks ≤ k → ((s.toks ≤ t' ∧ t' < k) ∨ ∃ p ∈ us, t' = p.2) → Q (.str (Txt.join x (us.map (·.1))) t') { s with toks := k }) : wpAny (model prog w) A (call (.builtin "str.join") [.str x t, .ref D]) Q E s := by
  have hok' := joinOk_of hok
  unfold JoinOk at hok'
  rw [Bool.not_eq_true'] at hok'
  refine call_meets F.slot_str_join (typeIs_str _ _ _) F.entry_str_join (F.args_str_join_2 _ _) (meets_str_join_list x t D us hok') ⟨hl, ?_⟩
  have hf := joinFit_length hok'
  match us, hf, h with
  | [], hf, h => exact ⟨hf, h _ _ (Nat.le_succ _) (.inl ⟨Nat.le_refl _, Nat.lt_succ_self _⟩)⟩
  | [q], hf, h => exact h q.2 s.toks (Nat.le_refl _) (.inr ⟨q, .head _, rfl⟩)
  | _ :: _ :: _, hf, h => exact ⟨hf, h _ _ (Nat.le_succ _) (.inl ⟨Nat.le_refl _, Nat.lt_succ_self _⟩)⟩
end
theorem join_ones (l : List Nat) : Txt.join (Str.ofString "") (l.map oneT) = tx l := by
  show Builtin.Str.glued (Str.ofString "") (l.map oneT) = tx l
  rw [StrLaws.glued_eq_join, str_nil]
  induction l with
  | nil => rfl
  | cons c r ih =>
    cases r with
    | nil => rfl
    | cons d r =>
      show oneT c ++ tx [] ++ Str.join (tx []) ((d :: r).map oneT) = tx (c :: d :: r)
      rw [ih]
      show tx [c] ++ tx [] ++ tx (d :: r) = _
      rw [tx_app, tx_app]
      rfl
end Mine
end
section
open PySem PySem.Spec PySem.W PySem.Calls PyProof.Rows PyProof.Rows.LCg
set_option maxRecDepth 100000
set_option maxHeartbeats 4000000
namespace Mine
theorem choicesN_length (low : Int) : ∀ (cs : List Int) (ws : List (List Nat)), (choicesN low cs ws).length = 2 ^ cs.length * ws.length
  | [], ws => by show ws.length = _; simp
  | c :: r, ws => by
    show (choicesN low r (stepC low c ws)).length = _
    rw [choicesN_length low r, List.length_cons, Nat.pow_succ]
    unfold stepC
    rw [List.length_append, List.length_map, List.length_map, ← Nat.two_mul, Nat.mul_assoc]
theorem choicesN_len (low : Int) : ∀ (cs : List Int) (ws : List (List Nat)) (k : Nat), (∀ w ∈ ws, w.length = k) → ∀ w ∈ choicesN low cs ws, w.length = k + cs.length
  | [], ws, k, h => h
  | c :: r, ws, k, h => by
    intro w hw
    have := choicesN_len low r (stepC low c ws) (k + 1) (fun v hv => by
      rcases List.mem_append.mp hv with h' | h'
      · obtain ⟨u, hu, rfl⟩ := List.mem_map.mp h'
        rw [List.length_append, List.length_singleton, h u hu]
      · obtain ⟨u, hu, rfl⟩ := List.mem_map.mp h'
        rw [List.length_append, List.length_singleton, h u hu]) w hw
    rw [this, List.length_cons]
    omega
noncomputable def goneB (c : Nat) : Bool := inB1 (c : Int)
noncomputable abbrev leftW (w : List Nat) : List Nat := w.filter fun c => !goneB c
noncomputable def LeftR (v y : Value) (tk : Nat) : Prop := ∀ wd t, v = .str (tx wd) t → ∃ t', y = .str (tx (leftW wd)) t' ∧ 1 ≤ t' ∧ t' < tk
theorem leftR_mono : ∀ v y t t', t ≤ t' → LeftR v y t → LeftR v y t' := fun _ _ _ _ le h wd t e => let ⟨t', a, b, c⟩ := h wd t e; ⟨t', a, b, Nat.lt_of_lt_of_le c le⟩
theorem leftR_of {wd : List Nat} {tw : Tok} {us : List (Str × Tok)} {t' lo k lo' : Nat} (hlo : 1 ≤ lo) (hlo' : 1 ≤ lo') {tk : Nat} (hu : us.map (·.1) = (wd.filter fun c => !goneB c).map oneT) (hb : ∀ q ∈ us, lo ≤ q.2 ∧ q.2 < lo') (hk : k ≤ tk) (hkk : lo' ≤ k)
    (h : (lo' ≤ t' ∧ t' < k) ∨ ∃ p ∈ us, t' = p.2) : LeftR (.str (tx wd) tw) (.str (Txt.join (Str.ofString "") (us.map (·.1))) t') tk := by
  intro wd' t e
  injection e with e1 _
  have := tx_inj e1
  subst this
  refine ⟨t', by rw [hu, join_ones], ?_⟩
  rcases h with h | ⟨p, hp, rfl⟩
  · exact ⟨Nat.le_trans hlo' h.1, Nat.lt_of_lt_of_le h.2 hk⟩
  · have := hb p hp
    exact ⟨Nat.le_trans hlo this.1, Nat.lt_of_lt_of_le this.2 (Nat.le_trans hkk hk)⟩
theorem lefts_are {ws : List (List Nat)} {vs : List Value} (h : WordsAre 0 ws vs) {tk : Nat} : ∀ {ys : List Value}, Paired (fun v y => LeftR v y tk) (vs.filter fun _ => true) ys → StrsAre ys (ws.map fun w => tx (leftW w)) ∧ ∀ v ∈ ys, tokOk tk v := by
  have e : vs.filter (fun _ => true) = vs := List.filter_eq_self.mpr fun _ _ => rfl
  rw [e]
  clear e
  unfold WordsAre at h
  induction h with
  | nil => intro ys p; cases p; exact ⟨.nil, fun v h => (by cases h)⟩
  | cons f _ ih =>
    intro ys p
    cases p with
    | cons q r =>
      obtain ⟨t, rfl, _⟩ := f
      obtain ⟨t', rfl, h1, h2⟩ := q _ _ rfl
      obtain ⟨a, b⟩ := ih r
      refine ⟨.cons _ _ a, fun v hv => ?_⟩
      rcases List.mem_cons.mp hv with rfl | hv
      · exact ⟨Nat.ne_of_gt h1, h2⟩
      · exact b v hv
theorem strs_get {ys : List Value} {xs : List Str} (h : StrsAre ys xs) : ∀ {i : Nat} {x : Str}, xs[i]? = some x → ∃ t, ys[i]? = some (.str x t) := by
  induction h with
  | nil => intro i x e; simp at e
  | cons y t _ ih =>
    intro i x e
    cases i with
    | zero =>
      have : y = x := by simpa using e
      subst this
      exact ⟨t, by simp⟩
    | succ i => exact (by simpa using ih (i := i) (x := x) (by simpa using e))
/-- a letter comprehension over ints -/
noncomputable def LettR (low : Int) (v y : Value) (_ : Nat) : Prop := ∀ n t, v = .int n t → ∃ t', y = .str (tx [letterC low n]) t'
theorem letters_are {low : Int} {vs : List Value} {ns : List Int} (h : IntsAre vs ns) {tk : Nat} : ∀ {ys : List Value}, Paired (fun v y => LettR low v y tk) (vs.filter fun _ => true) ys → ∃ us : List (Str × Tok), ys = strValues us ∧ us.map (·.1) = (ns.map (letterC low)).map oneT := by
  have e : vs.filter (fun _ => true) = vs := List.filter_eq_self.mpr fun _ _ => rfl
  rw [e]
  clear e
  induction h with
  | nil => intro ys p; cases p; exact ⟨[], rfl, rfl⟩
  | cons n t _ ih =>
    intro ys p
    cases p with
    | cons q r =>
      obtain ⟨t', rfl⟩ := q _ _ rfl
      obtain ⟨us, rfl, hu⟩ := ih r
      exact ⟨(tx [letterC low n], t') :: us, rfl, by rw [List.map_cons, List.map_cons, List.map_cons, hu]⟩
theorem letter_hi {low n : Int} (h : n.fmod 2 ≠ 0) : (98 + low).toNat = letterC low n := by
  have := fmod_pos n 2 (by decide)
  unfold letterC
  rw [show n.fmod 2 = 1 by omega]
  congr 1
  omega
theorem letter_lo {low n : Int} (h : n.fmod 2 = 0) : (97 + low).toNat = letterC low n := by
  unfold letterC
  rw [h, Int.add_zero]
noncomputable def partsN (low : Int) : List (List Nat) := [[(97 + low).toNat], [(98 + low).toNat], [(97 + low).toNat, (97 + low).toNat], [(97 + low).toNat, (98 + low).toNat], [(98 + low).toNat, (97 + low).toNat], [(98 + low).toNat, (98 + low).toNat]]
noncomputable def partN (low n : Int) : List Nat := (partsN low).getD (n.fmod 6).toNat []
noncomputable def PartR (low : Int) (v y : Value) (_ : Nat) : Prop := ∀ n t, v = .int n t → ∃ t', y = .str (tx (partN low n)) t'
theorem part_get {low n : Int} : ∃ j, (n.fmod 6).toNat = j ∧ j < 6 := by
  have := fmod_pos n 6 (by decide)
  exact ⟨_, rfl, by omega⟩
theorem six_idx {n : Int} : seqIndex? (n.fmod 6) 6 = some (n.fmod 6).toNat := by
  have := fmod_pos n 6 (by decide)
  obtain ⟨k, hk⟩ : ∃ k : Nat, n.fmod 6 = (k : Int) := ⟨(n.fmod 6).toNat, by omega⟩
  rw [hk]
  have hk6 : k < 6 := by omega
  have : ∀ k : Fin 6, seqIndex? (k.val : Int) 6 = some (k.val : Int).toNat := by decide
  exact this ⟨k, hk6⟩
end Mine
end
section
open PySem PySem.W PyProof.Rows PySem.Builtin PySem.Builtin.Str
set_option maxRecDepth 100000
set_option maxHeartbeats 4000000
namespace Mine
theorem tx_ext (l : List Nat) (i j : Nat) : l.toArray.extract i j = ((l.drop i).take (j - i)).toArray := by simp
theorem subAt_one (l : List Nat) (a i : Nat) : subAt (tx l) (tx [a]) i = (l[i]? == some a) := by
  unfold subAt
  show (l.toArray.extract i (i + 1) == [a].toArray) = _
  rw [tx_ext, show i + 1 - i = 1 by omega]
  cases h : l[i]? with
  | none =>
    have : l.drop i = [] := List.drop_eq_nil_of_le (by simpa using h)
    rw [this]
    rfl
  | some c =>
    have hi : i < l.length := (List.getElem?_eq_some_iff.mp h).1
    have hc : l[i] = c := (List.getElem?_eq_some_iff.mp h).2
    rw [List.drop_eq_getElem_cons hi, hc]
    show (([c] : List Nat).toArray == [a].toArray) = (some c == some a)
    by_cases e : c = a
    · rw [e, beq_self_eq_true, beq_self_eq_true]
    · have h1 : ¬ (([c] : List Nat).toArray = [a].toArray) := fun h => e (by simpa using h)
      have h2 : ¬ (some c = some a) := fun h => e (Option.some.inj h)
      rw [beq_eq_false_iff_ne.mpr h1, beq_eq_false_iff_ne.mpr h2]
theorem subAt_nil (l : List Nat) (i : Nat) : subAt (tx l) (tx []) i = true := by
  unfold subAt
  show (l.toArray.extract i (i + 0) == ([] : List Nat).toArray) = true
  rw [tx_ext, show i + 0 - i = 0 by omega]
  rfl
theorem subAt_ren {l : List Nat} {a : Nat} {f : Nat → Nat} (h : ∀ c ∈ l, f c = f a ↔ c = a) (i : Nat) : subAt (tx (l.map f)) (tx [f a]) i = subAt (tx l) (tx [a]) i := by
  rw [subAt_one, subAt_one, List.getElem?_map]
  cases hc : l[i]? with
  | none => rfl
  | some c =>
    have := h c (List.mem_of_getElem? hc)
    show (some (f c) == some (f a)) = (some c == some a)
    by_cases e : c = a
    · rw [e, beq_self_eq_true, beq_self_eq_true]
    · have h1 : ¬ (some (f c) = some (f a)) := fun h => e (this.mp (Option.some.inj h))
      have h2 : ¬ (some c = some a) := fun h => e (Option.some.inj h)
      rw [beq_eq_false_iff_ne.mpr h1, beq_eq_false_iff_ne.mpr h2]
theorem occ_eq {x x' y y' : Str} (hy : y.length = y'.length) (h : ∀ i, subAt x y i = subAt x' y' i) (lo hi k : Nat) : occurrences x y lo hi k = occurrences x' y' lo hi k := by
  unfold occurrences
  simp only [hy, h]
theorem find4_eq {x x' y y' : Str} (hx : x.length = x'.length) (hy : y.length = y'.length) (h : ∀ i, subAt x y i = subAt x' y' i) (i j : Int) : find4 x y i j = find4 x' y' i j := by
  unfold find4
  rw [hx, occ_eq hy h]
theorem m1_ren {l : List Nat} {a : Nat} {f : Nat → Nat} (h : ∀ c ∈ l, f c = f a ↔ c = a) : m1 (f a) (tx (l.map f)) = m1 a (tx l) := by
  have hl : (tx (l.map f)).length = (tx l).length := by rw [tx_len, tx_len, List.length_map]
  have e0 : ∀ i j, find4 (tx (l.map f)) (tx []) i j = find4 (tx l) (tx []) i j := find4_eq hl rfl fun i => by rw [subAt_nil, subAt_nil]
  have e1 : ∀ i j, find4 (tx (l.map f)) (tx [f a]) i j = find4 (tx l) (tx [a]) i j := find4_eq hl rfl (subAt_ren h)
  show (if find4 (tx (l.map f)) (tx []) 0 (tx (l.map f)).length < 0 then false
    else if find4 (tx (l.map f)) (tx [f a]) (find4 (tx (l.map f)) (tx []) 0 (tx (l.map f)).length + 0) (tx (l.map f)).length < 0 then false
    else if find4 (tx (l.map f)) (tx []) (find4 (tx (l.map f)) (tx [f a]) (find4 (tx (l.map f)) (tx []) 0 (tx (l.map f)).length + 0) (tx (l.map f)).length + 1) (tx (l.map f)).length < 0 then false else true) = _
  rw [hl, e0, e1, e0]
  rfl
theorem m2_ren {l : List Nat} {a b : Nat} {f : Nat → Nat} (h : ∀ c ∈ l, f c = f a ↔ c = a) (k : ∀ c ∈ l, f c = f b ↔ c = b) : m2 (f a) (f b) (tx (l.map f)) = m2 a b (tx l) := by
  have hl : (tx (l.map f)).length = (tx l).length := by rw [tx_len, tx_len, List.length_map]
  have e0 : ∀ i j, find4 (tx (l.map f)) (tx []) i j = find4 (tx l) (tx []) i j := find4_eq hl rfl fun i => by rw [subAt_nil, subAt_nil]
  have e1 : ∀ i j, find4 (tx (l.map f)) (tx [f a]) i j = find4 (tx l) (tx [a]) i j := find4_eq hl rfl (subAt_ren h)
  have e2 : ∀ i j, find4 (tx (l.map f)) (tx [f b]) i j = find4 (tx l) (tx [b]) i j := find4_eq hl rfl (subAt_ren k)
  show (if find4 (tx (l.map f)) (tx []) 0 (tx (l.map f)).length < 0 then false
    else if find4 (tx (l.map f)) (tx [f a]) (find4 (tx (l.map f)) (tx []) 0 (tx (l.map f)).length + 0) (tx (l.map f)).length < 0 then false
    else if find4 (tx (l.map f)) (tx [f b]) (find4 (tx (l.map f)) (tx [f a]) (find4 (tx (l.map f)) (tx []) 0 (tx (l.map f)).length + 0) (tx (l.map f)).length + 1) (tx (l.map f)).length < 0 then false
    else if find4 (tx (l.map f)) (tx []) (find4 (tx (l.map f)) (tx [f b]) (find4 (tx (l.map f)) (tx [f a]) (find4 (tx (l.map f)) (tx []) 0 (tx (l.map f)).length + 0) (tx (l.map f)).length + 1) (tx (l.map f)).length + 1) (tx (l.map f)).length < 0 then false else true) = _
  rw [hl, e0, e1, e2, e0]
  rfl
noncomputable def subB : List Nat → List Nat → Bool
  | [], _ => true
  | _ :: _, [] => false
  | a :: r, b :: s => if a == b then subB r s else subB (a :: r) s
noncomputable def texts2 : Nat → List (List Nat)
  | 0 => [[]]
  | n + 1 => (texts2 n).flatMap fun w => [0 :: w, 1 :: w]
noncomputable def texts3 : Nat → List (List Nat)
  | 0 => [[]]
  | n + 1 => (texts3 n).flatMap fun w => [0 :: w, 1 :: w, 2 :: w]
theorem one_all : ((texts2 5).all fun w => (m1 0 (tx w) == subB [0] w) && (m2 0 0 (tx w) == subB [0, 0] w)) = true := by decide +kernel
theorem two_all : ((texts3 5).all fun w => m2 0 1 (tx w) == subB [0, 1] w) = true := by decide +kernel
end Mine
end
section
open PySem PySem.W PyProof.Rows PySem.Builtin PySem.Builtin.Str
set_option maxRecDepth 100000
set_option maxHeartbeats 4000000
namespace Mine
theorem subB_ren {f : Nat → Nat} : ∀ (l p : List Nat), (∀ c ∈ l, ∀ a ∈ p, f c = f a ↔ c = a) → subB (p.map f) (l.map f) = subB p l
  | [], [], _ => rfl
  | [], a :: p, _ => rfl
  | c :: l, [], _ => rfl
  | c :: l, a :: p, h => by
    have hc := h c (.head _) a (.head _)
    have e : (f a == f c) = (a == c) := by
      by_cases e : a = c
      · rw [e, beq_self_eq_true, beq_self_eq_true]
      · have h1 : ¬ f a = f c := fun z => e (hc.mp z.symm).symm
        rw [beq_eq_false_iff_ne.mpr h1, beq_eq_false_iff_ne.mpr e]
    show (if f a == f c then subB (p.map f) (l.map f) else subB ((a :: p).map f) (l.map f)) = if a == c then subB p l else subB (a :: p) l
    rw [e, subB_ren l p fun c hc a ha => h c (.tail _ hc) a (.tail _ ha), subB_ren l (a :: p) fun c hc => h c (.tail _ hc)]
theorem texts2_mem : ∀ (n : Nat) (l : List Nat), l.length = n → (∀ c ∈ l, c = 0 ∨ c = 1) → l ∈ texts2 n
  | 0, l, h, _ => by rw [List.length_eq_zero_iff.mp h]; exact .head _
  | n + 1, c :: r, h, hc => by
    refine List.mem_flatMap.mpr ⟨r, texts2_mem n r (by simpa using h) fun d hd => hc d (.tail _ hd), ?_⟩
    rcases hc c (.head _) with rfl | rfl
    · exact .head _
    · exact .tail _ (.head _)
theorem texts3_mem : ∀ (n : Nat) (l : List Nat), l.length = n → (∀ c ∈ l, c = 0 ∨ c = 1 ∨ c = 2) → l ∈ texts3 n
  | 0, l, h, _ => by rw [List.length_eq_zero_iff.mp h]; exact .head _
  | n + 1, c :: r, h, hc => by
    refine List.mem_flatMap.mpr ⟨r, texts3_mem n r (by simpa using h) fun d hd => hc d (.tail _ hd), ?_⟩
    rcases hc c (.head _) with rfl | rfl | rfl
    · exact .head _
    · exact .tail _ (.head _)
    · exact .tail _ (.tail _ (.head _))
noncomputable def toTwo (a c : Nat) : Nat := if c = a then 0 else 1
theorem toTwo_iff (a c : Nat) : toTwo a c = toTwo a a ↔ c = a := by
  unfold toTwo
  rw [if_pos rfl]
  by_cases e : c = a
  · simp [e]
  · simp [e]
noncomputable def toThree (a b c : Nat) : Nat := if c = a then 0 else if c = b then 1 else 2
theorem toThree_a {a b : Nat} (c : Nat) : toThree a b c = toThree a b a ↔ c = a := by
  unfold toThree
  rw [if_pos rfl]
  by_cases e : c = a
  · simp [e]
  · by_cases e2 : c = b <;> simp [e, e2]
theorem toThree_b {a b : Nat} (h : a ≠ b) (c : Nat) : toThree a b c = toThree a b b ↔ c = b := by
  unfold toThree
  rw [if_neg (Ne.symm h), if_pos rfl]
  by_cases e : c = a
  · simp [e, h]
  · by_cases e2 : c = b
    · subst e2; simp [e]
    · simp [e, e2]
theorem m1_sub {l : List Nat} (h5 : l.length = 5) (a : Nat) : m1 a (tx l) = subB [a] l := by
  have hm : l.map (toTwo a) ∈ texts2 5 := texts2_mem 5 _ (by rw [List.length_map, h5]) fun c hc => by
    obtain ⟨d, _, rfl⟩ := List.mem_map.mp hc
    unfold toTwo
    split
    · exact .inl rfl
    · exact .inr rfl
  have hall := one_all
  rw [List.all_eq_true] at hall
  have := hall _ hm
  rw [Bool.and_eq_true, beq_iff_eq, beq_iff_eq] at this
  have e0 : toTwo a a = 0 := if_pos rfl
  rw [← m1_ren (f := toTwo a) fun c _ => toTwo_iff a c, ← subB_ren (f := toTwo a) l [a] fun c _ b hb => by rw [List.mem_singleton.mp hb]; exact toTwo_iff a c]
  show m1 (toTwo a a) _ = subB [toTwo a a] _
  rw [e0]
  exact this.1
theorem m2_sub {l : List Nat} (h5 : l.length = 5) (a b : Nat) : m2 a b (tx l) = subB [a, b] l := by
  by_cases hab : a = b
  · subst hab
    have hm : l.map (toTwo a) ∈ texts2 5 := texts2_mem 5 _ (by rw [List.length_map, h5]) fun c hc => by
      obtain ⟨d, _, rfl⟩ := List.mem_map.mp hc
      unfold toTwo
      split
      · exact .inl rfl
      · exact .inr rfl
    have hall := one_all
    rw [List.all_eq_true] at hall
    have := hall _ hm
    rw [Bool.and_eq_true, beq_iff_eq, beq_iff_eq] at this
    have e0 : toTwo a a = 0 := if_pos rfl
    rw [← m2_ren (f := toTwo a) (fun c _ => toTwo_iff a c) (fun c _ => toTwo_iff a c), ← subB_ren (f := toTwo a) l [a, a] fun c _ b hb => by
      have : b = a := by simpa using hb
      rw [this]; exact toTwo_iff a c]
    show m2 (toTwo a a) (toTwo a a) _ = subB [toTwo a a, toTwo a a] _
    rw [e0]
    exact this.2
  · have hm : l.map (toThree a b) ∈ texts3 5 := texts3_mem 5 _ (by rw [List.length_map, h5]) fun c hc => by
      obtain ⟨d, _, rfl⟩ := List.mem_map.mp hc
      unfold toThree
      split
      · exact .inl rfl
      · split
        · exact .inr (.inl rfl)
        · exact .inr (.inr rfl)
    have hall := two_all
    rw [List.all_eq_true] at hall
    have := hall _ hm
    rw [beq_iff_eq] at this
    have e0 : toThree a b a = 0 := if_pos rfl
    have e1 : toThree a b b = 1 := by unfold toThree; rw [if_neg (Ne.symm hab), if_pos rfl]
    rw [← m2_ren (f := toThree a b) (fun c _ => toThree_a c) (fun c _ => toThree_b hab c), ← subB_ren (f := toThree a b) l [a, b] fun c _ d hd => by
      have : d = a ∨ d = b := by simpa using hd
      rcases this with rfl | rfl
      · exact toThree_a c
      · exact toThree_b hab c]
    show m2 (toThree a b a) (toThree a b b) _ = subB [toThree a b a, toThree a b b] _
    rw [e0, e1]
    exact this
/-- embeddings of a reversed word into reversed bits -/
noncomputable def embR : List Nat → List Nat → Nat
  | _, [] => 1
  | [], _ :: _ => 0
  | b :: bs, a :: r => embR bs (a :: r) + if a = b then embR bs r else 0
noncomputable def emb (bs w : List Nat) : Nat := embR bs w.reverse
theorem emb_nil (bs : List Nat) : emb bs [] = 1 := by
  unfold emb
  cases bs <;> rfl
theorem emb_none (w : List Nat) (h : w ≠ []) : emb [] w = 0 := by
  unfold emb
  cases e : w.reverse with
  | nil => exact absurd (List.reverse_eq_nil_iff.mp e) h
  | cons a r => rfl
theorem emb_snoc (b : Nat) (bs w : List Nat) (a : Nat) : emb (b :: bs) (w ++ [a]) = emb bs (w ++ [a]) + if a = b then emb bs w else 0 := by
  unfold emb
  rw [List.reverse_append]
  rfl
theorem sum_add {f g : List Nat → Nat} : ∀ l : List (List Nat), (l.map fun w => f w + g w).sum = (l.map f).sum + (l.map g).sum
  | [] => rfl
  | w :: r => by
    rw [List.map_cons, List.map_cons, List.map_cons, List.sum_cons, List.sum_cons, List.sum_cons, sum_add r]
    omega
theorem sum_zero {f : List Nat → Nat} : ∀ l : List (List Nat), (∀ w ∈ l, f w = 0) → (l.map f).sum = 0
  | [], _ => rfl
  | w :: r, h => by
    rw [List.map_cons, List.sum_cons, h w (.head _), sum_zero r fun v hv => h v (.tail _ hv)]
theorem sum_if {f : List Nat → Nat} (p : Prop) [Decidable p] (l : List (List Nat)) : (l.map fun w => if p then f w else 0).sum = if p then (l.map f).sum else 0 := by
  by_cases h : p
  · simp [h]
  · rw [if_neg h]
    exact sum_zero l fun w _ => if_neg h
theorem merge_ne {n : Nat} {a b : List Nat} (h : a ++ b ≠ []) : ∀ w ∈ mergeN n a b, w ≠ [] := by
  cases n with
  | zero => intro w hw; rw [List.mem_singleton.mp hw]; exact h
  | succ n =>
    intro w hw
    unfold mergeN at hw
    split at hw
    · rw [List.mem_singleton.mp hw]; exact h
    · rcases List.mem_append.mp hw with hw | hw
      · rcases List.mem_append.mp hw with hw | hw
        · obtain ⟨v, _, rfl⟩ := List.mem_map.mp hw; simp
        · obtain ⟨v, _, rfl⟩ := List.mem_map.mp hw; simp
      · split at hw
        · obtain ⟨v, _, rfl⟩ := List.mem_map.mp hw; simp
        · cases hw
theorem merge_one {n : Nat} {a b : List Nat} (h : a = [] ∨ b = []) : mergeN n a b = [a ++ b] := by
  cases n with
  | zero => rfl
  | succ n => unfold mergeN; rw [if_pos h]
theorem merge_snoc {n : Nat} (ia ib : List Nat) (x y : Nat) : mergeN (n + 1) (ia ++ [x]) (ib ++ [y]) = (mergeN n ia (ib ++ [y])).map (· ++ [x]) ++ (mergeN n (ia ++ [x]) ib).map (· ++ [y]) ++ (if x = y then (mergeN n ia ib).map (· ++ [x]) else []) := by
  conv => lhs; unfold mergeN
  rw [if_neg (by simp), List.dropLast_concat, List.dropLast_concat, List.getLastD_concat, List.getLastD_concat]
theorem emb_merge : ∀ (bs : List Nat) (n : Nat) (a b : List Nat), a.length + b.length ≤ n → ((mergeN n a b).map (emb bs)).sum = emb bs a * emb bs b
  | [], n, a, b, _ => by
    by_cases h : a ++ b = []
    · have ha : a = [] := (List.append_eq_nil_iff.mp h).1
      have hb : b = [] := (List.append_eq_nil_iff.mp h).2
      rw [merge_one (.inl ha), ha, hb]
      rfl
    · rw [sum_zero _ fun w hw => emb_none w (merge_ne h w hw)]
      by_cases ha : a = []
      · have hb : b ≠ [] := fun e => h (by rw [ha, e]; rfl)
        rw [emb_none b hb, Nat.mul_zero]
      · rw [emb_none a ha, Nat.zero_mul]
  | b0 :: bs, n, a, b, hn => by
    by_cases h : a = [] ∨ b = []
    · rw [merge_one h, List.map_cons, List.map_nil, List.sum_cons, List.sum_nil]
      rcases h with rfl | rfl
      · rw [emb_nil, List.nil_append]; omega
      · rw [emb_nil, List.append_nil]; omega
    obtain ⟨ia, x, rfl⟩ : ∃ ia x, a = ia ++ [x] := ⟨a.dropLast, a.getLast (fun e => h (.inl e)), (List.dropLast_concat_getLast _).symm⟩
    obtain ⟨ib, y, rfl⟩ : ∃ ib y, b = ib ++ [y] := ⟨b.dropLast, b.getLast (fun e => h (.inr e)), (List.dropLast_concat_getLast _).symm⟩
    obtain ⟨n, rfl⟩ : ∃ k, n = k + 1 := ⟨n - 1, by simp at hn; omega⟩
    simp only [List.length_append, List.length_singleton] at hn
    have i0 := emb_merge bs (n + 1) (ia ++ [x]) (ib ++ [y]) (by simp; omega)
    have i1 := emb_merge bs n ia (ib ++ [y]) (by simp; omega)
    have i2 := emb_merge bs n (ia ++ [x]) ib (by simp; omega)
    have i3 := emb_merge bs n ia ib (by omega)
    rw [merge_snoc] at i0 ⊢
    simp only [List.map_append, List.sum_append, List.map_map] at i0 ⊢
    have s1 : ∀ (l : List (List Nat)) (z : Nat), (l.map (emb (b0 :: bs) ∘ fun w => w ++ [z])).sum = (l.map (emb bs ∘ fun w => w ++ [z])).sum + if z = b0 then (l.map (emb bs)).sum else 0 := by
      intro l z
      rw [← sum_if, ← sum_add]
      congr 1
      exact List.map_congr_left fun w _ => emb_snoc b0 bs w z
    rw [s1, s1, emb_snoc, emb_snoc, i1, i2]
    by_cases hxy : x = y
    · subst hxy
      rw [if_pos rfl] at i0 ⊢
      rw [List.map_map] at i0 ⊢
      rw [s1, i3]
      by_cases hx : x = b0
      · simp only [if_pos hx]
        rw [Nat.add_mul, Nat.mul_add, Nat.mul_add]
        omega
      · simp only [if_neg hx, Nat.add_zero]
        exact i0
    · rw [if_neg hxy] at i0 ⊢
      simp only [List.map_nil, List.sum_nil, Nat.add_zero] at i0 ⊢
      by_cases hx : x = b0
      · have hy : ¬ y = b0 := fun e => hxy (hx.trans e.symm)
        rw [if_pos hx, if_neg hy, if_pos hx, if_neg hy, Nat.add_zero, Nat.add_zero, Nat.add_mul]
        omega
      · rw [if_neg hx, if_neg hx, Nat.add_zero, Nat.add_zero]
        by_cases hy : y = b0
        · rw [if_pos hy, if_pos hy, Nat.mul_add]
          omega
        · rw [if_neg hy, if_neg hy, Nat.add_zero, Nat.add_zero]
          exact i0
end Mine
end
section
open PySem PySem.Spec PySem.W PySem.Calls PyProof.Rows PyProof.Rows.LCg
set_option maxRecDepth 100000
set_option maxHeartbeats 4000000
namespace Mine
noncomputable def matchF (p : List Nat) (g : Str) : Bool := match p with
  | [a] => m1 a g
  | [a, b] => m2 a b g
  | _ => false
noncomputable def leastOf (ws : List (List Nat)) (p : List Nat) : Nat := leastTo (fun i => (ws.map fun w => matchF p (tx w)).getD i false) 32
noncomputable def cntOf (ws : List (List Nat)) (w : List Nat) : Nat := ((ws.map fun w => tx (leftW w)).filter (· == tx w)).length
/-! the words over the letters 0, 1 and the sign 2 -/
noncomputable def enc (low : Int) (x : Nat) : Nat := (97 + low).toNat + x
noncomputable def absPart (j : Nat) : List Nat := [[0], [1], [0, 0], [0, 1], [1, 0], [1, 1]].getD j []
noncomputable def phi (low : Int) (c : Nat) : Nat := if c = enc low 0 then 0 else if c = enc low 1 then 1 else 2
noncomputable def bitC (c : Int) : Nat := (c.fmod 2).toNat
noncomputable def absFold (bits : List Nat) (ws : List (List Nat)) : List (List Nat) := bits.foldl (fun ws b => ws.map (· ++ [2]) ++ ws.map (· ++ [b])) ws
noncomputable def keptA (w : List Nat) : List Nat := w.filter fun c => c != 2
theorem bit_lt (c : Int) : bitC c = 0 ∨ bitC c = 1 := by
  have := fmod_pos c 2 (by decide)
  unfold bitC
  omega
theorem letter_enc {low : Int} (h0 : 0 ≤ low) (c : Int) : letterC low c = enc low (bitC c) := by
  have := fmod_pos c 2 (by decide)
  unfold letterC enc bitC
  omega
theorem part_abs {low : Int} (h0 : 0 ≤ low) (n : Int) : partN low n = (absPart (n.fmod 6).toNat).map (enc low) := by
  obtain ⟨j, hj, h6⟩ := part_get (low := low) (n := n)
  have e0 : (97 + low).toNat = enc low 0 := rfl
  have e1 : (98 + low).toNat = enc low 1 := by unfold enc; omega
  unfold partN partsN
  rw [hj, e0, e1]
  match j, h6 with
  | 0, _ => rfl
  | 1, _ => rfl
  | 2, _ => rfl
  | 3, _ => rfl
  | 4, _ => rfl
  | 5, _ => rfl
theorem absPart_two (j : Nat) : ∀ c ∈ absPart j, c = 0 ∨ c = 1 := by
  match j with
  | 0 => decide
  | 1 => decide
  | 2 => decide
  | 3 => decide
  | 4 => decide
  | 5 => decide
  | n + 6 => intro c h; cases h
theorem enc_ne (low : Int) : enc low 1 ≠ enc low 0 := by unfold enc; omega
theorem phi_enc (low : Int) {x : Nat} (h : x = 0 ∨ x = 1) : phi low (enc low x) = x := by
  unfold phi
  rcases h with rfl | rfl
  · rw [if_pos rfl]
  · rw [if_neg (enc_ne low), if_pos rfl]
theorem phi_iff (low : Int) {x : Nat} (h : x = 0 ∨ x = 1) (c : Nat) : phi low c = phi low (enc low x) ↔ c = enc low x := by
  rw [phi_enc low h]
  unfold phi
  have := enc_ne low
  by_cases e0 : c = enc low 0
  · rw [if_pos e0]
    rcases h with rfl | rfl
    · exact ⟨fun _ => e0, fun _ => rfl⟩
    · exact ⟨fun z => absurd z (by decide), fun z => absurd (z.symm.trans e0) this⟩
  · rw [if_neg e0]
    by_cases e1 : c = enc low 1
    · rw [if_pos e1]
      rcases h with rfl | rfl
      · exact ⟨fun z => absurd z (by decide), fun z => absurd z e0⟩
      · exact ⟨fun _ => e1, fun _ => rfl⟩
    · rw [if_neg e1]
      rcases h with rfl | rfl
      · exact ⟨fun z => absurd z (by decide), fun z => absurd z e0⟩
      · exact ⟨fun z => absurd z (by decide), fun z => absurd z e1⟩
theorem gone_all : ∀ k : Fin 27, goneB (if k.val < 11 then signs.getD k.val 0 else 65013 + k.val) = true ∧ 122 < (if k.val < 11 then signs.getD k.val 0 else 65013 + k.val) := by decide +kernel
theorem stay_all : ∀ k : Fin 26, goneB (97 + k.val) = false := by decide +kernel
theorem gone_is (t : Int) : goneB (goneC t) = true ∧ 122 < goneC t := by
  have hf := fmod_pos t 27 (by decide)
  have h := gone_all ⟨(t.fmod 27).toNat, by omega⟩
  have e : goneC t = if (t.fmod 27).toNat < 11 then signs.getD (t.fmod 27).toNat 0 else 65013 + (t.fmod 27).toNat := by
    unfold goneC
    by_cases h : t.fmod 27 < 11
    · rw [if_pos h, if_pos (by omega)]
    · rw [if_neg h, if_neg (by omega)]
      omega
  rw [e]
  exact h
theorem enc_le {low : Int} (h0 : 0 ≤ low) (h1 : low < 25) {x : Nat} (h : x = 0 ∨ x = 1) : enc low x ≤ 122 ∧ goneB (enc low x) = false := by
  have e : enc low x = 97 + (low.toNat + x) := by unfold enc; omega
  rw [e]
  exact ⟨by omega, stay_all ⟨low.toNat + x, by omega⟩⟩
theorem phi_gone {low : Int} (h0 : 0 ≤ low) (h1 : low < 25) (t : Int) : phi low (goneC t) = 2 := by
  have := (gone_is t).2
  have a := (enc_le h0 h1 (.inl rfl)).1
  have b := (enc_le h0 h1 (.inr rfl)).1
  unfold phi
  rw [if_neg (by omega), if_neg (by omega)]
theorem phi_letter {low : Int} (h0 : 0 ≤ low) (c : Int) : phi low (letterC low c) = bitC c := by
  rw [letter_enc h0, phi_enc low (bit_lt c)]
theorem choices_abs {low : Int} (h0 : 0 ≤ low) (h1 : low < 25) : ∀ (cs : List Int) (ws : List (List Nat)), (choicesN low cs ws).map (·.map (phi low)) = absFold (cs.map bitC) (ws.map (·.map (phi low)))
  | [], ws => rfl
  | c :: r, ws => by
    show (choicesN low r (stepC low c ws)).map _ = absFold (r.map bitC) ((ws.map (·.map (phi low))).map (· ++ [2]) ++ (ws.map (·.map (phi low))).map (· ++ [bitC c]))
    rw [choices_abs h0 h1 r]
    unfold stepC
    rw [List.map_append, List.map_map, List.map_map, List.map_map, List.map_map]
    congr 2
    · refine List.map_congr_left fun w _ => ?_
      show (w ++ [_]).map _ = w.map _ ++ [2]
      rw [List.map_append, List.map_cons, List.map_nil, phi_gone h0 h1]
    · refine List.map_congr_left fun w _ => ?_
      show (w ++ [_]).map _ = w.map _ ++ [bitC c]
      rw [List.map_append, List.map_cons, List.map_nil, phi_letter h0]
noncomputable def OkC (low : Int) (c : Nat) : Prop := (phi low c = 2 ∧ goneB c = true) ∨ ∃ x, (x = 0 ∨ x = 1) ∧ c = enc low x
theorem choices_ok {low : Int} (h0 : 0 ≤ low) (h1 : low < 25) : ∀ (cs : List Int) (ws : List (List Nat)), (∀ w ∈ ws, ∀ c ∈ w, OkC low c) → ∀ w ∈ choicesN low cs ws, ∀ c ∈ w, OkC low c
  | [], ws, h => h
  | c :: r, ws, h => by
    refine choices_ok h0 h1 r (stepC low c ws) ?_
    intro w hw d hd
    rcases List.mem_append.mp hw with hw | hw
    · obtain ⟨v, hv, rfl⟩ := List.mem_map.mp hw
      rcases List.mem_append.mp hd with hd | hd
      · exact h v hv d hd
      · rw [List.mem_singleton.mp hd]
        exact .inl ⟨phi_gone h0 h1 _, (gone_is _).1⟩
    · obtain ⟨v, hv, rfl⟩ := List.mem_map.mp hw
      rcases List.mem_append.mp hd with hd | hd
      · exact h v hv d hd
      · rw [List.mem_singleton.mp hd]
        exact .inr ⟨_, bit_lt c, letter_enc h0 c⟩
theorem left_abs {low : Int} (h0 : 0 ≤ low) (h1 : low < 25) : ∀ w : List Nat, (∀ c ∈ w, OkC low c) → leftW w = (keptA (w.map (phi low))).map (enc low)
  | [], _ => rfl
  | c :: r, h => by
    have ih := left_abs h0 h1 r fun d hd => h d (.tail _ hd)
    rcases h c (.head _) with ⟨hp, hg⟩ | ⟨x, hx, rfl⟩
    · show List.filter _ (c :: r) = (List.filter _ (phi low c :: r.map (phi low))).map _
      rw [List.filter_cons_of_neg (by rw [hg]; decide), List.filter_cons_of_neg (by rw [hp]; decide)]
      exact ih
    · show List.filter _ (enc low x :: r) = (List.filter _ (phi low (enc low x) :: r.map (phi low))).map _
      rw [phi_enc low hx, List.filter_cons_of_pos (by rw [(enc_le h0 h1 hx).2]; rfl), List.filter_cons_of_pos (by rcases hx with rfl | rfl <;> decide)]
      rw [List.map_cons]
      congr 1
/-! the left of the last word -/
theorem choices_last (low : Int) : ∀ (cs : List Int) (ws : List (List Nat)) (w : List Nat), ws.getLast? = some w → (choicesN low cs ws).getLast? = some (w ++ cs.map (letterC low))
  | [], ws, w, h => by rw [List.map_nil, List.append_nil]; exact h
  | c :: r, ws, w, h => by
    show (choicesN low r (stepC low c ws)).getLast? = _
    have hs : (stepC low c ws).getLast? = some (w ++ [letterC low c]) := by
      unfold stepC
      rw [List.getLast?_append, List.getLast?_map, h]
      rfl
    rw [choices_last low r _ _ hs, List.map_cons, List.append_assoc]
    rfl
theorem left_last {low : Int} {cs : List Int} (h5 : cs.length = 5) (h0 : 0 ≤ low) (h1 : low < 25) : ((choicesN low cs [[]]).map fun w => tx (leftW w))[31]? = some (tx (cs.map (letterC low))) := by
  have hl : (choicesN low cs [[]]).length = 32 := by
    rw [choicesN_length, h5]
    rfl
  have e := choices_last low cs [[]] [] rfl
  rw [List.getLast?_eq_getElem?, hl] at e
  rw [List.getElem?_map, e]
  show some (tx (leftW (cs.map (letterC low)))) = _
  congr 3
  refine List.filter_eq_self.mpr fun c hc => ?_
  obtain ⟨d, _, rfl⟩ := List.mem_map.mp hc
  rw [letter_enc h0, (enc_le h0 h1 (bit_lt d)).2]
  rfl
end Mine
end
section
open PySem PySem.Spec PySem.W PySem.Calls PyProof.Rows PyProof.Rows.LCg
set_option maxRecDepth 100000
set_option maxHeartbeats 4000000
namespace Mine
noncomputable def maskOf : List Bool → Nat
  | [] => 0
  | b :: r => (if b then 1 else 0) + 2 * maskOf r
theorem mask_bit : ∀ (l : List Bool) (i : Nat), (maskOf l).testBit i = l.getD i false
  | [], i => by
    show (0 : Nat).testBit i = _
    rw [Nat.zero_testBit]
    simp
  | b :: r, 0 => by
    rw [Nat.testBit_zero]
    show decide (((if b then 1 else 0) + 2 * maskOf r) % 2 = 1) = b
    cases b
    · simp
    · simp
  | b :: r, i + 1 => by
    rw [Nat.testBit_succ]
    have e : maskOf (b :: r) / 2 = maskOf r := by
      show ((if b then 1 else 0) + 2 * maskOf r) / 2 = _
      cases b
      · simp
      · simp; omega
    rw [e, mask_bit r i]
    rfl
noncomputable def leastA (bits : List Nat) (j : Nat) : Nat := leastTo (maskOf ((absFold bits [[]]).map (subB (absPart j)))).testBit 32
theorem least_all : ((texts2 5).all fun bits => [0, 1, 2, 3, 4, 5].all fun j => leastA bits j == emb bits.reverse (absPart j)) = true := by decide +kernel
end Mine
end
section
open PySem PySem.Spec PySem.W PySem.Calls PyProof.Rows PyProof.Rows.LCg
set_option maxRecDepth 100000
set_option maxHeartbeats 4000000
namespace Mine
theorem match_sub {low : Int} (j : Nat) (h6 : j < 6) {w : List Nat} (h5 : w.length = 5) : matchF ((absPart j).map (enc low)) (tx w) = subB (absPart j) (w.map (phi low)) := by
  have e : matchF ((absPart j).map (enc low)) (tx w) = subB ((absPart j).map (enc low)) w := by
    match j, h6 with
    | 0, _ => exact m1_sub h5 _
    | 1, _ => exact m1_sub h5 _
    | 2, _ => exact m2_sub h5 _ _
    | 3, _ => exact m2_sub h5 _ _
    | 4, _ => exact m2_sub h5 _ _
    | 5, _ => exact m2_sub h5 _ _
  rw [e, ← subB_ren (f := phi low) w _ fun c _ a ha => by
    obtain ⟨x, hx, rfl⟩ := List.mem_map.mp ha
    exact phi_iff low (absPart_two j x hx) c]
  rw [List.map_map]
  congr 1
  conv => rhs; rw [← List.map_id (absPart j)]
  exact List.map_congr_left fun x hx => phi_enc low (absPart_two j x hx)
theorem bits_mem {cs : List Int} (h5 : cs.length = 5) : cs.map bitC ∈ texts2 5 := texts2_mem 5 _ (by rw [List.length_map, h5]) fun c hc => by
  obtain ⟨d, _, rfl⟩ := List.mem_map.mp hc
  exact bit_lt d
theorem least_emb {low : Int} (h0 : 0 ≤ low) (h1 : low < 25) {cs : List Int} (h5 : cs.length = 5) (n : Int) : leastOf (choicesN low cs [[]]) (partN low n) = emb (cs.map bitC).reverse (absPart (n.fmod 6).toNat) := by
  obtain ⟨j, hj, h6⟩ := part_get (low := low) (n := n)
  rw [part_abs h0, hj]
  have ha := least_all
  rw [List.all_eq_true] at ha
  have hb := ha _ (bits_mem h5)
  rw [List.all_eq_true] at hb
  have hc := hb j (by match j, h6 with
    | 0, _ => decide
    | 1, _ => decide
    | 2, _ => decide
    | 3, _ => decide
    | 4, _ => decide
    | 5, _ => decide)
  rw [beq_iff_eq] at hc
  rw [← hc]
  unfold leastOf leastA
  congr 1
  funext i
  rw [mask_bit]
  congr 1
  have e := choices_abs h0 h1 cs [[]]
  rw [show ([[]] : List (List Nat)).map (·.map (phi low)) = [[]] from rfl] at e
  rw [← e, List.map_map]
  refine List.map_congr_left fun w hw => ?_
  exact match_sub j h6 (by rw [choicesN_len low cs [[]] 0 (fun v hv => by rw [List.mem_singleton.mp hv]; rfl) w hw, h5])
/-! how often a word is left -/
noncomputable def cntA (ws : List (List Nat)) (x : List Nat) : Nat := (ws.filter fun w => keptA w == x).length
theorem kept_two (w : List Nat) : keptA (w ++ [2]) = keptA w := by
  unfold keptA
  rw [List.filter_append]
  exact List.append_nil _
theorem kept_bit (w : List Nat) {b : Nat} (h : b ≠ 2) : keptA (w ++ [b]) = keptA w ++ [b] := by
  unfold keptA
  rw [List.filter_append, List.filter_cons_of_pos (by rw [bne_iff_ne]; exact h)]
  rfl
theorem absFold_snoc (bits : List Nat) (b : Nat) (ws : List (List Nat)) : absFold (bits ++ [b]) ws = (absFold bits ws).map (· ++ [2]) ++ (absFold bits ws).map (· ++ [b]) := by
  unfold absFold
  rw [List.foldl_append]
  rfl
theorem cnt_emb : ∀ (rb : List Nat), (∀ b ∈ rb, b ≠ 2) → ∀ x, cntA (absFold rb.reverse [[]]) x = emb rb x
  | [], _, x => by
    show (List.filter (fun w => keptA w == x) [[]]).length = _
    by_cases h : x = []
    · subst h; rfl
    · rw [emb_none x h, List.filter_cons_of_neg (by rw [beq_iff_eq]; exact fun e => h e.symm)]
      rfl
  | b :: rb, hb, x => by
    have ih := cnt_emb rb fun c hc => hb c (.tail _ hc)
    rw [List.reverse_cons, absFold_snoc]
    unfold cntA at ih ⊢
    rw [List.filter_append, List.length_append, List.filter_map, List.filter_map, List.length_map, List.length_map]
    have e1 : ((fun w => keptA w == x) ∘ fun w => w ++ [2]) = fun w => keptA w == x := by
      funext w
      show (keptA (w ++ [2]) == x) = _
      rw [kept_two]
    rw [e1, ih x]
    by_cases h : x = []
    · subst h
      rw [emb_nil, emb_nil]
      have : List.filter ((fun w => keptA w == []) ∘ fun w => w ++ [b]) (absFold rb.reverse [[]]) = [] := by
        refine List.filter_eq_nil_iff.mpr fun w _ e => ?_
        have e : keptA (w ++ [b]) = [] := beq_iff_eq.mp e
        rw [kept_bit w (hb b (.head _))] at e
        simp at e
      rw [this]
      rfl
    · obtain ⟨y, a, rfl⟩ : ∃ y a, x = y ++ [a] := ⟨x.dropLast, x.getLast h, (List.dropLast_concat_getLast _).symm⟩
      rw [emb_snoc]
      congr 1
      by_cases hab : a = b
      · subst hab
        rw [if_pos rfl, ← ih y]
        congr 2
        funext w
        show (keptA (w ++ [a]) == y ++ [a]) = _
        rw [kept_bit w (hb a (.head _))]
        by_cases e : keptA w = y
        · rw [e, beq_self_eq_true, beq_self_eq_true]
        · rw [beq_eq_false_iff_ne.mpr e, beq_eq_false_iff_ne.mpr fun z => e (List.append_cancel_right z)]
      · rw [if_neg hab]
        have : List.filter ((fun w => keptA w == y ++ [a]) ∘ fun w => w ++ [b]) (absFold rb.reverse [[]]) = [] := by
          refine List.filter_eq_nil_iff.mpr fun w _ e => ?_
          have e : keptA (w ++ [b]) = y ++ [a] := beq_iff_eq.mp e
          rw [kept_bit w (hb b (.head _))] at e
          have := List.append_inj_right' e rfl
          exact hab (List.head_eq_of_cons_eq this).symm
        rw [this]
        rfl
theorem enc_inj (low : Int) {a b : List Nat} (h : a.map (enc low) = b.map (enc low)) : a = b := by
  have : Function.Injective (enc low) := fun x y e => by unfold enc at e; omega
  exact (List.map_inj_right fun _ _ e => this e).mp h
theorem cnt_is {low : Int} (h0 : 0 ≤ low) (h1 : low < 25) (cs : List Int) (x : List Nat) : cntOf (choicesN low cs [[]]) (x.map (enc low)) = emb (cs.map bitC).reverse x := by
  have hb : ∀ b ∈ (cs.map bitC).reverse, b ≠ 2 := fun b hb => by
    obtain ⟨c, _, rfl⟩ := List.mem_map.mp (List.mem_reverse.mp hb)
    have := bit_lt c
    omega
  rw [← cnt_emb _ hb, List.reverse_reverse]
  have e := choices_abs h0 h1 cs [[]]
  rw [show ([[]] : List (List Nat)).map (·.map (phi low)) = [[]] from rfl] at e
  unfold cntOf cntA
  rw [← e, List.filter_map, List.length_map, List.filter_map, List.length_map]
  congr 1
  refine List.filter_congr fun w hw => ?_
  have ok := choices_ok h0 h1 cs [[]] (fun v hv c hc => by rw [List.mem_singleton.mp hv] at hc; cases hc) w hw
  show (tx (leftW w) == tx (x.map (enc low))) = (keptA (w.map (phi low)) == x)
  rw [left_abs h0 h1 w ok]
  by_cases h : keptA (w.map (phi low)) = x
  · rw [h, beq_self_eq_true, beq_self_eq_true]
  · rw [beq_eq_false_iff_ne.mpr h, beq_eq_false_iff_ne.mpr fun z => h (enc_inj low (tx_inj z))]
theorem merge_map (low : Int) : ∀ (n : Nat) (a b : List Nat), mergeN n (a.map (enc low)) (b.map (enc low)) = (mergeN n a b).map (·.map (enc low))
  | 0, a, b => by
    show [a.map _ ++ b.map _] = [(a ++ b).map _]
    rw [List.map_append]
  | n + 1, a, b => by
    by_cases h : a = [] ∨ b = []
    · rw [merge_one h, merge_one (h.imp (fun e => by rw [e]; rfl) fun e => by rw [e]; rfl), List.map_cons, List.map_nil, List.map_append]
    · obtain ⟨ia, x, rfl⟩ : ∃ ia x, a = ia ++ [x] := ⟨a.dropLast, a.getLast (fun e => h (.inl e)), (List.dropLast_concat_getLast _).symm⟩
      obtain ⟨ib, y, rfl⟩ : ∃ ib y, b = ib ++ [y] := ⟨b.dropLast, b.getLast (fun e => h (.inr e)), (List.dropLast_concat_getLast _).symm⟩
      have hm : ∀ (l : List Nat) (z : Nat), (l ++ [z]).map (enc low) = l.map (enc low) ++ [enc low z] := fun l z => by rw [List.map_append]; rfl
      have i1 := merge_map low n ia (ib ++ [y])
      have i2 := merge_map low n (ia ++ [x]) ib
      have i3 := merge_map low n ia ib
      rw [hm] at i1 i2
      rw [hm, hm, merge_snoc, merge_snoc, i1, i2, i3]
      have hs : ∀ (l : List (List Nat)) (z : Nat), (l.map (·.map (enc low))).map (· ++ [enc low z]) = (l.map (· ++ [z])).map (·.map (enc low)) := fun l z => by
        rw [List.map_map, List.map_map]
        refine List.map_congr_left fun w _ => (hm w z).symm
      rw [hs, hs, hs, List.map_append, List.map_append]
      congr 1
      by_cases hxy : x = y
      · rw [if_pos hxy, if_pos (by rw [hxy])]
      · rw [if_neg hxy, if_neg fun e => hxy (by unfold enc at e; omega)]
        rfl
theorem sum_cast (f : List Nat → Nat) : ∀ l : List (List Nat), (l.map fun w => (f w : Int)).sum = (((l.map f).sum : Nat) : Int)
  | [] => rfl
  | w :: r => by
    rw [List.map_cons, List.sum_cons, sum_cast f r, List.map_cons, List.sum_cons, Int.natCast_add]
theorem law_eq {low : Int} (h0 : 0 ≤ low) (h1 : low < 25) {cs : List Int} (h5 : cs.length = 5) (a b : Int) :
    (leastOf (choicesN low cs [[]]) (partN low a) : Int) * (leastOf (choicesN low cs [[]]) (partN low b) : Int) = ((mergeN 4 (partN low a) (partN low b)).map fun w => (cntOf (choicesN low cs [[]]) w : Int)).sum := by
  rw [least_emb h0 h1 h5, least_emb h0 h1 h5, part_abs h0, part_abs h0, merge_map, sum_cast, List.map_map]
  rw [show (cntOf (choicesN low cs [[]]) ∘ fun w => w.map (enc low)) = emb (cs.map bitC).reverse from funext fun x => cnt_is h0 h1 cs x]
  rw [emb_merge, Int.natCast_mul]
  obtain ⟨i, hi, hi6⟩ := part_get (low := low) (n := a)
  obtain ⟨j, hj, hj6⟩ := part_get (low := low) (n := b)
  have hp : ∀ i, i < 6 → (absPart i).length ≤ 2 := fun i h => by
    match i, h with
    | 0, _ => decide
    | 1, _ => decide
    | 2, _ => decide
    | 3, _ => decide
    | 4, _ => decide
    | 5, _ => decide
  rw [hi, hj]
  have := hp i hi6
  have := hp j hj6
  omega
end Mine
end
section
open PySem PySem.Spec PySem.W PySem.Calls PyProof.Rows PyProof.Rows.LCg
set_option maxRecDepth 100000
set_option maxHeartbeats 4000000
namespace Mine
theorem want1 (c : Nat) : wantE [c] = ⟨#[46, 46, 46, c, 46, 46, 46]⟩ := by
  have e : Str.ofString "..." = ⟨#[46, 46, 46]⟩ := by kernel_rfl
  unfold wantE
  rw [e]
  rfl
theorem want2 (a b : Nat) : wantE [a, b] = ⟨#[46, 46, 46, a, 46, 46, 46, b, 46, 46, 46]⟩ := by
  have e : Str.ofString "..." = ⟨#[46, 46, 46]⟩ := by kernel_rfl
  unfold wantE
  rw [e]
  rfl
noncomputable def ok1 (c : Nat) : Bool := (Txt.split ⟨#[46,46,46,c,46,46,46]⟩ ⟨#[46,46,46]⟩ == [⟨#[]⟩, ⟨#[c]⟩, ⟨#[]⟩]) && (PySem.Builtin.Str.occurrences ⟨#[46,46,46,c,46,46,46]⟩ (Str.ofString "...") 0 (⟨#[46,46,46,c,46,46,46]⟩ : Str).length 1).isEmpty == false
noncomputable def ok2 (a b : Nat) : Bool := (Txt.split ⟨#[46,46,46,a,46,46,46,b,46,46,46]⟩ ⟨#[46,46,46]⟩ == [⟨#[]⟩, ⟨#[a]⟩, ⟨#[b]⟩, ⟨#[]⟩]) && (PySem.Builtin.Str.occurrences ⟨#[46,46,46,a,46,46,46,b,46,46,46]⟩ (Str.ofString "...") 0 (⟨#[46,46,46,a,46,46,46,b,46,46,46]⟩ : Str).length 1).isEmpty == false
theorem ok1_all : ∀ k : Fin 26, ok1 (97 + k.val) = true := by decide +kernel
theorem ok2_all : ∀ k : Fin 25, (ok2 (97 + k.val) (97 + k.val) && ok2 (97 + k.val) (97 + k.val + 1) && ok2 (97 + k.val + 1) (97 + k.val) && ok2 (97 + k.val + 1) (97 + k.val + 1)) = true := by decide +kernel
theorem ok1_enc {low : Int} (h0 : 0 ≤ low) (h1 : low < 25) {x : Nat} (h : x = 0 ∨ x = 1) : ok1 (enc low x) = true := by
  have e : enc low x = 97 + (low.toNat + x) := by unfold enc; omega
  rw [e]
  exact ok1_all ⟨low.toNat + x, by omega⟩
theorem ok2_enc {low : Int} (h0 : 0 ≤ low) (h1 : low < 25) {x y : Nat} (h : x = 0 ∨ x = 1) (k : y = 0 ∨ y = 1) : ok2 (enc low x) (enc low y) = true := by
  have e0 : enc low 0 = 97 + low.toNat := by unfold enc; omega
  have e1 : enc low 1 = 97 + low.toNat + 1 := by unfold enc; omega
  have := ok2_all ⟨low.toNat, by omega⟩
  simp only [Bool.and_eq_true] at this
  obtain ⟨⟨⟨p, q⟩, r⟩, s⟩ := this
  rcases h with rfl | rfl <;> rcases k with rfl | rfl
  · rw [e0]; exact p
  · rw [e0, e1]; exact q
  · rw [e0, e1]; exact r
  · rw [e1]; exact s
theorem match_one {c : Nat} (h : ok1 c = true) (w : World) (mean : ExcName → Option Value) (mg mb : Str → Option Value) : MatchAt w mean mg mb (wantE [c]) (matchF [c]) := by
  intro g t u news
  unfold ok1 at h
  rw [Bool.and_eq_true, beq_iff_eq, beq_iff_eq] at h
  have M := match1_spec rfl w mean mg mb c g t u news
  rw [want1]
  intro dp un gd cn cs a ccd cl outer A₀ base h₀ L m s Q E B F X N T hk hp hd hu hr
  exact M dp un gd cn cs a ccd cl outer A₀ base h₀ L m s Q E B F X N T hk ⟨h.1, h.2, hp⟩ hd hu hr
theorem match_two {a b : Nat} (h : ok2 a b = true) (w : World) (mean : ExcName → Option Value) (mg mb : Str → Option Value) : MatchAt w mean mg mb (wantE [a, b]) (matchF [a, b]) := by
  intro g t u news
  unfold ok2 at h
  rw [Bool.and_eq_true, beq_iff_eq, beq_iff_eq] at h
  have M := match2_spec rfl w mean mg mb a b g t u news
  rw [want2]
  intro dp un gd cn cs a ccd cl outer A₀ base h₀ L m s Q E B F X N T hk hp hd hu hr
  exact M dp un gd cn cs a ccd cl outer A₀ base h₀ L m s Q E B F X N T hk ⟨h.1, h.2, hp⟩ hd hu hr
theorem match_at {low n : Int} (h0 : 0 ≤ low) (h1 : low < 25) (w : World) (mean : ExcName → Option Value) (mg mb : Str → Option Value) : MatchAt w mean mg mb (wantE (partN low n)) (matchF (partN low n)) := by
  obtain ⟨j, hj, h6⟩ := part_get (low := low) (n := n)
  rw [part_abs h0, hj]
  match j, h6 with
  | 0, _ => exact match_one (ok1_enc h0 h1 (.inl rfl)) w mean mg mb
  | 1, _ => exact match_one (ok1_enc h0 h1 (.inr rfl)) w mean mg mb
  | 2, _ => exact match_two (ok2_enc h0 h1 (.inl rfl) (.inl rfl)) w mean mg mb
  | 3, _ => exact match_two (ok2_enc h0 h1 (.inl rfl) (.inr rfl)) w mean mg mb
  | 4, _ => exact match_two (ok2_enc h0 h1 (.inr rfl) (.inl rfl)) w mean mg mb
  | 5, _ => exact match_two (ok2_enc h0 h1 (.inr rfl) (.inr rfl)) w mean mg mb
end Mine
end
section
open PySem PySem.Spec PySem.W PySem.Calls PyProof.Rows PyProof.Rows.LCg
set_option maxRecDepth 100000
set_option maxHeartbeats 4000000
namespace Mine
theorem ones_fit {l : List Nat} (h : l.length ≤ 5) : ((l.map oneT).map (·.length)).sum + (l.map oneT).length * (Str.ofString "").length ≤ 16777216 := by
  have e : ((l.map oneT).map (·.length)).sum = l.length := by
    clear h
    induction l with
    | nil => rfl
    | cons a r ih =>
      rw [List.map_cons, List.map_cons, List.sum_cons, ih, List.length_cons]
      show 1 + r.length = _
      omega
  have e2 : (Str.ofString "").length = 0 := by rw [str_nil]; rfl
  rw [e, e2]
  omega
theorem lettR_hi {low n : Int} {t th : Tok} {tk : Nat} (h : n.fmod 2 ≠ 0) : LettR low (.int n t) (.str ⟨#[(98 + low).toNat]⟩ th) tk := fun n' t' e => by
  injection e with e1 _
  subst e1
  exact ⟨th, by rw [letter_hi h]⟩
theorem lettR_lo {low n : Int} {t th : Tok} {tk : Nat} (h : n.fmod 2 = 0) : LettR low (.int n t) (.str ⟨#[(97 + low).toNat]⟩ th) tk := fun n' t' e => by
  injection e with e1 _
  subst e1
  exact ⟨th, by rw [letter_lo h]⟩
theorem partR_of {low n : Int} {t t1 t2 t3 t4 t5 t6 : Tok} {tk : Nat} : PartR low (.int n t)
    ([Value.str ⟨#[(97 + low).toNat]⟩ t1, .str ⟨#[(98 + low).toNat]⟩ t2, .str ((⟨#[(97 + low).toNat]⟩ : Str) ++ ⟨#[(97 + low).toNat]⟩) t3, .str ((⟨#[(97 + low).toNat]⟩ : Str) ++ ⟨#[(98 + low).toNat]⟩) t4, .str ((⟨#[(98 + low).toNat]⟩ : Str) ++ ⟨#[(97 + low).toNat]⟩) t5, .str ((⟨#[(98 + low).toNat]⟩ : Str) ++ ⟨#[(98 + low).toNat]⟩) t6].getD (n.fmod 6).toNat .none) tk := fun n' t' e => by
  injection e with e1 _
  subst e1
  obtain ⟨j, hj, h6⟩ := part_get (low := low) (n := n)
  unfold partN partsN
  rw [hj]
  match j, h6 with
  | 0, _ => exact ⟨t1, rfl⟩
  | 1, _ => exact ⟨t2, rfl⟩
  | 2, _ => exact ⟨t3, rfl⟩
  | 3, _ => exact ⟨t4, rfl⟩
  | 4, _ => exact ⟨t5, rfl⟩
  | 5, _ => exact ⟨t6, rfl⟩
section
variable {w : World} {A : Around} {E : Value → Shared → Prop} {s : Shared} {h₀ : Heap} {L : Addr} {news : List (Addr × Obj)} {Q : Value → Shared → Prop} {value slice : Expr}
theorem tup_item {T : Addr} {l : List Value} {k : Nat} {n : Int} {u : Tok} (N : News h₀ L s.heap news) (hm : (T, ({ cls := .type "tuple", data := .seq l.toArray k } : Obj)) ∈ news) (h6 : l.length = 6) (hq : Q (l.getD (n.fmod 6).toNat .none) s)
    (hs : subscripted slice false (.ref T) (.int (n.fmod 6) u) = operate [.ref T, .int (n.fmod 6) u] (getItem (.ref T) (.int (n.fmod 6) u))) :
    wpAny (model pw w) A (subscriptTail value slice (.ref T) (.int (n.fmod 6) u)) Q E s := by
  have hf := fmod_pos n 6 (by decide)
  refine item_tupleT (l := l) ⟨_, (N _ hm).1, rfl, _, rfl⟩ (by omega) (by omega) (by rw [h6]; exact six_idx) (x := l.getD (n.fmod 6).toNat .none) ?_ hq hs
  rw [List.getD_eq_getElem?_getD, List.getElem?_eq_getElem (by omega)]
  rfl
theorem in_none {D : Addr} {ys : List Value} {ns : List Int} {k : Nat} (N : News h₀ L s.heap news) (hm : (D, lsn ys k) ∈ news) (hy : IntsAre ys ns) (hq : Q (.bool false) s) : wpAny (model pw w) A (compareOp .In .none (.ref D)) Q E s := by
  refine PySem.SeqAt.in_listAt (items := ys.toArray) (fun _ => false) ⟨_, (N _ hm).1, rfl, _, rfl⟩ (fun y hy' => ?_) ?_
  · obtain ⟨n, t, rfl, _⟩ := ints_mem2 hy (List.mem_toArray.mp hy')
    exact PySem.SeqAt.EqAt.int_none n t
  · have e : ys.toArray.any (fun _ => false) = false := by simp
    rw [e]
    exact hq
theorem eq_int_true {a b : Int} {t u : Tok} (e : a = b) (hq : Q (.bool true) s) : wpAny (model pw w) A (compareOp .Eq (.int a t) (.int b u)) Q E s := by
  refine eq_int ?_
  rw [e, beq_self_eq_true]
  exact hq
end
noncomputable def CountR (ws : List (List Nat)) (v y : Value) (_ : Nat) : Prop := ∀ p t, v = .str (tx p) t → ∃ t', y = .int (leastOf ws p : Int) t'
theorem countR_of {ws : List (List Nat)} {p : List Nat} {t t' : Tok} {tk : Nat} : CountR ws (.str (tx p) t) (.int (leastOf ws p : Int) t') tk := fun p' t e => by
  injection e with e1 _
  rw [← tx_inj e1]
  exact ⟨t', rfl⟩
noncomputable def CntR (ws : List (List Nat)) (v y : Value) (_ : Nat) : Prop := ∀ p t, v = .str (tx p) t → ∃ t', y = .int (cntOf ws p : Int) t'
theorem cntR_of {ws : List (List Nat)} {p : List Nat} {t t' : Tok} {tk : Nat} : CntR ws (.str (tx p) t) (.int (cntOf ws p : Int) t') tk := fun p' t e => by
  injection e with e1 _
  rw [← tx_inj e1]
  exact ⟨t', rfl⟩
theorem cnts_are {lo : Nat} {ws vs0 : List (List Nat)} {vs : List Value} (h : WordsAre lo vs0 vs) {tk : Nat} : ∀ {ys : List Value}, Paired (fun v y => CntR ws v y tk) (vs.filter fun _ => true) ys → IntsAre ys (vs0.map fun w => (cntOf ws w : Int)) := by
  have e : vs.filter (fun _ => true) = vs := List.filter_eq_self.mpr fun _ _ => rfl
  rw [e]
  clear e
  unfold WordsAre at h
  induction h with
  | nil => intro ys p; cases p; exact .nil
  | cons f _ ih =>
    intro ys p
    cases p with
    | cons q r =>
      obtain ⟨t, rfl, _⟩ := f
      obtain ⟨t', rfl⟩ := q _ _ rfl
      exact .cons _ _ (ih r)
theorem use_least {w : World} {mean : ExcName → Option Value} {mg mb : Str → Option Value} {D k : Nat} {vs : List Value} {ws : List (List Nat)} {p : List Nat} {t : Tok} {news : List (Addr × Obj)} {dp un : Nat} {gd : Option (List Code)} {cn : Str} {cs : Scope} {a : Addr} {ccd : Value} {cl : List (Str × Addr)} {outer : List Env} {A₀ : Around} {base h₀ : Heap} {L : Addr} {m : Str → Option Value} {s : Shared} {Q E : Value → Shared → Prop}
    (B : Below A₀ base outer h₀) (F : Fr h₀ L s.heap m) (X : (kpart w.params).In h₀) (N : News h₀ L s.heap news) (T : Top qv (looseW qv looseN) mean mg mb h₀) (hk : cs.kind = .function) (hm : (D, lsn vs k) ∈ news) (hw : WordsAre 0 ws vs) (h32 : ws.length = 32) (hl : ∀ w ∈ ws, w.length = 5) (hp : p.length ≤ 2) (hM : MatchAt w mean mg mb (wantE p) (matchF p)) (hd : dp + 3 < recursionLimit) (hu : un + 8 * 3 < cLine)
    (hq : ∀ t' h' tk', Fr h₀ L h' m → News h₀ L h' news → Q (.int (leastOf ws p : Int) t') { s with heap := h', toks := tk' }) :
    wpAny (model pw w) (ktrTop dp un gd cn cs L a ccd cl outer) (call (.ref 151) [.str (tx p) t, .ref D]) Q E s := by
  refine use_J (least_spec rfl w mean mg mb D k vs ws p (matchF p) t news) B F X N T hk ⟨hm, hw, h32, fun w h => by rw [hl w h]; decide, hp, hM⟩ hd hu ?_
  rintro v h' tk' ⟨t', rfl⟩ F' N'
  exact hq t' h' tk' F' N'
theorem use_count {w : World} {mean : ExcName → Option Value} {mg mb : Str → Option Value} {D k : Nat} {vs : List Value} {ws : List (List Nat)} {x : List Nat} {t : Tok} {T0 : Nat} {news : List (Addr × Obj)} {dp un : Nat} {gd : Option (List Code)} {cn : Str} {cs : Scope} {a : Addr} {ccd : Value} {cl : List (Str × Addr)} {outer : List Env} {A₀ : Around} {base h₀ : Heap} {L : Addr} {m : Str → Option Value} {s : Shared} {Q E : Value → Shared → Prop}
    (B : Below A₀ base outer h₀) (F : Fr h₀ L s.heap m) (X : (kpart w.params).In h₀) (N : News h₀ L s.heap news) (T : Top qv (looseW qv looseN) mean mg mb h₀) (hk : cs.kind = .function) (hm : (D, lsn vs k) ∈ news) (hw : StrsAre vs (ws.map fun w => tx (leftW w))) (h32 : ws.length = 32) (hl : ∀ w ∈ ws, w.length = 5) (hT : ∀ v ∈ vs, tokOk T0 v) (ht : T0 ≤ t) (hd : dp + 1 < recursionLimit) (hu : un + 8 < cLine)
    (hq : ∀ t' h' tk', Fr h₀ L h' m → News h₀ L h' news → Q (.int (cntOf ws x : Int) t') { s with heap := h', toks := tk' }) :
    wpAny (model pw w) (ktrTop dp un gd cn cs L a ccd cl outer) (call (.ref 56) [.ref D, .str (tx x) t]) Q E s := by
  refine use_claim (count_spec rfl w mean mg mb D k vs _ (tx x) t news) B F X N T hk ⟨hw, fun v hv => ?_, hm, by rw [List.length_map, h32]; decide, fun y hy => ?_⟩ hd hu ?_
  · have := hT v hv
    cases v with
    | str y u => exact ⟨this.1, Nat.lt_of_lt_of_le this.2 ht⟩
    | _ => exact this
  · obtain ⟨w, h, rfl⟩ := List.mem_map.mp hy
    rw [tx_len]
    exact Nat.le_trans (List.length_filter_le _ _) (by rw [hl w h]; decide)
  · intro t' h' tk' F' N'
    exact hq t' h' tk' F' N'
theorem least_32 (ws : List (List Nat)) (p : List Nat) : leastOf ws p ≤ 32 := leastTo_le _ 32
theorem partN_len (low n : Int) : (partN low n).length ≤ 2 ∧ partN low n ≠ [] := by
  obtain ⟨j, hj, h6⟩ := part_get (low := low) (n := n)
  unfold partN partsN
  rw [hj]
  match j, h6 with
  | 0, _ => exact ⟨Nat.le_of_ble_eq_true rfl, by simp⟩
  | 1, _ => exact ⟨Nat.le_of_ble_eq_true rfl, by simp⟩
  | 2, _ => exact ⟨Nat.le_of_ble_eq_true rfl, by simp⟩
  | 3, _ => exact ⟨Nat.le_of_ble_eq_true rfl, by simp⟩
  | 4, _ => exact ⟨Nat.le_of_ble_eq_true rfl, by simp⟩
  | 5, _ => exact ⟨Nat.le_of_ble_eq_true rfl, by simp⟩
end Mine
end
section
open PySem PySem.W PySem.Calls PyProof.Rows PyProof.Rows.LCg
set_option maxRecDepth 100000
set_option maxHeartbeats 8000000
namespace Mine
noncomputable def DrawnR (v y : Value) (_ : Nat) : Prop := ∀ n t, v = .int n t → ∃ t', y = .int (n.fmod 1000000) t'
theorem ints_mem {vs : List Value} {ns : List Int} (h : IntsAre vs ns) {v : Value} : v ∈ vs → ∃ n t, v = .int n t ∧ n ∈ ns := by
  induction h with
  | nil => intro hv; cases hv
  | cons n t _ ih =>
    intro hv
    rcases List.mem_cons.mp hv with rfl | hv
    · exact ⟨_, _, rfl, .head _⟩
    · obtain ⟨n, t, e, hn⟩ := ih hv
      exact ⟨n, t, e, .tail _ hn⟩
theorem drawn_are {vs : List Value} {ns : List Int} (h : IntsAre vs ns) {tk : Nat} : ∀ {ys : List Value}, Paired (fun v y => DrawnR v y tk) (vs.filter fun _ => true) ys → IntsAre ys (ns.map fun n => n.fmod 1000000) := by
  have e : vs.filter (fun _ => true) = vs := List.filter_eq_self.mpr fun _ _ => rfl
  rw [e]
  clear e
  induction h with
  | nil => intro ys p; cases p; exact .nil
  | cons n t _ ih =>
    intro ys p
    cases p with
    | cons q r =>
      obtain ⟨t', rfl⟩ := q _ _ rfl
      exact .cons _ _ (ih r)
theorem drawn_in (ns : List Int) : ∀ c ∈ ns.map (fun n => n.fmod 1000000), 0 ≤ c ∧ c < 1000000 := by
  intro c hc
  obtain ⟨n, _, rfl⟩ := List.mem_map.mp hc
  exact fmod_pos n 1000000 (by decide)
theorem drawn_pack {ns : List Int} {ys : List Value} (h : IntsAre ys ((List.take 63 ns).map fun n => n.fmod 1000000)) : ∃ dn : List Int, IntsAre ys dn ∧ (∀ c ∈ dn, 0 ≤ c ∧ c < 1000000) ∧ dn.length ≤ 63 :=
  ⟨_, h, drawn_in _, by rw [List.length_map, List.length_take]; exact Nat.min_le_left _ _⟩
theorem firsts_at {i : Nat} {x : Value} {t1 t2 t3 t4 t5 t6 t7 : Tok} (h : [Value.int 6 t1, .int 229 t2, .int 336 t3, .int 141 t4, .int 530 t5, .int 3 t6, .int 4 t7][i]? = some x) : ∃ f t, x = .int f t ∧ 0 ≤ f ∧ f ≤ 530 := by
  have hm := List.mem_of_getElem? h
  simp only [List.mem_cons, List.not_mem_nil, or_false] at hm
  rcases hm with rfl | rfl | rfl | rfl | rfl | rfl | rfl
  · exact ⟨_, _, rfl, by decide, by decide⟩
  · exact ⟨_, _, rfl, by decide, by decide⟩
  · exact ⟨_, _, rfl, by decide, by decide⟩
  · exact ⟨_, _, rfl, by decide, by decide⟩
  · exact ⟨_, _, rfl, by decide, by decide⟩
  · exact ⟨_, _, rfl, by decide, by decide⟩
  · exact ⟨_, _, rfl, by decide, by decide⟩
theorem fill_kpart : PySem.Challenge.rw_tc0035_01 = PySem.Challenge.rw_tc0035_01 → ∀ P : Params, kpart P = kpart P := by
  k_fill
  intro _ _
  rfl
theorem drop_two {cs : List Int} (h : cs.length = 7) : ∃ a b, List.drop 5 cs = [a, b] := by
  match cs, h with
  | [_, _, _, _, _, a, b], _ => exact ⟨a, b, rfl⟩
theorem parts_two {low a b : Int} {vs : List Value} (h : IntsAre vs [a, b]) {tk : Nat} {ys : List Value} (p : Paired (fun v y => PartR low v y tk) (vs.filter fun _ => true) ys) : ∃ t u, ys = [.str (tx (partN low a)) t, .str (tx (partN low b)) u] := by
  have e : vs.filter (fun _ => true) = vs := List.filter_eq_self.mpr fun _ _ => rfl
  rw [e] at p
  cases h with
  | cons _ _ h => cases h with
    | cons _ _ h =>
      cases h
      cases p with
      | cons q r => cases r with
        | cons q2 r2 =>
          cases r2
          obtain ⟨t, rfl⟩ := q _ _ rfl
          obtain ⟨u, rfl⟩ := q2 _ _ rfl
          exact ⟨t, u, rfl⟩
theorem two_mem {low a b : Int} {t u : Tok} {v : Value} (h : v ∈ [Value.str (tx (partN low a)) t, .str (tx (partN low b)) u]) : ∃ n t, v = .str (tx (partN low n)) t := by
  rcases List.mem_cons.mp h with rfl | h
  · exact ⟨_, _, rfl⟩
  · exact ⟨_, _, List.mem_singleton.mp h⟩
theorem counts_two {ws : List (List Nat)} {p q : List Nat} {t u : Tok} {tk : Nat} {ys : List Value} (h : Paired (fun v y => CountR ws v y tk) ([Value.str (tx p) t, .str (tx q) u].filter fun _ => true) ys) : ∃ t u, ys = [.int (leastOf ws p : Int) t, .int (leastOf ws q : Int) u] := by
  cases h with
  | cons a r => cases r with
    | cons b r2 =>
      cases r2
      obtain ⟨t, rfl⟩ := a _ _ rfl
      obtain ⟨u, rfl⟩ := b _ _ rfl
      exact ⟨t, u, rfl⟩
theorem words_lo {n lo hi T0 : Nat} {p q : List Nat} {ys : List Value} (h : mergedR n p q ys lo hi) (hp : p ≠ []) (hq : q ≠ []) (hT : T0 ≤ lo) : WordsAre T0 (mergeN n p q) ys := by
  unfold mergedR at h
  rw [if_neg (fun z => z.elim hp hq)] at h
  exact Paired.mono (fun _ _ ⟨t, e, l⟩ => ⟨t, e, Nat.le_trans hT l⟩) h
theorem said0 : PySem.Challenge.rw_tc0035_01.wellSaid = true := by
  unfold OpenLaw.wellSaid OpenRow.wellSaid OpenRow.partSaid looksOpen
  repeat' (with_reducible refine look_both ?_ ?_)
  all_goals decide +kernel
section
local macro_rules | `(tactic| k_qdec) => `(tactic| decide +kernel)
local macro_rules | `(tactic| walk_at "eval ListComp") => `(tactic| (k_here; k_dflt (refine ListComp_J (by k_asm) (by with_unfolding_all rfl) (by decide) (by rfl) (by decide) (by rfl) (by intro _; rfl) ?_)))
local macro_rules | `(tactic| walk_at "eval ListComp") => `(tactic| (refine hold ?_))
local macro_rules | `(tactic| walk_at "exec Assign cons ListComp") => `(tactic| (refine hold ?_))
local macro_rules | `(tactic| walk_at "subscriptTail Name Slice ref ref") => `(tactic| (k_here; (with_reducible show wpAny _ _ (subscriptTail _ (PySem.Expr.Slice _ _ (some _) _) (Value.ref _) (Value.ref _)) _ _ _); k_dflt (refine' slice_step ?sF ?sN ?sm ?si ?sb ?sz ?sj ?_ ?ss ?st; (case sF => k_asm); (case sN => k_asm); (case sm => k_mem); (case si => assumption); (case sb => assumption); (case sz => assumption); (case sj => rfl); (case ss => with_unfolding_all rfl); (case st => (intro _; with_unfolding_all rfl)); intro D' zs' ms' h' hi' hb' hl' F' N' l1; (try k_lt l1))))
local macro_rules | `(tactic| walk_at "call builtin:sum") => `(tactic| (k_here; k_dflt (refine' sumK ?uh ?uF ?uN ?ul ?ui ?_; (case uh => with_unfolding_all rfl); (case uF => k_asm); (case uN => k_asm); (case ul => exact News.isList (by k_asm) (by k_mem)); (case ui => assumption); intro h' tk' t' F' N')))
local macro_rules | `(tactic| walk_at "call ref") => `(tactic| (refine hold ?_))
local macro_rules | `(tactic| walk_at "call ref") => `(tactic| (k_here; k_dflt (refine' use_claim (in_spec rfl _ _ _ _ _ _ _) ?iB ?iF ?iX ?iN ?iT ?ik ?ip ?id ?iu ?_; (case iB => k_asm); (case iF => k_asm); (case iX => k_asm); (case iN => k_asm); (case iT => k_asm); (case ik => rfl); (case ip => trivial); (case id => ktr_room); (case iu => ktr_units); intro t' h' tk' F' N')))
local macro_rules | `(tactic| walk_at "execs cons") => `(tactic| (k_here; dsimp only))
local macro_rules | `(tactic| walk_at "execs cons") => `(tactic| (k_here; refine floor_gen (by assumption) (by (try dsimp only); omega) ?_; intro tk' hk'))
local macro_rules | `(tactic| walk_at "execs nil") => `(tactic| (k_here; dsimp only))
local macro_rules | `(tactic| walk_at "execs nil") => `(tactic| (k_here; refine floor_gen (by assumption) (by (try dsimp only); omega) ?_; intro tk' hk'))
local macro_rules | `(tactic| walk_at "call builtin:str.join") => `(tactic| (refine hold ?_))
local macro_rules | `(tactic| walk_at "subscriptTail Name UnaryOp ref int") => `(tactic| (k_here; k_dflt (refine' kde_neg ?k1 ?k2 ?k3 ?k4 ?k5 ?_ ?k6; (case k1 => exact News.isList (by k_asm) (by k_mem)); (case k2 => decide); (case k3 => decide); (case k4 => assumption); (case k5 => assumption); (case k6 => with_unfolding_all rfl))))
local macro_rules | `(tactic| walk_at "binaryOp Add str str") => `(tactic| (k_here; refine add_tok (by assumption) (by assumption) ?_; intro t' k' ht'))
local macro_rules | `(tactic| walk_at "subscriptTail Tuple") => `(tactic| (k_here; k_dflt (refine' tup_item ?pN ?pm ?p6 ?_ ?ps; (case pN => k_asm); (case pm => k_mem); (case p6 => rfl); (case ps => with_unfolding_all rfl))))
local macro_rules | `(tactic| walk_at "call ref") => `(tactic| (k_here; k_dflt (refine' use_least ?gB ?gF ?gX ?gN ?gT ?gk ?gm ?gw ?g3 ?gl ?gp ?gM ?gd ?gu ?_; (case gB => k_asm); (case gF => k_asm); (case gX => k_asm); (case gN => k_asm); (case gT => k_asm); (case gk => rfl); (case gm => k_mem); (case gw => assumption); (case g3 => assumption); (case gl => assumption); (case gp => assumption); (case gM => exact match_at (by assumption) (by assumption) _ _ _ _); (case gd => ktr_room); (case gu => ktr_units); intro t' h' tk' F' N')))
local macro_rules | `(tactic| walk_at "call ref") => `(tactic| (k_here; k_dflt (refine' use_claim (mul_spec rfl _ _ _ _ _ _ _ _ _) ?jB ?jF ?jX ?jN ?jT ?jk ?jp ?jd ?ju ?_; (case jB => k_asm); (case jF => k_asm); (case jX => k_asm); (case jN => k_asm); (case jT => k_asm); (case jk => rfl); (case jp => omega); (case jd => ktr_room); (case ju => ktr_units); intro t' h' tk' F' N')))
local macro_rules | `(tactic| walk_at "call ref") => `(tactic| (k_here; k_dflt (refine' use_merged (by assumption) ?hB ?hF ?hX ?hN ?hT ?hk ?hp ?hq ?hd ?hu ?_; (case hB => k_asm); (case hF => k_asm); (case hX => k_asm); (case hN => k_asm); (case hT => k_asm); (case hk => rfl); (case hp => assumption); (case hq => exact ⟨⟨by assumption, by assumption⟩, Nat.le_refl _⟩); (case hd => ktr_room); (case hu => ktr_units); intro D' k' ys' h' tk' r' le' F' N' l1; (try k_lt l1); (try dsimp only at le' r'))))
local macro_rules | `(tactic| walk_at "compareOp In none ref") => `(tactic| (k_here; k_dflt (refine' in_none ?aN ?am ?ay ?_; (case aN => k_asm); (case am => k_mem); (case ay => assumption))))
local macro_rules | `(tactic| walk_at "call ref") => `(tactic| (k_here; k_dflt (refine' use_count ?kB ?kF ?kX ?kN ?kT ?kk ?km ?kw ?k3 ?kl ?kTT ?kt ?kd ?ku ?_; (case kB => k_asm); (case kF => k_asm); (case kX => k_asm); (case kN => k_asm); (case kT => k_asm); (case kk => rfl); (case km => k_mem); (case kw => assumption); (case k3 => assumption); (case kl => assumption); (case kTT => assumption); (case kt => assumption); (case kd => ktr_room); (case ku => ktr_units); intro t' h' tk' F' N')))
local macro_rules | `(tactic| walk_at "compareOp Eq int int") => `(tactic| (k_here; k_dflt (refine eq_int_true (by assumption) ?_)))
local macro_rules | `(tactic| walk_at "call builtin:chr") => `(tactic| (k_here; k_dflt (refine chr_of_range (by assumption) (by assumption) ?_)))
local macro_rules | `(tactic| walk_at "call ref") => `(tactic| (k_here; k_dflt (refine' use_list (choices_spec rfl _ _ _ _ _ _ _ _ _ _ _) ?cB ?cF ?cX ?cN ?cT ?ck ?cp ?cd ?cu ?_; (case cB => k_asm); (case cF => k_asm); (case cX => k_asm); (case cN => k_asm); (case cT => k_asm); (case ck => rfl); (case cp => exact ⟨by k_mem, by assumption, by assumption, by assumption, by assumption, by assumption⟩); (case cd => ktr_room); (case cu => ktr_units); intro D' k' ys' h' tk' r' le' F' N' l1; (try k_lt l1); (try dsimp only at le'))))
local macro_rules | `(tactic| walk_at "call type:enumerate") => `(tactic| (refine hold ?_))
theorem holds0 : PySem.Challenge.rw_tc0035_01.Holds := by
  w_on
  refine holds_law said0 fun said => ?_
  refine holds_open (q := qv) (loose := looseN) (Xt := xt) (XP := XL qv []) (Yf := hook.obs) (Ya := hook.val) (YP := hook.says) (N := 20000) left hook.of hook.keeps (fun s e => xl_of s (Bool.and_eq_true_iff.mp e).1) XL.keeps (by rfl) (by rfl) (by rfl) (fun s e => recFacts_of (Bool.and_eq_true_iff.mp e).2) (by rfl) (by first | assumption | decide +kernel) (by decide +kernel) ⟨rfl, rfl, rfl, rfl, rfl, by decide +kernel⟩ ?hw ?hc
  case hw => w_witness2
  case hc =>
    w_strict (k_go0; (all_goals try k_fold); (
      refine wpAny_execs_cons ?_
      refine wpAny_Assign_Name ?_
      refine' ListComp_J ?F ?clos ?cell ?kind ?names ?x ?hs ?_
      case F => k_asm
      case clos => with_unfolding_all rfl
      case cell => decide
      case kind => rfl
      case names => decide
      case x => rfl
      case hs => intro _; rfl
      k_steps
      rename IntsAre _ (List.take 63 _) => hI63
      refine src_list (p := fun _ => true) (R := DrawnR) (by rfl) (by assumption) (by assumption) (.inr ⟨_, .head _, rfl, _, rfl⟩) ?_ (fun _ _ _ _ _ h => h) ?_ ?_
      case refine_1 =>
        rw [hI63.length, List.length_take, sizeLine_eq]
        omega
      case refine_2 => 
        intro g
        refine OneM.toF ?_
        intro v ys I oI C oC D m₂ h tk E' hv ht hC hx F N off ne
        obtain ⟨n, t, rfl, hn⟩ := ints_mem hI63 hv
        k_steps
        exact EndJ.intro (by assumption) (by assumption) (fun p hp => hp) (fun n' t e => by injection e with e1 _; rw [e1]; exact ⟨_, rfl⟩)
      case refine_3 =>
        intro g D h tk ys j F N lt
        obtain ⟨dn, hdn, hdb, hdl⟩ := drawn_pack (drawn_are hI63 j.2)
        try k_lt lt
        dsimp only
        clear hI63
        k_steps
        unfold Hold
        refine' Assign_ListComp_E ?eF ?eL ?esw ?eclos ?ecell ?ekind ?enames ?ex1 ?ex2 ?exx ?ey ?ep ?ehs ?_
        case eF => k_asm
        case eL => rfl
        case esw => with_unfolding_all rfl
        case eclos => with_unfolding_all rfl
        case ecell => decide
        case ekind => rfl
        case enames => decide
        case ex1 => rfl
        case ex2 => rfl
        case exx => decide
        case ey => rfl
        case ep => rfl
        case ehs => intro _; rfl
        k_steps
        unfold Hold
        refine' enum_src (J := CellsJ) ?nh ?nF ?nN ?nm ?nsz ?nmono ?nJ ?nJl ?nR ?nfin
        case nh => rfl
        case nF => k_asm
        case nN => k_asm
        case nm => k_mem
        case nsz => rw [sizeLine_eq]; exact Nat.le_of_ble_eq_true rfl
        case nmono => exact fun _ _ _ _ _ h => h
        case nJ => exact ⟨[], .nil, rfl, fun c h => (by cases h)⟩
        case nJl => exact fun i ys _ h => (by obtain ⟨cs, h1, h2, _⟩ := h; rw [h1.length, h2]; exact Nat.le_refl _)
        case nR => 
          intro g i t x ys2 e oe it oi C oC D2 m₂ h tk E' hj hxi hC hx1 hx2 F N
          obtain ⟨f, tf, rfl, hf⟩ := firsts_at hxi
          k_steps
          rename ∀ c ∈ _, 0 ≤ c ∧ c < 1000000 => hmb
          rename List.length _ ≤ 63 => hml
          have hsum := sum_in hmb
          exact EndJ.intro (by assumption) (by assumption) (fun p hp => .tail _ hp) (cells_snoc hj (by omega))
        case nfin => 
          intro g D2 h tk ys2 j F N lt
          obtain ⟨cs, hci, hcl, hcb⟩ := j
          replace hcl : cs.length = 7 := hcl
          clear hdn hdb
          try k_lt lt
          dsimp only
          have hs25 := fmod_pos cs.sum 25 (by decide)
          have hs1 : 0 ≤ 97 + cs.sum.fmod 25 := by omega
          have hs2 : 97 + cs.sum.fmod 25 ≤ 1114111 := by omega
          have hs3 : 0 ≤ 98 + cs.sum.fmod 25 := by omega
          have hs4 : 98 + cs.sum.fmod 25 ≤ 1114111 := by omega
          have hs5 := hs25.1
          have hs6 := hs25.2
          have ht5 : (List.take 5 cs).length ≤ 5 := by rw [List.length_take]; exact Nat.min_le_left _ _
          have ht5b : ∀ c ∈ List.take 5 cs, 0 ≤ c ∧ c < 100000000 := fun c hc => hcb c (List.mem_of_mem_take hc)
          have hfl : Floor 1 := trivial
          k_steps
          rename WordsAre 0 (choicesN _ _ [[]]) _ => hws
          unfold Hold
          refine wpAny_Assign_Name ?_
          refine' ListComp_J ?lF ?lclos ?lcell ?lkind ?lnames ?lx ?lhs ?_
          case lF => k_asm
          case lclos => with_unfolding_all rfl
          case lcell => decide
          case lkind => rfl
          case lnames => decide
          case lx => rfl
          case lhs => intro _; rfl
          k_steps
          have hclen : (List.take 5 cs).length = 5 := by rw [List.length_take]; omega
          have hwlen : (choicesN (cs.sum.fmod 25) (List.take 5 cs) [[]]).length = 32 := by rw [choicesN_length, hclen]; rfl
          have hw5 : ∀ w ∈ choicesN (cs.sum.fmod 25) (List.take 5 cs) [[]], w.length = 5 := by
            intro w hw
            have := choicesN_len (cs.sum.fmod 25) (List.take 5 cs) [[]] 0 (fun v hv => by rw [List.mem_singleton.mp hv]; rfl) w hw
            omega
          refine src_list (p := fun _ => true) (R := LeftR) (by rfl) (by assumption) (by assumption) (.inr ⟨_, by k_mem, rfl, _, rfl⟩) ?_ leftR_mono ?_ ?_
          case refine_1 =>
            rw [words_len hws, hwlen, sizeLine_eq]
            omega
          case refine_2 => 
            intro g
            refine OneM.toF ?_
            intro v ys I oI C oC D m₂ h tk E' hv ht hC hx F N off ne
            obtain ⟨wd, hwd, tw, rfl, _⟩ := hws.mem hv
            have hl5 := hw5 wd hwd
            dsimp only at ht
            k_steps
            unfold Hold
            refine' ListComp_J ?mF ?mclos ?mcell ?mkind ?mnames ?mx ?mhs ?_
            case mF => k_asm
            case mclos => with_unfolding_all rfl
            case mcell => decide
            case mkind => rfl
            case mnames => decide
            case mx => rfl
            case mhs => intro _; rfl
            k_steps
            refine src_str (p := fun c => !goneB c) (by rfl) (by assumption) (by assumption) ?_ ?_ ?_
            case refine_1 => rw [hl5, sizeLine_eq]; omega
            case refine_2 =>
              intro g c u ys I oI C oC D m₂ h tk E' hC hx F N off ne
              refine wpAny_tests_one ?_
              k_steps
              · rename inB1 _ = true => hb
                show (!inB1 _) = false
                rw [hb]
                rfl
              · exact EndJ.intro (by assumption) (by assumption) (fun p hp => hp) trivial
              · rename inB1 _ = false => hb
                show (!inB1 _) = true
                rw [hb]
                rfl
              · exact EndJ.intro (by assumption) (by assumption) (fun p hp => hp) rfl
            case refine_3 =>
              intro g D h tk ys j F N lt
              obtain ⟨us, rfl, hus, hub, hlo⟩ := j
              try k_lt lt
              dsimp only
              dsimp only at hub hlo
              k_steps
              unfold Hold
              refine join_tok (us := us) (News.isList (by k_asm) (by k_mem)) ?_ ?_
              · rw [hus]
                exact ones_fit (Nat.le_trans (List.length_filter_le _ _) (Nat.le_of_eq hl5))
              · intro t' k hk ht'
                exact EndJ.intro (by assumption) (by assumption) (fun p hp => .tail _ hp) (leftR_of (by omega) (by dsimp only; omega) hus (fun q hq => ⟨(hub q hq).1, Nat.lt_of_lt_of_le (hub q hq).2 (by dsimp only; omega)⟩) (Nat.le_refl _) hk ht')
          case refine_3 => 
            intro g D h tk ys3 j F N lt
            obtain ⟨hstr, htok⟩ := lefts_are hws j.2
            obtain ⟨T0, hT0⟩ : ∃ T0, T0 = tk := ⟨_, rfl⟩
            rw [← hT0] at htok
            have hflT : Floor T0 := trivial
            have hy3 : ys3.length = 32 := by rw [hstr.length, List.length_map, hwlen]
            obtain ⟨t31, h31⟩ := strs_get hstr (left_last hclen hs5 hs6)
            have hj31 : seqIndex? (-1) ys3.length = some 31 := by rw [hy3]; decide
            try k_lt lt
            dsimp only
            k_steps
            unfold Hold
            refine' ListComp_J ?nF ?nclos ?ncell ?nkind ?nnames ?nx ?nhs ?_
            case nF => k_asm
            case nclos => with_unfolding_all rfl
            case ncell => decide
            case nkind => rfl
            case nnames => decide
            case nx => rfl
            case nhs => intro _; rfl
            k_steps
            rename IntsAre _ (List.take 5 cs) => hI5
            refine src_list (p := fun _ => true) (R := LettR (cs.sum.fmod 25)) (by rfl) (by assumption) (by assumption) (.inr ⟨_, by k_mem, rfl, _, rfl⟩) ?_ (fun _ _ _ _ _ h => h) ?_ ?_
            case refine_1 => rw [hI5.length, hclen, sizeLine_eq]; omega
            case refine_2 =>
              intro g
              refine OneM.toF ?_
              intro v ys I oI C oC D m₂ h tk E' hv ht hC hx F N off ne
              obtain ⟨n, t, rfl, hn⟩ := ints_mem2 hI5 hv
              k_steps
              · exact EndJ.intro (by assumption) (by assumption) (fun p hp => hp) (lettR_hi (by assumption))
              · exact EndJ.intro (by assumption) (by assumption) (fun p hp => hp) (lettR_lo (by assumption))
            case refine_3 =>
              intro g D h tk ys j F N lt
              obtain ⟨us, rfl, hus⟩ := letters_are hI5 j.2
              have hjl := j.1
              dsimp only at hjl
              try k_lt lt
              dsimp only
              k_steps
              unfold Hold
              refine join_tok (us := us) (News.isList (by k_asm) (by k_mem)) ?_ ?_
              · rw [hus]
                exact ones_fit (by rw [List.length_map]; exact ht5)
              · intro t' k hk ht'
                rw [hus, join_ones]
                dsimp only at hk
                k_steps
                unfold Hold
                refine' Assign_ListComp_J ?oF ?oL ?osw ?oclos ?ocell ?okind ?onames ?ox ?oy ?op ?ohs ?_
                case oF => k_asm
                case oL => rfl
                case osw => with_unfolding_all rfl
                case oclos => with_unfolding_all rfl
                case ocell => decide
                case okind => rfl
                case onames => decide
                case ox => rfl
                case oy => rfl
                case op => rfl
                case ohs => intro _; rfl
                k_steps
                obtain ⟨c5, c6, hd2⟩ := drop_two hcl
                rename IntsAre _ (List.drop _ cs) => hI2
                rw [hd2] at hI2
                have hlL : (⟨#[(97 + cs.sum.fmod 25).toNat]⟩ : Str).length ≤ 100 := by show 1 ≤ 100; omega
                have hlH : (⟨#[(98 + cs.sum.fmod 25).toNat]⟩ : Str).length ≤ 100 := by show 1 ≤ 100; omega
                refine src_list (p := fun _ => true) (R := PartR (cs.sum.fmod 25)) (by rfl) (by assumption) (by assumption) (.inr ⟨_, by k_mem, rfl, _, rfl⟩) ?_ (fun _ _ _ _ _ h => h) ?_ ?_
                case refine_1 => rw [hI2.length, sizeLine_eq]; exact Nat.le_of_ble_eq_true rfl
                case refine_2 => 
                  intro g
                  refine OneM.toF ?_
                  intro v ys I oI C oC D m₂ h tk E' hv ht hC hx F N off ne
                  obtain ⟨n, t, rfl, hn⟩ := ints_mem2 hI2 hv
                  k_steps
                  exact EndJ.intro (by assumption) (by assumption) (fun p hp => .tail _ hp) partR_of
                case refine_3 => 
                  intro g D h tk ysP j F N lt
                  obtain ⟨tp0, tp1, rfl⟩ := parts_two hI2 j.2
                  clear hI2
                  have hjp := j.1
                  dsimp only at hjp
                  try k_lt lt
                  dsimp only
                  k_steps
                  unfold Hold
                  refine' Assign_ListComp_J ?qF ?qL ?qsw ?qclos ?qcell ?qkind ?qnames ?qx ?qy ?qp ?qhs ?_
                  case qF => k_asm
                  case qL => rfl
                  case qsw => with_unfolding_all rfl
                  case qclos => with_unfolding_all rfl
                  case qcell => decide
                  case qkind => rfl
                  case qnames => decide
                  case qx => rfl
                  case qy => rfl
                  case qp => rfl
                  case qhs => intro _; rfl
                  k_steps
                  have hp0 := partN_len (cs.sum.fmod 25) c5
                  have hp1 := partN_len (cs.sum.fmod 25) c6
                  refine src_list (p := fun _ => true) (R := CountR (choicesN (cs.sum.fmod 25) (List.take 5 cs) [[]])) (by rfl) (by assumption) (by assumption) (.inr ⟨_, by k_mem, rfl, _, rfl⟩) ?_ (fun _ _ _ _ _ h => h) ?_ ?_
                  case refine_1 => rw [sizeLine_eq]; exact Nat.le_of_ble_eq_true rfl
                  case refine_2 => 
                    intro g
                    refine OneM.toF ?_
                    intro v ys I oI C oC D m₂ h tk E' hv ht hC hx F N off ne
                    obtain ⟨n, t, rfl⟩ := two_mem hv
                    have hpn := (partN_len (cs.sum.fmod 25) n).1
                    k_steps
                    exact EndJ.intro (by assumption) (by assumption) (fun p hp => hp) countR_of
                  case refine_3 => 
                    intro g D h tk ysC j F N lt
                    obtain ⟨tc0, tc1, rfl⟩ := counts_two j.2
                    have hjc := j.1
                    dsimp only at hjc
                    have hIC : IntsAre [Value.int (leastOf (choicesN (cs.sum.fmod 25) (List.take 5 cs) [[]]) (partN (cs.sum.fmod 25) c5) : Int) tc0, Value.int (leastOf (choicesN (cs.sum.fmod 25) (List.take 5 cs) [[]]) (partN (cs.sum.fmod 25) c6) : Int) tc1] [_, _] := .cons _ _ (.cons _ _ .nil)
                    have hl0 := least_32 (choicesN (cs.sum.fmod 25) (List.take 5 cs) [[]]) (partN (cs.sum.fmod 25) c5)
                    have hl1 := least_32 (choicesN (cs.sum.fmod 25) (List.take 5 cs) [[]]) (partN (cs.sum.fmod 25) c6)
                    have hMg : MergedAt 4 := merged_spec rfl 4
                    have hq1 := hp0.1
                    have hq2 := hp1.1
                    have hq3 : (partN (cs.sum.fmod 25) c5).length + (partN (cs.sum.fmod 25) c6).length ≤ 4 := by omega
                    try k_lt lt
                    dsimp only
                    k_steps
                    unfold Hold
                    have hmul : ∀ x y : Nat, x ≤ 32 → y ≤ 32 → (0 ≤ (x : Int) ∧ (x : Int) < 1000 ∧ 0 ≤ (y : Int) ∧ (y : Int) < 1000) := by intro x y h1 h2; omega
                    refine wpAny_with_toks (n := T0) (by dsimp only; omega) ?_
                    refine' use_claim (mul_spec rfl _ _ _ _ _ _ _ _ _) ?jB ?jF ?jX ?jN ?jT ?jk ?jp ?jd ?ju ?_
                    case jB => k_asm
                    case jF => k_asm
                    case jX => k_asm
                    case jN => k_asm
                    case jT => k_asm
                    case jk => rfl
                    case jp => exact hmul _ _ hl0 hl1
                    case jd => ktr_room
                    case ju => ktr_units
                    intro t' h' tk' F' N' hTk
                    dsimp only at hTk ⊢
                    k_steps
                    unfold Hold
                    refine' ListComp_J ?rF ?rclos ?rcell ?rkind ?rnames ?rx ?rhs ?_
                    case rF => k_asm
                    case rclos => with_unfolding_all rfl
                    case rcell => decide
                    case rkind => rfl
                    case rnames => decide
                    case rx => rfl
                    case rhs => intro _; rfl
                    k_steps
                    rename mergedR _ _ _ _ _ _ => hmg
                    have hwd := words_lo hmg hp0.2 hp1.2 (show T0 ≤ _ by omega)
                    clear hmg
                    refine src_list (p := fun _ => true) (R := CntR (choicesN (cs.sum.fmod 25) (List.take 5 cs) [[]])) (by rfl) (by assumption) (by assumption) (.inr ⟨_, by k_mem, rfl, _, rfl⟩) ?_ (fun _ _ _ _ _ h => h) ?_ ?_
                    case refine_1 =>
                      rw [words_len hwd, sizeLine_eq]
                      exact Nat.le_trans (mergeN_count 4 _ _) (by decide)
                    case refine_2 => 
                      intro g
                      refine OneM.toF ?_
                      intro v ys I oI C oC D m₂ h tk E' hv ht hC hx F N off ne
                      obtain ⟨w, hw, tw, rfl, hwT⟩ := hwd.mem hv
                      k_steps
                      exact EndJ.intro (by assumption) (by assumption) (fun p hp => hp) cntR_of
                    case refine_3 => 
                      intro g D h tk ysW j F N lt
                      have hIW := cnts_are hwd j.2
                      have hLaw := law_eq hs5 hs6 hclen c5 c6
                      try k_lt lt
                      dsimp only
                      k_steps))
end
end Mine
end
theorem PySem.Challenge.cw_tc0035_01_holds : PySem.Challenge.rw_tc0035_01.Holds :=
  Mine.holds0
