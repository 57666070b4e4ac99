import PyProof.Rows.All
import PyProof.Rows.StrFin3
import KE.KLcPair
import Open.Tops
import Wide.FinOn
import OpenK.AllK
import Wide.All
import PySem.Challenge.RW_re0120_01
set_option Elab.async false
namespace Mine
section
open PySem PySem.W PyProof.Rows
set_option maxRecDepth 100000
set_option maxHeartbeats 0
set_option linter.unusedVariables false
def pS0 : Program := match PySem.Challenge.pw_re0120_01.main.body with
  | a :: b :: c :: d :: e :: _ => { PySem.Challenge.pw_re0120_01 with main := { PySem.Challenge.pw_re0120_01.main with body := [a, b, c, d, e] } }
  | _ => PySem.Challenge.pw_re0120_01
abbrev pS : Program := by
  refine (fun (_ : True) => ?l) ?h
  case h =>
    refine (fun (_ : pS0 = ?l) => True.intro) ?h2
    case h2 => (conv => lhs; dsimp only [pS0, PySem.Challenge.pw_re0120_01])
open_shared top5 for pS leaving 0
end
section
open PySem PySem.W PyProof.Rows
set_option maxRecDepth 100000
set_option maxHeartbeats 0
set_option linter.unusedVariables false
noncomputable def hTop (i : Nat) : Stmt := (PySem.Challenge.pw_re0120_01.main.body[i]?).getD (.Pass default)
noncomputable def hBody : Stmt → List Stmt
  | .FunctionDef _ _ body _ _ _ _ _ _ _ => body
  | _ => []
noncomputable def hScope : Stmt → Scope
  | .FunctionDef _ _ _ _ _ _ scope _ _ _ => scope
  | _ => default
noncomputable def hArgs : Stmt → Arguments
  | .FunctionDef _ args _ _ _ _ _ _ _ _ => args
  | _ => default
noncomputable abbrev fp_6 : Arguments := by
  refine (fun (_ : hArgs (hTop 6) = ?l) => ?l) ?h
  case h => (conv => lhs; whnf)
noncomputable abbrev fb_6 : List Stmt := by
  refine (fun (_ : hBody (hTop 6) = ?l) => ?l) ?h
  case h => (conv => lhs; whnf)
noncomputable abbrev fs_6 : Scope := by
  refine (fun (_ : hScope (hTop 6) = ?l) => ?l) ?h
  case h => (conv => lhs; whnf)
noncomputable abbrev fp_8 : Arguments := by
  refine (fun (_ : hArgs (hTop 8) = ?l) => ?l) ?h
  case h => (conv => lhs; whnf)
noncomputable abbrev fb_8 : List Stmt := by
  refine (fun (_ : hBody (hTop 8) = ?l) => ?l) ?h
  case h => (conv => lhs; whnf)
noncomputable abbrev fs_8 : Scope := by
  refine (fun (_ : hScope (hTop 8) = ?l) => ?l) ?h
  case h => (conv => lhs; whnf)
noncomputable abbrev fp_10 : Arguments := by
  refine (fun (_ : hArgs (hTop 10) = ?l) => ?l) ?h
  case h => (conv => lhs; whnf)
noncomputable abbrev fb_10 : List Stmt := by
  refine (fun (_ : hBody (hTop 10) = ?l) => ?l) ?h
  case h => (conv => lhs; whnf)
noncomputable abbrev fs_10 : Scope := by
  refine (fun (_ : hScope (hTop 10) = ?l) => ?l) ?h
  case h => (conv => lhs; whnf)
noncomputable abbrev fp_11 : Arguments := by
  refine (fun (_ : hArgs (hTop 11) = ?l) => ?l) ?h
  case h => (conv => lhs; whnf)
noncomputable abbrev fb_11 : List Stmt := by
  refine (fun (_ : hBody (hTop 11) = ?l) => ?l) ?h
  case h => (conv => lhs; whnf)
noncomputable abbrev fs_11 : Scope := by
  refine (fun (_ : hScope (hTop 11) = ?l) => ?l) ?h
  case h => (conv => lhs; whnf)
noncomputable abbrev fp_12 : Arguments := by
  refine (fun (_ : hArgs (hTop 12) = ?l) => ?l) ?h
  case h => (conv => lhs; whnf)
noncomputable abbrev fb_12 : List Stmt := by
  refine (fun (_ : hBody (hTop 12) = ?l) => ?l) ?h
  case h => (conv => lhs; whnf)
noncomputable abbrev fs_12 : Scope := by
  refine (fun (_ : hScope (hTop 12) = ?l) => ?l) ?h
  case h => (conv => lhs; whnf)
noncomputable abbrev fp_13 : Arguments := by
  refine (fun (_ : hArgs (hTop 13) = ?l) => ?l) ?h
  case h => (conv => lhs; whnf)
noncomputable abbrev fb_13 : List Stmt := by
  refine (fun (_ : hBody (hTop 13) = ?l) => ?l) ?h
  case h => (conv => lhs; whnf)
noncomputable abbrev fs_13 : Scope := by
  refine (fun (_ : hScope (hTop 13) = ?l) => ?l) ?h
  case h => (conv => lhs; whnf)
noncomputable abbrev fp_14 : Arguments := by
  refine (fun (_ : hArgs (hTop 14) = ?l) => ?l) ?h
  case h => (conv => lhs; whnf)
noncomputable abbrev fb_14 : List Stmt := by
  refine (fun (_ : hBody (hTop 14) = ?l) => ?l) ?h
  case h => (conv => lhs; whnf)
noncomputable abbrev fs_14 : Scope := by
  refine (fun (_ : hScope (hTop 14) = ?l) => ?l) ?h
  case h => (conv => lhs; whnf)
noncomputable abbrev fake.o_70 (P : Params) : Obj := { cls := .type "tuple", data := .seq #[] }
noncomputable abbrev fake.o_71 (P : Params) : Obj := { cls := .none, data := .fields #[] }
noncomputable abbrev fake.o_72 (P : Params) : Obj := { cls := .type "tuple", data := .seq #[.str (Str.ofString "code") 324] }
noncomputable abbrev fake.o_73 (P : Params) : Obj := { cls := .type "tuple", data := .seq #[] }
noncomputable abbrev fake.o_74 (P : Params) : Obj := { cls := .none, data := .func { name := (Str.ofString "in_table_b1"), qualname := (Str.ofString "in_table_b1"), params := fp_6, body := .stmts fb_6, scope := fs_6, globals := 0, closure := [], defaults := .none, kwdefaults := .none } }
noncomputable abbrev fake.o_75 (P : Params) : Obj := { cls := .type "code", data := .fields #[.str (Str.ofString "in_table_b1") 321, .str (Str.ofString "in_table_b1") 322, .str (Str.ofString "/claim/cut.py") 323, .int 61 0, .int 1 0, .int 0 0, .int 0 0, .int 3 0, .ref 75, .bool true, .int 181 0, .ref 76, .none, .ref 77, .ref 78, .ref 79, .int 325 0, .int 61 0, .str (Str.ofString "/claim/cut.py") 326] }
noncomputable abbrev fake.o_76 (P : Params) : Obj := { cls := .type "function", data := .func { name := (Str.ofString "in_table_b1"), qualname := (Str.ofString "in_table_b1"), params := fp_6, body := .stmts fb_6, scope := fs_6, globals := 3, closure := [], defaults := .none, kwdefaults := .none, pyModule := .str (Str.ofString "cpy313.stringprep") 259, code := .ref 80 } }
noncomputable abbrev fake.o_131 (P : Params) : Obj := { cls := .type "tuple", data := .seq #[] }
noncomputable abbrev fake.o_132 (P : Params) : Obj := { cls := .none, data := .fields #[] }
noncomputable abbrev fake.o_133 (P : Params) : Obj := { cls := .type "tuple", data := .seq #[.str (Str.ofString "code") 2282, .str (Str.ofString "r") 2283] }
noncomputable abbrev fake.o_134 (P : Params) : Obj := { cls := .type "tuple", data := .seq #[] }
noncomputable abbrev fake.o_135 (P : Params) : Obj := { cls := .none, data := .func { name := (Str.ofString "map_table_b3"), qualname := (Str.ofString "map_table_b3"), params := fp_8, body := .stmts fb_8, scope := fs_8, globals := 0, closure := [], defaults := .none, kwdefaults := .none } }
noncomputable abbrev fake.o_136 (P : Params) : Obj := { cls := .type "code", data := .fields #[.str (Str.ofString "map_table_b3") 2279, .str (Str.ofString "map_table_b3") 2280, .str (Str.ofString "/claim/cut.py") 2281, .int 64 0, .int 1 0, .int 0 0, .int 0 0, .int 3 0, .ref 121, .bool true, .int 181 0, .ref 122, .none, .ref 123, .ref 124, .ref 125, .int 2284 0, .int 64 0, .str (Str.ofString "/claim/cut.py") 2285] }
noncomputable abbrev fake.o_137 (P : Params) : Obj := { cls := .type "function", data := .func { name := (Str.ofString "map_table_b3"), qualname := (Str.ofString "map_table_b3"), params := fp_8, body := .stmts fb_8, scope := fs_8, globals := 3, closure := [], defaults := .none, kwdefaults := .none, pyModule := .str (Str.ofString "cpy313.stringprep") 259, code := .ref 126 } }
noncomputable abbrev fake.o_138 (P : Params) : Obj := { cls := .type "tuple", data := .seq #[] }
noncomputable abbrev fake.o_139 (P : Params) : Obj := { cls := .none, data := .fields #[] }
noncomputable abbrev fake.o_140 (P : Params) : Obj := { cls := .type "tuple", data := .seq #[.str (Str.ofString "text") 2292, .str (Str.ofString "stream") 2293] }
noncomputable abbrev fake.o_141 (P : Params) : Obj := { cls := .type "tuple", data := .seq #[.str (Str.ofString "signs") 2294] }
noncomputable abbrev fake.o_142 (P : Params) : Obj := { cls := .none, data := .func { name := (Str.ofString "_law_lexer"), qualname := (Str.ofString "_law_lexer"), params := fp_10, body := .stmts fb_10, scope := fs_10, globals := 0, closure := [], defaults := .none, kwdefaults := .none } }
noncomputable abbrev fake.o_143 (P : Params) : Obj := { cls := .type "code", data := .fields #[.str (Str.ofString "_law_lexer") 2289, .str (Str.ofString "_law_lexer") 2290, .str (Str.ofString "/claim/cut.py") 2291, .int 70 0, .int 1 0, .int 0 0, .int 0 0, .int 3 0, .ref 128, .bool true, .int 181 0, .ref 129, .none, .ref 130, .ref 131, .ref 132, .int 2295 0, .int 70 0, .str (Str.ofString "/claim/cut.py") 2296] }
noncomputable abbrev fake.o_144 (P : Params) : Obj := { cls := .type "function", data := .func { name := (Str.ofString "_law_lexer"), qualname := (Str.ofString "_law_lexer"), params := fp_10, body := .stmts fb_10, scope := fs_10, globals := 3, closure := [], defaults := .none, kwdefaults := .none, pyModule := .str (Str.ofString "law_re0120_01") 2287, code := .ref 133 } }
noncomputable abbrev fake.o_145 (P : Params) : Obj := { cls := .type "tuple", data := .seq #[] }
noncomputable abbrev fake.o_146 (P : Params) : Obj := { cls := .none, data := .fields #[] }
noncomputable abbrev fake.o_147 (P : Params) : Obj := { cls := .none, data := .func { name := (Str.ofString "_law_prepared"), qualname := (Str.ofString "_law_prepared"), params := fp_11, body := .stmts fb_11, scope := fs_11, globals := 0, closure := [], defaults := .none, kwdefaults := .none } }
noncomputable abbrev fake.o_148 (P : Params) : Obj := { cls := .type "code", data := .fields #[.str (Str.ofString "_law_prepared") 2298, .str (Str.ofString "_law_prepared") 2299, .str (Str.ofString "/claim/cut.py") 2300, .int 75 0, .int 1 0, .int 0 0, .int 0 0, .int 3 0, .ref 135, .bool true, .int 181 0, .ref 136, .none, .none, .none, .ref 137, .int 2301 0, .int 75 0, .str (Str.ofString "/claim/cut.py") 2302] }
noncomputable abbrev fake.o_149 (P : Params) : Obj := { cls := .type "function", data := .func { name := (Str.ofString "_law_prepared"), qualname := (Str.ofString "_law_prepared"), params := fp_11, body := .stmts fb_11, scope := fs_11, globals := 3, closure := [], defaults := .none, kwdefaults := .none, pyModule := .str (Str.ofString "law_re0120_01") 2287, code := .ref 138 } }
noncomputable abbrev fake.o_152 (P : Params) : Obj := { cls := .none, data := .fields #[.int 2 0, .int 0 0, .ref 20, .int 46 0, .int 0 0, .ref 62, .int 61 0, .int 0 0, .ref 80, .int 64 0, .int 0 0, .ref 126, .int 70 0, .int 0 0, .ref 133, .int 75 0, .int 0 0, .ref 138, .int 77 0, .int 0 0, .ref 145, .int 85 0, .int 0 0, .ref 150, .int 90 0, .int 0 0, .ref 155] }
noncomputable abbrev fake.o_153 (P : Params) : Obj := { cls := .type "tuple", data := .seq #[] }
noncomputable abbrev fake.o_154 (P : Params) : Obj := { cls := .none, data := .fields #[] }
noncomputable abbrev fake.o_155 (P : Params) : Obj := { cls := .type "tuple", data := .seq #[.str (Str.ofString "n") 2307, .str (Str.ofString "odd") 2308, .str (Str.ofString "k") 2309, .str (Str.ofString "ways") 2310, .str (Str.ofString "t") 2311] }
noncomputable abbrev fake.o_156 (P : Params) : Obj := { cls := .type "tuple", data := .seq #[] }
noncomputable abbrev fake.o_157 (P : Params) : Obj := { cls := .none, data := .func { name := (Str.ofString "_law_stern"), qualname := (Str.ofString "_law_stern"), params := fp_12, body := .stmts fb_12, scope := fs_12, globals := 0, closure := [], defaults := .none, kwdefaults := .none } }
noncomputable abbrev fake.o_158 (P : Params) : Obj := { cls := .type "code", data := .fields #[.str (Str.ofString "_law_stern") 2304, .str (Str.ofString "_law_stern") 2305, .str (Str.ofString "/claim/cut.py") 2306, .int 77 0, .int 1 0, .int 0 0, .int 0 0, .int 3 0, .ref 140, .bool true, .int 181 0, .ref 141, .none, .ref 142, .ref 143, .ref 144, .int 2312 0, .int 77 0, .str (Str.ofString "/claim/cut.py") 2313] }
noncomputable abbrev fake.o_159 (P : Params) : Obj := { cls := .type "function", data := .func { name := (Str.ofString "_law_stern"), qualname := (Str.ofString "_law_stern"), params := fp_12, body := .stmts fb_12, scope := fs_12, globals := 3, closure := [], defaults := .none, kwdefaults := .none, pyModule := .str (Str.ofString "law_re0120_01") 2287, code := .ref 145 } }
noncomputable abbrev fake.o_160 (P : Params) : Obj := { cls := .type "tuple", data := .seq #[] }
noncomputable abbrev fake.o_161 (P : Params) : Obj := { cls := .none, data := .fields #[] }
noncomputable abbrev fake.o_162 (P : Params) : Obj := { cls := .none, data := .func { name := (Str.ofString "_law_waiting"), qualname := (Str.ofString "_law_waiting"), params := fp_13, body := .stmts fb_13, scope := fs_13, globals := 0, closure := [], defaults := .none, kwdefaults := .none } }
noncomputable abbrev fake.o_163 (P : Params) : Obj := { cls := .type "code", data := .fields #[.str (Str.ofString "_law_waiting") 2315, .str (Str.ofString "_law_waiting") 2316, .str (Str.ofString "/claim/cut.py") 2317, .int 85 0, .int 3 0, .int 0 0, .int 0 0, .int 3 0, .ref 147, .bool true, .int 181 0, .ref 148, .none, .none, .none, .ref 149, .int 2318 0, .int 85 0, .str (Str.ofString "/claim/cut.py") 2319] }
noncomputable abbrev fake.o_164 (P : Params) : Obj := { cls := .type "function", data := .func { name := (Str.ofString "_law_waiting"), qualname := (Str.ofString "_law_waiting"), params := fp_13, body := .stmts fb_13, scope := fs_13, globals := 3, closure := [], defaults := .none, kwdefaults := .none, pyModule := .str (Str.ofString "law_re0120_01") 2287, code := .ref 150 } }
noncomputable abbrev fake.o_165 (P : Params) : Obj := { cls := .type "tuple", data := .seq #[] }
noncomputable abbrev fake.o_166 (P : Params) : Obj := { cls := .none, data := .fields #[] }
noncomputable abbrev fake.o_167 (P : Params) : Obj := { cls := .none, data := .func { name := (Str.ofString "law"), qualname := (Str.ofString "law"), params := fp_14, body := .stmts fb_14, scope := fs_14, globals := 0, closure := [], defaults := .none, kwdefaults := .none } }
noncomputable abbrev fake.o_168 (P : Params) : Obj := { cls := .type "code", data := .fields #[.str (Str.ofString "law") 2321, .str (Str.ofString "law") 2322, .str (Str.ofString "/claim/cut.py") 2323, .int 90 0, .int 1 0, .int 0 0, .int 0 0, .int 3 0, .ref 152, .bool true, .int 181 0, .ref 153, .none, .none, .none, .ref 154, .int 2324 0, .int 90 0, .str (Str.ofString "/claim/cut.py") 2325] }
noncomputable abbrev fake.o_169 (P : Params) : Obj := { cls := .type "function", data := .func { name := (Str.ofString "law"), qualname := (Str.ofString "law"), params := fp_14, body := .stmts fb_14, scope := fs_14, globals := 3, closure := [], defaults := .none, kwdefaults := .none, pyModule := .str (Str.ofString "law_re0120_01") 2287, code := .ref 155 } }
end
section
open PySem PySem.W PyProof.Rows
set_option maxRecDepth 100000
set_option maxHeartbeats 0
set_option linter.unusedVariables false
noncomputable abbrev q_64 (P : Params) : Obj := { cls := .type "list", data := .seq #[.int 173 261, .int 847 262, .int 6150 263, .int 6155 264, .int 6156 265, .int 6157 266, .int 8203 267, .int 8204 268, .int 8205 269, .int 8288 270, .int 65279 271] }
noncomputable abbrev q_65 (P : Params) : Obj := { cls := .type "range", data := .fields #[.int 65024 272, .int 65040 273, .int 1 274] }
noncomputable abbrev q_66 (P : Params) : Obj := { cls := .type "list", data := .seq #[.int 65024 277, .int 65025 278, .int 65026 279, .int 65027 280, .int 65028 281, .int 65029 282, .int 65030 283, .int 65031 284, .int 65032 285, .int 65033 286, .int 65034 287, .int 65035 288, .int 65036 289, .int 65037 290, .int 65038 291, .int 65039 292] 18 }
noncomputable abbrev q_67 (P : Params) : Obj := { cls := .type "range_iterator", data := .fields #[.int 65040 0, .int 0 0, .int 1 0] }
noncomputable abbrev q_68 (P : Params) : Obj := { cls := .type "tuple", data := .seq #[] }
noncomputable abbrev q_69 (P : Params) : Obj := { cls := .type "StopIteration", data := .fields #[.ref 68, .none, .none, .none, .bool false, .none] }
noncomputable abbrev q_70 (P : Params) : Obj := { cls := .type "list", data := .seq #[.int 173 261, .int 847 262, .int 6150 263, .int 6155 264, .int 6156 265, .int 6157 266, .int 8203 267, .int 8204 268, .int 8205 269, .int 8288 270, .int 65279 271, .int 65024 277, .int 65025 278, .int 65026 279, .int 65027 280, .int 65028 281, .int 65029 282, .int 65030 283, .int 65031 284, .int 65032 285, .int 65033 286, .int 65034 287, .int 65035 288, .int 65036 289, .int 65037 290, .int 65038 291, .int 65039 292] }
noncomputable abbrev q_71 (P : Params) : Obj := { cls := .type "set", data := .set #[(65024, .int 65024 277), (65025, .int 65025 278), (65026, .int 65026 279), (65027, .int 65027 280), (65028, .int 65028 281), (65029, .int 65029 282), (6150, .int 6150 263), (65030, .int 65030 283), (65031, .int 65031 284), (65032, .int 65032 285), (65033, .int 65033 286), (6155, .int 6155 264), (6156, .int 6156 265), (6157, .int 6157 266), (8203, .int 8203 267), (8204, .int 8204 268), (8205, .int 8205 269), (65034, .int 65034 287), (65035, .int 65035 288), (65036, .int 65036 289), (65037, .int 65037 290), (65038, .int 65038 291), (65039, .int 65039 292), (173, .int 173 261), (847, .int 847 262), (8288, .int 8288 270), (65279, .int 65279 271)] 29 { mask := 127, place := #[0, 1, 2, 3, 4, 5, 6, 7, 8, 9, 10, 11, 12, 13, 14, 15, 16, 17, 18, 19, 20, 21, 22, 45, 79, 96, 127], dummies := #[], finger := 0, led := !P.followText "set-order", moves := 2, plain := true } }
noncomputable abbrev q_72 (P : Params) : Obj := { cls := .type "list_iterator", data := .fields #[.none, .int 27 0] }
noncomputable abbrev q_73 (P : Params) : Obj := { cls := .type "tuple", data := .seq #[] }
noncomputable abbrev q_74 (P : Params) : Obj := { cls := .type "StopIteration", data := .fields #[.ref 73, .none, .none, .none, .bool false, .none] }
noncomputable abbrev q_ns12 (P : Params) : Obj := { cls := .type "dict", data := .dict #[⟨PyData.keyHash P (Str.ofString "__name__"), .str (Str.ofString "__name__") 165, .str (Str.ofString "cpy313.stringprep") 259⟩, ⟨PyData.keyHash P (Str.ofString "__doc__"), .str (Str.ofString "__doc__") 166, .none⟩, ⟨PyData.keyHash P (Str.ofString "__package__"), .str (Str.ofString "__package__") 167, .none⟩, ⟨PyData.keyHash P (Str.ofString "__loader__"), .str (Str.ofString "__loader__") 168, .builtin "__main__.__loader__#opaque"⟩, ⟨PyData.keyHash P (Str.ofString "__spec__"), .str (Str.ofString "__spec__") 169, .none⟩, ⟨PyData.keyHash P (Str.ofString "__annotations__"), .str (Str.ofString "__annotations__") 170, .ref 6⟩, ⟨PyData.keyHash P (Str.ofString "__builtins__"), .str (Str.ofString "__builtins__") 171, .ref 4⟩, ⟨PyData.keyHash P (Str.ofString "__file__"), .str (Str.ofString "__file__") 173, .str (Str.ofString "/claim/cut.py") 172⟩, ⟨PyData.keyHash P (Str.ofString "__cached__"), .str (Str.ofString "__cached__") 174, .none⟩, ⟨PyData.keyHash P (Str.ofString "_netrclex"), .str (Str.ofString "_netrclex") 246, .ref 52⟩, ⟨PyData.keyHash P (Str.ofString "_iter_escaped_chars"), .str (Str.ofString "_iter_escaped_chars") 258, .ref 63⟩, ⟨PyData.keyHash P (Str.ofString "b1_set"), .str (Str.ofString "b1_set") 320, .ref 71⟩] 12 }
noncomputable abbrev q_ns13 (P : Params) : Obj := { cls := .type "dict", data := .dict #[⟨PyData.keyHash P (Str.ofString "__name__"), .str (Str.ofString "__name__") 165, .str (Str.ofString "cpy313.stringprep") 259⟩, ⟨PyData.keyHash P (Str.ofString "__doc__"), .str (Str.ofString "__doc__") 166, .none⟩, ⟨PyData.keyHash P (Str.ofString "__package__"), .str (Str.ofString "__package__") 167, .none⟩, ⟨PyData.keyHash P (Str.ofString "__loader__"), .str (Str.ofString "__loader__") 168, .builtin "__main__.__loader__#opaque"⟩, ⟨PyData.keyHash P (Str.ofString "__spec__"), .str (Str.ofString "__spec__") 169, .none⟩, ⟨PyData.keyHash P (Str.ofString "__annotations__"), .str (Str.ofString "__annotations__") 170, .ref 6⟩, ⟨PyData.keyHash P (Str.ofString "__builtins__"), .str (Str.ofString "__builtins__") 171, .ref 4⟩, ⟨PyData.keyHash P (Str.ofString "__file__"), .str (Str.ofString "__file__") 173, .str (Str.ofString "/claim/cut.py") 172⟩, ⟨PyData.keyHash P (Str.ofString "__cached__"), .str (Str.ofString "__cached__") 174, .none⟩, ⟨PyData.keyHash P (Str.ofString "_netrclex"), .str (Str.ofString "_netrclex") 246, .ref 52⟩, ⟨PyData.keyHash P (Str.ofString "_iter_escaped_chars"), .str (Str.ofString "_iter_escaped_chars") 258, .ref 63⟩, ⟨PyData.keyHash P (Str.ofString "b1_set"), .str (Str.ofString "b1_set") 320, .ref 71⟩, ⟨PyData.keyHash P (Str.ofString "in_table_b1"), .str (Str.ofString "in_table_b1") 327, .ref 81⟩] 13 }
noncomputable abbrev q_ns14 (P : Params) : Obj := { cls := .type "dict", data := .dict #[⟨PyData.keyHash P (Str.ofString "__name__"), .str (Str.ofString "__name__") 165, .str (Str.ofString "cpy313.stringprep") 259⟩, ⟨PyData.keyHash P (Str.ofString "__doc__"), .str (Str.ofString "__doc__") 166, .none⟩, ⟨PyData.keyHash P (Str.ofString "__package__"), .str (Str.ofString "__package__") 167, .none⟩, ⟨PyData.keyHash P (Str.ofString "__loader__"), .str (Str.ofString "__loader__") 168, .builtin "__main__.__loader__#opaque"⟩, ⟨PyData.keyHash P (Str.ofString "__spec__"), .str (Str.ofString "__spec__") 169, .none⟩, ⟨PyData.keyHash P (Str.ofString "__annotations__"), .str (Str.ofString "__annotations__") 170, .ref 6⟩, ⟨PyData.keyHash P (Str.ofString "__builtins__"), .str (Str.ofString "__builtins__") 171, .ref 4⟩, ⟨PyData.keyHash P (Str.ofString "__file__"), .str (Str.ofString "__file__") 173, .str (Str.ofString "/claim/cut.py") 172⟩, ⟨PyData.keyHash P (Str.ofString "__cached__"), .str (Str.ofString "__cached__") 174, .none⟩, ⟨PyData.keyHash P (Str.ofString "_netrclex"), .str (Str.ofString "_netrclex") 246, .ref 52⟩, ⟨PyData.keyHash P (Str.ofString "_iter_escaped_chars"), .str (Str.ofString "_iter_escaped_chars") 258, .ref 63⟩, ⟨PyData.keyHash P (Str.ofString "b1_set"), .str (Str.ofString "b1_set") 320, .ref 71⟩, ⟨PyData.keyHash P (Str.ofString "in_table_b1"), .str (Str.ofString "in_table_b1") 327, .ref 81⟩, ⟨PyData.keyHash P (Str.ofString "b3_exceptions"), .str (Str.ofString "b3_exceptions") 2278, .ref 82⟩] 14 }
noncomputable abbrev q_ns20 (P : Params) : Obj := { cls := .type "dict", data := .dict #[⟨PyData.keyHash P (Str.ofString "__name__"), .str (Str.ofString "__name__") 165, .str (Str.ofString "law_re0120_01") 2287⟩, ⟨PyData.keyHash P (Str.ofString "__doc__"), .str (Str.ofString "__doc__") 166, .none⟩, ⟨PyData.keyHash P (Str.ofString "__package__"), .str (Str.ofString "__package__") 167, .none⟩, ⟨PyData.keyHash P (Str.ofString "__loader__"), .str (Str.ofString "__loader__") 168, .builtin "__main__.__loader__#opaque"⟩, ⟨PyData.keyHash P (Str.ofString "__spec__"), .str (Str.ofString "__spec__") 169, .none⟩, ⟨PyData.keyHash P (Str.ofString "__annotations__"), .str (Str.ofString "__annotations__") 170, .ref 6⟩, ⟨PyData.keyHash P (Str.ofString "__builtins__"), .str (Str.ofString "__builtins__") 171, .ref 4⟩, ⟨PyData.keyHash P (Str.ofString "__file__"), .str (Str.ofString "__file__") 173, .str (Str.ofString "/claim/cut.py") 172⟩, ⟨PyData.keyHash P (Str.ofString "__cached__"), .str (Str.ofString "__cached__") 174, .none⟩, ⟨PyData.keyHash P (Str.ofString "_netrclex"), .str (Str.ofString "_netrclex") 246, .ref 52⟩, ⟨PyData.keyHash P (Str.ofString "_iter_escaped_chars"), .str (Str.ofString "_iter_escaped_chars") 258, .ref 63⟩, ⟨PyData.keyHash P (Str.ofString "b1_set"), .str (Str.ofString "b1_set") 320, .ref 71⟩, ⟨PyData.keyHash P (Str.ofString "in_table_b1"), .str (Str.ofString "in_table_b1") 327, .ref 81⟩, ⟨PyData.keyHash P (Str.ofString "b3_exceptions"), .str (Str.ofString "b3_exceptions") 2278, .ref 82⟩, ⟨PyData.keyHash P (Str.ofString "map_table_b3"), .str (Str.ofString "map_table_b3") 2286, .ref 127⟩, ⟨PyData.keyHash P (Str.ofString "_law_lexer"), .str (Str.ofString "_law_lexer") 2297, .ref 134⟩, ⟨PyData.keyHash P (Str.ofString "_law_prepared"), .str (Str.ofString "_law_prepared") 2303, .ref 139⟩, ⟨PyData.keyHash P (Str.ofString "_law_stern"), .str (Str.ofString "_law_stern") 2314, .ref 146⟩, ⟨PyData.keyHash P (Str.ofString "_law_waiting"), .str (Str.ofString "_law_waiting") 2320, .ref 151⟩, ⟨PyData.keyHash P (Str.ofString "law"), .str (Str.ofString "law") 2326, .ref 156⟩] 20 }
noncomputable abbrev q_st82 (P : Params) : Obj := { cls := .none, data := .fields #[.int 2 0, .int 0 0, .ref 20, .int 46 0, .int 0 0, .ref 62, .int 61 0, .int 0 0, .ref 80] }
noncomputable abbrev q_T82 (P : Params) : BT := (.node (boot_o_0 P) (.node (boot_o_1 P) (.node (q_ns13 P) (.node (boot_o_7 P) (.node (top5.o_7 P) (.node (top5.o_23 P) (.node (top5.o_55 P) .nil .nil) .nil) (.node (top5.o_39 P) (.node (fake.o_74 P) .nil .nil) .nil)) (.node (top5.o_15 P) (.node (top5.o_31 P) (.node (q_71 P) .nil .nil) .nil) (.node (top5.o_47 P) .nil .nil))) (.node (top5.o_1 P) (.node (top5.o_11 P) (.node (top5.o_27 P) (.node (q_67 P) .nil .nil) .nil) (.node (top5.o_43 P) .nil .nil)) (.node (top5.o_19 P) (.node (top5.o_35 P) (.node (fake.o_70 P) .nil .nil) .nil) (.node (top5.o_51 P) .nil .nil)))) (.node (boot_o_5 P) (.node (boot_o_9 P) (.node (top5.o_9 P) (.node (top5.o_25 P) (.node (q_65 P) .nil .nil) .nil) (.node (top5.o_41 P) (.node (fake.o_76 P) .nil .nil) .nil)) (.node (top5.o_17 P) (.node (top5.o_33 P) (.node (q_73 P) .nil .nil) .nil) (.node (top5.o_49 P) .nil .nil))) (.node (top5.o_3 P) (.node (top5.o_13 P) (.node (top5.o_29 P) (.node (q_69 P) .nil .nil) .nil) (.node (top5.o_45 P) .nil .nil)) (.node (top5.o_21 P) (.node (top5.o_37 P) (.node (fake.o_72 P) .nil .nil) .nil) (.node (top5.o_53 P) .nil .nil))))) (.node (boot_o_2 P) (.node (boot_o_4 P) (.node (boot_o_8 P) (.node (top5.o_8 P) (.node (top5.o_24 P) (.node (q_64 P) .nil .nil) .nil) (.node (top5.o_40 P) (.node (fake.o_75 P) .nil .nil) .nil)) (.node (top5.o_16 P) (.node (top5.o_32 P) (.node (q_72 P) .nil .nil) .nil) (.node (top5.o_48 P) .nil .nil))) (.node (q_st82 P) (.node (top5.o_12 P) (.node (top5.o_28 P) (.node (q_68 P) .nil .nil) .nil) (.node (top5.o_44 P) .nil .nil)) (.node (top5.o_20 P) (.node (top5.o_36 P) (.node (fake.o_71 P) .nil .nil) .nil) (.node (top5.o_52 P) .nil .nil)))) (.node (boot_o_6 P) (.node (boot_o_10 P) (.node (top5.o_10 P) (.node (top5.o_26 P) (.node (q_66 P) .nil .nil) .nil) (.node (top5.o_42 P) .nil .nil)) (.node (top5.o_18 P) (.node (top5.o_34 P) (.node (q_74 P) .nil .nil) .nil) (.node (top5.o_50 P) .nil .nil))) (.node (top5.o_4 P) (.node (top5.o_14 P) (.node (top5.o_30 P) (.node (q_70 P) .nil .nil) .nil) (.node (top5.o_46 P) .nil .nil)) (.node (top5.o_22 P) (.node (top5.o_38 P) (.node (fake.o_73 P) .nil .nil) .nil) (.node (top5.o_54 P) .nil .nil))))))
noncomputable abbrev q_T75 (P : Params) : BT := (.node (boot_o_0 P) (.node (boot_o_1 P) (.node (q_ns12 P) (.node (boot_o_7 P) (.node (top5.o_7 P) (.node (top5.o_23 P) (.node (top5.o_55 P) .nil .nil) .nil) (.node (top5.o_39 P) .nil .nil)) (.node (top5.o_15 P) (.node (top5.o_31 P) (.node (q_71 P) .nil .nil) .nil) (.node (top5.o_47 P) .nil .nil))) (.node (top5.o_1 P) (.node (top5.o_11 P) (.node (top5.o_27 P) (.node (q_67 P) .nil .nil) .nil) (.node (top5.o_43 P) .nil .nil)) (.node (top5.o_19 P) (.node (top5.o_35 P) .nil .nil) (.node (top5.o_51 P) .nil .nil)))) (.node (boot_o_5 P) (.node (boot_o_9 P) (.node (top5.o_9 P) (.node (top5.o_25 P) (.node (q_65 P) .nil .nil) .nil) (.node (top5.o_41 P) .nil .nil)) (.node (top5.o_17 P) (.node (top5.o_33 P) (.node (q_73 P) .nil .nil) .nil) (.node (top5.o_49 P) .nil .nil))) (.node (top5.o_3 P) (.node (top5.o_13 P) (.node (top5.o_29 P) (.node (q_69 P) .nil .nil) .nil) (.node (top5.o_45 P) .nil .nil)) (.node (top5.o_21 P) (.node (top5.o_37 P) .nil .nil) (.node (top5.o_53 P) .nil .nil))))) (.node (boot_o_2 P) (.node (boot_o_4 P) (.node (boot_o_8 P) (.node (top5.o_8 P) (.node (top5.o_24 P) (.node (q_64 P) .nil .nil) .nil) (.node (top5.o_40 P) .nil .nil)) (.node (top5.o_16 P) (.node (top5.o_32 P) (.node (q_72 P) .nil .nil) .nil) (.node (top5.o_48 P) .nil .nil))) (.node (top5.o_6 P) (.node (top5.o_12 P) (.node (top5.o_28 P) (.node (q_68 P) .nil .nil) .nil) (.node (top5.o_44 P) .nil .nil)) (.node (top5.o_20 P) (.node (top5.o_36 P) .nil .nil) (.node (top5.o_52 P) .nil .nil)))) (.node (boot_o_6 P) (.node (boot_o_10 P) (.node (top5.o_10 P) (.node (top5.o_26 P) (.node (q_66 P) .nil .nil) .nil) (.node (top5.o_42 P) .nil .nil)) (.node (top5.o_18 P) (.node (top5.o_34 P) (.node (q_74 P) .nil .nil) .nil) (.node (top5.o_50 P) .nil .nil))) (.node (top5.o_4 P) (.node (top5.o_14 P) (.node (top5.o_30 P) (.node (q_70 P) .nil .nil) .nil) (.node (top5.o_46 P) .nil .nil)) (.node (top5.o_22 P) (.node (top5.o_38 P) .nil .nil) (.node (top5.o_54 P) .nil .nil))))))
noncomputable def topStm (i : Nat) : Stmt := (PySem.Challenge.pw_re0120_01.main.body[i]?).getD (.Pass default)
noncomputable abbrev zP : Pos := { line := 0, col := 0, endLine := 0, endCol := 0 }
noncomputable abbrev stT (T : BT) (n k : Nat) (os : OsState) : SharedT := { tree := T, n := n, life := { }, gens := { toList := [] }, drawn := { }, toks := k, os := os }
noncomputable abbrev P5 (w : World) : Prop := (fun p bd os => segRunT treeTable p w 11 (some (Value.ref 6)) 1 1000 (stT (top5.tree_55 w.params) 64 261 os) (piecesOf [topStm 5] top5.env_1 (Code.body bd top5.env_1) { line := 59, col := 0, endLine := 59, endCol := 8 } [topFrame zP])) =
  fun (p : Program) (bd : List Stmt) os => some (Flow.next, stT (q_T75 w.params) 75 321 os, Code.body bd top5.env_1, { line := 60, col := 0, endLine := 60, endCol := 6 })
theorem p5_ff (w : World) : P5 ((w.withFollow "set-order" false).withFollow "special-get-raises" false) := by
  unfold P5
  rw [PySem.W.Fast.te10110043849684766642, PySem.W.Fast.te14364793385576792824]
  kernel_rfl
theorem p5_ft (w : World) : P5 ((w.withFollow "set-order" false).withFollow "special-get-raises" true) := by
  unfold P5
  rw [PySem.W.Fast.te10110043849684766642, PySem.W.Fast.te14364793385576792824]
  kernel_rfl
theorem p5_tf (w : World) : P5 ((w.withFollow "set-order" true).withFollow "special-get-raises" false) := by
  unfold P5
  rw [PySem.W.Fast.te10110043849684766642, PySem.W.Fast.te14364793385576792824]
  kernel_rfl
theorem p5_tt (w : World) : P5 ((w.withFollow "set-order" true).withFollow "special-get-raises" true) := by
  unfold P5
  rw [PySem.W.Fast.te10110043849684766642, PySem.W.Fast.te14364793385576792824]
  kernel_rfl
theorem p5 (w : World) : P5 w :=
  byRow2 "special-get-raises" (P := P5) (byRow2 "set-order" (P := fun w => P5 (w.withFollow "special-get-raises" false)) p5_ff p5_tf)
    (byRow2 "set-order" (P := fun w => P5 (w.withFollow "special-get-raises" true)) p5_ft p5_tt) w
noncomputable abbrev P6 (w : World) : Prop := (fun p bd os => segRunT treeTable p w 11 (some (Value.ref 6)) 1 30 (stT (q_T75 w.params) 75 321 os) (piecesOf [topStm 6] top5.env_1 (Code.body bd top5.env_1) { line := 60, col := 0, endLine := 60, endCol := 6 } [topFrame zP])) =
  fun (p : Program) (bd : List Stmt) os => some (Flow.next, stT (q_T82 w.params) 82 328 os, Code.body bd top5.env_1, { line := 61, col := 0, endLine := 62, endCol := 30 })
theorem p6 (w : World) : P6 w := by
  unfold P6
  rw [PySem.W.Fast.te10110043849684766642, PySem.W.Fast.te14364793385576792824]
  kernel_rfl
end
section
open PySem PySem.W PyProof.Rows
set_option maxRecDepth 100000
set_option maxHeartbeats 4000000
set_option linter.unusedVariables false
noncomputable abbrev zeroP : Pos := { line := 0, col := 0, endLine := 0, endCol := 0 }
section
variable {p : Program} {w : World}
theorem go_trans : ∀ {n m : Nat} {s s1 : Shared} {t t1 : Thread} {r : Option (Shared × Thread)}, segGo treeTable p w 11 (some (.ref 6)) 1 n s t = some (s1, t1) → segGo treeTable p w 11 (some (.ref 6)) 1 m s1 t1 = r → segGo treeTable p w 11 (some (.ref 6)) 1 (n + m) s t = r
  | 0, m, s, s1, t, t1, r, h, k => by
    obtain ⟨rfl, rfl⟩ : s = s1 ∧ t = t1 := by simpa [segGo] using h
    rw [Nat.zero_add]; exact k
  | n + 1, m, s, s1, t, t1, r, h, k => by
    rw [show n + 1 + m = n + m + 1 by omega]
    unfold segGo at h ⊢
    cases he : endAt 1 t with
    | some f => rw [he] at h; cases h
    | none =>
      rw [he] at h
      cases hk : stepOk 11 (some (.ref 6)) t with
      | false => rw [hk] at h; cases h
      | true =>
        rw [hk] at h
        cases hs : step (denote treeTable) p w s t with
        | halt o s₂ => rw [hs] at h; cases h
        | go s₂ t₂ => rw [hs] at h; exact go_trans h k
theorem go_succ {n : Nat} {s s1 : Shared} {t t1 : Thread} {r : Option (Shared × Thread)} (he : endAt 1 t = none) (hk : stepOk 11 (some (.ref 6)) t = true) (hs : step (denote treeTable) p w s t = .go s1 t1)
    (h : segGo treeTable p w 11 (some (.ref 6)) 1 n s1 t1 = r) : segGo treeTable p w 11 (some (.ref 6)) 1 (n + 1) s t = r := by
  unfold segGo; rw [he, hk, hs]; exact h
/-- a tree that ends with a value, in n steps, at the top -/
noncomputable def Does (p : Program) (w : World) {α : Type} (n : Nat) (m : Sem α) (s : Shared) (a : α) (s' : Shared) : Prop :=
  ∀ (K : α → Sem Fin) (H : Value → Sem Fin) (gd : Bool → Bool) (lv : List Value → List Value) (code : Code) (pos : Pos), ∃ pos', segGo treeTable p w 11 (some (.ref 6)) 1 n s ⟨m.wrap K H gd lv, code, pos, [topFrame zeroP]⟩ = some (s', ⟨K a, code, pos', [topFrame zeroP]⟩)
variable {α β : Type} {s s' s1 : Shared} {n n' k : Nat}
theorem Does.cast {m : Sem α} {a : α} (h : Does p w n m s a s') (e : n = n') : Does p w n' m s a s' := e ▸ h
theorem does_pure {a : α} : Does p w 0 (pure a : Sem α) s a s := fun _ _ _ _ _ pos => ⟨pos, rfl⟩
theorem does_bind {m : Sem α} {f : α → Sem β} {a : α} {b : β} (h : Does p w n m s a s1) (h' : Does p w n' (f a) s1 b s') : Does p w (n + n') (m >>= f) s b s' := by
  intro K H gd lv code pos
  rw [Sem.bind_eq_wrap', Sem.wrap_wrap]
  obtain ⟨p1, e1⟩ := h (fun a => (f a).wrap K H gd lv) (fun e => (Sem.raise e).wrap K H gd lv) (fun g => gd (id g)) (fun l => lv (id l)) code pos
  obtain ⟨p2, e2⟩ := h' K H gd lv code p1
  exact ⟨p2, go_trans e1 e2⟩
theorem does_holding {m : Sem α} {vs : List Value} {a : α} (h : Does p w n m s a s') : Does p w n (holding vs m) s a s' := by
  unfold holding
  split
  · exact h
  · intro K H gd lv code pos
    rw [Sem.keep_eq_wrap, Sem.wrap_wrap]
    exact h _ _ _ _ code pos
theorem does_onRaise {m : Sem α} {f : Value → Sem Unit} {a : α} (h : Does p w n m s a s') : Does p w n (m.onRaise f) s a s' := by
  intro K H gd lv code pos
  rw [Sem.onRaise_eq_wrap, Sem.wrap_wrap]
  exact h _ _ _ _ code pos
theorem does_tryCatch {m : Sem α} {f : Value → Sem α} {a : α} (h : Does p w n m s a s') : Does p w n (tryCatch m f) s a s' := by
  intro K H gd lv code pos
  rw [show (tryCatch m f : Sem α) = Sem.tryCatch m f from rfl, Sem.tryCatch_eq_wrap, Sem.wrap_wrap]
  exact h _ _ _ _ code pos
theorem does_map {m : Sem α} {f : α → β} {a : α} (h : Does p w n m s a s') : Does p w n (f <$> m) s (f a) s' := by
  have := does_bind (f := fun a => (pure (f a) : Sem β)) h does_pure
  exact this
theorem does_rule {t : String} : Does p w 1 (rule t) s () s := fun K H gd lv code pos => ⟨pos, by obtain ⟨heap, gens, drawn, toks, os⟩ := s; exact go_succ rfl rfl rfl rfl⟩
theorem does_at {q : Pos} : Does p w 1 (standAt q) s () s := fun K H gd lv code pos => ⟨q, by obtain ⟨heap, gens, drawn, toks, os⟩ := s; exact go_succ rfl rfl rfl rfl⟩
theorem does_ask : Does p w 1 ask s ⟨p, w.params⟩ s := fun K H gd lv code pos => ⟨pos, by obtain ⟨heap, gens, drawn, toks, os⟩ := s; exact go_succ rfl rfl rfl rfl⟩
theorem does_fresh : Does p w 1 fresh s s.toks { s with toks := s.toks + 1 } := fun K H gd lv code pos => ⟨pos, by obtain ⟨heap, gens, drawn, toks, os⟩ := s; exact go_succ rfl rfl rfl rfl⟩
theorem does_mkInt {i : Int} : Does p w 1 (mkInt i) s (.int i s.toks) { s with toks := s.toks + 1 } := does_bind (f := fun t => (pure (Value.int i t) : Sem Value)) does_fresh does_pure
theorem does_mkText {x : Str} : Does p w 1 (mkText x) s (.str x s.toks) { s with toks := s.toks + 1 } := does_bind (f := fun t => (pure (Value.str x t) : Sem Value)) does_fresh does_pure
theorem does_loadPart {a : Addr} {part : Option Value} {o : Obj} (h : s.heap.get? a = some o) : Does p w 1 (loadPart a part) s o s := fun K H gd lv code pos => ⟨pos, by
  obtain ⟨heap, gens, drawn, toks, os⟩ := s
  refine go_succ rfl rfl (s1 := ⟨heap, gens, drawn, toks, os⟩) (t1 := ⟨K o, code, pos, [topFrame zeroP]⟩) ?_ rfl
  simp only [loadPart, Sem.wrap, step, show heap.get? a = some o from h]⟩
theorem does_load {a : Addr} {o : Obj} (h : s.heap.get? a = some o) : Does p w 1 (load a) s o s := does_loadPart h
theorem does_updatePart {a : Addr} {part : Option Value} {f : Obj → Obj} {o : Obj} (h : s.heap.get? a = some o) (ha : Nat.ble 11 a = true) : Does p w 1 (updatePart a part f) s () { s with heap := s.heap.update a f } := fun K H gd lv code pos => ⟨pos, by
  obtain ⟨heap, gens, drawn, toks, os⟩ := s
  refine go_succ rfl ?_ (s1 := ⟨heap.update a f, gens, drawn, toks, os⟩) (t1 := ⟨K (), code, pos, [topFrame zeroP]⟩) ?_ rfl
  · simp only [updatePart, Sem.wrap, stepOk, ha, Bool.true_or, Bool.and_true]; rfl
  · simp only [updatePart, Sem.wrap, step, show heap.get? a = some o from h, Option.isSome_some, if_true]⟩
theorem does_alloc {o : Obj} : Does p w 1 (alloc o) s s.heap.objs.size { s with heap := s.heap.push o } := fun K H gd lv code pos => ⟨pos, by obtain ⟨heap, gens, drawn, toks, os⟩ := s; exact go_succ rfl rfl rfl rfl⟩
theorem den_hash1 (k : Int) (t : Tok) : denote treeTable (.call (.builtin "int.__hash__") ⟨[.int k t], []⟩) = .pure (.again (.builtin "int.__hash__" ⟨[.int k t], []⟩)) := by kernel_rfl
theorem den_hash2 (k : Int) (t : Tok) : denote treeTable (.builtin "int.__hash__" ⟨[.int k t], []⟩) = .fresh fun u => .pure (.done (.ret (.int (rawHash k) u))) := by kernel_rfl
theorem quiet_hash (k : Int) (t : Tok) (code : Code) (pos : Pos) (st : List Frame) : stepOk 11 (some (.ref 6)) ⟨.pure (.again (.builtin "int.__hash__" ⟨[.int k t], []⟩)), code, pos, st⟩ = true := by kernel_rfl
theorem does_hashcall {k : Int} {t : Tok} : Does p w 4 (call (.builtin "int.__hash__") [.int k t]) s (.int (rawHash k) s.toks) { s with toks := s.toks + 1 } := fun K H gd lv code pos => ⟨pos, by
  obtain ⟨heap, gens, drawn, toks, os⟩ := s
  refine go_succ (s1 := ⟨heap, gens, drawn, toks, os⟩) (t1 := ⟨denote treeTable (.call (.builtin "int.__hash__") ⟨[.int k t], []⟩), .call (.builtin "int.__hash__") ⟨[.int k t], []⟩, pos, _ :: [topFrame zeroP]⟩) rfl rfl rfl ?_
  rw [den_hash1]
  refine go_succ (s1 := ⟨heap, gens, drawn, toks, os⟩) rfl (quiet_hash ..) (step_again ..) ?_
  rw [den_hash2]
  refine go_succ rfl rfl rfl ?_
  exact go_succ rfl rfl rfl rfl⟩
end
end
section
open PySem PySem.W PyProof.Rows
set_option maxRecDepth 100000
set_option maxHeartbeats 4000000
set_option linter.unusedVariables false
section
variable {p : Program} {w : World} {α β : Type} {s s' s1 : Shared} {n n' : Nat}
theorem does_special {k : Int} {t : Tok} : Does p w 0 (specialOf (.int k t) "__hash__") s (some (.builtin "int.__hash__")) s := by
  have e : specialOf (.int k t) "__hash__" = pure (some (.builtin "int.__hash__")) := by
    unfold specialOf
    show (pure (Value.type "int") >>= fun T => typeLookup T "__hash__") = _
    exact slot_int_hash.lookup
  rw [e]; exact does_pure
theorem does_slotHash {k : Int} {t : Tok} {refuse : Sem Value} : Does p w 5 (callSpecialIfBoundUnlessNone? (.int k t) "__hash__" refuse) s (some (.int (rawHash k) s.toks)) { s with toks := s.toks + 1 } := by
  simp only [callSpecialIfBoundUnlessNone?, bindSpecialIfBound?]
  refine does_holding (Does.cast (does_bind (a := some (Value.builtin "int.__hash__", [Value.int k t])) (s1 := s) (does_bind does_special (n' := 1) ?_) (n' := 4) ?_) rfl)
  · simp only [slot_int_hash.bind]
    refine Does.cast (does_bind does_ask (n' := 0) ?_) rfl
    dsimp only
    split
    · exact does_bind (n := 0) (n' := 0) does_pure does_pure
    · exact does_tryCatch (does_bind (n := 0) (n' := 0) does_pure does_pure)
  · show Does p w 4 (if (Value.builtin "int.__hash__" == Value.none) = true then _ else _) _ _ _
    rw [if_neg (by rw [builtin_beq_none]; exact Bool.false_ne_true)]
    exact does_bind (n' := 0) does_hashcall does_pure
theorem does_pyHash {k : Int} {t : Tok} : Does p w 5 (pyHash (.int k t)) s (hashInt k) { s with toks := s.toks + 1 } := by
  have hr := rawHash_range k
  unfold pyHash
  show Does p w 5 (pyHashByItsType (.int k t)) _ _ _
  unfold pyHashByItsType
  have hv : [Value.int k t].any Value.onHeap = false := rfl
  refine Does.cast (does_bind (n := 0) (n' := 5) (a := ()) (s1 := s) ?_ ?_) rfl
  · rw [cRoomFor, if_neg (by rw [hv]; exact Bool.false_ne_true)]; exact does_pure
  refine Does.cast (does_bind does_special ?_ (n' := 5)) rfl
  show Does p w 5 (if (some (Value.builtin "int.__hash__") == some Value.none) = true then _ else _) _ _ _
  rw [if_neg (by rw [beq_builtin_none]; exact Bool.false_ne_true)]
  refine Does.cast (does_bind does_special ?_ (n' := 5)) rfl
  refine Does.cast (does_bind does_slotHash ?_ (n' := 0)) rfl
  show Does p w 0 (if (decide (-(2 : Int) ^ 63 ≤ rawHash k) && decide (rawHash k < 2 ^ 63)) = true then _ else _) _ _ _
  rw [if_pos (by rw [decide_eq_true hr.1, decide_eq_true hr.2]; rfl)]
  exact does_pure
/-- a dict of text-free keys -/
noncomputable abbrev dObj (es : List DictEntry) (n : Nat) : Obj := { cls := .type "dict", data := .dict es.toArray n }
theorem does_entries {d : Addr} {part : Option Value} {es : List DictEntry} {m : Nat} (h : s.heap.get? d = some (dObj es m)) : Does p w 1 (dictEntries d part) s es.toArray s :=
  Does.cast (does_bind (n' := 0) (does_loadPart h) does_pure) rfl
theorem does_epoch {d : Addr} {part : Option Value} {es : List DictEntry} {m : Nat} (h : s.heap.get? d = some (dObj es m)) : Does p w 1 (dictEpoch d part) s m s :=
  Does.cast (does_bind (n' := 0) (does_loadPart h) does_pure) rfl
theorem places_none {es : List DictEntry} {h : Int} (H : ∀ e ∈ es, e.hash ≠ h) : placesWithHash es.toArray.size (fun i => es.toArray[i]?.map (·.hash)) h = [] := by
  unfold placesWithHash
  rw [List.filter_eq_nil_iff]
  intro i hi
  have hi' : i < es.length := by simpa using hi
  have := H _ (List.getElem_mem hi')
  simp [hi', this]
theorem does_find {d : Addr} {es : List DictEntry} {m : Nat} {k : Int} {t : Tok} {h : Int} (hd : s.heap.get? d = some (dObj es m)) (H : ∀ e ∈ es, e.hash ≠ h) : Does p w 1 (dictFind d (.int k t) h) s none s := by
  unfold dictFind
  refine does_holding (Does.cast (does_bind (does_entries hd) ?_ (n' := 0)) rfl)
  show Does p w 0 (let places := placesWithHash es.toArray.size (fun i => es.toArray[i]?.map (·.hash)) h; _) _ _ _
  rw [places_none H]
  exact does_pure
theorem does_push {d : Addr} {part : Option Value} {es : List DictEntry} {m : Nat} {e : DictEntry} (hd : s.heap.get? d = some (dObj es m)) (ha : Nat.ble 11 d = true) (hz : es.length + 1 ≤ sizeLine) :
    Does p w 3 (updateDictKeys d (·.push e) part) s () { s with heap := s.heap.update d (Obj.mapDictKeys (·.push e)) } := by
  unfold updateDictKeys
  refine Does.cast (does_bind (does_loadPart hd) ?_ (n' := 2)) rfl
  refine Does.cast (does_bind (does_updatePart hd ha) ?_ (n' := 1)) rfl
  unfold lookBehind
  refine Does.cast (does_bind (does_loadPart (o := Obj.mapDictKeys (·.push e) (dObj es m)) ?_) ?_ (n' := 0)) rfl
  · exact Heap.get?_update_self _ hd rfl
  · have z : (Obj.mapDictKeys (·.push e) (dObj es m)).data.pastItsLine = none := pastItsLine_dict (by rw [Array.size_push, List.size_toArray]; exact Nat.le_succ_of_le hz)
    rw [z]; exact does_pure
end
end
section
open PySem PySem.W PyProof.Rows
set_option maxRecDepth 100000
set_option maxHeartbeats 4000000
set_option linter.unusedVariables false
/-- the shared state over a list of objects -/
noncomputable abbrev stL (l : List Obj) (tk : Nat) (os : OsState) : Shared := { heap := { objs := l.toArray, life := { } }, gens := { toList := [] }, drawn := { }, toks := tk, os := os }
theorem stL_get {pre post : List Obj} {es : List DictEntry} {m d tk : Nat} {os : OsState} (hd : d = pre.length) : (stL (pre ++ dObj es m :: post) tk os).heap.get? d = some (dObj es m) := by
  subst hd
  show (Heap.mk (pre ++ dObj es m :: post).toArray _).get? pre.length = _
  unfold Heap.get?
  simp
theorem stL_update {pre post : List Obj} {o : Obj} {d tk : Nat} {os : OsState} {f : Obj → Obj} (hd : d = pre.length) :
    { stL (pre ++ o :: post) tk os with heap := (stL (pre ++ o :: post) tk os).heap.update d f } = stL (pre ++ f o :: post) tk os := by
  subst hd
  have : (pre ++ o :: post).toArray.modify pre.length f = (pre ++ f o :: post).toArray := by
    apply Array.ext'
    simp only [List.modify_toArray]
    induction pre with
    | nil => rfl
    | cons a l ih => simpa [List.modify_succ_cons] using ih
  show Shared.mk (Heap.mk ((pre ++ o :: post).toArray.modify pre.length f) _) _ _ _ _ = _
  rw [this]
theorem stL_push {l : List Obj} {o : Obj} {tk : Nat} {os : OsState} : { stL l tk os with heap := (stL l tk os).heap.push o } = stL (l ++ [o]) tk os := by
  show Shared.mk (Heap.mk (l.toArray.push o) _) _ _ _ _ = _
  rw [List.push_toArray]
section
variable {p : Program} {w : World} {α β : Type} {s s' s1 : Shared} {n n' : Nat} {pre post : List Obj} {es : List DictEntry} {m d tk : Nat} {os : OsState}
noncomputable abbrev mapPush (e : DictEntry) (es : List DictEntry) (m : Nat) : Obj.mapDictKeys (·.push e) (dObj es m) = dObj (es ++ [e]) (m + 1) := by
  show Obj.mk _ _ (.dict (es.toArray.push e) (m + 1)) _ = _
  rw [List.push_toArray]
theorem does_pushL {part : Option Value} {e : DictEntry} (hd : d = pre.length) (ha : Nat.ble 11 d = true) (hz : es.length + 1 ≤ sizeLine) :
    Does p w 3 (updateDictKeys d (·.push e) part) (stL (pre ++ dObj es m :: post) tk os) () (stL (pre ++ dObj (es ++ [e]) (m + 1) :: post) tk os) := by
  have h := does_push (p := p) (w := w) (part := part) (e := e) (stL_get (pre := pre) (post := post) (es := es) (m := m) (tk := tk) (os := os) hd) ha hz
  rw [stL_update hd, mapPush] at h
  exact h
theorem does_dictSet {k : Int} {t : Tok} {v : Value} (hd : d = pre.length) (ha : Nat.ble 11 d = true) (hz : es.length + 1 ≤ sizeLine) (H : ∀ e ∈ es, e.hash ≠ hashInt k) :
    Does p w 10 (dictSet d (.int k t) v) (stL (pre ++ dObj es m :: post) tk os) () (stL (pre ++ dObj (es ++ [⟨hashInt k, .int k t, v⟩]) (m + 1) :: post) (tk + 1) os) := by
  unfold dictSet dictSetHashed
  refine does_holding (Does.cast (does_bind does_pyHash (n' := 5) (does_holding ?_)) rfl)
  refine Does.cast (does_bind (does_find (stL_get hd) H) (n' := 4) ?_) rfl
  dsimp only
  refine Does.cast (does_bind does_rule (n' := 3) ?_) rfl
  exact does_pushL hd ha hz
theorem does_put {k : Int} {t : Tok} {v : Value} {h : Int} (hd : d = pre.length) (ha : Nat.ble 11 d = true) (hz : es.length + 1 ≤ sizeLine) (H : ∀ e ∈ es, e.hash ≠ h) :
    Does p w 4 (dictPut d h (.int k t) v) (stL (pre ++ dObj es m :: post) tk os) () (stL (pre ++ dObj (es ++ [⟨h, .int k t, v⟩]) (m + 1) :: post) tk os) := by
  unfold dictPut
  refine Does.cast (does_bind (does_find (stL_get hd) H) (n' := 3) ?_) rfl
  exact does_pushL hd ha hz
/-- what a pair of trees yields -/
noncomputable def IsPair (p : Program) (w : World) (x : Sem Value × Sem Value) (e : Int × Str) : Prop :=
  (∀ s, Does p w 1 x.1 s (.int e.1 s.toks) { s with toks := s.toks + 1 }) ∧ ∀ s, Does p w 2 x.2 s (.str e.2 s.toks) { s with toks := s.toks + 1 }
inductive Pairs (p : Program) (w : World) : List (Sem Value × Sem Value) → List (Int × Str) → Prop
  | nil : Pairs p w [] []
  | cons {x e X L} (h : IsPair p w x e) (r : Pairs p w X L) : Pairs p w (x :: X) (e :: L)
theorem Pairs.length {X : List (Sem Value × Sem Value)} {L : List (Int × Str)} (h : Pairs p w X L) : X.length = L.length := by induction h <;> simp [*]
theorem Pairs.append {X Y : List (Sem Value × Sem Value)} {L M : List (Int × Str)} (h : Pairs p w X L) (h' : Pairs p w Y M) : Pairs p w (X ++ Y) (L ++ M) := by
  induction h with
  | nil => exact h'
  | cons a _ ih => exact .cons a ih
noncomputable def entE (tk : Nat) : List (Int × Str) → List DictEntry
  | [] => []
  | (k, v) :: r => ⟨hashInt k, .int k tk, .str v (tk + 1)⟩ :: entE (tk + 3) r
noncomputable def entV (tk : Nat) : List (Int × Str) → List DictEntry
  | [] => []
  | (k, v) :: r => ⟨hashInt k, .int k tk, .str v (tk + 1)⟩ :: entV (tk + 2) r
theorem does_long (hd : d = pre.length) (ha : Nat.ble 11 d = true) {f : Sem Value × Sem Value → PUnit → Sem (ForInStep PUnit)}
    (hf : ∀ x u, f x u = (do let kv ← x.1; let vv ← holding [kv] x.2; holding [kv, vv] (dictSet d kv vv); pure (ForInStep.yield PUnit.unit))) :
    ∀ {X : List (Sem Value × Sem Value)} {L : List (Int × Str)} {es : List DictEntry} {m tk : Nat}, Pairs p w X L → ((es.map (·.hash)) ++ L.map (fun e => hashInt e.1)).Nodup → es.length + L.length ≤ sizeLine →
    Does p w (13 * L.length) (forIn X PUnit.unit f) (stL (pre ++ dObj es m :: post) tk os) PUnit.unit (stL (pre ++ dObj (es ++ entE tk L) (m + L.length) :: post) (tk + 3 * L.length) os)
  | _, _, es, m, tk, .nil, _, _ => by simpa [entE] using (does_pure (p := p) (w := w) (a := PUnit.unit))
  | _, _, es, m, tk, .cons (x := x) (e := e) (X := X) (L := L) hx hX, H, hz => by
    obtain ⟨k, v⟩ := e
    rw [List.forIn_cons, hf]
    have Hn : ∀ e' ∈ es, e'.hash ≠ hashInt k := by
      intro e' he' q
      rw [List.nodup_append] at H
      exact H.2.2 _ (List.mem_map_of_mem he') _ (by simp) q
    have ih := does_long hd ha hf (es := es ++ [⟨hashInt k, .int k tk, .str v (tk + 1)⟩]) (m := m + 1) (tk := tk + 3) hX (by simpa using H) (by simp only [List.length_append, List.length_cons, List.length_nil] at hz ⊢; omega)
    have step : Does p w 13 (do let kv ← x.1; let vv ← holding [kv] x.2; holding [kv, vv] (dictSet d kv vv); pure (ForInStep.yield PUnit.unit)) (stL (pre ++ dObj es m :: post) tk os) (ForInStep.yield PUnit.unit) (stL (pre ++ dObj (es ++ [⟨hashInt k, .int k tk, .str v (tk + 1)⟩]) (m + 1) :: post) (tk + 3) os) := by
      refine Does.cast (does_bind (hx.1 _) (n' := 12) ?_) rfl
      refine Does.cast (does_bind (does_holding (hx.2 _)) (n' := 10) ?_) rfl
      refine Does.cast (does_bind (does_holding (does_dictSet (tk := tk + 2) hd ha (by simp only [List.length_cons] at hz; omega) Hn)) (n' := 0) ?_) rfl
      exact does_pure
    refine Does.cast (does_bind step (n' := 13 * L.length) ?_) (by simp only [List.length_cons]; omega)
    simp only [List.length_cons, entE]
    rw [show es ++ (⟨hashInt k, .int k tk, .str v (tk + 1)⟩ : DictEntry) :: entE (tk + 3) L = es ++ [⟨hashInt k, .int k tk, .str v (tk + 1)⟩] ++ entE (tk + 3) L by simp, show m + (L.length + 1) = m + 1 + L.length by omega, show tk + 3 * (L.length + 1) = tk + 3 + 3 * L.length by omega]
    exact ih
end
end
section
open PySem PySem.W PyProof.Rows
set_option maxRecDepth 100000
set_option maxHeartbeats 4000000
set_option linter.unusedVariables false
section
variable {p : Program} {w : World} {α β : Type} {s s' s1 : Shared} {n n' : Nat} {pre post : List Obj} {es : List DictEntry} {m d tk : Nat} {os : OsState}
theorem does_subLong {X : List (Sem Value × Sem Value)} {L : List (Int × Str)} {l : List Obj} (hX : Pairs p w X L) (hl : 15 < L.length) (ha : Nat.ble 11 l.length = true) (H : (L.map (fun e => hashInt e.1)).Nodup) (hz : L.length ≤ sizeLine) :
    Does p w (2 + 13 * L.length) (subDict X) (stL l tk os) l.length (stL (l ++ [dObj (entE tk L) L.length]) (tk + 3 * L.length) os) := by
  unfold subDict
  have hal := does_alloc (p := p) (w := w) (s := stL l tk os) (o := dObj [] 0)
  rw [stL_push] at hal
  have sz : (stL l tk os).heap.objs.size = l.length := by show l.toArray.size = _; rw [List.size_toArray]
  rw [sz] at hal
  refine Does.cast (does_bind hal (n' := 1 + 13 * L.length) ?_) (by omega)
  refine Does.cast (does_bind (a := ()) (does_holding ?_) (n := 1 + 13 * L.length) (n' := 0) does_pure) rfl
  rw [if_neg (by rw [hX.length]; omega)]
  refine Does.cast (does_bind does_rule (n' := 13 * L.length) ?_) rfl
  have h := does_long (p := p) (w := w) (pre := l) (post := []) (d := l.length) (os := os) rfl ha (f := fun x u => (do let kv ← x.1; let vv ← holding [kv] x.2; holding [kv, vv] (dictSet l.length kv vv); pure (ForInStep.yield PUnit.unit)))
    (fun _ _ => rfl) (es := []) (m := 0) (tk := tk) hX (by simpa using H) (by simpa using hz)
  exact Does.cast (does_bind (n' := 0) (by simpa using h) does_pure) rfl
theorem does_pairs : ∀ {X : List (Sem Value × Sem Value)} {L : List (Int × Str)} {s : Shared}, Pairs p w X L → Does p w (3 * L.length) (evalPairs X) s ((entV s.toks L).map fun e => (e.key, e.val)) { s with toks := s.toks + 2 * L.length }
  | _, _, s, .nil => does_pure
  | _, _, s, .cons (x := x) (e := e) (X := X) (L := L) hx hX => by
    obtain ⟨k, v⟩ := e
    unfold evalPairs
    refine Does.cast (does_bind (hx.1 _) (n' := 2 + 3 * L.length) ?_) (by simp only [List.length_cons]; omega)
    refine Does.cast (does_bind (does_holding (hx.2 _)) (n' := 3 * L.length) ?_) rfl
    have ih := does_pairs (s := { s with toks := s.toks + 1 + 1 }) hX
    refine Does.cast (does_bind (does_holding ih) (n' := 0) ?_) rfl
    have e : s.toks + 2 * ((k, v) :: L).length = s.toks + 1 + 1 + 2 * L.length := by simp only [List.length_cons]; omega
    rw [e]
    exact does_pure
theorem does_sets (hd : d = pre.length) (ha : Nat.ble 11 d = true) {f : Value × Value → PUnit → Sem (ForInStep PUnit)} (hf : ∀ x u, f x u = (do dictSet d x.1 x.2; pure (ForInStep.yield PUnit.unit))) :
    ∀ {L : List (Int × Str)} {es : List DictEntry} {m tk u : Nat}, ((es.map (·.hash)) ++ L.map (fun e => hashInt e.1)).Nodup → es.length + L.length ≤ sizeLine →
    Does p w (10 * L.length) (forIn ((entV u L).map fun e => (e.key, e.val)) PUnit.unit f) (stL (pre ++ dObj es m :: post) tk os) PUnit.unit (stL (pre ++ dObj (es ++ entV u L) (m + L.length) :: post) (tk + L.length) os)
  | [], es, m, tk, u, _, _ => by simpa [entV] using (does_pure (p := p) (w := w) (a := PUnit.unit))
  | (k, v) :: L, es, m, tk, u, H, hz => by
    simp only [entV, List.map_cons]
    rw [List.forIn_cons, hf]
    have Hn : ∀ e' ∈ es, e'.hash ≠ hashInt k := by
      intro e' he' q
      rw [List.nodup_append] at H
      exact H.2.2 _ (List.mem_map_of_mem he') _ (by simp) q
    have ih := does_sets hd ha hf (es := es ++ [⟨hashInt k, .int k u, .str v (u + 1)⟩]) (m := m + 1) (tk := tk + 1) (u := u + 2) (L := L) (by simpa using H) (by simp only [List.length_append, List.length_cons, List.length_nil] at hz ⊢; omega)
    have step : Does p w 10 (do dictSet d (.int k u) (.str v (u + 1)); pure (ForInStep.yield PUnit.unit)) (stL (pre ++ dObj es m :: post) tk os) (ForInStep.yield PUnit.unit) (stL (pre ++ dObj (es ++ [⟨hashInt k, .int k u, .str v (u + 1)⟩]) (m + 1) :: post) (tk + 1) os) :=
      Does.cast (does_bind (does_dictSet hd ha (by simp only [List.length_cons] at hz; omega) Hn) (n' := 0) does_pure) rfl
    refine Does.cast (does_bind step (n' := 10 * L.length) ?_) (by simp only [List.length_cons]; omega)
    simp only [List.length_cons]
    rw [show es ++ (⟨hashInt k, .int k u, .str v (u + 1)⟩ : DictEntry) :: entV (u + 2) L = es ++ [⟨hashInt k, .int k u, .str v (u + 1)⟩] ++ entV (u + 2) L by simp, show m + (L.length + 1) = m + 1 + L.length by omega, show tk + (L.length + 1) = tk + 1 + L.length by omega]
    exact ih
theorem does_subShort {X : List (Sem Value × Sem Value)} {L : List (Int × Str)} {l : List Obj} (hX : Pairs p w X L) (hl : L.length ≤ 15) (ha : Nat.ble 11 l.length = true) (H : (L.map (fun e => hashInt e.1)).Nodup) :
    Does p w (1 + 13 * L.length) (subDict X) (stL l tk os) l.length (stL (l ++ [dObj (entV tk L) L.length]) (tk + 3 * L.length) os) := by
  unfold subDict
  have hal := does_alloc (p := p) (w := w) (s := stL l tk os) (o := dObj [] 0)
  rw [stL_push] at hal
  have sz : (stL l tk os).heap.objs.size = l.length := by show l.toArray.size = _; rw [List.size_toArray]
  rw [sz] at hal
  refine Does.cast (does_bind hal (n' := 13 * L.length) ?_) (by omega)
  refine Does.cast (does_bind (a := ()) (does_holding ?_) (n := 13 * L.length) (n' := 0) does_pure) rfl
  rw [if_pos (by rw [hX.length]; omega)]
  refine Does.cast (does_bind (does_pairs (s := stL (l ++ [dObj [] 0]) tk os) hX) (n' := 10 * L.length) (does_holding ?_)) (by omega)
  have h := does_sets (p := p) (w := w) (pre := l) (post := []) (d := l.length) (os := os) rfl ha (f := fun x u => (do dictSet l.length x.1 x.2; pure (ForInStep.yield PUnit.unit)))
    (fun _ _ => rfl) (es := []) (m := 0) (tk := tk + 2 * L.length) (u := tk) (L := L) (by simpa using H) (by simp only [List.length_nil]; rw [sizeLine_eq]; omega)
  rw [show tk + 2 * L.length + L.length = tk + 3 * L.length by omega] at h
  exact Does.cast (does_bind (n' := 0) (by simpa using h) does_pure) rfl
end
end
section
open PySem PySem.W PyProof.Rows
set_option maxRecDepth 100000
set_option maxHeartbeats 4000000
set_option linter.unusedVariables false
theorem dict_iter : typeLookup (.type "dict") "__iter__" = pure (some (.builtin "dict.__iter__")) := by rw [typeLookup_type, builtinLookup_eq_fast]; kernel_rfl
theorem dict_isdict : isSubtype (.type "dict") (.type "dict") = pure true := by rw [isSubtype_type]; kernel_rfl
section
variable {p : Program} {w : World} {α β : Type} {s s' s1 : Shared} {n n' : Nat} {pre mid post : List Obj} {es sub : List DictEntry} {m ms d a tk : Nat} {os : OsState}
theorem stL_get2 (ha : a = pre.length + 1 + mid.length) : (stL (pre ++ dObj es m :: (mid ++ [dObj sub ms])) tk os).heap.get? a = some (dObj sub ms) := by
  have h := stL_get (pre := pre ++ dObj es m :: mid) (post := []) (es := sub) (m := ms) (d := a) (tk := tk) (os := os) (by simp; omega)
  rw [show pre ++ dObj es m :: (mid ++ [dObj sub ms]) = (pre ++ dObj es m :: mid) ++ dObj sub ms :: [] by simp]
  exact h
theorem does_typeOf (h : s.heap.get? a = some (dObj sub ms)) : Does p w 1 (typeOf (.ref a)) s (.type "dict") s :=
  Does.cast (does_bind (does_load h) (n' := 0) does_pure) rfl
noncomputable def IntKeyed (es : List DictEntry) : Prop := ∀ e ∈ es, ∃ k t, e.key = .int k t
theorem does_loop {f : Nat → PUnit → Sem (ForInStep PUnit)} 
    (hf : ∀ (i : Nat) (lt : i < sub.length) (es : List DictEntry) (m : Nat), es.length + 1 ≤ sizeLine → (∀ e' ∈ es, e'.hash ≠ sub[i].hash) →
      Does p w 6 (f i PUnit.unit) (stL (pre ++ dObj es m :: (mid ++ [dObj sub ms])) tk os) (ForInStep.yield PUnit.unit) (stL (pre ++ dObj (es ++ [sub[i]]) (m + 1) :: (mid ++ [dObj sub ms])) tk os)) :
    ∀ {j i : Nat} {es : List DictEntry} {m : Nat}, i + j = sub.length → ((es.map (·.hash)) ++ (sub.drop i).map (·.hash)).Nodup → es.length + j ≤ sizeLine →
    Does p w (6 * j) (forIn (List.range' i j) PUnit.unit f) (stL (pre ++ dObj es m :: (mid ++ [dObj sub ms])) tk os) PUnit.unit (stL (pre ++ dObj (es ++ sub.drop i) (m + j) :: (mid ++ [dObj sub ms])) tk os)
  | 0, i, es, m, hi, _, _ => by
    rw [List.drop_eq_nil_of_le (by omega)]
    simpa using (does_pure (p := p) (w := w) (a := PUnit.unit))
  | j + 1, i, es, m, hi, H, hz => by
    rw [List.range'_succ, List.forIn_cons]
    have lt : i < sub.length := by omega
    have dr : sub.drop i = sub[i] :: sub.drop (i + 1) := List.drop_eq_getElem_cons lt
    have Hn : ∀ e' ∈ es, e'.hash ≠ sub[i].hash := by
      intro e' he' q
      rw [dr, List.nodup_append] at H
      exact H.2.2 _ (List.mem_map_of_mem he') _ (List.mem_map_of_mem (List.mem_cons_self)) q
    have ih := does_loop hf (j := j) (i := i + 1) (es := es ++ [sub[i]]) (m := m + 1) (by omega) (by rw [dr] at H; simpa only [List.map_append, List.map_cons, List.map_nil, List.append_assoc, List.singleton_append] using H) (by simp only [List.length_append, List.length_cons, List.length_nil] at hz ⊢; omega)
    refine Does.cast (does_bind (hf i lt es m (by omega) Hn) (n' := 6 * j) ?_) (by omega)
    rw [dr, show es ++ sub[i] :: sub.drop (i + 1) = es ++ [sub[i]] ++ sub.drop (i + 1) by simp, show m + (j + 1) = m + 1 + j by omega]
    exact ih
theorem does_merge (hd : d = pre.length) (hb : Nat.ble 11 d = true) (ha : a = pre.length + 1 + mid.length) (hs : (a == sysModules) = false) (hk : IntKeyed sub) (hne : es ≠ [])
    (H : ((es.map (·.hash)) ++ sub.map (·.hash)).Nodup) (hz : es.length + sub.length ≤ sizeLine) :
    Does p w (5 + 6 * sub.length) (mergeMapping d (.ref a) false) (stL (pre ++ dObj es m :: (mid ++ [dObj sub ms])) tk os) () (stL (pre ++ dObj (es ++ sub) (m + sub.length) :: (mid ++ [dObj sub ms])) tk os) := by
  have g2 := stL_get2 (es := es) (m := m) (sub := sub) (ms := ms) (tk := tk) (os := os) ha
  have g1 := stL_get (pre := pre) (post := mid ++ [dObj sub ms]) (es := es) (m := m) (tk := tk) (os := os) hd
  unfold mergeMapping
  unfold isInstance
  refine Does.cast (does_bind (does_bind (does_typeOf g2) (n' := 0) (by rw [dict_isdict]; exact does_pure)) (n' := 4 + 6 * sub.length) ?_) (by omega)
  rw [if_pos rfl]
  unfold specialOf
  refine Does.cast (does_bind (does_bind (does_typeOf g2) (n' := 0) (by rw [dict_iter]; exact does_pure)) (n' := 3 + 6 * sub.length) ?_) (by omega)
  show Does p w (3 + 6 * sub.length) (if (a == sysModules) = true then _ else _) _ _ _
  rw [if_neg (by rw [hs]; exact Bool.false_ne_true)]
  refine Does.cast (does_bind (does_entries g1) (n' := 2 + 6 * sub.length) ?_) (by omega)
  have e0 : es.toArray.isEmpty = false := by cases es with
    | nil => exact absurd rfl hne
    | cons => rfl
  rw [if_neg (by rw [e0]; exact Bool.false_ne_true)]
  refine Does.cast (does_bind (does_entries g2) (n' := 1 + 6 * sub.length) ?_) (by omega)
  refine Does.cast (does_bind (does_epoch g2) (n' := 6 * sub.length) ?_) (by omega)
  have e2 : List.range sub.toArray.size = List.range' 0 sub.length := by rw [List.size_toArray, List.range_eq_range']
  rw [e2]
  refine Does.cast (does_bind (a := PUnit.unit) (does_loop (es := es) (m := m) (i := 0) (j := sub.length) ?_ (by omega) (by simpa using H) (by omega)) (n' := 0) does_pure) rfl
  intro i lt es m hz Hn
  obtain ⟨k, t, ek⟩ := hk sub[i] (List.getElem_mem lt)
  have g2 := stL_get2 (es := es) (m := m) (sub := sub) (ms := ms) (tk := tk) (os := os) ha
  refine Does.cast (does_bind (does_entries g2) (n' := 5) ?_) rfl
  have e1 : sub.toArray[i]? = some sub[i] := by simp [lt]
  rw [e1]
  dsimp only
  have hp := does_put (p := p) (w := w) (k := k) (t := t) (v := sub[i].val) (h := sub[i].hash) (pre := pre) (post := mid ++ [dObj sub ms]) (es := es) (m := m) (tk := tk) (os := os) hd hb (by omega) Hn
  rw [← ek] at hp
  refine Does.cast (does_bind (does_holding hp) (n' := 1) ?_) rfl
  refine Does.cast (does_bind (does_epoch (stL_get2 ha)) (n' := 0) ?_) rfl
  rw [bne_self_eq_false]
  exact does_pure
end
end
section
open PySem PySem.W PyProof.Rows
set_option maxRecDepth 100000
set_option maxHeartbeats 4000000
set_option linter.unusedVariables false
structure DSt where
  es : List DictEntry
  m : Nat
  mid : List Obj
  tk : Nat
  n : Nat
noncomputable def flushR (R : List (Int × Str)) (st : DSt) : DSt := ⟨st.es ++ entE st.tk R, st.m + R.length, st.mid ++ [dObj (entE st.tk R) R.length], st.tk + 3 * R.length, st.n + ((2 + 13 * R.length) + (5 + 6 * R.length))⟩
noncomputable def flushV (R : List (Int × Str)) (st : DSt) : DSt := ⟨st.es ++ entV st.tk R, st.m + R.length, st.mid ++ [dObj (entV st.tk R) R.length], st.tk + 3 * R.length, st.n + ((1 + 13 * R.length) + (5 + 6 * R.length))⟩
noncomputable def loopR : List (Int × Str) → List (Int × Str) → DSt → DSt × List (Int × Str)
  | [], Ly, st => (st, Ly)
  | e :: L, Ly, st => match Nat.beq (Ly.length + 1) 17 with
    | true => loopR L [] (flushR (Ly ++ [e]) st)
    | false => loopR L (Ly ++ [e]) st
theorem entE_hash : ∀ (tk : Nat) (L : List (Int × Str)), (entE tk L).map (·.hash) = L.map (fun e => hashInt e.1)
  | _, [] => rfl
  | tk, (k, v) :: L => by simp [entE, entE_hash (tk + 3) L]
theorem entV_hash : ∀ (tk : Nat) (L : List (Int × Str)), (entV tk L).map (·.hash) = L.map (fun e => hashInt e.1)
  | _, [] => rfl
  | tk, (k, v) :: L => by simp [entV, entV_hash (tk + 2) L]
theorem entE_length : ∀ (tk : Nat) (L : List (Int × Str)), (entE tk L).length = L.length
  | _, [] => rfl
  | tk, (k, v) :: L => by simp [entE, entE_length (tk + 3) L]
theorem entV_length : ∀ (tk : Nat) (L : List (Int × Str)), (entV tk L).length = L.length
  | _, [] => rfl
  | tk, (k, v) :: L => by simp [entV, entV_length (tk + 2) L]
theorem entE_keyed : ∀ (tk : Nat) (L : List (Int × Str)), IntKeyed (entE tk L)
  | _, [] => fun _ h => nomatch h
  | tk, (k, v) :: L => fun e h => by
    rcases List.mem_cons.mp h with rfl | h
    · exact ⟨_, _, rfl⟩
    · exact entE_keyed (tk + 3) L e h
theorem entV_keyed : ∀ (tk : Nat) (L : List (Int × Str)), IntKeyed (entV tk L)
  | _, [] => fun _ h => nomatch h
  | tk, (k, v) :: L => fun e h => by
    rcases List.mem_cons.mp h with rfl | h
    · exact ⟨_, _, rfl⟩
    · exact entV_keyed (tk + 2) L e h
section
variable {p : Program} {w : World} {pre : List Obj} {os : OsState} {d : Nat}
noncomputable abbrev Item := Option (Sem Value) × Sem Value
noncomputable abbrev DState := Option Addr × List (Sem Value × Sem Value)
variable {fl : List (Sem Value × Sem Value) → Option Addr → Sem (Option Addr)} {f : Item → DState → Sem (ForInStep DState)}
theorem does_flushSome {run : List (Sem Value × Sem Value)} {L : List (Int × Str)} {st : DSt} {sub : List DictEntry} {tk' n1 : Nat} (hd : d = pre.length) (hb : Nat.ble 11 d = true) (hs : (pre.length + 1 + st.mid.length == sysModules) = false)
    (hsub : Does p w n1 (subDict run) (stL (pre ++ dObj st.es st.m :: st.mid) st.tk os) (pre.length + 1 + st.mid.length) (stL (pre ++ dObj st.es st.m :: (st.mid ++ [dObj sub L.length])) tk' os)) (hk : IntKeyed sub) (hl : sub.length = L.length) (hh : sub.map (·.hash) = L.map (fun e => hashInt e.1))
    (hne : st.es ≠ []) (H : ((st.es.map (·.hash)) ++ L.map (fun e => hashInt e.1)).Nodup) (hz : st.es.length + L.length ≤ sizeLine) {g' : Nat → Value → Sem Unit} :
    Does p w (n1 + (5 + 6 * L.length)) (do
      let sub ← holding [.ref d] (subDict run)
      (holding [.ref d, .ref sub] (mergeMapping d (.ref sub) false)).onRaise (g' sub)
      pure (some d)) (stL (pre ++ dObj st.es st.m :: st.mid) st.tk os) (some d) (stL (pre ++ dObj (st.es ++ sub) (st.m + L.length) :: (st.mid ++ [dObj sub L.length])) tk' os) := by
  refine does_bind (does_holding hsub) ?_
  have h := does_merge (p := p) (w := w) (tk := tk') (os := os) (m := st.m) (ms := L.length) hd hb rfl hs hk hne (by rw [hh]; exact H) (by rw [hl]; exact hz)
  rw [hl] at h
  exact Does.cast (does_bind (n' := 0) (does_onRaise (does_holding h)) does_pure) rfl
end
end
section
open PySem PySem.W PyProof.Rows
set_option maxRecDepth 100000
set_option maxHeartbeats 4000000
set_option linter.unusedVariables false
section
variable {p : Program} {w : World} {pre : List Obj} {os : OsState} {d : Nat}
noncomputable abbrev mkItem (x : Sem Value × Sem Value) : Item := (some x.1, x.2)
variable {fl : List (Sem Value × Sem Value) → Option Addr → Sem (Option Addr)} {f : Item → DState → Sem (ForInStep DState)}
noncomputable def FlOk (fl : List (Sem Value × Sem Value) → Option Addr → Sem (Option Addr)) (g' : Nat → Nat → Value → Sem Unit) : Prop :=
  (∀ run, run ≠ [] → fl run none = (do let a ← subDict run; pure (some a))) ∧
  (∀ run d, run ≠ [] → fl run (some d) = (do
      let sub ← holding [.ref d] (subDict run)
      (holding [.ref d, .ref sub] (mergeMapping d (.ref sub) false)).onRaise (g' d sub)
      pure (some d)))
noncomputable def BodyOk (fl : List (Sem Value × Sem Value) → Option Addr → Sem (Option Addr)) (f : Item → DState → Sem (ForInStep DState)) : Prop :=
  ∀ x main run, f (mkItem x) (main, run) = if ((run ++ [x]).length == 17) = true then (fl (run ++ [x]) main >>= fun m => pure (ForInStep.yield (m, []))) else pure (ForInStep.yield (main, run ++ [x]))
theorem push_loop (hf : BodyOk fl f) (main : Option Addr) (R : List Item) : ∀ (X Y : List (Sem Value × Sem Value)), Y.length + X.length ≤ 16 → forIn (X.map mkItem ++ R) (main, Y) f = forIn R (main, Y ++ X) f
  | [], Y, _ => by simp
  | x :: X, Y, h => by
    rw [List.map_cons, List.cons_append, List.forIn_cons, hf, if_neg (by simp only [List.length_append, List.length_cons, List.length_nil, beq_iff_eq] at h ⊢; omega)]
    have := push_loop hf main R X (Y ++ [x]) (by simp only [List.length_append, List.length_cons, List.length_nil] at h ⊢; omega)
    rw [List.append_assoc, List.singleton_append] at this
    exact this
theorem sub_le {L : List (Int × Str)} {X : List Int} (H : (X ++ L.map (fun e => hashInt e.1)).Nodup) : (L.map (fun e => hashInt e.1)).Nodup := (List.nodup_append.mp H).2.1
theorem disp_loop {g' : Nat → Nat → Value → Sem Unit} (hfl : FlOk fl g') (hf : BodyOk fl f) (hd : d = pre.length) (hb : Nat.ble 11 d = true) (hs : ∀ a : Nat, pre.length < a → (a == sysModules) = false) :
    ∀ {X : List (Sem Value × Sem Value)} {L : List (Int × Str)}, Pairs p w X L → ∀ {Y : List (Sem Value × Sem Value)} {Ly : List (Int × Str)} {st : DSt}, Pairs p w Y Ly → Ly.length < 17 → st.es ≠ [] →
      ((st.es.map (·.hash)) ++ (Ly ++ L).map (fun e => hashInt e.1)).Nodup → st.es.length + (Ly ++ L).length ≤ sizeLine →
    ∃ Y' k, Pairs p w Y' (loopR L Ly st).2 ∧ (loopR L Ly st).1.n = st.n + k ∧ Does p w k (forIn (X.map mkItem) (some d, Y) f) (stL (pre ++ dObj st.es st.m :: st.mid) st.tk os) (some d, Y')
      (stL (pre ++ dObj (loopR L Ly st).1.es (loopR L Ly st).1.m :: (loopR L Ly st).1.mid) (loopR L Ly st).1.tk os)
  | _, _, .nil, Y, Ly, st, hY, _, _, _, _ => ⟨Y, 0, hY, rfl, does_pure⟩
  | _, _, .cons (x := x) (e := e) (X := X) (L := L) hx hX, Y, Ly, st, hY, hl, hne, H, hz => by
    have hY1 := hY.append (.cons hx .nil)
    have el := hY.length
    rw [List.map_cons, List.forIn_cons, hf]
    by_cases q : Ly.length + 1 = 17
    · have eR : loopR (e :: L) Ly st = loopR L [] (flushR (Ly ++ [e]) st) := by
        show (match Nat.beq (Ly.length + 1) 17 with | true => _ | false => _) = _
        rw [q]
      rw [eR, if_pos (by simp [el, q]), hfl.2 _ _ (by simp)]
      have Hr : (st.es.map (·.hash) ++ (Ly ++ [e]).map (fun e => hashInt e.1)).Nodup := by
        have e2 : Ly ++ e :: L = (Ly ++ [e]) ++ L := by simp
        rw [e2, List.map_append, ← List.append_assoc] at H
        exact (List.nodup_append.mp H).1
      have len : (Ly ++ [e]).length = 17 := by simp [q]
      have hsub := does_subLong (p := p) (w := w) (l := pre ++ dObj st.es st.m :: st.mid) (tk := st.tk) (os := os) hY1 (by omega) (by
          have h1 := Nat.le_of_ble_eq_true hb
          exact Nat.ble_eq_true_of_le (by simp only [List.length_append, List.length_cons]; omega)) (sub_le Hr) (by rw [sizeLine_eq]; omega)
      have e3 : (pre ++ dObj st.es st.m :: st.mid).length = pre.length + 1 + st.mid.length := by simp only [List.length_append, List.length_cons]; omega
      have e4 : ∀ o : Obj, (pre ++ dObj st.es st.m :: st.mid) ++ [o] = pre ++ dObj st.es st.m :: (st.mid ++ [o]) := fun o => by simp
      rw [e3, e4] at hsub
      have hfs := does_flushSome (p := p) (w := w) (run := Y ++ [x]) (L := Ly ++ [e]) (st := st) (os := os) (g' := g' d) hd hb (hs _ (by omega)) hsub (entE_keyed _ _) (entE_length _ _) (entE_hash _ _) hne Hr (by simp only [List.length_append, List.length_cons, List.length_nil] at hz ⊢; omega)
      obtain ⟨Y', k, h1, h2, h3⟩ := disp_loop hfl hf hd hb hs hX (Y := []) (Ly := []) (st := flushR (Ly ++ [e]) st) .nil (by decide)
        (by simp only [flushR]; intro q; exact hne (List.append_eq_nil_iff.mp q).1)
        (by simp only [flushR, List.map_append, entE_hash, List.nil_append]; simpa [List.map_append] using H)
        (by simp only [flushR, List.length_append, entE_length, List.length_cons, List.length_nil] at hz ⊢; omega)
      refine ⟨Y', (2 + 13 * (Ly ++ [e]).length + (5 + 6 * (Ly ++ [e]).length)) + k, h1, ?_, ?_⟩
      · rw [h2]; simp only [flushR]; omega
      · exact does_bind (Does.cast (does_bind hfs (n' := 0) does_pure) rfl) h3
    · have eR : loopR (e :: L) Ly st = loopR L (Ly ++ [e]) st := by
        show (match Nat.beq (Ly.length + 1) 17 with | true => _ | false => _) = _
        rw [show Nat.beq (Ly.length + 1) 17 = false from by
          cases h : Nat.beq (Ly.length + 1) 17 with
          | false => rfl
          | true => exact absurd (Nat.eq_of_beq_eq_true h) q]
      rw [eR, if_neg (by simp only [List.length_append, List.length_cons, List.length_nil, beq_iff_eq]; omega)]
      obtain ⟨Y', k, h1, h2, h3⟩ := disp_loop hfl hf hd hb hs hX (Y := Y ++ [x]) (Ly := Ly ++ [e]) (st := st) hY1 (by simp only [List.length_append, List.length_cons, List.length_nil]; omega) hne
        (by rw [List.append_assoc, List.singleton_append]; exact H) (by simp only [List.length_append, List.length_cons, List.length_nil] at hz ⊢; omega)
      exact ⟨Y', k, h1, h2, h3⟩
end
end
section
open PySem PySem.W PyProof.Rows
set_option maxRecDepth 100000
set_option maxHeartbeats 4000000
set_option linter.unusedVariables false
section
variable {p : Program} {w : World} {pre : List Obj} {os : OsState} {d tk : Nat}
theorem Pairs.split : ∀ {L M : List (Int × Str)} {X : List (Sem Value × Sem Value)}, Pairs p w X (L ++ M) → ∃ X1 X2, X = X1 ++ X2 ∧ Pairs p w X1 L ∧ Pairs p w X2 M
  | [], M, X, h => ⟨[], X, rfl, .nil, h⟩
  | e :: L, M, _, .cons (x := x) hx hX => by
    obtain ⟨X1, X2, rfl, h1, h2⟩ := Pairs.split hX
    exact ⟨x :: X1, X2, rfl, .cons hx h1, h2⟩
theorem loopR_hash : ∀ (L Ly : List (Int × Str)) (st : DSt), (loopR L Ly st).1.es.map (·.hash) ++ (loopR L Ly st).2.map (fun e => hashInt e.1) = st.es.map (·.hash) ++ (Ly ++ L).map (fun e => hashInt e.1)
  | [], Ly, st => by simp [loopR]
  | e :: L, Ly, st => by
    show (match Nat.beq (Ly.length + 1) 17 with | true => loopR L [] (flushR (Ly ++ [e]) st) | false => loopR L (Ly ++ [e]) st).1.es.map _ ++ (match Nat.beq (Ly.length + 1) 17 with | true => loopR L [] (flushR (Ly ++ [e]) st) | false => loopR L (Ly ++ [e]) st).2.map _ = _
    cases Nat.beq (Ly.length + 1) 17
    · dsimp only; rw [loopR_hash L]; simp
    · dsimp only; rw [loopR_hash L]; simp [flushR, entE_hash]
theorem loopR_ne : ∀ (L Ly : List (Int × Str)) (st : DSt), st.es ≠ [] → (loopR L Ly st).1.es ≠ []
  | [], Ly, st, h => h
  | e :: L, Ly, st, h => by
    show (match Nat.beq (Ly.length + 1) 17 with | true => loopR L [] (flushR (Ly ++ [e]) st) | false => loopR L (Ly ++ [e]) st).1.es ≠ _
    cases Nat.beq (Ly.length + 1) 17
    · exact loopR_ne L _ st h
    · exact loopR_ne L _ _ (by simp only [flushR]; intro q; exact h (List.append_eq_nil_iff.mp q).1)
noncomputable def startR (tk : Nat) (L : List (Int × Str)) : DSt := ⟨entE tk (L.take 17), 17, [], tk + 3 * 17, 2 + 13 * 17⟩
noncomputable def dispR (tk : Nat) (L : List (Int × Str)) : DSt := flushV (loopR (L.drop 17) [] (startR tk L)).2 (loopR (L.drop 17) [] (startR tk L)).1
theorem does_disp {fl : List (Sem Value × Sem Value) → Option Addr → Sem (Option Addr)} {f : Item → DState → Sem (ForInStep DState)} {g' : Nat → Nat → Value → Sem Unit} (hfl : FlOk fl g') (hf : BodyOk fl f)
    {X : List (Sem Value × Sem Value)} {L : List (Int × Str)} (hX : Pairs p w X L) (hlen : 17 ≤ L.length) (h15 : (loopR (L.drop 17) [] (startR tk L)).2.length ≤ 15) (h1 : (loopR (L.drop 17) [] (startR tk L)).2 ≠ [])
    (H : (L.map (fun e => hashInt e.1)).Nodup) (hz : L.length ≤ sizeLine) (hb : Nat.ble 11 pre.length = true) (hs : ∀ a : Nat, pre.length < a → (a == sysModules) = false) {last : Option Addr → Sem Value} (hlast : ∀ d, last (some d) = pure (.ref d)) :
    Does p w (dispR tk L).n (forIn (X.map mkItem) ((none, []) : DState) f >>= fun s => fl s.2 s.1 >>= last) (stL pre tk os) (.ref pre.length) (stL (pre ++ dObj (dispR tk L).es (dispR tk L).m :: (dispR tk L).mid) (dispR tk L).tk os) := by
  rw [← List.take_append_drop 17 L] at hX
  obtain ⟨X1, X2, rfl, hX1, hX2⟩ := hX.split
  have l1 : (L.take 17).length = 17 := by rw [List.length_take]; omega
  have l2 : X1.length = 17 := by rw [hX1.length, l1]
  obtain ⟨Xa, xb, rfl⟩ : ∃ Xa xb, X1 = Xa ++ [xb] := ⟨X1.dropLast, X1.getLast (by intro q; rw [q] at l2; cases l2), (List.dropLast_concat_getLast _).symm⟩
  have l3 : Xa.length = 16 := by simpa using l2
  have Hs : (L.take 17 ++ L.drop 17).map (fun e => hashInt e.1) = L.map (fun e => hashInt e.1) := by rw [List.take_append_drop]
  have eX : ((Xa ++ [xb]) ++ X2).map mkItem = Xa.map mkItem ++ (mkItem xb :: X2.map mkItem) := by simp
  rw [eX, push_loop hf none _ Xa [] (by simp [l3]), List.nil_append, List.forIn_cons, hf, if_pos (by simp [l3]), hfl.1 _ (by simp)]
  have hsub := does_subLong (p := p) (w := w) (l := pre) (tk := tk) (os := os) hX1 (by omega) hb (by rw [← Hs, List.map_append] at H; exact (List.nodup_append.mp H).1) (by rw [sizeLine_eq, l1]; decide)
  rw [l1] at hsub
  obtain ⟨Y', k, g1, g2, g3⟩ := disp_loop (p := p) (w := w) (pre := pre) (os := os) (d := pre.length) hfl hf rfl hb hs hX2 (Y := []) (Ly := []) (st := startR tk L) .nil (by decide)
    (by simp only [startR]; intro q; have := congrArg List.length q; rw [entE_length, l1] at this; cases this)
    (by simp only [startR, entE_hash, List.nil_append]; rw [← List.map_append, List.take_append_drop]; exact H)
    (by simp only [startR, entE_length, List.nil_append]; rw [l1, List.length_drop]; omega)
  have hh := loopR_hash (L.drop 17) [] (startR tk L)
  have hh2 : (startR tk L).es.map (·.hash) ++ ([] ++ L.drop 17).map (fun e : Int × Str => hashInt e.1) = L.map (fun e => hashInt e.1) := by
    simp only [startR, entE_hash, List.nil_append]; rw [← List.map_append, List.take_append_drop]
  rw [hh2] at hh
  have hlen2 := congrArg List.length hh
  simp only [List.length_append, List.length_map] at hlen2
  have hn := loopR_ne (L.drop 17) [] (startR tk L) (by simp only [startR]; intro q; have := congrArg List.length q; rw [entE_length, l1] at this; cases this)
  generalize hst : loopR (L.drop 17) [] (startR tk L) = r at *
  obtain ⟨st, Ly⟩ := r
  have e3 : (pre ++ dObj st.es st.m :: st.mid).length = pre.length + 1 + st.mid.length := by simp only [List.length_append, List.length_cons]; omega
  have e4 : ∀ o : Obj, (pre ++ dObj st.es st.m :: st.mid) ++ [o] = pre ++ dObj st.es st.m :: (st.mid ++ [o]) := fun o => by simp
  have hsub2 := does_subShort (p := p) (w := w) (l := pre ++ dObj st.es st.m :: st.mid) (tk := st.tk) (os := os) g1 h15 (by
    have h1 := Nat.le_of_ble_eq_true hb
    exact Nat.ble_eq_true_of_le (by rw [e3]; omega)) (by rw [← hh] at H; exact (List.nodup_append.mp H).2.1)
  rw [e3, e4] at hsub2
  have hfs := does_flushSome (p := p) (w := w) (run := Y') (L := Ly) (st := st) (os := os) (g' := g' pre.length) rfl hb (hs _ (by omega)) hsub2 (entV_keyed _ _) (entV_length _ _) (entV_hash _ _) hn (by rw [hh]; exact H) (by rw [hlen2]; exact hz)
  have hY : Y' ≠ [] := by
    intro q; subst q
    have := g1.length
    exact h1 (List.eq_nil_of_length_eq_zero this.symm)
  have eD : dispR tk L = flushV Ly st := by unfold dispR; rw [hst]
  rw [eD]
  have e5 : (flushV Ly st).n = (2 + 13 * 17) + k + ((1 + 13 * Ly.length) + (5 + 6 * Ly.length)) := by
    simp only [flushV]; rw [g2]; simp only [startR]
  rw [e5]
  refine does_bind (does_bind (Does.cast (does_bind (does_bind (n' := 0) hsub does_pure) (n' := 0) does_pure) rfl) g3) ?_
  dsimp only
  rw [hfl.2 _ _ hY]
  refine Does.cast (does_bind hfs (n' := 0) ?_) rfl
  rw [hlast]
  exact does_pure
theorem does_display {X : List (Sem Value × Sem Value)} {L : List (Int × Str)} (hX : Pairs p w X L) (hlen : 17 ≤ L.length) (h15 : (loopR (L.drop 17) [] (startR tk L)).2.length ≤ 15) (h1 : (loopR (L.drop 17) [] (startR tk L)).2 ≠ [])
    (H : (L.map (fun e => hashInt e.1)).Nodup) (hz : L.length ≤ sizeLine) (hb : Nat.ble 11 pre.length = true) (hs : ∀ a : Nat, pre.length < a → (a == sysModules) = false) :
    Does p w (dispR tk L).n (dictDisplay (X.map mkItem)) (stL pre tk os) (.ref pre.length) (stL (pre ++ dObj (dispR tk L).es (dispR tk L).m :: (dispR tk L).mid) (dispR tk L).tk os) := by
  unfold dictDisplay
  extract_lets flush
  refine does_disp (fl := flush) (g' := fun d sub x => (do let _ ← holding [.ref d, x] (runValue (.builtin "proto.let_go" {})); pure ())) ?_ ?_ hX hlen h15 h1 H hz hb hs ?_
  rotate_left
  · intro x main run; rfl
  · intro d; rfl
  · refine ⟨fun run hr => ?_, fun run d hr => ?_⟩
    · cases run with
      | nil => exact absurd rfl hr
      | cons => rfl
    · cases run with
      | nil => exact absurd rfl hr
      | cons => rfl
end
end
section
open PySem PySem.W PyProof.Rows
set_option maxRecDepth 100000
set_option maxHeartbeats 0
set_option linter.unusedVariables false
noncomputable def b3Keys : List (Option PySem.Expr) := match topStm 7 with | .Assign _ (.Dict ks _ _) _ => ks | _ => []
noncomputable def b3Vals : List PySem.Expr := match topStm 7 with | .Assign _ (.Dict _ vs _) _ => vs | _ => []
noncomputable def b3Pos : Pos := match topStm 7 with | .Assign _ (.Dict _ _ q) _ => q | _ => zP
noncomputable def b3Pos2 : Pos := match topStm 7 with | .Assign _ _ q => q | _ => zP
noncomputable def b3Tgt : List PySem.Expr := match topStm 7 with | .Assign t _ _ => t | _ => []
theorem st7_eq : topStm 7 = .Assign b3Tgt (.Dict b3Keys b3Vals b3Pos) b3Pos2 := by kernel_rfl
noncomputable def okItems : List (Option PySem.Expr) → List PySem.Expr → Bool
  | [], [] => true
  | some (.Constant (.int _) _ _) :: ks, .Constant (.str _) _ _ :: vs => okItems ks vs
  | _, _ => false
noncomputable def rawItems : List (Option PySem.Expr) → List PySem.Expr → List (Int × Str)
  | some (.Constant (.int k) _ _) :: ks, .Constant (.str s) _ _ :: vs => (k, s) :: rawItems ks vs
  | _, _ => []
theorem pairs_items {p : Program} {w : World} {env : Env} {pos : Pos} (ks : List (Option PySem.Expr)) (vs : List PySem.Expr) (h : okItems ks vs = true) :
    ∃ X, (evalEachOpt ks env).zip ((evalEach vs env).map fun v => do let x ← v; standAt pos; pure x) = X.map mkItem ∧ Pairs p w X (rawItems ks vs) := by
  fun_induction okItems ks vs with
  | case1 => exact ⟨[], rfl, .nil⟩
  | case2 k _ _ ks s _ _ vs ih =>
    obtain ⟨X, e, hX⟩ := ih h
    refine ⟨(mkInt k, (do let x ← mkText s; standAt pos; pure x)) :: X, ?_, .cons ⟨fun s => does_mkInt, fun s => ?_⟩ hX⟩
    · show (_ :: List.zip _ _) = _ :: _
      rw [e]; rfl
    · exact Does.cast (does_bind does_mkText (n' := 1) (does_bind does_at (n' := 0) does_pure)) rfl
  | case3 => cases h
noncomputable def b3 : List (Int × Str) := rawItems b3Keys b3Vals
noncomputable def ascOk : Int → List (Int × Str) → Bool
  | _, [] => true
  | lo, e :: r => decide (lo < e.1) && (decide (e.1 < 1000000) && ascOk e.1 r)
theorem hashInt_small {k : Int} (h0 : 0 ≤ k) (h1 : k < 1000000) : hashInt k = k := by
  have e : rawHash k = k := by
    unfold rawHash
    have : ((k.natAbs : Int) % ((2 ^ 61 - 1 : Nat) : Int)) = k.natAbs := Int.emod_eq_of_lt (by omega) (by omega)
    dsimp only
    rw [this]
    have n0 : ¬ k < 0 := by omega
    have n1 : ¬ ((k.natAbs : Int) == -1) = true := by simp only [beq_iff_eq]; omega
    rw [if_neg n0, if_neg n1]
    omega
  unfold hashInt
  rw [e, if_neg (by simp only [beq_iff_eq]; omega)]
theorem asc_nodup : ∀ {lo : Int} {L : List (Int × Str)}, -1 ≤ lo → ascOk lo L = true → (L.map (fun e => hashInt e.1)).Nodup ∧ ∀ x ∈ L.map (fun e => hashInt e.1), lo < x
  | _, [], _, _ => ⟨by simp, by simp⟩
  | lo, e :: r, h0, h => by
    simp only [ascOk, Bool.and_eq_true, decide_eq_true_eq] at h
    obtain ⟨h1, h2, h3⟩ := h
    obtain ⟨a, b⟩ := asc_nodup (lo := e.1) (by omega) h3
    have ek := hashInt_small (k := e.1) (by omega) h2
    refine ⟨List.nodup_cons.mpr ⟨fun q => ?_, a⟩, fun x hx => ?_⟩
    · have := b _ q; dsimp only at this; rw [ek] at this; omega
    · rcases List.mem_cons.mp hx with rfl | hx
      · dsimp only; rw [ek]; exact h1
      · have := b x hx; omega
theorem b3_ok : okItems b3Keys b3Vals = true := by kernel_rfl
theorem b3_len : b3.length = 650 := by kernel_rfl
theorem b3_asc : ascOk (-1) b3 = true := by kernel_rfl
noncomputable def b3St : DSt := dispR 328 b3
theorem b3_rest : (loopR (b3.drop 17) [] (startR 328 b3)).2.length = 4 := by kernel_rfl
theorem b3_n : b3St.n = 12515 := by kernel_rfl
theorem b3_tk : b3St.tk = 2278 := by kernel_rfl
theorem b3_mid : b3St.mid.length = 38 := by kernel_rfl
noncomputable abbrev q_82 (P : Params) : Obj := dObj b3St.es b3St.m
noncomputable abbrev q_83 (P : Params) : Obj := (b3St.mid[0]?).getD default
noncomputable abbrev q_84 (P : Params) : Obj := (b3St.mid[1]?).getD default
noncomputable abbrev q_85 (P : Params) : Obj := (b3St.mid[2]?).getD default
noncomputable abbrev q_86 (P : Params) : Obj := (b3St.mid[3]?).getD default
noncomputable abbrev q_87 (P : Params) : Obj := (b3St.mid[4]?).getD default
noncomputable abbrev q_88 (P : Params) : Obj := (b3St.mid[5]?).getD default
noncomputable abbrev q_89 (P : Params) : Obj := (b3St.mid[6]?).getD default
noncomputable abbrev q_90 (P : Params) : Obj := (b3St.mid[7]?).getD default
noncomputable abbrev q_91 (P : Params) : Obj := (b3St.mid[8]?).getD default
noncomputable abbrev q_92 (P : Params) : Obj := (b3St.mid[9]?).getD default
noncomputable abbrev q_93 (P : Params) : Obj := (b3St.mid[10]?).getD default
noncomputable abbrev q_94 (P : Params) : Obj := (b3St.mid[11]?).getD default
noncomputable abbrev q_95 (P : Params) : Obj := (b3St.mid[12]?).getD default
noncomputable abbrev q_96 (P : Params) : Obj := (b3St.mid[13]?).getD default
noncomputable abbrev q_97 (P : Params) : Obj := (b3St.mid[14]?).getD default
noncomputable abbrev q_98 (P : Params) : Obj := (b3St.mid[15]?).getD default
noncomputable abbrev q_99 (P : Params) : Obj := (b3St.mid[16]?).getD default
noncomputable abbrev q_100 (P : Params) : Obj := (b3St.mid[17]?).getD default
noncomputable abbrev q_101 (P : Params) : Obj := (b3St.mid[18]?).getD default
noncomputable abbrev q_102 (P : Params) : Obj := (b3St.mid[19]?).getD default
noncomputable abbrev q_103 (P : Params) : Obj := (b3St.mid[20]?).getD default
noncomputable abbrev q_104 (P : Params) : Obj := (b3St.mid[21]?).getD default
noncomputable abbrev q_105 (P : Params) : Obj := (b3St.mid[22]?).getD default
noncomputable abbrev q_106 (P : Params) : Obj := (b3St.mid[23]?).getD default
noncomputable abbrev q_107 (P : Params) : Obj := (b3St.mid[24]?).getD default
noncomputable abbrev q_108 (P : Params) : Obj := (b3St.mid[25]?).getD default
noncomputable abbrev q_109 (P : Params) : Obj := (b3St.mid[26]?).getD default
noncomputable abbrev q_110 (P : Params) : Obj := (b3St.mid[27]?).getD default
noncomputable abbrev q_111 (P : Params) : Obj := (b3St.mid[28]?).getD default
noncomputable abbrev q_112 (P : Params) : Obj := (b3St.mid[29]?).getD default
noncomputable abbrev q_113 (P : Params) : Obj := (b3St.mid[30]?).getD default
noncomputable abbrev q_114 (P : Params) : Obj := (b3St.mid[31]?).getD default
noncomputable abbrev q_115 (P : Params) : Obj := (b3St.mid[32]?).getD default
noncomputable abbrev q_116 (P : Params) : Obj := (b3St.mid[33]?).getD default
noncomputable abbrev q_117 (P : Params) : Obj := (b3St.mid[34]?).getD default
noncomputable abbrev q_118 (P : Params) : Obj := (b3St.mid[35]?).getD default
noncomputable abbrev q_119 (P : Params) : Obj := (b3St.mid[36]?).getD default
noncomputable abbrev q_120 (P : Params) : Obj := (b3St.mid[37]?).getD default
noncomputable abbrev q_T121a (P : Params) : BT := (.node (boot_o_0 P) (.node (boot_o_1 P) (.node (q_ns13 P) (.node (boot_o_7 P) (.node (top5.o_7 P) (.node (top5.o_23 P) (.node (top5.o_55 P) .nil .nil) (.node (q_95 P) .nil .nil)) (.node (top5.o_39 P) (.node (fake.o_74 P) .nil .nil) (.node (q_111 P) .nil .nil))) (.node (top5.o_15 P) (.node (top5.o_31 P) (.node (q_71 P) .nil .nil) (.node (q_103 P) .nil .nil)) (.node (top5.o_47 P) (.node (q_87 P) .nil .nil) (.node (q_119 P) .nil .nil)))) (.node (top5.o_1 P) (.node (top5.o_11 P) (.node (top5.o_27 P) (.node (q_67 P) .nil .nil) (.node (q_99 P) .nil .nil)) (.node (top5.o_43 P) (.node (q_83 P) .nil .nil) (.node (q_115 P) .nil .nil))) (.node (top5.o_19 P) (.node (top5.o_35 P) (.node (fake.o_70 P) .nil .nil) (.node (q_107 P) .nil .nil)) (.node (top5.o_51 P) (.node (q_91 P) .nil .nil) .nil)))) (.node (boot_o_5 P) (.node (boot_o_9 P) (.node (top5.o_9 P) (.node (top5.o_25 P) (.node (q_65 P) .nil .nil) (.node (q_97 P) .nil .nil)) (.node (top5.o_41 P) (.node (fake.o_76 P) .nil .nil) (.node (q_113 P) .nil .nil))) (.node (top5.o_17 P) (.node (top5.o_33 P) (.node (q_73 P) .nil .nil) (.node (q_105 P) .nil .nil)) (.node (top5.o_49 P) (.node (q_89 P) .nil .nil) .nil))) (.node (top5.o_3 P) (.node (top5.o_13 P) (.node (top5.o_29 P) (.node (q_69 P) .nil .nil) (.node (q_101 P) .nil .nil)) (.node (top5.o_45 P) (.node (q_85 P) .nil .nil) (.node (q_117 P) .nil .nil))) (.node (top5.o_21 P) (.node (top5.o_37 P) (.node (fake.o_72 P) .nil .nil) (.node (q_109 P) .nil .nil)) (.node (top5.o_53 P) (.node (q_93 P) .nil .nil) .nil))))) (.node (boot_o_2 P) (.node (boot_o_4 P) (.node (boot_o_8 P) (.node (top5.o_8 P) (.node (top5.o_24 P) (.node (q_64 P) .nil .nil) (.node (q_96 P) .nil .nil)) (.node (top5.o_40 P) (.node (fake.o_75 P) .nil .nil) (.node (q_112 P) .nil .nil))) (.node (top5.o_16 P) (.node (top5.o_32 P) (.node (q_72 P) .nil .nil) (.node (q_104 P) .nil .nil)) (.node (top5.o_48 P) (.node (q_88 P) .nil .nil) (.node (q_120 P) .nil .nil)))) (.node (q_st82 P) (.node (top5.o_12 P) (.node (top5.o_28 P) (.node (q_68 P) .nil .nil) (.node (q_100 P) .nil .nil)) (.node (top5.o_44 P) (.node (q_84 P) .nil .nil) (.node (q_116 P) .nil .nil))) (.node (top5.o_20 P) (.node (top5.o_36 P) (.node (fake.o_71 P) .nil .nil) (.node (q_108 P) .nil .nil)) (.node (top5.o_52 P) (.node (q_92 P) .nil .nil) .nil)))) (.node (boot_o_6 P) (.node (boot_o_10 P) (.node (top5.o_10 P) (.node (top5.o_26 P) (.node (q_66 P) .nil .nil) (.node (q_98 P) .nil .nil)) (.node (top5.o_42 P) (.node (q_82 P) .nil .nil) (.node (q_114 P) .nil .nil))) (.node (top5.o_18 P) (.node (top5.o_34 P) (.node (q_74 P) .nil .nil) (.node (q_106 P) .nil .nil)) (.node (top5.o_50 P) (.node (q_90 P) .nil .nil) .nil))) (.node (top5.o_4 P) (.node (top5.o_14 P) (.node (top5.o_30 P) (.node (q_70 P) .nil .nil) (.node (q_102 P) .nil .nil)) (.node (top5.o_46 P) (.node (q_86 P) .nil .nil) (.node (q_118 P) .nil .nil))) (.node (top5.o_22 P) (.node (top5.o_38 P) (.node (fake.o_73 P) .nil .nil) (.node (q_110 P) .nil .nil)) (.node (top5.o_54 P) (.node (q_94 P) .nil .nil) .nil))))))
noncomputable abbrev q_T121 (P : Params) : BT := (.node (boot_o_0 P) (.node (boot_o_1 P) (.node (q_ns14 P) (.node (boot_o_7 P) (.node (top5.o_7 P) (.node (top5.o_23 P) (.node (top5.o_55 P) .nil .nil) (.node (q_95 P) .nil .nil)) (.node (top5.o_39 P) (.node (fake.o_74 P) .nil .nil) (.node (q_111 P) .nil .nil))) (.node (top5.o_15 P) (.node (top5.o_31 P) (.node (q_71 P) .nil .nil) (.node (q_103 P) .nil .nil)) (.node (top5.o_47 P) (.node (q_87 P) .nil .nil) (.node (q_119 P) .nil .nil)))) (.node (top5.o_1 P) (.node (top5.o_11 P) (.node (top5.o_27 P) (.node (q_67 P) .nil .nil) (.node (q_99 P) .nil .nil)) (.node (top5.o_43 P) (.node (q_83 P) .nil .nil) (.node (q_115 P) .nil .nil))) (.node (top5.o_19 P) (.node (top5.o_35 P) (.node (fake.o_70 P) .nil .nil) (.node (q_107 P) .nil .nil)) (.node (top5.o_51 P) (.node (q_91 P) .nil .nil) .nil)))) (.node (boot_o_5 P) (.node (boot_o_9 P) (.node (top5.o_9 P) (.node (top5.o_25 P) (.node (q_65 P) .nil .nil) (.node (q_97 P) .nil .nil)) (.node (top5.o_41 P) (.node (fake.o_76 P) .nil .nil) (.node (q_113 P) .nil .nil))) (.node (top5.o_17 P) (.node (top5.o_33 P) (.node (q_73 P) .nil .nil) (.node (q_105 P) .nil .nil)) (.node (top5.o_49 P) (.node (q_89 P) .nil .nil) .nil))) (.node (top5.o_3 P) (.node (top5.o_13 P) (.node (top5.o_29 P) (.node (q_69 P) .nil .nil) (.node (q_101 P) .nil .nil)) (.node (top5.o_45 P) (.node (q_85 P) .nil .nil) (.node (q_117 P) .nil .nil))) (.node (top5.o_21 P) (.node (top5.o_37 P) (.node (fake.o_72 P) .nil .nil) (.node (q_109 P) .nil .nil)) (.node (top5.o_53 P) (.node (q_93 P) .nil .nil) .nil))))) (.node (boot_o_2 P) (.node (boot_o_4 P) (.node (boot_o_8 P) (.node (top5.o_8 P) (.node (top5.o_24 P) (.node (q_64 P) .nil .nil) (.node (q_96 P) .nil .nil)) (.node (top5.o_40 P) (.node (fake.o_75 P) .nil .nil) (.node (q_112 P) .nil .nil))) (.node (top5.o_16 P) (.node (top5.o_32 P) (.node (q_72 P) .nil .nil) (.node (q_104 P) .nil .nil)) (.node (top5.o_48 P) (.node (q_88 P) .nil .nil) (.node (q_120 P) .nil .nil)))) (.node (q_st82 P) (.node (top5.o_12 P) (.node (top5.o_28 P) (.node (q_68 P) .nil .nil) (.node (q_100 P) .nil .nil)) (.node (top5.o_44 P) (.node (q_84 P) .nil .nil) (.node (q_116 P) .nil .nil))) (.node (top5.o_20 P) (.node (top5.o_36 P) (.node (fake.o_71 P) .nil .nil) (.node (q_108 P) .nil .nil)) (.node (top5.o_52 P) (.node (q_92 P) .nil .nil) .nil)))) (.node (boot_o_6 P) (.node (boot_o_10 P) (.node (top5.o_10 P) (.node (top5.o_26 P) (.node (q_66 P) .nil .nil) (.node (q_98 P) .nil .nil)) (.node (top5.o_42 P) (.node (q_82 P) .nil .nil) (.node (q_114 P) .nil .nil))) (.node (top5.o_18 P) (.node (top5.o_34 P) (.node (q_74 P) .nil .nil) (.node (q_106 P) .nil .nil)) (.node (top5.o_50 P) (.node (q_90 P) .nil .nil) .nil))) (.node (top5.o_4 P) (.node (top5.o_14 P) (.node (top5.o_30 P) (.node (q_70 P) .nil .nil) (.node (q_102 P) .nil .nil)) (.node (top5.o_46 P) (.node (q_86 P) .nil .nil) (.node (q_118 P) .nil .nil))) (.node (top5.o_22 P) (.node (top5.o_38 P) (.node (fake.o_73 P) .nil .nil) (.node (q_110 P) .nil .nil)) (.node (top5.o_54 P) (.node (q_94 P) .nil .nil) .nil))))))
noncomputable abbrev q_T157 (P : Params) : BT := (.node (boot_o_0 P) (.node (boot_o_1 P) (.node (q_ns20 P) (.node (boot_o_7 P) (.node (top5.o_7 P) (.node (top5.o_23 P) (.node (top5.o_55 P) (.node (fake.o_137 P) .nil .nil) .nil) (.node (q_95 P) .nil .nil)) (.node (top5.o_39 P) (.node (fake.o_74 P) (.node (fake.o_156 P) .nil .nil) .nil) (.node (q_111 P) .nil .nil))) (.node (top5.o_15 P) (.node (top5.o_31 P) (.node (q_71 P) (.node (fake.o_145 P) .nil .nil) .nil) (.node (q_103 P) .nil .nil)) (.node (top5.o_47 P) (.node (q_87 P) (.node (fake.o_164 P) .nil .nil) .nil) (.node (q_119 P) .nil .nil)))) (.node (top5.o_1 P) (.node (top5.o_11 P) (.node (top5.o_27 P) (.node (q_67 P) (.node (fake.o_141 P) .nil .nil) .nil) (.node (q_99 P) .nil .nil)) (.node (top5.o_43 P) (.node (q_83 P) (.node (fake.o_160 P) .nil .nil) .nil) (.node (q_115 P) .nil .nil))) (.node (top5.o_19 P) (.node (top5.o_35 P) (.node (fake.o_70 P) (.node (fake.o_149 P) .nil .nil) .nil) (.node (q_107 P) .nil .nil)) (.node (top5.o_51 P) (.node (q_91 P) (.node (fake.o_168 P) .nil .nil) .nil) (.node (fake.o_133 P) .nil .nil))))) (.node (boot_o_5 P) (.node (boot_o_9 P) (.node (top5.o_9 P) (.node (top5.o_25 P) (.node (q_65 P) (.node (fake.o_139 P) .nil .nil) .nil) (.node (q_97 P) .nil .nil)) (.node (top5.o_41 P) (.node (fake.o_76 P) (.node (fake.o_158 P) .nil .nil) .nil) (.node (q_113 P) .nil .nil))) (.node (top5.o_17 P) (.node (top5.o_33 P) (.node (q_73 P) (.node (fake.o_147 P) .nil .nil) .nil) (.node (q_105 P) .nil .nil)) (.node (top5.o_49 P) (.node (q_89 P) (.node (fake.o_166 P) .nil .nil) .nil) (.node (fake.o_131 P) .nil .nil)))) (.node (top5.o_3 P) (.node (top5.o_13 P) (.node (top5.o_29 P) (.node (q_69 P) (.node (fake.o_143 P) .nil .nil) .nil) (.node (q_101 P) .nil .nil)) (.node (top5.o_45 P) (.node (q_85 P) (.node (fake.o_162 P) .nil .nil) .nil) (.node (q_117 P) .nil .nil))) (.node (top5.o_21 P) (.node (top5.o_37 P) (.node (fake.o_72 P) (.node (fake.o_154 P) .nil .nil) .nil) (.node (q_109 P) .nil .nil)) (.node (top5.o_53 P) (.node (q_93 P) .nil .nil) (.node (fake.o_135 P) .nil .nil)))))) (.node (boot_o_2 P) (.node (boot_o_4 P) (.node (boot_o_8 P) (.node (top5.o_8 P) (.node (top5.o_24 P) (.node (q_64 P) (.node (fake.o_138 P) .nil .nil) .nil) (.node (q_96 P) .nil .nil)) (.node (top5.o_40 P) (.node (fake.o_75 P) (.node (fake.o_157 P) .nil .nil) .nil) (.node (q_112 P) .nil .nil))) (.node (top5.o_16 P) (.node (top5.o_32 P) (.node (q_72 P) (.node (fake.o_146 P) .nil .nil) .nil) (.node (q_104 P) .nil .nil)) (.node (top5.o_48 P) (.node (q_88 P) (.node (fake.o_165 P) .nil .nil) .nil) (.node (q_120 P) .nil .nil)))) (.node (fake.o_152 P) (.node (top5.o_12 P) (.node (top5.o_28 P) (.node (q_68 P) (.node (fake.o_142 P) .nil .nil) .nil) (.node (q_100 P) .nil .nil)) (.node (top5.o_44 P) (.node (q_84 P) (.node (fake.o_161 P) .nil .nil) .nil) (.node (q_116 P) .nil .nil))) (.node (top5.o_20 P) (.node (top5.o_36 P) (.node (fake.o_71 P) (.node (fake.o_153 P) .nil .nil) .nil) (.node (q_108 P) .nil .nil)) (.node (top5.o_52 P) (.node (q_92 P) (.node (fake.o_169 P) .nil .nil) .nil) (.node (fake.o_134 P) .nil .nil))))) (.node (boot_o_6 P) (.node (boot_o_10 P) (.node (top5.o_10 P) (.node (top5.o_26 P) (.node (q_66 P) (.node (fake.o_140 P) .nil .nil) .nil) (.node (q_98 P) .nil .nil)) (.node (top5.o_42 P) (.node (q_82 P) (.node (fake.o_159 P) .nil .nil) .nil) (.node (q_114 P) .nil .nil))) (.node (top5.o_18 P) (.node (top5.o_34 P) (.node (q_74 P) (.node (fake.o_148 P) .nil .nil) .nil) (.node (q_106 P) .nil .nil)) (.node (top5.o_50 P) (.node (q_90 P) (.node (fake.o_167 P) .nil .nil) .nil) (.node (fake.o_132 P) .nil .nil)))) (.node (top5.o_4 P) (.node (top5.o_14 P) (.node (top5.o_30 P) (.node (q_70 P) (.node (fake.o_144 P) .nil .nil) .nil) (.node (q_102 P) .nil .nil)) (.node (top5.o_46 P) (.node (q_86 P) (.node (fake.o_163 P) .nil .nil) .nil) (.node (q_118 P) .nil .nil))) (.node (top5.o_22 P) (.node (top5.o_38 P) (.node (fake.o_73 P) (.node (fake.o_155 P) .nil .nil) .nil) (.node (q_110 P) .nil .nil)) (.node (top5.o_54 P) (.node (q_94 P) .nil .nil) (.node (fake.o_136 P) .nil .nil)))))))
end
section
open PySem PySem.W PyProof.Rows
set_option maxRecDepth 100000
set_option maxHeartbeats 0
set_option linter.unusedVariables false
theorem T82_list (P : Params) : ((q_T82 P).list 82).length = 82 := by rw [BT.list, List.length_map, List.length_range]
theorem T121_list (P : Params) : (q_T121a P).list 121 = (q_T82 P).list 82 ++ dObj b3St.es b3St.m :: b3St.mid := by
  have e : b3St.mid = (List.range 38).map fun i => (b3St.mid[i]?).getD default := by
    apply List.ext_getElem
    · rw [b3_mid]; rfl
    · intro i h1 h2
      simp [h1]
  rw [e]
  kernel_rfl
theorem sysMods (a : Nat) (h : 82 < a) : (a == sysModules) = false := beq_eq_false_iff_ne.mpr (by
  have : (sysModules : Nat) ≤ 82 := by decide +kernel
  intro q; subst q; exact absurd h (Nat.not_lt.mpr this))
theorem p7_disp {p : Program} {w : World} {os : OsState} {env : Env} : Does p w (2 + b3St.n) (do standAt b3Pos2; eval (.Dict b3Keys b3Vals b3Pos) env) (stT (q_T82 w.params) 82 328 os).abs (.ref 82) (stT (q_T121a w.params) 121 2278 os).abs := by
  obtain ⟨X, e, hX⟩ := pairs_items (p := p) (w := w) (env := env) (pos := b3Pos) b3Keys b3Vals b3_ok
  have h := does_display (p := p) (w := w) (pre := (q_T82 w.params).list 82) (os := os) (tk := 328) (L := b3) hX (by rw [b3_len]; decide) (by rw [b3_rest]; decide) (by intro q; have := b3_rest; rw [q] at this; cases this)
    (asc_nodup (by decide) b3_asc).1 (by rw [b3_len, sizeLine_eq]; decide) (by rw [T82_list]; rfl) (by rw [T82_list]; exact sysMods)
  rw [T82_list, show dispR 328 b3 = b3St from rfl, b3_tk, ← T121_list, ← e] at h
  refine Does.cast (does_bind does_at (n' := 1 + b3St.n) ?_) (by omega)
  show Does p w (1 + b3St.n) (standAt b3Pos >>= fun _ => dictDisplay _) _ _ _
  exact does_bind does_at h
end
section
open PySem PySem.W PyProof.Rows
set_option maxRecDepth 100000
set_option maxHeartbeats 0
set_option linter.unusedVariables false
noncomputable def b3Rest (env : Env) (v : Value) : Sem Flow := swappedStores b3Tgt (.Dict b3Keys b3Vals b3Pos) env >>= fun sw => assignStores env v sw ((assignEach b3Tgt env).map (·.2))
theorem exec7 (env : Env) : exec (topStm 7) env = (standAt b3Pos2 >>= fun _ => eval (.Dict b3Keys b3Vals b3Pos) env) >>= b3Rest env := by
  rw [st7_eq]
  kernel_rfl
noncomputable abbrev P7 (w : World) : Prop := (fun p bd pos os => segRunT treeTable p w 11 (some (Value.ref 6)) 1 8 (stT (q_T121a w.params) 121 2278 os) ⟨(b3Rest top5.env_1 (.ref 82)).wrap doneF deadEnd id id, Code.body bd top5.env_1, pos, [topFrame zP]⟩) =
  fun (p : Program) (bd : List Stmt) (pos : Pos) os => some (Flow.next, stT (q_T121 w.params) 121 2279 os, Code.body bd top5.env_1, { line := 63, col := 0, endLine := 63, endCol := 13 })
theorem p7_rest (w : World) : P7 w := by
  unfold P7
  rw [PySem.W.Fast.te10110043849684766642, PySem.W.Fast.te14364793385576792824]
  kernel_rfl
theorem p7 (p : Program) (w : World) (bd : List Stmt) (pos : Pos) (os : OsState) : segRun treeTable p w 11 (some (Value.ref 6)) 1 (12517 + 8) (stT (q_T82 w.params) 82 328 os).abs (pieceOf (topStm 7) top5.env_1 (Code.body bd top5.env_1) pos [topFrame zP]) =
    some (Flow.next, (stT (q_T121 w.params) 121 2279 os).abs, Code.body bd top5.env_1, { line := 63, col := 0, endLine := 63, endCol := 13 }) := by
  obtain ⟨pos', h⟩ := p7_disp (p := p) (w := w) (os := os) (env := top5.env_1) (fun a => (b3Rest top5.env_1 a).wrap doneF deadEnd id id) (fun e => (Sem.raise e).wrap doneF deadEnd id id) (fun g => id (id g)) (fun l => id (id l)) (Code.body bd top5.env_1) pos
  have e : pieceOf (topStm 7) top5.env_1 (Code.body bd top5.env_1) pos [topFrame zP] = ⟨(standAt b3Pos2 >>= fun _ => eval (.Dict b3Keys b3Vals b3Pos) top5.env_1).wrap (fun a => (b3Rest top5.env_1 a).wrap doneF deadEnd id id) (fun e => (Sem.raise e).wrap doneF deadEnd id id) (fun g => id (id g)) (fun l => id (id l)), Code.body bd top5.env_1, pos, [topFrame zP]⟩ := by
    unfold pieceOf
    rw [exec7, Sem.bind_eq_wrap', Sem.wrap_wrap]
  rw [e]
  rw [b3_n] at h
  exact seg_go h (segRun_of (congrFun (congrFun (congrFun (congrFun (p7_rest w) p) bd) pos') os))
noncomputable abbrev P8 (w : World) : Prop := (fun p bd os => segRunT treeTable p w 11 (some (Value.ref 6)) 1 182 (stT (q_T121 w.params) 121 2279 os) (piecesOf (PySem.Challenge.pw_re0120_01.main.body.drop 8) top5.env_1 (Code.body bd top5.env_1) { line := 63, col := 0, endLine := 63, endCol := 13 } [topFrame zP])) =
  fun (p : Program) (bd : List Stmt) os => some (Flow.next, stT (q_T157 w.params) 157 2327 os, Code.body bd top5.env_1, { line := 90, col := 0, endLine := 115, endCol := 60 })
theorem p8 (w : World) : P8 w := by
  unfold P8
  rw [PySem.W.Fast.te10110043849684766642, PySem.W.Fast.te14364793385576792824]
  kernel_rfl
end
section
open PySem PySem.W PyProof.Rows
set_option maxRecDepth 100000
set_option maxHeartbeats 0
set_option linter.unusedVariables false
noncomputable abbrev pwM : Program := PySem.Challenge.pw_re0120_01
noncomputable abbrev allRest : List Stmt := [topStm 5] ++ ([topStm 6] ++ (topStm 7 :: (PySem.Challenge.pw_re0120_01.main.body.drop 8 ++ [])))
theorem body_eq : behindTheImports pwM = top5.sts_4 ++ allRest := by kernel_rfl
theorem pre_go (w : World) (os : OsState) : topGo treeTable pwM w 11 (some (Value.ref 6)) 12 ⟨boot_heap w.params, Array.mk [], boot_drawn, boot_toks, os⟩ (topStub pwM) =
    some ((stT (top5.tree_4 w.params) 15 187 os).abs, ⟨denote treeTable (Code.body (behindTheImports pwM) top5.env_1), Code.body (behindTheImports pwM) top5.env_1, zP, [topFrame zP]⟩) := by
  rw [PySem.W.Fast.te15667345088766844465, PySem.W.Fast.te11892475500146522536, PySem.W.Fast.te14364793385576792824]
  kernel_rfl
theorem block_go (w : World) (os : OsState) (bd : List Stmt) : segRun treeTable pwM w 11 (some (Value.ref 6)) 1 1 (stT (top5.tree_4 w.params) 15 187 os).abs (blockOf (behindTheImports pwM) top5.env_1 (Code.body bd top5.env_1) zP [topFrame zP]) =
    some (.next, (stT (top5.tree_4 w.params) 15 187 os).abs, Code.body bd top5.env_1, zP) := by
  rw [PySem.W.Fast.te14374325043358763698, PySem.W.Fast.te14364793385576792824]
  kernel_rfl
theorem fin_go (w : World) (os : OsState) (bd : List Stmt) : topRun treeTable pwM w 11 (some (Value.ref 6)) 2 (stT (q_T157 w.params) 157 2327 os).abs ⟨doneF .next, Code.body bd top5.env_1, { line := 90, col := 0, endLine := 115, endCol := 60 }, [topFrame zP]⟩ =
    some (stT (q_T157 w.params) 157 2327 os).abs := by
  rw [PySem.W.Fast.te14082659384304107361, PySem.W.Fast.te14364793385576792824]
  kernel_rfl
theorem top_run (w : World) (os : OsState) : topRun treeTable pwM w 11 (some (Value.ref 6)) (12 + (1 + (383 + (1000 + (30 + (12525 + (182 + 2))))))) ⟨boot_heap w.params, Array.mk [], boot_drawn, boot_toks, os⟩ (topStub pwM) = some (stT (q_T157 w.params) 157 2327 os).abs := by
  refine go_top (pre_go w os) (piece_block (block_go w os _) ?_)
  rw [body_eq]
  refine top5.chain pwM _ w os _ _ _ ?_
  refine piece_app (segRun_of (congrFun (congrFun (congrFun (p5 w) pwM) _) os)) ?_
  refine piece_app (segRun_of (congrFun (congrFun (congrFun (p6 w) pwM) _) os)) ?_
  refine piece_cons (p7 pwM w _ _ os) ?_
  refine piece_app (segRun_of (congrFun (congrFun (congrFun (p8 w) pwM) _) os)) ?_
  exact fin_go w os _
end
section
open PySem PySem.W PyProof.Rows
set_option maxRecDepth 100000
set_option maxHeartbeats 0
set_option linter.unusedVariables false
noncomputable def topK0 (P : Params) : Frag := (nat_lit 2, boot_o_2 P) :: (nat_lit 3, q_ns20 P) :: (nat_lit 6, boot_o_6 P) :: (nat_lit 22, top5.o_14 P) :: (nat_lit 24, top5.o_16 P) :: (nat_lit 25, top5.o_17 P) :: (nat_lit 27, top5.o_19 P) :: (nat_lit 28, top5.o_20 P) :: (nat_lit 29, top5.o_21 P) :: (nat_lit 31, top5.o_23 P) :: (nat_lit 32, top5.o_24 P) :: (nat_lit 34, top5.o_26 P) :: (nat_lit 35, top5.o_27 P) :: (nat_lit 36, top5.o_28 P) :: (nat_lit 38, top5.o_30 P) :: (nat_lit 39, top5.o_31 P) :: (nat_lit 41, top5.o_33 P) :: (nat_lit 42, top5.o_34 P) :: (nat_lit 43, top5.o_35 P) :: (nat_lit 45, top5.o_37 P) :: (nat_lit 46, top5.o_38 P) :: (nat_lit 48, top5.o_40 P) :: (nat_lit 49, top5.o_41 P) :: (nat_lit 50, top5.o_42 P) :: (nat_lit 51, top5.o_43 P) :: (nat_lit 52, top5.o_44 P) :: (nat_lit 53, top5.o_45 P) :: (nat_lit 54, top5.o_46 P) :: (nat_lit 57, top5.o_49 P) :: (nat_lit 59, top5.o_51 P) :: (nat_lit 60, top5.o_52 P) :: (nat_lit 62, top5.o_54 P) :: (nat_lit 63, top5.o_55 P) :: (nat_lit 71, q_71 P) :: (nat_lit 75, fake.o_70 P) :: (nat_lit 77, fake.o_72 P) :: (nat_lit 78, fake.o_73 P) :: (nat_lit 80, fake.o_75 P) :: (nat_lit 81, fake.o_76 P) :: (nat_lit 82, q_82 P) :: (nat_lit 121, fake.o_131 P) :: (nat_lit 123, fake.o_133 P) :: (nat_lit 124, fake.o_134 P) :: (nat_lit 126, fake.o_136 P) :: (nat_lit 127, fake.o_137 P) :: (nat_lit 128, fake.o_138 P) :: (nat_lit 130, fake.o_140 P) :: (nat_lit 131, fake.o_141 P) :: (nat_lit 133, fake.o_143 P) :: (nat_lit 134, fake.o_144 P) :: (nat_lit 135, fake.o_145 P) :: (nat_lit 138, fake.o_148 P) :: (nat_lit 139, fake.o_149 P) :: (nat_lit 140, fake.o_153 P) :: (nat_lit 142, fake.o_155 P) :: (nat_lit 143, fake.o_156 P) :: (nat_lit 145, fake.o_158 P) :: (nat_lit 146, fake.o_159 P) :: (nat_lit 147, fake.o_160 P) :: (nat_lit 150, fake.o_163 P) :: (nat_lit 151, fake.o_164 P) :: (nat_lit 152, fake.o_165 P) :: (nat_lit 155, fake.o_168 P) :: (nat_lit 156, fake.o_169 P) :: []
noncomputable def topK : Params → Frag := by
  refine (fun (_ : topK0 = ?l) => ?l) ?h
  case h => (conv => lhs; delta topK0 boot_o_2 q_ns20 boot_o_6 top5.o_14 top5.o_16 top5.o_17 top5.o_19 top5.o_20 top5.o_21 top5.o_23 top5.o_24 top5.o_26 top5.o_27 top5.o_28 top5.o_30 top5.o_31 top5.o_33 top5.o_34 top5.o_35 top5.o_37 top5.o_38 top5.o_40 top5.o_41 top5.o_42 top5.o_43 top5.o_44 top5.o_45 top5.o_46 top5.o_49 top5.o_51 top5.o_52 top5.o_54 top5.o_55 q_71 fake.o_70 fake.o_72 fake.o_73 fake.o_75 fake.o_76 q_82 fake.o_131 fake.o_133 fake.o_134 fake.o_136 fake.o_137 fake.o_138 fake.o_140 fake.o_141 fake.o_143 fake.o_144 fake.o_145 fake.o_148 fake.o_149 fake.o_153 fake.o_155 fake.o_156 fake.o_158 fake.o_159 fake.o_160 fake.o_163 fake.o_164 fake.o_165 fake.o_168 fake.o_169 fp_6 fb_6 fs_6 fp_8 fb_8 fs_8 fp_10 fb_10 fs_10 fp_11 fb_11 fs_11 fp_12 fb_12 fs_12 fp_13 fb_13 fs_13 fp_14 fb_14 fs_14)
noncomputable abbrev topAs : List Addr := nat_lit 2 :: nat_lit 3 :: nat_lit 6 :: nat_lit 22 :: nat_lit 24 :: nat_lit 25 :: nat_lit 27 :: nat_lit 28 :: nat_lit 29 :: nat_lit 31 :: nat_lit 32 :: nat_lit 34 :: nat_lit 35 :: nat_lit 36 :: nat_lit 38 :: nat_lit 39 :: nat_lit 41 :: nat_lit 42 :: nat_lit 43 :: nat_lit 45 :: nat_lit 46 :: nat_lit 48 :: nat_lit 49 :: nat_lit 50 :: nat_lit 51 :: nat_lit 52 :: nat_lit 53 :: nat_lit 54 :: nat_lit 57 :: nat_lit 59 :: nat_lit 60 :: nat_lit 62 :: nat_lit 63 :: nat_lit 71 :: nat_lit 75 :: nat_lit 77 :: nat_lit 78 :: nat_lit 80 :: nat_lit 81 :: nat_lit 82 :: nat_lit 121 :: nat_lit 123 :: nat_lit 124 :: nat_lit 126 :: nat_lit 127 :: nat_lit 128 :: nat_lit 130 :: nat_lit 131 :: nat_lit 133 :: nat_lit 134 :: nat_lit 135 :: nat_lit 138 :: nat_lit 139 :: nat_lit 140 :: nat_lit 142 :: nat_lit 143 :: nat_lit 145 :: nat_lit 146 :: nat_lit 147 :: nat_lit 150 :: nat_lit 151 :: nat_lit 152 :: nat_lit 155 :: nat_lit 156 :: []
theorem topAs_ok (P : Params) : topAs = (topK P).map (·.1) := by kernel_rfl
noncomputable abbrev hk : Hook := kmHook topK topAs topAs_ok [129]
noncomputable abbrev ls1 : Stmt := by
  refine (fun (_ : topStm 1 = ?l) => ?l) ?h
  case h => (conv => lhs; whnf)
noncomputable abbrev ls3 : Stmt := by
  refine (fun (_ : topStm 3 = ?l) => ?l) ?h
  case h => (conv => lhs; whnf)
noncomputable abbrev ls5 : Stmt := by
  refine (fun (_ : topStm 5 = ?l) => ?l) ?h
  case h => (conv => lhs; whnf)
noncomputable abbrev ls6 : Stmt := by
  refine (fun (_ : topStm 6 = ?l) => ?l) ?h
  case h => (conv => lhs; whnf)
noncomputable abbrev ls8 : Stmt := by
  refine (fun (_ : topStm 8 = ?l) => ?l) ?h
  case h => (conv => lhs; whnf)
noncomputable abbrev ls10 : Stmt := by
  refine (fun (_ : topStm 10 = ?l) => ?l) ?h
  case h => (conv => lhs; whnf)
noncomputable abbrev ls11 : Stmt := by
  refine (fun (_ : topStm 11 = ?l) => ?l) ?h
  case h => (conv => lhs; whnf)
noncomputable abbrev ls12 : Stmt := by
  refine (fun (_ : topStm 12 = ?l) => ?l) ?h
  case h => (conv => lhs; whnf)
noncomputable abbrev ls13 : Stmt := by
  refine (fun (_ : topStm 13 = ?l) => ?l) ?h
  case h => (conv => lhs; whnf)
noncomputable abbrev ls14 : Stmt := by
  refine (fun (_ : topStm 14 = ?l) => ?l) ?h
  case h => (conv => lhs; whnf)
noncomputable abbrev vw : Program := { pwM with main := { pwM.main with body := [ls1, ls3, ls5, ls6, ls8, ls10, ls11, ls12, ls13, ls14] } }
noncomputable abbrev lsN : List Str := [Str.ofString "b1_set", Str.ofString "b3_exceptions"]
noncomputable abbrev endS (w : World) (os : OsState) : Shared := (stT (q_T157 w.params) 157 2327 os).abs
theorem look_hook (w : World) (os : OsState) : hk.obs (endS w os) = hk.val w := by kernel_rfl
theorem look_names (w : World) (os : OsState) : (namesBound pwM (absHeap (q_T157 w.params) 157 {}) && gensDone (endS w os)) = true := by kernel_rfl
theorem look_statics (w : World) : staticsOk (importedModules pwM.main.body) (boot_heap w.params) (absHeap (q_T157 w.params) 157 {}) = true := by kernel_rfl
theorem look_laid (w : World) : laidKept (boot_heap w.params) (absHeap (q_T157 w.params) 157 {}) = true := by kernel_rfl
end
section
open PySem PySem.W PyProof.Rows
set_option maxRecDepth 100000
set_option maxHeartbeats 0
set_option linter.unusedVariables false
noncomputable abbrev xt16 : Shared → Bool := fun s => xlAt vw [] s && recOk (RowW.records PySem.Challenge.rw_re0120_01.row.toRowW) s
theorem look_seen (w : World) (os : OsState) : openSeen vw lsN (importedModules pwM.main.body) xt16 true (endS w os) = openGood vw lsN := by
  unfold openSeen openGood
  refine looks_pair ?a (looks_pair ?b (looks_pair ?c (looks_pair ?d (looks_pair ?e (looks_pair ?f (looks_pair ?g (looks_pair ?h ?i)))))))
  case a => kernel_rfl
  case b => kernel_rfl
  case c => kernel_rfl
  case d => kernel_rfl
  case e => kernel_rfl
  case f => kernel_rfl
  case g => kernel_rfl
  case h => kernel_rfl
  case i => kernel_rfl
end
section
open PySem PySem.W PyProof.Rows
set_option maxRecDepth 100000
set_option maxHeartbeats 0
set_option linter.unusedVariables false
theorem leftO : LeftO pwM vw lsN xt16 hk.obs hk.val 14400 := by
  refine LeftO.of_pieces (H₀ := boot_heap) (H₁ := fun P => absHeap (q_T157 P) 157 {}) (gs₀ := Array.mk []) (gs₁ := Array.mk []) (d₀ := boot_drawn) (d₁ := {}) (k₀ := boot_toks) (k₁ := 2327) (m₀ := 11) (ann := some (.ref 6))
    (boot_open ?e ?hN ?f) ?size top_run ?le ?looks
  case e => kernel_rfl
  case hN => rfl
  case f => intro s; kernel_rfl
  case size => intro w; kernel_rfl
  case le => rfl
  case looks =>
    intro w
    funext os
    refine looks_pair ?_ (looks_pair (look_seen w os) (look_hook w os))
    rw [look_statics, look_laid, Bool.true_and, Bool.and_true]
    exact look_names w os
end
section
open PySem PySem.W PySem.Spec PySem.Calls PyProof.Rows
set_option maxRecDepth 100000
set_option maxHeartbeats 4000000
section
variable {prog : Program} {w : World} {A : Around} {E : Value → Shared → Prop} {s : Shared} {h₀ : Heap} {L : Addr} {m : Str → Option Value} {news news' : List (Addr × Obj)}

theorem truthy_cons {l : Addr} {y : Value} {ys : List Value} {n : Nat} {Q : Bool → Shared → Prop} (N : News h₀ L s.heap news) (q : (l, listOf (y :: ys).toArray n) ∈ news) (z : ys.length + 1 ≤ sizeLine)
    (h : Q true { s with toks := s.toks + 1 + 1 }) : wpAny (model prog w) A (truthy (.ref l)) Q E s := by
  refine wpAny_truthy_list (items := (y :: ys).toArray) ⟨_, (N _ q).1, rfl, n, rfl⟩ ?_ ?_
  · rw [sizeLine_eq] at z; simp only [List.size_toArray, List.length_cons]; omega
  · simpa using h
theorem truthy_nil {l : Addr} {n : Nat} {Q : Bool → Shared → Prop} (N : News h₀ L s.heap news) (q : (l, listOf ([] : List Value).toArray n) ∈ news)
    (h : Q false { s with toks := s.toks + 1 + 1 }) : wpAny (model prog w) A (truthy (.ref l)) Q E s := by
  refine wpAny_truthy_list (items := #[]) ⟨_, (N _ q).1, rfl, n, rfl⟩ ?_ ?_
  · decide
  · simpa using h
theorem pop0 {l : Addr} {y : Value} {ys : List Value} {n : Nat} {u : Tok} {Q : Value → Shared → Prop} (F : Fr h₀ L s.heap m) (N : News h₀ L s.heap news) (U : Upd l (listOf (y :: ys).toArray n) (listOf ys.toArray (n + 1)) news news')
    (z : ys.length + 1 ≤ sizeLine) (h : ∀ h', Fr h₀ L h' m → News h₀ L h' news' → Q y { s with heap := h' }) : wpAny (model prog w) A (call (.builtin "list.pop") [.ref l, .int 0 u]) Q E s :=
  kl_popAt (p := []) (q := ys) F N rfl (k := 0) (by simp [seqIndex?]) rfl U (by simpa using z) h
end
end
section
open PySem PySem.W PySem.Spec PySem.Calls PyProof.Rows
set_option maxRecDepth 100000
set_option maxHeartbeats 4000000
section
variable {prog : Program} {w : World} {A : Around} {E : Value → Shared → Prop} {s : Shared} {h₀ : Heap} {L : Addr} {m : Str → Option Value} {news news' : List (Addr × Obj)}
theorem fn_setattr : typeLookup (.type "function") "__setattr__" = pure (some (.builtin "object.__setattr__")) := by rw [typeLookup_type, builtinLookup_eq_fast]; kernel_rfl
theorem fn_read : typeLookup (.type "function") "read" = pure none := by rw [typeLookup_type, builtinLookup_eq_fast]; kernel_rfl
theorem fn_isobj : isSubtype (.type "function") (.type "object") = pure true := by rw [isSubtype_type]; kernel_rfl
theorem fn_mro : mroOf (.type "function") = pure [.type "function", .type "object"] := by rfl
theorem fn_refuse (self : Value) : Builtin.ObjectAttr.refuseIfOverridden self "__setattr__" = (do let tp ← typeOf self; let l ← mroOf tp; refuseLoop self "__setattr__" l) := refuse_eq ..
theorem fn_pass (self : Value) : refuseLoop self "__setattr__" [.type "function", .type "object"] = pure () := by rfl
theorem set_fn {f : Addr} {fd : FuncData} {sl : Array (Option Value)} {name : Str} {v : Value} {Q : Unit → Shared → Prop} (hT : typeLookup (.type "function") name = pure none)
    (hf : s.heap.get? f = some ⟨.type "function", none, .func fd, sl⟩)
    (h : ∀ h', (∀ b o, b ≠ f → s.heap.get? b = some o → h'.get? b = some o) → h'.get? f = some ⟨.type "function", some s.heap.objs.size, .func fd, sl⟩ →
      h'.get? s.heap.objs.size = some (dictOf [⟨PyData.keyHash w.params name, .str name (s.toks + 1), v⟩] 1) → Q () { s with heap := h', toks := s.toks + 1 + 1 }) :
    wpAny (model prog w) A (setAttr (.ref f) name v) Q E s := by
  have SF := PySem.F.store_object
  have hty : Looks (model prog w) s.heap (typeOf (.ref f)) (.type "function") := (Looks.ld hf).andThen .now
  refine wpAny_bind (wpAny_mkText (wpAny_bind (wpAny_bind (wpAny_bind (hty _ _ _ _ (fun _ _ e => e) ?_)))))
  rw [fn_setattr]
  refine wpAny_pure (wpAny_holding ?_)
  rw [SF.slot.bind]
  refine wpAny_bind (wpAny_pure (wpAny_bind (wpAny_call ?_)))
  have sub : Looks (model prog w) s.heap (isInstance (.ref f) (.type "object")) true := hty.andThen (by rw [fn_isobj]; exact .now)
  refine codeAny_call_builtin SF.slot.plain SF.entry (@check_slot (model prog w) _ _ _ "object.__setattr__" "object" "__setattr__" (.ref f) [.str name s.toks, v] [] _ SF.kind SF.split sub (SF.args (.ref f) (.str name s.toks) v) ?_)
  rw [show ([Value.ref f] ++ [Value.str name s.toks, v]) = [.ref f, .str name s.toks, v] from rfl, osa_eq, refuse_eq]
  refine wpAny_bind (wpAny_bind (hty _ _ _ _ (fun _ _ e => e) (wpAny_bind ?_)))
  rw [fn_mro]
  refine wpAny_pure ?_
  rw [fn_pass]
  refine wpAny_pure (wpAny_bind (hty _ _ _ _ (fun _ _ e => e) (wpAny_bind ?_)))
  rw [hT]
  refine wpAny_pure (wpAny_bind (wpAny_pure ?_))
  show wpAny _ _ (Builtin.ObjectAttr.storeInOwnDict (.ref f) (.type "function") (.str name s.toks) name v false) _ _ _
  have hne : f ≠ s.heap.objs.size := Nat.ne_of_lt (Heap.lt_size hf)
  have hf1 : (s.heap.push (dictOf [] 0)).get? f = some ⟨.type "function", none, .func fd, sl⟩ := Heap.get?_push_of_some _ hf
  have hD1 : (s.heap.push (dictOf [] 0)).get? s.heap.objs.size = some (dictOf [] 0) := Heap.get?_push_size _ rfl
  refine wpAny_bind (wpAny_pure (wpAny_bind (wpAny_bind (wpAny_loadPart hf (wpAny_bind (wpAny_alloc (wpAny_bind (wpAny_update hf1 ?_))))))))
  have hs2 : Heap.SameBut f (s.heap.push (dictOf [] 0)) ((s.heap.push (dictOf [] 0)).update f fun o => { o with dict := some s.heap.objs.size }) := Heap.SameBut.update ..
  have hf2 : ((s.heap.push (dictOf [] 0)).update f fun o => { o with dict := some s.heap.objs.size }).get? f = some ⟨.type "function", some s.heap.objs.size, .func fd, sl⟩ := Heap.get?_update_self _ hf1 rfl
  have hD2 := (hs2.2 _ (Ne.symm hne)).trans hD1
  refine wpAny_pure (wpAny_bind (wpAny_pure (wpAny_bind ?_)))
  unfold nsSet
  refine wpAny_bind (wpAny_bind (wpAny_askSetting (wpAny_pure (wpAny_bind (wpAny_mkText (wpAny_bind (wpAny_loadPart hD2 ?_)))))))
  dsimp only
  have c : (!(([] : List DictEntry).toArray).any (·.key.isStr name) && (([] : List DictEntry).toArray).any (·.refKey)) = false := by simp
  rw [aRefKeyMayBeTheName_at, c]
  refine wpAny_updatePart hD2 ?_
  have hs3 : Heap.SameBut s.heap.objs.size ((s.heap.push (dictOf [] 0)).update f fun o => { o with dict := some s.heap.objs.size })
    (((s.heap.push (dictOf [] 0)).update f fun o => { o with dict := some s.heap.objs.size }).update s.heap.objs.size (Obj.putName name (PyData.keyHash w.params name) (.str name (s.toks + 1)) v)) := Heap.SameBut.update ..
  have e3 : Obj.putName name (PyData.keyHash w.params name) (.str name (s.toks + 1)) v (dictOf [] 0) = dictOf [⟨PyData.keyHash w.params name, .str name (s.toks + 1), v⟩] 1 := putName_dict ..
  have hD3 := Heap.get?_update_self (Obj.putName name (PyData.keyHash w.params name) (.str name (s.toks + 1)) v) hD2 (by rw [e3]; rfl)
  rw [e3] at hD3
  have hf3 := (hs3.2 f hne).trans hf2
  refine wpAny_bind (wpAny_lookBehind (o := dictOf [⟨PyData.keyHash w.params name, .str name (s.toks + 1), v⟩] 1) hD3 (pastItsLine_dict (by rw [List.size_toArray, sizeLine_eq]; exact Nat.le_of_ble_eq_true rfl)) ?_)
  refine wpAny_pure (wpAny_pure (wpAny_pure (h _ (fun b o hb e => ?_) hf3 hD3)))
  exact (hs3.2 b (Nat.ne_of_lt (Heap.lt_size e))).trans ((hs2.2 b hb).trans (Heap.get?_push_of_some _ e))
theorem set_fnK {f : Addr} {fd : FuncData} {sl : Array (Option Value)} {name : Str} {v : Value} {g : Obj → List (Addr × Obj)} {Q : Unit → Shared → Prop} (F : Fr h₀ L s.heap m) (N : News h₀ L s.heap news)
    (U : UpdF f ⟨.type "function", none, .func fd, sl⟩ news g) (hT : typeLookup (.type "function") name = pure none)
    (h : ∀ D h', Fr h₀ L h' m → News h₀ L h' ((D, dictOf [⟨PyData.keyHash w.params name, .str name (s.toks + 1), v⟩] 1) :: g ⟨.type "function", some D, .func fd, sl⟩) → (∀ p ∈ news, p.1 < D) → Q () { s with heap := h', toks := s.toks + 1 + 1 }) :
    wpAny (model prog w) A (setAttr (.ref f) name v) Q E s := by
  obtain ⟨pre, post, rfl, hg, h1, h2⟩ := U.split
  have z := N (f, ⟨.type "function", none, .func fd, sl⟩) (List.mem_append.mpr (.inr (.head _)))
  refine set_fn hT z.1 fun h' hk hf hD => h _ h' ?_ ?_ fun p hp => Heap.lt_size (N p hp).1
  · obtain ⟨oL, a1, a2, hL, a3⟩ := F.ns
    refine ⟨⟨oL, a1, a2, hk _ _ (Ne.symm z.2.1) hL, a3⟩, fun b o e => hk b o (fun q => ?_) (F.keep b o e), F.above⟩
    rw [q, z.2.2] at e; cases e
  · rw [hg]
    have nL : s.heap.objs.size ≠ L := by
      obtain ⟨oL, a1, a2, hL, a3⟩ := F.ns
      exact Nat.ne_of_gt (Heap.lt_size hL)
    have n0 : h₀.get? s.heap.objs.size = none := by
      cases q : h₀.get? s.heap.objs.size with
      | none => rfl
      | some o => exact absurd (Heap.lt_size (F.keep _ _ q)) (Nat.lt_irrefl _)
    intro p hp
    rcases List.mem_cons.mp hp with rfl | hp
    · exact ⟨hD, nL, n0⟩
    rcases List.mem_append.mp hp with hp | hp
    · have y := N p (List.mem_append.mpr (.inl hp))
      exact ⟨hk _ _ (h1 p hp) y.1, y.2⟩
    rcases List.mem_cons.mp hp with rfl | hp
    · exact ⟨hf, z.2⟩
    · have y := N p (List.mem_append.mpr (.inr (.tail _ hp)))
      exact ⟨hk _ _ (h2 p hp) y.1, y.2⟩
theorem allLt_ne {d c : Nat} : ∀ {l : List (Addr × Obj)}, AllLt d l → d ≤ c → ∀ p ∈ l, p.1 ≠ c
  | [], _, _ => fun _ h => nomatch h
  | q :: l, h, hc => fun p hp => by
    rcases List.mem_cons.mp hp with rfl | hp
    · exact Nat.ne_of_lt (Nat.lt_of_lt_of_le h.1 hc)
    · exact allLt_ne h.2 hc p hp
theorem allLt_ne' {d c : Nat} {l : List (Addr × Obj)} (h : ∀ p ∈ l, p.1 < d) (hc : d ≤ c) : ∀ p ∈ l, p.1 ≠ c := fun p hp => Nat.ne_of_lt (Nat.lt_of_lt_of_le (h p hp) hc)
theorem allLt_mono {d c : Nat} (hc : d ≤ c) : ∀ {l : List (Addr × Obj)}, AllLt d l → AllLt c l
  | [], _ => trivial
  | _ :: _, h => ⟨Nat.lt_of_lt_of_le h.1 hc, allLt_mono hc h.2⟩
theorem updF_again {d : Addr} {o o' : Obj} {l : List (Addr × Obj)} {g : Obj → List (Addr × Obj)} (h : UpdF d o l g) : UpdF d o' (g o') g := by
  induction h with
  | head h => exact .head h
  | tail h _ ih => exact .tail h ih
theorem updF_mem {d : Addr} {o : Obj} {l : List (Addr × Obj)} {g : Obj → List (Addr × Obj)} (h : UpdF d o l g) : (d, o) ∈ l := by
  induction h with
  | head h => exact .head _
  | tail h _ ih => exact .tail _ ih
theorem ne_of_mem {c d : Nat} {o : Obj} {l : List (Addr × Obj)} (h : ∀ p ∈ l, p.1 < c) (hm : (d, o) ∈ l) : c ≠ d := Nat.ne_of_gt (h _ hm)
theorem lt_of_mem {d c : Addr} {o : Obj} {l : List (Addr × Obj)} (h : ∀ p ∈ l, p.1 < c) (hm : (d, o) ∈ l) : @LT.lt Nat _ d c := h _ hm
theorem updF_lt {d c : Addr} {o : Obj} {l : List (Addr × Obj)} {g : Obj → List (Addr × Obj)} (h : UpdF d o l g) (hl : ∀ p ∈ l, p.1 < c) (o' : Obj) : ∀ p ∈ g o', p.1 < c := by
  induction h with
  | head h => 
    intro p hp
    rcases List.mem_cons.mp hp with rfl | hp
    · exact hl (d, o) (.head _)
    · exact hl p (.tail _ hp)
  | tail h _ ih =>
    intro p hp
    rcases List.mem_cons.mp hp with rfl | hp
    · exact hl p (.head _)
    · exact ih (fun q hq => hl q (.tail _ hq)) p hp
theorem strs_of_carried : ∀ {ys : List Value} {ss : List Str}, CarriedAll ys (ss.map .str) → StrsAre ys ss
  | _, [], h => by cases h; exact .nil
  | _, x :: ss, h => by
    cases h with
    | cons c r => cases c; exact .cons _ _ (strs_of_carried r)
theorem list_strL {x : Str} {t : Tok} {Q : Value → Shared → Prop} (hh : A.handled = none) (F : Fr h₀ L s.heap m) (N : News h₀ L s.heap news)
    (h : ∀ D n h' tk (vs : List Value), Fr h₀ L h' m → News h₀ L h' ((D, listOf vs.toArray n) :: news) → (∀ p ∈ news, p.1 < D) → StrsAre vs (signs x) → Q (.ref D) { s with heap := h', toks := tk }) (hsz : x.length ≤ sizeLine) :
    wpAny (model prog w) A (call (.type "list") [.str x t]) Q E s := by
  refine list_strD hh F N (fun h' tk ys F' N' hk hn hl hp hc => ?_) hsz
  obtain ⟨⟨n, e⟩, hne⟩ := hp
  refine h _ n h' tk ys F' (fun p hp => ?_) (fun p hp => Heap.lt_size (N p hp).1) (strs_of_carried hc)
  rcases List.mem_cons.mp hp with rfl | hp
  · refine ⟨e, ?_, hn⟩
    obtain ⟨oL, a1, a2, hL, a3⟩ := F.ns
    exact Nat.ne_of_gt (Heap.lt_size hL)
  · exact N' p hp
end
end
section
open PySem PySem.W PySem.Spec PySem.Calls PyProof.Rows
set_option maxRecDepth 100000
set_option maxHeartbeats 4000000
/-- the text's statement number i -/
noncomputable def topSt (i : Nat) : Stmt := (PySem.Challenge.pw_re0120_01.main.body[i]?).getD (.Pass default)
noncomputable def defBody : Stmt → List Stmt
  | .FunctionDef _ _ b _ _ _ _ _ _ _ => b
  | _ => []
noncomputable def assignVal : Stmt → PySem.Expr
  | .Assign _ v _ => v
  | _ => .Constant .none 0 default
noncomputable def lamParams : PySem.Expr → Arguments
  | .Lambda a _ _ _ => a
  | _ => default
noncomputable def lamBody : PySem.Expr → PySem.Expr
  | .Lambda _ b _ _ => b
  | _ => .Constant .none 0 default
noncomputable def lamScope : PySem.Expr → Scope
  | .Lambda _ _ s _ => s
  | _ => default
noncomputable def readLam : PySem.Expr := assignVal (((defBody (topSt 10))[2]?).getD (.Pass default))
noncomputable abbrev rdParams : Arguments := by
  refine (fun (_ : lamParams readLam = ?l) => ?l) ?h
  case h => (conv => lhs; whnf)
noncomputable abbrev rdBody : PySem.Expr := by
  refine (fun (_ : lamBody readLam = ?l) => ?l) ?h
  case h => (conv => lhs; whnf)
noncomputable abbrev rdScope : Scope := by
  refine (fun (_ : lamScope readLam = ?l) => ?l) ?h
  case h => (conv => lhs; whnf)
noncomputable abbrev readObj (qual : Str) (ce : Addr) (pm : Value) (c : Addr) (ct : Value) : Obj := kla_obj (Str.ofString "<lambda>") qual rdParams rdBody rdScope [(Str.ofString "signs", ce)] pm c ct
noncomputable abbrev lexDict (h1 h2 h3 h4 : Int) (k1 k2 k3 k4 k5 k6 : Nat) (f pb : Addr) : Obj :=
  dictOf [⟨h1, .str (Str.ofString "lineno") k1, .int 1 k5⟩, ⟨h2, .str (Str.ofString "instream") k2, .ref f⟩, ⟨h3, .str (Str.ofString "whitespace") k3, .str (Str.ofString "\n\t\x0d ") k6⟩, ⟨h4, .str (Str.ofString "pushback") k4, .ref pb⟩] 4
end
section
open PySem PySem.W PySem.Spec PySem.Calls PyProof.Rows PySem.SeqAt
set_option maxRecDepth 100000
set_option maxHeartbeats 4000000
theorem readsAll_strs {h : Heap} : ∀ {vs : List Value} {ss : List Str}, StrsAre vs ss → ReadsAll h vs (ss.map PyData.str) []
  | _, _, .nil => .nil
  | _, _, .cons k t r => by
    have := ReadsAll.cons (Reads.str (h := h) k t) (readsAll_strs (h := h) r)
    simpa using this
theorem reads_strs {h : Heap} {a : Addr} {vs : List Value} {ss : List Str} (hl : h.IsList a vs.toArray) (hi : StrsAre vs ss) : Reads h (.ref a) (.list (ss.map PyData.str)) [a] := by
  obtain ⟨o, ho, hc, n, hd⟩ := hl
  exact Reads.list ho hc hd (by simpa using readsAll_strs hi)
theorem canLayAll0_strs : ∀ {ss : List Str}, (∀ x ∈ ss, PyData.strOk x = true) → PyData.canLayAll0 (ss.map PyData.str) = true
  | [], _ => by simp [PyData.canLayAll0]
  | n :: r, h => by simp [PyData.canLayAll0, PyData.canLay0, h n (.head _), canLayAll0_strs fun x hx => h x (.tail _ hx)]
theorem depthAll_strs : ∀ ss : List Str, PyData.depthAll (ss.map PyData.str) ≤ 1
  | [] => by simp [PyData.depthAll]
  | n :: r => by
    have := depthAll_strs r
    simp only [List.map_cons, PyData.depthAll, PyData.depth]
    omega
theorem shaped_strs {ss : List Str} (ok : ∀ x ∈ ss, PyData.strOk x = true) : shaped (.list (ss.map PyData.str)) = true := by
  have h1 := depthAll_strs ss
  have h2 : PyData.depth (.list (ss.map PyData.str)) ≤ 64 := by simp only [PyData.depth]; omega
  show (PyData.canLay0 (.list (ss.map PyData.str)) && decide (PyData.depth (.list (ss.map PyData.str)) ≤ 64)) = true
  rw [Bool.and_eq_true]
  exact ⟨by simp only [PyData.canLay0]; exact canLayAll0_strs ok, decide_eq_true h2⟩
theorem noMix_strs : ∀ ns ms : List Str, noMixAll (ns.map PyData.str) (ms.map PyData.str) = true
  | [], [] => by simp [noMixAll]
  | [], _ :: _ => by simp [noMixAll]
  | _ :: _, [] => by simp [noMixAll]
  | _ :: r, _ :: q => by simp [noMixAll, noMix, noMix_strs r q]
theorem same_strs : ∀ ns ms : List Str, PySem.Spec.sameAll (ns.map PyData.str) (ms.map PyData.str) = decide (ns = ms)
  | [], [] => by simp [PySem.Spec.sameAll]
  | [], _ :: _ => by simp [PySem.Spec.sameAll]
  | _ :: _, [] => by simp [PySem.Spec.sameAll]
  | n :: r, k :: q => by
    simp only [List.map_cons, PySem.Spec.sameAll, PySem.Spec.same, same_strs r q]
    by_cases h : n = k <;> simp [h]
section
variable {prog : Program} {w : World} {A : Around} {E : Value → Shared → Prop} {s : Shared} {h₀ : Heap} {L : Addr} {m : Str → Option Value} {news news' : List (Addr × Obj)}
theorem isList_news {a : Addr} {vs : List Value} {n : Nat} (N : News h₀ L s.heap news) (q : (a, listOf vs.toArray n) ∈ news) : s.heap.IsList a vs.toArray := ⟨_, (N _ q).1, rfl, n, rfl⟩
theorem eq_strsK {a b : Addr} {vs us : List Value} {ns ms : List Str} {n n' : Nat} {Q : Value → Shared → Prop} (N : News h₀ L s.heap news) (hl : (a, listOf vs.toArray n) ∈ news) (hi : StrsAre vs ns) (hl' : (b, listOf us.toArray n') ∈ news) (hi' : StrsAre us ms) (k1 : ∀ x ∈ ns, PyData.strOk x = true) (k2 : ∀ x ∈ ms, PyData.strOk x = true) (hu : A.units + 64 < cLine)
    (h : Q (.bool (decide (ns = ms))) s) : wpAny (model prog w) A (compareOp .Eq (.ref a) (.ref b)) Q E s :=
  eq_dataH_same (reads_strs (isList_news N hl) hi) (reads_strs (isList_news N hl') hi') (shaped_strs k1) (shaped_strs k2) hu (by simp only [noMix]; exact noMix_strs ns ms) (by simp only [PySem.Spec.same]; rw [same_strs]; exact h)
theorem ne_strsK {a b : Addr} {vs us : List Value} {ns ms : List Str} {n n' : Nat} {Q : Value → Shared → Prop} (N : News h₀ L s.heap news) (hl : (a, listOf vs.toArray n) ∈ news) (hi : StrsAre vs ns) (hl' : (b, listOf us.toArray n') ∈ news) (hi' : StrsAre us ms) (k1 : ∀ x ∈ ns, PyData.strOk x = true) (k2 : ∀ x ∈ ms, PyData.strOk x = true) (hu : A.units + 64 < cLine)
    (h : Q (.bool (!decide (ns = ms))) s) : wpAny (model prog w) A (compareOp .NotEq (.ref a) (.ref b)) Q E s :=
  ne_dataH_same (reads_strs (isList_news N hl) hi) (reads_strs (isList_news N hl') hi') (shaped_strs k1) (shaped_strs k2) hu (by simp only [noMix]; exact noMix_strs ns ms) (by simp only [PySem.Spec.same]; rw [same_strs]; exact h)
/-- a list that is not empty against [] -/
theorem ne_nilK {a b : Addr} {y : Value} {vs : List Value} {n n' : Nat} {Q : Value → Shared → Prop} (N : News h₀ L s.heap news) (hl : (a, listOf (y :: vs).toArray n) ∈ news) (hl' : (b, listOf #[] n') ∈ news) (hu : A.units + 64 < cLine)
    (h : Q (.bool true) s) : wpAny (model prog w) A (compareOp .NotEq (.ref a) (.ref b)) Q E s := by
  refine cmp_ofNotEq ?_
  exact RcNeAt.lists_lengths (A := A) (isList_news N hl) (isList_news (vs := []) N hl') (by simp [bne]) (by omega) prog w E Q h
theorem ne_nil0K {a b : Addr} {n n' : Nat} {Q : Value → Shared → Prop} (N : News h₀ L s.heap news) (hl : (a, listOf ([] : List Value).toArray n) ∈ news) (hl' : (b, listOf #[] n') ∈ news) (hu : A.units + 64 < cLine)
    (h : Q (.bool false) s) : wpAny (model prog w) A (compareOp .NotEq (.ref a) (.ref b)) Q E s :=
  ne_strsK N (vs := []) hl .nil (us := []) hl' .nil (fun _ h => nomatch h) (fun _ h => nomatch h) hu (by simpa using h)
end
end
section
open PySem PySem.W PySem.Spec PySem.Calls PyProof.Rows
set_option maxRecDepth 100000
set_option maxHeartbeats 4000000
theorem news_drop {h₀ h : Heap} {L : Addr} {x : Addr × Obj} {l : List (Addr × Obj)} (N : News h₀ L h (x :: l)) : News h₀ L h l := fun p hp => N p (.tail _ hp)
theorem upd_keep {d a : Addr} {o o' ob : Obj} {l l' : List (Addr × Obj)} (U : Upd d o o' l l') (hm : (a, ob) ∈ l) (hne : a ≠ d) : (a, ob) ∈ l' := by
  induction U with
  | head h =>
    rcases List.mem_cons.mp hm with e | hm
    · cases e; exact absurd rfl hne
    · exact .tail _ hm
  | tail h _ ih =>
    rcases List.mem_cons.mp hm with e | hm
    · rw [e]; exact .head _
    · exact .tail _ (ih hm)
theorem upd_new {d : Addr} {o o' : Obj} {l l' : List (Addr × Obj)} (U : Upd d o o' l l') : (d, o') ∈ l' := by
  induction U with
  | head h => exact .head _
  | tail h _ ih => exact .tail _ ih
theorem upd_old {d : Addr} {o o' : Obj} {l l' : List (Addr × Obj)} (U : Upd d o o' l l') : (d, o) ∈ l := by
  induction U with
  | head h => exact .head _
  | tail h _ ih => exact .tail _ ih
end
section
open PySem PySem.W PySem.Spec PySem.Calls PyProof.Rows
local macro_rules | `(tactic| k_mem) => `(tactic| first | exact List.Mem.head _ | ktr_member | (refine List.mem_cons_of_mem _ ?_; k_mem))
section
open PySem PySem.W PySem.Spec PySem.Calls PyProof.Rows
local macro_rules | `(tactic| k_ne) => `(tactic| first | ((try dsimp only); omega) | ((try dsimp only); exact ne_of_mem (by assumption) (by assumption)))
section
open PySem PySem.W PySem.Spec PySem.Calls PyProof.Rows
local macro_rules | `(tactic| k_upd) => `(tactic| first | assumption | (refine' Upd.tail ?a ?b; (case a => k_ne); (case b => k_upd)))
section
open PySem PySem.W PySem.Spec PySem.Calls PyProof.Rows
local macro_rules | `(tactic| k_updF) => `(tactic| first | assumption | exact updF_again (by assumption))
section
open PySem PySem.W PySem.Spec PySem.Calls PyProof.Rows
local macro_rules | `(tactic| k_all) => `(tactic| first | exact allLt_ne (by assumption) (by omega) | exact allLt_ne' (by assumption) (by omega) | exact allLt_ne' (updF_lt (by assumption) (by assumption) _) (by omega))
section
open PySem PySem.W PySem.Spec PySem.Calls PyProof.Rows
local macro_rules | `(tactic| k_room) => `(tactic| ktr_room)
section
open PySem PySem.W PySem.Spec PySem.Calls PyProof.Rows
local macro_rules | `(tactic| k_units) => `(tactic| ktr_units)
section
open PySem PySem.W PySem.Spec PySem.Calls PyProof.Rows
local macro_rules | `(tactic| walk_at "truthy ref") => `(tactic| (k_here; (with_reducible show wpAny _ _ (truthy (Value.ref _)) _ _ _); (refine' truthy_nil ?N ?q ?_; (case N => k_asm); (case q => k_mem); k_whole)))
section
open PySem PySem.W PySem.Spec PySem.Calls PyProof.Rows
local macro_rules | `(tactic| walk_at "truthy ref") => `(tactic| (k_here; (with_reducible show wpAny _ _ (truthy (Value.ref _)) _ _ _); (refine' truthy_cons ?N ?q ?z ?_; (case N => k_asm); (case q => k_mem); (case z => first | assumption | omega); k_whole)))
section
open PySem PySem.W PySem.Spec PySem.Calls PyProof.Rows
local macro_rules | `(tactic| walk_at "call builtin:list.pop") => `(tactic| (k_here; (with_reducible show wpAny _ _ (call (Value.builtin _) [Value.ref _, Value.int _ _]) _ _ _); (refine' pop0 ?F ?N ?U ?z ?_; (case F | N => k_asm); (case U => k_upd); (case z => first | assumption | omega); k_whole); intro h' F' N'; (try k_sweep)))
section
open PySem PySem.W PySem.Spec PySem.Calls PyProof.Rows
local macro_rules | `(tactic| walk_at "compareOp NotEq ref") => `(tactic| (k_here; (with_reducible show wpAny _ _ (compareOp CmpOp.NotEq (Value.ref _) (Value.ref _)) _ _ _); k_dflt (refine' ne_nil0K ?N ?q ?q' ?z ?_; (case N => k_asm); (case q | q' => k_mem); (case z => ktr_units); k_whole)))
section
open PySem PySem.W PySem.Spec PySem.Calls PyProof.Rows
local macro_rules | `(tactic| walk_at "compareOp NotEq ref") => `(tactic| (k_here; (with_reducible show wpAny _ _ (compareOp CmpOp.NotEq (Value.ref _) (Value.ref _)) _ _ _); k_dflt (refine' ne_nilK ?N ?q ?q' ?z ?_; (case N => k_asm); (case q | q' => k_mem); (case z => ktr_units); k_whole)))
section
open PySem PySem.W PySem.Spec PySem.Calls PyProof.Rows
local macro_rules | `(tactic| walk_at "call type:list") => `(tactic| (k_here; (with_reducible show wpAny _ _ (call (Value.type _) [Value.str _ _]) _ _ _); k_dflt (refine' list_strL ?hh ?F ?N ?_ ?z; (case hh => exact rfl); (case F | N => k_asm); (case z => (rw [sizeLine_eq]; omega)); k_whole); intro D' n' h' tk' vs' F' N' l1 hS'; (try k_lt l1); (try k_sweep)))
section
open PySem PySem.W PySem.Spec PySem.Calls PyProof.Rows
local macro_rules | `(tactic| walk_at "setAttr ref") => `(tactic| (k_here; (with_reducible show wpAny _ _ (setAttr (Value.ref _) _ _) _ _ _); k_dflt (refine' set_fnK ?F ?N ?U ?T ?_; (case F | N => k_asm); (case U => k_updF); (case T => exact fn_read); k_whole); intro D' h' F' N' l1; (try dsimp only at N'); (try k_lt l1); (try k_sweep)))
section
open PySem PySem.W PySem.Spec PySem.Calls PyProof.Rows
set_option maxRecDepth 100000
set_option maxHeartbeats 4000000
variable {w : World} {dp un : Nat} {gd : Option (List Code)} {cn : Str} {nm : List (Str × NameKind)} {ig ic : Bool} {mo : List (Str × Const)} {a : Addr} {ccd : Value} {cl : List (Str × Addr)} {outer : List Env} {A₀ : Around} {base h₀ : Heap} {L : Addr} {m : Str → Option Value}
  {news news' : List (Addr × Obj)} {s : Shared} {p : Program} {loose : List Str} {mean : ExcName → Option Value} {mg mb : Str → Option Value}
  {Q E : Value → Shared → Prop}
theorem push_K {x d pb f : Addr} {h1 h2 h3 h4 : Int} {k1 k2 k3 k4 k5 k6 : Nat} {its : Array Value} {n : Nat} {v : Value}
  (B : Below A₀ base outer h₀) (F : Fr h₀ L s.heap m) (X : (Mine.topK w.params).In h₀) (N : News h₀ L s.heap news) (T : Top p loose mean mg mb h₀)
  (hx : (x, instObj 52 d) ∈ news) (hd : (d, lexDict h1 h2 h3 h4 k1 k2 k3 k4 k5 k6 f pb) ∈ news)
  (hpb : (pb, listOf its n) ∈ news) (U : Upd pb (listOf its n) (listOf (its.push v) (n + 1)) news news')
  (hroom : dp + 1 < recursionLimit) (hu : un + 8 < cLine) (hsz : its.size ≤ sizeLine)
  (ret : ∀ h' tk', Fr h₀ L h' m → News h₀ L h' news' → Q .none { s with heap := h', toks := tk' }) :
  wpAny (model PySem.Challenge.rw_re0120_01.row.prog w) (ktrTop dp un gd cn ⟨.function, nm, ig, ic, mo⟩ L a ccd cl outer) (call (.ref 49) [.ref x, v]) Q E s := by
  revert X
  k_fill
  intro X
  refine wpAny_call ?_
  k_dflt k_enter
  k_steps
  exact ret _ _ (by assumption) (by assumption)
theorem pop_K {x d pb f : Addr} {h1 h2 h3 h4 : Int} {k1 k2 k3 k4 k5 k6 : Nat} {its : List Value} {n : Nat} {v : Value}
  (B : Below A₀ base outer h₀) (F : Fr h₀ L s.heap m) (X : (Mine.topK w.params).In h₀) (N : News h₀ L s.heap news) (T : Top p loose mean mg mb h₀)
  (hx : (x, instObj 52 d) ∈ news) (hd : (d, lexDict h1 h2 h3 h4 k1 k2 k3 k4 k5 k6 f pb) ∈ news)
  (hpb : (pb, listOf (v :: its).toArray n) ∈ news) (U : Upd pb (listOf (v :: its).toArray n) (listOf its.toArray (n + 1)) news news')
  (hroom : dp + 1 < recursionLimit) (hu : un + 8 < cLine) (hsz : its.length + 1 ≤ sizeLine)
  (ret : ∀ h' tk', Fr h₀ L h' m → News h₀ L h' news' → Q v { s with heap := h', toks := tk' }) :
  wpAny (model PySem.Challenge.rw_re0120_01.row.prog w) (ktrTop dp un gd cn ⟨.function, nm, ig, ic, mo⟩ L a ccd cl outer) (call (.ref 42) [.ref x]) Q E s := by
  revert X
  k_fill
  intro X
  refine wpAny_call ?_
  k_dflt k_enter
  k_steps
  exact ret _ _ (by assumption) (by assumption)
theorem read_K {rd ce sg c2 : Addr} {qual : Str} {pm ct : Value} {oc oce : Obj} {vs : Array Value} {t2 t n : Nat} {y : Value} {ys : List Value}
  (B : Below A₀ base outer h₀) (F : Fr h₀ L s.heap m) (X : (Mine.topK w.params).In h₀) (N : News h₀ L s.heap news) (T : Top p loose mean mg mb h₀) (hC : CodeHd base 133 129)
  (hrd : (rd, readObj qual ce pm c2 ct) ∈ news) (hc2 : (c2, oc) ∈ news) (hcd : oc.data = .fields vs) (hcv : vs[1]? = some (.str qual t2)) (hce : (ce, oce) ∈ news) (hcev : oce.data = .cell (some (.ref sg)))
  (hsg : (sg, listOf (y :: ys).toArray n) ∈ news) (U : Upd sg (listOf (y :: ys).toArray n) (listOf ys.toArray (n + 1)) news news')
  (hroom : dp + 1 < recursionLimit) (hu : un + 100 < cLine) (hsz : ys.length + 1 ≤ sizeLine)
  (ret : ∀ h' tk', Fr h₀ L h' m → News h₀ L h' news' → Q y { s with heap := h', toks := tk' }) :
  wpAny (model PySem.Challenge.rw_re0120_01.row.prog w) (ktrTop dp un gd cn ⟨.function, nm, ig, ic, mo⟩ L a ccd cl outer) (call (.ref rd) [.int 1 t]) Q E s := by
  revert X
  k_fill
  intro X
  k_dflt (refine wpAny_call ?_; kla_enter)
  k_steps
  exact ret _ _ (by assumption) (news_drop (by assumption))
theorem read0_K {rd ce sg c2 : Addr} {qual : Str} {pm ct : Value} {oc oce : Obj} {vs : Array Value} {t2 t n : Nat}
  (B : Below A₀ base outer h₀) (F : Fr h₀ L s.heap m) (X : (Mine.topK w.params).In h₀) (N : News h₀ L s.heap news) (T : Top p loose mean mg mb h₀) (hC : CodeHd base 133 129)
  (hrd : (rd, readObj qual ce pm c2 ct) ∈ news) (hc2 : (c2, oc) ∈ news) (hcd : oc.data = .fields vs) (hcv : vs[1]? = some (.str qual t2)) (hce : (ce, oce) ∈ news) (hcev : oce.data = .cell (some (.ref sg)))
  (hsg : (sg, listOf ([] : List Value).toArray n) ∈ news)
  (hroom : dp + 1 < recursionLimit) (hu : un + 100 < cLine)
  (ret : ∀ h' tk' u, Fr h₀ L h' m → News h₀ L h' news → Q (.str (Str.ofString "") u) { s with heap := h', toks := tk' }) :
  wpAny (model PySem.Challenge.rw_re0120_01.row.prog w) (ktrTop dp un gd cn ⟨.function, nm, ig, ic, mo⟩ L a ccd cl outer) (call (.ref rd) [.int 1 t]) Q E s := by
  revert X
  k_fill
  intro X
  k_dflt (refine wpAny_call ?_; kla_enter)
  k_steps
  exact ret _ _ _ (by assumption) (news_drop (by assumption))
end
section
open PySem PySem.W PySem.Spec PySem.Calls PyProof.Rows Builtin Builtin.ObjectAttr
set_option maxRecDepth 100000
set_option maxHeartbeats 4000000
theorem slot_fn_ga : Slot "function" "__getattribute__" "object.__getattribute__" :=
  .of (owner := "object") (n := "__getattribute__") (by rw [typeLookup_type, builtinLookup_eq_fast]; kernel_rfl) (by decide +kernel) (by decide +kernel) (by decide +kernel)
    (by first | exact .inl (by decide +kernel) | exact .inr (by decide +kernel)) (by rw [isSubtype_type]; kernel_rfl)
theorem fn_getattr : typeLookup (.type "function") "__getattr__" = pure none := by rw [typeLookup_type, builtinLookup_eq_fast]; kernel_rfl
section
variable {prog : Program} {w : World} {A : Around} {E : Value → Shared → Prop} {s : Shared} {h₀ : Heap} {L : Addr} {m : Str → Option Value} {news news' : List (Addr × Obj)}
theorem get_fn {f d : Addr} {fd : FuncData} {sl : Array (Option Value)} {name : Str} {es : List DictEntry} {n : Nat} {v : Value} {expr : Bool} {Q : Value → Shared → Prop} (hT : typeLookup (.type "function") name = pure none)
    (hf : s.heap.get? f = some ⟨.type "function", some d, .func fd, sl⟩) (hd : s.heap.get? d = some (dictOf es n)) (hl : getL name es = some (some v)) (hh : handedIn v = true)
    (h : Q v { s with toks := s.toks + 1 }) : wpAny (model prog w) A (getAttr (.ref f) name expr) Q E s := by
  have hty : Looks (model prog w) s.heap (typeOf (.ref f)) (.type "function") := (Looks.ld hf).andThen .now
  unfold getAttr getAttrBy
  refine wpAny_bind (wpAny_mkText (wpAny_holding (wpAny_bind (hty _ _ _ _ (fun _ _ e => e) ?_))))
  rw [slot_fn_ga.lookup]
  refine wpAny_bind (wpAny_pure ?_)
  show wpAny _ _ (getAttrByItsOwn (.ref f) (.str name s.toks) (.type "function") (.builtin "object.__getattribute__") true expr) _ _ _
  unfold getAttrByItsOwn
  refine wpAny_bind (wpAny_pure (wpAny_bind (wpAny_attempt (wpAny_holding ?_))))
  have e1 : callGetattribute (.ref f) (.str name s.toks) (.builtin "object.__getattribute__") expr = boundAndCalled (.builtin "object.__getattribute__") (.ref f) (.str name s.toks) := by
    unfold callGetattribute; cases expr <;> rfl
  rw [e1]
  unfold boundAndCalled
  rw [slot_fn_ga.bind]
  refine wpAny_bind (wpAny_pure (wpAny_call ?_))
  refine codeAny_call_builtin slot_fn_ga.plain F.entry_object_getattribute (slot_fn_ga.check _ _ _ _ _ _ _ _ ⟨_, hf, rfl⟩ (F.args_object_getattribute_2 _ _) ?_)
  have Lf : Looks (model prog w) s.heap (find (.ref f) (.type "function") name) (.value v) := by
    unfold find
    rw [hT]
    refine Looks.now.andThen (Looks.now.andThen (Looks.now.andThen ?_))
    show Looks _ _ (ownThenClass (.ref f) name none none) _
    have L1 : Looks (model prog w) s.heap (inOwnDict name (.ref f)) (some v) := by
      refine Looks.andThen (a := some d) ?_ ?_
      · exact (Looks.ld hf).andThen ((Looks.ld hf).andThen .now)
      · show Looks _ _ (nsGet d name) _
        exact (Looks.ld hd).andThen (Looks.of_pure (nsLook_of (by rw [lookIn_dict]; exact hl)))
    exact L1.andThen (Looks.tag .now)
  refine wpAny_bind (wpAny_pure (wpAny_bind (wpAny_pure (wpAny_bind (hty _ _ _ _ (fun _ _ e => e) (wpAny_bind (Lf _ _ _ _ (fun _ _ e => e) ?_)))))))
  refine wpAny_pure ?_
  show wpAny _ _ (handedOut v) _ _ _
  rw [handedOut_of hh]; exact wpAny_pure h
theorem getm_fn {f d : Addr} {fd : FuncData} {sl : Array (Option Value)} {name : Str} {es : List DictEntry} {n : Nat} {v : Value} {pl : Sem Bool} {Q : Value × List Value → Shared → Prop} (hT : typeLookup (.type "function") name = pure none)
    (hf : s.heap.get? f = some ⟨.type "function", some d, .func fd, sl⟩) (hd : s.heap.get? d = some (dictOf es n)) (hl : getL name es = some (some v)) (hh : handedIn v = true)
    (h : Q (v, []) { s with toks := s.toks + 1 }) : wpAny (model prog w) A (getMethod (.ref f) name pl) Q E s := by
  have hty : Looks (model prog w) s.heap (typeOf (.ref f)) (.type "function") := (Looks.ld hf).andThen .now
  unfold getMethod specialOf
  refine wpAny_bind (wpAny_bind (hty _ _ _ _ (fun _ _ e => e) ?_))
  rw [slot_fn_ga.lookup]
  refine wpAny_pure ?_
  have hc : (Manifest.canonical "object.__getattribute__" != "object.__getattribute__") = false := by decide +kernel
  dsimp only
  rw [hc]
  refine wpAny_bind (wpAny_bind (hty _ _ _ _ (fun _ _ e => e) ?_))
  rw [fn_getattr]
  refine wpAny_pure ?_
  refine wpAny_bind (wpAny_bind (hty _ _ _ _ (fun _ _ e => e) ?_))
  rw [hT]
  refine wpAny_pure ?_
  exact wpAny_bind (get_fn hT hf hd hl hh (wpAny_pure h))
end
end
section
open PySem PySem.W PySem.Spec PySem.Calls PyProof.Rows
set_option maxRecDepth 100000
set_option maxHeartbeats 4000000
set_option linter.unusedVariables false
theorem getm_fnK {h₀ : Heap} {L : Addr} {news : List (Addr × Obj)} {prog : Program} {w : World} {A : Around} {E : Value → Shared → Prop} {s : Shared} {f d : Addr} {fd : FuncData} {sl : Array (Option Value)} {name : Str} {es : List DictEntry} {n : Nat} {v : Value} {pl : Sem Bool} {Q : Value × List Value → Shared → Prop}
    (N : News h₀ L s.heap news) (hf : (f, (⟨.type "function", some d, .func fd, sl⟩ : Obj)) ∈ news) (hd : (d, dictOf es n) ∈ news) (hT : typeLookup (.type "function") name = pure none) (hl : getL name es = some (some v)) (hh : handedIn v = true)
    (h : Q (v, []) { s with toks := s.toks + 1 }) : wpAny (model prog w) A (getMethod (.ref f) name pl) Q E s := getm_fn hT (N _ hf).1 (N _ hd).1 hl hh h
end
section
open PySem PySem.W PySem.Spec PySem.Calls PyProof.Rows
set_option maxRecDepth 100000
set_option maxHeartbeats 4000000
set_option linter.unusedVariables false
noncomputable abbrev itObj (f : Value) (sn : Str) (t : Nat) : Obj := { cls := .type "callable_iterator", data := .fields #[f, .str sn t, .bool false] }
noncomputable abbrev itEnd : Obj := { cls := .type "callable_iterator", data := .fields #[.none, .none, .bool true] }
theorem iter_args (a b : Value) : argsOk "iter" ⟨[a, b], []⟩ := by unfold argsOk; kernel_rfl
theorem meth_call : typeLookup (.type "method") "__call__" = pure (some (.builtin "method.__call__")) := by rw [typeLookup_type, builtinLookup_eq_fast]; kernel_rfl
theorem slot_ci_next : Slot "callable_iterator" "__next__" "callable_iterator.__next__" :=
  .of (owner := "callable_iterator") (n := "__next__") (by rw [typeLookup_type, builtinLookup_eq_fast]; kernel_rfl) (by decide +kernel) (by decide +kernel) (by decide +kernel)
    (by first | exact .inl (by decide +kernel) | exact .inr (by decide +kernel)) (by rw [isSubtype_type]; kernel_rfl)
theorem entry_ci_next : entryFor table "callable_iterator.__next__" = some Builtin.«callable_iterator.__next__» := entryFor_of_tree (by kernel_rfl)
theorem args_ci_next (a : Value) : argsOk "callable_iterator.__next__" ⟨[a], []⟩ := by unfold argsOk; kernel_rfl
section
variable {prog : Program} {w : World} {A : Around} {E : Value → Shared → Prop} {s : Shared} {h₀ : Heap} {L : Addr} {m : Str → Option Value} {news news' : List (Addr × Obj)}
theorem iter2_K {q : Addr} {f self : Value} {sn : Str} {t : Nat} {Q : Value → Shared → Prop} (F : Fr h₀ L s.heap m) (N : News h₀ L s.heap news) (hq : (q, methodObj f self) ∈ news)
    (h : ∀ I h', Fr h₀ L h' m → News h₀ L h' ((I, itObj (.ref q) sn t) :: news) → (∀ p ∈ news, p.1 < I) → Q (.ref I) { s with heap := h' }) :
    wpAny (model prog w) A (call (.builtin "iter") [.ref q, .str sn t]) Q E s := by
  refine call_function_entry (by decide +kernel) (by decide +kernel) kdk_entry_iter (iter_args _ _) ?_
  unfold Builtin.«iter»
  refine wpAny_bind (m := someArgs "iter" 1 2 _) (wpAny_of_eq (a := [Value.ref q, .str sn t]) (by first | rfl | kernel_rfl!) ?_)
  have hty : Looks (model prog w) s.heap (typeOf (.ref q)) (.type "method") := (Looks.ld (N _ hq).1).andThen .now
  show wpAny _ _ (specialOf (.ref q) "__call__" >>= _) _ _ _
  refine wpAny_bind (wpAny_bind (hty _ _ _ _ (fun _ _ e => e) ?_))
  rw [meth_call]
  refine wpAny_pure ?_
  show wpAny _ _ (rule "iter.sentinel" >>= _) _ _ _
  refine wpAny_bind (wpAny_rule (wpAny_bind ?_))
  refine wpAny_newObj_type ?_ (by show (3 : Nat) ≤ _; rw [sizeLine_eq]; exact Nat.le_of_ble_eq_true rfl)
  exact wpAny_pure ⟨_, rfl, h _ _ (F.push _) (News.push F N _ rfl) (fun q hq => Heap.lt_size (N q hq).1)⟩
end
end
section
open PySem PySem.W PySem.Spec PySem.Calls PyProof.Rows
set_option maxRecDepth 100000
set_option maxHeartbeats 4000000
set_option linter.unusedVariables false
section
variable {prog : Program} {w : World} {A : Around} {E : Value → Shared → Prop} {s : Shared} {h₀ : Heap} {L : Addr} {m : Str → Option Value} {news news' : List (Addr × Obj)}
theorem borrows {M : Model} {h : Heap} {q g : Addr} {self : Value} {og : Obj} {fd : FuncData} (hq : h.get? q = some (methodObj (.ref g) self)) (hg : h.get? g = some og) (hgd : og.data = .func fd) : Looks M h (borrowsExactly (.ref q)) true := by
  unfold borrowsExactly
  refine (Looks.ld hq).andThen ?_
  show Looks _ _ ((load g) >>= _) _
  refine (Looks.ld hg).andThen ?_
  rw [hgd]
  exact .now
theorem next_call {it q g : Addr} {self : Value} {sn : Str} {t : Nat} {og : Obj} {fd : FuncData} {Q : Option Value → Shared → Prop} (hI : s.heap.get? it = some (itObj (.ref q) sn t)) (hq : s.heap.get? q = some (methodObj (.ref g) self)) (hg : s.heap.get? g = some og) (hgd : og.data = .func fd)
    (h : codeAny (model prog w) A.in1 (.call (.ref g) ⟨[self], []⟩) (fun r s' => ∃ y u, r = .ok (.ret (.str y u)) ∧ (sn == y) = false ∧ s'.heap.get? it = some (itObj (.ref q) sn t) ∧ Q (some (.str y u)) s') s) :
    wpAny (model prog w) A (pyNext (.ref it)) Q E s := by
  unfold pyNext
  refine wpAny_bind (wpAny_attempt (wpAny_callSpecial?_slot (name := Str.ofString "__next__") ⟨_, hI, rfl⟩ slot_ci_next (wpAny_call (codeAny_call_builtin slot_ci_next.plain entry_ci_next (slot_ci_next.check _ _ _ _ _ _ _ _ ⟨_, hI, rfl⟩ (args_ci_next _) ?_)))))
  unfold Builtin.«callable_iterator.__next__»
  refine wpAny_bind (m := slotArgs "__next__" 0 _) (wpAny_pure ?_)
  refine wpAny_bind (wpAny_field hI rfl (i := 2) rfl ?_)
  show wpAny _ _ (field (.ref it) 0 >>= _) _ _ _
  refine wpAny_bind (wpAny_field hI rfl (i := 0) rfl ?_)
  refine wpAny_bind (wpAny_attempt ?_)
  unfold callOutOfASlot
  refine wpAny_bind (borrows hq hg hgd _ _ _ _ (fun _ _ e => e) ?_)
  show wpAny _ _ (callBorrowed (.ref q) []) _ _ _
  unfold callBorrowed
  refine X.x_call (hd := none) ?_ (by intro z; cases z)
  refine method_call hq (codeAny_mono h fun r s' z => ?_)
  obtain ⟨y, u, rfl, hne, hI', hQ⟩ := z
  refine wpAny_pure ?_
  show wpAny _ _ (field (.ref it) 2 >>= _) _ _ _
  refine wpAny_bind (wpAny_field hI' rfl (i := 2) rfl ?_)
  show wpAny _ _ (field (.ref it) 1 >>= _) _ _ _
  refine wpAny_bind (wpAny_field hI' rfl (i := 1) rfl (wpAny_bind (wpAny_holding (SeqAt.EqAt.str_str sn t y u prog w _ _ ?_))))
  rw [hne]
  exact wpAny_pure (wpAny_pure hQ)
end
end
section
open PySem PySem.W PySem.Spec PySem.Calls PyProof.Rows
local macro_rules | `(tactic| walk_at "getMethod ref") => `(tactic| (k_here; (with_reducible show wpAny _ _ (getMethod (Value.ref _) _ _) _ _ _); k_dflt (refine' getm_fnK ?N ?q ?q' ?T ?l ?hh ?_; (case N => k_asm); (case q | q' => k_mem); (case T => exact fn_read); (case l => k_get); (case hh => k_handed); k_whole)))
section
open PySem PySem.W PySem.Spec PySem.Calls PyProof.Rows
local macro_rules | `(tactic| walk_at "call ref") => `(tactic| (k_here; (with_reducible show wpAny _ _ (call (Value.ref _) [Value.int _ _]) _ _ _); k_dflt (refine' read0_K ?B ?F ?X ?N ?T ?C ?h1 ?h2 ?h3 ?h4 ?h5 ?h6 ?h7 ?r ?u ?_; (case B | F | X | N | T => k_asm); (case C => kn_code); (case h1 | h2 => k_mem); (case h3 | h4 => assumption); (case h5 => k_mem); (case h6 => assumption); (case h7 => k_mem); (case r => ktr_room); (case u => ktr_units); k_whole); intro h' tk' u' F' N'; (try k_sweep)))
section
open PySem PySem.W PySem.Spec PySem.Calls PyProof.Rows
local macro_rules | `(tactic| walk_at "call ref") => `(tactic| (k_here; (with_reducible show wpAny _ _ (call (Value.ref _) [Value.int _ _]) _ _ _); k_dflt (refine' read_K ?B ?F ?X ?N ?T ?C ?h1 ?h2 ?h3 ?h4 ?h5 ?h6 ?h7 ?U ?r ?u ?z ?_; (case B | F | X | N | T => k_asm); (case C => kn_code); (case h1 | h2 => k_mem); (case h3 | h4 => assumption); (case h5 => k_mem); (case h6 => assumption); (case h7 => k_mem); (case U => k_upd); (case r => ktr_room); (case u => ktr_units); (case z => assumption); k_whole); intro h' tk' F' N'; (try k_sweep)))
section
open PySem PySem.W PySem.Spec PySem.Calls PyProof.Rows
set_option maxRecDepth 100000
set_option maxHeartbeats 4000000
set_option linter.unusedVariables false
variable {w : World} {dp un : Nat} {gd : Option (List Code)} {cn : Str} {nm : List (Str × NameKind)} {ig ic : Bool} {mo : List (Str × Const)} {a : Addr} {ccd : Value} {cl : List (Str × Addr)} {outer : List Env} {A₀ : Around} {base h₀ : Heap} {L : Addr} {m : Str → Option Value}
  {news news' : List (Addr × Obj)} {s : Shared} {p : Program} {loose : List Str} {mean : ExcName → Option Value} {mg mb : Str → Option Value}
  {Q E : Value → Shared → Prop}


variable {R : Result → Shared → Prop}
theorem readchar_C {x d pb f fd rd ce sg c2 : Addr} {h1 h2 h3 h4 h5 : Int} {k1 k2 k3 k4 k5 k6 k7 : Nat} {qual : Str} {pm ct : Value} {F1 : FuncData} {oc oce : Obj} {vs : Array Value} {t2 n u : Nat} {y : Str} {ys : List Value}
  (B : Below A₀ base outer h₀) (F : Fr h₀ L s.heap m) (X : (Mine.topK w.params).In h₀) (N : News h₀ L s.heap news) (T : Top p loose mean mg mb h₀) (hC : CodeHd base 133 129)
  (hx : (x, instObj 52 d) ∈ news) (hd : (d, lexDict h1 h2 h3 h4 k1 k2 k3 k4 k5 k6 f pb) ∈ news) (hf : (f, (⟨.type "function", some fd, .func F1, #[]⟩ : Obj)) ∈ news)
  (hfd : (fd, dictOf [⟨h5, .str (Str.ofString "read") k7, .ref rd⟩] 1) ∈ news)
  (hrd : (rd, readObj qual ce pm c2 ct) ∈ news) (hc2 : (c2, oc) ∈ news) (hcd : oc.data = .fields vs) (hcv : vs[1]? = some (.str qual t2)) (hce : (ce, oce) ∈ news) (hcev : oce.data = .cell (some (.ref sg)))
  (hsg : (sg, listOf (.str y u :: ys).toArray n) ∈ news) (U : Upd sg (listOf (.str y u :: ys).toArray n) (listOf ys.toArray (n + 1)) news news')
  (hroom : dp + 2 < recursionLimit) (hu : un + 200 < cLine) (hsz : ys.length + 1 ≤ sizeLine) (hy : (y == Str.ofString "\n") = false)
  (ret : ∀ h' tk', Fr h₀ L h' m → News h₀ L h' news' → R (.ok (.ret (.str y u))) { s with heap := h', toks := tk' }) :
  codeAny (model PySem.Challenge.rw_re0120_01.row.prog w) (ktrTop dp un gd cn ⟨.function, nm, ig, ic, mo⟩ L a ccd cl outer) (.call (.ref 35) ⟨[.ref x], []⟩) R s := by
  revert X
  k_fill
  intro X
  k_dflt k_enter
  k_steps
  all_goals first | exact ret _ _ (by assumption) (by assumption) | (exfalso; (rename (y == Str.ofString "\n") = true => hb9); rw [hy] at hb9; cases hb9)
theorem readchar0_C {x d pb f fd rd ce sg c2 : Addr} {h1 h2 h3 h4 h5 : Int} {k1 k2 k3 k4 k5 k6 k7 : Nat} {qual : Str} {pm ct : Value} {F1 : FuncData} {oc oce : Obj} {vs : Array Value} {t2 n : Nat} 
  (B : Below A₀ base outer h₀) (F : Fr h₀ L s.heap m) (X : (Mine.topK w.params).In h₀) (N : News h₀ L s.heap news) (T : Top p loose mean mg mb h₀) (hC : CodeHd base 133 129)
  (hx : (x, instObj 52 d) ∈ news) (hd : (d, lexDict h1 h2 h3 h4 k1 k2 k3 k4 k5 k6 f pb) ∈ news) (hf : (f, (⟨.type "function", some fd, .func F1, #[]⟩ : Obj)) ∈ news)
  (hfd : (fd, dictOf [⟨h5, .str (Str.ofString "read") k7, .ref rd⟩] 1) ∈ news)
  (hrd : (rd, readObj qual ce pm c2 ct) ∈ news) (hc2 : (c2, oc) ∈ news) (hcd : oc.data = .fields vs) (hcv : vs[1]? = some (.str qual t2)) (hce : (ce, oce) ∈ news) (hcev : oce.data = .cell (some (.ref sg)))
  (hsg : (sg, listOf ([] : List Value).toArray n) ∈ news)
  (hroom : dp + 2 < recursionLimit) (hu : un + 200 < cLine)
  (ret : ∀ h' tk' u, Fr h₀ L h' m → News h₀ L h' news → R (.ok (.ret (.str (Str.ofString "") u))) { s with heap := h', toks := tk' }) :
  codeAny (model PySem.Challenge.rw_re0120_01.row.prog w) (ktrTop dp un gd cn ⟨.function, nm, ig, ic, mo⟩ L a ccd cl outer) (.call (.ref 35) ⟨[.ref x], []⟩) R s := by
  revert X
  k_fill
  intro X
  k_dflt k_enter
  k_steps
  exact ret _ _ _ (by assumption) (by assumption)
theorem fn35 {h : Heap} (X : (Mine.topK w.params).In h) : ∃ og fd, h.get? 35 = some og ∧ og.data = .func fd := ⟨_, _, X 35 _ rfl, rfl⟩
theorem next_K {it q : Addr} {tn : Nat} {QO : Option Value → Shared → Prop} {x d pb f fd rd ce sg c2 : Addr} {h1 h2 h3 h4 h5 : Int} {k1 k2 k3 k4 k5 k6 k7 : Nat} {qual : Str} {pm ct : Value} {F1 : FuncData} {oc oce : Obj} {vs : Array Value} {t2 n u : Nat} {y : Str} {ys : List Value}
  (B : Below A₀ base outer h₀) (F : Fr h₀ L s.heap m) (X : (Mine.topK w.params).In h₀) (N : News h₀ L s.heap news) (T : Top p loose mean mg mb h₀) (hC : CodeHd base 133 129)
  (hx : (x, instObj 52 d) ∈ news) (hd : (d, lexDict h1 h2 h3 h4 k1 k2 k3 k4 k5 k6 f pb) ∈ news) (hf : (f, (⟨.type "function", some fd, .func F1, #[]⟩ : Obj)) ∈ news)
  (hfd : (fd, dictOf [⟨h5, .str (Str.ofString "read") k7, .ref rd⟩] 1) ∈ news)
  (hrd : (rd, readObj qual ce pm c2 ct) ∈ news) (hc2 : (c2, oc) ∈ news) (hcd : oc.data = .fields vs) (hcv : vs[1]? = some (.str qual t2)) (hce : (ce, oce) ∈ news) (hcev : oce.data = .cell (some (.ref sg)))
  (hit : (it, itObj (.ref q) (Str.ofString "") tn) ∈ news) (hq : (q, methodObj (.ref 35) (.ref x)) ∈ news) (hne : it ≠ sg)
  (hsg : (sg, listOf (.str y u :: ys).toArray n) ∈ news) (U : Upd sg (listOf (.str y u :: ys).toArray n) (listOf ys.toArray (n + 1)) news news')
  (hroom : dp + 2 < recursionLimit) (hu : un + 300 < cLine) (hsz : ys.length + 1 ≤ sizeLine) (hy : (y == Str.ofString "\n") = false) (hy0 : (Str.ofString "" == y) = false)
  (ret : ∀ h' tk', Fr h₀ L h' m → News h₀ L h' news' → QO (some (.str y u)) { s with heap := h', toks := tk' }) :
  wpAny (model PySem.Challenge.rw_re0120_01.row.prog w) (ktrTop dp un gd cn ⟨.function, nm, ig, ic, mo⟩ L a ccd cl outer) (pyNext (.ref it)) QO E s := by
  obtain ⟨og, fg, e1, e2⟩ := fn35 (X.keeps F.keep)
  refine next_call (N _ hit).1 (N _ hq).1 e1 e2 ?_
  refine readchar_C (dp := dp) (un := un + 1) B F X N T hC hx hd hf hfd hrd hc2 hcd hcv hce hcev hsg U hroom (by omega) hsz hy fun h' tk' F' N' => ?_
  exact ⟨y, u, rfl, hy0, (N' _ (upd_keep U hit hne)).1, ret h' tk' F' N'⟩
end
section
open PySem PySem.W PySem.Spec PySem.Calls PyProof.Rows
set_option maxRecDepth 100000
set_option maxHeartbeats 4000000
set_option linter.unusedVariables false
noncomputable def clsBody : Stmt → List Stmt
  | .ClassDef _ _ _ b _ _ _ _ _ _ _ => b
  | _ => []
noncomputable def defScope : Stmt → Scope
  | .FunctionDef _ _ _ _ _ _ s _ _ _ => s
  | _ => default
noncomputable def forBody : Stmt → List Stmt
  | .For _ _ b _ _ => b
  | _ => []
noncomputable def forTarget : Stmt → PySem.Expr
  | .For t _ _ _ _ => t
  | _ => .Constant .none 0 default
noncomputable def ifBody : Stmt → List Stmt
  | .If _ b _ _ => b
  | _ => []
noncomputable def ifElse : Stmt → List Stmt
  | .If _ _ b _ => b
  | _ => []
noncomputable def stAt (l : List Stmt) (i : Nat) : Stmt := (l[i]?).getD (.Pass default)
noncomputable def gtDef : Stmt := stAt (clsBody (topSt 1)) 2
noncomputable abbrev gtScope : Scope := by
  refine (fun (_ : defScope gtDef = ?l) => ?l) ?h
  case h => (conv => lhs; whnf)
noncomputable abbrev gtOuter : List Stmt := by
  refine (fun (_ : forBody (stAt (defBody gtDef) 3) = ?l) => ?l) ?h
  case h => (conv => lhs; whnf)
noncomputable abbrev gtQBody : List Stmt := by
  refine (fun (_ : forBody (stAt (ifBody (stAt (forBody (stAt (defBody gtDef) 3)) 1)) 0) = ?l) => ?l) ?h
  case h => (conv => lhs; whnf)
noncomputable abbrev gtQTgt : PySem.Expr := by
  refine (fun (_ : forTarget (stAt (ifBody (stAt (forBody (stAt (defBody gtDef) 3)) 1)) 0) = ?l) => ?l) ?h
  case h => (conv => lhs; whnf)
noncomputable abbrev gtWBody : List Stmt := by
  refine (fun (_ : forBody (stAt (ifElse (stAt (forBody (stAt (defBody gtDef) 3)) 1)) 2) = ?l) => ?l) ?h
  case h => (conv => lhs; whnf)
noncomputable abbrev gtWTgt : PySem.Expr := by
  refine (fun (_ : forTarget (stAt (ifElse (stAt (forBody (stAt (defBody gtDef) 3)) 1)) 2) = ?l) => ?l) ?h
  case h => (conv => lhs; whnf)
noncomputable abbrev gtTgt : PySem.Expr := by
  refine (fun (_ : forTarget (stAt (defBody gtDef) 3) = ?l) => ?l) ?h
  case h => (conv => lhs; whnf)
/-- the frame of get_token within its loops -/
noncomputable abbrev gtFr (x it : Addr) (tok : Str) (t : Nat) (c : Value) : Str → Option Value := fun y =>
  if y = Str.ofString "token" then some (.str tok t) else if y = Str.ofString "ch" then some c else if y = Str.ofString "fiter" then some (.ref it) else if y = Str.ofString "self" then some (.ref x) else none
noncomputable abbrev gtEnv (L' : Addr) : Env := envOf (Str.ofString "_netrclex.get_token") gtScope L' 42 (.ref 41)
end
section
open PySem PySem.W PySem.Spec PySem.Calls PyProof.Rows
set_option maxRecDepth 100000
set_option maxHeartbeats 4000000
set_option linter.unusedVariables false
theorem gtFr_tok {x it : Addr} {tok tok' : Str} {t t' : Nat} {c : Value} : (fun y => if y = Str.ofString "token" then some (.str tok' t') else gtFr x it tok t c y) = gtFr x it tok' t' c := by
  funext y
  by_cases h : y = Str.ofString "token"
  · simp only [gtFr, if_pos h]
  · simp only [gtFr, if_neg h]
theorem gtFr_ch {x it : Addr} {tok : Str} {t : Nat} {c c' : Value} : (fun y => if y = Str.ofString "ch" then some c' else gtFr x it tok t c y) = gtFr x it tok t c' := by
  funext y
  by_cases h : y = Str.ofString "ch"
  · subst h; rfl
  · simp only [gtFr, if_neg h]
theorem fr_eq {h₀ h : Heap} {L : Addr} {m m' : Str → Option Value} (F : Fr h₀ L h m) (e : m = m') : Fr h₀ L h m' := e ▸ F
theorem gtFr_tc {x it : Addr} {tok tok' : Str} {t t' : Nat} {c c' : Value} : (fun y => if y = Str.ofString "token" then some (.str tok' t') else (fun y => if y = Str.ofString "ch" then some c' else gtFr x it tok t c y) y) = gtFr x it tok' t' c' := by
  rw [gtFr_ch]; exact gtFr_tok
end
section
open PySem PySem.W PySem.Spec PySem.Calls PyProof.Rows
set_option maxRecDepth 100000
set_option maxHeartbeats 4000000
set_option linter.unusedVariables false
variable {w : World} {dp un : Nat} {gd : Option (List Code)} {outer : List Env} {A₀ : Around} {base h₀ : Heap} {L : Addr}
  {news news' : List (Addr × Obj)} {s : Shared} {p : Program} {loose : List Str} {mean : ExcName → Option Value} {mg mb : Str → Option Value}
  {Q : Flow → Shared → Prop} {E : Value → Shared → Prop}

theorem qchr_K {x it : Addr} {u t : Nat} {y tok : Str}
  (B : Below A₀ base outer h₀) (F : Fr h₀ L s.heap (gtFr x it tok t (.str y u))) (X : (Mine.topK w.params).In h₀) (N : News h₀ L s.heap news) (T : Top p loose mean mg mb h₀) (hC : CodeHd base 133 129)
  (hroom : dp + 5 < recursionLimit) (hu : un + 400 < cLine) (hsz : tok.length + y.length ≤ 1000) (e1 : (y == Str.ofString "\"") = false) (e2 : (y == Str.ofString "\\") = false)
  (ret : ∀ h' tk' t', Fr h₀ L h' (gtFr x it (tok ++ y) t' (.str y u)) → News h₀ L h' news → Q .next { s with heap := h', toks := tk' }) :
  wpAny (model PySem.Challenge.rw_re0120_01.row.prog w) (ktrTop dp un gd (Str.ofString "_netrclex.get_token") gtScope L 42 (.ref 41) [] outer) (execs gtQBody (gtEnv L)) Q E s := by
  revert X
  k_fill
  intro X
  k_steps
  exact ret _ _ _ (fr_eq (by assumption) gtFr_tok) (by assumption)
theorem qclose_K {x it : Addr} {u t : Nat} {y tok : Str}
  (B : Below A₀ base outer h₀) (F : Fr h₀ L s.heap (gtFr x it tok t (.str y u))) (X : (Mine.topK w.params).In h₀) (N : News h₀ L s.heap news) (T : Top p loose mean mg mb h₀) (hC : CodeHd base 133 129)
  (hroom : dp + 5 < recursionLimit) (hu : un + 400 < cLine) (hy : y = Str.ofString "\"")
  (ret : ∀ h' tk', Fr h₀ L h' (gtFr x it tok t (.str y u)) → News h₀ L h' news → Q (.ret (.str tok t)) { s with heap := h', toks := tk' }) :
  wpAny (model PySem.Challenge.rw_re0120_01.row.prog w) (ktrTop dp un gd (Str.ofString "_netrclex.get_token") gtScope L 42 (.ref 41) [] outer) (execs gtQBody (gtEnv L)) Q E s := by
  revert X
  k_fill
  intro X
  subst hy
  k_steps
  exact ret _ _ (by assumption) (by assumption)
theorem qesc_K {x d pb f fd rd ce sg c2 it : Addr} {h1 h2 h3 h4 h5 : Int} {k1 k2 k3 k4 k5 k6 k7 : Nat} {qual : Str} {pm ct : Value} {F1 : FuncData} {oc oce : Obj} {vs : Array Value} {t2 n u t : Nat} {y tok z : Str} {v : Nat} {ys : List Value}
  (B : Below A₀ base outer h₀) (F : Fr h₀ L s.heap (gtFr x it tok t (.str y u))) (X : (Mine.topK w.params).In h₀) (N : News h₀ L s.heap news) (T : Top p loose mean mg mb h₀) (hC : CodeHd base 133 129)
  (hx : (x, instObj 52 d) ∈ news) (hd : (d, lexDict h1 h2 h3 h4 k1 k2 k3 k4 k5 k6 f pb) ∈ news) (hf : (f, (⟨.type "function", some fd, .func F1, #[]⟩ : Obj)) ∈ news)
  (hfd : (fd, dictOf [⟨h5, .str (Str.ofString "read") k7, .ref rd⟩] 1) ∈ news)
  (hrd : (rd, readObj qual ce pm c2 ct) ∈ news) (hc2 : (c2, oc) ∈ news) (hcd : oc.data = .fields vs) (hcv : vs[1]? = some (.str qual t2)) (hce : (ce, oce) ∈ news) (hcev : oce.data = .cell (some (.ref sg)))
  (hsg : (sg, listOf (.str z v :: ys).toArray n) ∈ news) (U : Upd sg (listOf (.str z v :: ys).toArray n) (listOf ys.toArray (n + 1)) news news') (hsl : ys.length + 1 ≤ sizeLine) (hz : (z == Str.ofString "\n") = false)
  (hroom : dp + 5 < recursionLimit) (hu : un + 400 < cLine) (hsz : tok.length + z.length ≤ 1000) (hy : y = Str.ofString "\\")
  (ret : ∀ h' tk' t', Fr h₀ L h' (gtFr x it (tok ++ z) t' (.str z v)) → News h₀ L h' news' → Q .next { s with heap := h', toks := tk' }) :
  wpAny (model PySem.Challenge.rw_re0120_01.row.prog w) (ktrTop dp un gd (Str.ofString "_netrclex.get_token") gtScope L 42 (.ref 41) [] outer) (execs gtQBody (gtEnv L)) Q E s := by
  revert X
  k_fill
  intro X
  subst hy
  k_steps
  exact ret _ _ _ (fr_eq (by assumption) gtFr_tc) (by assumption)
end
section
open PySem PySem.W PySem.Spec PySem.Calls PyProof.Rows
set_option maxRecDepth 100000
set_option maxHeartbeats 4000000
set_option linter.unusedVariables false
/-- what the quoted loop takes (cs) and what it tells (out) -/
inductive Qs : List Nat → List Nat → Prop
  | nil : Qs [] []
  | esc {d : Nat} {r o : List Nat} : d ≠ 10 → Qs r o → Qs (92 :: d :: r) (d :: o)
  | chr {c : Nat} {r o : List Nat} : c ≠ 92 → c ≠ 34 → c ≠ 10 → Qs r o → Qs (c :: r) (c :: o)
noncomputable abbrev ch1 (c : Nat) : Str := ⟨#[c]⟩
theorem ch1_ne {a b : Nat} (h : a ≠ b) : (ch1 a == ch1 b) = false := by
  refine beq_eq_false_iff_ne.mpr fun e => h ?_
  have := congrArg (fun x : Str => x.cps.toList) e
  simpa using this
theorem ch1_34 : Str.ofString "\"" = ch1 34 := by decide +kernel
theorem ch1_92 : Str.ofString "\\" = ch1 92 := by decide +kernel
theorem ch1_10 : Str.ofString "\n" = ch1 10 := by decide +kernel
theorem ch1_0 (c : Nat) : (Str.ofString "" == ch1 c) = false := by
  refine beq_eq_false_iff_ne.mpr fun e => ?_
  have e0 : Str.ofString "" = ⟨#[]⟩ := by decide +kernel
  rw [e0] at e
  have := congrArg (fun x : Str => x.cps.size) e
  simp at this
theorem app_one (tok : Str) (c : Nat) (o : List Nat) : (tok ++ ch1 c) ++ (⟨o.toArray⟩ : Str) = tok ++ (⟨(c :: o).toArray⟩ : Str) := by
  rw [Str.append_assoc]
  congr 1
  show (⟨#[c] ++ o.toArray⟩ : Str) = _
  congr 1
  simp
theorem len_one (tok : Str) (c : Nat) : (tok ++ ch1 c).length = tok.length + 1 := by
  rw [Str.length_append]; rfl
theorem updF_upd {d : Addr} {o0 : Obj} {l : List (Addr × Obj)} {g : Obj → List (Addr × Obj)} (h : UpdF d o0 l g) (o o' : Obj) : Upd d o o' (g o) (g o') := by
  induction h with
  | head h => exact .head h
  | tail h _ ih => exact .tail h ih
theorem updF_keep {d a : Addr} {o0 ob : Obj} {l : List (Addr × Obj)} {g : Obj → List (Addr × Obj)} (h : UpdF d o0 l g) (hm : (a, ob) ∈ l) (hne : a ≠ d) (o : Obj) : (a, ob) ∈ g o := by
  induction h with
  | head h =>
    rcases List.mem_cons.mp hm with e | hm
    · cases e; exact absurd rfl hne
    · exact .tail _ hm
  | tail h _ ih =>
    rcases List.mem_cons.mp hm with e | hm
    · rw [e]; exact .head _
    · exact .tail _ (ih hm)
theorem updF_same {d : Addr} {o0 : Obj} {l : List (Addr × Obj)} {g : Obj → List (Addr × Obj)} (h : UpdF d o0 l g) : g o0 = l := by
  induction h with
  | head h => rfl
  | @tail p l g h _ ih => show p :: g o0 = _; rw [ih]
variable {w : World} {dp un : Nat} {gd : Option (List Code)} {outer : List Env} {A₀ : Around} {base h₀ : Heap} {L : Addr}
  {g : Obj → List (Addr × Obj)} {s : Shared} {p : Program} {loose : List Str} {mean : ExcName → Option Value} {mg mb : Str → Option Value}
  {R : Result → Shared → Prop}
/-- a lexer's unmoved parts in a ledger, whatever its signs -/
structure LexG (g : Obj → List (Addr × Obj)) (x d pb f fd rd ce sg c2 : Addr) : Prop where
  U : ∀ o o', Upd sg o o' (g o) (g o')
  hx : ∀ o, (x, instObj 52 d) ∈ g o
  hd : ∃ h1 h2 h3 h4 k1 k2 k3 k4 k5 k6, ∀ o, (d, lexDict h1 h2 h3 h4 k1 k2 k3 k4 k5 k6 f pb) ∈ g o
  hf : ∃ F1, ∀ o, (f, (⟨.type "function", some fd, .func F1, #[]⟩ : Obj)) ∈ g o
  hfd : ∃ h5 k7, ∀ o, (fd, dictOf [⟨h5, .str (Str.ofString "read") k7, .ref rd⟩] 1) ∈ g o
  hrd : ∃ qual pm ct oc vs t2, (∀ o, (rd, readObj qual ce pm c2 ct) ∈ g o) ∧ (∀ o, (c2, oc) ∈ g o) ∧ oc.data = .fields vs ∧ vs[1]? = some (.str qual t2)
  hce : ∃ oce, (∀ o, (ce, oce) ∈ g o) ∧ oce.data = .cell (some (.ref sg))
theorem qloop_K {x d pb f fd rd ce sg c2 it q : Addr} {tn n t : Nat} {tok : Str} {c : Value} {cs out : List Nat} {vs : List Value}
  (B : Below A₀ base outer h₀) (F : Fr h₀ L s.heap (gtFr x it tok t c)) (X : (Mine.topK w.params).In h₀) (N : News h₀ L s.heap (g (listOf vs.toArray n))) (T : Top p loose mean mg mb h₀) (hC : CodeHd base 133 129)
  (G : LexG g x d pb f fd rd ce sg c2) (hit : ∀ o, (it, itObj (.ref q) (Str.ofString "") tn) ∈ g o) (hq : ∀ o, (q, methodObj (.ref 35) (.ref x)) ∈ g o) (hne : it ≠ sg)
  (hQ : Qs cs out) (hvs : StrsAre vs (cs.map ch1 ++ [ch1 34])) (hroom : dp + 5 < recursionLimit) (hu : un + 400 < cLine) (hsz : tok.length + cs.length ≤ 900)
  (ret : ∀ h' tk' t' n' c', Fr h₀ L h' (gtFr x it (tok ++ (⟨out.toArray⟩ : Str)) t' c') → News h₀ L h' (g (listOf ([] : List Value).toArray n')) → R (.ok (.ret (.str (tok ++ (⟨out.toArray⟩ : Str)) t'))) { s with heap := h', toks := tk' }) :
  codeAny (model PySem.Challenge.rw_re0120_01.row.prog w) (ktrTop dp un gd (Str.ofString "_netrclex.get_token") gtScope L 42 (.ref 41) [] outer) (.forLoop gtQTgt (.ref it) gtQBody [] (gtEnv L)) R s := by
  obtain ⟨U, hx, ⟨h1, h2, h3, h4, k1, k2, k3, k4, k5, k6, hd⟩, ⟨F1, hf⟩, ⟨h5, k7, hfd⟩, ⟨qual, pm, ct, oc, vsc, t2, hrd, hc2, hcd, hcv⟩, ⟨oce, hce, hcev⟩⟩ := G
  refine codeAny_forLoop (fun k s1 => ∃ cs' out' tok' t' c' vs' n' h tk, k = List.length cs' ∧ s1 = { s with heap := h, toks := tk } ∧ Qs cs' out' ∧ tok' ++ (⟨out'.toArray⟩ : Str) = tok ++ (⟨out.toArray⟩ : Str) ∧ StrsAre vs' (cs'.map ch1 ++ [ch1 34]) ∧
    Fr h₀ L h (gtFr x it tok' t' c') ∧ News h₀ L h (g (listOf (List.toArray vs') n')) ∧ tok'.length + cs'.length ≤ 900) ?turn cs.length ⟨cs, out, tok, t, c, vs, n, s.heap, s.toks, rfl, rfl, hQ, rfl, hvs, F, N, hsz⟩
  rintro k s1 ⟨cs', out', tok', t', c', vs', n', h, tk, rfl, rfl, hQ', hfin, hvs', F', N', hsz'⟩
  cases hQ' with
  | nil =>
    cases hvs' with
    | cons _ u hr =>
      cases hr
      refine next_K B F' X N' T hC (hx _) (hd _) (hf _) (hfd _) (hrd _) (hc2 _) hcd hcv (hce _) hcev (hit _) (hq _) hne (upd_old (U _ (listOf ([] : List Value).toArray (n' + 1)))) (U _ _) (by omega) (by omega) (by rw [sizeLine_eq]; exact Nat.le_of_ble_eq_true rfl) (by rw [ch1_10]; exact ch1_ne (by decide)) (ch1_0 _) fun h' tk' F2 N2 => ?_
      refine wpAny_assign_Name (storeX_L F2 N2 (fun h'' F3 N3 => ?_) rfl rfl)
      refine qclose_K B (fr_eq F3 gtFr_ch) X N3 T hC (by omega) (by omega) ch1_34.symm fun h3 tk3 F4 N4 => ?_
      have e : tok' = tok ++ (⟨out.toArray⟩ : Str) := by rw [← hfin]; exact (Str.append_empty _).symm
      subst e
      exact ret _ _ _ _ _ F4 N4
  | @esc dd r o hd10 hQ2 =>
    cases hvs' with
    | cons _ u hr =>
      cases hr with
      | @cons _ u2 vs2 _ hr2 =>
        have hl : vs2.length = r.length + 1 := by have := StrsAre.length hr2; simpa using this
        refine next_K B F' X N' T hC (hx _) (hd _) (hf _) (hfd _) (hrd _) (hc2 _) hcd hcv (hce _) hcev (hit _) (hq _) hne (upd_old (U _ (listOf ([] : List Value).toArray (n' + 1)))) (U _ _) (by omega) (by omega) (by rw [sizeLine_eq]; simp only [List.length_cons] at hsz' ⊢; omega) (by rw [ch1_10]; exact ch1_ne (by decide)) (ch1_0 _) fun h' tk' F2 N2 => ?_
        refine wpAny_assign_Name (storeX_L F2 N2 (fun h'' F3 N3 => ?_) rfl rfl)
        refine qesc_K B (fr_eq F3 gtFr_ch) X N3 T hC (hx _) (hd _) (hf _) (hfd _) (hrd _) (hc2 _) hcd hcv (hce _) hcev (upd_old (U _ (listOf ([] : List Value).toArray (n' + 1)))) (U _ _) (by rw [sizeLine_eq]; simp only [List.length_cons] at hsz' ⊢; omega) (by rw [ch1_10]; exact ch1_ne hd10) (by omega) (by omega) (by show tok'.length + 1 ≤ 1000; omega) ch1_92.symm fun h3 tk3 t3 F4 N4 => ?_
        exact ⟨r.length, by simp only [List.length_cons]; omega, r, o, tok' ++ ch1 dd, t3, _, vs2, _, h3, tk3, rfl, rfl, hQ2, (app_one _ _ _).trans hfin, hr2, F4, N4, by rw [len_one]; simp only [List.length_cons] at hsz'; omega⟩
  | @chr cc r o h92 h34 h10 hQ2 =>
    cases hvs' with
    | @cons _ u vs2 _ hr =>
      have hl : vs2.length = r.length + 1 := by have := StrsAre.length hr; simpa using this
      refine next_K B F' X N' T hC (hx _) (hd _) (hf _) (hfd _) (hrd _) (hc2 _) hcd hcv (hce _) hcev (hit _) (hq _) hne (upd_old (U _ (listOf ([] : List Value).toArray (n' + 1)))) (U _ _) (by omega) (by omega) (by rw [sizeLine_eq]; simp only [List.length_cons] at hsz' ⊢; omega) (by rw [ch1_10]; exact ch1_ne h10) (ch1_0 _) fun h' tk' F2 N2 => ?_
      refine wpAny_assign_Name (storeX_L F2 N2 (fun h'' F3 N3 => ?_) rfl rfl)
      refine qchr_K B (fr_eq F3 gtFr_ch) X N3 T hC (by omega) (by omega) (by show tok'.length + 1 ≤ 1000; omega) (by rw [ch1_34]; exact ch1_ne h34) (by rw [ch1_92]; exact ch1_ne h92) fun h3 tk3 t3 F4 N4 => ?_
      exact ⟨r.length, by simp only [List.length_cons]; omega, r, o, tok' ++ ch1 cc, t3, _, vs2, _, h3, tk3, rfl, rfl, hQ2, (app_one _ _ _).trans hfin, hr, F4, N4, by rw [len_one]; simp only [List.length_cons] at hsz'; omega⟩
end
section
open PySem PySem.W PySem.Spec PySem.Calls PyProof.Rows
set_option maxRecDepth 100000
set_option maxHeartbeats 4000000
set_option linter.unusedVariables false
theorem led_ext {h₀ h h' : Heap} {L a : Addr} {m : Str → Option Value} {o o' : Obj} {news news' : List (Addr × Obj)} (F : Fr h₀ L h m) (N : News h₀ L h news) (U : Upd a o o' news news')
    (hk : Heap.ExtBut a h h') (ha : h'.get? a = some o') : Fr h₀ L h' m ∧ News h₀ L h' news' := by
  obtain ⟨pre, post, rfl, rfl, h1, h2⟩ := U.split
  have z := N (a, o) (List.mem_append.mpr (.inr (.head _)))
  constructor
  · obtain ⟨oL, a1, a2, hL, a3⟩ := F.ns
    refine ⟨⟨oL, a1, a2, hk _ _ (Ne.symm z.2.1) hL, a3⟩, fun b o e => hk b o (fun q => ?_) (F.keep b o e), F.above⟩
    rw [q, z.2.2] at e; cases e
  · intro p hp
    rcases List.mem_append.mp hp with hp | hp
    · have y := N p (List.mem_append.mpr (.inl hp))
      exact ⟨hk _ _ (h1 p hp) y.1, y.2⟩
    rcases List.mem_cons.mp hp with rfl | hp
    · exact ⟨ha, z.2⟩
    · have y := N p (List.mem_append.mpr (.inr (.tail _ hp)))
      exact ⟨hk _ _ (h2 p hp) y.1, y.2⟩
theorem slot_ci_iter : Slot "callable_iterator" "__iter__" "callable_iterator.__iter__" :=
  .of (owner := "callable_iterator") (n := "__iter__") (by rw [typeLookup_type, builtinLookup_eq_fast]; kernel_rfl) (by decide +kernel) (by decide +kernel) (by decide +kernel)
    (by first | exact .inl (by decide +kernel) | exact .inr (by decide +kernel)) (by rw [isSubtype_type]; kernel_rfl)
theorem args_ci_iter (a : Value) : argsOk "callable_iterator.__iter__" ⟨[a], []⟩ := by unfold argsOk; kernel_rfl
theorem entry_ci_iter : entryFor table "callable_iterator.__iter__" = some Builtin.«dict_keyiterator.__iter__» := entryFor_alias (id' := "dict_keyiterator.__iter__") (by kernel_rfl) rfl (by decide +kernel) (by kernel_rfl)
section
variable {prog : Program} {w : World} {A : Around} {E : Value → Shared → Prop} {s : Shared} {h₀ : Heap} {L : Addr} {m : Str → Option Value} {news news' : List (Addr × Obj)}
theorem iter_self {it : Addr} {o : Obj} {Q : Value → Shared → Prop} (hI : s.heap.get? it = some o) (hc : o.cls = .type "callable_iterator") (h : Q (.ref it) s) : wpAny (model prog w) A (pyIter (.ref it)) Q E s := by
  refine wpAny_pyIter_slot ⟨_, hI, hc⟩ slot_ci_iter (wpAny_call_entry slot_ci_iter ⟨_, hI, hc⟩ entry_ci_iter ?_ (args_ci_iter _))
  show wpAny _ _ (ret (.ref it)) _ _ s
  exact wpAny_pure ⟨_, rfl, "callable_iterator", _, ⟨_, hI, hc⟩, slot_ci_next.lookup, h⟩
theorem next_end {it q g : Addr} {self : Value} {sn : Str} {t : Nat} {og : Obj} {fd : FuncData} {Q : Option Value → Shared → Prop} (hh : A.handled = none) (hI : s.heap.get? it = some (itObj (.ref q) sn t)) (hq : s.heap.get? q = some (methodObj (.ref g) self)) (hg : s.heap.get? g = some og) (hgd : og.data = .func fd)
    (h : codeAny (model prog w) A.in1 (.call (.ref g) ⟨[self], []⟩) (fun r s' => ∃ u, r = .ok (.ret (.str sn u)) ∧ s'.heap.get? it = some (itObj (.ref q) sn t) ∧ s'.heap.get? q = some (methodObj (.ref g) self) ∧ s'.heap.get? g = some og ∧
      ∀ h', Heap.ExtBut it s'.heap h' → h'.get? it = some itEnd → Q none { s' with heap := h' }) s) :
    wpAny (model prog w) A (pyNext (.ref it)) Q E s := by
  unfold pyNext
  refine wpAny_bind (wpAny_attempt (wpAny_callSpecial?_slot (name := Str.ofString "__next__") ⟨_, hI, rfl⟩ slot_ci_next (wpAny_call (codeAny_call_builtin slot_ci_next.plain entry_ci_next (slot_ci_next.check _ _ _ _ _ _ _ _ ⟨_, hI, rfl⟩ (args_ci_next _) ?_)))))
  unfold Builtin.«callable_iterator.__next__»
  refine wpAny_bind (m := slotArgs "__next__" 0 _) (wpAny_pure ?_)
  refine wpAny_bind (wpAny_field hI rfl (i := 2) rfl ?_)
  show wpAny _ _ (field (.ref it) 0 >>= _) _ _ _
  refine wpAny_bind (wpAny_field hI rfl (i := 0) rfl ?_)
  refine wpAny_bind (wpAny_attempt ?_)
  unfold callOutOfASlot
  refine wpAny_bind (borrows hq hg hgd _ _ _ _ (fun _ _ e => e) ?_)
  show wpAny _ _ (callBorrowed (.ref q) []) _ _ _
  unfold callBorrowed
  refine X.x_call (hd := none) ?_ (by intro z; cases z)
  refine method_call hq (codeAny_mono h fun r s' z => ?_)
  obtain ⟨u, rfl, hI', hq', hg', hQ⟩ := z
  refine wpAny_pure ?_
  show wpAny _ _ (field (.ref it) 2 >>= _) _ _ _
  refine wpAny_bind (wpAny_field hI' rfl (i := 2) rfl ?_)
  show wpAny _ _ (field (.ref it) 1 >>= _) _ _ _
  refine wpAny_bind (wpAny_field hI' rfl (i := 1) rfl (wpAny_bind (wpAny_holding (SeqAt.EqAt.str_str sn t sn u prog w _ _ ?_))))
  rw [beq_self_eq_true]
  refine wpAny_bind (wpAny_rule (wpAny_bind ?_))
  show wpAny _ _ (field (.ref it) 0 >>= _) _ _ _
  refine wpAny_bind (wpAny_field hI' rfl (i := 0) rfl ?_)
  refine wpAny_bind ?_
  unfold slotLetsGo
  show wpAny _ _ (borrowsExactly (.ref q) >>= _) _ _ _
  refine wpAny_bind (borrows hq' hg' hgd _ _ _ _ (fun _ _ e => e) ?_)
  show wpAny _ _ (pure ()) _ _ _
  refine wpAny_pure ?_
  show wpAny _ _ (setField (.ref it) 0 .none >>= _) _ _ _
  refine wpAny_bind (wpAny_setField_rec hI' (by show 0 < 3; omega) fun h1 e1 k1 => ?_)
  refine wpAny_bind (wpAny_setField_rec e1 (by show 1 < 3; omega) fun h2 e2 k2 => ?_)
  refine wpAny_setField_rec e2 (by show 2 < 3; omega) fun h3 e3 k3 => ?_
  show wpAny _ _ (newExc (.type "StopIteration") [] >>= _) _ _ _
  refine wpAny_bind ?_
  simp only [newExc, newTuple]
  refine wpAny_bind (wpAny_newObj_type ?_ (by size_fits))
  refine wpAny_bind (m := firstArgMember _ _) (wpAny_of_eq (a := Value.none) (by first | rfl | (simp only [firstArgMember]; rfl)) ?_)
  refine wpAny_newObj_type ?_ (by size_fits)
  simp only [raiseNew]
  refine wpAny_bind (wpAny_handled ?_)
  rw [show A.in1.handled = none from hh]
  refine wpAny_bind (wpAny_pure (wpAny_throw ?_))
  refine wpAny_bind (wpAny_isInstance (T := "StopIteration") (b := true) ⟨_, Heap.get?_push_size _ rfl, rfl⟩ isSubtype_stop ?_)
  refine wpAny_pure (hQ _ (fun b ob hb e => ?_) ?_)
  · exact Heap.get?_push_of_some _ (Heap.get?_push_of_some _ ((k3.2 b hb).trans ((k2.2 b hb).trans ((k1.2 b hb).trans e))))
  · exact Heap.get?_push_of_some _ (Heap.get?_push_of_some _ e3)
theorem next_ended {it : Addr} {Q : Option Value → Shared → Prop} (hh : A.handled = none) (hI : s.heap.get? it = some itEnd) 
    (hQ : ∀ h', (∀ b ob, s.heap.get? b = some ob → h'.get? b = some ob) → Q none { s with heap := h' }) :
    wpAny (model prog w) A (pyNext (.ref it)) Q E s := by
  unfold pyNext
  refine wpAny_bind (wpAny_attempt (wpAny_callSpecial?_slot (name := Str.ofString "__next__") ⟨_, hI, rfl⟩ slot_ci_next (wpAny_call (codeAny_call_builtin slot_ci_next.plain entry_ci_next (slot_ci_next.check _ _ _ _ _ _ _ _ ⟨_, hI, rfl⟩ (args_ci_next _) ?_)))))
  unfold Builtin.«callable_iterator.__next__»
  refine wpAny_bind (m := slotArgs "__next__" 0 _) (wpAny_pure ?_)
  refine wpAny_bind (wpAny_field hI rfl (i := 2) rfl ?_)
  refine wpAny_bind (wpAny_rule (wpAny_bind ?_))
  show wpAny _ _ (newExc (.type "StopIteration") [] >>= _) _ _ _
  refine wpAny_bind ?_
  simp only [newExc, newTuple]
  refine wpAny_bind (wpAny_newObj_type ?_ (by size_fits))
  refine wpAny_bind (m := firstArgMember _ _) (wpAny_of_eq (a := Value.none) (by first | rfl | (simp only [firstArgMember]; rfl)) ?_)
  refine wpAny_newObj_type ?_ (by size_fits)
  simp only [raiseNew]
  refine wpAny_bind (wpAny_handled ?_)
  rw [show A.in1.handled = none from hh]
  refine wpAny_bind (wpAny_pure (wpAny_throw ?_))
  refine wpAny_bind (wpAny_isInstance (T := "StopIteration") (b := true) ⟨_, Heap.get?_push_size _ rfl, rfl⟩ isSubtype_stop ?_)
  exact wpAny_pure (hQ _ (fun b ob e => Heap.get?_push_of_some _ (Heap.get?_push_of_some _ e)))
end
end
section
open PySem PySem.W PySem.Spec PySem.Calls PyProof.Rows
set_option maxRecDepth 100000
set_option maxHeartbeats 4000000
set_option linter.unusedVariables false
noncomputable abbrev gtFor : Stmt := by
  refine (fun (_ : stAt (defBody gtDef) 3 = ?l) => ?l) ?h
  case h => (conv => lhs; whnf)
noncomputable abbrev gtQFor : Stmt := by
  refine (fun (_ : stAt (ifBody (stAt (forBody (stAt (defBody gtDef) 3)) 1)) 0 = ?l) => ?l) ?h
  case h => (conv => lhs; whnf)
noncomputable abbrev gtIter : PySem.Expr := by
  refine (fun (_ : (match stAt (defBody gtDef) 3 with | .For _ i _ _ _ => i | _ => .Constant .none 0 default) = ?l) => ?l) ?h
  case h => (conv => lhs; whnf)
/-- the frame of get_token before the first sign -/
noncomputable abbrev gtFr0 (x it : Addr) (t : Nat) : Str → Option Value := fun y =>
  if y = Str.ofString "fiter" then some (.ref it) else if y = Str.ofString "token" then some (.str (Str.ofString "") t) else if y = Str.ofString "self" then some (.ref x) else none
theorem gtFr0_ch {x it : Addr} {t : Nat} {c : Value} : (fun y => if y = Str.ofString "ch" then some c else gtFr0 x it t y) = gtFr x it (Str.ofString "") t c := by
  funext y
  by_cases h : y = Str.ofString "ch"
  · subst h; rfl
  · by_cases h2 : y = Str.ofString "token"
    · subst h2; rfl
    · simp only [gtFr, gtFr0, if_neg h, if_neg h2]
theorem emp : Str.ofString "" = Str.empty := by decide +kernel
theorem look1 {y k : Str} {v : Value} : List.lookup y [(k, v)] = if y = k then some v else none := by
  by_cases h : y = k
  · subst h; simp [List.lookup]
  · have : (y == k) = false := beq_eq_false_iff_ne.mpr h
    simp [List.lookup, this, h]
theorem for_fiter {w : World} {A : Around} {Q : Flow → Shared → Prop} {E : Value → Shared → Prop} {s : Shared} {h₀ : Heap} {L it : Addr} {m : Str → Option Value} {tgt : PySem.Expr} {body : List Stmt} {ps pos : Pos} {o : Obj} (F : Fr h₀ L s.heap m) (e : m (Str.ofString "fiter") = some (.ref it))
   (hI : s.heap.get? it = some o) (hc : o.cls = .type "callable_iterator")
   (h : codeAny (model PySem.Challenge.rw_re0120_01.row.prog w) A (.forLoop tgt (.ref it) body [] (gtEnv L)) (fun r s' => match r with | .ok f => Q f s' | .error e => cameBackBy (model PySem.Challenge.rw_re0120_01.row.prog w) A (gtEnv L) E e s') s) :
   wpAny (model PySem.Challenge.rw_re0120_01.row.prog w) A (exec (.For tgt (.Name (Str.ofString "fiter") ps) body [] pos) (gtEnv L)) Q E s :=
  wpAny_For (ld F e (iter_self hI hc h))
end
section
open PySem PySem.W PySem.Spec PySem.Calls PyProof.Rows
local macro_rules | `(tactic| walk_at "call builtin:iter") => `(tactic| (k_here; (with_reducible show wpAny _ _ (call (Value.builtin _) [Value.ref _, Value.str _ _]) _ _ _); k_dflt (refine' iter2_K ?F ?N ?q ?_; (case F | N => k_asm); (case q => k_mem); k_whole); intro D' h' F' N' l1; (try dsimp only at N'); (try k_lt l1); (try k_sweep)))
section
open PySem PySem.W PySem.Spec PySem.Calls PyProof.Rows
set_option maxRecDepth 100000
set_option maxHeartbeats 4000000
set_option linter.unusedVariables false
variable {w : World} {dp un : Nat} {gd : Option (List Code)} {outer : List Env} {A₀ : Around} {base h₀ : Heap} {L : Addr}
  {g : Obj → List (Addr × Obj)} {s : Shared} {p : Program} {loose : List Str} {mean : ExcName → Option Value} {mg mb : Str → Option Value}
  {Q : Flow → Shared → Prop} {E : Value → Shared → Prop}
theorem gtq_turn {x d pb f fd rd ce sg c2 it q : Addr} {tn n t u : Nat}  {cs out : List Nat} {vs : List Value}
  (B : Below A₀ base outer h₀) (F : Fr h₀ L s.heap (gtFr x it (Str.ofString "") t (.str (Str.ofString "\"") u))) (X : (Mine.topK w.params).In h₀) (N : News h₀ L s.heap (g (listOf vs.toArray n))) (T : Top p loose mean mg mb h₀) (hC : CodeHd base 133 129)
  (G : LexG g x d pb f fd rd ce sg c2) (hit : ∀ o, (it, itObj (.ref q) (Str.ofString "") tn) ∈ g o) (hq : ∀ o, (q, methodObj (.ref 35) (.ref x)) ∈ g o) (hne : it ≠ sg)
  (hQ : Qs cs out) (hvs : StrsAre vs (cs.map ch1 ++ [ch1 34])) (hroom : dp + 5 < recursionLimit) (hu : un + 400 < cLine) (hsz : cs.length ≤ 900)
  (ret : ∀ h' tk' t' n' c', Fr h₀ L h' (gtFr x it (⟨out.toArray⟩ : Str) t' c') → News h₀ L h' (g (listOf ([] : List Value).toArray n')) → Q (.ret (.str (⟨out.toArray⟩ : Str) t')) { s with heap := h', toks := tk' }) :
  wpAny (model PySem.Challenge.rw_re0120_01.row.prog w) (ktrTop dp un gd (Str.ofString "_netrclex.get_token") gtScope L 42 (.ref 41) [] outer) (execs gtOuter (gtEnv L)) Q E s := by
  have G' := G
  obtain ⟨U, hx, ⟨h1, h2, h3, h4, k1, k2, k3, k4, k5, k6, hd⟩, ⟨F1, hf⟩, ⟨h5, k7, hfd⟩, ⟨qual, pm, ct, oc, vsc, t2, hrd, hc2, hcd, hcv⟩, ⟨oce, hce, hcev⟩⟩ := G
  have hx1 := hx (listOf vs.toArray n)
  have hd1 := hd (listOf vs.toArray n)
  have hit1 := hit (listOf vs.toArray n)
  generalize eg : g (listOf vs.toArray n) = news at N hx1 hd1 hit1
  revert X
  k_fill
  intro X
  k_steps
  · refine for_fiter F rfl (N _ hit1).1 rfl ?_
    subst eg
    refine qloop_K B F X N T hC G' hit hq hne hQ hvs (by omega) (by omega) (by show 0 + _ ≤ _; omega) fun h' tk' t' n' c' F2 N2 => ?_
    rw [emp, Str.empty_append] at F2 ⊢
    exact ret h' tk' t' n' c' F2 N2
  · rename (List.isEmpty _) = false => hb
    exact absurd hb (by decide +kernel)
theorem gtq_for {x d pb f fd rd ce sg c2 it q : Addr} {tn n t u : Nat} {cs out : List Nat} {vs : List Value}
  (B : Below A₀ base outer h₀) (F : Fr h₀ L s.heap (gtFr0 x it t)) (X : (Mine.topK w.params).In h₀) (N : News h₀ L s.heap (g (listOf (Value.str (Str.ofString "\"") u :: vs).toArray n))) (T : Top p loose mean mg mb h₀) (hC : CodeHd base 133 129)
  (G : LexG g x d pb f fd rd ce sg c2) (hit : ∀ o, (it, itObj (.ref q) (Str.ofString "") tn) ∈ g o) (hq : ∀ o, (q, methodObj (.ref 35) (.ref x)) ∈ g o) (hne : it ≠ sg)
  (hQ : Qs cs out) (hvs : StrsAre vs (cs.map ch1 ++ [ch1 34])) (hroom : dp + 5 < recursionLimit) (hu : un + 400 < cLine) (hsz : cs.length ≤ 900)
  (ret : ∀ h' tk' t' n' c', Fr h₀ L h' (gtFr x it (⟨out.toArray⟩ : Str) t' c') → News h₀ L h' (g (listOf ([] : List Value).toArray n')) → Q (.ret (.str (⟨out.toArray⟩ : Str) t')) { s with heap := h', toks := tk' }) :
  wpAny (model PySem.Challenge.rw_re0120_01.row.prog w) (ktrTop dp un gd (Str.ofString "_netrclex.get_token") gtScope L 42 (.ref 41) [] outer) (exec gtFor (gtEnv L)) Q E s := by
  have G' := G
  obtain ⟨U, hx, ⟨h1, h2, h3, h4, k1, k2, k3, k4, k5, k6, hd⟩, ⟨F1, hf⟩, ⟨h5, k7, hfd⟩, ⟨qual, pm, ct, oc, vsc, t2, hrd, hc2, hcd, hcv⟩, ⟨oce, hce, hcev⟩⟩ := G
  have hl : vs.length = cs.length + 1 := by have := StrsAre.length hvs; simpa using this
  refine for_fiter F rfl (N _ (hit _)).1 rfl ?_
  refine codeAny_forLoop (fun k s1 => s1 = s) ?turn 0 rfl
  rintro k s1 rfl
  refine next_K B F X N T hC (hx _) (hd _) (hf _) (hfd _) (hrd _) (hc2 _) hcd hcv (hce _) hcev (hit _) (hq _) hne (upd_old (U _ (listOf ([] : List Value).toArray (n + 1)))) (U _ _) (by omega) (by omega) (by rw [sizeLine_eq]; omega) (by decide +kernel) (by decide +kernel) fun h' tk' F2 N2 => ?_
  refine wpAny_assign_Name (storeX_L F2 N2 (fun h'' F3 N3 => ?_) rfl rfl)
  exact gtq_turn B (fr_eq F3 gtFr0_ch) X N3 T hC G' hit hq hne hQ hvs hroom hu hsz fun h' tk' t' n' c' F4 N4 => ret h' tk' t' n' c' F4 N4
theorem lexG_cons {g : Obj → List (Addr × Obj)} {x d pb f fd rd ce sg c2 a : Addr} {ob : Obj} (G : LexG g x d pb f fd rd ce sg c2) (h : a ≠ sg) : LexG (fun o => (a, ob) :: g o) x d pb f fd rd ce sg c2 := by
  obtain ⟨U, hx, ⟨h1, h2, h3, h4, k1, k2, k3, k4, k5, k6, hd⟩, ⟨F1, hf⟩, ⟨h5, k7, hfd⟩, ⟨qual, pm, ct, oc, vsc, t2, hrd, hc2, hcd, hcv⟩, ⟨oce, hce, hcev⟩⟩ := G
  exact ⟨fun o o' => .tail h (U o o'), fun o => .tail _ (hx o), ⟨h1, h2, h3, h4, k1, k2, k3, k4, k5, k6, fun o => .tail _ (hd o)⟩, ⟨F1, fun o => .tail _ (hf o)⟩, ⟨h5, k7, fun o => .tail _ (hfd o)⟩, ⟨qual, pm, ct, oc, vsc, t2, fun o => .tail _ (hrd o), fun o => .tail _ (hc2 o), hcd, hcv⟩, ⟨oce, fun o => .tail _ (hce o), hcev⟩⟩
end
section
open PySem PySem.W PySem.Spec PySem.Calls PyProof.Rows
set_option maxRecDepth 100000
set_option maxHeartbeats 4000000
set_option linter.unusedVariables false
variable {w : World} {dp un : Nat} {gd : Option (List Code)} {cn : Str} {nm : List (Str × NameKind)} {ig ic : Bool} {mo : List (Str × Const)} {a : Addr} {ccd : Value} {cl : List (Str × Addr)} {outer : List Env} {A₀ : Around} {base h₀ : Heap} {L : Addr} {m : Str → Option Value}
  {news news' : List (Addr × Obj)} {g : Obj → List (Addr × Obj)} {s : Shared} {p : Program} {loose : List Str} {mean : ExcName → Option Value} {mg mb : Str → Option Value}
  {Q E : Value → Shared → Prop}
theorem upd_lt {d c : Addr} {o o' : Obj} {l l' : List (Addr × Obj)} (U : Upd d o o' l l') (hl : ∀ p ∈ l, p.1 < c) : ∀ p ∈ l', p.1 < c := by
  intro p hp
  obtain ⟨pre, post, rfl, rfl, h1, h2⟩ := U.split
  rcases List.mem_append.mp hp with hp | hp
  · exact hl p (List.mem_append.mpr (.inl hp))
  rcases List.mem_cons.mp hp with rfl | hp
  · exact hl (d, o) (List.mem_append.mpr (.inr (.head _)))
  · exact hl p (List.mem_append.mpr (.inr (.tail _ hp)))
theorem gt0_eq {x it : Addr} {t : Nat} {l : List (Str × Value)} (e : l = [(Str.ofString "self", .ref x)]) : (fun y => if y = Str.ofString "fiter" then some (.ref it) else if y = Str.ofString "token" then some (.str (Str.ofString "") t) else List.lookup y l) = gtFr0 x it t := by
  subst e
  funext y
  rw [look1]
theorem gtq_K {x d pb f fd rd ce sg c2 : Addr} {n np u : Nat} {cs out : List Nat} {vs : List Value}
  (B : Below A₀ base outer h₀) (F : Fr h₀ L s.heap m) (X : (Mine.topK w.params).In h₀) (N : News h₀ L s.heap (g (listOf (Value.str (Str.ofString "\"") u :: vs).toArray n))) (T : Top p loose mean mg mb h₀) (hC : CodeHd base 133 129)
  (G : LexG g x d pb f fd rd ce sg c2) (hpb : ∀ o, (pb, listOf ([] : List Value).toArray np) ∈ g o)
  (hQ : Qs cs out) (hvs : StrsAre vs (cs.map ch1 ++ [ch1 34])) (hsz : cs.length ≤ 900)
  (hroom : dp + 6 < recursionLimit) (hu : un + 600 < cLine)
  (ret : ∀ h' tk' t' n' it q tn, Fr h₀ L h' m → News h₀ L h' ((it, itObj (.ref q) (Str.ofString "") tn) :: (q, methodObj (.ref 35) (.ref x)) :: g (listOf ([] : List Value).toArray n')) → (∀ p ∈ g (listOf ([] : List Value).toArray n'), p.1 < q) → q < it → Q (.str (⟨out.toArray⟩ : Str) t') { s with heap := h', toks := tk' }) :
  wpAny (model PySem.Challenge.rw_re0120_01.row.prog w) (ktrTop dp un gd cn ⟨.function, nm, ig, ic, mo⟩ L a ccd cl outer) (call (.ref 42) [.ref x]) Q E s := by
  have G' := G
  obtain ⟨U, hx, ⟨h1, h2, h3, h4, k1, k2, k3, k4, k5, k6, hd⟩, ⟨F1, hf⟩, ⟨h5, k7, hfd⟩, ⟨qual, pm, ct, oc, vsc, t2, hrd, hc2, hcd, hcv⟩, ⟨oce, hce, hcev⟩⟩ := G
  have hx1 := hx (listOf (Value.str (Str.ofString "\"") u :: vs).toArray n)
  have hd1 := hd (listOf (Value.str (Str.ofString "\"") u :: vs).toArray n)
  have hpb1 := hpb (listOf (Value.str (Str.ofString "\"") u :: vs).toArray n)
  have hsg1 := upd_old (U (listOf (Value.str (Str.ofString "\"") u :: vs).toArray n) (listOf ([] : List Value).toArray 0))
  generalize eg : g (listOf (Value.str (Str.ofString "\"") u :: vs).toArray n) = news at N hx1 hd1 hpb1 hsg1
  revert X
  k_fill
  intro X
  refine wpAny_call ?_
  k_dflt k_enter
  k_steps
  rename ∀ p ∈ news, p.1 < _ => l9
  rename _ ∧ _ => l8
  have hq9 := ne_of_mem l9 hsg1
  have hi9 := ne_of_mem (fun p hp => Nat.lt_trans (l9 p hp) l8.1) hsg1
  subst eg
  k_dflt (refine gtq_for (g := fun o => (_, _) :: (_, _) :: g o) (by assumption) (fr_eq (by assumption) (gt0_eq rfl)) (by assumption) (by assumption) (by assumption) hC (lexG_cons (lexG_cons G' hq9) hi9) (fun o => .head _) (fun o => .tail _ (.head _)) hi9 hQ hvs ?r ?u hsz ?_)
  case r => ktr_room
  case u => ktr_units
  intro h' tk' t' n' c' F2 N2
  exact leaveK_ F2 N2 fun F3 N3 => ret _ _ _ _ _ _ _ F3 N3 (upd_lt (U _ _) l9) l8.1
end
section
open PySem PySem.W PySem.Spec PySem.Calls PyProof.Rows
set_option maxRecDepth 100000
set_option maxHeartbeats 4000000
set_option linter.unusedVariables false
variable {w : World} {dp un : Nat} {gd : Option (List Code)} {cn : Str} {nm : List (Str × NameKind)} {ig ic : Bool} {mo : List (Str × Const)} {a : Addr} {ccd : Value} {cl : List (Str × Addr)} {outer : List Env} {A₀ : Around} {base h₀ : Heap} {L : Addr} {m : Str → Option Value}
  {news news' : List (Addr × Obj)} {g : Obj → List (Addr × Obj)} {s : Shared} {p : Program} {loose : List Str} {mean : ExcName → Option Value} {mg mb : Str → Option Value}
  {Q E : Value → Shared → Prop}

variable {R : Result → Shared → Prop} {QF : Flow → Shared → Prop}
theorem nextend_K {it q : Addr} {tn : Nat} {QO : Option Value → Shared → Prop} {x d pb f fd rd ce sg c2 : Addr} {n : Nat}
  (B : Below A₀ base outer h₀) (F : Fr h₀ L s.heap m) (X : (Mine.topK w.params).In h₀) (N : News h₀ L s.heap ((it, itObj (.ref q) (Str.ofString "") tn) :: (q, methodObj (.ref 35) (.ref x)) :: g (listOf ([] : List Value).toArray n))) (T : Top p loose mean mg mb h₀) (hC : CodeHd base 133 129)
  (G : LexG g x d pb f fd rd ce sg c2) (hlt : ∀ p ∈ (q, methodObj (.ref 35) (.ref x)) :: g (listOf ([] : List Value).toArray n), p.1 ≠ it)
  (hroom : dp + 2 < recursionLimit) (hu : un + 300 < cLine)
  (ret : ∀ h' tk', Fr h₀ L h' m → News h₀ L h' ((it, itEnd) :: (q, methodObj (.ref 35) (.ref x)) :: g (listOf ([] : List Value).toArray n)) → QO none { s with heap := h', toks := tk' }) :
  wpAny (model PySem.Challenge.rw_re0120_01.row.prog w) (ktrTop dp un gd cn ⟨.function, nm, ig, ic, mo⟩ L a ccd cl outer) (pyNext (.ref it)) QO E s := by
  obtain ⟨U, hx, ⟨h1, h2, h3, h4, k1, k2, k3, k4, k5, k6, hd⟩, ⟨F1, hf⟩, ⟨h5, k7, hfd⟩, ⟨qual, pm, ct, oc, vsc, t2, hrd, hc2, hcd, hcv⟩, ⟨oce, hce, hcev⟩⟩ := G
  obtain ⟨og, fg, e1, e2⟩ := fn35 (X.keeps F.keep)
  refine next_end rfl (N _ (.head _)).1 (N _ (.tail _ (.head _))).1 e1 e2 ?_
  refine readchar0_C (dp := dp) (un := un + 1) B F X N T hC (.tail _ (.tail _ (hx _))) (.tail _ (.tail _ (hd _))) (.tail _ (.tail _ (hf _))) (.tail _ (.tail _ (hfd _))) (.tail _ (.tail _ (hrd _))) (.tail _ (.tail _ (hc2 _))) hcd hcv (.tail _ (.tail _ (hce _))) hcev (.tail _ (.tail _ (upd_old (U _ (listOf ([] : List Value).toArray 0))))) hroom (by omega) fun h' tk' u F' N' => ?_
  have X9 : ∀ b ob, h₀.get? b = some ob → h'.get? b = some ob := F'.keep
  obtain ⟨og', fg', e1', e2'⟩ := fn35 (X.keeps F'.keep)
  have e0 := X 35 _ rfl
  refine ⟨u, rfl, (N' _ (.head _)).1, (N' _ (.tail _ (.head _))).1, ?_, fun h2 k2 i2 => ?_⟩
  · have a1 := F.keep _ _ e0
    rw [a1] at e1
    rw [← e1]
    exact F'.keep _ _ e0
  · obtain ⟨F3, N3⟩ := led_ext (m := m) F' N' (.head hlt) k2 i2
    exact ret h2 tk' F3 N3
theorem dot_turn {x d pb f fd rd ce sg c2 it q : Addr} {tn n t u : Nat}
  (B : Below A₀ base outer h₀) (F : Fr h₀ L s.heap (gtFr x it (Str.ofString "") t (.str (Str.ofString ".") u))) (X : (Mine.topK w.params).In h₀) (N : News h₀ L s.heap ((it, itObj (.ref q) (Str.ofString "") tn) :: (q, methodObj (.ref 35) (.ref x)) :: g (listOf ([] : List Value).toArray n))) (T : Top p loose mean mg mb h₀) (hC : CodeHd base 133 129)
  (G : LexG g x d pb f fd rd ce sg c2) (hlt : ∀ p ∈ (q, methodObj (.ref 35) (.ref x)) :: g (listOf ([] : List Value).toArray n), p.1 ≠ it)
  (hroom : dp + 5 < recursionLimit) (hu : un + 400 < cLine) 
  (ret : ∀ h' tk' t', Fr h₀ L h' (gtFr x it (Str.ofString ".") t' (.str (Str.ofString ".") u)) → News h₀ L h' ((it, itEnd) :: (q, methodObj (.ref 35) (.ref x)) :: g (listOf ([] : List Value).toArray n)) → QF .next { s with heap := h', toks := tk' }) :
  wpAny (model PySem.Challenge.rw_re0120_01.row.prog w) (ktrTop dp un gd (Str.ofString "_netrclex.get_token") gtScope L 42 (.ref 41) [] outer) (execs gtOuter (gtEnv L)) QF E s := by
  have G' := G
  obtain ⟨U, hx, ⟨h1, h2, h3, h4, k1, k2, k3, k4, k5, k6, hd⟩, ⟨F1, hf⟩, ⟨h5, k7, hfd⟩, ⟨qual, pm, ct, oc, vsc, t2, hrd, hc2, hcd, hcv⟩, ⟨oce, hce, hcev⟩⟩ := G
  have hx1 := hx (listOf ([] : List Value).toArray n)
  have hd1 := hd (listOf ([] : List Value).toArray n)
  generalize eg : g (listOf ([] : List Value).toArray n) = news at N hx1 hd1 hlt
  revert X
  k_fill
  intro X
  k_steps
  all_goals first | (rename (List.isEmpty _) = false => hb; exact absurd hb (by decide +kernel)) | skip
  rename Fr h₀ L _ _ => F7
  rename News h₀ L _ _ => N7
  subst eg
  refine for_fiter F7 rfl (N7 _ (.head _)).1 rfl ?_
  refine codeAny_forLoop (fun k s1 => s1 = _) ?turn 0 rfl
  rintro k s1 rfl
  refine nextend_K B F7 X N7 T hC G' hlt (by omega) (by omega) fun h' tk' F8 N8 => ?_
  k_steps
  exact ret _ _ _ (fr_eq F8 gtFr_tok) N8
theorem dot_for {x d pb f fd rd ce sg c2 it q : Addr} {tn n t u : Nat}
  (B : Below A₀ base outer h₀) (F : Fr h₀ L s.heap (gtFr0 x it t)) (X : (Mine.topK w.params).In h₀) (N : News h₀ L s.heap ((it, itObj (.ref q) (Str.ofString "") tn) :: (q, methodObj (.ref 35) (.ref x)) :: g (listOf [Value.str (Str.ofString ".") u].toArray n))) (T : Top p loose mean mg mb h₀) (hC : CodeHd base 133 129)
  (G : LexG g x d pb f fd rd ce sg c2) (hlt : ∀ p ∈ (q, methodObj (.ref 35) (.ref x)) :: g (listOf ([] : List Value).toArray (n + 1)), p.1 ≠ it) (hne : it ≠ sg) (hqe : q ≠ sg)
  (hroom : dp + 5 < recursionLimit) (hu : un + 400 < cLine) 
  (ret : ∀ h' tk' t', Fr h₀ L h' (gtFr x it (Str.ofString ".") t' (.str (Str.ofString ".") u)) → News h₀ L h' ((it, itEnd) :: (q, methodObj (.ref 35) (.ref x)) :: g (listOf ([] : List Value).toArray (n + 1))) → QF .next { s with heap := h', toks := tk' }) :
  wpAny (model PySem.Challenge.rw_re0120_01.row.prog w) (ktrTop dp un gd (Str.ofString "_netrclex.get_token") gtScope L 42 (.ref 41) [] outer) (exec gtFor (gtEnv L)) QF E s := by
  have G' := G
  obtain ⟨U, hx, ⟨h1, h2, h3, h4, k1, k2, k3, k4, k5, k6, hd⟩, ⟨F1, hf⟩, ⟨h5, k7, hfd⟩, ⟨qual, pm, ct, oc, vsc, t2, hrd, hc2, hcd, hcv⟩, ⟨oce, hce, hcev⟩⟩ := G
  refine for_fiter F rfl (N _ (.head _)).1 rfl ?_
  refine codeAny_forLoop (fun k s1 => (k = 1 ∧ s1 = s) ∨ (k = 0 ∧ ∃ h tk t', s1 = { s with heap := h, toks := tk } ∧ Fr h₀ L h (gtFr x it (Str.ofString ".") t' (.str (Str.ofString ".") u)) ∧ News h₀ L h ((it, itEnd) :: (q, methodObj (.ref 35) (.ref x)) :: g (listOf ([] : List Value).toArray (n + 1))))) ?turn 1 (.inl ⟨rfl, rfl⟩)
  rintro k s1 (⟨rfl, rfl⟩ | ⟨rfl, h, tk, t', rfl, F7, N7⟩)
  · refine next_K B F X N T hC (.tail _ (.tail _ (hx _))) (.tail _ (.tail _ (hd _))) (.tail _ (.tail _ (hf _))) (.tail _ (.tail _ (hfd _))) (.tail _ (.tail _ (hrd _))) (.tail _ (.tail _ (hc2 _))) hcd hcv (.tail _ (.tail _ (hce _))) hcev (.head _) (.tail _ (.head _)) hne (.tail _ (.tail _ (upd_old (U _ (listOf ([] : List Value).toArray (n + 1)))))) (.tail hne (.tail hqe (U _ _))) (by omega) (by omega) (by rw [sizeLine_eq]; exact Nat.le_of_ble_eq_true rfl) (by decide +kernel) (by decide +kernel) fun h' tk' F2 N2 => ?_
    refine wpAny_assign_Name (storeX_L F2 N2 (fun h'' F3 N3 => ?_) rfl rfl)
    exact dot_turn B (fr_eq F3 gtFr0_ch) X N3 T hC G' hlt hroom hu fun h' tk' t' F4 N4 => ⟨0, Nat.one_pos, .inr ⟨rfl, _, _, _, rfl, F4, N4⟩⟩
  · refine next_ended rfl (N7 _ (.head _)).1 fun h' k' => ?_
    k_steps
    exact ret _ _ _ ⟨F7.ns.at fun o e => k' _ _ e, fun b o e => k' _ _ (F7.keep b o e), F7.above⟩ (fun p hp => ⟨k' _ _ (N7 p hp).1, (N7 p hp).2⟩)
theorem nil_for {x d pb f fd rd ce sg c2 it q : Addr} {tn n t : Nat}
  (B : Below A₀ base outer h₀) (F : Fr h₀ L s.heap (gtFr0 x it t)) (X : (Mine.topK w.params).In h₀) (N : News h₀ L s.heap ((it, itObj (.ref q) (Str.ofString "") tn) :: (q, methodObj (.ref 35) (.ref x)) :: g (listOf ([] : List Value).toArray n))) (T : Top p loose mean mg mb h₀) (hC : CodeHd base 133 129)
  (G : LexG g x d pb f fd rd ce sg c2) (hlt : ∀ p ∈ (q, methodObj (.ref 35) (.ref x)) :: g (listOf ([] : List Value).toArray n), p.1 ≠ it)
  (hroom : dp + 5 < recursionLimit) (hu : un + 400 < cLine) 
  (ret : ∀ h' tk', Fr h₀ L h' (gtFr0 x it t) → News h₀ L h' ((it, itEnd) :: (q, methodObj (.ref 35) (.ref x)) :: g (listOf ([] : List Value).toArray n)) → QF .next { s with heap := h', toks := tk' }) :
  wpAny (model PySem.Challenge.rw_re0120_01.row.prog w) (ktrTop dp un gd (Str.ofString "_netrclex.get_token") gtScope L 42 (.ref 41) [] outer) (exec gtFor (gtEnv L)) QF E s := by
  refine for_fiter F rfl (N _ (.head _)).1 rfl ?_
  refine codeAny_forLoop (fun k s1 => s1 = s) ?turn 0 rfl
  rintro k s1 rfl
  refine nextend_K B F X N T hC G hlt (by omega) (by omega) fun h' tk' F8 N8 => ?_
  k_steps
  exact ret _ _ F8 N8
theorem dot_K {x d pb f fd rd ce sg c2 : Addr} {n np u : Nat}
  (B : Below A₀ base outer h₀) (F : Fr h₀ L s.heap m) (X : (Mine.topK w.params).In h₀) (N : News h₀ L s.heap (g (listOf [Value.str (Str.ofString ".") u].toArray n))) (T : Top p loose mean mg mb h₀) (hC : CodeHd base 133 129)
  (G : LexG g x d pb f fd rd ce sg c2) (hpb : ∀ o, (pb, listOf ([] : List Value).toArray np) ∈ g o)
  (hroom : dp + 6 < recursionLimit) (hu : un + 600 < cLine)
  (ret : ∀ h' tk' t' it q, Fr h₀ L h' m → News h₀ L h' ((it, itEnd) :: (q, methodObj (.ref 35) (.ref x)) :: g (listOf ([] : List Value).toArray (n + 1))) → (∀ p ∈ g (listOf ([] : List Value).toArray (n + 1)), p.1 < q) → q < it → Q (.str (Str.ofString ".") t') { s with heap := h', toks := tk' }) :
  wpAny (model PySem.Challenge.rw_re0120_01.row.prog w) (ktrTop dp un gd cn ⟨.function, nm, ig, ic, mo⟩ L a ccd cl outer) (call (.ref 42) [.ref x]) Q E s := by
  have G' := G
  obtain ⟨U, hx, ⟨h1, h2, h3, h4, k1, k2, k3, k4, k5, k6, hd⟩, ⟨F1, hf⟩, ⟨h5, k7, hfd⟩, ⟨qual, pm, ct, oc, vsc, t2, hrd, hc2, hcd, hcv⟩, ⟨oce, hce, hcev⟩⟩ := G
  have hx1 := hx (listOf [Value.str (Str.ofString ".") u].toArray n)
  have hd1 := hd (listOf [Value.str (Str.ofString ".") u].toArray n)
  have hpb1 := hpb (listOf [Value.str (Str.ofString ".") u].toArray n)
  have hsg1 := upd_old (U (listOf [Value.str (Str.ofString ".") u].toArray n) (listOf ([] : List Value).toArray 0))
  generalize eg : g (listOf [Value.str (Str.ofString ".") u].toArray n) = news at N hx1 hd1 hpb1 hsg1
  revert X
  k_fill
  intro X
  refine wpAny_call ?_
  k_dflt k_enter
  k_steps
  rename ∀ p ∈ news, p.1 < _ => l9
  rename _ ∧ _ => l8
  have hq9 := ne_of_mem l9 hsg1
  have hi9 := ne_of_mem (fun p hp => Nat.lt_trans (l9 p hp) l8.1) hsg1
  subst eg
  have l7 := upd_lt (U _ (listOf ([] : List Value).toArray (n + 1))) l9
  k_dflt (refine dot_for (by assumption) (fr_eq (by assumption) (gt0_eq rfl)) (by assumption) (by assumption) (by assumption) hC G' ?l hi9 hq9 ?r ?u ?_)
  case l =>
    intro p hp
    rcases List.mem_cons.mp hp with rfl | hp
    · exact Nat.ne_of_lt l8.1
    · exact Nat.ne_of_lt (Nat.lt_trans (l7 p hp) l8.1)
  case r => ktr_room
  case u => ktr_units
  intro h' tk' t' F2 N2
  k_steps
  exact ret _ _ _ _ _ (by assumption) (by assumption) l7 l8.1
theorem nil_K {x d pb f fd rd ce sg c2 : Addr} {n np : Nat}
  (B : Below A₀ base outer h₀) (F : Fr h₀ L s.heap m) (X : (Mine.topK w.params).In h₀) (N : News h₀ L s.heap (g (listOf ([] : List Value).toArray n))) (T : Top p loose mean mg mb h₀) (hC : CodeHd base 133 129)
  (G : LexG g x d pb f fd rd ce sg c2) (hpb : ∀ o, (pb, listOf ([] : List Value).toArray np) ∈ g o)
  (hroom : dp + 6 < recursionLimit) (hu : un + 600 < cLine)
  (ret : ∀ h' tk' t' it q, Fr h₀ L h' m → News h₀ L h' ((it, itEnd) :: (q, methodObj (.ref 35) (.ref x)) :: g (listOf ([] : List Value).toArray n)) → (∀ p ∈ g (listOf ([] : List Value).toArray n), p.1 < q) → q < it → Q (.str (Str.ofString "") t') { s with heap := h', toks := tk' }) :
  wpAny (model PySem.Challenge.rw_re0120_01.row.prog w) (ktrTop dp un gd cn ⟨.function, nm, ig, ic, mo⟩ L a ccd cl outer) (call (.ref 42) [.ref x]) Q E s := by
  have G' := G
  obtain ⟨U, hx, ⟨h1, h2, h3, h4, k1, k2, k3, k4, k5, k6, hd⟩, ⟨F1, hf⟩, ⟨h5, k7, hfd⟩, ⟨qual, pm, ct, oc, vsc, t2, hrd, hc2, hcd, hcv⟩, ⟨oce, hce, hcev⟩⟩ := G
  have hx1 := hx (listOf ([] : List Value).toArray n)
  have hd1 := hd (listOf ([] : List Value).toArray n)
  have hpb1 := hpb (listOf ([] : List Value).toArray n)
  generalize eg : g (listOf ([] : List Value).toArray n) = news at N hx1 hd1 hpb1
  revert X
  k_fill
  intro X
  refine wpAny_call ?_
  k_dflt k_enter
  k_steps
  rename ∀ p ∈ news, p.1 < _ => l9
  rename _ ∧ _ => l8
  subst eg
  k_dflt (refine nil_for (by assumption) (fr_eq (by assumption) (gt0_eq rfl)) (by assumption) (by assumption) (by assumption) hC G' ?l ?r ?u ?_)
  case l =>
    intro p hp
    rcases List.mem_cons.mp hp with rfl | hp
    · exact Nat.ne_of_lt l8.1
    · exact Nat.ne_of_lt (Nat.lt_trans (l9 p hp) l8.1)
  case r => ktr_room
  case u => ktr_units
  intro h' tk' F2 N2
  k_steps
  exact ret _ _ _ _ _ (by assumption) (by assumption) l9 l8.1
end
section
open PySem PySem.W PySem.Spec PySem.Calls PyProof.Rows
set_option maxRecDepth 100000
set_option maxHeartbeats 4000000
set_option linter.unusedVariables false
variable {w : World} {dp un : Nat} {gd : Option (List Code)} {cn : Str} {nm : List (Str × NameKind)} {ig ic : Bool} {mo : List (Str × Const)} {a : Addr} {ccd : Value} {cl : List (Str × Addr)} {outer : List Env} {A₀ : Around} {base h₀ : Heap} {L : Addr} {m : Str → Option Value}
  {news news' : List (Addr × Obj)} {g : Obj → List (Addr × Obj)} {s : Shared} {p : Program} {loose : List Str} {mean : ExcName → Option Value} {mg mb : Str → Option Value}
  {Q E : Value → Shared → Prop}


noncomputable abbrev lamQ : Str := Str.ofString "_law_lexer.<locals>.<lambda>"
noncomputable abbrev tab0 : Obj := tabObj #[]
noncomputable abbrev tab2 (c1 c2 : Addr) : Obj := tabObj (#[] ++ #[rawInt ((72 : Nat) : Int), rawInt ((13 : Nat) : Int), Value.ref c1] ++ #[rawInt ((73 : Nat) : Int), rawInt ((18 : Nat) : Int), Value.ref c2])
theorem lexer1_K {text : Str} {t : Nat} (hC : CodeHd base 133 129) (U : UpdF 129 tab0 news g)
  (B : Below A₀ base outer h₀) (F : Fr h₀ L s.heap m) (X : (Mine.topK w.params).In h₀) (N : News h₀ L s.heap news) (T : Top p loose mean mg mb h₀)
  (hroom : dp + 3 < recursionLimit) (hu : un + 40 < cLine) (hsz : text.length ≤ 1000)
  (ret : ∀ h' tk' x d pb f fd rd ce sg c2 c1 h1 h2 h3 h4 k1 k2 k3 k4 k5 k6 h5 k7 pm ct F1 oc2 vs2 t2 oc1 oce vs n, Fr h₀ L h' m →
    News h₀ L h' ((pb, listOf ([] : List Value).toArray 0) :: (x, instObj 52 d) :: (d, lexDict h1 h2 h3 h4 k1 k2 k3 k4 k5 k6 f pb) :: (fd, dictOf [⟨h5, .str (Str.ofString "read") k7, .ref rd⟩] 1) :: (rd, readObj lamQ ce pm c2 ct) :: (c2, oc2) ::
      (f, (⟨.type "function", some fd, .func F1, #[]⟩ : Obj)) :: (c1, oc1) :: (sg, listOf (List.toArray vs) n) :: (ce, oce) :: g (tab2 c1 c2)) →
    StrsAre vs (signs text) → oc2.data = .fields vs2 → vs2[1]? = some (.str lamQ t2) → oce.data = .cell (some (.ref sg)) →
    (∀ p ∈ g (tab2 c1 c2), p.1 < ce) → ce < sg → sg < c1 → c1 < f → f < c2 → c2 < rd → rd < fd → fd < d → d < x → x < pb → 
    Q (.ref x) { s with heap := h', toks := tk' }) :
  wpAny (model PySem.Challenge.rw_re0120_01.row.prog w) (ktrTop dp un gd cn ⟨.function, nm, ig, ic, mo⟩ L a ccd cl outer) (call (.ref 134) [.str text t]) Q E s := by
  revert X
  k_fill
  intro X
  refine wpAny_call ?_
  k_dflt k_enter
  rename ∀ p ∈ news, p.1 < _ => l9
  have h129 := lt_of_mem l9 (updF_mem U)
  k_steps
  rename StrsAre _ _ => hS9
  refine ret _ _ _ _ _ _ _ _ _ _ _ _ _ _ _ _ _ _ _ _ _ _ _ _ _ _ _ _ _ _ _ _ _ _ (by assumption) (by assumption) (by assumption) (by assumption) (by assumption) (by assumption) ?p0 ?p1 ?p2 ?p3 ?p4 ?p5 ?p6 ?p7 ?p8 ?p9
  case p0 => exact fun p hp => Nat.lt_succ_of_lt (updF_lt U l9 _ p hp)
  all_goals first | omega | exact And.left (by assumption)
theorem lexer2_K {c1 c2 : Addr} {oc2 : Obj} {vs2 : Array Value} {text : Str} {t : Nat} (hC : CodeHd base 133 129) (ht : (129, tab2 c1 c2) ∈ news)
  (B : Below A₀ base outer h₀) (F : Fr h₀ L s.heap m) (X : (Mine.topK w.params).In h₀) (N : News h₀ L s.heap news) (T : Top p loose mean mg mb h₀)
  (hroom : dp + 3 < recursionLimit) (hu : un + 40 < cLine) (hsz : text.length ≤ 1000)
  (ret : ∀ h' tk' x d pb f fd rd ce sg h1 h2 h3 h4 k1 k2 k3 k4 k5 k6 h5 k7 pm ct F1 oce vs n, Fr h₀ L h' m →
    News h₀ L h' ((pb, listOf ([] : List Value).toArray 0) :: (x, instObj 52 d) :: (d, lexDict h1 h2 h3 h4 k1 k2 k3 k4 k5 k6 f pb) :: (fd, dictOf [⟨h5, .str (Str.ofString "read") k7, .ref rd⟩] 1) :: (rd, readObj lamQ ce pm c2 ct) :: 
      (f, (⟨.type "function", some fd, .func F1, #[]⟩ : Obj)) :: (sg, listOf (List.toArray vs) n) :: (ce, oce) :: news) →
    StrsAre vs (signs text) → oce.data = .cell (some (.ref sg)) →
    (∀ p ∈ news, p.1 < ce) → ce < sg → sg < f → f < rd → rd < fd → fd < d → d < x → x < pb → 
    Q (.ref x) { s with heap := h', toks := tk' }) :
  wpAny (model PySem.Challenge.rw_re0120_01.row.prog w) (ktrTop dp un gd cn ⟨.function, nm, ig, ic, mo⟩ L a ccd cl outer) (call (.ref 134) [.str text t]) Q E s := by
  revert X
  k_fill
  intro X
  refine wpAny_call ?_
  k_dflt k_enter
  rename ∀ p ∈ news, p.1 < _ => l9
  have h129 := lt_of_mem l9 ht
  k_steps
  rename StrsAre _ _ => hS9
  refine ret _ _ _ _ _ _ _ _ _ _ _ _ _ _ _ _ _ _ _ _ _ _ _ _ _ _ _ _ (by assumption) (by assumption) (by assumption) (by assumption) ?p0 ?p1 ?p2 ?p3 ?p4 ?p5 ?p6 ?p7
  case p0 => exact fun p hp => Nat.lt_succ_of_lt (l9 p hp)
  all_goals first | omega | exact And.left (by assumption)
end
section
open PySem PySem.W PySem.Spec PySem.Calls PyProof.Rows
set_option maxRecDepth 100000
set_option maxHeartbeats 4000000
set_option linter.unusedVariables false
variable {w : World} {dp un : Nat} {gd : Option (List Code)} {cn : Str} {nm : List (Str × NameKind)} {ig ic : Bool} {mo : List (Str × Const)} {a : Addr} {ccd : Value} {cl : List (Str × Addr)} {outer : List Env} {A₀ : Around} {base h₀ : Heap} {L : Addr} {m : Str → Option Value}
  {news news' : List (Addr × Obj)} {g : Obj → List (Addr × Obj)} {s : Shared} {p : Program} {loose : List Str} {mean : ExcName → Option Value} {mg mb : Str → Option Value}
  {Q E : Value → Shared → Prop}



noncomputable def wF (n k : Int) : Nat → Int
  | 0 => 1
  | j + 1 => Int.fdiv (wF n k j * (n - 1 - k - j)) (j + 1)
noncomputable def sF (n : Int) : Nat → Int
  | 0 => 0
  | k + 1 => sF n k + Int.fmod (wF n k k) 2
theorem wF_bnd0 : ∀ n : _root_.Fin 33, ∀ k : _root_.Fin 17, ∀ j : _root_.Fin 17, -1000000000000 ≤ wF (n : Nat) (k : Nat) j ∧ wF (n : Nat) (k : Nat) j ≤ 1000000000000 := by decide +kernel
theorem wF_bnd {n k j : Nat} (hn : n ≤ 32) (hk : k ≤ 16) (hj : j ≤ 16) : -1000000000000 ≤ wF n k j ∧ wF n k j ≤ 1000000000000 := wF_bnd0 ⟨n, by omega⟩ ⟨k, by omega⟩ ⟨j, by omega⟩
theorem s0 {n : Int} : (0 : Int) = sF n ([] : List Int).length := rfl
theorem w0 {n k : Int} : (1 : Int) = wF n k ([] : List Int).length ∧ (-1000000000000 : Int) ≤ 1 ∧ (1 : Int) ≤ 1000000000000 := ⟨rfl, by decide, by decide⟩
theorem half_of (n : Nat) : ((n : Int) + 1).fdiv 2 = (((n + 1) / 2 : Nat) : Int) := by rw [Int.fdiv_eq_ediv_of_nonneg _ (by omega)]; omega
theorem w1 {n : Nat} {K kN fst : Int} {pre preO : List Int} (hn : n ≤ 32) (e1 : K = 0 + (preO.length : Int)) (l1 : preO.length < (((n : Int) + 1).fdiv 2 - 0).toNat) (e2 : kN = 0 + (pre.length : Int)) (l2 : pre.length < (K - 0).toNat)
    (hf : fst = wF n K pre.length) :
    (fst * ((n : Int) - 1 - K - kN)).fdiv (kN + 1) = wF n K (pre ++ [kN]).length ∧ -1000000000000 ≤ (fst * ((n : Int) - 1 - K - kN)).fdiv (kN + 1) ∧ (fst * ((n : Int) - 1 - K - kN)).fdiv (kN + 1) ≤ 1000000000000 := by
  rw [half_of] at l1
  have ek : K = ((preO.length : Nat) : Int) := by omega
  have en : kN = ((pre.length : Nat) : Int) := by omega
  have e : (fst * ((n : Int) - 1 - K - kN)).fdiv (kN + 1) = wF n K (pre ++ [kN]).length := by
    rw [hf, en, List.length_append, List.length_singleton]; rfl
  rw [e, ek]
  have := wF_bnd (n := n) (k := preO.length) (j := (pre ++ [kN]).length) hn (by omega) (by rw [List.length_append, List.length_singleton]; omega)
  exact ⟨rfl, this.1, this.2⟩
theorem s1 {n : Nat} {kN fst fst1 : Int} {pre : List Int} (hO : fst1 = sF n pre.length) (e2 : kN = 0 + (pre.length : Int)) 
    (hI : fst = wF n kN (rangeKs 0 (kN - 0).toNat).length) :
    fst1 + fst.fmod 2 = sF n (pre ++ [kN]).length := by
  have en : kN = ((pre.length : Nat) : Int) := by omega
  have e3 : (rangeKs 0 (kN - 0).toNat).length = pre.length := by rw [rangeKs_length]; omega
  rw [hO, hI, e3, List.length_append, List.length_singleton, en]; rfl
theorem stern_K {n t : Nat} (hn : n ≤ 32) 
  (B : Below A₀ base outer h₀) (F : Fr h₀ L s.heap m) (X : (Mine.topK w.params).In h₀) (N : News h₀ L s.heap news) (T : Top p loose mean mg mb h₀)
  (hroom : dp + 3 < recursionLimit) (hu : un + 40 < cLine) 
  (ret : ∀ h' tk' t', Fr h₀ L h' m → News h₀ L h' news → Q (.int (sF n ((n + 1) / 2)) t') { s with heap := h', toks := tk' }) :
  wpAny (model PySem.Challenge.rw_re0120_01.row.prog w) (ktrTop dp un gd cn ⟨.function, nm, ig, ic, mo⟩ L a ccd cl outer) (call (.ref 146) [.int n t]) Q E s := by
  revert X
  k_fill
  intro X
  refine wpAny_call ?_
  k_dflt k_enter
  have hfd := half_of n
  k_with "pyIter ref" => (k_of "t" => k_state_given ["n", "k"] (fun n k pre ways => ways = wF n k pre.length ∧ -1000000000000 ≤ ways ∧ ways ≤ 1000000000000) "ways")
  k_with "pyIter ref" => (k_of "k" => k_state_given ["n"] (fun n pre odd => odd = sF n pre.length) "odd")
  k_with "state" => (first | exact s0 | exact w0 | (k_dflt (exact w1 (by assumption) (by assumption) (by assumption) (by assumption) (by assumption) (by assumption))) | (k_dflt (exact s1 (by assumption) (by assumption) (by assumption))))
  k_steps
  rename _ = sF _ _ => hv9
  rw [rangeKs_length, half_of] at hv9
  have e9 : ((((n + 1) / 2 : Nat) : Int) - 0).toNat = (n + 1) / 2 := by omega
  rw [e9] at hv9
  subst hv9
  exact ret _ _ _ (by assumption) (by assumption)
end
end
end
end
end
end
end
end
end
end
end
end
end
end
end
end
end
end
end
section
open PySem PySem.W PySem.Spec PySem.Calls PyProof.Rows
set_option maxRecDepth 100000
set_option maxHeartbeats 4000000
set_option linter.unusedVariables false
/-- table B.1 -/
noncomputable def b1S (k : Int) : Bool := [173, 847, 6150, 6155, 6156, 6157, 8203, 8204, 8205, 8288, 65279, 65024, 65025, 65026, 65027, 65028, 65029, 65030, 65031, 65032, 65033, 65034, 65035, 65036, 65037, 65038, 65039].contains k
noncomputable def b1L : List Int := [65024, 65025, 65026, 65027, 65028, 65029, 6150, 65030, 65031, 65032, 65033, 6155, 6156, 6157, 8203, 8204, 8205, 65034, 65035, 65036, 65037, 65038, 65039, 173, 847, 8288, 65279]
theorem b1_mem {k : Int} : b1S k = true ↔ k ∈ b1L := by
  unfold b1S b1L
  rw [List.contains_iff_mem]
  exact (show List.Perm _ _ by decide +kernel).mem_iff
noncomputable def keyI : Value → Int
  | .int k _ => k
  | _ => 0
theorem ints_mem {L : List (Int × Value)} (h : (L.all fun e => Value.isInt (keyI e.2) e.2) = true) {k : Int} : k ∈ L.map (fun e => keyI e.2) ↔ ∃ e ∈ L, Value.isInt k e.2 = true := by
  rw [List.all_eq_true] at h
  constructor
  · intro hk
    obtain ⟨e, he, rfl⟩ := List.mem_map.mp hk
    exact ⟨e, he, h e he⟩
  · rintro ⟨e, he, hk⟩
    refine List.mem_map.mpr ⟨e, he, ?_⟩
    have h2 := h e he
    cases q : e.2 with
    | int i t =>
      rw [q] at hk
      simp only [Value.isInt, beq_iff_eq] at hk
      simp only [keyI]
      omega
    | _ => rw [q] at h2; simp [Value.isInt] at h2
theorem q71_set (prog : Program) (w : World) (P : Params) : (q_71 P).SetObjOf (intKind prog w) b1S 27 := by
  refine ⟨⟨rfl, rfl, rfl⟩, _, _, _, rfl, ?_, ?_, rfl, ?_⟩
  · intro e he
    simp only [List.mem_cons, List.not_mem_nil, or_false] at he
    rcases he with rfl | rfl | rfl | rfl | rfl | rfl | rfl | rfl | rfl | rfl | rfl | rfl | rfl | rfl | rfl | rfl | rfl | rfl | rfl | rfl | rfl | rfl | rfl | rfl | rfl | rfl | rfl
    all_goals exact ⟨⟨_, intKind_is _ _ _ _, by kernel_rfl⟩, rfl⟩
  · intro k
    exact Iff.trans (b := k ∈ List.map (fun e : Int × Value => keyI e.2) _) b1_mem (ints_mem (by decide +kernel))
  · cases P.followText "set-order" <;> rfl
section
variable {prog : Program} {w : World} {A : Around} {E : Value → Shared → Prop} {s : Shared} {h₀ : Heap} {L : Addr} {m : Str → Option Value}
theorem in_b1 {k : Int} {t : Tok} {Q : Value → Shared → Prop} (F : Fr h₀ L s.heap m) (X : (Mine.topK w.params).In h₀) (h : Q (.bool (b1S k)) { s with toks := s.toks + 1 }) :
    wpAny (model prog w) A (compareOp .In (.int k t) (.ref 71)) Q E s :=
  wpAny_inSet_of (knd := intKind prog w) (intKind_is _ _ _ _) rfl ((q71_set prog w w.params).setOf (X.keeps F.keep 71 _ (by kernel_rfl)) (by decide)) h
noncomputable def b3F (k : Int) : Option Value := (b3St.es.find? fun e => Value.isInt k e.key).map (·.val)
noncomputable def GoodE (es : List DictEntry) : Prop := ∀ e ∈ es, ∃ k t, e.key = .int k t ∧ e.hash = hashInt k
theorem entE_good : ∀ (tk : Nat) (L : List (Int × Str)), GoodE (entE tk L)
  | _, [] => fun _ h => nomatch h
  | tk, (k, v) :: L => fun e h => by
    rcases List.mem_cons.mp h with rfl | h
    · exact ⟨_, _, rfl, rfl⟩
    · exact entE_good (tk + 3) L e h
theorem entV_good : ∀ (tk : Nat) (L : List (Int × Str)), GoodE (entV tk L)
  | _, [] => fun _ h => nomatch h
  | tk, (k, v) :: L => fun e h => by
    rcases List.mem_cons.mp h with rfl | h
    · exact ⟨_, _, rfl, rfl⟩
    · exact entV_good (tk + 2) L e h
theorem GoodE.app {a b : List DictEntry} (x : GoodE a) (y : GoodE b) : GoodE (a ++ b) := fun e h => (List.mem_append.mp h).elim (x e) (y e)
theorem loopR_good : ∀ (L Ly : List (Int × Str)) (st : DSt), GoodE st.es → GoodE (loopR L Ly st).1.es
  | [], Ly, st, h => h
  | e :: L, Ly, st, h => by
    show GoodE (match Nat.beq (Ly.length + 1) 17 with | true => loopR L [] (flushR (Ly ++ [e]) st) | false => loopR L (Ly ++ [e]) st).1.es
    cases Nat.beq (Ly.length + 1) 17
    · exact loopR_good L _ st h
    · exact loopR_good L _ _ (h.app (entE_good _ _))
theorem b3_keys : GoodE b3St.es := (loopR_good _ _ _ (entE_good _ _)).app (entV_good _ _)
theorem b3_map (prog : Program) (w : World) (P : Params) (h : Heap) (e : h.get? 82 = some (q_82 P)) : h.MapOf (intKind prog w) 82 b3F := by
  refine ⟨_, _, _, e, ⟨rfl, rfl, rfl⟩, rfl, fun e he => ?_, fun k => ?_⟩
  · obtain ⟨k, t, h1, h2⟩ := b3_keys e (by simpa using he)
    exact ⟨k, by rw [h1]; exact intKind_is _ _ _ _, h2⟩
  · show _ = (b3St.es.find? fun e => Value.isInt k e.key).map (·.val)
    rw [← List.find?_toArray]
    rfl
theorem get_b3 {k : Int} {t : Tok} {Q : Value → Shared → Prop} (F : Fr h₀ L s.heap m) (X : (Mine.topK w.params).In h₀) (h : Q ((b3F k).getD .none) { s with toks := s.toks + 1 }) :
    wpAny (model prog w) A (call (.builtin "dict.get") [.ref 82, .int k t]) Q E s := by
  have hm := b3_map prog w w.params s.heap (X.keeps F.keep 82 _ (by kernel_rfl))
  exact call_meetsIn PySem.F.slot_dict_get hm.typeIs PySem.F.entry_dict_get (PySem.F.args_dict_get_2 _ _) (meets_dict_get (intKind prog w) 82 (intKind_is _ _ _ _) (by decide +kernel)) ⟨_, hm, h⟩
theorem get_b3S {k : Int} {t : Tok} {v : Value} {Q : Value → Shared → Prop} (F : Fr h₀ L s.heap m) (X : (Mine.topK w.params).In h₀) (hc : b3F k = some v) (h : Q v { s with toks := s.toks + 1 }) :
    wpAny (model prog w) A (call (.builtin "dict.get") [.ref 82, .int k t]) Q E s := get_b3 F X (by rw [hc]; exact h)
theorem get_b3N {k : Int} {t : Tok} {Q : Value → Shared → Prop} (F : Fr h₀ L s.heap m) (X : (Mine.topK w.params).In h₀) (hc : b3F k = none) (h : Q .none { s with toks := s.toks + 1 }) :
    wpAny (model prog w) A (call (.builtin "dict.get") [.ref 82, .int k t]) Q E s := get_b3 F X (by rw [hc]; exact h)
theorem meth_b3 {pl : Sem Bool} {Q : Value × List Value → Shared → Prop} (F : Fr h₀ L s.heap m) (X : (Mine.topK w.params).In h₀) (h : Q (.builtin "dict.get", [.ref 82]) s) : wpAny (model prog w) A (getMethod (.ref 82) "get" pl) Q E s :=
  have hm := b3_map prog w w.params s.heap (X.keeps F.keep 82 _ (by kernel_rfl))
  getMethod_builtin hm.typeIs PySem.F.plainAttrs_dict PySem.F.slot_dict_get PySem.F.type_dict_get hm.noDict h
end
end
section
open PySem PySem.W PySem.Spec PySem.Calls PyProof.Rows
local macro_rules | `(tactic| k_room) => `(tactic| ktr_room)
section
open PySem PySem.W PySem.Spec PySem.Calls PyProof.Rows
local macro_rules | `(tactic| k_units) => `(tactic| ktr_units)
section
open PySem PySem.W PySem.Spec PySem.Calls PyProof.Rows
local macro_rules | `(tactic| walk_at "compareOp In int ref") => `(tactic| (k_here; k_dflt (refine' in_b1 ?F ?X ?_; (case F | X => k_asm); k_whole)))
section
open PySem PySem.W PySem.Spec PySem.Calls PyProof.Rows
local macro_rules | `(tactic| walk_at "call builtin:dict.get") => `(tactic| (k_here; k_dflt (first | (refine' get_b3S ?F ?X ?c ?_; (case c => assumption); (case F | X => k_asm); k_whole) | (refine' get_b3N ?F ?X ?c ?_; (case c => assumption); (case F | X => k_asm); k_whole))))
section
open PySem PySem.W PySem.Spec PySem.Calls PyProof.Rows
local macro_rules | `(tactic| walk_at "getMethod ref") => `(tactic| (k_here; k_dflt (refine' meth_b3 ?F ?X ?_; (case F | X => k_asm); k_whole)))
section
open PySem PySem.W PySem.Spec PySem.Calls PyProof.Rows
set_option maxRecDepth 100000
set_option maxHeartbeats 4000000
set_option linter.unusedVariables false
variable {w : World} {dp un : Nat} {gd : Option (List Code)} {cn : Str} {nm : List (Str × NameKind)} {ig ic : Bool} {mo : List (Str × Const)} {a : Addr} {ccd : Value} {cl : List (Str × Addr)} {outer : List Env} {A₀ : Around} {base h₀ : Heap} {L : Addr} {m : Str → Option Value}
  {news news' : List (Addr × Obj)} {g : Obj → List (Addr × Obj)} {s : Shared} {p : Program} {loose : List Str} {mean : ExcName → Option Value} {mg mb : Str → Option Value}
  {Q E : Value → Shared → Prop}
theorem intab_K {c : Nat} {t : Nat}
  (B : Below A₀ base outer h₀) (F : Fr h₀ L s.heap m) (X : (Mine.topK w.params).In h₀) (N : News h₀ L s.heap news) (T : Top p loose mean mg mb h₀)
  (hroom : dp + 3 < recursionLimit) (hu : un + 40 < cLine) 
  (ret : ∀ h' tk', Fr h₀ L h' m → News h₀ L h' news → Q (.bool (b1S (c : Int))) { s with heap := h', toks := tk' }) :
  wpAny (model PySem.Challenge.rw_re0120_01.row.prog w) (ktrTop dp un gd cn ⟨.function, nm, ig, ic, mo⟩ L a ccd cl outer) (call (.ref 81) [.str ⟨#[c]⟩ t]) Q E s := by
  revert X
  k_fill
  intro X
  refine wpAny_call ?_
  k_dflt k_enter
  k_steps
  exact ret _ _ (by assumption) (by assumption)
theorem mapS_K {c : Nat} {t : Nat} {y : Str} {u : Tok} (hc : b3F (c : Int) = some (.str y u))
  (B : Below A₀ base outer h₀) (F : Fr h₀ L s.heap m) (X : (Mine.topK w.params).In h₀) (N : News h₀ L s.heap news) (T : Top p loose mean mg mb h₀)
  (hroom : dp + 3 < recursionLimit) (hu : un + 40 < cLine) 
  (ret : ∀ h' tk' t', Fr h₀ L h' m → News h₀ L h' news → Q (.str y t') { s with heap := h', toks := tk' }) :
  wpAny (model PySem.Challenge.rw_re0120_01.row.prog w) (ktrTop dp un gd cn ⟨.function, nm, ig, ic, mo⟩ L a ccd cl outer) (call (.ref 127) [.str ⟨#[c]⟩ t]) Q E s := by
  revert X
  k_fill
  intro X
  refine wpAny_call ?_
  k_dflt k_enter
  k_steps
  exact ret _ _ _ (by assumption) (by assumption)
theorem mapL_K {c : Nat} {t : Nat} {y : Str} (hl : (c = 92 ∧ y = Str.ofString "\\") ∨ (c = 97 ∧ y = Str.ofString "a") ∨ (c = 81 ∧ y = Str.ofString "q")) (hc : b3F (c : Int) = none)
  (B : Below A₀ base outer h₀) (F : Fr h₀ L s.heap m) (X : (Mine.topK w.params).In h₀) (N : News h₀ L s.heap news) (T : Top p loose mean mg mb h₀)
  (hroom : dp + 3 < recursionLimit) (hu : un + 40 < cLine) 
  (ret : ∀ h' tk' t', Fr h₀ L h' m → News h₀ L h' news → Q (.str y t') { s with heap := h', toks := tk' }) :
  wpAny (model PySem.Challenge.rw_re0120_01.row.prog w) (ktrTop dp un gd cn ⟨.function, nm, ig, ic, mo⟩ L a ccd cl outer) (call (.ref 127) [.str ⟨#[c]⟩ t]) Q E s := by
  revert X
  k_fill
  intro X
  refine wpAny_call ?_
  k_dflt k_enter
  rcases hl with ⟨rfl, rfl⟩ | ⟨rfl, rfl⟩ | ⟨rfl, rfl⟩
  all_goals k_steps
  all_goals exact ret _ _ _ (by assumption) (by assumption)
end
end
end
end
end
end
section
open PySem PySem.W PySem.Spec PySem.Calls PyProof.Rows PyProof.Rows.LCg PyProof.Rows.LCt
set_option maxRecDepth 100000
set_option maxHeartbeats 4000000
set_option linter.unusedVariables false
section
variable {prog : Program} {w : World} {A : Around} {E : Value → Shared → Prop} {s : Shared} {h₀ : Heap} {L : Addr} {m : Str → Option Value} {env : Env}
noncomputable def SrcS (prog : Program) (w : World) (A : Around) (h₀ : Heap) (L : Addr) (m : Str → Option Value) (env : Env) (ct elt : PySem.Expr) (x : Str) (scope : Scope) (cl : List (Str × Addr)) (Fin : Shared → List Value → List (Addr × Obj) → Prop) (xv : Value) (s₁ : Shared) : Prop :=
  ∃ y t news, xv = .str y t ∧ A.handled = none ∧ Fr h₀ L s₁.heap m ∧ News h₀ L s₁.heap news ∧ y.cps.all (· < 128) = false ∧ y.cps.size ≤ sizeLine ∧
    ∀ s₂ : Shared, (∃ h, s₂ = { s₁ with heap := h }) → CompRestT prog w A h₀ L m env ct elt x scope cl s₂ (fun _ => True) (SignAt y) (Fin s₂) y.cps.size 0 [] news
theorem ListComp_Ts {ct elt iter : PySem.Expr} {x : Str} {px : Pos} {scope : Scope} {cl : List (Str × Addr)} {pos : Pos} {Q : Value → Shared → Prop} (F₀ : Fr h₀ L s.heap m)
    (hclos : closureFor scope env = pure cl) (hcell : ∀ y ∈ scope.names, y.2 ≠ .cell) (hkind : scope.kind = .function)
    (hnames : ∀ y ∈ scope.names, y.2 = .local → scope.names.lookup y.1 = some .local) (hx : scope.names.lookup x = some .local)
    (h : wpAny (model prog w) A (eval iter env) (SrcS prog w A h₀ L m env ct elt x scope cl (fun s₂ => FinE h₀ L m s₂ Q)) E s)
    (hs : ∀ x, foldedSetIterable iter env x = pure x := by intro _; rfl) :
    wpAny (model prog w) A (eval (.ListComp elt [⟨.Name x px, iter, [ct], 0⟩] scope pos) env) Q E s := by
  rw [eval_ListComp]
  refine wpAny_comprehension_free (use := none) rfl hs hclos hkind hnames (wpAny_mono h (fun xv s₁ h₁ => ?_) fun _ _ e => e)
  obtain ⟨y, t, news, rfl, hh, F, N, ha, hsz, R⟩ := h₁
  have up : ∀ (o : Obj) b o', s₁.heap.get? b = some o' → (s₁.heap.push o).get? b = some o' := fun o b o' e => Heap.get?_push_of_some _ e
  refine wpAny_pyIter_wide ha ?_
  refine block_T (Walks.strWide hh s₁.heap.objs.size y t) hsz (fun i h st => by obtain ⟨o, e, _⟩ := st; exact ⟨o, e⟩) (fun i h h' o nw st e e' _ _ _ => by obtain ⟨o', q, r⟩ := st; rw [e] at q; cases q; exact ⟨o, e', r⟩)
    hcell hkind hx ⟨_, Heap.get?_push_size _ rfl, rfl, rfl⟩ (fun b hb => ?_)
    (F.keeps (up _)) (N.grown (up _)) (Nat.ne_of_lt F.ns.lt) (next_is_new F) (fun p hp => Nat.ne_of_lt (Heap.lt_size (N p hp).1)) trivial (R _ ⟨_, rfl⟩) ?_
  · rw [List.mem_singleton.mp hb]
    show s₁.heap.objs.size < (s₁.heap.push _).objs.size
    rw [Heap.size_push]; exact Nat.lt_succ_self _
  · intro D C h tk m' ys news' F' N' o1 hn hC₀ hD₀ hCL hDL hCD offC fin
    refine ⟨m', hn, fun h'' hs'' => fin D h'' tk (F'.change hs'' hCL hC₀) (fun p hp => ?_) o1⟩
    refine ⟨hs''.extBut _ _ ?_ (N' p hp).1, (N' p hp).2⟩
    rcases List.mem_cons.mp hp with rfl | hp
    · exact Ne.symm hCD
    · exact offC p hp
end
end
section
open PySem PySem.W PySem.Spec PySem.Calls PyProof.Rows
local macro_rules | `(tactic| k_mem) => `(tactic| first | exact List.Mem.head _ | ktr_member | (refine List.mem_cons_of_mem _ ?_; k_mem))
section
open PySem PySem.W PySem.Spec PySem.Calls PyProof.Rows
local macro_rules | `(tactic| k_room) => `(tactic| ktr_room)
section
open PySem PySem.W PySem.Spec PySem.Calls PyProof.Rows
local macro_rules | `(tactic| k_units) => `(tactic| ktr_units)
section
open PySem PySem.W PySem.Spec PySem.Calls PyProof.Rows PyProof.Rows.LCg PyProof.Rows.LCt
set_option maxRecDepth 100000
set_option maxHeartbeats 4000000
set_option linter.unusedVariables false
section
variable {prog : Program} {w : World} {A : Around} {h₀ : Heap} {L : Addr} {m : Str → Option Value} {env : Env} {ct elt : PySem.Expr} {x : Str} {scope : Scope} {cl : List (Str × Addr)} {s : Shared} {S : List (Addr × Obj) → Prop} {Fin : List Value → List (Addr × Obj) → Prop} {news : List (Addr × Obj)}
theorem strs_snoc {y : Str} {t : Tok} : ∀ {vs : List Value} {ys : List Str}, StrsAre vs ys → StrsAre (vs ++ [.str y t]) (ys ++ [y])
  | _, _, .nil => .cons y t .nil
  | _, _, .cons z u r => .cons z u (strs_snoc r)
theorem rest_S {y : Str} (tst : Nat → Bool) (f : Nat → Str) (hS : S news)
    (turn1 : ∀ c u I oI C oC D m₂ ys h tk (E' : Value → Shared → Prop), c ∈ y.cps.toList → NsObj oC m₂ → m₂ x = some (.str ⟨#[c]⟩ u) → Fr h₀ L h m → News h₀ L h ((I, oI) :: (C, oC) :: (D, lst ys) :: news) → Off3 I C D news → ((@Ne Nat I C) ∧ (@Ne Nat I D) ∧ (@Ne Nat C D)) →
      ∀ QQ : Bool → Shared → Prop, (∀ h' tk', Fr h₀ L h' m → News h₀ L h' ((I, oI) :: (C, oC) :: (D, lst ys) :: news) → QQ (tst c) { s with heap := h', toks := tk' }) →
      wpAny (model prog w) A (isTrue ct (compEnvC scope cl C env) (eval ct (compEnvC scope cl C env))) QQ E' { s with heap := h, toks := tk })
    (turn2 : ∀ c u I oI C oC D m₂ ys h tk (E' : Value → Shared → Prop), c ∈ y.cps.toList → tst c = true → NsObj oC m₂ → m₂ x = some (.str ⟨#[c]⟩ u) → Fr h₀ L h m → News h₀ L h ((I, oI) :: (C, oC) :: (D, lst ys) :: news) → Off3 I C D news → ((@Ne Nat I C) ∧ (@Ne Nat I D) ∧ (@Ne Nat C D)) →
      ∀ QQ : Value → Shared → Prop, (∀ h' tk' t, Fr h₀ L h' m → News h₀ L h' ((I, oI) :: (C, oC) :: (D, lst ys) :: news) → QQ (.str (f c) t) { s with heap := h', toks := tk' }) →
      wpAny (model prog w) A (eval elt (compEnvC scope cl C env)) QQ E' { s with heap := h, toks := tk })
    (fin : ∀ ys, StrsAre ys ((y.cps.toList.filter tst).map f) → Fin ys news) : CompRestT prog w A h₀ L m env ct elt x scope cl s S (SignAt y) Fin y.cps.size 0 [] news := by
  have key : ∀ (j i : Nat) (ys : List Value), i + j = y.cps.size → StrsAre ys (((y.cps.toList.take i).filter tst).map f) → CompRestT prog w A h₀ L m env ct elt x scope cl s S (SignAt y) Fin j i ys news := by
    intro j
    induction j with
    | zero =>
      intro i ys hi hy
      refine CompRestT.zero (fin ys ?_)
      rw [List.take_of_length_le (by rw [Array.length_toList]; omega)] at hy
      exact hy
    | succ j ih =>
      intro i ys hi hy
      refine CompRestT.succ ?_
      intro v I oI C oC D m₂ h tk E' hv hC hx F N off ne
      obtain ⟨c, u, hc, rfl⟩ := hv
      have hcl : y.cps.toList[i]? = some c := by rw [Array.getElem?_toList]; exact hc
      have hnext : (y.cps.toList.take (i + 1)) = y.cps.toList.take i ++ [c] := by rw [List.take_add_one, hcl]; rfl
      refine turn1 c u I oI C oC D m₂ ys h tk E' (List.mem_of_getElem? hcl) hC hx F N off ne _ (fun h' tk' F' N' => ?_)
      by_cases q : tst c = true
      · rw [if_pos q]
        refine turn2 c u I oI C oC D m₂ ys h' tk' E' (List.mem_of_getElem? hcl) q hC hx F' N' off ne _ (fun h'' tk'' t F'' N'' => ?_)
        refine ⟨h'', tk'', news, rfl, F'', N'', off, hS, ih (i + 1) _ (by omega) ?_⟩
        rw [hnext, List.filter_append, List.map_append, List.filter_cons_of_pos q]
        exact strs_snoc hy
      · rw [if_neg q]
        refine ⟨h', tk', news, rfl, F', N', off, hS, ih (i + 1) _ (by omega) ?_⟩
        rw [hnext, List.filter_append, List.filter_cons_of_neg q]
        simpa using hy
  exact key y.cps.size 0 [] (by omega) .nil
end
end
section
open PySem PySem.W PySem.Spec PySem.Calls PyProof.Rows
local macro_rules | `(tactic| walk_at "eval ListComp") => `(tactic| (k_here; k_dflt (refine ListComp_Ts (F₀ := by k_asm) (by with_unfolding_all rfl) (by decide) (by rfl) (by decide) (by rfl) ?_)))
section
open PySem PySem.W PySem.Spec PySem.Calls PyProof.Rows PyProof.Rows.LCg PyProof.Rows.LCt
set_option maxRecDepth 100000
set_option maxHeartbeats 4000000
set_option linter.unusedVariables false
variable {w : World} {dp un : Nat} {gd : Option (List Code)} {cn : Str} {nm : List (Str × NameKind)} {ig ic : Bool} {mo : List (Str × Const)} {a : Addr} {ccd : Value} {cl : List (Str × Addr)} {outer : List Env} {A₀ : Around} {base h₀ : Heap} {L : Addr} {m : Str → Option Value}
  {news news' : List (Addr × Obj)} {g : Obj → List (Addr × Obj)} {s : Shared} {p : Program} {loose : List Str} {mean : ExcName → Option Value} {mg mb : Str → Option Value}
  {Q E : Value → Shared → Prop}
noncomputable def OkC (c : Nat) (y : Str) : Prop := (∃ u, b3F (c : Int) = some (.str y u)) ∨ (((c = 92 ∧ y = Str.ofString "\\") ∨ (c = 97 ∧ y = Str.ofString "a") ∨ (c = 81 ∧ y = Str.ofString "q")) ∧ b3F (c : Int) = none)
theorem map_K {c : Nat} {t : Nat} {y : Str} (hc : OkC c y)
  (B : Below A₀ base outer h₀) (F : Fr h₀ L s.heap m) (X : (Mine.topK w.params).In h₀) (N : News h₀ L s.heap news) (T : Top p loose mean mg mb h₀)
  (hroom : dp + 3 < recursionLimit) (hu : un + 40 < cLine) 
  (ret : ∀ h' tk' t', Fr h₀ L h' m → News h₀ L h' news → Q (.str y t') { s with heap := h', toks := tk' }) :
  wpAny (model PySem.Challenge.rw_re0120_01.row.prog w) (ktrTop dp un gd cn ⟨.function, nm, ig, ic, mo⟩ L a ccd cl outer) (call (.ref 127) [.str ⟨#[c]⟩ t]) Q E s := by
  rcases hc with ⟨u, hc⟩ | ⟨h1, h2⟩
  · exact mapS_K hc B F X N T hroom hu ret
  · exact mapL_K h1 h2 B F X N T hroom hu ret
local macro_rules | `(tactic| walk_at "call ref") => `(tactic| (k_here; (with_reducible show wpAny _ _ (call (Value.ref 81) [Value.str _ _]) _ _ _); k_dflt (refine' intab_K ?B ?F ?X ?N ?T ?r ?u ?_; (case B | F | X | N | T => k_asm); (case r => ktr_room); (case u => ktr_units); k_whole); intro h' tk' F' N'; (try k_sweep)))
local macro_rules | `(tactic| walk_at "call ref") => `(tactic| (k_here; (with_reducible show wpAny _ _ (call (Value.ref 127) [Value.str _ _]) _ _ _); k_dflt (refine' map_K ?C ?B ?F ?X ?N ?T ?r ?u ?_; (case C => assumption); (case B | F | X | N | T => k_asm); (case r => ktr_room); (case u => ktr_units); k_whole); intro h' tk' t' F' N'; (try k_sweep)))
theorem sum_filter_le (tst : Nat → Bool) (f : Nat → Str) (hf : ∀ c, (f c).length ≤ 4) : ∀ l : List Nat, ((((l.filter tst).map f).map (·.length)).sum + ((l.filter tst).map f).length) ≤ 5 * l.length
  | [] => by simp
  | c :: l => by
    have ih := sum_filter_le tst f hf l
    have := hf c
    by_cases q : tst c = true
    · rw [List.filter_cons_of_pos q]
      simp only [List.map_cons, List.sum_cons, List.length_cons] at ih ⊢
      omega
    · rw [List.filter_cons_of_neg q]
      simp only [List.length_cons]
      omega
theorem prepared_K {x : Str} {t : Nat} (hw : x.cps.all (· < 128) = false) (hsz : x.cps.size ≤ 1000) {f : Nat → Str} (hfl : ∀ c, (f c).length ≤ 4) (hf : ∀ c ∈ x.cps.toList, b1S (c : Int) = false → OkC c (f c))
  (B : Below A₀ base outer h₀) (F : Fr h₀ L s.heap m) (X : (Mine.topK w.params).In h₀) (N : News h₀ L s.heap news) (T : Top p loose mean mg mb h₀)
  (hroom : dp + 5 < recursionLimit) (hu : un + 80 < cLine) 
  (ret : ∀ h' tk' t', Fr h₀ L h' m → News h₀ L h' news → Q (.str (Txt.join (Str.ofString "") ((x.cps.toList.filter fun c : Nat => !b1S (c : Int)).map f)) t') { s with heap := h', toks := tk' }) :
  wpAny (model PySem.Challenge.rw_re0120_01.row.prog w) (ktrTop dp un gd cn ⟨.function, nm, ig, ic, mo⟩ L a ccd cl outer) (call (.ref 139) [.str x t]) Q E s := by
  revert X
  k_fill
  intro X
  refine wpAny_call ?_
  k_dflt k_enter
  k_steps
  k_dflt (refine ⟨x, _, _, rfl, rfl, by k_asm, by k_asm, hw, by rw [sizeLine_eq]; omega, ?_⟩)
  rintro s₂ ⟨g2, rfl⟩
  refine rest_S (fun c => !b1S (c : Int)) f trivial ?turn1 ?turn2 ?fin
  case turn1 =>
    intro c u I oI C oC D m₂ ys h tk E' hcm hC hx F N off ne QQ hret
    k_steps
    exact hret _ _ (by assumption) (by assumption)
  case turn2 =>
    intro c u I oI C oC D m₂ ys h tk E' hcm hq hC hx F N off ne QQ hret
    have hok := hf c hcm (by simpa using hq)
    k_steps
    exact hret _ _ _ (by assumption) (by assumption)
  case fin =>
    intro ys hys
    intro D h2 tk2 F2 N2 o1
    have hw9 := sum_filter_le (fun c => !b1S (c : Int)) f hfl x.cps.toList
    have hl9 : x.cps.toList.length ≤ 1000 := by rw [Array.length_toList]; exact hsz
    k_steps
    refine join_listW (isList_news N2 (.head _)) (by simpa using hys) (by decide) (by omega) fun t' k => ?_
    k_steps

    exact ret _ _ _ (by assumption) (news_drop (by assumption))
end
end
end
end
end
section
open PySem PySem.W PySem.Spec PySem.Calls PyProof.Rows PyProof.Rows.LCg
set_option maxRecDepth 100000
set_option maxHeartbeats 4000000
set_option linter.unusedVariables false
noncomputable def sternI (v : Int) : Int := sF v.toNat ((v.toNat + 1) / 2)
theorem sternI_bnd0 : ∀ n : _root_.Fin 33, 0 ≤ sternI (n : Nat) ∧ sternI (n : Nat) ≤ 100 ∧ (0 < (n : Nat) → 1 ≤ sternI (n : Nat)) := by decide +kernel
theorem sternI_bnd {v : Int} (h0 : 0 ≤ v) (h1 : v ≤ 32) : 0 ≤ sternI v ∧ sternI v ≤ 100 ∧ (0 < v → 1 ≤ sternI v) := by
  have := sternI_bnd0 ⟨v.toNat, by omega⟩
  simp only [Int.toNat_of_nonneg h0] at this
  exact ⟨this.1, this.2.1, fun h => this.2.2 (by omega)⟩
end
section
open PySem PySem.W PySem.Spec PySem.Calls PyProof.Rows
local macro_rules | `(tactic| k_mem) => `(tactic| first | exact List.Mem.head _ | ktr_member | (refine List.mem_cons_of_mem _ ?_; k_mem))
section
open PySem PySem.W PySem.Spec PySem.Calls PyProof.Rows
local macro_rules | `(tactic| k_ne) => `(tactic| first | ((try dsimp only); omega) | ((try dsimp only); exact ne_of_mem (by assumption) (by assumption)))
section
open PySem PySem.W PySem.Spec PySem.Calls PyProof.Rows
local macro_rules | `(tactic| k_upd) => `(tactic| first | assumption | (refine' Upd.tail ?a ?b; (case a => k_ne); (case b => k_upd)))
section
open PySem PySem.W PySem.Spec PySem.Calls PyProof.Rows
local macro_rules | `(tactic| k_updF) => `(tactic| first | assumption | exact updF_again (by assumption))
section
open PySem PySem.W PySem.Spec PySem.Calls PyProof.Rows
local macro_rules | `(tactic| k_all) => `(tactic| first | exact allLt_ne (by assumption) (by omega) | exact allLt_ne' (by assumption) (by omega) | exact allLt_ne' (updF_lt (by assumption) (by assumption) _) (by omega))
section
open PySem PySem.W PySem.Spec PySem.Calls PyProof.Rows
local macro_rules | `(tactic| k_room) => `(tactic| ktr_room)
section
open PySem PySem.W PySem.Spec PySem.Calls PyProof.Rows
local macro_rules | `(tactic| k_units) => `(tactic| ktr_units)
section
open PySem PySem.W PySem.Spec PySem.Calls PyProof.Rows PyProof.Rows.LCg
set_option maxRecDepth 100000
set_option maxHeartbeats 4000000
set_option linter.unusedVariables false
variable {w : World} {dp un : Nat} {gd : Option (List Code)} {cn : Str} {nm : List (Str × NameKind)} {ig ic : Bool} {mo : List (Str × Const)} {a : Addr} {ccd : Value} {cl : List (Str × Addr)} {outer : List Env} {A₀ : Around} {base h₀ : Heap} {L : Addr} {m : Str → Option Value}
  {news news' : List (Addr × Obj)} {g : Obj → List (Addr × Obj)} {s : Shared} {p : Program} {loose : List Str} {mean : ExcName → Option Value} {mg mb : Str → Option Value}
  {Q E : Value → Shared → Prop}
theorem sternI_K {v : Int} {t : Nat} (h0 : 0 ≤ v) (h1 : v ≤ 32)
  (B : Below A₀ base outer h₀) (F : Fr h₀ L s.heap m) (X : (Mine.topK w.params).In h₀) (N : News h₀ L s.heap news) (T : Top p loose mean mg mb h₀)
  (hroom : dp + 3 < recursionLimit) (hu : un + 40 < cLine) 
  (ret : ∀ h' tk' t', Fr h₀ L h' m → News h₀ L h' news → 0 ≤ sternI v → sternI v ≤ 100 → (0 < v → 1 ≤ sternI v) → Q (.int (sternI v) t') { s with heap := h', toks := tk' }) :
  wpAny (model PySem.Challenge.rw_re0120_01.row.prog w) (ktrTop dp un gd cn ⟨.function, nm, ig, ic, mo⟩ L a ccd cl outer) (call (.ref 146) [.int v t]) Q E s := by
  have b := sternI_bnd h0 h1
  have e : v = ((v.toNat : Nat) : Int) := (Int.toNat_of_nonneg h0).symm
  have := @stern_K w dp un gd cn nm ig ic mo a ccd cl outer A₀ base h₀ L m news s p loose mean mg mb Q E v.toNat t (by omega) B F X N T hroom hu (fun h' tk' t' F' N' => ret h' tk' t' F' N' b.1 b.2.1 b.2.2)
  rw [← e] at this
  exact this
local macro_rules | `(tactic| walk_at "call ref") => `(tactic| (k_here; (with_reducible show wpAny _ _ (call (Value.ref 146) [Value.int _ _]) _ _ _); k_dflt (refine' sternI_K ?a ?b ?B ?F ?X ?N ?T ?r ?u ?_; (case a | b => first | assumption | omega | l_fact); (case B | F | X | N | T => k_asm); (case r => ktr_room); (case u => ktr_units); k_whole); intro h' tk' t' F' N' b0' b1' b2'; (try k_sweep)))
section
variable {prog : Program} {A : Around}
theorem two_pow {k P : Int} {t u : Nat} {Q : Value → Shared → Prop} (h0 : 0 ≤ k) (h4 : k ≤ 4) (hP : (2 : Int) ^ k.toNat = P) (h : ∀ tk, Q (.int P tk) { s with toks := tk + 1 }) : wpAny (model prog w) A (binaryOp .Pow (.int 2 t) (.int k u)) Q E s := by
  refine pow_int_small (by omega) (by omega) (by decide) ?_
  rw [hP]
  exact h _
end
local macro_rules | `(tactic| walk_at "binaryOp Pow int int") => `(tactic| (k_here; k_dflt (refine' two_pow ?a ?b ?c ?_; (case a | b => omega); (case c => assumption); k_whole); intro tk'))
section
variable {prog : Program} {w : World} {A : Around} {h₀ : Heap} {L : Addr} {m : Str → Option Value} {env : Env} {elt : PySem.Expr} {x : Str} {scope : Scope} {cl : List (Str × Addr)} {s : Shared} {S : List (Addr × Obj) → Prop} {Fin : List Value → List (Addr × Obj) → Prop} {news : List (Addr × Obj)}
/-- a comprehension over a range whose element is a text, each turn by itself -/
theorem rest_R {n : Nat} (f : Int → Str) (hS : S news)
    (turn : ∀ c u I oI C oC D m₂ ys h tk (E' : Value → Shared → Prop), (0 : Int) ≤ c → c < (n : Int) → NsObj oC m₂ → m₂ x = some (.int c u) → Fr h₀ L h m → News h₀ L h ((I, oI) :: (C, oC) :: (D, lst ys) :: news) → Off3 I C D news → ((@Ne Nat I C) ∧ (@Ne Nat I D) ∧ (@Ne Nat C D)) →
      ∀ QQ : Value → Shared → Prop, (∀ h' tk' t, Fr h₀ L h' m → News h₀ L h' ((I, oI) :: (C, oC) :: (D, lst ys) :: news) → QQ (.str (f c) t) { s with heap := h', toks := tk' }) →
      wpAny (model prog w) A (eval elt (compEnvC scope cl C env)) QQ E' { s with heap := h, toks := tk })
    (fin : ∀ ys, StrsAre ys ((rangeKs 0 n).map f) → Fin ys news) : CompRest prog w A h₀ L m env elt x scope cl s S (fun i v => ∃ t, v = .int (0 + (i : Int)) t) Fin n 0 [] news := by
  have key : ∀ (j i : Nat) (ys : List Value), i + j = n → StrsAre ys (((rangeKs 0 n).take i).map f) → CompRest prog w A h₀ L m env elt x scope cl s S (fun i v => ∃ t, v = .int (0 + (i : Int)) t) Fin j i ys news := by
    intro j
    induction j with
    | zero =>
      intro i ys hi hy
      refine CompRest.zero (fin ys ?_)
      rw [List.take_of_length_le (by rw [rangeKs_length]; omega)] at hy
      exact hy
    | succ j ih =>
      intro i ys hi hy
      refine CompRest.succ ?_
      rintro v I oI C oC D m₂ h tk E' ⟨u, rfl⟩ hC hx F N off ne
      refine turn (0 + (i : Int)) u I oI C oC D m₂ ys h tk E' (by omega) (by omega) hC hx F N off ne _ (fun h'' tk'' t F'' N'' => ?_)
      refine ⟨h'', tk'', news, rfl, F'', N'', off, hS, ih (i + 1) _ (by omega) ?_⟩
      have hk : (rangeKs 0 n)[i]? = some (0 + (i : Int)) := by
        have : i < n := by omega
        simp [rangeKs, this]
      rw [List.take_add_one, hk, Option.toList_some, List.map_append]
      exact strs_snoc hy
  exact key n 0 [] (by omega) .nil
noncomputable def SrcQ (prog : Program) (w : World) (A : Around) (h₀ : Heap) (L : Addr) (m : Str → Option Value) (env : Env) (elt : PySem.Expr) (x : Str) (scope : Scope) (cl : List (Str × Addr)) (Fin : Shared → List Value → List (Addr × Obj) → Prop) (xv : Value) (s₁ : Shared) : Prop := CompSrc prog w A h₀ L m env elt x scope cl Fin xv s₁
theorem ListComp_Q {iter : PySem.Expr} {px : Pos} {pos : Pos} {Q : Value → Shared → Prop} {E : Value → Shared → Prop} (F₀ : Fr h₀ L s.heap m)
    (hclos : closureFor scope env = pure cl) (hcell : ∀ y ∈ scope.names, y.2 ≠ .cell) (hkind : scope.kind = .function)
    (hnames : ∀ y ∈ scope.names, y.2 = .local → scope.names.lookup y.1 = some .local) (hx : scope.names.lookup x = some .local)
    (h : wpAny (model prog w) A (eval iter env) (SrcQ prog w A h₀ L m env elt x scope cl (fun s₂ => FinE h₀ L m s₂ Q)) E s)
    (hs : ∀ x, foldedSetIterable iter env x = pure x := by intro _; rfl) :
    wpAny (model prog w) A (eval (.ListComp elt [⟨.Name x px, iter, [], 0⟩] scope pos) env) Q E s := ListComp_U F₀ hclos hcell hkind hnames hx h hs
end
noncomputable def wd (k : Nat) (x : Str) : Str := ⟨(List.replicate k 92 ++ x.cps.toList).toArray⟩
theorem foldl_app (a : Array Nat) : ∀ (k : Nat) (b : Array Nat), (List.replicate k a).foldl (· ++ ·) b = ⟨b.toList ++ (List.replicate k a.toList).flatten⟩
  | 0, b => by simp
  | k + 1, b => by
    rw [List.replicate_succ, List.foldl_cons, foldl_app a k]
    simp [List.replicate_succ]
theorem flat_one : ∀ k : Nat, (List.replicate k [92]).flatten = List.replicate k 92
  | 0 => rfl
  | k + 1 => by simp [List.replicate_succ, flat_one k]
theorem wd_of (k : Int) (x : Str) : Txt.mul (Str.ofString "\\") k ++ x = wd k.toNat x := by
  have e : Txt.mul (Str.ofString "\\") k = ⟨(List.replicate k.toNat 92).toArray⟩ := by
    unfold Txt.mul
    by_cases h1 : k < 1
    · rw [if_pos h1, show k.toNat = 0 by omega]; rfl
    · rw [if_neg h1]
      by_cases h2 : k = 1
      · subst h2; rfl
      · rw [if_neg (by simp only [Bool.or_eq_true, beq_iff_eq]; rintro (q | q); exact h2 q; exact absurd q (by decide))]
        rw [show (Str.ofString "\\").cps = #[92] from rfl, foldl_app]
        have := flat_one k.toNat
        simp only [List.nil_append]
        rw [this]
  rw [e]
  obtain ⟨⟨l⟩⟩ := x
  show Str.mk (_ ++ _) = Str.mk _
  simp
theorem wd_len (k : Nat) (x : Str) : (wd k x).length = k + x.length := by
  show (wd k x).cps.size = k + x.cps.size
  simp [wd]
noncomputable def moreI (n P : Int) : Int := sternI (n.fmod P)
noncomputable def wholeI (n P : Int) : Int := sternI (P - n.fmod P) + moreI n P
noncomputable def depthI (n P i : Int) : Int := n.fdiv P + ((i + 1) * moreI n P).fdiv (wholeI n P) - (i * moreI n P).fdiv (wholeI n P)
noncomputable def waitL (n P : Int) (x : Str) : List Str := (rangeKs 0 (wholeI n P).toNat).map fun i => wd (depthI n P i).toNat x
theorem depth_bnd {n P i : Int} (hn : 0 ≤ n) (hn2 : n ≤ 30) (hP1 : 1 ≤ P) (hP2 : P ≤ 16) (h0 : 0 ≤ i) (h1 : i < wholeI n P) : -200 ≤ depthI n P i ∧ depthI n P i ≤ 200 := by
  have f1 : 0 ≤ n.fmod P := Int.fmod_nonneg_of_pos _ (by omega)
  have f2 : n.fmod P < P := Int.fmod_lt_of_pos _ (by omega)
  have a := sternI_bnd f1 (by omega)
  have b := sternI_bnd (v := P - n.fmod P) (by omega) (by omega)
  have f3 : 0 ≤ n.fdiv P := Int.fdiv_nonneg (by omega) (by omega)
  have f4 : n.fdiv P ≤ 30 := by
    rw [Int.fdiv_eq_ediv_of_nonneg _ (by omega)]
    exact Int.le_trans (Int.ediv_le_self _ (by omega)) (by omega)
  have hm : moreI n P = sternI (n.fmod P) := rfl
  have hw : wholeI n P = sternI (P - n.fmod P) + moreI n P := rfl
  have key : ∀ j : Int, 0 ≤ j → j ≤ wholeI n P → 0 ≤ (j * moreI n P).fdiv (wholeI n P) ∧ (j * moreI n P).fdiv (wholeI n P) ≤ 100 := by
    intro j j0 j1
    have p0 : 0 ≤ j * moreI n P := Int.mul_nonneg j0 (by omega)
    have p1 : j * moreI n P ≤ wholeI n P * moreI n P := Int.mul_le_mul_of_nonneg_right j1 (by omega)
    refine ⟨Int.fdiv_nonneg p0 (by omega), ?_⟩
    rw [Int.fdiv_eq_ediv_of_nonneg _ (by omega)]
    refine Int.le_trans (Int.ediv_le_ediv (by omega) p1) ?_
    rw [Int.mul_ediv_cancel_left _ (by omega)]
    omega
  have k1 := key i h0 (by omega)
  have k2 := key (i + 1) (by omega) (by omega)
  unfold depthI
  omega
theorem add_w {prog : Program} {A : Around} {k : Int} {t u : Nat} {x : Str} {Q E : Value → Shared → Prop} {s : Shared} (hk : k ≤ 200) (hx : x.length ≤ 3) (h : ∀ t' tk, Q (.str (wd k.toNat x) t') { s with toks := tk }) :
    wpAny (model prog w) A (binaryOp .Add (.str (Txt.mul (Str.ofString "\\") k) t) (.str x u)) Q E s := by
  refine add_str (fun t' tk => ?_) ?_
  · rw [wd_of]; exact h t' tk
  · have := len_mul (Str.ofString "\\") k
    rw [show (Str.ofString "\\").length = 1 from rfl] at this
    rw [sizeLine_eq]
    split at this <;> omega
theorem off1_ne {D : Addr} : ∀ {l : List (Addr × Obj)}, Off1 D l → ∀ p ∈ l, p.1 ≠ D
  | [], _, _, h => nomatch h
  | _ :: _, x, p, h => by
    rcases List.mem_cons.mp h with rfl | h
    · exact x.1
    · exact off1_ne x.2 p h
theorem small_w {b : Int} (h0 : 0 ≤ b) (h1 : b ≤ 1000) : Builtin.Range.small 0 b 1 = true := by
  have e : ∀ n : _root_.Fin 1001, Builtin.Range.small 0 ((n : Nat) : Int) 1 = true := by decide +kernel
  have := e ⟨b.toNat, by omega⟩
  simpa [Int.toNat_of_nonneg h0] using this
theorem size_w {b : Int} (h0 : 0 ≤ b) : Builtin.Range.rangeSize 0 b 1 = (b.toNat : Int) := by
  unfold Builtin.Range.rangeSize
  rw [if_pos (by decide)]
  by_cases h : 0 < b
  · rw [if_pos h]; omega
  · rw [if_neg h]; omega
local macro_rules | `(tactic| walk_at "binaryOp Add str str") => `(tactic| (k_here; k_dflt (refine' add_w ?a ?b ?_; (case a => omega); (case b => assumption); k_whole); intro t' tk'))
local macro_rules | `(tactic| walk_at "eval ListComp") => `(tactic| (k_here; k_dflt (refine ListComp_Q (F₀ := by k_asm) (by with_unfolding_all rfl) (by decide) (by rfl) (by decide) (by rfl) ?_)))
local macro_rules | `(tactic| walk_at "binaryOp Mult str int") => `(tactic| (k_here; k_dflt (refine' SB.mul ?z ?_; (case z => exact mulOk_of 16 1048576 (by decide) (by omega) (by omega) (by decide) (by decide)); k_whole); intro t' tk'))
theorem waiting_K {n t u v : Nat} {k P : Int} {x : Str} (hn : n ≤ 30) (hx : x.length ≤ 3) (h0 : 0 ≤ k) (h4 : k ≤ 4) (hP : (2 : Int) ^ k.toNat = P)  (hP1 : 1 ≤ P) (hP2 : P ≤ 16)
  (B : Below A₀ base outer h₀) (F : Fr h₀ L s.heap m) (X : (Mine.topK w.params).In h₀) (N : News h₀ L s.heap news) (T : Top p loose mean mg mb h₀)
  (hroom : dp + 6 < recursionLimit) (hu : un + 100 < cLine) 
  (ret : ∀ h' tk' D vs, Fr h₀ L h' m → News h₀ L h' ((D, lst vs) :: news) → (∀ p ∈ news, p.1 ≠ D) → StrsAre vs (waitL n P x) → Q (.ref D) { s with heap := h', toks := tk' }) :
  wpAny (model PySem.Challenge.rw_re0120_01.row.prog w) (ktrTop dp un gd cn ⟨.function, nm, ig, ic, mo⟩ L a ccd cl outer) (call (.ref 151) [.int n t, .str x u, .int k v]) Q E s := by
  have f1 : 0 ≤ (n : Int).fmod P := Int.fmod_nonneg_of_pos _ (by omega)
  have f2 : (n : Int).fmod P < P := Int.fmod_lt_of_pos _ (by omega)
  have f3 : 0 ≤ (n : Int).fdiv P := Int.fdiv_nonneg (by omega) (by omega)
  have f4 : (n : Int).fdiv P ≤ 30 := by
    rw [Int.fdiv_eq_ediv_of_nonneg _ (by omega)]
    exact Int.le_trans (Int.ediv_le_self _ (by omega)) (by omega)
  revert X
  k_fill
  intro X
  refine wpAny_call ?_
  k_dflt k_enter
  k_steps
  have b1 := sternI_bnd f1 (by omega)
  have b2 := sternI_bnd (v := P - (n : Int).fmod P) (by omega) (by omega)
  have hw : sternI (P - (n : Int).fmod P) + sternI ((n : Int).fmod P) = wholeI n P := rfl
  have hm : sternI ((n : Int).fmod P) = moreI n P := rfl
  have hwN : ((wholeI n P).toNat : Int) = wholeI n P := Int.toNat_of_nonneg (by omega)
  unfold SrcQ
  k_dflt (refine CompSrc.range (n := (wholeI n P).toNat) rfl (by k_asm) (by k_asm) (by assumption) ?sm ?rn ?sz ?_)
  case sm => rw [hw]; exact small_w (by omega) (by omega)
  case rn => rw [hw]; exact size_w (by omega)
  case sz => rw [sizeLine_eq]; omega
  intro g'
  refine rest_R (fun i => wd (depthI n P i).toNat x) trivial ?turn ?fin
  case turn =>
    intro c u I oI C oC D m₂ ys h tk E' c0 c1 hC hx F N off ne QQ hret
    have hd := depth_bnd (n := n) (P := P) (i := c) (by omega) (by omega) hP1 hP2 c0 (by omega)
    unfold depthI moreI wholeI moreI at hd
    k_steps
    exact hret _ _ _ (by assumption) (by assumption)
  case fin =>
    intro ys hys D h2 tk2 F2 N2 o1
    have o2 := off1_ne o1
    k_steps
    refine ret _ _ _ _ (by assumption) (fun p hp => ?_) (fun p hp => o2 p (.tail _ (.tail _ (.tail _ (.tail _ (.tail _ hp)))))) hys
    rcases List.mem_cons.mp hp with rfl | hp
    · exact (by assumption : News h₀ L _ _) _ (.head _)
    · exact (by assumption : News h₀ L _ _) _ (.tail _ (.tail _ (.tail _ (.tail _ (.tail _ (.tail _ hp))))))
end
end
end
end
end
end
end
end
section
open PySem PySem.W PySem.Spec PySem.Calls PyProof.Rows
set_option maxRecDepth 100000
set_option maxHeartbeats 4000000
set_option linter.unusedVariables false
noncomputable abbrev NoE : Value → Shared → Prop := fun _ _ => False
section
variable {M : Model} {A : Around} {R : GenEnd} {Y : Protocol} {n : Nat} {s₀ : Shared} {c : Code} {fs : List Frame} {s : Shared} {env : Env}
  {K : Flow → Sem Fin} {H : Value → Sem Fin} {gd : Bool → Bool} {lv : List Value → List Value}
theorem seg_stmt {st : Stmt} (h : wpAny M (A.over c fs) (exec st env) (fun f s' => Seg M A R Y n s₀ c (K f) fs s') NoE s) : Seg M A R Y n s₀ c ((exec st env).wrap K H gd lv) fs s :=
  seg_wrap (wpAny_mono h (fun _ _ x => x) fun _ _ x => x.elim)
theorem seg_If {test : PySem.Expr} {body orelse : List Stmt} {pos : Pos}
    (h : wpAny M (A.over c fs) (isTrue test env (eval test env)) (fun b s' => Seg M A R Y n s₀ c ((execs (if b = true then body else orelse) env).wrap K H gd lv) fs s') NoE s) :
    Seg M A R Y n s₀ c ((exec (.If test body orelse pos) env).wrap K H gd lv) fs s := by
  rw [exec_If]
  refine seg_at ?_
  show Seg M A R Y n s₀ c ((isTrue test env (eval test env) >>= fun b => if b = true then execs body env else execs orelse env).wrap K H gd lv) fs s
  rw [Sem.bind_eq_wrap', Sem.wrap_wrap]
  refine seg_wrap (wpAny_mono h (fun b s' hb => ?_) fun _ _ x => x.elim)
  cases b with
  | true => exact hb
  | false => exact hb
end
section
variable {prog : Program} {w : World} {A : Around} {R : GenEnd} {Y : Protocol} {n : Nat} {s₀ : Shared} {c : Code} {fs : List Frame} {s : Shared} {env : Env}
  {K : Flow → Sem Fin} {H : Value → Sem Fin} {gd : Bool → Bool} {lv : List Value → List Value}
noncomputable abbrev loopK (target : PySem.Expr) (it : Value) (body : List Stmt) (env : Env) : Flow → Sem Fin := fun f => match f with
  | .next | .cont => .pure (.again (.forLoop target it body [] env))
  | .brk => .pure (.done .next)
  | .ret v => .pure (.done (.ret v))
noncomputable abbrev loopH (env : Env) : Value → Sem Fin := fun e => (do noteFrame e env; theTreesLotGoes e : Sem Unit).wrap (fun _ => .raise e) .raise id id
theorem seg_forLoop {target : PySem.Expr} {it : Value} {body : List Stmt}
    (h : wpAny (model prog w) (A.over (.forLoop target it body [] env) fs) (pyNext it) (fun r s₁ => match r with
      | none => Seg (model prog w) A R Y n s₀ (.forLoop target it body [] env) (.pure (.again (.block [] env))) fs s₁
      | some v => wpAny (model prog w) (A.over (.forLoop target it body [] env) fs) (letOwnedTupleGo target it v) (fun _ s₁' =>
          wpAny (model prog w) (A.over (.forLoop target it body [] env) fs) (assign target env v) (fun _ s₂ =>
            Seg (model prog w) A R Y n s₀ (.forLoop target it body [] env) ((execs body env).wrap (loopK target it body env) (loopH env) id id) fs s₂) NoE s₁') NoE s₁) NoE s) :
    Seg (model prog w) A R Y n s₀ (.forLoop target it body [] env) ((model prog w).den (.forLoop target it body [] env)) fs s := by
  show Seg _ A R Y n s₀ _ ((forTurn target it body [] env).onRaise (fun x => do noteFrame x env; theTreesLotGoes x)) fs s
  unfold forTurn
  rw [Sem.onRaise_eq_wrap]
  refine seg_at ?_
  show Seg _ A R Y n s₀ _ ((((pyNext it).onRaise (fun _ => standAt { target.pos with line := 0 })) >>= _).wrap _ _ _ _) fs s
  rw [Sem.bind_eq_wrap', Sem.wrap_wrap]
  refine seg_wrap (wpAny_mono (wpAny_onRaise (E := fun x s' => Seg (model prog w) A R Y n s₀ (.forLoop target it body [] env) _ fs s') (wpAny_mono h (Q' := fun r s₁ => _) (fun _ _ x => x) fun _ _ x => x.elim)) (fun r s₁ h₁ => ?_) fun _ _ x => x)
  cases r with
  | none => exact h₁
  | some v =>
    show Seg _ A R Y n s₀ _ ((letOwnedTupleGo target it v >>= fun _ => assign target env v >>= fun _ => execs body env >>= fun f => _).wrap _ _ _ _) fs s₁
    rw [Sem.bind_eq_wrap', Sem.wrap_wrap]
    refine seg_wrap (wpAny_mono h₁ (fun _ s₂ h₂ => ?_) fun _ _ x => x.elim)
    show Seg _ A R Y n s₀ _ ((assign target env v >>= fun _ => execs body env >>= fun f => _).wrap _ _ _ _) fs s₂
    rw [Sem.bind_eq_wrap', Sem.wrap_wrap]
    refine seg_wrap (wpAny_mono h₂ (fun _ s₃ h₃ => ?_) fun _ _ x => x.elim)
    show Seg _ A R Y n s₀ _ ((execs body env >>= fun f => _).wrap _ _ _ _) fs s₃
    rw [Sem.bind_eq_wrap', Sem.wrap_wrap]
    rw [Sem.wrap_congr (execs body env) _ _ (K' := loopK target it body env) (H' := loopH env) (fun f => by cases f <;> rfl)
      (fun e => by first | exact Sem.bind_eq_wrap _ _ | (show (do noteFrame e env; theTreesLotGoes e : Sem Unit).bind (fun _ => .raise e) = _; rw [Sem.bind_eq_wrap]))]
    exact h₃
end
end
section
open PySem PySem.W PySem.Spec PySem.Calls PyProof.Rows
set_option maxRecDepth 100000
set_option maxHeartbeats 4000000
set_option linter.unusedVariables false
section
variable {prog : Program} {w : World} {A : Around} {R : GenEnd} {Y : Protocol} {n : Nat} {s₀ : Shared} {c : Code} {fs : List Frame} {s : Shared} {env : Env}
  {K : Flow → Sem Fin} {H : Value → Sem Fin} {gd : Bool → Bool} {lv : List Value → List Value}
noncomputable abbrev forFrame (K : Flow → Sem Fin) (H : Value → Sem Fin) (gd : Bool → Bool) (lv : List Value → List Value) (env : Env) (c : Code) (p : Pos) : Frame :=
  .ret (fun r => ((match r with | .ok f => (.pure f : Sem Flow) | .error e => .raise e).onRaise fun (x : Value) => do
        if (← field x 1) == Value.none then unsupported "frame.own-activation:exception-without-traceback"
        setFlight x env.frame).wrap K H gd lv) none (gd false) (lv []) c p []
theorem seg_For {target iter : PySem.Expr} {body : List Stmt} {pos : Pos}
    (h : wpAny (model prog w) (A.over c fs) (eval iter env) (fun x s₁ => wpAny (model prog w) (A.over c fs) (pyIter x) (fun it s₂ => ∀ p,
      Seg (model prog w) A R Y n s₀ (.forLoop target it body [] env) ((model prog w).den (.forLoop target it body [] env)) (forFrame K H gd lv env c p :: fs) s₂) NoE s₁) NoE s)
    (hs : ∀ x, foldedSetIterable iter env x = pure x := by intro _; rfl) :
    Seg (model prog w) A R Y n s₀ c ((exec (.For target iter body [] pos) env).wrap K H gd lv) fs s := by
  rw [exec_For]
  refine seg_at ?_
  show Seg _ A R Y n s₀ c ((eval iter env >>= fun x => foldedSetIterable iter env x >>= fun x => standAt iter.pos >>= fun _ => holding [x] (pyIter x) >>= fun it => runOwn (.forLoop target it body [] env) env).wrap K H gd lv) fs s
  rw [Sem.bind_eq_wrap', Sem.wrap_wrap]
  refine seg_wrap (wpAny_mono h (fun x s₁ h₁ => ?_) fun _ _ x => x.elim)
  show Seg _ A R Y n s₀ c ((foldedSetIterable iter env x >>= fun x => standAt iter.pos >>= fun _ => holding [x] (pyIter x) >>= fun it => runOwn (.forLoop target it body [] env) env).wrap K H gd lv) fs s₁
  rw [hs x]
  show Seg _ A R Y n s₀ c (.at iter.pos fun _ => ((holding [x] (pyIter x) >>= fun it => runOwn (.forLoop target it body [] env) env).wrap K H gd lv)) fs s₁
  refine seg_at ?_
  rw [Sem.bind_eq_wrap', Sem.wrap_wrap]
  refine seg_wrap (wpAny_mono (wpAny_holding h₁) (fun it s₂ h₂ => ?_) fun _ _ x => x.elim)
  exact seg_call fun p => h₂ p
end
noncomputable def giDef : Stmt := topSt 3
noncomputable abbrev giScope : Scope := by
  refine (fun (_ : defScope giDef = ?l) => ?l) ?h
  case h => (conv => lhs; whnf)
noncomputable abbrev giBody : List Stmt := by
  refine (fun (_ : defBody giDef = ?l) => ?l) ?h
  case h => (conv => lhs; whnf)
noncomputable abbrev giFBody : List Stmt := by
  refine (fun (_ : forBody (stAt (defBody giDef) 2) = ?l) => ?l) ?h
  case h => (conv => lhs; whnf)
noncomputable abbrev giTgt : PySem.Expr := by
  refine (fun (_ : forTarget (stAt (defBody giDef) 2) = ?l) => ?l) ?h
  case h => (conv => lhs; whnf)
noncomputable abbrev giLast : Stmt := by
  refine (fun (_ : stAt (defBody giDef) 3 = ?l) => ?l) ?h
  case h => (conv => lhs; whnf)
noncomputable abbrev giEnv (L' : Addr) : Env := envOf (Str.ofString "_iter_escaped_chars") giScope L' 63 (.ref 62)
end
section
open PySem PySem.W PySem.Spec PySem.Calls PyProof.Rows
set_option maxRecDepth 100000
set_option maxHeartbeats 4000000
set_option linter.unusedVariables false
/-- the units that _iter_escaped_chars tells: their places and texts -/
noncomputable def unitsG : Bool → Nat → List Nat → List (Int × Str)
  | _, _, [] => []
  | true, i, c :: l => ((i : Int), ⟨#[92, c]⟩) :: unitsG false (i + 1) l
  | false, i, c :: l => if c = 92 then unitsG true (i + 1) l else ((i : Int), ⟨#[c]⟩) :: unitsG false (i + 1) l
noncomputable def escEnd : Bool → List Nat → Bool
  | b, [] => b
  | true, _ :: l => escEnd false l
  | false, c :: l => if c = 92 then escEnd true l else escEnd false l
noncomputable def Since (own : List Addr) (s₀ s : Shared) : Prop := ∃ h tk, s = { s₀ with heap := h, toks := tk } ∧ ∀ b o, b ∉ own → s₀.heap.get? b = some o → h.get? b = some o
theorem Since.refl (own : List Addr) (s : Shared) : Since own s s := ⟨s.heap, s.toks, rfl, fun _ _ _ e => e⟩
theorem Since.step {own : List Addr} {s₀ s : Shared} (x : Since own s₀ s) {h' : Heap} {tk : Nat} (hk : ∀ b o, b ∉ own → s.heap.get? b = some o → h'.get? b = some o) : Since own s₀ { s with heap := h', toks := tk } := by
  obtain ⟨h, t, rfl, k⟩ := x
  exact ⟨h', tk, rfl, fun b o hb e => hk b o hb (k b o hb e)⟩
noncomputable def giR (own : List Addr) : GenEnd := fun n s₀ r s₁ => r = .ok (.ret .none) ∧ (n = 0 ∧ Since own s₀ s₁)
noncomputable def giY (own : List Addr) (U : List (Int × Str)) : Protocol := fun m s₀ v s kap =>
  (∃ u D t1 t2, U[U.length - 1 - m]? = some u ∧ v = .ref D ∧ s.heap.IsTuple D #[.int u.1 t1, .str u.2 t2] ∧ s₀.heap.get? D = none) ∧ Since own s₀ s ∧ ∀ s'', (∀ b ∈ own, ∀ o, s.heap.get? b = some o → s''.heap.get? b = some o) → kap (.send .none) s''
section
variable {prog : Program} {w : World} {A : Around} {s : Shared} {L e it : Addr} {m : Str → Option Value}
noncomputable def GS (x : Str) (t : Tok) (L e it : Addr) (b : Bool) (i : Nat) (h : Heap) : Prop :=
  (∃ m, h.Ns L m ∧ m (Str.ofString "escape") = some (.bool b)) ∧ (∃ old, IsEnum h e it i old) ∧ h.IsStrIter it "str_ascii_iterator" x t i
noncomputable def GS2 (x : Str) (t : Tok) (L e it : Addr) (b : Bool) (i : Nat) (c : Nat) (j : Int) (h : Heap) : Prop :=
  (∃ m, h.Ns L m ∧ m (Str.ofString "escape") = some (.bool b) ∧ (∃ u, m (Str.ofString "ch") = some (.str ⟨#[c]⟩ u)) ∧ ∃ u, m (Str.ofString "pos") = some (.int j u)) ∧ (∃ old, IsEnum h e it i old) ∧ h.IsStrIter it "str_ascii_iterator" x t i
theorem GS2.up {x : Str} {t : Tok} {b : Bool} {i c : Nat} {j : Int} {h h' : Heap} (g : GS2 x t L e it b i c j h) (k : ∀ a ∈ [L, e, it], ∀ o, h.get? a = some o → h'.get? a = some o) : GS2 x t L e it b i c j h' := by
  obtain ⟨⟨m, n, r⟩, ⟨old, he⟩, o, ho, r2⟩ := g
  exact ⟨⟨m, n.at' fun o e => k L (by simp) o e, r⟩, ⟨old, k e (by simp) _ he⟩, o, k it (by simp) _ ho, r2⟩
theorem GS.up {x : Str} {t : Tok} {b : Bool} {i : Nat} {h h' : Heap} (g : GS x t L e it b i h) (k : ∀ a ∈ [L, e, it], ∀ o, h.get? a = some o → h'.get? a = some o) : GS x t L e it b i h' := by
  obtain ⟨⟨m, n, r⟩, ⟨old, he⟩, o, ho, r2⟩ := g
  exact ⟨⟨m, n.at' fun o e => k L (by simp) o e, r⟩, ⟨old, k e (by simp) _ he⟩, o, k it (by simp) _ ho, r2⟩
theorem GS2.gs {x : Str} {t : Tok} {b : Bool} {i c : Nat} {j : Int} {h : Heap} (g : GS2 x t L e it b i c j h) : GS x t L e it b i h := by
  obtain ⟨⟨m, n, r, _⟩, r1, r2⟩ := g
  exact ⟨⟨m, n, r⟩, r1, r2⟩
theorem gi_name {y : Str} {pos : Pos} {v : Value} {Q : Value → Shared → Prop} {E : Value → Shared → Prop} (hl : (giEnv L).kindOf y = some .local) (hd : (y == ("__debug__" : Str)) = false) (hn : s.heap.Ns L m) (hv : m y = some v) (h : Q v s) :
    wpAny (model prog w) A (eval (.Name y pos) (giEnv L)) Q E s := by
  rw [eval_Name _ _ _ hd]
  exact wpAny_bind (wpAny_standAt (wpAny_loadName_local rfl hl hn hv h))
theorem gi_escape {x : Str} {t : Tok} {b : Bool} {i c : Nat} {j : Int} {pos : Pos} {Q : Bool → Shared → Prop} {E : Value → Shared → Prop} (g : GS x t L e it b i s.heap) (h : Q b s) :
    wpAny (model prog w) A (isTrue (.Name (Str.ofString "escape") pos) (giEnv L) (eval (.Name (Str.ofString "escape") pos) (giEnv L))) Q E s := by
  obtain ⟨⟨m, n, hm⟩, _⟩ := g
  exact wpAny_isTrue_value (gi_name rfl (by decide) n hm (wpAny_truthy_bool h))
theorem gi_isbs {x : Str} {t : Tok} {b : Bool} {i c : Nat} {j : Int} {p1 p2 p3 : Pos} {k : Nat} {whole : Sem Value} {Q : Bool → Shared → Prop} {E : Value → Shared → Prop} (g : GS2 x t L e it b i c j s.heap) (h : ∀ tk, Q (decide (c = 92)) { s with toks := tk }) :
    wpAny (model prog w) A (isTrue (.Compare (.Name (Str.ofString "ch") p1) [.Eq] [.Constant (.str (Str.ofString "\\")) k p2] p3) (giEnv L) whole) Q E s := by
  obtain ⟨⟨m, n, _, ⟨u, hm⟩, _⟩, _⟩ := g
  refine wpAny_isTrue_Compare1 (gi_name rfl (by decide) n hm (wpAny_Constant_str (PyProof.Rows.eq_str ?_)))
  have e : ((⟨#[c]⟩ : Str) == Str.ofString "\\") = decide (c = 92) := by
    rw [Bool.eq_iff_iff, beq_iff_eq, decide_eq_true_eq]
    constructor
    · intro q
      have := congrArg (fun z : Str => z.cps.toList) q
      have e2 : (Str.ofString "\\").cps.toList = [92] := rfl
      rw [e2] at this
      simpa using this
    · rintro rfl; rfl
  rw [e]
  exact wpAny_truthy_bool (h _)
theorem gi_set {x : Str} {t : Tok} {b b' : Bool} {i : Nat} {p1 p2 p3 : Pos} {k : Nat} {Q : Flow → Shared → Prop} {E : Value → Shared → Prop} (g : GS x t L e it b i s.heap) (heL : e ≠ L) (hiL : it ≠ L)
    (h : ∀ h' tk, GS x t L e it b' i h' → (∀ a o, a ∉ [L, e, it] → s.heap.get? a = some o → h'.get? a = some o) → Q .next { s with heap := h', toks := tk }) :
    wpAny (model prog w) A (exec (.Assign [.Name (Str.ofString "escape") p1] (.Constant (.bool b') k p2) p3) (giEnv L)) Q E s := by
  obtain ⟨⟨m, n, hm⟩, ⟨old, he⟩, o, ho, r2⟩ := g
  refine wpAny_Assign_Name (wpAny_Constant_bool (wpAny_storeName_local rfl n fun h' n' sb => ?_))
  have sb' : Heap.SameBut L s.heap h' := sb
  exact h _ _ ⟨⟨_, n', by simp⟩, ⟨old, sb'.extBut e _ heL he⟩, o, sb'.extBut it _ hiL ho, r2⟩ fun a o ha q => sb'.extBut a o (fun z => ha (by simp [z])) q
/-- a pair is made -/
theorem gi_tup2 {x : Str} {t : Tok} {b : Bool} {i c : Nat} {j : Int} {p1 p2 p3 p4 p5 : Pos} {k k' : Nat} {Q : Value → Shared → Prop} {E : Value → Shared → Prop} (g : GS2 x t L e it b i c j s.heap)
    (h : ∀ D h' tk t1 t2, h'.IsTuple D #[.int j t1, .str ⟨#[92, c]⟩ t2] → s.heap.get? D = none → (∀ a o, s.heap.get? a = some o → h'.get? a = some o) → Q (.ref D) { s with heap := h', toks := tk }) :
    wpAny (model prog w) A (eval (.Tuple [.Name (Str.ofString "pos") p1, .BinOp (.Constant (.str (Str.ofString "\\")) k p2) .Add (.Name (Str.ofString "ch") p3) p4] k' p5) (giEnv L)) Q E s := by
  obtain ⟨⟨m, n, _, ⟨u, hm⟩, u', hp⟩, _⟩ := g
  refine wpAny_Tuple ?_
  show wpAny _ _ (spliced [(false, eval (.Name (Str.ofString "pos") p1) (giEnv L)), (false, eval (.BinOp (.Constant (.str (Str.ofString "\\")) k p2) .Add (.Name (Str.ofString "ch") p3) p4) (giEnv L))]) _ _ _
  refine spliced_cons (gi_name rfl (by decide) n hp (spliced_cons ?_))
  refine wpAny_BinOp (wpAny_Constant_str (gi_name rfl (by decide) n hm (PyProof.Rows.add_str (fun t' tk => ?_) ?_)))
  · refine wpAny_pure ⟨by rw [sizeLine_eq]; exact Nat.le_of_ble_eq_true rfl, ?_⟩
    refine h _ _ _ _ _ ⟨_, Heap.get?_push_size _ rfl, rfl, _, rfl⟩ ?_ fun a o e => Heap.get?_push_of_some _ e
    cases q : s.heap.get? s.heap.objs.size with
    | none => rfl
    | some o => exact absurd (Heap.lt_size q) (Nat.lt_irrefl _)
  · rw [sizeLine_eq]; exact Nat.le_of_ble_eq_true rfl
theorem gi_tup1 {x : Str} {t : Tok} {b : Bool} {i c : Nat} {j : Int} {p1 p3 p5 : Pos} {k' : Nat} {Q : Value → Shared → Prop} {E : Value → Shared → Prop} (g : GS2 x t L e it b i c j s.heap)
    (h : ∀ D h' tk t1 t2, h'.IsTuple D #[.int j t1, .str ⟨#[c]⟩ t2] → s.heap.get? D = none → (∀ a o, s.heap.get? a = some o → h'.get? a = some o) → Q (.ref D) { s with heap := h', toks := tk }) :
    wpAny (model prog w) A (eval (.Tuple [.Name (Str.ofString "pos") p1, .Name (Str.ofString "ch") p3] k' p5) (giEnv L)) Q E s := by
  obtain ⟨⟨m, n, _, ⟨u, hm⟩, u', hp⟩, _⟩ := g
  refine wpAny_Tuple ?_
  show wpAny _ _ (spliced [(false, eval (.Name (Str.ofString "pos") p1) (giEnv L)), (false, eval (.Name (Str.ofString "ch") p3) (giEnv L))]) _ _ _
  refine spliced_cons (gi_name rfl (by decide) n hp (spliced_cons (gi_name rfl (by decide) n hm ?_)))
  refine wpAny_pure ⟨by rw [sizeLine_eq]; exact Nat.le_of_ble_eq_true rfl, ?_⟩
  refine h _ _ _ _ _ ⟨_, Heap.get?_push_size _ rfl, rfl, _, rfl⟩ ?_ fun a o e => Heap.get?_push_of_some _ e
  cases q : s.heap.get? s.heap.objs.size with
  | none => rfl
  | some o => exact absurd (Heap.lt_size q) (Nat.lt_irrefl _)
end
end
section
open PySem PySem.W PySem.Spec PySem.Calls PyProof.Rows
set_option maxRecDepth 100000
set_option maxHeartbeats 4000000
set_option linter.unusedVariables false
theorem since_fresh {x : Str} {t : Tok} {L e it D : Addr} {b : Bool} {i c : Nat} {j : Int} {s₀ s : Shared} (hs : Since [L, e, it] s₀ s) (g : GS2 x t L e it b i c j s.heap) (hD : s.heap.get? D = none) : s₀.heap.get? D = none := by
  cases q : s₀.heap.get? D with
  | none => rfl
  | some o =>
    exfalso
    obtain ⟨⟨m, n, _⟩, ⟨old, he⟩, o', ho, r⟩ := g
    by_cases hL : D ∈ [L, e, it]
    · simp only [List.mem_cons, List.not_mem_nil, or_false] at hL
      rcases hL with rfl | rfl | rfl
      · obtain ⟨o2, _, _, h2, _⟩ := n
        rw [hD] at h2; cases h2
      · have he' : s.heap.get? D = some _ := he
        rw [hD] at he'; cases he'
      · rw [hD] at ho; cases ho
    · obtain ⟨h, tk, rfl, k⟩ := hs
      have := k D o hL q
      rw [show h.get? D = none from hD] at this
      cases this
theorem drop_step {α : Type} {U : List α} {u : α} {r : List α} (h : U.drop (U.length - (u :: r).length) = u :: r) : U[U.length - 1 - r.length]? = some u ∧ U.drop (U.length - r.length) = r := by
  have l := congrArg List.length h
  simp only [List.length_drop, List.length_cons] at l h
  constructor
  · have := congrArg (fun z => z[0]?) h
    rw [show U.length - 1 - r.length = U.length - (r.length + 1) by omega]
    simpa using this
  · have := congrArg (List.drop 1) h
    rw [List.drop_drop] at this
    rw [show U.length - r.length = U.length - (r.length + 1) + 1 by omega]
    simpa using this
section
variable {prog : Program} {w : World} {A : Around} {L e it : Addr} {x : Str} {t : Tok} {fs : List Frame} {U : List (Int × Str)}
noncomputable abbrev giLoop (e L : Addr) : Code := .forLoop giTgt (.ref e) giFBody [] (giEnv L)
theorem gi_loop (hA : ∀ c, (A.over c fs).handled = none) (hfs : splitAtGen fs = none) (hfg : fs.any Frame.guarded = false) (hx : x.cps.all (· < 128) = true) (heL : e ≠ L) (hiL : it ≠ L) (hei : e ≠ it)
    (fin : ∀ s₀ s, Since [L, e, it] s₀ s → (∃ m, s.heap.Ns L m ∧ m (Str.ofString "escape") = some (.bool false)) → Seg (model prog w) A (giR [L, e, it]) (giY [L, e, it] U) 0 s₀ (.block [] (giEnv L)) (.pure (.done .next)) fs s) :
    ∀ (l : List Nat) (i : Nat) (b : Bool), x.cps.toList.drop i = l → i + l.length = x.cps.size → escEnd b l = false → U.drop (U.length - (unitsG b i l).length) = unitsG b i l → ∀ (s₀ s : Shared), Since [L, e, it] s₀ s → GS x t L e it b i s.heap →
      Seg (model prog w) A (giR [L, e, it]) (giY [L, e, it] U) (unitsG b i l).length s₀ (giLoop e L) ((model prog w).den (giLoop e L)) fs s := by
  have D := Draws.strAscii (prog := prog) (w := w) (A := (A.over (giLoop e L) fs).in1) (by show (A.over (giLoop e L) fs).handled = none; exact hA _) it x t
  have W := WalksT.enumerateD (A := A.over (giLoop e L) fs) D e hei (by simpa using hei) (by simp)
  intro l
  induction l with
  | nil =>
    intro i b hl hz hb hU s₀ s hs g
    have hi : i = x.cps.size := by simpa using hz
    cases b with
    | true => cases hb
    | false =>
    show Seg _ _ _ _ 0 _ _ _ _ _
    refine seg_forLoop (W.done _ _ _ ⟨hi ▸ g.2.1, hi ▸ g.2.2⟩ fun h' tk hk => ?_)
    refine seg_again rfl ?_
    have hs' : Since [L, e, it] s₀ { s with heap := h', toks := tk } := hs.step fun a o ha q => hk a o (by simp only [List.mem_cons, List.not_mem_nil, or_false, not_or] at ha ⊢; exact ⟨ha.2.1, ha.2.2⟩) q
    refine fin _ _ hs' ?_
    obtain ⟨⟨m, n, hm⟩, _⟩ := g
    exact ⟨m, n.at' fun o q => hk L o (by simp only [List.mem_cons, List.not_mem_nil, or_false, not_or]; exact ⟨Ne.symm heL, Ne.symm hiL⟩) q, hm⟩
  | cons c l ih =>
    intro i b hl hz hb hU s₀ s hs g
    have hc : x.cps[i]? = some c := by
      have := congrArg (fun z => z[0]?) hl
      simpa using this
    have hi : i < x.cps.size := by
      rw [Array.getElem?_eq_some_iff] at hc
      exact hc.1
    have hl' : x.cps.toList.drop (i + 1) = l := by
      have := congrArg (List.drop 1) hl
      simpa [List.drop_drop] using this
    refine seg_forLoop (W.item i s _ _ hi ⟨g.2.1, g.2.2⟩ fun T vals h₁ tk₁ hv hT hTup hM hk₁ => ?_)
    obtain ⟨tv, y, ⟨c', u, hc', rfl⟩, rfl⟩ := hv
    rw [hc] at hc'
    cases hc'
    have hTw := W.apart _ _ _ hM
    refine W.go _ _ _ i T _ _ _ hM fun h₂ st₂ hk₂ => ?_
    have hT2 : h₂.IsTuple T #[.int (i : Int) tv, .str ⟨#[c]⟩ u] := by
      obtain ⟨o, ho, r⟩ := hTup
      exact ⟨o, hk₂ _ _ hTw ho, r⟩
    refine wpAny_assign_Tuple (hA _) hT2 rfl rfl fun h₃ hx₃ => ?_
    have hx₃' : Heap.ExtBut h₂.objs.size h₂ h₃ := hx₃
    have up3 : ∀ a o, a ∉ [e, it] → s.heap.get? a = some o → h₃.get? a = some o := fun a o ha q => by
      have q2 := hk₂ a o ha (hk₁ a o ha q)
      exact hx₃' a o (Nat.ne_of_lt (Heap.lt_size q2)) q2
    have up23 : ∀ a o, h₂.get? a = some o → h₃.get? a = some o := fun a o q => hx₃' a o (Nat.ne_of_lt (Heap.lt_size q)) q
    obtain ⟨⟨m, n, hm⟩, _⟩ := g
    have hLn : L ∉ [e, it] := by simp only [List.mem_cons, List.not_mem_nil, or_false, not_or]; exact ⟨Ne.symm heL, Ne.symm hiL⟩
    have n3 : h₃.Ns L m := n.at' fun o q => up3 L o hLn q
    show wpAny _ _ (do holding [Value.str ⟨#[c]⟩ u] (assign (.Name (Str.ofString "pos") _) (giEnv L) (.int i tv)); do holding [] (assign (.Name (Str.ofString "ch") _) (giEnv L) (.str ⟨#[c]⟩ u)); pure ()) _ _ _
    refine wpAny_bind (wpAny_holding (wpAny_assign_Name (wpAny_storeName_local rfl n3 fun h₄ n4 hs₄ => ?_)))
    replace hs₄ : Heap.SameBut L h₃ h₄ := hs₄
    refine wpAny_bind (wpAny_holding (wpAny_assign_Name (wpAny_storeName_local rfl n4 fun h₅ n5 hs₅ => wpAny_pure ?_)))
    replace hs₅ : Heap.SameBut L h₄ h₅ := hs₅
    have up5 : ∀ a o, a ∉ [L, e, it] → s.heap.get? a = some o → h₅.get? a = some o := fun a o ha q => by
      simp only [List.mem_cons, List.not_mem_nil, or_false, not_or] at ha
      exact hs₅.extBut a o ha.1 (hs₄.extBut a o ha.1 (up3 a o (by simp only [List.mem_cons, List.not_mem_nil, or_false, not_or]; exact ⟨ha.2.1, ha.2.2⟩) q))
    have g2 : GS2 x t L e it b (i + 1) c (i : Int) h₅ := by
      obtain ⟨⟨old, he⟩, o, ho, r⟩ := st₂
      exact ⟨⟨_, n5, by rw [if_neg (by decide), if_neg (by decide)]; exact hm, ⟨u, if_pos rfl⟩, ⟨tv, by rw [if_neg (by decide), if_pos rfl]⟩⟩, ⟨old, hs₅.extBut e _ heL (hs₄.extBut e _ heL (up23 e _ he))⟩, o, hs₅.extBut it _ hiL (hs₄.extBut it _ hiL (up23 it _ ho)), r⟩
    have since5 : ∀ tk, Since [L, e, it] s₀ { s with heap := h₅, toks := tk } := fun tk => hs.step up5
    have again : ∀ (b' : Bool) (s₀' s' : Shared), escEnd b' l = false → U.drop (U.length - (unitsG b' (i + 1) l).length) = unitsG b' (i + 1) l → Since [L, e, it] s₀' s' → GS x t L e it b' (i + 1) s'.heap →
        Seg (model prog w) A (giR [L, e, it]) (giY [L, e, it] U) (unitsG b' (i + 1) l).length s₀' (giLoop e L) (.pure (.again (giLoop e L))) fs s' :=
      fun b' s₀' s' h1 h2 h3 h4 => seg_again rfl (ih (i + 1) b' hl' (by simp only [List.length_cons] at hz; omega) h1 h2 s₀' s' h3 h4)
    refine seg_execs_cons (seg_If (gi_escape (c := c) (j := i) g2.gs ?_))
    cases b with
    | true =>
      rw [if_pos rfl]
      have eU : unitsG true i (c :: l) = ((i : Int), (⟨#[92, c]⟩ : Str)) :: unitsG false (i + 1) l := rfl
      rw [eU] at hU ⊢
      obtain ⟨uh, ut⟩ := drop_step hU
      refine seg_execs_cons (seg_Expr_Yield hfs rfl hfg (gi_tup2 g2 fun D h' tk t1 t2 hT hD hk => fun kap hkap => ⟨⟨_, D, t1, t2, uh, rfl, hT, ?_⟩, ?_, fun s'' hs'' => hkap .none s'' ?_⟩))
      · exact since_fresh (since5 0) g2 hD
      · exact (since5 _).step fun a o ha q => hk a o q
      · have g3 : GS2 x t L e it true (i + 1) c (i : Int) s''.heap := (g2.up (h' := h') fun a ha o q => hk a o q).up hs''
        exact seg_execs_cons (seg_stmt (gi_set g3.gs heL hiL fun h'' tk'' g4 hk'' => again false _ _ (by simpa [escEnd] using hb) ut ((Since.refl _ _).step hk'') g4))
    | false =>
      rw [if_neg Bool.false_ne_true]
      refine seg_execs_cons (seg_If (gi_isbs g2 fun tk => ?_))
      by_cases q : c = 92
      · rw [decide_eq_true q, if_pos rfl]
        have eU : unitsG false i (c :: l) = unitsG true (i + 1) l := if_pos q
        rw [eU] at hU ⊢
        have hb' : escEnd true l = false := by simpa [escEnd, q] using hb
        exact seg_execs_cons (seg_stmt (gi_set g2.gs heL hiL fun h'' tk'' g4 hk'' => again true _ _ hb' hU ((since5 _).step hk'') g4))
      · rw [decide_eq_false q, if_neg Bool.false_ne_true]
        have eU : unitsG false i (c :: l) = ((i : Int), (⟨#[c]⟩ : Str)) :: unitsG false (i + 1) l := if_neg q
        rw [eU] at hU ⊢
        have hb' : escEnd false l = false := by simpa [escEnd, q] using hb
        obtain ⟨uh, ut⟩ := drop_step hU
        refine seg_execs_cons (seg_Expr_Yield hfs rfl hfg (gi_tup1 g2 fun D h' tk t1 t2 hT hD hk => fun kap hkap => ⟨⟨_, D, t1, t2, uh, rfl, hT, ?_⟩, ?_, fun s'' hs'' => hkap .none s'' ?_⟩))
        · exact since_fresh (since5 0) g2 hD
        · exact (since5 _).step fun a o ha q => hk a o q
        · have g3 : GS2 x t L e it false (i + 1) c (i : Int) s''.heap := (g2.up (h' := h') fun a ha o q => hk a o q).up hs''
          exact again false _ _ hb' ut (Since.refl _ _) g3.gs
end
end
section
open PySem PySem.W PySem.Spec PySem.Calls PyProof.Rows
set_option maxRecDepth 100000
set_option maxHeartbeats 4000000
set_option linter.unusedVariables false
section
variable {w : World} {A : Around} {h₀ : Heap} {L : Addr} {m : Str → Option Value} {s : Shared} {p : Program} {loose : List Str} {mean : ExcName → Option Value} {mg mb : Str → Option Value}
theorem gi_enum {x : Str} {t : Tok} {p1 p2 p3 : Pos} {Q : Value → Shared → Prop} {E : Value → Shared → Prop} (F : Fr h₀ L s.heap m) (X : (Mine.topK w.params).In h₀) (T : Top p loose mean mg mb h₀) (hm : m (Str.ofString "addr") = some (.str x t))
    (h : wpAny (model PySem.Challenge.rw_re0120_01.row.prog w) A (call (.type "enumerate") [.str x t]) Q E s) :
    wpAny (model PySem.Challenge.rw_re0120_01.row.prog w) A (eval (.Call (.Name (Str.ofString "enumerate") p1) [.Name (Str.ofString "addr") p2] [] p3) (giEnv L)) Q E s := by
  refine Call_Name1 ?_
  refine name_B F X (topRead_of T) (by kernel_rfl) boot_enumerate (by decide) ?_
  exact PyProof.Rows.callWith_type rfl (Calls.evalArgs_plain (Calls.spliced_cons (gi_name rfl (by decide) F.ns hm (Calls.spliced_nil h))))
theorem gi_start {x : Str} {t : Tok} (hA : A.handled = none) (hx : x.cps.all (· < 128) = true) (hend : escEnd false x.cps.toList = false)
    (F : Fr h₀ L s.heap m) (X : (Mine.topK w.params).In h₀) (T : Top p loose mean mg mb h₀) (hm : m (Str.ofString "addr") = some (.str x t)) :
    Seg (model PySem.Challenge.rw_re0120_01.row.prog w) A (giR [L, s.heap.objs.size + 1, s.heap.objs.size]) (giY [L, s.heap.objs.size + 1, s.heap.objs.size] (unitsG false 0 x.cps.toList)) (unitsG false 0 x.cps.toList).length s
      (.func giBody (giEnv L)) ((model PySem.Challenge.rw_re0120_01.row.prog w).den (.func giBody (giEnv L))) [] s := by
  refine seg_func (seg_execs_cons (seg_stmt ?_))
  have hLs : L < s.heap.objs.size := F.ns.lt
  refine wpAny_Assign_Name (wpAny_Constant_int (wpAny_storeName_local rfl F.ns fun h1 n1 sb1 => ?_))
  replace sb1 : Heap.SameBut L s.heap h1 := sb1
  refine seg_execs_cons (seg_stmt ?_)
  refine wpAny_Assign_Name (wpAny_Constant_bool (wpAny_storeName_local rfl n1 fun h2 n2 sb2 => ?_))
  replace sb2 : Heap.SameBut L h1 h2 := sb2
  have hL0 : h₀.get? L = none := Heap.get?_none_of_le F.above
  have F2 : Fr h₀ L h2 _ := ⟨n2, fun b o e => sb2.extBut b o (fun q => by rw [q, hL0] at e; cases e) (sb1.extBut b o (fun q => by rw [q, hL0] at e; cases e) (F.keep b o e)), F.above⟩
  have z2 : h2.objs.size = s.heap.objs.size := sb2.1.trans sb1.1
  refine seg_execs_cons (seg_For ?_)
  refine gi_enum F2 X T (by rw [if_neg (by decide), if_neg (by decide)]; exact hm) (call_enumerate_str fun h3 he hit hz hk => ?_)
  have z3 : (Shared.heap { s with heap := h2, toks := s.toks + 1 + 1 + 1 }).objs.size = s.heap.objs.size := z2
  have he' : IsEnum h3 (s.heap.objs.size + 1) s.heap.objs.size 0 .none := by rw [← z3]; exact he
  have hit' : h3.IsStrIter s.heap.objs.size (strIterType x) x t 0 := by rw [← z3]; exact hit
  have ety : strIterType x = "str_ascii_iterator" := by unfold strIterType; rw [hx]; rfl
  rw [ety] at hit'
  rw [show ({ s with heap := h2, toks := s.toks + 1 + 1 + 1 } : Shared).heap.objs.size = s.heap.objs.size from z2]
  have hk' : ∀ a o, h2.get? a = some o → h3.get? a = some o := hk
  refine wpAny_pyIter_enum he' fun pp => ?_
  refine gi_loop (x := x) (t := t) (fun c => by show (marksOver _ (A.handled, A.handled)).1 = none; rw [hA]; rfl) rfl rfl hx (Nat.ne_of_gt (Nat.lt_succ_of_lt hLs)) (Nat.ne_of_gt hLs) (Nat.succ_ne_self _) ?fin
    x.cps.toList 0 false rfl (by simp) hend (by rw [Nat.sub_self]; rfl) s _ ?since ?gs
  case since =>
    refine ⟨h3, _, rfl, fun b o hb q => ?_⟩
    have hbL : b ≠ L := fun z => hb (by simp [z])
    exact hk' b o (sb2.extBut b o hbL (sb1.extBut b o hbL q))
  case gs =>
    refine ⟨⟨_, n2.at' fun o q => hk' L o q, if_pos rfl⟩, ⟨_, he'⟩, hit'⟩
  case fin =>
    rintro s₀ s' hs ⟨m', n', hm'⟩
    refine seg_leaf (.ok .next) ?_
    show Seg _ _ _ _ 0 s₀ _ ((execs [giLast] (giEnv L)).wrap _ _ _ _) [] s'
    refine seg_execs_cons (seg_If ?_)
    refine wpAny_isTrue_value (gi_name rfl (by decide) n' hm' (wpAny_truthy_bool ?_))
    rw [if_neg Bool.false_ne_true]
    exact seg_end (.ok (.ret .none)) ⟨rfl, rfl, hs⟩
end
end
section
open PySem PySem.W PySem.Spec PySem.Calls PyProof.Rows
set_option maxRecDepth 100000
set_option maxHeartbeats 4000000
set_option linter.unusedVariables false
section
variable {w : World} {A : Around} {h₀ : Heap} {L : Addr} {m : Str → Option Value} {s : Shared} {p : Program} {loose : List Str} {mean : ExcName → Option Value} {mg mb : Str → Option Value}
theorem gi_call {x : Str} {t : Tok} {Q : Value → Shared → Prop} {E : Value → Shared → Prop} (F : Fr h₀ L s.heap m) (X : (Mine.topK w.params).In h₀) (T : Top p loose mean mg mb h₀) (hroom : A.depth < recursionLimit)
    (h : ∀ h' tk mm, h'.IsGen (s.heap.objs.size + 1) s.gens.size → h'.Ns s.heap.objs.size mm → mm (Str.ofString "addr") = some (.str x t) → (∀ b o, s.heap.get? b = some o → h'.get? b = some o) → h'.objs.size = s.heap.objs.size + 2 →
      Q (.ref (s.heap.objs.size + 1)) { s with heap := h', toks := tk, gens := s.gens.push (.fresh (.func giBody (giEnv s.heap.objs.size))) }) :
    wpAny (model PySem.Challenge.rw_re0120_01.row.prog w) A (call (.ref 63) [.str x t]) Q E s := by
  have ho := X.keeps F.keep 63 (top5.o_55 w.params) (by kernel_rfl)
  have hl : s.heap.NoLimit := T.nolimit.keeps F.keep
  refine wpAny_call (codeAny_call_generator hroom ho (body := giBody) rfl rfl rfl rfl (codeRec_of (X.keeps F.keep) (by kernel_rfl)) ?_)
  refine BindsTo.of_eq (binds := [(Str.ofString "addr", .str x t)]) (by rfl) _ _ _ _ ?_
  refine wpAny_newFunctionEnv (by decide) (by intro y hy; simp at hy; subst hy; rfl) (fun h1 n1 sb1 => ?_)
  have keep1 : ∀ b o, s.heap.get? b = some o → h1.get? b = some o := fun b o e => sb1.extBut b o (Nat.ne_of_lt (Heap.lt_size e)) (Heap.get?_push_of_some _ e)
  have z1 : h1.objs.size = s.heap.objs.size + 1 := by rw [sb1.1, Heap.size_push]
  refine ⟨hl.fresh _ sb1, ?_⟩
  have e1 : (Shared.heap { s with heap := h1, toks := s.toks + 1 }).objs.size = s.heap.objs.size + 1 := z1
  have key := h (h1.push { cls := .type "generator", data := .fields #[.int s.gens.size 0, .str (Str.ofString "_iter_escaped_chars") (s.toks + 1), .str (Str.ofString "_iter_escaped_chars") (s.toks + 1 + 1)] }) (s.toks + 1 + 1 + 1) _
    ⟨_, _, _, by rw [← z1]; exact Heap.get?_push_size _ rfl, rfl, rfl, rfl⟩ (n1.at' fun o e => Heap.get?_push_of_some _ e) (by rfl) (fun b o e => Heap.get?_push_of_some _ (keep1 b o e)) (by rw [Heap.size_push, z1])
  rw [← z1] at key
  exact key
end
end
section
open PySem PySem.W PySem.Spec PySem.Calls PyProof.Rows PyProof.Rows.LCg
set_option maxRecDepth 100000
set_option maxHeartbeats 4000000
set_option linter.unusedVariables false
section
variable {prog : Program} {w : World} {A : Around} {E : Value → Shared → Prop} {s : Shared}
theorem letOwned_gen {elts : List PySem.Expr} {x1} {pos : Pos} {G D : Addr} {g : Nat} {Q : Unit → Shared → Prop} (hit : s.heap.IsGen G g) (hQ : Q () s) :
    wpAny (model prog w) A (letOwnedTupleGo (.Tuple elts x1 pos) (.ref G) (.ref D)) Q E s := by
  obtain ⟨o, nm, qn, ho, hc, hd, _⟩ := hit
  unfold letOwnedTupleGo
  refine wpAny_bind (wpAny_load ho ?_)
  rw [hc, hd]
  show wpAny _ A (if (["enumerate", "zip", "dict_itemiterator", "dict_reverseitemiterator", "odict_iterator", "itertools.zip_longest", "itertools.pairwise"].contains "generator" &&
      (#[.int g 0, nm, qn] : Array Value)[0]? == some (rawInt D)) = true then _ else _) Q E s
  rw [if_neg (by
    intro h
    rw [show (["enumerate", "zip", "dict_itemiterator", "dict_reverseitemiterator", "odict_iterator", "itertools.zip_longest", "itertools.pairwise"].contains "generator") = false from by decide, Bool.false_and] at h
    cases h)]
  exact wpAny_pure hQ
end
noncomputable def Rdy (w : World) (A : Around) (h₀ : Heap) (U : List (Int × Str)) (k : Nat) (own : List Addr) (gs : GenState) (s : Shared) : Prop :=
  ∀ s'' : Shared, (∀ b ∈ own, ∀ o, s.heap.get? b = some o → s''.heap.get? b = some o) → (∀ b o, h₀.get? b = some o → s''.heap.get? b = some o) →
    ∃ own', (∀ b ∈ own', b ∈ own ∨ s''.heap.objs.size ≤ b) ∧ gs.Goes (model PySem.Challenge.rw_re0120_01.row.prog w) A.in1 (giR own') (giY own' U) k (.send .none) s''
section
variable {w : World} {A : Around} {h₀ : Heap} {L : Addr} {m : Str → Option Value} {p : Program} {loose : List Str} {mean : ExcName → Option Value} {mg mb : Str → Option Value} {env : Env} {news : List (Addr × Obj)}
theorem since_news {own : List Addr} {s₀ s : Shared} (x : Since own s₀ s) (N : News h₀ L s₀.heap news) (h : ∀ b ∈ own, ∀ p ∈ news, p.1 ≠ b) : News h₀ L s.heap news := by
  obtain ⟨h', tk, rfl, k⟩ := x
  exact fun p hp => ⟨k _ _ (fun q => h _ q p hp rfl) (N p hp).1, (N p hp).2⟩
theorem since_fr {own : List Addr} {s₀ s : Shared} (x : Since own s₀ s) (F : Fr h₀ L s₀.heap m) (h : ∀ b ∈ own, h₀.get? b = none ∧ b ≠ L) : Fr h₀ L s.heap m := by
  obtain ⟨h', tk, rfl, k⟩ := x
  exact ⟨F.ns.at' fun o e => k _ _ (fun q => (h _ q).2 rfl) e, fun b o e => k _ _ (fun q => by rw [(h _ q).1] at e; cases e) (F.keep b o e), F.above⟩
theorem block_G {elt iter : PySem.Expr} {x x₂ : Str} {px px₂ tp : Pos} {tk} {scope : Scope} {cl : List (Str × Addr)} {pos : Pos} {s₂ : Shared} {G : Addr} {g : Nat} {gs₀ : GenState} {own₀ : List Addr} {U : List (Int × Str)} {hi : Int × Str → Str} {RR : Value → Addr → Result → Shared → Prop}
    (hroom : A.depth < recursionLimit) (T : Top p loose mean mg mb h₀) (hh : A.handled = none) (hsz : U.length ≤ sizeLine)
    (hcell : ∀ y ∈ scope.names, y.2 ≠ .cell) (hkind : scope.kind = .function) (hx : scope.names.lookup x = some .local) (hx₂ : scope.names.lookup x₂ = some .local) (hxx : x ≠ x₂)
    (hG : s₂.heap.IsGen G g) (hgs : s₂.gens[g]? = some gs₀) (hR : Rdy w A h₀ U U.length own₀ gs₀ s₂)
    (hown : ∀ b ∈ own₀, h₀.get? b = none ∧ b ≠ L ∧ b ≠ G ∧ b < s₂.heap.objs.size ∧ (∀ p ∈ news, p.1 ≠ b))
    (hbare : AllBare s₂.gens) (F : Fr h₀ L s₂.heap m) (N : News h₀ L s₂.heap news)
    (R : ∀ u ∈ U, ∀ C (m₂ : Str → Option Value) s' t (QQ E' : Value → Shared → Prop), s'.heap.Ns C m₂ → m₂ x₂ = some (.str u.2 t) → (∀ t' tk', QQ (.str (hi u) t') { s' with toks := tk' }) →
      wpAny (model PySem.Challenge.rw_re0120_01.row.prog w) A (eval elt (compEnvC scope cl C env)) QQ E' s')
    (hRR : ∀ D C h tk m' ys gens', Fr h₀ L h m → News h₀ L h ((D, lst ys) :: news) → Off1 D news → h.Ns C m' → h₀.get? C = none → h₀.get? D = none → C ≠ L → D ≠ L → C ≠ D → (∀ p ∈ news, p.1 ≠ C) → StrsAre ys (U.map hi) → AllBare gens' →
      RR (.ref D) C (.ok .next) { s₂ with heap := h, toks := tk, gens := gens' }) :
    wpAny (model PySem.Challenge.rw_re0120_01.row.prog w) A (newList []) (fun acc s₃ => wpAny (model PySem.Challenge.rw_re0120_01.row.prog w) A (newFunctionEnv scope env.globals cl [] env.qual none .none (some env)) (fun cenv s₄ =>
      codeAny (model PySem.Challenge.rw_re0120_01.row.prog w) A (.compStart (.ListComp elt [⟨.Tuple [.Name x px, .Name x₂ px₂] tk tp, iter, [], 0⟩] scope pos) 0 (.ref G) acc { cenv with scope := relabel scope env }) (RR acc cenv.locals) s₄) E s₃) E s₂ := by
  refine wpAny_newObj_type (wpAny_newFunctionEnv hcell (by intro y hy; simp at hy) (fun h₁ hns₁ hsb₁ => ?_) hkind)
  dsimp only at hns₁ hsb₁ ⊢
  generalize hH2 : s₂.heap.push { cls := .type "list", dict := none, data := .seq ([] : List Value).toArray } = H2 at hns₁ hsb₁ ⊢
  have hC : H2.objs.size = s₂.heap.objs.size + 1 := by rw [← hH2, Heap.size_push]
  have hDC : s₂.heap.objs.size ≠ H2.objs.size := by rw [hC]; exact Nat.ne_of_lt (Nat.lt_succ_self _)
  have below : ∀ b, b < s₂.heap.objs.size → b ≠ H2.objs.size ∧ b ≠ s₂.heap.objs.size := fun b hb => ⟨by rw [hC]; exact Nat.ne_of_lt (Nat.lt_succ_of_lt hb), Nat.ne_of_lt hb⟩
  have old : ∀ b o, s₂.heap.get? b = some o → h₁.get? b = some o := fun b o e => hsb₁.extBut b o (below b (Heap.lt_size e)).1 (Heap.get?_push_of_some _ (hH2 ▸ Heap.get?_push_of_some _ e))
  have hacc : h₁.get? s₂.heap.objs.size = some (lst []) := hsb₁.extBut _ _ hDC (Heap.get?_push_of_some _ (hH2 ▸ Heap.get?_push_size _ rfl))
  have fresh : ∀ a, s₂.heap.objs.size ≤ a → s₂.heap.get? a = none := fun a ha => by
    cases e : s₂.heap.get? a with
    | none => rfl
    | some o' => exact absurd (Heap.lt_size e) (Nat.not_lt.mpr ha)
  have fresh₀ : ∀ a, s₂.heap.objs.size ≤ a → h₀.get? a = none := fun a ha => by
    cases e : h₀.get? a with
    | none => rfl
    | some o' => have := F.keep a o' e; rw [fresh a ha] at this; cases this
  have hD₀ : h₀.get? s₂.heap.objs.size = none := fresh₀ _ (Nat.le_refl _)
  have hC₀ : h₀.get? H2.objs.size = none := fresh₀ _ (by rw [hC]; exact Nat.le_succ _)
  have hLlt : L < s₂.heap.objs.size := F.ns.lt
  have hDL : s₂.heap.objs.size ≠ L := Ne.symm (below L hLlt).2
  have hCL : H2.objs.size ≠ L := Ne.symm (below L hLlt).1
  have hGlt : G < s₂.heap.objs.size := by obtain ⟨o, _, _, ho, _⟩ := hG; exact Heap.lt_size ho
  have offD : Off1 s₂.heap.objs.size news := (Off3.of (I := H2.objs.size) (C := H2.objs.size) fun p hp => ⟨(below _ (Heap.lt_size (N p hp).1)).1, (below _ (Heap.lt_size (N p hp).1)).1, (below _ (Heap.lt_size (N p hp).1)).2⟩).one
  have loop : ∀ s₃ : Shared, s₃ = { s₂ with heap := h₁, toks := s₂.toks + ([] : List (Str × Value)).length } →
      codeAny (model PySem.Challenge.rw_re0120_01.row.prog w) A (.compLoop (.ListComp elt [⟨.Tuple [.Name x px, .Name x₂ px₂] tk tp, iter, [], 0⟩] scope pos) 0 (.ref G) (.ref s₂.heap.objs.size) (compEnvC scope cl H2.objs.size env))
        (RR (.ref s₂.heap.objs.size) H2.objs.size) s₃ := by
    rintro s₃ rfl
    refine LCp.codeAny_compLoop_pair
      (fun k s' => ∃ h' tk i ys m' gs gens' own, s' = { s₂ with heap := h', toks := tk, gens := gens' } ∧ i ≤ U.length ∧ k = U.length + 1 - i ∧ ys.length = i ∧ Fr h₀ L h' m ∧ h'.Ns H2.objs.size m' ∧ News h₀ L h' ((s₂.heap.objs.size, lst ys) :: news) ∧
        StrsAre ys ((U.take i).map hi) ∧ h'.IsGen G g ∧ gens'[g]? = some gs ∧ GenOnly g s₂.gens gens' ∧ Rdy w A h₀ U (U.length - i) own gs s' ∧ s₂.heap.objs.size ≤ h'.objs.size ∧
        (∀ b ∈ own, h₀.get? b = none ∧ b ≠ L ∧ b ≠ G ∧ b ≠ H2.objs.size ∧ b ≠ s₂.heap.objs.size ∧ (∀ p ∈ news, p.1 ≠ b))) ?_ (U.length + 1)
      ⟨h₁, _, 0, [], _, gs₀, s₂.gens, own₀, rfl, Nat.zero_le _, rfl, rfl, F.keeps old, hns₁, fun p hp => ?_, by rw [List.take_zero]; exact .nil, hG.keeps old, hgs, ⟨rfl, fun _ _ => rfl⟩, ?rdy, ?sz, fun b hb => ?_⟩
    case rdy => exact fun s'' h1 h2 => hR s'' (fun b hb o e => h1 b hb o (old b o e)) h2
    case sz => rw [hsb₁.1, Heap.size_push, hC]; omega
    · rintro k s' ⟨h', tk', i, ys, m', gs, gens', own, rfl, hi', rfl, hyl, F', hn', N', hys, hG', hgs', hgo', rdy, hle, hown'⟩
      obtain ⟨own', hsub, hgoes⟩ := rdy (Shared.setGen { s₂ with heap := h', toks := tk', gens := gens' } g .running) (fun _ _ _ e => e) (fun b o e => F'.keep b o e)
      have hoff : ∀ b ∈ own', h₀.get? b = none ∧ b ≠ L ∧ b ≠ G ∧ b ≠ H2.objs.size ∧ b ≠ s₂.heap.objs.size ∧ (∀ p ∈ news, p.1 ≠ b) := fun b hb => by
        rcases hsub b hb with q | q
        · exact hown' b q
        · have q' : h'.objs.size ≤ b := q
          have nb : ∀ a o, h'.get? a = some o → a ≠ b := fun a o e z => Nat.lt_irrefl _ (Nat.lt_of_lt_of_le (Heap.lt_size e) (z ▸ q'))
          obtain ⟨oG, _, _, eG, _⟩ := hG'
          obtain ⟨oC, eC, _⟩ := ns_obj hn'
          refine ⟨?_, fun z => Nat.lt_irrefl _ (Nat.lt_of_lt_of_le F'.ns.lt (z ▸ q')), Ne.symm (nb _ _ eG), Ne.symm (nb _ _ eC), Ne.symm (nb _ _ (N' _ List.mem_cons_self).1), fun p hp => nb _ _ (N' _ (List.mem_cons_of_mem _ hp)).1⟩
          cases e : h₀.get? b with
          | none => rfl
          | some o => exact absurd rfl (nb _ _ (F'.keep b o e))
      refine wpAny_pyNext_gen (P := fun n s₀ s₁ => n = 0 ∧ Since own' s₀ s₁) hh (T.nolimit.keeps F'.keep) hroom hG' hgs' hgoes (fun v s₁ gs₁ hY => ?_) (fun s₁ hP h₂ hk₂ => ?_)
      · obtain ⟨⟨u, Dt, t1, t2, hu, rfl, hT, hDt⟩, hs, hk⟩ := hY
        have hlt : i < U.length := by
          rcases Nat.lt_or_ge i U.length with q | q
          · exact q
          · exfalso
            have := hk s₁ (fun _ _ _ e => e)
            rw [show U.length - i = 0 by omega] at this
            exact this
        obtain ⟨j, hj⟩ : ∃ j, U.length - i = j + 1 := ⟨U.length - i - 1, by omega⟩
        rw [hj] at hk hu
        have hu' : U[i]? = some u := by rw [← hu]; congr 1; omega
        have F₁ : Fr h₀ L s₁.heap m := since_fr hs F' fun b hb => ⟨(hoff b hb).1, (hoff b hb).2.1⟩
        have N₁ : News h₀ L s₁.heap ((s₂.heap.objs.size, lst ys) :: news) := since_news hs N' fun b hb p hp => by
          rcases List.mem_cons.mp hp with rfl | hp
          · exact Ne.symm (hoff b hb).2.2.2.2.1
          · exact (hoff b hb).2.2.2.2.2 p hp
        obtain ⟨h₂, tk₂, rfl, hk₂⟩ := hs
        have hG₂ : h₂.IsGen G g := by
          obtain ⟨o, nm, qn, e, r⟩ := hG'
          exact ⟨o, nm, qn, hk₂ _ _ (fun q => (hoff _ q).2.2.1 rfl) e, r⟩
        have hn₂ : h₂.Ns H2.objs.size m' := hn'.at' fun o e => hk₂ _ _ (fun q => (hoff _ q).2.2.2.1 rfl) e
        refine letOwned_gen hG₂ ?_
        refine assign_Tuple_tuple hh (show IsTup h₂ Dt #[.int u.1 t1, .str u.2 t2] from hT) rfl rfl fun h₅ he => ?_
        have he' : ∀ b o, h₂.get? b = some o → h₅.get? b = some o := fun b o e => he b o (Nat.ne_of_lt (Heap.lt_size e)) e
        refine assignInOrder_cons (wpAny_assign_Name (wpAny_storeName_local (lookup_relabel_local hx) (hn₂.at' fun o e => he' _ o e) (fun h₆ hn₆ hs₆ => ?_) (by simp [compEnvC, relabel, hkind])))
        refine assignInOrder_cons (wpAny_assign_Name (wpAny_storeName_local (lookup_relabel_local hx₂) hn₆ (fun h₃ hn₃ hs₃ => ?_) (by simp [compEnvC, relabel, hkind])))
        refine assignInOrder_nil ?_
        have old3 : ∀ b o, b ≠ H2.objs.size → h₂.get? b = some o → h₃.get? b = some o := fun b o hb e => hs₃.extBut b o hb (hs₆.extBut b o hb (he' b o e))
        have F₃ : Fr h₀ L h₃ m := ((F₁.keeps he').change hs₆ hCL hC₀).change hs₃ hCL hC₀
        have N₃ : News h₀ L h₃ ((s₂.heap.objs.size, lst ys) :: news) := fun p hp => ⟨old3 _ _ (by
          rcases List.mem_cons.mp hp with rfl | hp
          · exact hDC
          · exact (below _ (Heap.lt_size (N p hp).1)).1) (N₁ p hp).1, (N₁ p hp).2⟩
        refine R u (List.mem_of_getElem? hu') H2.objs.size _ _ t2 _ _ hn₃ (by simp) (fun t' tk₅ => ?_)
        have zD := (N₃ (s₂.heap.objs.size, lst ys) List.mem_cons_self).1
        refine append_at (hsz := by show ys.toArray.size ≤ sizeLine; rw [List.size_toArray, hyl]; exact Nat.le_trans hi' hsz) zD fun h₄ hs₄ hD₄ => ?_
        replace hs₄ : Heap.SameBut s₂.heap.objs.size h₃ h₄ := hs₄
        refine ⟨U.length + 1 - (i + 1), by omega, h₄, tk₅, i + 1, ys ++ [.str (hi u) t'], _, gs₁, _, own', rfl, hlt, rfl, by rw [List.length_append, List.length_singleton, hyl], F₃.change hs₄ hDL hD₀,
          hn₃.sameBut hs₄ (Ne.symm hDC), fun p hp => ?_, ?ss, ?gg, setGen_self (s := { s₂ with heap := h₂, toks := tk₂, gens := (gens'.setIfInBounds g .running) }) (setGen_self (s := { s₂ with gens := gens' }) hgs'), hgo'.trans ((GenOnly.setGen { s₂ with gens := gens' } g .running).trans (GenOnly.setGen { s₂ with gens := gens'.setIfInBounds g .running } g gs₁)), ?rd, ?sz2, hoff⟩
        case ss =>
          rw [List.take_add_one, hu', List.map_append]
          exact strs_snoc hys
        case gg =>
          obtain ⟨o, nm, qn, e, r⟩ := hG₂
          exact ⟨o, nm, qn, hs₄.extBut _ _ (below _ hGlt).2 (old3 _ _ (below _ hGlt).1 e), r⟩
        case rd =>
          rw [show U.length - (i + 1) = j by omega]
          refine fun s'' h1 h2 => ⟨own', fun b hb => .inl hb, hk s'' fun b hb o e => h1 b hb o ?_⟩
          exact hs₄.extBut b o (hoff b hb).2.2.2.2.1 (old3 b o (hoff b hb).2.2.2.1 e)
        case sz2 => exact Nat.le_of_lt (Heap.lt_size hD₄)
        · rcases List.mem_cons.mp hp with rfl | hp
          · exact ⟨hD₄.trans (congrArg some (lst_snoc ys _)), hDL, hD₀⟩
          · exact ⟨hs₄.extBut _ _ (below _ (Heap.lt_size (N p hp).1)).2 (N₃ p (List.mem_cons_of_mem _ hp)).1, (N p hp).2⟩
      · obtain ⟨h0, hs⟩ := hP
        obtain rfl : i = U.length := by omega
        have F₁ : Fr h₀ L s₁.heap m := since_fr hs F' fun b hb => ⟨(hoff b hb).1, (hoff b hb).2.1⟩
        have N₁ : News h₀ L s₁.heap ((s₂.heap.objs.size, lst ys) :: news) := since_news hs N' fun b hb p hp => by
          rcases List.mem_cons.mp hp with rfl | hp
          · exact Ne.symm (hoff b hb).2.2.2.2.1
          · exact (hoff b hb).2.2.2.2.2 p hp
        obtain ⟨h₃, tk₃, rfl, hk₃⟩ := hs
        have hn₃ : h₃.Ns H2.objs.size m' := hn'.at' fun o e => hk₃ _ _ (fun q => (hoff _ q).2.2.2.1 rfl) e
        rw [List.take_length] at hys
        refine hRR _ _ h₂ tk₃ _ ys _ (F₁.keeps hk₂) (fun p hp => ⟨hk₂ _ _ (N₁ p hp).1, (N₁ p hp).2⟩) offD (hn₃.at' fun o e => hk₂ _ _ e) hC₀ hD₀ hCL hDL (Ne.symm hDC) (fun p hp => (below _ (Heap.lt_size (N p hp).1)).1) hys ?_
        refine (GenOnlyQ.of (hgo'.trans ((GenOnly.setGen { s₂ with gens := gens' } g .running).trans (GenOnly.setGen { s₂ with gens := gens'.setIfInBounds g .running } g .finished))) (y := .finished) ?_ rfl).bare hbare
        exact setGen_self (s := { s₂ with heap := h₂, toks := tk₃, gens := (gens'.setIfInBounds g .running) }) (setGen_self (s := { s₂ with gens := gens' }) hgs')
    · rcases List.mem_cons.mp hp with rfl | hp
      · exact ⟨hacc, hDL, hD₀⟩
      · exact ⟨old _ _ (N p hp).1, (N p hp).2⟩
    · obtain ⟨a1, a2, a3, a4, a5⟩ := hown b hb
      exact ⟨a1, a2, a3, (below b a4).1, (below b a4).2, a5⟩
  exact codeAny_compStart_list (loop _ rfl) (wpAny_pyIter_gen (hG.keeps old) (loop _ rfl))
end
end
section
open PySem PySem.W PySem.Spec PySem.Calls PyProof.Rows
set_option maxRecDepth 100000
set_option maxHeartbeats 4000000
set_option linter.unusedVariables false
noncomputable def lwDef : Stmt := topSt 14
noncomputable abbrev lwScope : Scope := by
  refine (fun (_ : defScope lwDef = ?l) => ?l) ?h
  case h => (conv => lhs; whnf)
noncomputable abbrev lw_0 : Stmt := by
  refine (fun (_ : stAt (defBody lwDef) 0 = ?l) => ?l) ?h
  case h => (conv => lhs; whnf)
noncomputable abbrev lw_1 : Stmt := by
  refine (fun (_ : stAt (defBody lwDef) 1 = ?l) => ?l) ?h
  case h => (conv => lhs; whnf)
noncomputable abbrev lw_2 : Stmt := by
  refine (fun (_ : stAt (defBody lwDef) 2 = ?l) => ?l) ?h
  case h => (conv => lhs; whnf)
noncomputable abbrev lw_3 : Stmt := by
  refine (fun (_ : stAt (defBody lwDef) 3 = ?l) => ?l) ?h
  case h => (conv => lhs; whnf)
noncomputable abbrev lw_4 : Stmt := by
  refine (fun (_ : stAt (defBody lwDef) 4 = ?l) => ?l) ?h
  case h => (conv => lhs; whnf)
noncomputable abbrev lw_5 : Stmt := by
  refine (fun (_ : stAt (defBody lwDef) 5 = ?l) => ?l) ?h
  case h => (conv => lhs; whnf)
noncomputable abbrev lw_6 : Stmt := by
  refine (fun (_ : stAt (defBody lwDef) 6 = ?l) => ?l) ?h
  case h => (conv => lhs; whnf)
noncomputable abbrev lw_7 : Stmt := by
  refine (fun (_ : stAt (defBody lwDef) 7 = ?l) => ?l) ?h
  case h => (conv => lhs; whnf)
noncomputable abbrev lwEnv (L fa : Addr) (cd : Value) : Env := envOfC (Str.ofString "law") lwScope L fa cd
noncomputable abbrev lwA (L fa : Addr) (cd : Value) : Around := callerA.deeper (lwEnv L fa cd)
noncomputable abbrev lwFr (l : List (Str × Value)) : Str → Option Value := fun y => l.lookup y
end
section
open PySem PySem.W PySem.Spec PySem.Calls PyProof.Rows
set_option maxRecDepth 100000
set_option maxHeartbeats 4000000
set_option linter.unusedVariables false
noncomputable abbrev lwF (un na x dr wa le ro to wo lo hi : Option Value) : Str → Option Value := fun y =>
  if y = Str.ofString "unseen" then un else if y = Str.ofString "names" then na else if y = Str.ofString "x" then x else if y = Str.ofString "drawn" then dr else if y = Str.ofString "waiting" then wa else if y = Str.ofString "level" then le else if y = Str.ofString "row" then ro else if y = Str.ofString "told" then to else if y = Str.ofString "word" then wo else if y = Str.ofString "low" then lo else if y = Str.ofString "high" then hi else none
theorem lwF_unseen {un na x dr wa le ro to wo lo hi : Option Value} {v : Value} : (fun y => if y = Str.ofString "unseen" then some v else lwF un na x dr wa le ro to wo lo hi y) = lwF (some v) na x dr wa le ro to wo lo hi := by
  funext y; by_cases h : y = Str.ofString "unseen"
  · subst h; rfl
  · simp only [lwF, if_neg h]
theorem lwF_names {un na x dr wa le ro to wo lo hi : Option Value} {v : Value} : (fun y => if y = Str.ofString "names" then some v else lwF un na x dr wa le ro to wo lo hi y) = lwF un (some v) x dr wa le ro to wo lo hi := by
  funext y; by_cases h : y = Str.ofString "names"
  · subst h; rfl
  · simp only [lwF, if_neg h]
theorem lwF_x {un na x dr wa le ro to wo lo hi : Option Value} {v : Value} : (fun y => if y = Str.ofString "x" then some v else lwF un na x dr wa le ro to wo lo hi y) = lwF un na (some v) dr wa le ro to wo lo hi := by
  funext y; by_cases h : y = Str.ofString "x"
  · subst h; rfl
  · simp only [lwF, if_neg h]
theorem lwF_drawn {un na x dr wa le ro to wo lo hi : Option Value} {v : Value} : (fun y => if y = Str.ofString "drawn" then some v else lwF un na x dr wa le ro to wo lo hi y) = lwF un na x (some v) wa le ro to wo lo hi := by
  funext y; by_cases h : y = Str.ofString "drawn"
  · subst h; rfl
  · simp only [lwF, if_neg h]
theorem lwF_waiting {un na x dr wa le ro to wo lo hi : Option Value} {v : Value} : (fun y => if y = Str.ofString "waiting" then some v else lwF un na x dr wa le ro to wo lo hi y) = lwF un na x dr (some v) le ro to wo lo hi := by
  funext y; by_cases h : y = Str.ofString "waiting"
  · subst h; rfl
  · simp only [lwF, if_neg h]
theorem lwF_level {un na x dr wa le ro to wo lo hi : Option Value} {v : Value} : (fun y => if y = Str.ofString "level" then some v else lwF un na x dr wa le ro to wo lo hi y) = lwF un na x dr wa (some v) ro to wo lo hi := by
  funext y; by_cases h : y = Str.ofString "level"
  · subst h; rfl
  · simp only [lwF, if_neg h]
theorem lwF_row {un na x dr wa le ro to wo lo hi : Option Value} {v : Value} : (fun y => if y = Str.ofString "row" then some v else lwF un na x dr wa le ro to wo lo hi y) = lwF un na x dr wa le (some v) to wo lo hi := by
  funext y; by_cases h : y = Str.ofString "row"
  · subst h; rfl
  · simp only [lwF, if_neg h]
theorem lwF_told {un na x dr wa le ro to wo lo hi : Option Value} {v : Value} : (fun y => if y = Str.ofString "told" then some v else lwF un na x dr wa le ro to wo lo hi y) = lwF un na x dr wa le ro (some v) wo lo hi := by
  funext y; by_cases h : y = Str.ofString "told"
  · subst h; rfl
  · simp only [lwF, if_neg h]
theorem lwF_word {un na x dr wa le ro to wo lo hi : Option Value} {v : Value} : (fun y => if y = Str.ofString "word" then some v else lwF un na x dr wa le ro to wo lo hi y) = lwF un na x dr wa le ro to (some v) lo hi := by
  funext y; by_cases h : y = Str.ofString "word"
  · subst h; rfl
  · simp only [lwF, if_neg h]
theorem lwF_low {un na x dr wa le ro to wo lo hi : Option Value} {v : Value} : (fun y => if y = Str.ofString "low" then some v else lwF un na x dr wa le ro to wo lo hi y) = lwF un na x dr wa le ro to wo (some v) hi := by
  funext y; by_cases h : y = Str.ofString "low"
  · subst h; rfl
  · simp only [lwF, if_neg h]
theorem lwF_high {un na x dr wa le ro to wo lo hi : Option Value} {v : Value} : (fun y => if y = Str.ofString "high" then some v else lwF un na x dr wa le ro to wo lo hi y) = lwF un na x dr wa le ro to wo lo (some v) := by
  funext y; by_cases h : y = Str.ofString "high"
  · subst h; rfl
  · simp only [lwF, if_neg h]

noncomputable def unseenI : List Int := [173, 847, 6150, 6155, 6156, 6157, 8203, 8204, 8205, 8288, 65279] ++ rangeInts 65024 1 16
noncomputable def nmA : List (Str × Str) := [(Str.ofString "a", Str.ofString "a"), (Str.ofString "Q", Str.ofString "q"), (Str.ofString "ß", Str.ofString "ss"), (Str.ofString "ﬃ", Str.ofString "ffi"), (Str.ofString "𝐁", Str.ofString "b"), (Str.ofString "℡", Str.ofString "tel")]
noncomputable def NmOk (U : Addr) (l : List (Addr × Obj)) : Prop := ∃ (a0 a1 a2 a3 a4 a5 : Addr) (n : Nat), (U, listOf #[Value.ref a0, Value.ref a1, Value.ref a2, Value.ref a3, Value.ref a4, Value.ref a5] n) ∈ l ∧
  ∀ (i : Nat) (a : Addr) (y : Str × Str), [a0, a1, a2, a3, a4, a5][i]? = some a → nmA[i]? = some y → ∃ t u k, (a, listOf #[Value.str y.1 t, Value.str y.2 u] k) ∈ l
end
section
open PySem PySem.W PySem.Spec PySem.Calls PyProof.Rows PyProof.Rows.LCg
set_option maxRecDepth 100000
set_option maxHeartbeats 4000000
set_option linter.unusedVariables false
section
variable {prog : Program} {w : World} {A : Around} {E : Value → Shared → Prop} {h₀ : Heap} {L : Addr} {m : Str → Option Value} {env : Env} {news : List (Addr × Obj)}
/-- a comprehension over enumerate(list) -/
theorem block_E {elt iter : PySem.Expr} {x x₂ : Str} {px px₂ tp : Pos} {tk} {scope : Scope} {cl : List (Str × Addr)} {pos : Pos} {s₂ : Shared} {e it l : Addr} {items : Array Value} {Ok : Nat → List Value → Prop} {RR : Value → Addr → Result → Shared → Prop}
    (hh : A.handled = none) (hsz : items.size ≤ sizeLine)
    (hcell : ∀ y ∈ scope.names, y.2 ≠ .cell) (hkind : scope.kind = .function) (hx : scope.names.lookup x = some .local) (hx₂ : scope.names.lookup x₂ = some .local) (hxx : x ≠ x₂)
    (he : IsEnum s₂.heap e it 0 .none) (hit : s₂.heap.IsListIter it l 0) (hl : (l, (listOf items 0)) ∈ news) (hei : e ≠ it) (hle : l ≠ e) (hli : l ≠ it)
    (he₀ : h₀.get? e = none) (hi₀ : h₀.get? it = none) (heL : e ≠ L) (hiL : it ≠ L) (hof : ∀ p ∈ news, p.1 ≠ e ∧ p.1 ≠ it)
    (F : Fr h₀ L s₂.heap m) (N : News h₀ L s₂.heap news) (hok : Ok 0 [])
    (R : ∀ i v t C oC D oE oI (m₂ : Str → Option Value) h tk ys (QQ E' : Value → Shared → Prop), items[i]? = some v → Ok i ys → NsObj oC m₂ → m₂ x = some (.int i t) → m₂ x₂ = some v → Fr h₀ L h m → News h₀ L h ((e, oE) :: (it, oI) :: (C, oC) :: (D, lst ys) :: news) →
      (∀ p ∈ news, p.1 ≠ C ∧ p.1 ≠ D ∧ p.1 ≠ e ∧ p.1 ≠ it) → (@Ne Nat C D ∧ @Ne Nat e C ∧ @Ne Nat e D ∧ @Ne Nat it C ∧ @Ne Nat it D ∧ @Ne Nat e it) →
      (∀ h' tk' y, Fr h₀ L h' m → News h₀ L h' ((e, oE) :: (it, oI) :: (C, oC) :: (D, lst ys) :: news) → Ok (i + 1) (ys ++ [y]) → QQ y { s₂ with heap := h', toks := tk' }) →
      wpAny (model prog w) A (eval elt (compEnvC scope cl C env)) QQ E' { s₂ with heap := h, toks := tk })
    (hRR : ∀ D C h tk m' ys, Fr h₀ L h m → News h₀ L h ((D, lst ys) :: news) → (∀ p ∈ news, p.1 ≠ D) → h.Ns C m' → h₀.get? C = none → h₀.get? D = none → C ≠ L → D ≠ L → C ≠ D → (∀ p ∈ news, p.1 ≠ C) → Ok items.size ys →
      RR (.ref D) C (.ok .next) { s₂ with heap := h, toks := tk }) :
    wpAny (model prog w) A (newList []) (fun acc s₃ => wpAny (model prog w) A (newFunctionEnv scope env.globals cl [] env.qual none .none (some env)) (fun cenv s₄ =>
      codeAny (model prog w) A (.compStart (.ListComp elt [⟨.Tuple [.Name x px, .Name x₂ px₂] tk tp, iter, [], 0⟩] scope pos) 0 (.ref e) acc { cenv with scope := relabel scope env }) (RR acc cenv.locals) s₄) E s₃) E s₂ := by
  have W := WalksT.enumerateD (Draws.list (prog := prog) (w := w) (A := A.in1) hh it l hli items) e hei (by simp; exact ⟨hei, fun q => hle q.symm⟩) (by simp)
  refine wpAny_newObj_type (wpAny_newFunctionEnv hcell (by intro y hy; simp at hy) (fun h₁ hns₁ hsb₁ => ?_) hkind)
  dsimp only at hns₁ hsb₁ ⊢
  generalize hH2 : s₂.heap.push { cls := .type "list", dict := none, data := .seq ([] : List Value).toArray } = H2 at hns₁ hsb₁ ⊢
  have hC : H2.objs.size = s₂.heap.objs.size + 1 := by rw [← hH2, Heap.size_push]
  have hDC : s₂.heap.objs.size ≠ H2.objs.size := by rw [hC]; exact Nat.ne_of_lt (Nat.lt_succ_self _)
  have below : ∀ b, b < s₂.heap.objs.size → b ≠ H2.objs.size ∧ b ≠ s₂.heap.objs.size := fun b hb => ⟨by rw [hC]; exact Nat.ne_of_lt (Nat.lt_succ_of_lt hb), Nat.ne_of_lt hb⟩
  have old : ∀ b o, s₂.heap.get? b = some o → h₁.get? b = some o := fun b o e => hsb₁.extBut b o (below b (Heap.lt_size e)).1 (Heap.get?_push_of_some _ (hH2 ▸ Heap.get?_push_of_some _ e))
  have hacc : h₁.get? s₂.heap.objs.size = some (lst []) := hsb₁.extBut _ _ hDC (Heap.get?_push_of_some _ (hH2 ▸ Heap.get?_push_size _ rfl))
  have fresh : ∀ a, s₂.heap.objs.size ≤ a → s₂.heap.get? a = none := fun a ha => by
    cases e : s₂.heap.get? a with
    | none => rfl
    | some o' => exact absurd (Heap.lt_size e) (Nat.not_lt.mpr ha)
  have fresh₀ : ∀ a, s₂.heap.objs.size ≤ a → h₀.get? a = none := fun a ha => by
    cases e : h₀.get? a with
    | none => rfl
    | some o' => have := F.keep a o' e; rw [fresh a ha] at this; cases this
  have hD₀ : h₀.get? s₂.heap.objs.size = none := fresh₀ _ (Nat.le_refl _)
  have hC₀ : h₀.get? H2.objs.size = none := fresh₀ _ (by rw [hC]; exact Nat.le_succ _)
  have hLlt : L < s₂.heap.objs.size := F.ns.lt
  have hDL : s₂.heap.objs.size ≠ L := Ne.symm (below L hLlt).2
  have hCL : H2.objs.size ≠ L := Ne.symm (below L hLlt).1
  have helt : e < s₂.heap.objs.size := Heap.lt_size he
  have hilt : it < s₂.heap.objs.size := by obtain ⟨o, ho, _⟩ := hit; exact Heap.lt_size ho
  have offs : ∀ p ∈ news, p.1 ≠ H2.objs.size ∧ p.1 ≠ s₂.heap.objs.size ∧ p.1 ≠ e ∧ p.1 ≠ it := fun p hp => ⟨(below _ (Heap.lt_size (N p hp).1)).1, (below _ (Heap.lt_size (N p hp).1)).2, hof p hp⟩
  have loop : ∀ s₃ : Shared, s₃ = { s₂ with heap := h₁, toks := s₂.toks + ([] : List (Str × Value)).length } →
      codeAny (model prog w) A (.compLoop (.ListComp elt [⟨.Tuple [.Name x px, .Name x₂ px₂] tk tp, iter, [], 0⟩] scope pos) 0 (.ref e) (.ref s₂.heap.objs.size) (compEnvC scope cl H2.objs.size env))
        (RR (.ref s₂.heap.objs.size) H2.objs.size) s₃ := by
    rintro s₃ rfl
    refine LCp.codeAny_compLoop_pair
      (fun k s' => ∃ h' tk i ys m', s' = { s₂ with heap := h', toks := tk } ∧ i ≤ items.size ∧ k = items.size + 1 - i ∧ ys.length = i ∧ Fr h₀ L h' m ∧ h'.Ns H2.objs.size m' ∧ News h₀ L h' ((s₂.heap.objs.size, lst ys) :: news) ∧
        Ok i ys ∧ (∃ old, IsEnum h' e it i old) ∧ h'.IsListIter it l i) ?_ (items.size + 1)
      ⟨h₁, _, 0, [], _, rfl, Nat.zero_le _, rfl, rfl, F.keeps old, hns₁, fun p hp => ?_, hok, ⟨_, old _ _ he⟩, by obtain ⟨o, ho, r⟩ := hit; exact ⟨o, old _ _ ho, r⟩⟩
    · rintro k s' ⟨h', tk', i, ys, m', rfl, hi', rfl, hyl, F', hn', N', hok', hE', hI'⟩
      have hL' : h'.IsList l items := ⟨_, (N' _ (List.mem_cons_of_mem _ hl)).1, rfl, 0, rfl⟩
      by_cases hlt : i < items.size
      · refine W.item i _ _ _ hlt ⟨hE', hI', hL'⟩ fun T vals h₂ tk₂ hv hT hTup hM hk₂ => ?_
        obtain ⟨tv, v, hv', rfl⟩ := hv
        have hTw := W.apart _ _ _ hM
        refine W.go _ _ _ i T _ _ _ hM fun h₇ st₇ hk₇ => ?_
        have hT7 : IsTup h₇ T #[.int (i : Int) tv, v] := by
          obtain ⟨o, ho, r⟩ := hTup
          exact ⟨o, hk₇ _ _ hTw ho, r⟩
        refine assign_Tuple_tuple hh hT7 rfl rfl fun h₅ he5 => ?_
        have he' : ∀ b o, h₇.get? b = some o → h₅.get? b = some o := fun b o e => he5 b o (Nat.ne_of_lt (Heap.lt_size e)) e
        have hk5 : ∀ b o, b ≠ e → b ≠ it → h'.get? b = some o → h₅.get? b = some o := fun b o n1 n2 q => by
          have nm : b ∉ [e, it] := by simp only [List.mem_cons, List.not_mem_nil, or_false, not_or]; exact ⟨n1, n2⟩
          exact he' b o (hk₇ b o nm (hk₂ b o nm q))
        have hn₅ : h₅.Ns H2.objs.size m' := hn'.at' fun o q => hk5 _ o (Ne.symm (below e helt).1) (Ne.symm (below it hilt).1) q
        refine assignInOrder_cons (wpAny_assign_Name (wpAny_storeName_local (lookup_relabel_local hx) hn₅ (fun h₆ hn₆ hs₆ => ?_) (by simp [compEnvC, relabel, hkind])))
        refine assignInOrder_cons (wpAny_assign_Name (wpAny_storeName_local (lookup_relabel_local hx₂) hn₆ (fun h₃ hn₃ hs₃ => ?_) (by simp [compEnvC, relabel, hkind])))
        refine assignInOrder_nil ?_
        replace hs₆ : Heap.SameBut H2.objs.size h₅ h₆ := hs₆
        replace hs₃ : Heap.SameBut H2.objs.size h₆ h₃ := hs₃
        have old3 : ∀ b o, b ≠ H2.objs.size → h₅.get? b = some o → h₃.get? b = some o := fun b o hb q => hs₃.extBut b o hb (hs₆.extBut b o hb q)
        have F₅ : Fr h₀ L h₅ m := ⟨F'.ns.at' fun o q => hk5 _ o (Ne.symm heL) (Ne.symm hiL) q, fun b o q => hk5 b o (fun z => by rw [z, he₀] at q; cases q) (fun z => by rw [z, hi₀] at q; cases q) (F'.keep b o q), F'.above⟩
        have F₃ : Fr h₀ L h₃ m := (F₅.change hs₆ hCL hC₀).change hs₃ hCL hC₀
        obtain ⟨⟨oldv, hE7⟩, hI7, hL7⟩ := st₇
        obtain ⟨oI, hoI, rI⟩ := hI7
        obtain ⟨oC, heC, hoC⟩ := ns_obj hn₃
        have N₃ : News h₀ L h₃ ((e, _) :: (it, oI) :: (H2.objs.size, oC) :: (s₂.heap.objs.size, lst ys) :: news) := fun p hp => by
          rcases List.mem_cons.mp hp with rfl | hp
          · exact ⟨old3 _ _ (below e helt).1 (he' _ _ hE7), heL, he₀⟩
          · rcases List.mem_cons.mp hp with rfl | hp
            · exact ⟨old3 _ _ (below it hilt).1 (he' _ _ hoI), hiL, hi₀⟩
            · rcases List.mem_cons.mp hp with rfl | hp
              · exact ⟨heC, hCL, hC₀⟩
              · refine ⟨old3 _ _ ?_ (hk5 _ _ ?_ ?_ (N' p hp).1), (N' p hp).2⟩
                · rcases List.mem_cons.mp hp with rfl | hp
                  · exact hDC
                  · exact (offs p hp).1
                · rcases List.mem_cons.mp hp with rfl | hp
                  · exact Ne.symm (below e helt).2
                  · exact (offs p hp).2.2.1
                · rcases List.mem_cons.mp hp with rfl | hp
                  · exact Ne.symm (below it hilt).2
                  · exact (offs p hp).2.2.2
        refine R i v tv H2.objs.size oC s₂.heap.objs.size _ oI _ h₃ _ ys _ _ hv' hok' hoC (by simp [hxx]) (by simp) F₃ N₃ offs ⟨Ne.symm hDC, (below e helt).1, (below e helt).2, (below it hilt).1, (below it hilt).2, hei⟩ (fun h₄ tk₄ y F₄ N₄ ok₄ => ?_)
        have zD := (N₄ (s₂.heap.objs.size, lst ys) (.tail _ (.tail _ (.tail _ (.head _))))).1
        refine append_at (hsz := by show ys.toArray.size ≤ sizeLine; rw [List.size_toArray, hyl]; exact Nat.le_trans hi' hsz) zD fun h₈ hs₈ hD₈ => ?_
        replace hs₈ : Heap.SameBut s₂.heap.objs.size h₄ h₈ := hs₈
        refine ⟨items.size + 1 - (i + 1), by omega, h₈, tk₄, i + 1, ys ++ [y], _, rfl, hlt, rfl, by rw [List.length_append, List.length_singleton, hyl], F₄.change hs₈ hDL hD₀,
          (hoC.ns (N₄ (H2.objs.size, oC) (.tail _ (.tail _ (.head _)))).1).sameBut hs₈ (Ne.symm hDC), fun p hp => ?_, ok₄, ⟨oldv, ?ee⟩, ?ii⟩
        case ee => exact hs₈.extBut _ _ (below e helt).2 (N₄ _ (.head _)).1
        case ii => exact ⟨oI, hs₈.extBut _ _ (below it hilt).2 (N₄ (it, oI) (.tail _ (.head _))).1, rI⟩
        · rcases List.mem_cons.mp hp with rfl | hp
          · exact ⟨hD₈.trans (congrArg some (lst_snoc ys _)), hDL, hD₀⟩
          · exact ⟨hs₈.extBut _ _ (offs p hp).2.1 (N₄ p (.tail _ (.tail _ (.tail _ (.tail _ hp))))).1, (N p hp).2⟩
      · obtain rfl : i = items.size := Nat.le_antisymm hi' (Nat.not_lt.mp hlt)
        refine W.done _ _ _ ⟨hE', hI', hL'⟩ fun h₂ tk₂ hk₂ => ?_
        have hk5 : ∀ b o, b ≠ e → b ≠ it → h'.get? b = some o → h₂.get? b = some o := fun b o n1 n2 q => hk₂ b o (by simp only [List.mem_cons, List.not_mem_nil, or_false, not_or]; exact ⟨n1, n2⟩) q
        refine hRR _ _ h₂ tk₂ _ ys ⟨F'.ns.at' fun o q => hk5 _ o (Ne.symm heL) (Ne.symm hiL) q, fun b o q => hk5 b o (fun z => by rw [z, he₀] at q; cases q) (fun z => by rw [z, hi₀] at q; cases q) (F'.keep b o q), F'.above⟩ (fun p hp => ⟨hk5 _ _ ?_ ?_ (N' p hp).1, (N' p hp).2⟩) (fun p hp => (offs p hp).2.1)
          (hn'.at' fun o q => hk5 _ o (Ne.symm (below e helt).1) (Ne.symm (below it hilt).1) q) hC₀ hD₀ hCL hDL (Ne.symm hDC) (fun p hp => (offs p hp).1) hok'
        · rcases List.mem_cons.mp hp with rfl | hp
          · exact Ne.symm (below e helt).2
          · exact (offs p hp).2.2.1
        · rcases List.mem_cons.mp hp with rfl | hp
          · exact Ne.symm (below it hilt).2
          · exact (offs p hp).2.2.2
    · rcases List.mem_cons.mp hp with rfl | hp
      · exact ⟨hacc, hDL, hD₀⟩
      · exact ⟨old _ _ (N p hp).1, (N p hp).2⟩
  exact codeAny_compStart_list (loop _ rfl) (W.self 0 _ _ _ ⟨⟨_, old _ _ he⟩, (by obtain ⟨o, ho, r⟩ := hit; exact ⟨o, old _ _ ho, r⟩), ⟨_, old _ _ (N _ hl).1, rfl, 0, rfl⟩⟩ (loop _ rfl))
end
end
section
open PySem PySem.W PySem.Spec PySem.Calls PyProof.Rows
local macro_rules | `(tactic| k_mem) => `(tactic| first | exact List.Mem.head _ | ktr_member | (refine List.mem_cons_of_mem _ ?_; k_mem))
section
open PySem PySem.W PySem.Spec PySem.Calls PyProof.Rows
local macro_rules | `(tactic| k_ne) => `(tactic| first | ((try dsimp only); omega) | ((try dsimp only); exact ne_of_mem (by assumption) (by assumption)))
section
open PySem PySem.W PySem.Spec PySem.Calls PyProof.Rows
local macro_rules | `(tactic| k_upd) => `(tactic| first | assumption | (refine' Upd.tail ?a ?b; (case a => k_ne); (case b => k_upd)))
section
open PySem PySem.W PySem.Spec PySem.Calls PyProof.Rows
local macro_rules | `(tactic| k_updF) => `(tactic| first | assumption | exact updF_again (by assumption))
section
open PySem PySem.W PySem.Spec PySem.Calls PyProof.Rows
local macro_rules | `(tactic| k_all) => `(tactic| first | exact allLt_ne (by assumption) (by omega) | exact allLt_ne' (by assumption) (by omega) | exact allLt_ne' (updF_lt (by assumption) (by assumption) _) (by omega))
section
open PySem PySem.W PySem.Spec PySem.Calls PyProof.Rows
local macro_rules | `(tactic| k_room) => `(tactic| ktr_room)
section
open PySem PySem.W PySem.Spec PySem.Calls PyProof.Rows PyProof.Rows.LCg
set_option maxRecDepth 100000
set_option maxHeartbeats 4000000
set_option linter.unusedVariables false
variable {w : World} {fa : Addr} {cd : Value} {A₀ : Around} {base h₀ : Heap} {L : Addr} {m : Str → Option Value}
  {news news' : List (Addr × Obj)} {s : Shared} {p : Program} {loose : List Str} {mean : ExcName → Option Value} {mg mb : Str → Option Value}
  {Q E : Flow → Shared → Prop}
theorem comp_used {prog : Program} {A : Around} {env : Env} {E : Value → Shared → Prop} {elt : PySem.Expr} {tg iter : PySem.Expr} {y : Str} {py : Pos} {scope : Scope} {cl : List (Str × Addr)} {pos spos : Pos} {Q : Flow → Shared → Prop}
    (hsw : swapsWith (.ListComp elt [⟨tg, iter, [], 0⟩] scope pos) (some (.Name y py)) spos.line env = pure true)
    (hclos : closureFor scope env = pure cl) (hkind : scope.kind = .function)
    (hnames : ∀ z ∈ scope.names, z.2 = .local → scope.names.lookup z.1 = some .local)
    (hs : ∀ x, foldedSetIterable iter env x = pure x)
    (h : wpAny (model prog w) A (eval iter env) (fun x s₁ => wpAny (model prog w) A (pyIter x) (fun it s₂ => wpAny (model prog w) A (newList []) (fun acc s₃ =>
      wpAny (model prog w) A (newFunctionEnv scope env.globals cl [] env.qual none .none (some env)) (fun cenv s₄ =>
        codeAny (model prog w) A (.compStart (.ListComp elt [⟨tg, iter, [], 0⟩] scope pos) 0 it acc { cenv with scope := relabel scope env }) (compPost (model prog w) A E (some (assign (.Name y py) env)) (fun _ s' => Q .next s') acc cenv.locals) s₄) E s₃) E s₂) E s₁) E s) :
    wpAny (model prog w) A (exec (.Assign [.Name y py] (.ListComp elt [⟨tg, iter, [], 0⟩] scope pos) spos) env) Q E s := by
  rw [exec_Assign_Name_used _ _ _ _ hsw]
  refine wpAny_bind (wpAny_standAt (wpAny_bind ?_))
  show wpAny _ A (do let _ ← comprehension (.ListComp elt [⟨tg, iter, [], 0⟩] scope pos) scope env _ (newList []) false (eval iter env) (some (assign (.Name y py) env))) _ _ s
  exact wpAny_bind (wpAny_mono (wpAny_comprehension_free (use := some (assign (.Name y py) env)) (Q := fun _ s' => Q .next s') rfl hs hclos hkind hnames h) (fun _ s' hq => wpAny_pure (wpAny_pure hq)) fun _ _ e => e)
section
variable {prog : Program} {A : Around} {env : Env} {elt : PySem.Expr} {x : Str} {scope : Scope} {cl : List (Str × Addr)} {s : Shared} {S : List (Addr × Obj) → Prop} {Fin : List Value → List (Addr × Obj) → Prop}
theorem ints_at {c : Value} : ∀ {vs : List Value} {ns : List Int} {i : Nat}, IntsAre vs ns → vs[i]? = some c → ∃ n t, c = .int n t ∧ ns[i]? = some n
  | _, _, 0, .cons n t h, e => ⟨n, t, (Option.some.inj e).symm, rfl⟩
  | _, _, i + 1, .cons n t h, e => ints_at (i := i) h (by simpa using e)
theorem ints_snoc {n : Int} {t : Tok} : ∀ {vs : List Value} {ns : List Int}, IntsAre vs ns → IntsAre (vs ++ [.int n t]) (ns ++ [n])
  | _, _, .nil => .cons _ _ .nil
  | _, _, .cons _ _ h => .cons _ _ (ints_snoc h)
theorem ints_two {vs : List Value} {ns : List Int} (h : IntsAre vs ns) (hn : ns.length = 2) : ∃ x1 t1 x2 t2, vs = [.int x1 t1, .int x2 t2] ∧ ns = [x1, x2] := by
  cases h with
  | nil => cases hn
  | cons x1 t1 r =>
    cases r with
    | nil => cases hn
    | cons x2 t2 q =>
      cases q with
      | nil => exact ⟨x1, t1, x2, t2, rfl, rfl⟩
      | cons _ _ _ => cases hn
theorem rest_I {its : Array Value} {ns : List Int} (hi : IntsAre its.toList ns) (hS : S news)
    (turn : ∀ c u I oI C oC D m₂ ys h tk (E' : Value → Shared → Prop), NsObj oC m₂ → m₂ x = some (.int c u) → Fr h₀ L h m → News h₀ L h ((I, oI) :: (C, oC) :: (D, lst ys) :: news) → Off3 I C D news → ((@Ne Nat I C) ∧ (@Ne Nat I D) ∧ (@Ne Nat C D)) →
      ∀ QQ : Value → Shared → Prop, (∀ h' tk' y t, Fr h₀ L h' m → News h₀ L h' ((I, oI) :: (C, oC) :: (D, lst ys) :: news) → QQ (.int y t) { s with heap := h', toks := tk' }) →
      wpAny (model prog w) A (eval elt (compEnvC scope cl C env)) QQ E' { s with heap := h, toks := tk })
    (fin : ∀ ys zs, IntsAre ys zs → Fin ys news) : CompRest prog w A h₀ L m env elt x scope cl s S (fun i v => its[i]? = some v) Fin its.size 0 [] news := by
  have key : ∀ (j i : Nat) (ys : List Value) (zs : List Int), IntsAre ys zs → CompRest prog w A h₀ L m env elt x scope cl s S (fun i v => its[i]? = some v) Fin j i ys news := by
    intro j
    induction j with
    | zero => exact fun i ys zs hy => CompRest.zero (fin ys zs hy)
    | succ j ih =>
      intro i ys zs hy
      refine CompRest.succ ?_
      rintro v I oI C oC D m₂ h tk E' hv hC hx F N off ne
      obtain ⟨n, t, rfl, _⟩ := ints_at hi (c := v) (i := i) (by simpa using hv)
      refine turn n t I oI C oC D m₂ ys h tk E' hC hx F N off ne _ (fun h'' tk'' y t F'' N'' => ?_)
      exact ⟨h'', tk'', news, rfl, F'', N'', off, hS, ih (i + 1) _ _ (ints_snoc hy)⟩
  exact key _ 0 [] [] .nil
end
theorem fresh_h {h : Heap} {a : Addr} (F : Fr h₀ L h m) (ha : h.objs.size ≤ a) : h₀.get? a = none := by
  cases e : h₀.get? a with
  | none => rfl
  | some o => exact absurd (Heap.lt_size (F.keep a o e)) (Nat.not_lt.mpr ha)
local macro_rules | `(tactic| walk_at "eval ListComp") => `(tactic| (k_here; k_dflt (refine ListComp_Q (F₀ := by k_asm) (by with_unfolding_all rfl) (by decide) (by rfl) (by decide) (by rfl) ?_)))
theorem st2 {QQ : Flow → Shared → Prop} {EE : Value → Shared → Prop} {un na : Option Value} {oS : Obj} {sl : Addr} {svs : List Value} {sns : List Int} (hs : (L + 1, oS) ∈ news) (hsc : oS.data = .cell (some (.ref sl))) (hsl : h₀.IsList sl svs.toArray) (hsi : IntsAre svs sns) (hsn : sns.length ≤ 63)
  (B : Below callerA h₀ [] h₀) (F : Fr h₀ L s.heap (lwF un na none none none none none none none none none)) (X : (Mine.topK w.params).In h₀) (N : News h₀ L s.heap news) (T : Top p loose mean mg mb h₀)
  (ret : ∀ h' tk' U (x1 x2 : Int) t1 t2 n, Fr h₀ L h' (lwF un na none (some (.ref U)) none none none none none none none) → News h₀ L h' ((U, listOf #[Value.int x1 t1, Value.int x2 t2] n) :: news) → (∀ p ∈ news, p.1 ≠ U) → 0 ≤ x1 → x1 < 41472 → 0 ≤ x2 → x2 < 41472 →
    QQ .next { s with heap := h', toks := tk' }) :
  wpAny (model PySem.Challenge.rw_re0120_01.row.prog w) (lwA L fa cd) (exec lw_2 (lwEnv L fa cd)) QQ EE s := by
  revert X
  k_fill
  intro X
  refine comp_used (by rfl) (by with_unfolding_all rfl) (by rfl) (by decide) (fun _ => rfl) ?_
  -- none
  k_steps
  rename_i l9a _ _ _ _
  rename ∀ p ∈ news, p.1 < _ => l9
  rename Fr _ _ _ _ => F9
  rename News _ _ _ _ => N9
  refine call_enumerate_list (isList_news N9 (List.Mem.head _)) fun h1 he hit hz hk => ?_
  refine wpAny_pyIter_enum he ?_
  dsimp only at he hit hz hk F9 N9 ⊢
  have lt9 := Heap.lt_size (N9 _ (List.Mem.head _)).1
  obtain ⟨s2, hs2⟩ : ∃ s2 : Shared, s2 = { s with heap := h1, toks := s.toks + 1 + 1 } := ⟨_, rfl⟩
  have F2 := F9.keeps hk
  have N2 := N9.grown hk
  have e2 : h1 = s2.heap := by rw [hs2]
  show wpAny _ _ _ _ _ { s with heap := h1, toks := s.toks + 1 + 1 }
  rw [← hs2]
  rw [e2] at F2 N2 he hit
  refine block_E (Ok := fun i ys => ∃ zs, IntsAre ys zs ∧ zs.length = i ∧ ∀ z ∈ zs, 0 ≤ z ∧ z < 41472) rfl (by rw [sizeLine_eq]; exact Nat.le_of_ble_eq_true rfl) (by decide) (by rfl) (by rfl) (by rfl) (by decide) he hit (List.Mem.head _) (Nat.succ_ne_self _) (Nat.ne_of_lt (Nat.lt_succ_of_lt lt9)) (Nat.ne_of_lt lt9) ?e0 ?i0 ?eL ?iL ?of F2 N2 ⟨[], .nil, rfl, fun _ h => nomatch h⟩ ?R ?RR
  case e0 => exact fresh_h F9 (Nat.le_succ _)
  case i0 => exact fresh_h F9 (Nat.le_refl _)
  case eL => exact Nat.ne_of_gt (Nat.lt_succ_of_lt F9.ns.lt)
  case iL => exact Nat.ne_of_gt F9.ns.lt
  case of => exact fun p hp => ⟨Nat.ne_of_lt (Nat.lt_succ_of_lt (Heap.lt_size (N9 p hp).1)), Nat.ne_of_lt (Heap.lt_size (N9 p hp).1)⟩
  case R =>
    intro i v t C oC D oE oI m₂ h tk ys QQ1 E' hiv hok hC hm1 hm2 F N off ne hret

    obtain ⟨n, t', rfl, _⟩ : ∃ n t, v = .int n t ∧ _ := ints_at (vs := [Value.int 23226 s.toks, Value.int 34646 (s.toks + 1)]) (.cons _ _ (.cons _ _ .nil)) (by simpa using hiv)
    k_steps
    rename News _ _ _ _ => N7
    rename Fr _ _ _ _ => F7
    dsimp only at N7 F7 ⊢
    generalize hax : h.objs.size + 1 = ax at N7 ⊢
    have hpk := hsi.pick (some ((i : Nat) : Int)) (some 63) (some 2)
    have hls := hsi.length
    have hlp : (slicePick svs.toArray (some ((i : Nat) : Int)) (some 63) (some 2)).size ≤ sns.length := Nat.le_trans (slicePick_size_le svs.toArray (some ((i : Nat) : Int)) (some 63) (some 2)) (Nat.le_of_eq (by rw [List.size_toArray]; exact hls))
    k_dflt (refine CompSrc.ledger rfl F7 N7 (List.Mem.head _) (by rw [sizeLine_eq]; omega) ?_)
    intro g'
    refine rest_I hpk (.inr ⟨_, List.Mem.head _, rfl, _, rfl⟩) ?turn ?fin
    case turn =>
      intro c u I oI C2 oC2 D2 m₂ ys h tk E' hC2 hx F N off2 ne2 QQ hret
      k_steps
      exact hret _ _ _ _ (by assumption) (by assumption)
    case fin =>
      intro ys2 zs2 hys2 D2 h2 tk2 F2 N2 o1
      k_steps
      obtain ⟨zs, hz1, hz2, hz3⟩ := hok
      refine hret _ _ _ (by assumption) ?nn ⟨zs ++ [(n + zs2.sum).fmod 41472], ints_snoc hz1, by rw [List.length_append, hz2]; rfl, ?_⟩
      case nn => exact fun p hp => (by assumption : News h₀ L _ _) p (.tail _ (.tail _ hp))
      intro z hz
      rcases List.mem_append.mp hz with q | q
      · exact hz3 z q
      · rw [List.mem_singleton.mp q]
        exact ⟨Int.fmod_nonneg_of_pos _ (by decide), Int.fmod_lt_of_pos _ (by decide)⟩
  case RR =>
    intro D C h tk m' ys F N offD hn hC₀ hD₀ hCL hDL hCD offC hok
    obtain ⟨zs, hz1, hz2, hz3⟩ := hok
    obtain ⟨x1, t1, x2, t2, rfl, rfl⟩ := ints_two hz1 hz2
    have b1 := hz3 x1 (.head _)
    have b2 := hz3 x2 (.tail _ (.head _))
    show wpAny _ _ (assign (.Name (Str.ofString "drawn") _) (lwEnv L fa cd) (.ref D)) _ _ _
    refine wpAny_assign_Name (wpAny_storeName_local rfl F.ns (fun h₂ hn₂ hs₂ => ?_) rfl)
    replace hs₂ : Heap.SameBut L h h₂ := hs₂
    have hL₀ : h₀.get? L = none := Heap.get?_none_of_le F.above
    have F₂ : Fr h₀ L h₂ _ := ⟨hn₂, fun b o e => hs₂.extBut b o (fun q => by rw [q, hL₀] at e; cases e) (F.keep b o e), F.above⟩
    rw [lwF_drawn] at F₂
    refine ⟨m', hn.sameBut hs₂ hCL, fun h'' hs'' => ?_⟩
    rw [hs2]
    refine ret h'' _ D x1 x2 t1 t2 2 (F₂.change hs'' hCL hC₀) (fun p hp => ?_) (fun p hp => offD p (.tail _ hp)) b1.1 b1.2 b2.1 b2.2
    have hm : p ∈ (D, lst [Value.int x1 t1, Value.int x2 t2]) :: (l9a, W.listOf #[Value.int 23226 s.toks, Value.int 34646 (s.toks + 1)] 0) :: news := by
      rcases List.mem_cons.mp hp with rfl | hp
      · exact .head _
      · exact .tail _ (.tail _ hp)
    have z : h₂.get? p.1 = some p.2 := hs₂.extBut _ _ (N p hm).2.1 (N p hm).1
    refine ⟨hs''.extBut _ _ ?_ z, (N p hm).2⟩
    rcases List.mem_cons.mp hp with rfl | hp
    · exact Ne.symm hCD
    · exact offC p (.tail _ hp)
end
section
open PySem PySem.W PySem.Spec PySem.Calls PyProof.Rows
local macro_rules | `(tactic| walk_at "call ref") => `(tactic| (k_here; (with_reducible show wpAny _ _ (call (Value.ref 134) [Value.str _ _]) _ _ _); k_dflt (refine' lexer1_K ?hC ?U ?B ?F ?X ?N ?T ?r ?u ?z ?_; (case hC => k_asm); (case U => k_updF); (case B | F | X | N | T => k_asm); (case r => ktr_room); (case u => ktr_units); (case z => exact Nat.le_of_ble_eq_true rfl); k_whole); intro h' tk' x d pb f fd rd ce sg c2 c1 h1 h2 h3 h4 k1 k2 k3 k4 k5 k6 h5 k7 pm ct F1 oc2 vs2 t2 oc1 oce vs n F' N' hS' ho1 ho2 ho3 o0 o1 o2 o3 o4 o5 o6 o7 o8 o9; (try k_sweep)))
section
open PySem PySem.W PySem.Spec PySem.Calls PyProof.Rows PyProof.Rows.LCg
set_option maxRecDepth 100000
set_option maxHeartbeats 4000000
set_option linter.unusedVariables false
variable {w : World} {fa : Addr} {cd : Value} {A₀ : Around} {base h₀ : Heap} {L : Addr} {m : Str → Option Value}
  {news news' : List (Addr × Obj)} {s : Shared} {p : Program} {loose : List Str} {mean : ExcName → Option Value} {mg mb : Str → Option Value}
  {Q E : Flow → Shared → Prop}
theorem st3 {QQ : Flow → Shared → Prop} {EE : Value → Shared → Prop} {un na dr : Option Value} {oL : Obj} (hC : CodeHd h₀ 133 129) (hoL : oL.data = .cell none) (h1 : ∀ p ∈ news, p.1 ≠ 129) (h2 : ∀ p ∈ news, p.1 ≠ L + 2) (h3 : 129 < L)
  (B : Below callerA h₀ [] h₀) (F : Fr h₀ L s.heap (lwF un na none dr none none none none none none none)) (X : (Mine.topK w.params).In h₀) (N : News h₀ L s.heap ((L + 2, oL) :: (129, tab0) :: news)) (T : Top p loose mean mg mb h₀)
  (ret : ∀ h' tk' x d pb f fd rd ce sg c2 c1 g n u oL', Fr h₀ L h' (lwF un na none dr none none none none none none none) → News h₀ L h' ((pb, listOf ([] : List Value).toArray 0) :: g (listOf [Value.str (Str.ofString ".") u].toArray n)) →
    LexG g x d pb f fd rd ce sg c2 → pb ≠ sg → (∀ o, ∀ p ∈ g o, p.1 ≠ pb) → (∀ o, (129, tab2 c1 c2) ∈ g o) → oL'.data = .cell (some (.ref x)) → (∀ o, (L + 2, oL') ∈ g o) → (∀ o, ∀ p ∈ news, p ∈ g o) → (∃ oc2 vs2 t2, (∀ o, (c2, oc2) ∈ g o) ∧ oc2.data = .fields vs2 ∧ vs2[1]? = some (.str lamQ t2)) → QQ .next { s with heap := h', toks := tk' }) :
  wpAny (model PySem.Challenge.rw_re0120_01.row.prog w) (lwA L fa cd) (exec lw_3 (lwEnv L fa cd)) QQ EE s := by
  revert X
  k_fill
  intro X
  have U : UpdF 129 tab0 ((L + 2, oL) :: (129, tab0) :: news) _ := .tail (by show L + 2 ≠ 129; exact Nat.ne_of_gt (Nat.lt_succ_of_lt (Nat.lt_succ_of_lt h3))) (.head h1)
  k_steps
  rename_i h7 tk7 x d pb f fd rd ce sg c2 c1 e1 e2 e3 e4 k1 k2 k3 k4 k5 k6 h5 k7 pm ct F1 oc2 vs2 t2 oc1 oce vs n F7 N7 hS hc2 hv2 hce o0 o1 o2 o3 o4 o5 o6 o7 o8 o9
  obtain ⟨u, rfl⟩ : ∃ u, vs = [Value.str (Str.ofString ".") u] := by
    cases hS with
    | cons y t r => cases r; exact ⟨t, rfl⟩
  have oL2 : L + 2 < ce := o0 _ (.head _)
  have o129 : 129 < ce := o0 _ (.tail _ (.head _))
  have h32 : 129 ≠ L + 2 := Nat.ne_of_lt (Nat.lt_succ_of_lt (Nat.lt_succ_of_lt h3))
  have hnl : ∀ p ∈ (129, tab2 c1 c2) :: news, p.1 ≠ L + 2 := fun p hp => by
    rcases List.mem_cons.mp hp with rfl | hp
    · exact h32
    · exact h2 p hp
  have U2 : UpdF (L + 2) oL _ _ := .tail (p := (pb, listOf ([] : List Value).toArray 0)) (show pb ≠ L + 2 by (simp only [Addr] at *; omega)) (.tail (p := (x, instObj 52 d)) (show x ≠ L + 2 by (simp only [Addr] at *; omega)) (.tail (p := (d, lexDict e1 e2 e3 e4 k1 k2 k3 k4 k5 k6 f pb)) (show d ≠ L + 2 by (simp only [Addr] at *; omega))
    (.tail (p := (fd, dictOf [⟨h5, .str (Str.ofString "read") k7, .ref rd⟩] 1)) (show fd ≠ L + 2 by (simp only [Addr] at *; omega)) (.tail (p := (rd, readObj lamQ ce pm c2 ct)) (show rd ≠ L + 2 by (simp only [Addr] at *; omega)) (.tail (p := (c2, oc2)) (show c2 ≠ L + 2 by (simp only [Addr] at *; omega))
    (.tail (p := (f, (⟨.type "function", some fd, .func F1, #[]⟩ : Obj))) (show f ≠ L + 2 by (simp only [Addr] at *; omega)) (.tail (p := (c1, oc1)) (show c1 ≠ L + 2 by (simp only [Addr] at *; omega)) (.tail (p := (sg, listOf [Value.str (Str.ofString ".") u].toArray n)) (show sg ≠ L + 2 by (simp only [Addr] at *; omega)) (.tail (p := (ce, oce)) (show ce ≠ L + 2 by (simp only [Addr] at *; omega)) (.head hnl))))))))))
  refine storeX_C F7 N7 rfl U2 hoL fun h' o' F' N' d' => ?_
  refine ret h' _ x d pb f fd rd ce sg c2 c1 (fun o => (x, instObj 52 d) :: (d, lexDict e1 e2 e3 e4 k1 k2 k3 k4 k5 k6 f pb) :: (fd, dictOf [⟨h5, .str (Str.ofString "read") k7, .ref rd⟩] 1) :: (rd, readObj lamQ ce pm c2 ct) :: (c2, oc2) :: (f, (⟨.type "function", some fd, .func F1, #[]⟩ : Obj)) :: (c1, oc1) :: (sg, o) :: (ce, oce) :: (L + 2, o') :: (129, tab2 c1 c2) :: news) n u o' F' N' ?G (show pb ≠ sg by (simp only [Addr] at *; omega)) ?pb ?tab d' ?cell ?sub ⟨oc2, vs2, t2, fun o => by simp, hc2, hv2⟩
  case pb =>
    intro o p hp
    simp only [List.mem_cons] at hp
    rcases hp with rfl | rfl | rfl | rfl | rfl | rfl | rfl | rfl | rfl | rfl | rfl | hp
    all_goals first | (have q := o0 p (.tail _ (.tail _ hp)); (simp only [Addr] at *; omega)) | skip
    all_goals dsimp only
    all_goals (simp only [Addr] at *; omega)
  case tab => intro o; simp
  case cell => intro o; simp
  case sub => intro o p hp; simp [hp]
  case G =>
    refine ⟨fun o o'' => .tail (show x ≠ sg by (simp only [Addr] at *; omega)) (.tail (show d ≠ sg by (simp only [Addr] at *; omega)) (.tail (show fd ≠ sg by (simp only [Addr] at *; omega)) (.tail (show rd ≠ sg by (simp only [Addr] at *; omega)) (.tail (show c2 ≠ sg by (simp only [Addr] at *; omega)) (.tail (show f ≠ sg by (simp only [Addr] at *; omega)) (.tail (show c1 ≠ sg by (simp only [Addr] at *; omega)) (.head ?_))))))), fun o => by simp, ⟨e1, e2, e3, e4, k1, k2, k3, k4, k5, k6, fun o => by simp⟩, ⟨F1, fun o => by simp⟩, ⟨h5, k7, fun o => by simp⟩, ⟨lamQ, pm, ct, oc2, vs2, t2, fun o => by simp, fun o => by simp, hc2, hv2⟩, ⟨oce, fun o => by simp, hce⟩⟩
    intro p hp
    simp only [List.mem_cons] at hp
    rcases hp with rfl | rfl | rfl | hp
    all_goals first | (have q := o0 p (.tail _ (.tail _ hp)); (simp only [Addr] at *; omega)) | skip
    all_goals dsimp only
    all_goals (simp only [Addr] at *; omega)
end
end
section
open PySem PySem.W PySem.Spec PySem.Calls PyProof.Rows PyProof.Rows.LCg
set_option maxRecDepth 100000
set_option maxHeartbeats 4000000
set_option linter.unusedVariables false
noncomputable def exprVal : Stmt → PySem.Expr
  | .Expr e _ => e
  | _ => .Constant .none 0 default
noncomputable def callArg : PySem.Expr → PySem.Expr
  | .Call _ (e :: _) _ _ => e
  | _ => .Constant .none 0 default
noncomputable abbrev lw_txt : PySem.Expr := by
  refine (fun (_ : callArg (callArg (exprVal (stAt (forBody (stAt (defBody lwDef) 4)) 0))) = ?l) => ?l) ?h
  case h => (conv => lhs; whnf)
variable {w : World} {fa : Addr} {cd : Value} {A₀ : Around} {base h₀ : Heap} {L : Addr} {m : Str → Option Value}
  {news news' : List (Addr × Obj)} {s : Shared} {p : Program} {loose : List Str} {mean : ExcName → Option Value} {mg mb : Str → Option Value}
  {Q E : Value → Shared → Prop}
theorem nm_get {U : Addr} {k : Int} (h : NmOk U news) (h0 : 0 ≤ k) (h1 : k < 6) : ∃ (vs : List Value) (n : Nat) (a : Addr) (t1 t2 n2 : Nat), (U, listOf (List.toArray vs) n) ∈ news ∧ vs[k.toNat]? = some (.ref a) ∧ (a, listOf #[Value.str (nmA.getD k.toNat default).1 t1, Value.str (nmA.getD k.toNat default).2 t2] n2) ∈ news := by
  obtain ⟨a0, a1, a2, a3, a4, a5, n, hU, hA⟩ := h
  have hk : k.toNat < 6 := by omega
  generalize k.toNat = j at hk
  match j, hk with
  | 0, _ => obtain ⟨t, u, k, hm⟩ := hA 0 a0 _ rfl rfl; exact ⟨[.ref a0, .ref a1, .ref a2, .ref a3, .ref a4, .ref a5], n, a0, t, u, k, hU, rfl, hm⟩
  | 1, _ => obtain ⟨t, u, k, hm⟩ := hA 1 a1 _ rfl rfl; exact ⟨[.ref a0, .ref a1, .ref a2, .ref a3, .ref a4, .ref a5], n, a1, t, u, k, hU, rfl, hm⟩
  | 2, _ => obtain ⟨t, u, k, hm⟩ := hA 2 a2 _ rfl rfl; exact ⟨[.ref a0, .ref a1, .ref a2, .ref a3, .ref a4, .ref a5], n, a2, t, u, k, hU, rfl, hm⟩
  | 3, _ => obtain ⟨t, u, k, hm⟩ := hA 3 a3 _ rfl rfl; exact ⟨[.ref a0, .ref a1, .ref a2, .ref a3, .ref a4, .ref a5], n, a3, t, u, k, hU, rfl, hm⟩
  | 4, _ => obtain ⟨t, u, k, hm⟩ := hA 4 a4 _ rfl rfl; exact ⟨[.ref a0, .ref a1, .ref a2, .ref a3, .ref a4, .ref a5], n, a4, t, u, k, hU, rfl, hm⟩
  | 5, _ => obtain ⟨t, u, k, hm⟩ := hA 5 a5 _ rfl rfl; exact ⟨[.ref a0, .ref a1, .ref a2, .ref a3, .ref a4, .ref a5], n, a5, t, u, k, hU, rfl, hm⟩
theorem nm_len0 : ∀ k : _root_.Fin 6, (nmA.getD k default).1.length ≤ 3 ∧ (nmA.getD k default).2.length ≤ 3 := by decide +kernel
theorem nm_len {k : Int} (h0 : 0 ≤ k) (h1 : k < 6) : (nmA.getD k.toNat default).1.length ≤ 3 ∧ (nmA.getD k.toNat default).2.length ≤ 3 := nm_len0 ⟨k.toNat, by omega⟩
theorem un_bnd0 : ∀ k : _root_.Fin 27, 128 ≤ unseenI.getD k 0 ∧ unseenI.getD k 0 ≤ 70000 ∧ b1S (unseenI.getD k 0) = true := by decide +kernel
theorem un_bnd {k : Int} (h0 : 0 ≤ k) (h1 : k < 27) : 128 ≤ unseenI.getD k.toNat 0 ∧ unseenI.getD k.toNat 0 ≤ 70000 ∧ b1S (unseenI.getD k.toNat 0) = true := un_bnd0 ⟨k.toNat, by omega⟩
noncomputable def textX (x : Int) : Str := Txt.mul (Str.ofString "\\") (x.fmod 16) ++ ⟨#[(unseenI.getD ((x.fdiv 256).fmod 27).toNat 0).toNat]⟩ ++ Txt.mul (Str.ofString "\\") ((x.fdiv 16).fmod 16) ++ (nmA.getD (x.fdiv 6912).toNat default).1
theorem mul_len16 {k : Int} (h0 : 0 ≤ k) (h1 : k < 16) : (Txt.mul (Str.ofString "\\") k).length < 16 := by
  have := len_mul (Str.ofString "\\") k
  rw [show (Str.ofString "\\").length = 1 from rfl] at this
  split at this <;> omega
theorem app_len (a b : Str) : (a ++ b).length = a.length + b.length := by
  show (a.cps ++ b.cps).size = _
  rw [Array.size_append]; rfl
end
section
open PySem PySem.W PySem.Spec PySem.Calls PyProof.Rows
set_option maxRecDepth 100000
set_option maxHeartbeats 4000000
set_option linter.unusedVariables false
theorem join_flat : ∀ l : List Str, Txt.join (Str.ofString "") l = ⟨(l.flatMap fun s => s.cps.toList).toArray⟩ := by
  intro l
  have e := eq_of_beq (join_plain_closes (Str.ofString "") l)
  rw [e]
  induction l with
  | nil => rfl
  | cons y r ih =>
    have h := join_nil_cons y r
    rw [show (Str.ofString "") = (⟨#[]⟩ : Str) from rfl] at ih ⊢
    rw [h, ih (eq_of_beq (join_plain_closes _ r))]
    obtain ⟨⟨a⟩⟩ := y
    show Str.mk (_ ++ _) = Str.mk _
    simp
noncomputable def fM (c : Nat) : Str := if c = 92 then Str.ofString "\\" else if c = 97 then Str.ofString "a" else if c = 81 then Str.ofString "q" else if c = 223 then Str.ofString "ss" else if c = 64259 then Str.ofString "ffi" else if c = 119809 then Str.ofString "b" else if c = 8481 then Str.ofString "tel" else Str.ofString ""
theorem fM_len (c : Nat) : (fM c).length ≤ 4 := by
  unfold fM
  repeat' split
  all_goals decide
noncomputable def okB (c : Nat) : Bool := (match b3F (c : Int) with | some (.str z _) => z == fM c | none => (c == 92 && fM c == Str.ofString "\\") || (c == 97 && fM c == Str.ofString "a") || (c == 81 && fM c == Str.ofString "q") | _ => false)
theorem okC_of {c : Nat} (h : okB c = true) : OkC c (fM c) := by
  unfold okB at h
  split at h
  · rename_i z u e
    exact .inl ⟨u, by rw [e, eq_of_beq h]⟩
  · rename_i e
    refine .inr ⟨?_, e⟩
    simp only [Bool.or_eq_true, Bool.and_eq_true, beq_iff_eq] at h
    rcases h with (h | h) | h
    · exact .inl h
    · exact .inr (.inl h)
    · exact .inr (.inr h)
  · cases h
theorem ok92 : okB 92 = true := by decide +kernel
theorem okNm : ∀ k : _root_.Fin 6, ∀ c ∈ (nmA.getD k default).1.cps.toList, okB c = true ∧ b1S (c : Int) = false := by decide +kernel
theorem nmMap : ∀ k : _root_.Fin 6, ((nmA.getD k default).1.cps.toList.map fM).flatMap (fun s => s.cps.toList) = (nmA.getD k default).2.cps.toList := by decide +kernel
theorem wd_list (k : Nat) (y : Str) : (wd k y).cps.toList = List.replicate k 92 ++ y.cps.toList := by simp [wd]
theorem textX_eq (x : Int) : textX x = wd (x.fmod 16).toNat ((⟨#[(unseenI.getD ((x.fdiv 256).fmod 27).toNat 0).toNat]⟩ : Str) ++ wd ((x.fdiv 16).fmod 16).toNat (nmA.getD (x.fdiv 6912).toNat default).1) := by
  unfold textX
  rw [Str.append_assoc, Str.append_assoc, wd_of, wd_of]
theorem cons_list (c : Nat) (y : Str) : ((⟨#[c]⟩ : Str) ++ y).cps.toList = c :: y.cps.toList := by
  obtain ⟨⟨a⟩⟩ := y
  show (#[c] ++ (⟨a⟩ : Array Nat)).toList = _
  simp
noncomputable def pqX (x : Int) : Nat := (x.fmod 16).toNat + ((x.fdiv 16).fmod 16).toNat
noncomputable def nmX (x : Int) : Str := (nmA.getD (x.fdiv 6912).toNat default).2
theorem flat_rep : ∀ k : Nat, ((List.replicate k 92).map fM).flatMap (fun s => s.cps.toList) = List.replicate k 92
  | 0 => rfl
  | k + 1 => by rw [List.replicate_succ, List.map_cons, List.flatMap_cons, flat_rep k]; rfl
theorem bound_x {x : Int} (h0 : 0 ≤ x) (h1 : x < 41472) : 0 ≤ x.fmod 16 ∧ x.fmod 16 < 16 ∧ 0 ≤ (x.fdiv 256).fmod 27 ∧ (x.fdiv 256).fmod 27 < 27 ∧ 0 ≤ (x.fdiv 16).fmod 16 ∧ (x.fdiv 16).fmod 16 < 16 ∧ 0 ≤ x.fdiv 6912 ∧ x.fdiv 6912 < 6 :=
  ⟨Int.fmod_nonneg_of_pos _ (by omega), Int.fmod_lt_of_pos _ (by omega), Int.fmod_nonneg_of_pos _ (by omega), Int.fmod_lt_of_pos _ (by omega), Int.fmod_nonneg_of_pos _ (by omega), Int.fmod_lt_of_pos _ (by omega), Int.fdiv_nonneg (by omega) (by omega), by rw [Int.fdiv_eq_ediv_of_nonneg _ (by omega)]; omega⟩
theorem textX_list (x : Int) : (textX x).cps.toList = List.replicate (x.fmod 16).toNat 92 ++ (unseenI.getD ((x.fdiv 256).fmod 27).toNat 0).toNat :: (List.replicate ((x.fdiv 16).fmod 16).toNat 92 ++ (nmA.getD (x.fdiv 6912).toNat default).1.cps.toList) := by
  rw [textX_eq, wd_list, cons_list, wd_list]
theorem prep_text {x : Int} (h0 : 0 ≤ x) (h1 : x < 41472) : Txt.join (Str.ofString "") (((textX x).cps.toList.filter fun c : Nat => !b1S (c : Int)).map fM) = wd (pqX x) (nmX x) := by
  obtain ⟨a0, a1, b0, b1, c0, c1, d0, d1⟩ := bound_x h0 h1
  obtain ⟨u0, u1, u2⟩ := un_bnd b0 b1
  have hk := okNm ⟨(x.fdiv 6912).toNat, by omega⟩
  have hm := nmMap ⟨(x.fdiv 6912).toNat, by omega⟩
  dsimp only at hk hm
  rw [textX_list, join_flat]
  have f92 : ∀ k : Nat, (List.replicate k 92).filter (fun c : Nat => !b1S (c : Int)) = List.replicate k 92 := fun k => List.filter_eq_self.mpr fun c hc => by rw [List.eq_of_mem_replicate hc]; decide
  have fn : (nmA.getD (x.fdiv 6912).toNat default).1.cps.toList.filter (fun c : Nat => !b1S (c : Int)) = (nmA.getD (x.fdiv 6912).toNat default).1.cps.toList := List.filter_eq_self.mpr fun c hc => by rw [(hk c hc).2]; rfl
  have fc : (!b1S (((unseenI.getD ((x.fdiv 256).fmod 27).toNat 0).toNat : Nat) : Int)) = false := by rw [Int.toNat_of_nonneg (by omega), u2]; rfl
  rw [List.filter_append, List.filter_cons_of_neg (by rw [fc]; exact Bool.false_ne_true), List.filter_append, f92, f92, fn, List.map_append, List.map_append, List.flatMap_append, List.flatMap_append, flat_rep, flat_rep, hm]
  unfold wd pqX nmX
  rw [← List.append_assoc, List.replicate_append_replicate]
theorem textX_all {x : Int} (h0 : 0 ≤ x) (h1 : x < 41472) : (textX x).cps.all (· < 128) = false := by
  obtain ⟨a0, a1, b0, b1, c0, c1, d0, d1⟩ := bound_x h0 h1
  obtain ⟨u0, u1, u2⟩ := un_bnd b0 b1
  rw [Array.all_eq_false']
  refine ⟨(unseenI.getD ((x.fdiv 256).fmod 27).toNat 0).toNat, ?_, ?_⟩
  · rw [← Array.mem_toList_iff, textX_list]; simp
  · simp only [decide_eq_true_eq]; omega
theorem textX_size {x : Int} (h0 : 0 ≤ x) (h1 : x < 41472) : (textX x).cps.size ≤ 1000 := by
  obtain ⟨a0, a1, b0, b1, c0, c1, d0, d1⟩ := bound_x h0 h1
  have := (nm_len d0 d1).1
  rw [← Array.length_toList, textX_list]
  have e : (nmA.getD (x.fdiv 6912).toNat default).1.cps.toList.length ≤ 3 := by rw [Array.length_toList]; exact this
  simp only [List.length_append, List.length_replicate, List.length_cons]
  omega
theorem textX_ok {x : Int} (h0 : 0 ≤ x) (h1 : x < 41472) : ∀ c ∈ (textX x).cps.toList, b1S (c : Int) = false → OkC c (fM c) := by
  obtain ⟨a0, a1, b0, b1, c0, c1, d0, d1⟩ := bound_x h0 h1
  obtain ⟨u0, u1, u2⟩ := un_bnd b0 b1
  have hk := okNm ⟨(x.fdiv 6912).toNat, by omega⟩
  intro c hc hb
  rw [textX_list] at hc
  rcases List.mem_append.mp hc with h | h
  · rw [List.eq_of_mem_replicate h]; exact okC_of ok92
  · rcases List.mem_cons.mp h with h | h
    · rw [h, Int.toNat_of_nonneg (by omega), u2] at hb; cases hb
    · rcases List.mem_append.mp h with h | h
      · rw [List.eq_of_mem_replicate h]; exact okC_of ok92
      · exact okC_of (hk c h).1
end
section
open PySem PySem.W PySem.Spec PySem.Calls PyProof.Rows PyProof.Rows.LCg
set_option maxRecDepth 100000
set_option maxHeartbeats 4000000
set_option linter.unusedVariables false
section
variable {prog : Program} {w : World} {A : Around} {E : Value → Shared → Prop} {h₀ : Heap} {m : Str → Option Value} {env : Env}
noncomputable abbrev Ledger := List (Addr × Obj)
theorem loop_W {x : Str} {px : Pos} {body : List Stmt} {it : Addr} {fp : List Addr} {n : Nat} {P : Nat → Value → Prop} {St : Nat → Heap → Prop} {oI : Obj} {nw keep : Ledger} {s₁ : Shared} {R : Result → Shared → Prop}
    {S : Nat → (Str → Option Value) → Ledger → Array GenState → Prop}
    (W : Walks prog w A it fp [it] n P St) (hIo : ∀ i h, St i h → ∃ o, h.get? it = some o) (hfp : ∀ b ∈ fp, b = it ∨ ∃ o, (b, o) ∈ keep) (hiL : it ≠ env.locals) (hi₀ : h₀.get? it = none)
    (hx : env.kindOf x = some .local) (hp : (env.scope.kind == .class || (env.scope.kind == .module && env.locals != env.globals)) = false)
    (hst : St 0 s₁.heap) (F : Fr h₀ env.locals s₁.heap m) (N : News h₀ env.locals s₁.heap ((it, oI) :: nw)) (hS : S 0 m nw s₁.gens)
    (hSo : ∀ i m nw gs, S i m nw gs → (∀ p ∈ nw, p.1 ≠ it) ∧ ∀ p ∈ keep, p ∈ nw)
    (turn : ∀ i v m nw gs h tk oI (QQ : Flow → Shared → Prop) (EE : Value → Shared → Prop), i < n → P i v → S i m nw gs → Fr h₀ env.locals h (fun y => if y = x then some v else m y) → News h₀ env.locals h ((it, oI) :: nw) →
      (∀ h' tk' m' nw' gs', Fr h₀ env.locals h' m' → News h₀ env.locals h' ((it, oI) :: nw') → S (i + 1) m' nw' gs' → QQ .next { s₁ with heap := h', toks := tk', gens := gs' }) →
      wpAny (model prog w) A (execs body env) QQ EE { s₁ with heap := h, toks := tk, gens := gs })
    (fin : ∀ m nw gs h tk, S n m nw gs → Fr h₀ env.locals h m → News h₀ env.locals h nw → R (.ok .next) { s₁ with heap := h, toks := tk, gens := gs }) :
    codeAny (model prog w) A (.forLoop (.Name x px) (.ref it) body [] env) R s₁ := by
  refine codeAny_forLoop (fun k s' => ∃ h tk gs i m nw oI, s' = { s₁ with heap := h, toks := tk, gens := gs } ∧ i ≤ n ∧ k = n - i ∧ St i h ∧ Fr h₀ env.locals h m ∧ News h₀ env.locals h ((it, oI) :: nw) ∧ S i m nw gs) ?_ n
    ⟨s₁.heap, s₁.toks, s₁.gens, 0, m, nw, oI, rfl, Nat.zero_le _, rfl, hst, F, N, hS⟩
  rintro k s' ⟨h, tk, gs, i, m, nw, oI, rfl, hi, rfl, hst, F, N, hS⟩
  have so := hSo _ _ _ _ hS
  by_cases hlt : i < n
  · refine W.item i _ _ _ hlt hst fun v h₂ tk₂ hPv hst₂ hk₂ => ?_
    have hk : ∀ b o, b ≠ it → h.get? b = some o → h₂.get? b = some o := fun b o hb e => hk₂ b o (by simpa using hb) e
    refine wpAny_assign_Name (wpAny_storeName_local hx (F.ns.at' fun o e => hk _ o (Ne.symm hiL) e) (fun h₃ hn₃ hs₃ => ?_) hp)
    replace hs₃ : Heap.SameBut env.locals h₂ h₃ := hs₃
    have hL₀ : h₀.get? env.locals = none := Heap.get?_none_of_le F.above
    have F₃ : Fr h₀ env.locals h₃ (fun y => if y = x then some v else m y) := ⟨hn₃, fun b o e => hs₃.extBut b o (fun q => by rw [q, hL₀] at e; cases e) (hk b o (fun q => by rw [q, hi₀] at e; cases e) (F.keep b o e)), F.above⟩
    have hl3 : ∀ p ∈ nw, h₃.get? p.1 = some p.2 := fun p hp => hs₃.extBut _ _ (N p (.tail _ hp)).2.1 (hk _ _ (so.1 p hp) (N p (.tail _ hp)).1)
    have hst₃ : St (i + 1) h₃ := W.frame _ _ _ hst₂ fun b hb o e => by
      rcases hfp b hb with rfl | ⟨o', hm⟩
      · exact hs₃.extBut _ _ hiL e
      · exact hs₃.extBut _ _ (N (b, o') (.tail _ (so.2 _ hm))).2.1 e
    obtain ⟨oI', heI⟩ := hIo _ _ hst₃
    have N₃ : News h₀ env.locals h₃ ((it, oI') :: nw) := fun p hp => by
      rcases List.mem_cons.mp hp with rfl | hp
      · exact ⟨heI, hiL, hi₀⟩
      · exact ⟨hl3 p hp, (N p (.tail _ hp)).2⟩
    refine wpAny_mono (turn i v m nw gs h₃ _ oI' (fun f s₃ => match f with
          | .next | .cont => ∃ m_1, m_1 < n - i ∧ ∃ h tk gs i m nw oI, s₃ = { s₁ with heap := h, toks := tk, gens := gs } ∧ i ≤ n ∧ m_1 = n - i ∧ St i h ∧ Fr h₀ env.locals h m ∧ News h₀ env.locals h ((it, oI) :: nw) ∧ S i m nw gs
          | .brk => R (.ok .next) s₃
          | .ret v => R (.ok (.ret v)) s₃) _ hlt hPv hS F₃ N₃ (fun h' tk' m' nw' gs' F' N' S' => ?_)) (fun _ _ q => q) fun _ _ q => q
    refine ⟨n - (i + 1), by omega, h', tk', gs', i + 1, m', nw', oI', rfl, hlt, rfl, ?_, F', N', S'⟩
    refine W.frame _ _ _ hst₃ fun b hb o e => ?_
    rcases hfp b hb with rfl | ⟨o', hm⟩
    · rw [heI] at e; cases e
      exact (N' _ (.head _)).1
    · have q1 := (N₃ (b, o') (.tail _ (so.2 _ hm))).1
      have q2 := (N' (b, o') (.tail _ ((hSo _ _ _ _ S').2 _ hm))).1
      have e3 : h₃.get? b = some o' := q1
      rw [e3] at e; cases e
      exact q2
  · obtain rfl : i = n := Nat.le_antisymm hi (Nat.not_lt.mp hlt)
    refine W.done _ _ _ hst fun h₂ tk₂ hk₂ => ?_
    have hk : ∀ b o, b ≠ it → h.get? b = some o → h₂.get? b = some o := fun b o hb e => hk₂ b o (by simpa using hb) e
    refine wpAny_execs_nil ?_
    exact fin m nw gs h₂ tk₂ hS ⟨F.ns.at' fun o e => hk _ o (Ne.symm hiL) e, fun b o e => hk b o (fun q => by rw [q, hi₀] at e; cases e) (F.keep b o e), F.above⟩ fun p hp => ⟨hk _ _ (so.1 p hp) (N p (.tail _ hp)).1, (N p (.tail _ hp)).2⟩
/-- a loop over a list of the ledger; what each turn keeps is said by S -/
theorem for_list {x : Str} {px : Pos} {body : List Stmt} {l : Addr} {items : Array Value} {k : Nat} {nw : Ledger} {s₁ : Shared} {Q : Flow → Shared → Prop}
    {S : Nat → (Str → Option Value) → Ledger → Array GenState → Prop}
    (hh : A.handled = none) (hx : env.kindOf x = some .local) (hp : (env.scope.kind == .class || (env.scope.kind == .module && env.locals != env.globals)) = false)
    (F : Fr h₀ env.locals s₁.heap m) (N : News h₀ env.locals s₁.heap nw) (hl : (l, listOf items k) ∈ nw) (hS : S 0 m nw s₁.gens)
    (hSl : ∀ i m nw gs, S i m nw gs → (l, listOf items k) ∈ nw)
    (turn : ∀ it, (∀ p ∈ nw, p.1 ≠ it) → ∀ i v m nw' gs h tk oI (QQ : Flow → Shared → Prop) (EE : Value → Shared → Prop), i < items.size → items[i]? = some v → S i m nw' gs → (∀ p ∈ nw', p.1 ≠ it) → Fr h₀ env.locals h (fun y => if y = x then some v else m y) → News h₀ env.locals h ((it, oI) :: nw') →
      (∀ h' tk' m' nw' gs', Fr h₀ env.locals h' m' → News h₀ env.locals h' ((it, oI) :: nw') → (∀ p ∈ nw', p.1 ≠ it) → S (i + 1) m' nw' gs' → QQ .next { s₁ with heap := h', toks := tk', gens := gs' }) →
      wpAny (model prog w) A (execs body env) QQ EE { s₁ with heap := h, toks := tk, gens := gs })
    (fin : ∀ m nw gs h tk, S items.size m nw gs → Fr h₀ env.locals h m → News h₀ env.locals h nw → Q .next { s₁ with heap := h, toks := tk, gens := gs }) :
    wpAny (model prog w) A (pyIter (.ref l)) (fun it s₂ => codeAny (model prog w) A (.forLoop (.Name x px) it body [] env) (fun r s' => match r with | .ok f => Q f s' | .error e => cameBackBy (model prog w) A env E e s') s₂) E s₁ := by
  have hl1 : s₁.heap.IsList l items := ⟨_, (N _ hl).1, rfl, k, rfl⟩
  have hlt : l < s₁.heap.objs.size := Heap.lt_size (N _ hl).1
  refine wpAny_pyIter_list hl1 ?_
  have up : ∀ b o, s₁.heap.get? b = some o → (s₁.heap.push { cls := .type "list_iterator", data := .fields #[.ref l, .int 0 0] }).get? b = some o := fun b o e => Heap.get?_push_of_some _ e
  have off : ∀ p ∈ nw, p.1 ≠ s₁.heap.objs.size := fun p hp => Nat.ne_of_lt (Heap.lt_size (N p hp).1)
  refine loop_W (h₀ := h₀) (S := fun i m nw gs => (∀ p ∈ nw, p.1 ≠ s₁.heap.objs.size) ∧ S i m nw gs) (keep := [(l, listOf items k)]) (oI := { cls := .type "list_iterator", data := .fields #[.ref l, .int 0 0] }) (Walks.list hh s₁.heap.objs.size l (Nat.ne_of_lt hlt) items) (fun i h st => by obtain ⟨o, e, _⟩ := st.1; exact ⟨o, e⟩) (fun b hb => ?_) (Nat.ne_of_gt F.ns.lt) (next_is_new F) hx hp ⟨⟨_, Heap.get?_push_size _ rfl, rfl, rfl⟩, hl1.push _⟩
    (F.keeps up) (fun p hp => ?_) ⟨off, hS⟩ (fun i m nw gs q => ⟨q.1, fun p hp => by rw [List.mem_singleton.mp hp]; exact hSl _ _ _ _ q.2⟩) ?_ fun m nw gs h tk S' F' N' => fin m nw gs h tk S'.2 F' N'
  · rcases List.mem_cons.mp hb with rfl | hb
    · exact .inl rfl
    · exact .inr ⟨_, by rw [List.mem_singleton.mp hb]; exact .head _⟩
  · rcases List.mem_cons.mp hp with rfl | hp
    · exact ⟨Heap.get?_push_size _ rfl, Nat.ne_of_gt F.ns.lt, next_is_new F⟩
    · exact ⟨up _ _ (N p hp).1, (N p hp).2⟩
  · intro i v m nw' gs h tk oI QQ EE hi hv S' F' N' ret
    exact turn _ off i v m nw' gs h tk oI QQ EE hi hv S'.2 S'.1 F' N' fun h' tk' m' nw' gs' F2 N2 o2 S2 => ret h' tk' m' nw' gs' F2 N2 ⟨o2, S2⟩
end
end
section
open PySem PySem.W PySem.Spec PySem.Calls PyProof.Rows
local macro_rules | `(tactic| walk_at "call ref") => `(tactic| (k_here; (with_reducible show wpAny _ _ (call (Value.ref 139) [Value.str (textX _) _]) _ _ _); k_dflt (refine' prepared_K (textX_all ?h0 ?h1) (textX_size ?h0 ?h1) fM_len (textX_ok ?h0 ?h1) ?B ?F ?X ?N ?T ?r ?u ?_; (case h0 | h1 => assumption); (case B | F | X | N | T => k_asm); (case r => ktr_room); (case u => ktr_units); k_whole); intro h' tk' t' F' N'; (try k_sweep)))
section
open PySem PySem.W PySem.Spec PySem.Calls PyProof.Rows
local macro_rules | `(tactic| walk_at "call ref") => `(tactic| (k_here; (with_reducible show wpAny _ _ (call (Value.ref 49) [Value.ref _, _]) _ _ _); k_dflt (refine' push_K ?B ?F ?X ?N ?T ?hx ?hd ?hpb ?U ?r ?u ?z ?_; (case B | F | X | N | T => k_asm); (case hx | hd | hpb => k_mem); (case U => exact Upd.head (by assumption)); (case r => ktr_room); (case u => ktr_units); (case z => assumption); k_whole); intro h' tk' F' N'; (try k_sweep)))
section
open PySem PySem.W PySem.Spec PySem.Calls PyProof.Rows PyProof.Rows.LCg
set_option maxRecDepth 100000
set_option maxHeartbeats 4000000
set_option linter.unusedVariables false
variable {w : World} {fa : Addr} {cd : Value} {A₀ : Around} {base h₀ : Heap} {L : Addr} {m : Str → Option Value}
  {news news' rest : List (Addr × Obj)} {s : Shared} {p : Program} {loose : List Str} {mean : ExcName → Option Value} {mg mb : Str → Option Value}
  {Q E : Value → Shared → Prop}
noncomputable abbrev lw_4b : List Stmt := by
  refine (fun (_ : forBody (stAt (defBody lwDef) 4) = ?l) => ?l) ?h
  case h => (conv => lhs; whnf)
theorem st4b {QQ : Flow → Shared → Prop} {EE : Value → Shared → Prop} {un na dr xx d pb f : Addr} {h1 h2 h3 h4 : Int} {k1 k2 k3 k4 k5 k6 : Nat} {vs uv : List Value} {n n1 it : Nat} {x : Int} {t : Nat} {oL oI : Obj} (b0 : 0 ≤ x) (b1 : x < 41472)
  (hun : (un, listOf (List.toArray uv) n1) ∈ rest) (hui : IntsAre uv unseenI) (hna : NmOk na rest) (hoL : (L + 2, oL) ∈ rest) (hoc : oL.data = .cell (some (.ref xx))) (hxx : (xx, instObj 52 d) ∈ rest) (hd : (d, lexDict h1 h2 h3 h4 k1 k2 k3 k4 k5 k6 f pb) ∈ rest)
  (hpb : ∀ p ∈ rest, p.1 ≠ pb) (hpb2 : ∀ p ∈ ((it, oI) :: rest : List (Addr × Obj)), p.1 ≠ pb) (hz : vs.toArray.size ≤ sizeLine)
  (B : Below callerA h₀ [] h₀) (F : Fr h₀ L s.heap (lwF (some (.ref un)) (some (.ref na)) (some (.int x t)) (some (.ref dr)) none none none none none none none)) (X : (Mine.topK w.params).In h₀) (N : News h₀ L s.heap ((pb, listOf vs.toArray n) :: (it, oI) :: rest)) (T : Top p loose mean mg mb h₀)
  (ret : ∀ h' tk' (t' : Nat), Fr h₀ L h' (lwF (some (.ref un)) (some (.ref na)) (some (.int x t)) (some (.ref dr)) none none none none none none none) → News h₀ L h' ((pb, listOf (vs.toArray.push (Value.str (wd (pqX x) (nmX x)) t')) (n + 1)) :: (it, oI) :: rest) → QQ .next { s with heap := h', toks := tk' }) :
  wpAny (model PySem.Challenge.rw_re0120_01.row.prog w) (lwA L fa cd) (execs lw_4b (lwEnv L fa cd)) QQ EE s := by
  have hna2 : NmOk na ((pb, listOf vs.toArray n) :: (it, oI) :: rest) := by
    obtain ⟨a0, a1, a2, a3, a4, a5, n, hU, hA⟩ := hna
    exact ⟨a0, a1, a2, a3, a4, a5, n, .tail _ (.tail _ hU), fun i a y e1 e2 => by obtain ⟨t, u, k, hm⟩ := hA i a y e1 e2; exact ⟨t, u, k, .tail _ (.tail _ hm)⟩⟩
  revert X
  k_fill
  intro X
  have f1 : 0 ≤ x.fmod 16 := Int.fmod_nonneg_of_pos _ (by omega)
  have f2 : x.fmod 16 < 16 := Int.fmod_lt_of_pos _ (by omega)
  have f3 : 0 ≤ (x.fdiv 256).fmod 27 := Int.fmod_nonneg_of_pos _ (by omega)
  have f4 : (x.fdiv 256).fmod 27 < 27 := Int.fmod_lt_of_pos _ (by omega)
  have f5 : 0 ≤ (x.fdiv 16).fmod 16 := Int.fmod_nonneg_of_pos _ (by omega)
  have f6 : (x.fdiv 16).fmod 16 < 16 := Int.fmod_lt_of_pos _ (by omega)
  have f7 : 0 ≤ x.fdiv 6912 := Int.fdiv_nonneg (by omega) (by omega)
  have f8 : x.fdiv 6912 < 6 := by rw [Int.fdiv_eq_ediv_of_nonneg _ (by omega)]; omega
  k_steps
  have ub := un_bnd f3 f4
  have l1 := mul_len16 f1 f2
  refine chr_of_range (by omega) (by omega) ?_
  refine add_str (fun t1 k1 => ?_) (by rw [sizeLine_eq]; show _ + 1 ≤ _; omega)
  dsimp only
  clear ub l1
  k_steps
  try dsimp only
  obtain ⟨vs6, n6, a6, t61, t62, n62, hm6, hg6, hm62⟩ := nm_get hna2 f7 f8
  refine item_litK (isList_news N hm6) f7 (by omega) hg6 ?_ (by with_unfolding_all rfl)
  clear hg6
  k_steps
  try dsimp only
  refine item_litK (vs := [_, _]) (isList_news N hm62) (by decide) (by decide) rfl ?_ (by with_unfolding_all rfl)
  have nl := nm_len f7 f8
  have l1 := mul_len16 f1 f2
  have l2 := mul_len16 f5 f6
  refine add_str (fun t2 k2 => ?_) ?hz2
  case hz2 =>
    rw [sizeLine_eq, app_len, app_len]
    have := nl.1
    show _ + 1 + _ + _ ≤ _
    omega
  clear nl l1 l2 f1 f2 f3 f4 f5 f6 f7 f8
  have e9 : Txt.mul (Str.ofString "\\") (x.fmod 16) ++ ⟨#[(unseenI.getD ((x.fdiv 256).fmod 27).toNat 0).toNat]⟩ ++ Txt.mul (Str.ofString "\\") ((x.fdiv 16).fmod 16) ++ (nmA.getD (x.fdiv 6912).toNat default).1 = textX x := rfl
  rw [e9]
  dsimp only
  k_steps
  rename Fr _ _ _ _ => F9
  rename News _ _ _ _ => N9
  rw [prep_text b0 b1] at N9
  exact ret _ _ _ F9 N9
end
section
open PySem PySem.W PySem.Spec PySem.Calls PyProof.Rows PyProof.Rows.LCg
set_option maxRecDepth 100000
set_option maxHeartbeats 4000000
set_option linter.unusedVariables false
variable {w : World} {fa : Addr} {cd : Value} {A₀ : Around} {base h₀ : Heap} {L : Addr} {m : Str → Option Value}
  {news news' rest : List (Addr × Obj)} {s : Shared} {p : Program} {loose : List Str} {mean : ExcName → Option Value} {mg mb : Str → Option Value}
  {Q E : Value → Shared → Prop}
theorem lwF_x2 {un na x dr wa le ro to wo lo hi : Option Value} {v : Value} : (fun y => if y = Str.ofString "x" then some v else lwF un na x dr wa le ro to wo lo hi y) = lwF un na (some v) dr wa le ro to wo lo hi := lwF_x
noncomputable def textsX (x1 x2 : Int) : List Str := [wd (pqX x1) (nmX x1), wd (pqX x2) (nmX x2)]
theorem st4 {QQ : Flow → Shared → Prop} {EE : Value → Shared → Prop} {un na dr xx d pb f : Addr} {h1 h2 h3 h4 : Int} {k1 k2 k3 k4 k5 k6 : Nat} {uv : List Value} {n n1 n2 : Nat} {x1 x2 : Int} {t1 t2 : Nat} {oL : Obj} (b0 : 0 ≤ x1) (b1 : x1 < 41472) (c0 : 0 ≤ x2) (c1 : x2 < 41472)
  (hun : (un, listOf (List.toArray uv) n1) ∈ rest) (hui : IntsAre uv unseenI) (hna : NmOk na rest) (hdr : (dr, listOf #[Value.int x1 t1, Value.int x2 t2] n2) ∈ rest) (hoL : (L + 2, oL) ∈ rest) (hoc : oL.data = .cell (some (.ref xx))) (hxx : (xx, instObj 52 d) ∈ rest) (hd : (d, lexDict h1 h2 h3 h4 k1 k2 k3 k4 k5 k6 f pb) ∈ rest)
  (hpb : ∀ p ∈ rest, p.1 ≠ pb)
  (B : Below callerA h₀ [] h₀) (F : Fr h₀ L s.heap (lwF (some (.ref un)) (some (.ref na)) none (some (.ref dr)) none none none none none none none)) (X : (Mine.topK w.params).In h₀) (N : News h₀ L s.heap ((pb, listOf ([] : List Value).toArray n) :: rest)) (T : Top p loose mean mg mb h₀)
  (ret : ∀ h' tk' xv vs n', Fr h₀ L h' (lwF (some (.ref un)) (some (.ref na)) xv (some (.ref dr)) none none none none none none none) → News h₀ L h' ((pb, listOf vs n') :: rest) → StrsAre vs.toList (textsX x1 x2) → QQ .next { s with heap := h', toks := tk' }) :
  wpAny (model PySem.Challenge.rw_re0120_01.row.prog w) (lwA L fa cd) (exec lw_4 (lwEnv L fa cd)) QQ EE s := by
  revert X
  k_fill
  intro X
  refine wpAny_For ?_
  k_steps
  refine for_list (env := lwEnv L fa cd) (h₀ := h₀) (Q := QQ) (items := #[Value.int x1 t1, Value.int x2 t2]) (l := dr) (nw := (pb, listOf ([] : List Value).toArray n) :: rest)
    (S := fun i m nw gs => gs = s.gens ∧ ∃ xv vs n', m = lwF (some (.ref un)) (some (.ref na)) xv (some (.ref dr)) none none none none none none none ∧ nw = (pb, listOf vs n') :: rest ∧ vs.size = i ∧ StrsAre vs.toList ((textsX x1 x2).take i))
    rfl rfl rfl F N (.tail _ hdr) ⟨rfl, _, _, _, rfl, rfl, rfl, .nil⟩ ?hSl ?turn ?fin
  case hSl =>
    rintro i m nw gs ⟨_, xv, vs, n', _, rfl, _⟩
    exact .tail _ hdr
  case fin =>
    rintro m nw gs h tk ⟨rfl, xv, vs, n', rfl, rfl, hz, hS⟩ F' N'
    exact ret _ _ _ _ _ F' N' hS
  case turn =>
    rintro it hit i v m nw gs h tk oI QQ1 E1 hi hv ⟨rfl, xv, vs, n', rfl, rfl, hz, hS⟩ hof F' N' hret
    rw [lwF_x] at F'
    have hpit : pb ≠ it := hof _ (.head _)
    have hrit : ∀ p ∈ rest, p.1 ≠ it := fun p hp => hof p (.tail _ hp)
    have hp2 : ∀ p ∈ ((it, oI) :: rest : List (Addr × Obj)), p.1 ≠ pb := fun p hp => by
      rcases List.mem_cons.mp hp with rfl | hp
      · exact Ne.symm hpit
      · exact hpb p hp
    have N2 : News h₀ L h ((pb, listOf vs n') :: (it, oI) :: rest) := fun p hp => N' p (by simp only [List.mem_cons] at hp ⊢; rcases hp with q | q | q; exact .inr (.inl q); exact .inl q; exact .inr (.inr q))
    have go : ∀ (x : Int) (t : Nat), v = .int x t → 0 ≤ x → x < 41472 → (textsX x1 x2).take (i + 1) = (textsX x1 x2).take i ++ [wd (pqX x) (nmX x)] →
        wpAny (model PySem.Challenge.rw_re0120_01.row.prog w) (lwA L fa cd) (execs lw_4b (lwEnv L fa cd)) QQ1 E1 { s with heap := h, toks := tk } := by
      rintro x t rfl e0 e1 ht
      have ev : vs = (vs.toList).toArray := by simp
      rw [ev] at N2
      refine st4b (s := { s with heap := h, toks := tk }) (vs := vs.toList) e0 e1 hun hui hna hoL hoc hxx hd hpb hp2 (by rw [← ev, hz, sizeLine_eq]; have : i < 2 := hi; omega) B F' X N2 T fun h' tk' t' F3 N3 => ?_
      refine hret h' tk' _ ((pb, listOf (vs.push (Value.str (wd (pqX x) (nmX x)) t')) (n' + 1)) :: rest) s.gens F3 ?_ ?_ ⟨rfl, _, _, _, rfl, rfl, by rw [Array.size_push, hz], ?_⟩
      · rw [← ev] at N3
        exact fun p hp => N3 p (by simp only [List.mem_cons] at hp ⊢; rcases hp with q | q | q; exact .inr (.inl q); exact .inl q; exact .inr (.inr q))
      · intro p hp
        rcases List.mem_cons.mp hp with rfl | hp
        · exact hpit
        · exact hrit p hp
      · rw [ht, Array.toList_push]; exact strs_snoc hS
    match i, hi with
    | 0, _ => exact go x1 t1 (by simpa using hv.symm) b0 b1 rfl
    | 1, _ => exact go x2 t2 (by simpa using hv.symm) c0 c1 rfl
    | i + 2, hi => exact absurd hi (by simp)
end
end
end
section
open PySem PySem.W PySem.Spec PySem.Calls PyProof.Rows PyProof.Rows.LCg
set_option maxRecDepth 100000
set_option maxHeartbeats 4000000
set_option linter.unusedVariables false
noncomputable def Stop (p : Prop) : Prop := p
theorem stop_of {p : Prop} (h : Stop p) : p := h
theorem stop_go {p : Prop} (h : p) : Stop p := h
end
section
open PySem PySem.W PySem.Spec PySem.Calls PyProof.Rows
local macro_rules | `(tactic| walk_at "call ref") => `(tactic| (k_here; (with_reducible show wpAny _ _ (call _ _) _ _ _); refine stop_of ?_))
section
open PySem PySem.W PySem.Spec PySem.Calls PyProof.Rows PyProof.Rows.LCg
set_option maxRecDepth 100000
set_option maxHeartbeats 4000000
set_option linter.unusedVariables false
variable {w : World} {fa : Addr} {cd : Value} {A₀ : Around} {base h₀ : Heap} {L : Addr} {m : Str → Option Value}
  {news news' rest : List (Addr × Obj)} {s : Shared} {p : Program} {loose : List Str} {mean : ExcName → Option Value} {mg mb : Str → Option Value}
  {Q E : Value → Shared → Prop}
noncomputable abbrev lvBody : List Stmt := by
  refine (fun (_ : forBody (stAt (defBody lwDef) 6) = ?l) => ?l) ?h
  case h => (conv => lhs; whnf)
noncomputable abbrev lv_0 : Stmt := by
  refine (fun (_ : stAt (forBody (stAt (defBody lwDef) 6)) 0 = ?l) => ?l) ?h
  case h => (conv => lhs; whnf)
section
variable {prog : Program} {A : Around} {env : Env} {elt : PySem.Expr} {x : Str} {scope : Scope} {cl : List (Str × Addr)} {s : Shared} {S : List (Addr × Obj) → Prop} {Fin : List Value → List (Addr × Obj) → Prop}
theorem rest_pop {ws : List Value} {pb : Addr} {k0 : Nat}
    (hS : ∀ vs k, S ((pb, listOf (List.toArray vs) k) :: rest))
    (turn : ∀ v vs k c u I oI C oC D m₂ ys h tk (E' : Value → Shared → Prop), NsObj oC m₂ → m₂ x = some (.int c u) → vs.length + 1 ≤ ws.length → Fr h₀ L h m → News h₀ L h ((I, oI) :: (C, oC) :: (D, lst ys) :: (pb, listOf (List.toArray (v :: vs)) k) :: rest) → Off3 I C D ((pb, listOf (List.toArray (v :: vs)) k) :: rest) → ((@Ne Nat I C) ∧ (@Ne Nat I D) ∧ (@Ne Nat C D)) →
      ∀ QQ : Value → Shared → Prop, (∀ h' tk', Fr h₀ L h' m → News h₀ L h' ((I, oI) :: (C, oC) :: (D, lst ys) :: (pb, listOf (List.toArray vs) (k + 1)) :: rest) → QQ v { s with heap := h', toks := tk' }) →
      wpAny (model prog w) A (eval elt (compEnvC scope cl C env)) QQ E' { s with heap := h, toks := tk })
    (hoff : ∀ I C D o o', Off3 I C D ((pb, o) :: rest) → Off3 I C D ((pb, o') :: rest))
    (fin : ∀ k, Fin ws ((pb, listOf ([] : List Value).toArray k) :: rest)) : CompRest prog w A h₀ L m env elt x scope cl s S (fun i v => ∃ t, v = .int (0 + (i : Int)) t) Fin ws.length 0 [] ((pb, listOf ws.toArray k0) :: rest) := by
  have key : ∀ (vs ys : List Value) (i k : Nat), ys ++ vs = ws → CompRest prog w A h₀ L m env elt x scope cl s S (fun i v => ∃ t, v = .int (0 + (i : Int)) t) Fin vs.length i ys ((pb, listOf vs.toArray k) :: rest) := by
    intro vs
    induction vs with
    | nil => intro ys i k e; rw [List.append_nil] at e; subst e; exact CompRest.zero (fin k)
    | cons v vs ih =>
      intro ys i k e
      refine CompRest.succ ?_
      rintro v' I oI C oC D m₂ h tk E' ⟨u, rfl⟩ hC hx F N off ne
      refine turn v vs k _ u I oI C oC D m₂ ys h tk E' hC hx (by have := congrArg List.length e; simp at this; omega) F N off ne _ (fun h'' tk'' F'' N'' => ?_)
      exact ⟨h'', tk'', _, rfl, F'', N'', hoff _ _ _ _ _ off, hS _ _, ih (ys ++ [v]) (i + 1) (k + 1) (by rw [List.append_assoc]; exact e)⟩
  exact key ws [] 0 k0 rfl
end
theorem off3_swap {I C D a : Addr} {o o' : Obj} {l : List (Addr × Obj)} (h : Off3 I C D ((a, o) :: l)) : Off3 I C D ((a, o') :: l) := by
  have := h.mem
  exact Off3.of fun p hp => by
    rcases List.mem_cons.mp hp with rfl | hp
    · exact this (a, o) (.head _)
    · exact this p (.tail _ hp)
theorem st_row {QQ : Flow → Shared → Prop} {EE : Value → Shared → Prop} {xx d pb f : Addr} {h1 h2 h3 h4 : Int} {k1 k2 k3 k4 k5 k6 : Nat} {ws : List Value} {n t : Nat} {oL : Obj} {un na x dr le ro to wo lo hi : Option Value}
  (hoL : (L + 2, oL) ∈ rest) (hoc : oL.data = .cell (some (.ref xx))) (hxx : (xx, instObj 52 d) ∈ rest) (hd : (d, lexDict h1 h2 h3 h4 k1 k2 k3 k4 k5 k6 f pb) ∈ rest)
  (hpb : ∀ p ∈ rest, p.1 ≠ pb) (hz : ws.length ≤ 1000)
  (B : Below callerA h₀ [] h₀) (F : Fr h₀ L s.heap (lwF un na x dr (some (.int (ws.length : Nat) t)) le ro to wo lo hi)) (X : (Mine.topK w.params).In h₀) (N : News h₀ L s.heap ((pb, listOf ws.toArray n) :: rest)) (T : Top p loose mean mg mb h₀)
  (ret : ∀ h' tk' R n', Fr h₀ L h' (lwF un na x dr (some (.int (ws.length : Nat) t)) le (some (.ref R)) to wo lo hi) → News h₀ L h' ((R, lst ws) :: (pb, listOf ([] : List Value).toArray n') :: rest) → R ≠ pb → (∀ p ∈ rest, p.1 ≠ R) → QQ .next { s with heap := h', toks := tk' }) :
  wpAny (model PySem.Challenge.rw_re0120_01.row.prog w) (lwA L fa cd) (exec lv_0 (lwEnv L fa cd)) QQ EE s := by
  revert X
  k_fill
  intro X
  k_dflt (refine Assign_ListComp_U F rfl (by rfl) (by with_unfolding_all rfl) (by decide) (by rfl) (by decide) (by rfl) (by rfl) (by rfl) ?_)
  rw [← show SrcQ _ _ _ _ _ _ _ _ _ _ _ _ = CompSrc _ _ _ _ _ _ _ _ _ _ _ _ from rfl]
  k_steps
  unfold SrcQ
  k_dflt (refine CompSrc.range (n := ws.length) rfl (by k_asm) (by k_asm) (by assumption) ?sm ?rn ?sz ?_)
  case sm => exact small_w (by omega) (by omega)
  case rn => rw [size_w (by omega)]; simp
  case sz => rw [sizeLine_eq]; omega
  intro g'
  refine rest_pop (fun _ _ => trivial) ?turn (fun _ _ _ _ _ => off3_swap) ?fin
  case turn =>
    intro v vs k c u I oI C oC D m₂ ys h tk E' hC hx hle F N off ne QQ1 hret
    have om := off.mem
    have opb := om (pb, listOf (List.toArray (v :: vs)) k) (.head _)
    have hlen : vs.length + 1 ≤ sizeLine := by rw [sizeLine_eq]; omega
    have U : Upd pb (listOf (List.toArray (v :: vs)) k) (listOf (List.toArray vs) (k + 1)) ((I, oI) :: (C, oC) :: (D, lst ys) :: (pb, listOf (List.toArray (v :: vs)) k) :: rest) ((I, oI) :: (C, oC) :: (D, lst ys) :: (pb, listOf (List.toArray vs) (k + 1)) :: rest) :=
      .tail (Ne.symm opb.1) (.tail (Ne.symm opb.2.1) (.tail (Ne.symm opb.2.2) (.head hpb)))
    clear om opb
    k_steps
    refine stop_go ?_
    show wpAny _ _ (call (.ref 42) [.ref xx]) _ _ _
    refine pop_K (s := _) B F X N T (by k_mem) (by k_mem) (by k_mem) U ?r ?u hlen fun h' tk' F' N' => ?_
    case r => ktr_room
    case u => ktr_units
    exact hret _ _ F' N'
  case fin =>
    intro k D h2 tk2 F2 N2 o1
    have o2 := off1_ne o1
    rw [lwF_row] at F2
    exact ret _ _ D k F2 N2 (Ne.symm (o2 _ (.head _))) fun p hp => o2 p (.tail _ hp)
end
end
section
open PySem PySem.W PySem.Spec PySem.Calls PyProof.Rows
local macro_rules | `(tactic| walk_at "call ref") => `(tactic| (k_here; (with_reducible show wpAny _ _ (call (Value.ref 151) [Value.int _ _, Value.str _ _, Value.int _ _]) _ _ _); refine stop_of ?_))
section
open PySem PySem.W PySem.Spec PySem.Calls PyProof.Rows PyProof.Rows.LCg
set_option maxRecDepth 100000
set_option maxHeartbeats 4000000
set_option linter.unusedVariables false
variable {w : World} {fa : Addr} {cd : Value} {A₀ : Around} {base h₀ : Heap} {L : Addr} {m : Str → Option Value}
  {news news' rest : List (Addr × Obj)} {s : Shared} {p : Program} {loose : List Str} {mean : ExcName → Option Value} {mg mb : Str → Option Value}
  {Q E : Value → Shared → Prop}
noncomputable abbrev lv_1 : Stmt := by
  refine (fun (_ : stAt (forBody (stAt (defBody lwDef) 6)) 1 = ?l) => ?l) ?h
  case h => (conv => lhs; whnf)
noncomputable abbrev lv_2 : Stmt := by
  refine (fun (_ : stAt (forBody (stAt (defBody lwDef) 6)) 2 = ?l) => ?l) ?h
  case h => (conv => lhs; whnf)
noncomputable abbrev lv_2b : List Stmt := by
  refine (fun (_ : forBody (stAt (forBody (stAt (defBody lwDef) 6)) 2) = ?l) => ?l) ?h
  case h => (conv => lhs; whnf)
theorem pq_int {x : Int} (h0 : 0 ≤ x) (h1 : x < 41472) : x.fmod 16 + (x.fdiv 16).fmod 16 = ((pqX x : Nat) : Int) ∧ pqX x ≤ 30 := by
  obtain ⟨a0, a1, b0, b1, c0, c1, d0, d1⟩ := bound_x h0 h1
  unfold pqX; omega
theorem nmX_len {x : Int} (h0 : 0 ≤ x) (h1 : x < 41472) : (nmX x).length ≤ 3 := by
  obtain ⟨a0, a1, b0, b1, c0, c1, d0, d1⟩ := bound_x h0 h1
  exact (nm_len d0 d1).2
theorem wait_len {n P : Nat} {x : Str} (h1 : 1 ≤ P) (h2 : P ≤ 16) : 1 ≤ (waitL n P x).length ∧ (waitL n P x).length ≤ 200 := by
  have f1 : 0 ≤ (n : Int).fmod P := Int.fmod_nonneg_of_pos _ (by omega)
  have f2 : (n : Int).fmod P < P := Int.fmod_lt_of_pos _ (by omega)
  have b1 := sternI_bnd f1 (by omega)
  have b2 := sternI_bnd (v := P - (n : Int).fmod P) (by omega) (by omega)
  unfold waitL
  rw [List.length_map, rangeKs_length]
  unfold wholeI moreI
  have := b2.2.2 (by omega)
  omega
theorem st_told2 {QQ : Flow → Shared → Prop} {EE : Value → Shared → Prop} {na dr R To : Addr} {us : List Value} {k n it t lv P : Nat} {tl : Nat} {x : Int} {oI : Obj} {un wa wo lo hi : Option Value} (b0 : 0 ≤ x) (b1 : x < 41472)
  (hna : NmOk na rest) (hTo : ∀ p ∈ rest, p.1 ≠ To) (hit : it ≠ To) (hlv : lv ≤ 4) (hP : 2 ^ lv = P) (hus : us.length ≤ 1000)
  (B : Below callerA h₀ [] h₀) (F : Fr h₀ L s.heap (lwF un (some (.ref na)) (some (.int x t)) (some (.ref dr)) wa (some (.int (lv : Nat) tl)) (some (.ref R)) (some (.ref To)) wo lo hi)) (X : (Mine.topK w.params).In h₀) (N : News h₀ L s.heap ((To, listOf us.toArray k) :: (it, oI) :: rest)) (T : Top p loose mean mg mb h₀)
  (ret : ∀ h' tk' vs k', Fr h₀ L h' (lwF un (some (.ref na)) (some (.int x t)) (some (.ref dr)) wa (some (.int (lv : Nat) tl)) (some (.ref R)) (some (.ref To)) wo lo hi) → News h₀ L h' ((To, listOf (us ++ vs).toArray k') :: (it, oI) :: rest) → StrsAre vs (waitL (pqX x) P (nmX x)) → QQ .next { s with heap := h', toks := tk' }) :
  wpAny (model PySem.Challenge.rw_re0120_01.row.prog w) (lwA L fa cd) (execs lv_2b (lwEnv L fa cd)) QQ EE s := by
  have hna2 : NmOk na ((To, listOf us.toArray k) :: (it, oI) :: rest) := by
    obtain ⟨a0, a1, a2, a3, a4, a5, n, hU, hA⟩ := hna
    exact ⟨a0, a1, a2, a3, a4, a5, n, .tail _ (.tail _ hU), fun i a y e1 e2 => by obtain ⟨t, u, k, hm⟩ := hA i a y e1 e2; exact ⟨t, u, k, .tail _ (.tail _ hm)⟩⟩
  have f5 : 0 ≤ (x.fdiv 16).fmod 16 := Int.fmod_nonneg_of_pos _ (by omega)
  have f6 : (x.fdiv 16).fmod 16 < 16 := Int.fmod_lt_of_pos _ (by omega)
  have f7 : 0 ≤ x.fdiv 6912 := Int.fdiv_nonneg (by omega) (by omega)
  have f8 : x.fdiv 6912 < 6 := by rw [Int.fdiv_eq_ediv_of_nonneg _ (by omega)]; omega
  revert X
  k_fill
  intro X
  k_steps
  try dsimp only
  obtain ⟨vs6, n6, a6, t61, t62, n62, hm6, hg6, hm62⟩ := nm_get hna2 f7 f8
  refine item_litK (isList_news N hm6) f7 (by omega) hg6 ?_ (by with_unfolding_all rfl)
  clear hg6
  k_steps
  try dsimp only
  refine item_litK (vs := [_, _]) (isList_news N hm62) (by decide) (by decide) rfl ?_ (by with_unfolding_all rfl)
  k_steps
  refine stop_go ?_
  obtain ⟨e1, e2⟩ := pq_int b0 b1
  rw [e1]
  try dsimp only
  refine waiting_K (k := (lv : Int)) (P := (P : Int)) e2 (nmX_len b0 b1) (by omega) (by omega) ?hP ?hP1 ?hP2 B F X N T ?r ?u fun h1 tk1 D vs F1 N1 hD hS => ?_
  case hP => rw [Int.toNat_natCast]; rw [← hP]; push_cast; rfl
  case hP1 => have : 1 ≤ 2 ^ lv := Nat.one_le_two_pow; omega
  case hP2 => have : 2 ^ lv ≤ 2 ^ 4 := Nat.pow_le_pow_right (by decide) hlv; omega
  case r => ktr_room
  case u => ktr_units
  try dsimp only
  k_steps
  have wl := wait_len (x := nmX x) (n := pqX x) (P := P) (by have : 1 ≤ 2 ^ lv := Nat.one_le_two_pow; omega) (by have : 2 ^ lv ≤ 2 ^ 4 := Nat.pow_le_pow_right (by decide) hlv; omega)
  have hvl := hS.length
  rw [show (nmA.getD (x.fdiv 6912).toNat default).2 = nmX x from rfl] at hvl hS
  refine kl_extend F1 N1 (.head _) (l := us ++ vs) (by simp) (by show vs.length ≠ 0; omega) (.tail (Ne.symm (hD _ (.head _))) (.head fun p hp => ?_)) ?tl ?z1 ?z2 fun h' F' N' => ?_
  · rcases List.mem_cons.mp hp with rfl | hp
    · exact hit
    · exact hTo p hp
  case tl =>
    have : Builtin.List.listTooLong (us.toArray.size + (List.toArray vs).size) = false := by
      unfold Builtin.List.listTooLong
      simp only [List.size_toArray, decide_eq_false_iff_not, sizeLine_eq]
      omega
    rw [this, Bool.and_false]; exact Bool.false_ne_true
  case z1 => rw [sizeLine_eq]; show us.length ≤ _; omega
  case z2 => rw [sizeLine_eq]; simp only [List.size_toArray]; omega
  k_steps
  exact ret _ _ vs _ F' (news_drop N') hS
end
end
section
open PySem PySem.W PySem.Spec PySem.Calls PyProof.Rows PyProof.Rows.LCg
set_option maxRecDepth 100000
set_option maxHeartbeats 4000000
set_option linter.unusedVariables false
variable {w : World} {fa : Addr} {cd : Value} {A₀ : Around} {base h₀ : Heap} {L : Addr} {m : Str → Option Value}
  {news news' rest : List (Addr × Obj)} {s : Shared} {p : Program} {loose : List Str} {mean : ExcName → Option Value} {mg mb : Str → Option Value}
  {Q E : Value → Shared → Prop}
noncomputable def waitsX (x1 x2 : Int) (P : Nat) : List Str := waitL (pqX x1) P (nmX x1) ++ waitL (pqX x2) P (nmX x2)
theorem strs_app : ∀ {vs us : List Value} {ys zs : List Str}, StrsAre vs ys → StrsAre us zs → StrsAre (vs ++ us) (ys ++ zs)
  | _, _, _, _, .nil, h => h
  | _, _, _, _, .cons y t r, h => .cons y t (strs_app r h)
theorem st_told1 {QQ : Flow → Shared → Prop} {EE : Value → Shared → Prop} {un na x dr wa le ro to wo lo hi : Option Value}
  (B : Below callerA h₀ [] h₀) (F : Fr h₀ L s.heap (lwF un na x dr wa le ro to wo lo hi)) (X : (Mine.topK w.params).In h₀) (N : News h₀ L s.heap rest) (T : Top p loose mean mg mb h₀)
  (ret : ∀ h' tk' To, Fr h₀ L h' (lwF un na x dr wa le ro (some (.ref To)) wo lo hi) → News h₀ L h' ((To, listOf ([] : List Value).toArray 0) :: rest) → (∀ p ∈ rest, p.1 ≠ To) → QQ .next { s with heap := h', toks := tk' }) :
  wpAny (model PySem.Challenge.rw_re0120_01.row.prog w) (lwA L fa cd) (exec lv_1 (lwEnv L fa cd)) QQ EE s := by
  revert X
  k_fill
  intro X
  k_steps
  rename Fr _ _ _ (fun y => _) => F9
  rename News _ _ _ (_ :: _) => N9
  rename ∀ p ∈ rest, p.1 < _ => l9
  rw [lwF_told] at F9
  exact ret _ _ _ F9 N9 fun p hp => Nat.ne_of_lt (l9 p hp)
theorem st_told {QQ : Flow → Shared → Prop} {EE : Value → Shared → Prop} {na dr R To : Addr} {n2 k : Nat} {lv P : Nat} {tl : Nat} {x1 x2 : Int} {t1 t2 : Nat} {un xo wa wo lo hi : Option Value} (b0 : 0 ≤ x1) (b1 : x1 < 41472) (c0 : 0 ≤ x2) (c1 : x2 < 41472)
  (hna : NmOk na rest) (hdr : (dr, listOf #[Value.int x1 t1, Value.int x2 t2] n2) ∈ rest) (hTo : ∀ p ∈ rest, p.1 ≠ To) (hlv : lv ≤ 4) (hP : 2 ^ lv = P)
  (B : Below callerA h₀ [] h₀) (F : Fr h₀ L s.heap (lwF un (some (.ref na)) xo (some (.ref dr)) wa (some (.int (lv : Nat) tl)) (some (.ref R)) (some (.ref To)) wo lo hi)) (X : (Mine.topK w.params).In h₀) (N : News h₀ L s.heap ((To, listOf ([] : List Value).toArray k) :: rest)) (T : Top p loose mean mg mb h₀)
  (ret : ∀ h' tk' xv vs n', Fr h₀ L h' (lwF un (some (.ref na)) xv (some (.ref dr)) wa (some (.int (lv : Nat) tl)) (some (.ref R)) (some (.ref To)) wo lo hi) → News h₀ L h' ((To, listOf (List.toArray vs) n') :: rest) → StrsAre vs (waitsX x1 x2 P) → QQ .next { s with heap := h', toks := tk' }) :
  wpAny (model PySem.Challenge.rw_re0120_01.row.prog w) (lwA L fa cd) (exec lv_2 (lwEnv L fa cd)) QQ EE s := by
  have hp1 : 1 ≤ P := by have : 1 ≤ 2 ^ lv := Nat.one_le_two_pow; omega
  have hp2 : P ≤ 16 := by have : 2 ^ lv ≤ 2 ^ 4 := Nat.pow_le_pow_right (by decide) hlv; omega
  revert X
  k_fill
  intro X
  refine wpAny_For ?_
  k_steps
  refine for_list (env := lwEnv L fa cd) (h₀ := h₀) (Q := QQ) (items := #[Value.int x1 t1, Value.int x2 t2]) (l := dr) (nw := (To, listOf ([] : List Value).toArray k) :: rest)
    (S := fun i m nw gs => gs = s.gens ∧ ∃ xv vs n', m = lwF un (some (.ref na)) xv (some (.ref dr)) wa (some (.int (lv : Nat) tl)) (some (.ref R)) (some (.ref To)) wo lo hi ∧ nw = (To, listOf (List.toArray vs) n') :: rest ∧ StrsAre vs (match i with | 0 => [] | 1 => waitL (pqX x1) P (nmX x1) | _ => waitsX x1 x2 P))
    rfl rfl rfl F N (.tail _ hdr) ⟨rfl, _, _, _, rfl, rfl, .nil⟩ ?hSl ?turn ?fin
  case hSl =>
    rintro i m nw gs ⟨_, xv, vs, n', _, rfl, _⟩
    exact .tail _ hdr
  case fin =>
    rintro m nw gs h tk ⟨rfl, xv, vs, n', rfl, rfl, hS⟩ F' N'
    exact ret _ _ _ _ _ F' N' hS
  case turn =>
    rintro it hit i v m nw gs h tk oI QQ1 E1 hi hv ⟨rfl, xv, vs, n', rfl, rfl, hS⟩ hof F' N' hret
    rw [lwF_x] at F'
    have hTit : To ≠ it := hof _ (.head _)
    have hrit : ∀ p ∈ rest, p.1 ≠ it := fun p hp => hof p (.tail _ hp)
    have N2 : News h₀ L h ((To, listOf (List.toArray vs) n') :: (it, oI) :: rest) := fun p hp => N' p (by simp only [List.mem_cons] at hp ⊢; rcases hp with q | q | q; exact .inr (.inl q); exact .inl q; exact .inr (.inr q))
    have go : ∀ (x : Int) (t : Nat), v = .int x t → 0 ≤ x → x < 41472 → vs.length ≤ 1000 → (∀ us, StrsAre us (waitL (pqX x) P (nmX x)) → StrsAre (vs ++ us) (match i + 1 with | 0 => [] | 1 => waitL (pqX x1) P (nmX x1) | _ => waitsX x1 x2 P)) →
        wpAny (model PySem.Challenge.rw_re0120_01.row.prog w) (lwA L fa cd) (execs lv_2b (lwEnv L fa cd)) QQ1 E1 { s with heap := h, toks := tk } := by
      rintro x t rfl e0 e1 hle ht
      refine st_told2 (n := 0) (s := { s with heap := h, toks := tk }) (us := vs) e0 e1 hna hTo (Ne.symm hTit) hlv hP hle B F' X N2 T fun h' tk' us k' F3 N3 S3 => ?_
      refine hret h' tk' _ ((To, listOf (List.toArray (vs ++ us)) k') :: rest) s.gens F3 ?_ ?_ ⟨rfl, _, _, _, rfl, rfl, ht us S3⟩
      · exact fun p hp => N3 p (by simp only [List.mem_cons] at hp ⊢; rcases hp with q | q | q; exact .inr (.inl q); exact .inl q; exact .inr (.inr q))
      · intro p hp
        rcases List.mem_cons.mp hp with rfl | hp
        · exact hTit
        · exact hrit p hp
    match i, hi with
    | 0, _ =>
      refine go x1 t1 (by simpa using hv.symm) b0 b1 (by rw [hS.length]; exact Nat.zero_le _) fun us hu => ?_
      cases hS
      exact hu
    | 1, _ =>
      refine go x2 t2 (by simpa using hv.symm) c0 c1 (by rw [hS.length]; have := wait_len (n := pqX x1) (x := nmX x1) hp1 hp2; exact Nat.le_trans this.2 (by decide)) fun us hu => ?_
      exact strs_app hS hu
    | i + 2, hi => exact absurd hi (by simp)
end
section
open PySem PySem.W PySem.Spec PySem.Calls PyProof.Rows PyProof.Rows.LCg
set_option maxRecDepth 100000
set_option maxHeartbeats 4000000
set_option linter.unusedVariables false
variable {w : World} {fa : Addr} {cd : Value} {A₀ : Around} {base h₀ : Heap} {L : Addr} {m : Str → Option Value}
  {news news' rest : List (Addr × Obj)} {s : Shared} {p : Program} {loose : List Str} {mean : ExcName → Option Value} {mg mb : Str → Option Value}
  {Q E : Value → Shared → Prop}
noncomputable abbrev lv_3 : Stmt := by
  refine (fun (_ : stAt (forBody (stAt (defBody lwDef) 6)) 3 = ?l) => ?l) ?h
  case h => (conv => lhs; whnf)
noncomputable abbrev lv_4 : Stmt := by
  refine (fun (_ : stAt (forBody (stAt (defBody lwDef) 6)) 4 = ?l) => ?l) ?h
  case h => (conv => lhs; whnf)
noncomputable abbrev lv_5 : Stmt := by
  refine (fun (_ : stAt (forBody (stAt (defBody lwDef) 6)) 5 = ?l) => ?l) ?h
  case h => (conv => lhs; whnf)
noncomputable abbrev wbBody : List Stmt := by
  refine (fun (_ : forBody (stAt (ifBody (stAt (forBody (stAt (defBody lwDef) 6)) 5)) 0) = ?l) => ?l) ?h
  case h => (conv => lhs; whnf)
theorem lw_name {y : Str} {pos : Pos} {v : Value} {Q : Value → Shared → Prop} {E : Value → Shared → Prop} (hl : (lwEnv L fa cd).kindOf y = some .local) (hd : (y == ("__debug__" : Str)) = false) (hn : s.heap.Ns L m) (hv : m y = some v) (h : Q v s) :
    wpAny (model PySem.Challenge.rw_re0120_01.row.prog w) (lwA L fa cd) (eval (.Name y pos) (lwEnv L fa cd)) Q E s := by
  rw [eval_Name _ _ _ hd]
  exact wpAny_bind (wpAny_standAt (wpAny_loadName_local rfl hl hn hv h))
theorem st_cmp {QQ : Flow → Shared → Prop} {EE : Value → Shared → Prop} {R To : Addr} {n1 n2 : Nat} {ws vs : List Value} {ys : List Str} {un na x dr wa le wo lo hi : Option Value}
  (hR : (R, listOf (List.toArray ws) n1) ∈ rest) (hTo : (To, listOf (List.toArray vs) n2) ∈ rest) (h1 : StrsAre ws ys) (h2 : StrsAre vs ys) (hk : ∀ y ∈ ys, PyData.strOk y = true)
  (F : Fr h₀ L s.heap (lwF un na x dr wa le (some (.ref R)) (some (.ref To)) wo lo hi)) (N : News h₀ L s.heap rest)
  (ret : QQ .next s) :
  wpAny (model PySem.Challenge.rw_re0120_01.row.prog w) (lwA L fa cd) (exec lv_3 (lwEnv L fa cd)) QQ EE s := by
  refine wpAny_If ?_
  refine wpAny_isTrue_Compare1 (lw_name rfl (by decide) F.ns rfl (lw_name rfl (by decide) F.ns rfl (ne_strsK N hR h1 hTo h2 hk hk ?u (wpAny_truthy_bool ?_))))
  case u => ktr_units
  rw [decide_eq_true rfl]
  exact wpAny_execs_nil ret
theorem st_w0 {QQ : Flow → Shared → Prop} {EE : Value → Shared → Prop} {un na x dr wa le ro to wo lo hi : Option Value}
  (B : Below callerA h₀ [] h₀) (F : Fr h₀ L s.heap (lwF un na x dr wa le ro to wo lo hi)) (X : (Mine.topK w.params).In h₀) (N : News h₀ L s.heap rest) (T : Top p loose mean mg mb h₀)
  (ret : ∀ h' tk' t, Fr h₀ L h' (lwF un na x dr (some (.int 0 t)) le ro to wo lo hi) → News h₀ L h' rest → QQ .next { s with heap := h', toks := tk' }) :
  wpAny (model PySem.Challenge.rw_re0120_01.row.prog w) (lwA L fa cd) (exec lv_4 (lwEnv L fa cd)) QQ EE s := by
  revert X
  k_fill
  intro X
  k_steps
  rename Fr _ _ _ (fun y => _) => F9
  rename News _ _ _ _ => N9
  rw [lwF_waiting] at F9
  exact ret _ _ _ F9 N9
theorem st5 {QQ : Flow → Shared → Prop} {EE : Value → Shared → Prop} {un na x dr wa le ro to wo lo hi : Option Value}
  (B : Below callerA h₀ [] h₀) (F : Fr h₀ L s.heap (lwF un na x dr wa le ro to wo lo hi)) (X : (Mine.topK w.params).In h₀) (N : News h₀ L s.heap rest) (T : Top p loose mean mg mb h₀)
  (ret : ∀ h' tk' t, Fr h₀ L h' (lwF un na x dr (some (.int 2 t)) le ro to wo lo hi) → News h₀ L h' rest → QQ .next { s with heap := h', toks := tk' }) :
  wpAny (model PySem.Challenge.rw_re0120_01.row.prog w) (lwA L fa cd) (exec lw_5 (lwEnv L fa cd)) QQ EE s := by
  revert X
  k_fill
  intro X
  k_steps
  rename Fr _ _ _ (fun y => _) => F9
  rename News _ _ _ _ => N9
  rw [lwF_waiting] at F9
  exact ret _ _ _ F9 N9
end
section
open PySem PySem.W PySem.Spec PySem.Calls PyProof.Rows
local macro_rules | `(tactic| walk_at "call ref") => `(tactic| (k_here; (with_reducible show wpAny _ _ (call (Prod.fst (Value.ref 42, _)) _) _ _ _); refine stop_of ?_))
section
open PySem PySem.W PySem.Spec PySem.Calls PyProof.Rows
local macro_rules | `(tactic| walk_at "call ref") => `(tactic| (k_here; (with_reducible show wpAny _ _ (call (Value.ref 134) _) _ _ _); refine stop_of ?_))
section
open PySem PySem.W PySem.Spec PySem.Calls PyProof.Rows PyProof.Rows.LCg
set_option maxRecDepth 100000
set_option maxHeartbeats 4000000
set_option linter.unusedVariables false
variable {w : World} {fa : Addr} {cd : Value} {A₀ : Around} {base h₀ : Heap} {L : Addr} {m : Str → Option Value}
  {news news' rest : List (Addr × Obj)} {s : Shared} {p : Program} {loose : List Str} {mean : ExcName → Option Value} {mg mb : Str → Option Value}
  {Q E : Value → Shared → Prop}
noncomputable abbrev wb_0 : Stmt := by
  refine (fun (_ : stAt (forBody (stAt (ifBody (stAt (forBody (stAt (defBody lwDef) 6)) 5)) 0)) 0 = ?l) => ?l) ?h
  case h => (conv => lhs; whnf)
theorem signs_q (y : Str) : signs (Str.ofString "\"" ++ y ++ Str.ofString "\"") = ch1 34 :: (y.cps.toList.map ch1 ++ [ch1 34]) := by
  obtain ⟨⟨a⟩⟩ := y
  show List.map _ ((#[34] ++ (⟨a⟩ : Array Nat)) ++ #[34]).toList = _
  simp
theorem strs_hd {vs : List Value} {z : Str} {zs : List Str} (h : StrsAre vs (z :: zs)) : ∃ u vs', vs = .str z u :: vs' ∧ StrsAre vs' zs := by
  cases h with
  | cons _ t r => exact ⟨t, _, rfl, r⟩
theorem st_low {QQ : Flow → Shared → Prop} {EE : Value → Shared → Prop} {c1 c2 : Addr} {oc2 : Obj} {vs2 : Array Value} {t2 t : Nat} {y : Str} {out : List Nat} {un na x dr wa le ro to lo hi : Option Value} (hC : CodeHd h₀ 133 129)
  (ht : (129, tab2 c1 c2) ∈ rest) (hc2 : (c2, oc2) ∈ rest) (hcd : oc2.data = .fields vs2) (hcv : vs2[1]? = some (.str lamQ t2)) (hy : y.length ≤ 100) (hQ : Qs y.cps.toList out)
  (B : Below callerA h₀ [] h₀) (F : Fr h₀ L s.heap (lwF un na x dr wa le ro to (some (.str y t)) lo hi)) (X : (Mine.topK w.params).In h₀) (N : News h₀ L s.heap rest) (T : Top p loose mean mg mb h₀)
  (ret : ∀ h' tk' t', Fr h₀ L h' (lwF un na x dr wa le ro to (some (.str y t)) (some (.str ⟨out.toArray⟩ t')) hi) → News h₀ L h' rest → QQ .next { s with heap := h', toks := tk' }) :
  wpAny (model PySem.Challenge.rw_re0120_01.row.prog w) (lwA L fa cd) (exec wb_0 (lwEnv L fa cd)) QQ EE s := by
  revert X
  k_fill
  intro X
  have hlen : (Str.ofString "\"" ++ y ++ Str.ofString "\"").length ≤ 1000 := by
    rw [app_len, app_len, show (Str.ofString "\"").length = 1 from rfl]; omega
  k_steps
  refine stop_go ?_
  try dsimp only
  refine lexer2_K (oc2 := oc2) (vs2 := vs2) hC ht B F X N T ?r ?u hlen fun h' tk' x d pb f fd rd ce sg h1 h2 h3 h4 k1 k2 k3 k4 k5 k6 h5 k7 pm ct F1 oce vs n F' N' hS' ho3 o0 o1 o2 o3 o4 o5 o6 o7 => ?_
  case r => ktr_room
  case u => ktr_units
  k_steps
  refine stop_go ?_
  show wpAny _ _ (call (.ref 42) [.ref x]) _ _ _
  rw [signs_q] at hS'
  obtain ⟨u, vs', rfl, hS2⟩ := strs_hd hS'
  have G : LexG (fun o => (pb, listOf ([] : List Value).toArray 0) :: (x, instObj 52 d) :: (d, lexDict h1 h2 h3 h4 k1 k2 k3 k4 k5 k6 f pb) :: (fd, dictOf [⟨h5, .str (Str.ofString "read") k7, .ref rd⟩] 1) :: (rd, readObj lamQ ce pm c2 ct) :: (f, (⟨.type "function", some fd, .func F1, #[]⟩ : Obj)) :: (sg, o) :: (ce, oce) :: rest) x d pb f fd rd ce sg c2 := by
    refine ⟨fun o o'' => .tail (show pb ≠ sg by (simp only [Addr] at *; omega)) (.tail (show x ≠ sg by (simp only [Addr] at *; omega)) (.tail (show d ≠ sg by (simp only [Addr] at *; omega)) (.tail (show fd ≠ sg by (simp only [Addr] at *; omega)) (.tail (show rd ≠ sg by (simp only [Addr] at *; omega)) (.tail (show f ≠ sg by (simp only [Addr] at *; omega)) (.head ?_)))))), fun o => by simp, ⟨h1, h2, h3, h4, k1, k2, k3, k4, k5, k6, fun o => by simp⟩, ⟨F1, fun o => by simp⟩, ⟨h5, k7, fun o => by simp⟩, ⟨lamQ, pm, ct, oc2, vs2, t2, fun o => by simp, fun o => by simp [hc2], hcd, hcv⟩, ⟨oce, fun o => by simp, ho3⟩⟩
    intro p hp
    rcases List.mem_cons.mp hp with rfl | hp
    · dsimp only; (simp only [Addr] at *; omega)
    · have q := o0 p hp; (simp only [Addr] at *; omega)
  refine gtq_K (np := 0) B F' X N' T hC G (fun o => .head _) hQ hS2 (by rw [Array.length_toList]; have : y.cps.size ≤ 100 := hy; omega) ?r ?u fun h9 tk9 t9 n9 it9 q9 tn9 F9 N9 a9 b9 => ?_
  case r => ktr_room
  case u => ktr_units
  refine wpAny_storeName_local rfl F9.ns (fun h₂ hn₂ hs₂ => ?_) rfl
  replace hs₂ : Heap.SameBut L h9 h₂ := hs₂
  have hL₀ : h₀.get? L = none := Heap.get?_none_of_le F9.above
  have F₂ : Fr h₀ L h₂ _ := ⟨hn₂, fun b o e => hs₂.extBut b o (fun q => by rw [q, hL₀] at e; cases e) (F9.keep b o e), F9.above⟩
  rw [lwF_low] at F₂
  refine ret h₂ _ t9 F₂ fun p hp => ?_
  have z := N9 p (by simp only [List.mem_cons]; exact .inr (.inr (.inr (.inr (.inr (.inr (.inr (.inr (.inr (.inr hp))))))))))
  exact ⟨hs₂.extBut _ _ z.2.1 z.1, z.2⟩
end
end
end
section
open PySem PySem.W PySem.Spec PySem.Calls PyProof.Rows
local macro_rules | `(tactic| walk_at "call ref") => `(tactic| (k_here; (with_reducible show wpAny _ _ (call (Value.ref 63) _) _ _ _); refine stop_of ?_))
section
open PySem PySem.W PySem.Spec PySem.Calls PyProof.Rows
local macro_rules | `(tactic| walk_at "eval ListComp") => `(tactic| (k_here; refine stop_of ?_))
section
open PySem PySem.W PySem.Spec PySem.Calls PyProof.Rows PyProof.Rows.LCg
set_option maxRecDepth 100000
set_option maxHeartbeats 4000000
set_option linter.unusedVariables false
variable {w : World} {fa : Addr} {cd : Value} {A₀ : Around} {base h₀ : Heap} {L : Addr} {m : Str → Option Value}
  {news news' rest : List (Addr × Obj)} {s : Shared} {p : Program} {loose : List Str} {mean : ExcName → Option Value} {mg mb : Str → Option Value}
  {Q E : Value → Shared → Prop}
noncomputable abbrev wb_1 : Stmt := by
  refine (fun (_ : stAt (forBody (stAt (ifBody (stAt (forBody (stAt (defBody lwDef) 6)) 5)) 0)) 1 = ?l) => ?l) ?h
  case h => (conv => lhs; whnf)
noncomputable def hiU (u : Int × Str) : Str := if u.2 = Str.ofString "\\\\" then Str.ofString "\\" else u.2
theorem units_len : ∀ (l : List Nat) (b : Bool) (i : Nat), (unitsG b i l).length ≤ l.length ∧ ∀ u ∈ unitsG b i l, u.2.length ≤ 2
  | [], _, _ => ⟨Nat.le_refl _, fun _ h => by simp [unitsG] at h⟩
  | c :: l, true, i => by
    obtain ⟨a, b⟩ := units_len l false (i + 1)
    refine ⟨by simp only [unitsG, List.length_cons]; omega, fun u hu => ?_⟩
    rcases List.mem_cons.mp hu with rfl | hu
    · exact Nat.le_refl _
    · exact b u hu
  | c :: l, false, i => by
    obtain ⟨a, b⟩ := units_len l false (i + 1)
    obtain ⟨a', b'⟩ := units_len l true (i + 1)
    by_cases q : c = 92
    · have e : unitsG false i (c :: l) = unitsG true (i + 1) l := if_pos q
      rw [e]; exact ⟨by simp only [List.length_cons]; omega, b'⟩
    · have e : unitsG false i (c :: l) = ((i : Int), (⟨#[c]⟩ : Str)) :: unitsG false (i + 1) l := if_neg q
      rw [e]
      refine ⟨by simp only [List.length_cons]; omega, fun u hu => ?_⟩
      rcases List.mem_cons.mp hu with rfl | hu
      · exact Nat.le_succ _
      · exact b u hu
theorem hi_len {u : Int × Str} (h : u.2.length ≤ 2) : (hiU u).length ≤ 2 := by
  unfold hiU
  split
  · decide
  · exact h
theorem hi_weight : ∀ {U : List (Int × Str)}, (∀ u ∈ U, u.2.length ≤ 2) → ((U.map hiU).map (·.length)).sum + (U.map hiU).length ≤ 3 * U.length
  | [], _ => by simp
  | u :: U, h => by
    have ih := hi_weight (U := U) fun v hv => h v (.tail _ hv)
    have := hi_len (h u (.head _))
    simp only [List.map_cons, List.sum_cons, List.length_cons] at ih ⊢
    omega
noncomputable def hiT (y : Str) : Str := Txt.join (Str.ofString "") ((unitsG false 0 y.cps.toList).map hiU)
theorem st_high {QQ : Flow → Shared → Prop} {EE : Value → Shared → Prop} {t : Nat} {y : Str} {un na x dr wa le ro to lo hi : Option Value}
  (hy : y.length ≤ 100) (hya : y.cps.all (· < 128) = true) (hye : escEnd false y.cps.toList = false) (hg : AllBare s.gens)
  (B : Below callerA h₀ [] h₀) (F : Fr h₀ L s.heap (lwF un na x dr wa le ro to (some (.str y t)) lo hi)) (X : (Mine.topK w.params).In h₀) (N : News h₀ L s.heap rest) (T : Top p loose mean mg mb h₀)
  (ret : ∀ h' tk' gs' t', AllBare gs' → Fr h₀ L h' (lwF un na x dr wa le ro to (some (.str y t)) lo (some (.str (hiT y) t'))) → News h₀ L h' rest → QQ .next { s with heap := h', toks := tk', gens := gs' }) :
  wpAny (model PySem.Challenge.rw_re0120_01.row.prog w) (lwA L fa cd) (exec wb_1 (lwEnv L fa cd)) QQ EE s := by
  revert X
  k_fill
  intro X
  k_steps
  refine stop_go ?_
  rw [eval_ListComp]
  refine wpAny_comprehension_free (use := none) rfl (fun _ => rfl) (by with_unfolding_all rfl) (by rfl) (by decide) ?_
  show wpAny _ _ (eval (Expr.Call _ _ _ _) (lwEnv L fa cd)) _ _ _
  k_steps
  refine stop_go ?_
  try dsimp only
  refine gi_call F X T ?room fun h1 tk1 mm hG hNs hmm hk hz => ?_
  case room => ktr_room
  dsimp only at hG hNs hk hz ⊢
  refine wpAny_pyIter_gen hG ?_
  obtain ⟨s2, hs2⟩ : ∃ s2 : Shared, s2 = { s with heap := h1, toks := tk1, gens := s.gens.push (.fresh (.func giBody (giEnv s.heap.objs.size))) } := ⟨_, rfl⟩
  show wpAny _ _ _ _ _ { s with heap := h1, toks := tk1, gens := s.gens.push (.fresh (.func giBody (giEnv s.heap.objs.size))) }
  rw [← hs2]
  have e2 : h1 = s2.heap := by rw [hs2]
  have eg : s.gens.push (.fresh (.func giBody (giEnv s.heap.objs.size))) = s2.gens := by rw [hs2]
  have F2 := F.keeps hk
  have N2 := N.grown hk
  have hle := F.above
  have hLlt := F.ns.lt
  rw [e2] at F2 N2 hG hNs
  have wl := units_len y.cps.toList false 0
  have hyl : y.cps.toList.length ≤ 100 := by rw [Array.length_toList]; exact hy
  refine block_G (gs₀ := .fresh (.func giBody (giEnv s.heap.objs.size))) (own₀ := [s.heap.objs.size]) (U := unitsG false 0 y.cps.toList) (hi := hiU) ?room T rfl (by rw [sizeLine_eq]; omega) (by decide) (by rfl) (by rfl) (by rfl) (by decide) hG ?hgs ?hR ?hown ?hbare F2 N2 ?R ?RR
  case room => ktr_room
  case hgs => rw [← eg]; simp
  case hbare => rw [← eg]; exact hg.push rfl
  case hown =>
    intro b hb
    rw [List.mem_singleton.mp hb]
    refine ⟨fresh_h F (Nat.le_refl _), Nat.ne_of_gt hLlt, Nat.ne_of_lt (Nat.lt_succ_self _), by rw [← e2, hz]; exact Nat.lt_succ_of_lt (Nat.lt_succ_self _), fun p hp => Nat.ne_of_lt (Heap.lt_size (N p hp).1)⟩
  case hR =>
    intro s'' ho hh
    have F3 : Fr h₀ s.heap.objs.size s''.heap mm := ⟨hNs.at' fun o e => ho _ (.head _) o e, hh, Nat.le_of_lt (Nat.lt_of_le_of_lt hle hLlt)⟩
    refine ⟨[s.heap.objs.size, s''.heap.objs.size + 1, s''.heap.objs.size], fun b hb => ?_, rfl, gi_start (A := (lwA L fa cd).in1) rfl hya hye F3 X T hmm⟩
    simp only [List.mem_cons, List.not_mem_nil, or_false] at hb
    rcases hb with rfl | rfl | rfl
    · exact .inl (.head _)
    · exact .inr (Nat.le_succ _)
    · exact .inr (Nat.le_refl _)
  case R =>
    intro u hu C m₂ s' t5 QQ1 E1 hn hm hret
    have nm : ∀ (pos : Pos) (Q9 E9 : Value → Shared → Prop) (s9 : Shared), s9.heap.Ns C m₂ → Q9 (.str u.2 t5) s9 → wpAny (model PySem.Challenge.rw_re0120_01.row.prog w) (lwA L fa cd) (eval (.Name (Str.ofString "unit") pos) (compEnvC { kind := ScopeKind.function, names := [(Str.ofString ".0", NameKind.local), (Str.ofString "place", NameKind.local), (Str.ofString "unit", NameKind.local)], isGenerator := false, isCoroutine := false } [] C (lwEnv L fa cd))) Q9 E9 s9 := by
      intro pos Q9 E9 s9 hn9 h9
      rw [eval_Name _ _ _ (by decide)]
      exact wpAny_bind (wpAny_standAt (wpAny_loadName_local rfl rfl hn9 hm h9))
    refine wpAny_IfExp (wpAny_isTrue_Compare1 (nm _ _ _ _ hn (wpAny_Constant_str (PyProof.Rows.eq_str (wpAny_truthy_bool ?_)))))
    by_cases q : u.2 = Str.ofString "\\\\"
    · rw [beq_iff_eq.mpr q, if_pos rfl]
      refine wpAny_Constant_str ?_
      rw [show Str.ofString "\\" = hiU u from (if_pos q).symm]
      exact hret _ _
    · rw [beq_eq_false_iff_ne.mpr q, if_neg Bool.false_ne_true]
      refine nm _ _ _ _ hn ?_
      have := hret t5
      rw [show hiU u = u.2 from if_neg q] at this
      exact this _
  case RR =>
    intro D C h tk m' ys gens' F5 N5 o5 hn hC₀ hD₀ hCL hDL hCD offC hys hbare
    refine ⟨m', hn, fun h'' hs'' => ?_⟩
    have F6 := F5.change hs'' hCL hC₀
    have N6 : News h₀ L h'' ((D, lst ys) :: rest) := fun p hp => ⟨hs''.extBut _ _ (by
      rcases List.mem_cons.mp hp with rfl | hp
      · exact Ne.symm hCD
      · exact offC p hp) (N5 p hp).1, (N5 p hp).2⟩
    dsimp only
    k_steps
    refine join_listW (isList_news N6 (.head _)) (by simpa using hys) (by decide) (by have := hi_weight wl.2; omega) fun t' k => ?_
    rw [hs2]
    dsimp only
    refine wpAny_storeName_local rfl F6.ns (fun h₂ hn₂ hs₂ => ?_) rfl
    replace hs₂ : Heap.SameBut L h'' h₂ := hs₂
    have hL₀ : h₀.get? L = none := Heap.get?_none_of_le F6.above
    have F₂ : Fr h₀ L h₂ _ := ⟨hn₂, fun b o e => hs₂.extBut b o (fun q => by rw [q, hL₀] at e; cases e) (F6.keep b o e), F6.above⟩
    rw [lwF_high] at F₂
    refine ret h₂ _ gens' t' hbare F₂ fun p hp => ?_
    have z := N6 p (.tail _ hp)
    exact ⟨hs₂.extBut _ _ z.2.1 z.1, z.2⟩
end
end
end
section
open PySem PySem.W PySem.Spec PySem.Calls PyProof.Rows
local macro_rules | `(tactic| walk_at "call ref") => `(tactic| (k_here; (with_reducible show wpAny _ _ (call (Value.ref 49) _) _ _ _); refine stop_of ?_))
section
open PySem PySem.W PySem.Spec PySem.Calls PyProof.Rows PyProof.Rows.LCg
set_option maxRecDepth 100000
set_option maxHeartbeats 4000000
set_option linter.unusedVariables false
variable {w : World} {fa : Addr} {cd : Value} {A₀ : Around} {base h₀ : Heap} {L : Addr} {m : Str → Option Value}
  {news news' rest : List (Addr × Obj)} {s : Shared} {p : Program} {loose : List Str} {mean : ExcName → Option Value} {mg mb : Str → Option Value}
  {Q E : Value → Shared → Prop}
noncomputable abbrev wb_2 : Stmt := by
  refine (fun (_ : stAt (forBody (stAt (ifBody (stAt (forBody (stAt (defBody lwDef) 6)) 5)) 0)) 2 = ?l) => ?l) ?h
  case h => (conv => lhs; whnf)
noncomputable abbrev wb_3 : Stmt := by
  refine (fun (_ : stAt (forBody (stAt (ifBody (stAt (forBody (stAt (defBody lwDef) 6)) 5)) 0)) 3 = ?l) => ?l) ?h
  case h => (conv => lhs; whnf)
noncomputable abbrev wb_4 : Stmt := by
  refine (fun (_ : stAt (forBody (stAt (ifBody (stAt (forBody (stAt (defBody lwDef) 6)) 5)) 0)) 4 = ?l) => ?l) ?h
  case h => (conv => lhs; whnf)
theorem st_push {QQ : Flow → Shared → Prop} {EE : Value → Shared → Prop} {xx d pb f : Addr} {h1 h2 h3 h4 : Int} {k1 k2 k3 k4 k5 k6 : Nat} {vs : Array Value} {n : Nat} {oL : Obj} {v : Value} {un na x dr wa le ro to wo hi : Option Value}
  (hoL : (L + 2, oL) ∈ rest) (hoc : oL.data = .cell (some (.ref xx))) (hxx : (xx, instObj 52 d) ∈ rest) (hd : (d, lexDict h1 h2 h3 h4 k1 k2 k3 k4 k5 k6 f pb) ∈ rest)
  (hpb : ∀ p ∈ rest, p.1 ≠ pb) (hz : vs.size ≤ 1000)
  (B : Below callerA h₀ [] h₀) (F : Fr h₀ L s.heap (lwF un na x dr wa le ro to wo (some v) hi)) (X : (Mine.topK w.params).In h₀) (N : News h₀ L s.heap ((pb, listOf vs n) :: rest)) (T : Top p loose mean mg mb h₀)
  (ret : ∀ h' tk', Fr h₀ L h' (lwF un na x dr wa le ro to wo (some v) hi) → News h₀ L h' ((pb, listOf (vs.push v) (n + 1)) :: rest) → QQ .next { s with heap := h', toks := tk' }) :
  wpAny (model PySem.Challenge.rw_re0120_01.row.prog w) (lwA L fa cd) (exec wb_2 (lwEnv L fa cd)) QQ EE s := by
  revert X
  k_fill
  intro X
  k_steps
  refine stop_go ?_
  try dsimp only
  refine push_K B F X N T (.tail _ hxx) (.tail _ hd) (.head _) (.head hpb) ?r ?u (by rw [sizeLine_eq]; omega) fun h' tk' F' N' => ?_
  case r => ktr_room
  case u => ktr_units
  exact ret _ _ F' N'
theorem st_inc {QQ : Flow → Shared → Prop} {EE : Value → Shared → Prop} {un na x dr le ro to wo lo hi : Option Value} {k t : Nat}
  (B : Below callerA h₀ [] h₀) (F : Fr h₀ L s.heap (lwF un na x dr (some (.int (k : Nat) t)) le ro to wo lo hi)) (X : (Mine.topK w.params).In h₀) (N : News h₀ L s.heap rest) (T : Top p loose mean mg mb h₀)
  (ret : ∀ h' tk' t, Fr h₀ L h' (lwF un na x dr (some (.int ((k + 1 : Nat) : Int) t)) le ro to wo lo hi) → News h₀ L h' rest → QQ .next { s with heap := h', toks := tk' }) :
  wpAny (model PySem.Challenge.rw_re0120_01.row.prog w) (lwA L fa cd) (exec wb_3 (lwEnv L fa cd)) QQ EE s := by
  revert X
  k_fill
  intro X
  k_steps
  rename Fr _ _ _ (fun y => _) => F9
  rename News _ _ _ _ => N9
  rw [lwF_waiting] at F9
  exact ret _ _ _ F9 N9
end
section
open PySem PySem.W PySem.Spec PySem.Calls PyProof.Rows PyProof.Rows.LCg
set_option maxRecDepth 100000
set_option maxHeartbeats 4000000
set_option linter.unusedVariables false
variable {w : World} {fa : Addr} {cd : Value} {A₀ : Around} {base h₀ : Heap} {L : Addr} {m : Str → Option Value}
  {news news' rest : List (Addr × Obj)} {s : Shared} {p : Program} {loose : List Str} {mean : ExcName → Option Value} {mg mb : Str → Option Value}
  {Q E : Value → Shared → Prop}
theorem st_if {QQ : Flow → Shared → Prop} {EE : Value → Shared → Prop} {xx d pb f : Addr} {h1 h2 h3 h4 : Int} {k1 k2 k3 k4 k5 k6 : Nat} {vs : Array Value} {n k t tl th : Nat} {lo hi : Str} {oL : Obj} {un na x dr le ro to wo : Option Value}
  (hoL : (L + 2, oL) ∈ rest) (hoc : oL.data = .cell (some (.ref xx))) (hxx : (xx, instObj 52 d) ∈ rest) (hd : (d, lexDict h1 h2 h3 h4 k1 k2 k3 k4 k5 k6 f pb) ∈ rest)
  (hpb : ∀ p ∈ rest, p.1 ≠ pb) (hz : vs.size ≤ 1000)
  (B : Below callerA h₀ [] h₀) (F : Fr h₀ L s.heap (lwF un na x dr (some (.int (k : Nat) t)) le ro to wo (some (.str lo tl)) (some (.str hi th)))) (X : (Mine.topK w.params).In h₀) (N : News h₀ L s.heap ((pb, listOf vs n) :: rest)) (T : Top p loose mean mg mb h₀)
  (ret : ∀ h' tk' vs' n' k' t', Fr h₀ L h' (lwF un na x dr (some (.int (k' : Nat) t')) le ro to wo (some (.str lo tl)) (some (.str hi th))) → News h₀ L h' ((pb, listOf vs' n') :: rest) →
    ((hi = lo ∧ vs' = vs ∧ k' = k) ∨ (hi ≠ lo ∧ vs' = vs.push (.str hi th) ∧ k' = k + 1)) → QQ .next { s with heap := h', toks := tk' }) :
  wpAny (model PySem.Challenge.rw_re0120_01.row.prog w) (lwA L fa cd) (exec wb_4 (lwEnv L fa cd)) QQ EE s := by
  refine wpAny_If ?_
  refine wpAny_isTrue_Compare1 (lw_name rfl (by decide) F.ns rfl (lw_name rfl (by decide) F.ns rfl (PyProof.Rows.ne_str (wpAny_truthy_bool ?_))))
  by_cases q : hi = lo
  · rw [show (hi != lo) = false from by unfold bne; rw [beq_iff_eq.mpr q]; rfl, if_neg Bool.false_ne_true]
    exact wpAny_execs_nil (ret _ _ vs n k t F N (.inl ⟨q, rfl, rfl⟩))
  · rw [show (hi != lo) = true from by unfold bne; rw [beq_eq_false_iff_ne.mpr q]; rfl, if_pos rfl]
    revert X
    k_fill
    intro X
    k_steps
    refine stop_go ?_
    try dsimp only
    refine push_K B F X N T (.tail _ hxx) (.tail _ hd) (.head _) (.head hpb) ?r ?u (by rw [sizeLine_eq]; omega) fun h' tk' F' N' => ?_
    case r => ktr_room
    case u => ktr_units
    try dsimp only
    k_steps
    rename Fr _ _ _ (fun y => _) => F9
    rename News _ _ _ _ => N9
    rw [lwF_waiting] at F9
    exact ret _ _ _ _ (k + 1) _ F9 N9 (.inr ⟨q, rfl, rfl⟩)
end
end
section
open PySem PySem.W PySem.Spec PySem.Calls PyProof.Rows
set_option maxRecDepth 100000
set_option maxHeartbeats 4000000
set_option linter.unusedVariables false
noncomputable def depL (n P : Nat) : List Nat := (rangeKs 0 (wholeI n P).toNat).map fun i => (depthI n P i).toNat
noncomputable def stepD (l : List Nat) : List Nat := l.flatMap fun k => if k % 2 = 0 then [k / 2] else [k / 2, k / 2 + 1]
theorem waitL_dep (n P : Nat) (x : Str) : waitL n P x = (depL n P).map fun k => wd k x := by
  unfold waitL depL; rw [List.map_map]; rfl
theorem dep_step : ∀ n : _root_.Fin 31, ∀ l : _root_.Fin 4, stepD (depL n (2 ^ (l : Nat))) = depL n (2 ^ ((l : Nat) + 1)) := by decide +kernel
theorem dep_one : ∀ n : _root_.Fin 31, depL n 1 = [(n : Nat)] := by decide +kernel
theorem dep_le : ∀ n : _root_.Fin 31, ∀ l : _root_.Fin 5, ∀ k ∈ depL n (2 ^ (l : Nat)), k ≤ 30 := by decide +kernel
end
section
open PySem PySem.W PySem.Spec PySem.Calls PyProof.Rows
set_option maxRecDepth 100000
set_option maxHeartbeats 4000000
set_option linter.unusedVariables false
noncomputable def PlainL (l : List Nat) : Prop := ∀ c ∈ l, c ≠ 92 ∧ c ≠ 34 ∧ c ≠ 10
theorem Qs_plain : ∀ {l : List Nat}, PlainL l → Qs l l
  | [], _ => .nil
  | c :: l, h => .chr (h c (.head _)).1 (h c (.head _)).2.1 (h c (.head _)).2.2 (Qs_plain fun d hd => h d (.tail _ hd))
theorem Qs_wd {c : Nat} {l : List Nat} (h : PlainL (c :: l)) : ∀ k : Nat, Qs (List.replicate k 92 ++ c :: l) (List.replicate (k / 2) 92 ++ c :: l)
  | 0 => Qs_plain h
  | 1 => .esc (h c (.head _)).2.2 (Qs_plain fun d hd => h d (.tail _ hd))
  | k + 2 => by
    rw [show (k + 2) / 2 = k / 2 + 1 by omega, List.replicate_succ, List.replicate_succ, List.replicate_succ]
    exact .esc (by decide) (Qs_wd h k)
theorem units_plain : ∀ {l : List Nat} (i : Nat), PlainL l → ((unitsG false i l).map hiU).flatMap (fun s => s.cps.toList) = l ∧ escEnd false l = false
  | [], _, _ => ⟨rfl, rfl⟩
  | c :: l, i, h => by
    have hc := (h c (.head _)).1
    obtain ⟨a, b⟩ := units_plain (l := l) (i + 1) fun d hd => h d (.tail _ hd)
    have e : unitsG false i (c :: l) = ((i : Int), (⟨#[c]⟩ : Str)) :: unitsG false (i + 1) l := if_neg hc
    have e2 : escEnd false (c :: l) = escEnd false l := if_neg hc
    rw [e, e2, List.map_cons, List.flatMap_cons, a]
    refine ⟨?_, b⟩
    have : hiU ((i : Int), (⟨#[c]⟩ : Str)) = ⟨#[c]⟩ := if_neg fun q => by
      have := congrArg (fun x : Str => x.cps.size) q
      exact absurd this (by show ¬ (1 = 2); decide)
    rw [this]; rfl
theorem units_wd {c : Nat} {l : List Nat} (h : PlainL (c :: l)) : ∀ (k i : Nat), ((unitsG false i (List.replicate k 92 ++ c :: l)).map hiU).flatMap (fun s => s.cps.toList) = List.replicate ((k + 1) / 2) 92 ++ c :: l ∧ escEnd false (List.replicate k 92 ++ c :: l) = false
  | 0, i => units_plain i h
  | 1, i => by
    have hc := (h c (.head _)).1
    obtain ⟨a, b⟩ := units_plain (l := l) (i + 2) fun d hd => h d (.tail _ hd)
    have e : unitsG false i (List.replicate 1 92 ++ c :: l) = (((i + 1 : Nat) : Int), (⟨#[92, c]⟩ : Str)) :: unitsG false (i + 2) l := by
      show (if (92 : Nat) = 92 then unitsG true (i + 1) (c :: l) else _) = _
      rw [if_pos rfl]; rfl
    have e2 : escEnd false (List.replicate 1 92 ++ c :: l) = escEnd false l := by
      show (if (92 : Nat) = 92 then escEnd true (c :: l) else _) = _
      rw [if_pos rfl]; rfl
    rw [e, e2, List.map_cons, List.flatMap_cons, a]
    refine ⟨?_, b⟩
    have : hiU (((i + 1 : Nat) : Int), (⟨#[92, c]⟩ : Str)) = ⟨#[92, c]⟩ := if_neg fun q => by
      have := congrArg (fun x : Str => x.cps.toList) q
      have e3 : (Str.ofString "\\\\").cps.toList = [92, 92] := rfl
      rw [e3] at this
      exact hc (by simpa using this)
    rw [this]; rfl
  | k + 2, i => by
    obtain ⟨a, b⟩ := units_wd h k (i + 2)
    have e : unitsG false i (List.replicate (k + 2) 92 ++ c :: l) = (((i + 1 : Nat) : Int), (⟨#[92, 92]⟩ : Str)) :: unitsG false (i + 2) (List.replicate k 92 ++ c :: l) := by
      show (if (92 : Nat) = 92 then unitsG true (i + 1) (92 :: (List.replicate k 92 ++ c :: l)) else _) = _
      rw [if_pos rfl]; rfl
    have e2 : escEnd false (List.replicate (k + 2) 92 ++ c :: l) = escEnd false (List.replicate k 92 ++ c :: l) := by
      show (if (92 : Nat) = 92 then escEnd true (92 :: (List.replicate k 92 ++ c :: l)) else _) = _
      rw [if_pos rfl]; rfl
    rw [e, e2, List.map_cons, List.flatMap_cons, a]
    refine ⟨?_, b⟩
    have : hiU (((i + 1 : Nat) : Int), (⟨#[92, 92]⟩ : Str)) = Str.ofString "\\" := if_pos rfl
    rw [this, show (k + 2 + 1) / 2 = (k + 1) / 2 + 1 by omega, List.replicate_succ]
    rfl
end
section
open PySem PySem.W PySem.Spec PySem.Calls PyProof.Rows
set_option maxRecDepth 100000
set_option maxHeartbeats 4000000
set_option linter.unusedVariables false
theorem nm_plain0 : ∀ k : _root_.Fin 6, ((nmA.getD k default).2.cps.toList.all fun c => c != 92 && c != 34 && c != 10 && decide (c < 128)) = true ∧ (nmA.getD k default).2.cps.toList ≠ [] := by decide +kernel
theorem nmX_plain {x : Int} (h0 : 0 ≤ x) (h1 : x < 41472) : ∃ c l, (nmX x).cps.toList = c :: l ∧ PlainL (c :: l) ∧ ∀ d ∈ c :: l, d < 128 := by
  obtain ⟨a0, a1, b0, b1, c0, c1, d0, d1⟩ := bound_x h0 h1
  obtain ⟨e1, e2⟩ := nm_plain0 ⟨(x.fdiv 6912).toNat, by omega⟩
  rw [List.all_eq_true] at e1
  have key : ∀ d ∈ (nmX x).cps.toList, (d ≠ 92 ∧ d ≠ 34 ∧ d ≠ 10) ∧ d < 128 := fun d hd => by
    have := e1 d hd
    simp only [Bool.and_eq_true, bne_iff_ne, ne_eq, decide_eq_true_eq] at this
    exact ⟨⟨this.1.1.1, this.1.1.2, this.1.2⟩, this.2⟩
  have e2' : (nmX x).cps.toList ≠ [] := e2
  cases hl : (nmX x).cps.toList with
  | nil => exact absurd hl e2'
  | cons c l =>
    rw [hl] at key
    exact ⟨c, l, rfl, fun d hd => (key d hd).1, fun d hd => (key d hd).2⟩
theorem wd_of_list {k : Nat} {y : Str} {out : List Nat} (h : out = List.replicate k 92 ++ y.cps.toList) : (⟨out.toArray⟩ : Str) = wd k y := by subst h; rfl
theorem low_X {x : Int} (h0 : 0 ≤ x) (h1 : x < 41472) (k : Nat) : ∃ out, Qs (wd k (nmX x)).cps.toList out ∧ (⟨out.toArray⟩ : Str) = wd (k / 2) (nmX x) := by
  obtain ⟨c, l, e, hp, _⟩ := nmX_plain h0 h1
  refine ⟨List.replicate (k / 2) 92 ++ (nmX x).cps.toList, ?_, rfl⟩
  rw [wd_list, e]
  exact Qs_wd hp k
theorem high_X {x : Int} (h0 : 0 ≤ x) (h1 : x < 41472) (k : Nat) : hiT (wd k (nmX x)) = wd ((k + 1) / 2) (nmX x) ∧ escEnd false (wd k (nmX x)).cps.toList = false := by
  obtain ⟨c, l, e, hp, _⟩ := nmX_plain h0 h1
  obtain ⟨a, b⟩ := units_wd hp k 0
  unfold hiT
  rw [join_flat, wd_list, e, a]
  exact ⟨wd_of_list (by rw [e]), b⟩
theorem ascii_X {x : Int} (h0 : 0 ≤ x) (h1 : x < 41472) (k : Nat) : (wd k (nmX x)).cps.all (· < 128) = true := by
  obtain ⟨c, l, e, _, ha⟩ := nmX_plain h0 h1
  rw [Array.all_eq_true']
  intro d hd
  rw [← Array.mem_toList_iff, wd_list, e] at hd
  rcases List.mem_append.mp hd with q | q
  · rw [List.eq_of_mem_replicate q]; decide
  · exact decide_eq_true (ha d q)
theorem wd_inj {k j : Nat} {y : Str} (h : wd k y = wd j y) : k = j := by
  have := congrArg Str.length h
  rw [wd_len, wd_len] at this
  omega
end
section
open PySem PySem.W PySem.Spec PySem.Calls PyProof.Rows PyProof.Rows.LCg
set_option maxRecDepth 100000
set_option maxHeartbeats 4000000
set_option linter.unusedVariables false
variable {w : World} {fa : Addr} {cd : Value} {A₀ : Around} {base h₀ : Heap} {L : Addr} {m : Str → Option Value}
  {news news' rest : List (Addr × Obj)} {s : Shared} {p : Program} {loose : List Str} {mean : ExcName → Option Value} {mg mb : Str → Option Value}
  {Q E : Value → Shared → Prop}
/-- one word: low is pushed, and high if it is another -/
theorem st_word {QQ : Flow → Shared → Prop} {EE : Value → Shared → Prop} {xx d pb f c1 c2 : Addr} {h1 h2 h3 h4 : Int} {k1 k2 k3 k4 k5 k6 : Nat} {vs : Array Value} {n k t ty j : Nat} {X0 : Int} {oL oc2 : Obj} {vs2 : Array Value} {t2 : Nat} {un na x dr le ro to lo hi : Option Value} (b0 : 0 ≤ X0) (b1 : X0 < 41472) (hj : j ≤ 30)
  (hC : CodeHd h₀ 133 129) (ht : (129, tab2 c1 c2) ∈ rest) (hc2 : (c2, oc2) ∈ rest) (hcd : oc2.data = .fields vs2) (hcv : vs2[1]? = some (.str lamQ t2))
  (hoL : (L + 2, oL) ∈ rest) (hoc : oL.data = .cell (some (.ref xx))) (hxx : (xx, instObj 52 d) ∈ rest) (hd : (d, lexDict h1 h2 h3 h4 k1 k2 k3 k4 k5 k6 f pb) ∈ rest)
  (hpb : ∀ p ∈ rest, p.1 ≠ pb) (hz : vs.size ≤ 900) (hg : AllBare s.gens)
  (B : Below callerA h₀ [] h₀) (F : Fr h₀ L s.heap (lwF un na x dr (some (.int (k : Nat) t)) le ro to (some (.str (wd j (nmX X0)) ty)) lo hi)) (X : (Mine.topK w.params).In h₀) (N : News h₀ L s.heap ((pb, listOf vs n) :: rest)) (T : Top p loose mean mg mb h₀)
  (ret : ∀ h' tk' gs' us n' t' lo' hi', AllBare gs' → Fr h₀ L h' (lwF un na x dr (some (.int ((k + us.length : Nat) : Int) t')) le ro to (some (.str (wd j (nmX X0)) ty)) lo' hi') → News h₀ L h' ((pb, listOf (vs ++ List.toArray us) n') :: rest) →
    StrsAre us ((stepD [j]).map fun i => wd i (nmX X0)) → QQ .next { s with heap := h', toks := tk', gens := gs' }) :
  wpAny (model PySem.Challenge.rw_re0120_01.row.prog w) (lwA L fa cd) (execs wbBody (lwEnv L fa cd)) QQ EE s := by
  obtain ⟨out, hQ, hout⟩ := low_X b0 b1 j
  obtain ⟨hhi, hesc⟩ := high_X b0 b1 j
  have hlen : (wd j (nmX X0)).length ≤ 100 := by rw [wd_len]; have := nmX_len b0 b1; omega
  have hvc : Value.int ((k + 1 + 1 : Nat) : Int) = Value.int ((k + 2 : Nat) : Int) := rfl
  refine wpAny_execs_cons (st_low hC (.tail _ ht) (.tail _ hc2) hcd hcv hlen hQ B F X N T fun ha ta tl Fa Na => ?_)
  rw [hout] at Fa
  refine wpAny_execs_cons (st_high (s := { s with heap := ha, toks := ta }) hlen (ascii_X b0 b1 j) hesc hg B Fa X Na T fun hb tb gs th hgs Fb Nb => ?_)
  rw [hhi] at Fb
  refine wpAny_execs_cons (st_push (s := { s with heap := hb, toks := tb, gens := gs }) hoL hoc hxx hd hpb (by omega) B Fb X Nb T fun hc tc Fc Nc => ?_)
  refine wpAny_execs_cons (st_inc (s := { s with heap := hc, toks := tc, gens := gs }) B Fc X Nc T fun hd' td t3 Fd Nd => ?_)
  refine wpAny_execs_cons (st_if (s := { s with heap := hd', toks := td, gens := gs }) hoL hoc hxx hd hpb (by rw [Array.size_push]; omega) B Fd X Nd T fun he te vs' n' k' t4 Fe Ne hor => wpAny_execs_nil ?_)
  rcases hor with ⟨q, rfl, rfl⟩ | ⟨q, rfl, rfl⟩
  · have hev : j % 2 = 0 := by have := wd_inj q; omega
    refine ret he te gs [.str (wd (j / 2) (nmX X0)) tl] n' t4 _ _ hgs Fe ?_ ?_
    · rw [show vs ++ List.toArray [Value.str (wd (j / 2) (nmX X0)) tl] = vs.push (Value.str (wd (j / 2) (nmX X0)) tl) from by simp]; exact Ne
    · rw [show stepD [j] = [j / 2] from by simp [stepD, hev]]; exact .cons _ _ .nil
  · have hod : ¬ j % 2 = 0 := fun hev => q (by rw [show (j + 1) / 2 = j / 2 by omega])
    refine ret he te gs [.str (wd (j / 2) (nmX X0)) tl, .str (wd ((j + 1) / 2) (nmX X0)) th] n' t4 _ _ hgs Fe ?_ ?_
    · rw [show vs ++ List.toArray [Value.str (wd (j / 2) (nmX X0)) tl, Value.str (wd ((j + 1) / 2) (nmX X0)) th] = (vs.push (Value.str (wd (j / 2) (nmX X0)) tl)).push (Value.str (wd ((j + 1) / 2) (nmX X0)) th) from by apply Array.toList_inj.mp; simp]; exact Ne
    · rw [show stepD [j] = [j / 2, j / 2 + 1] from by simp [stepD, hod], show (j + 1) / 2 = j / 2 + 1 by omega]; exact .cons _ _ (.cons _ _ .nil)
end
section
open PySem PySem.W PySem.Spec PySem.Calls PyProof.Rows PyProof.Rows.LCg
set_option maxRecDepth 100000
set_option maxHeartbeats 4000000
set_option linter.unusedVariables false
variable {w : World} {fa : Addr} {cd : Value} {A₀ : Around} {base h₀ : Heap} {L : Addr} {m : Str → Option Value}
  {news news' rest : List (Addr × Obj)} {s : Shared} {p : Program} {loose : List Str} {mean : ExcName → Option Value} {mg mb : Str → Option Value}
  {Q E : Value → Shared → Prop}
noncomputable abbrev lv_5f : Stmt := by
  refine (fun (_ : stAt (ifBody (stAt (forBody (stAt (defBody lwDef) 6)) 5)) 0 = ?l) => ?l) ?h
  case h => (conv => lhs; whnf)
/-- a word that waits: its depth and which of the two names -/
noncomputable abbrev DW := Nat × Bool
noncomputable def dwX (x1 x2 : Int) (u : DW) : Str := wd u.1 (nmX (if u.2 then x1 else x2))
noncomputable def stepW (l : List DW) : List DW := l.flatMap fun u => (stepD [u.1]).map fun k => (k, u.2)
theorem stepW_snoc (l : List DW) (u : DW) : stepW (l ++ [u]) = stepW l ++ (stepD [u.1]).map fun k => (k, u.2) := by simp [stepW]
theorem strs_get {vs : List Value} {ys : List Str} {i : Nat} {v : Value} {y : Str} (h : StrsAre vs ys) (hv : vs[i]? = some v) (hy : ys[i]? = some y) : ∃ t, v = .str y t := by
  induction h generalizing i with
  | nil => simp at hv
  | cons z t r ih =>
    cases i with
    | zero => simp at hv hy; exact ⟨t, by rw [← hv, hy]⟩
    | succ i => exact ih (by simpa using hv) (by simpa using hy)
theorem stepW_len : ∀ l : List DW, (stepW l).length ≤ 2 * l.length
  | [] => by simp [stepW]
  | u :: l => by
    have ih := stepW_len l
    have e : stepW (u :: l) = (stepD [u.1]).map (fun k => (k, u.2)) ++ stepW l := by simp [stepW]
    have e2 : (stepD [u.1]).length ≤ 2 := by
      simp only [stepD, List.flatMap_cons, List.flatMap_nil, List.append_nil]
      split <;> simp
    rw [e, List.length_append, List.length_map, List.length_cons]
    omega
theorem st_words {QQ : Flow → Shared → Prop} {EE : Value → Shared → Prop} {xx d pb f c1 c2 R : Addr} {h1 h2 h3 h4 : Int} {k1 k2 k3 k4 k5 k6 : Nat} {ws : List Value} {us : List DW} {n t : Nat} {x1 x2 : Int} {oL oc2 : Obj} {vs2 : Array Value} {t2 : Nat} {un na x dr le to wo lo hi : Option Value} (b0 : 0 ≤ x1) (b1 : x1 < 41472) (c0 : 0 ≤ x2) (c1' : x2 < 41472)
  (hus : StrsAre ws (us.map (dwX x1 x2))) (hu30 : ∀ u ∈ us, u.1 ≤ 30) (hul : us.length ≤ 400) (hR : (R, lst ws) ∈ rest)
  (hC : CodeHd h₀ 133 129) (ht : (129, tab2 c1 c2) ∈ rest) (hc2 : (c2, oc2) ∈ rest) (hcd : oc2.data = .fields vs2) (hcv : vs2[1]? = some (.str lamQ t2))
  (hoL : (L + 2, oL) ∈ rest) (hoc : oL.data = .cell (some (.ref xx))) (hxx : (xx, instObj 52 d) ∈ rest) (hd : (d, lexDict h1 h2 h3 h4 k1 k2 k3 k4 k5 k6 f pb) ∈ rest)
  (hpb : ∀ p ∈ rest, p.1 ≠ pb) (hg : AllBare s.gens)
  (B : Below callerA h₀ [] h₀) (F : Fr h₀ L s.heap (lwF un na x dr (some (.int 0 t)) le (some (.ref R)) to wo lo hi)) (X : (Mine.topK w.params).In h₀) (N : News h₀ L s.heap ((pb, listOf ([] : List Value).toArray n) :: rest)) (T : Top p loose mean mg mb h₀)
  (ret : ∀ h' tk' gs' vs n' t' wo' lo' hi', AllBare gs' → Fr h₀ L h' (lwF un na x dr (some (.int (vs.length : Nat) t')) le (some (.ref R)) to wo' lo' hi') → News h₀ L h' ((pb, listOf (List.toArray vs) n') :: rest) →
    StrsAre vs ((stepW us).map (dwX x1 x2)) → QQ .next { s with heap := h', toks := tk', gens := gs' }) :
  wpAny (model PySem.Challenge.rw_re0120_01.row.prog w) (lwA L fa cd) (exec lv_5f (lwEnv L fa cd)) QQ EE s := by
  have hwl : ws.length = us.length := by rw [hus.length, List.length_map]
  revert X
  k_fill
  intro X
  refine wpAny_For ?_
  refine lw_name rfl (by decide) F.ns rfl ?_
  refine for_list (env := lwEnv L fa cd) (h₀ := h₀) (Q := QQ) (items := ws.toArray) (k := ws.length) (l := R) (nw := (pb, listOf ([] : List Value).toArray n) :: rest)
    (S := fun i m nw gs => AllBare gs ∧ ∃ wo lo hi vs n t, m = lwF un na x dr (some (.int ((vs.length : Nat) : Int) t)) le (some (.ref R)) to wo lo hi ∧ nw = (pb, listOf (List.toArray vs) n) :: rest ∧ StrsAre vs ((stepW (us.take i)).map (dwX x1 x2)))
    rfl rfl rfl F N (.tail _ hR) ⟨hg, _, _, _, [], _, _, rfl, rfl, .nil⟩ ?hSl ?turn ?fin
  case hSl =>
    rintro i m nw gs ⟨_, wo, lo, hi, vs, n, t, _, rfl, _⟩
    exact .tail _ hR
  case fin =>
    rintro m nw gs h tk ⟨hb, wo, lo, hi, vs, n, t, rfl, rfl, hS⟩ F' N'
    rw [List.size_toArray, hwl, List.take_length] at hS
    exact ret _ _ _ _ _ _ _ _ _ hb F' N' hS
  case turn =>
    rintro it hit i v m nw gs h tk oI QQ1 E1 hi' hv ⟨hb, wo, lo, hi, vs, n, t, rfl, rfl, hS⟩ hof F' N' hret
    rw [lwF_word] at F'
    have hilt : i < us.length := by rw [List.size_toArray, hwl] at hi'; exact hi'
    have hpit : pb ≠ it := hof _ (.head _)
    have hrit : ∀ p ∈ rest, p.1 ≠ it := fun p hp => hof p (.tail _ hp)
    have hp2 : ∀ p ∈ ((it, oI) :: rest : List (Addr × Obj)), p.1 ≠ pb := fun p hp => by
      rcases List.mem_cons.mp hp with rfl | hp
      · exact Ne.symm hpit
      · exact hpb p hp
    have N2 : News h₀ L h ((pb, listOf (List.toArray vs) n) :: (it, oI) :: rest) := fun p hp => N' p (by simp only [List.mem_cons] at hp ⊢; rcases hp with q | q | q; exact .inr (.inl q); exact .inl q; exact .inr (.inr q))
    have hui : us[i]? = some us[i] := List.getElem?_eq_getElem hilt
    obtain ⟨ty, rfl⟩ := strs_get (i := i) (v := v) (y := dwX x1 x2 us[i]) hus (by simpa using hv) (by rw [List.getElem?_map, hui]; rfl)
    have hxb : 0 ≤ (if us[i].2 then x1 else x2) ∧ (if us[i].2 then x1 else x2) < 41472 := by split <;> exact ⟨by assumption, by assumption⟩
    have hvl : vs.length ≤ 900 := by
      rw [hS.length, List.length_map]
      have := stepW_len (us.take i)
      rw [List.length_take] at this
      omega
    refine st_word (s := { s with heap := h, toks := tk, gens := gs }) (j := us[i].1) hxb.1 hxb.2 (hu30 _ (List.getElem_mem hilt)) hC (.tail _ ht) (.tail _ hc2) hcd hcv (.tail _ hoL) hoc (.tail _ hxx) (.tail _ hd) hp2 (by rw [List.size_toArray]; exact hvl) hb B F' X N2 T fun h' tk' gs' us' n' t' lo' hi2 hb' F3 N3 S3 => ?_
    refine hret h' tk' _ ((pb, listOf (List.toArray (vs ++ us')) n') :: rest) gs' F3 ?_ ?_ ⟨hb', _, _, _, vs ++ us', _, _, by rw [List.length_append], rfl, ?_⟩
    · refine fun p hp => N3 p ?_
      rw [show List.toArray vs ++ List.toArray us' = List.toArray (vs ++ us') from by simp]
      simp only [List.mem_cons] at hp ⊢; rcases hp with q | q | q; exact .inr (.inl q); exact .inl q; exact .inr (.inr q)
    · intro p hp
      rcases List.mem_cons.mp hp with rfl | hp
      · exact hpit
      · exact hrit p hp
    · rw [List.take_add_one, hui, Option.toList_some, stepW_snoc, List.map_append]
      refine strs_app hS ?_
      rw [List.map_map]
      exact S3
end
section
open PySem PySem.W PySem.Spec PySem.Calls PyProof.Rows PyProof.Rows.LCg
set_option maxRecDepth 100000
set_option maxHeartbeats 4000000
set_option linter.unusedVariables false
variable {w : World} {fa : Addr} {cd : Value} {A₀ : Around} {base h₀ : Heap} {L : Addr} {m : Str → Option Value}
  {news news' rest : List (Addr × Obj)} {s : Shared} {p : Program} {loose : List Str} {mean : ExcName → Option Value} {mg mb : Str → Option Value}
  {Q E : Value → Shared → Prop}
theorem st_lt {QQ : Flow → Shared → Prop} {EE : Value → Shared → Prop} {lv tl : Nat} {un na x dr wa ro to wo lo hi : Option Value}
  (F : Fr h₀ L s.heap (lwF un na x dr wa (some (.int (lv : Nat) tl)) ro to wo lo hi)) (h1 : lv < 4 → ∀ tk (Q' : Flow → Shared → Prop), (∀ s', QQ .next s' → Q' .next s') → wpAny (model PySem.Challenge.rw_re0120_01.row.prog w) (lwA L fa cd) (exec lv_5f (lwEnv L fa cd)) Q' EE { s with toks := tk })
  (h2 : ¬ lv < 4 → ∀ tk, QQ .next { s with toks := tk }) :
  wpAny (model PySem.Challenge.rw_re0120_01.row.prog w) (lwA L fa cd) (exec lv_5 (lwEnv L fa cd)) QQ EE s := by
  refine wpAny_If ?_
  refine wpAny_isTrue_Compare1 (lw_name rfl (by decide) F.ns rfl (wpAny_Constant_int ?_))
  refine PyProof.Rows.lt_int (wpAny_truthy_bool ?_)
  by_cases q : lv < 4
  · rw [show decide (((lv : Nat) : Int) < 4) = true from decide_eq_true (by omega), if_pos rfl]
    exact wpAny_execs_cons (h1 q _ _ fun s' hq => wpAny_execs_nil hq)
  · rw [show decide (((lv : Nat) : Int) < 4) = false from decide_eq_false (by omega), if_neg Bool.false_ne_true]
    exact wpAny_execs_nil (h2 q _)
end
section
open PySem PySem.W PySem.Spec PySem.Calls PyProof.Rows
set_option maxRecDepth 100000
set_option maxHeartbeats 4000000
set_option linter.unusedVariables false
noncomputable def usL (x1 x2 : Int) (P : Nat) : List DW := (depL (pqX x1) P).map (fun k => (k, true)) ++ (depL (pqX x2) P).map fun k => (k, false)
theorem waits_us (x1 x2 : Int) (P : Nat) : waitsX x1 x2 P = (usL x1 x2 P).map (dwX x1 x2) := by
  unfold waitsX usL
  rw [waitL_dep, waitL_dep, List.map_append, List.map_map, List.map_map]
  rfl
theorem stepW_map (b : Bool) : ∀ l : List Nat, stepW (l.map fun k => (k, b)) = (stepD l).map fun k => (k, b)
  | [] => rfl
  | k :: l => by
    have e : stepW ((k :: l).map fun k => (k, b)) = (stepD [k]).map (fun k => (k, b)) ++ stepW (l.map fun k => (k, b)) := by simp [stepW]
    have e2 : stepD (k :: l) = stepD [k] ++ stepD l := by simp [stepD]
    rw [e, e2, stepW_map b l, List.map_append]
theorem stepW_app (l r : List DW) : stepW (l ++ r) = stepW l ++ stepW r := by simp [stepW]
theorem us_step {x1 x2 : Int} (h1 : pqX x1 ≤ 30) (h2 : pqX x2 ≤ 30) {l : Nat} (hl : l < 4) : stepW (usL x1 x2 (2 ^ l)) = usL x1 x2 (2 ^ (l + 1)) := by
  unfold usL
  rw [stepW_app, stepW_map, stepW_map]
  have a := dep_step ⟨pqX x1, by omega⟩ ⟨l, hl⟩
  have b := dep_step ⟨pqX x2, by omega⟩ ⟨l, hl⟩
  dsimp only at a b
  rw [a, b]
theorem us_zero {x1 x2 : Int} (h1 : pqX x1 ≤ 30) (h2 : pqX x2 ≤ 30) : textsX x1 x2 = (usL x1 x2 1).map (dwX x1 x2) := by
  unfold usL
  have a := dep_one ⟨pqX x1, by omega⟩
  have b := dep_one ⟨pqX x2, by omega⟩
  dsimp only at a b
  rw [a, b]
  rfl
theorem us_le {x1 x2 : Int} (h1 : pqX x1 ≤ 30) (h2 : pqX x2 ≤ 30) {l : Nat} (hl : l < 5) : ∀ u ∈ usL x1 x2 (2 ^ l), u.1 ≤ 30 := by
  intro u hu
  rcases List.mem_append.mp hu with q | q
  · obtain ⟨k, hk, rfl⟩ := List.mem_map.mp q
    exact dep_le ⟨pqX x1, by omega⟩ ⟨l, hl⟩ k hk
  · obtain ⟨k, hk, rfl⟩ := List.mem_map.mp q
    exact dep_le ⟨pqX x2, by omega⟩ ⟨l, hl⟩ k hk
theorem us_len {x1 x2 : Int} {l : Nat} (hl : l < 5) : (usL x1 x2 (2 ^ l)).length ≤ 400 := by
  have p1 : 1 ≤ 2 ^ l := Nat.one_le_two_pow
  have p2 : 2 ^ l ≤ 2 ^ 4 := Nat.pow_le_pow_right (by decide) (by omega)
  have a := (wait_len (n := pqX x1) (P := 2 ^ l) (x := nmX x1) p1 p2).2
  have b := (wait_len (n := pqX x2) (P := 2 ^ l) (x := nmX x2) p1 p2).2
  rw [waitL_dep, List.length_map] at a b
  unfold usL
  rw [List.length_append, List.length_map, List.length_map]
  omega
end
section
open PySem PySem.W PySem.Spec PySem.Calls PyProof.Rows PyProof.Rows.LCg
set_option maxRecDepth 100000
set_option maxHeartbeats 4000000
set_option linter.unusedVariables false
section
variable {prog : Program} {w : World} {A : Around} {E : Value → Shared → Prop} {h₀ : Heap} {m : Str → Option Value} {env : Env}
/-- a loop over a range; what each turn keeps is said by S -/
theorem for_range {x : Str} {px : Pos} {body : List Stmt} {r : Addr} {a₀ b₀ : Int} {t₀ u₀ v₀ : Tok} {n : Nat} {nw : Ledger} {s₁ : Shared} {Q : Flow → Shared → Prop}
    {S : Nat → (Str → Option Value) → Ledger → Array GenState → Prop}
    (hh : A.handled = none) (hx : env.kindOf x = some .local) (hp : (env.scope.kind == .class || (env.scope.kind == .module && env.locals != env.globals)) = false)
    (hr : IsRange s₁.heap r a₀ b₀ 1 t₀ u₀ v₀) (hsmall : Builtin.Range.small a₀ b₀ 1 = true) (hn : Builtin.Range.rangeSize a₀ b₀ 1 = (n : Int))
    (F : Fr h₀ env.locals s₁.heap m) (N : News h₀ env.locals s₁.heap nw) (hS : S 0 m nw s₁.gens)
    (turn : ∀ it, (∀ p ∈ nw, p.1 ≠ it) → ∀ (i t : Nat) m nw' gs h tk oI (QQ : Flow → Shared → Prop) (EE : Value → Shared → Prop), i < n → S i m nw' gs → (∀ p ∈ nw', p.1 ≠ it) → Fr h₀ env.locals h (fun y => if y = x then some (.int (a₀ + (i : Int)) t) else m y) → News h₀ env.locals h ((it, oI) :: nw') →
      (∀ h' tk' m' nw' gs', Fr h₀ env.locals h' m' → News h₀ env.locals h' ((it, oI) :: nw') → (∀ p ∈ nw', p.1 ≠ it) → S (i + 1) m' nw' gs' → QQ .next { s₁ with heap := h', toks := tk', gens := gs' }) →
      wpAny (model prog w) A (execs body env) QQ EE { s₁ with heap := h, toks := tk, gens := gs })
    (fin : ∀ m nw gs h tk, S n m nw gs → Fr h₀ env.locals h m → News h₀ env.locals h nw → Q .next { s₁ with heap := h, toks := tk, gens := gs }) :
    wpAny (model prog w) A (pyIter (.ref r)) (fun it s₂ => codeAny (model prog w) A (.forLoop (.Name x px) it body [] env) (fun r s' => match r with | .ok f => Q f s' | .error e => cameBackBy (model prog w) A env E e s') s₂) E s₁ := by
  refine wpAny_pyIter_range hr hsmall ?_
  have up : ∀ b o, s₁.heap.get? b = some o → (s₁.heap.push { cls := .type "range_iterator", data := .fields #[rawInt a₀, rawInt (Builtin.Range.rangeSize a₀ b₀ 1), rawInt 1] }).get? b = some o := fun b o e => Heap.get?_push_of_some _ e
  have off : ∀ p ∈ nw, p.1 ≠ s₁.heap.objs.size := fun p hp => Nat.ne_of_lt (Heap.lt_size (N p hp).1)
  refine loop_W (h₀ := h₀) (P := fun i v => ∃ t, v = .int (a₀ + (i : Int) * 1) t) (S := fun i m nw gs => (∀ p ∈ nw, p.1 ≠ s₁.heap.objs.size) ∧ S i m nw gs) (keep := []) (oI := { cls := .type "range_iterator", data := .fields #[rawInt a₀, rawInt (Builtin.Range.rangeSize a₀ b₀ 1), rawInt 1] }) (Walks.range hh s₁.heap.objs.size a₀ 1 n) (fun i h st => ⟨_, st⟩) (fun b hb => .inl (List.mem_singleton.mp hb)) (Nat.ne_of_gt F.ns.lt) (next_is_new F) hx hp ?st
    (F.keeps up) (fun p hp => ?_) ⟨off, hS⟩ (fun i m nw gs q => ⟨q.1, fun p hp => by cases hp⟩) ?_ fun m nw gs h tk S' F' N' => fin m nw gs h tk S'.2 F' N'
  case st =>
    show IsRangeIter _ _ _ _ _
    rw [hn]
    simpa using Heap.get?_push_size _ rfl
  · rcases List.mem_cons.mp hp with rfl | hp
    · exact ⟨Heap.get?_push_size _ rfl, Nat.ne_of_gt F.ns.lt, next_is_new F⟩
    · exact ⟨up _ _ (N p hp).1, (N p hp).2⟩
  · rintro i v m nw' gs h tk oI QQ EE hi ⟨t, rfl⟩ S' F' N' ret
    rw [Int.mul_one] at F'
    exact turn _ off i t m nw' gs h tk oI QQ EE hi S'.2 S'.1 F' N' fun h' tk' m' nw' gs' F2 N2 o2 S2 => ret h' tk' m' nw' gs' F2 N2 ⟨o2, S2⟩
end
end
section
open PySem PySem.W PySem.Spec PySem.Calls PyProof.Rows PyProof.Rows.LCg
set_option maxRecDepth 100000
set_option maxHeartbeats 4000000
set_option linter.unusedVariables false
variable {w : World} {fa : Addr} {cd : Value} {A₀ : Around} {base h₀ : Heap} {L : Addr} {m : Str → Option Value}
  {news news' rest : List (Addr × Obj)} {s : Shared} {p : Program} {loose : List Str} {mean : ExcName → Option Value} {mg mb : Str → Option Value}
  {Q E : Value → Shared → Prop}
noncomputable def lvSt (x1 x2 : Int) (i : Nat) : List Str := if i < 5 then (usL x1 x2 (2 ^ i)).map (dwX x1 x2) else []
theorem nmOk_sub {U : Addr} {l l' : List (Addr × Obj)} (h : NmOk U l) (hs : ∀ p ∈ l, p ∈ l') : NmOk U l' := by
  obtain ⟨a0, a1, a2, a3, a4, a5, n, hU, hA⟩ := h
  exact ⟨a0, a1, a2, a3, a4, a5, n, hs _ hU, fun i a y e1 e2 => by obtain ⟨t, u, k, hm⟩ := hA i a y e1 e2; exact ⟨t, u, k, hs _ hm⟩⟩
theorem wdX_ok {x1 x2 : Int} (b0 : 0 ≤ x1) (b1 : x1 < 41472) (c0 : 0 ≤ x2) (c1' : x2 < 41472) (us : List DW) : ∀ y ∈ us.map (dwX x1 x2), PyData.strOk y = true := by
  intro y hy
  obtain ⟨u, _, rfl⟩ := List.mem_map.mp hy
  have h : (dwX x1 x2 u).cps.all (· < 128) = true := by
    unfold dwX
    split
    · exact ascii_X b0 b1 _
    · exact ascii_X c0 c1' _
  unfold PyData.strOk
  rw [Array.all_eq_true] at h ⊢
  intro i hi
  have := h i hi
  simp only [decide_eq_true_eq] at this ⊢
  omega
/-- one level -/
theorem st_level {QQ : Flow → Shared → Prop} {EE : Value → Shared → Prop} {xx d pb f c1 c2 na dr : Addr} {h1 h2 h3 h4 : Int} {k1 k2 k3 k4 k5 k6 : Nat} {ws : List Value} {n t i tl n2 t1 t2' : Nat} {x1 x2 : Int} {oL oc2 : Obj} {vs2 : Array Value} {t2 : Nat} {un xo ro to wo lo hi : Option Value} (b0 : 0 ≤ x1) (b1 : x1 < 41472) (c0 : 0 ≤ x2) (c1' : x2 < 41472) (hi5 : i < 5)
  (hws : StrsAre ws ((usL x1 x2 (2 ^ i)).map (dwX x1 x2)))
  (hC : CodeHd h₀ 133 129) (ht : (129, tab2 c1 c2) ∈ rest) (hc2 : (c2, oc2) ∈ rest) (hcd : oc2.data = .fields vs2) (hcv : vs2[1]? = some (.str lamQ t2))
  (hna : NmOk na rest) (hdr : (dr, listOf #[Value.int x1 t1, Value.int x2 t2'] n2) ∈ rest)
  (hoL : (L + 2, oL) ∈ rest) (hoc : oL.data = .cell (some (.ref xx))) (hxx : (xx, instObj 52 d) ∈ rest) (hd : (d, lexDict h1 h2 h3 h4 k1 k2 k3 k4 k5 k6 f pb) ∈ rest)
  (hpb : ∀ p ∈ rest, p.1 ≠ pb) (hg : AllBare s.gens)
  (B : Below callerA h₀ [] h₀) (F : Fr h₀ L s.heap (lwF un (some (.ref na)) xo (some (.ref dr)) (some (.int (ws.length : Nat) t)) (some (.int (i : Nat) tl)) ro to wo lo hi)) (X : (Mine.topK w.params).In h₀) (N : News h₀ L s.heap ((pb, listOf ws.toArray n) :: rest)) (T : Top p loose mean mg mb h₀)
  (ret : ∀ h' tk' gs' vs n' t' xo' le' ro' to' wo' lo' hi', AllBare gs' → Fr h₀ L h' (lwF un (some (.ref na)) xo' (some (.ref dr)) (some (.int (vs.length : Nat) t')) le' ro' to' wo' lo' hi') → News h₀ L h' ((pb, listOf (List.toArray vs) n') :: rest) →
    StrsAre vs (lvSt x1 x2 (i + 1)) → QQ .next { s with heap := h', toks := tk', gens := gs' }) :
  wpAny (model PySem.Challenge.rw_re0120_01.row.prog w) (lwA L fa cd) (execs lvBody (lwEnv L fa cd)) QQ EE s := by
  have e30 : pqX x1 ≤ 30 := (pq_int b0 b1).2
  have f30 : pqX x2 ≤ 30 := (pq_int c0 c1').2
  have hul := us_len (x1 := x1) (x2 := x2) hi5
  have hwl : ws.length ≤ 400 := by rw [hws.length, List.length_map]; exact hul
  refine wpAny_execs_cons (st_row hoL hoc hxx hd hpb (by omega) B F X N T fun ha ta R n1 Fa Na hRp hR => ?_)
  refine wpAny_execs_cons (st_told1 (s := { s with heap := ha, toks := ta }) B Fa X Na T fun hb tb To Fb Nb hTo => ?_)
  refine wpAny_execs_cons (st_told (s := { s with heap := hb, toks := tb }) (P := 2 ^ i) b0 b1 c0 c1' (nmOk_sub hna fun p hp => .tail _ (.tail _ hp)) (.tail _ (.tail _ hdr)) hTo (by omega) rfl B Fb X Nb T fun hc tc xv us n3 Fc Nc hS => ?_)
  rw [waits_us] at hS
  have ok := wdX_ok b0 b1 c0 c1' (usL x1 x2 (2 ^ i))
  refine wpAny_execs_cons (st_cmp (s := { s with heap := hc, toks := tc }) (.tail _ (List.Mem.head _)) (List.Mem.head _) hws hS ok Fc Nc ?_)
  refine wpAny_execs_cons (st_w0 (s := { s with heap := hc, toks := tc }) B Fc X Nc T fun hd' td t3 Fd Nd => ?_)
  have p1 : ∀ p ∈ (To, listOf (List.toArray us) n3) :: (R, lst ws) :: rest, p.1 ≠ pb := fun p hp => by
    rcases List.mem_cons.mp hp with rfl | hp
    · exact Ne.symm (hTo (pb, listOf ([] : List Value).toArray n1) (.tail _ (.head _)))
    · rcases List.mem_cons.mp hp with rfl | hp
      · exact hRp
      · exact hpb p hp
  have Ne2 : News h₀ L hd' ((pb, listOf ([] : List Value).toArray n1) :: (To, listOf (List.toArray us) n3) :: (R, lst ws) :: rest) := fun p hp => Nd p (by simp only [List.mem_cons] at hp ⊢; rcases hp with q | q | q | q; exact .inr (.inr (.inl q)); exact .inl q; exact .inr (.inl q); exact .inr (.inr (.inr q)))
  have sub : ∀ {p}, p ∈ rest → p ∈ (To, listOf (List.toArray us) n3) :: (R, lst ws) :: rest := fun hp => .tail _ (.tail _ hp)
  refine wpAny_execs_cons (st_lt (s := { s with heap := hd', toks := td }) Fd (fun q4 tk Q' hQ' => ?_) fun q4 tk => wpAny_execs_nil ?_)
  · refine st_words (s := { s with heap := hd', toks := tk }) (us := usL x1 x2 (2 ^ i)) (R := R) (x1 := x1) (x2 := x2) b0 b1 c0 c1' hws (us_le e30 f30 hi5) hul (.tail _ (.head _)) hC (sub ht) (sub hc2) hcd hcv (sub hoL) hoc (sub hxx) (sub hd) p1 hg B Fd X Ne2 T fun he te gs' vs n4 t4 wo' lo' hi' hb' Fe Ne hS' => hQ' _ (wpAny_execs_nil ?_)
    refine ret he te gs' vs n4 t4 _ _ _ _ _ _ _ hb' Fe (fun p hp => Ne p ?_) ?_
    · simp only [List.mem_cons] at hp ⊢
      rcases hp with q | q
      · exact .inl q
      · exact .inr (.inr (.inr q))
    · unfold lvSt
      rw [if_pos (by omega), ← us_step e30 f30 q4]
      exact hS'
  · refine ret hd' tk s.gens [] n1 t3 _ _ _ _ _ _ _ hg Fd (fun p hp => Ne2 p ?_) ?_
    · simp only [List.mem_cons] at hp ⊢
      rcases hp with q | q
      · exact .inl q
      · exact .inr (.inr (.inr q))
    · unfold lvSt
      rw [if_neg (by omega)]
      exact .nil
end
section
open PySem PySem.W PySem.Spec PySem.Calls PyProof.Rows
local macro_rules | `(tactic| walk_at "pyIter ref") => `(tactic| (k_here; (with_reducible show wpAny _ _ (pyIter (.ref _)) _ _ _); refine stop_of ?_))
section
open PySem PySem.W PySem.Spec PySem.Calls PyProof.Rows PyProof.Rows.LCg
set_option maxRecDepth 100000
set_option maxHeartbeats 4000000
set_option linter.unusedVariables false
variable {w : World} {fa : Addr} {cd : Value} {A₀ : Around} {base h₀ : Heap} {L : Addr} {m : Str → Option Value}
  {news news' rest : List (Addr × Obj)} {s : Shared} {p : Program} {loose : List Str} {mean : ExcName → Option Value} {mg mb : Str → Option Value}
  {Q E : Value → Shared → Prop}
/-- all levels -/
theorem st6 {QQ : Flow → Shared → Prop} {EE : Value → Shared → Prop} {xx d pb f c1 c2 na dr : Addr} {h1 h2 h3 h4 : Int} {k1 k2 k3 k4 k5 k6 : Nat} {ws : List Value} {n t n2 t1 t2' : Nat} {x1 x2 : Int} {oL oc2 : Obj} {vs2 : Array Value} {t2 : Nat} {un xo : Option Value} (b0 : 0 ≤ x1) (b1 : x1 < 41472) (c0 : 0 ≤ x2) (c1' : x2 < 41472)
  (hws : StrsAre ws (textsX x1 x2))
  (hC : CodeHd h₀ 133 129) (ht : (129, tab2 c1 c2) ∈ rest) (hc2 : (c2, oc2) ∈ rest) (hcd : oc2.data = .fields vs2) (hcv : vs2[1]? = some (.str lamQ t2))
  (hna : NmOk na rest) (hdr : (dr, listOf #[Value.int x1 t1, Value.int x2 t2'] n2) ∈ rest)
  (hoL : (L + 2, oL) ∈ rest) (hoc : oL.data = .cell (some (.ref xx))) (hxx : (xx, instObj 52 d) ∈ rest) (hd : (d, lexDict h1 h2 h3 h4 k1 k2 k3 k4 k5 k6 f pb) ∈ rest)
  (hpb : ∀ p ∈ rest, p.1 ≠ pb) (hg : AllBare s.gens)
  (B : Below callerA h₀ [] h₀) (F : Fr h₀ L s.heap (lwF un (some (.ref na)) xo (some (.ref dr)) (some (.int 2 t)) none none none none none none)) (X : (Mine.topK w.params).In h₀) (N : News h₀ L s.heap ((pb, listOf ws.toArray n) :: rest)) (T : Top p loose mean mg mb h₀)
  (ret : ∀ h' tk' gs' n' xo' wa' le' ro' to' wo' lo' hi', AllBare gs' → Fr h₀ L h' (lwF un (some (.ref na)) xo' (some (.ref dr)) wa' le' ro' to' wo' lo' hi') → News h₀ L h' ((pb, listOf ([] : List Value).toArray n') :: rest) → QQ .next { s with heap := h', toks := tk', gens := gs' }) :
  wpAny (model PySem.Challenge.rw_re0120_01.row.prog w) (lwA L fa cd) (exec lw_6 (lwEnv L fa cd)) QQ EE s := by
  have e30 : pqX x1 ≤ 30 := (pq_int b0 b1).2
  have f30 : pqX x2 ≤ 30 := (pq_int c0 c1').2
  rw [us_zero e30 f30] at hws
  have hw2 : ws.length = 2 := by
    have := hws.length
    rw [← us_zero e30 f30] at this
    exact this
  revert X
  k_fill
  intro X
  refine wpAny_For ?_
  k_steps
  refine stop_go ?_
  try dsimp only
  rename_i h5 tk5 t5 u5 v5 r5 F5 N5 up5
  refine for_range (env := lwEnv L fa cd) (h₀ := h₀) (Q := QQ) (n := 5) (nw := (pb, listOf ws.toArray n) :: rest)
    (S := fun i m nw gs => AllBare gs ∧ ∃ xo t le ro to wo lo hi vs n, m = lwF un (some (.ref na)) xo (some (.ref dr)) (some (.int ((vs.length : Nat) : Int) t)) le ro to wo lo hi ∧ nw = (pb, listOf (List.toArray vs) n) :: rest ∧ StrsAre vs (lvSt x1 x2 i))
    rfl rfl rfl r5 (by decide) (by decide) F5 N5 ⟨hg, xo, t, none, none, none, none, none, none, ws, n, by rw [hw2]; rfl, rfl, hws⟩ ?turn ?fin
  case fin =>
    rintro m nw gs h tk ⟨hb, xo', t', le, ro, to, wo, lo, hi, vs, n', rfl, rfl, hS⟩ F' N'
    have e : lvSt x1 x2 5 = [] := if_neg (by omega)
    rw [e] at hS
    cases hS
    exact ret _ _ _ _ _ _ _ _ _ _ _ _ hb F' N'
  case turn =>
    rintro it hit i tl m nw gs h tk oI QQ1 E1 hi5 ⟨hb, xo', t', le, ro, to, wo, lo, hi, vs, n', rfl, rfl, hS⟩ hof F' N' hret
    rw [lwF_level, Int.zero_add] at F'
    rw [show lvSt x1 x2 i = (usL x1 x2 (2 ^ i)).map (dwX x1 x2) from if_pos hi5] at hS
    have hpit : pb ≠ it := hof _ (.head _)
    have hrit : ∀ p ∈ rest, p.1 ≠ it := fun p hp => hof p (.tail _ hp)
    have hp2 : ∀ p ∈ ((it, oI) :: rest : List (Addr × Obj)), p.1 ≠ pb := fun p hp => by
      rcases List.mem_cons.mp hp with rfl | hp
      · exact Ne.symm hpit
      · exact hpb p hp
    have N2 : News h₀ L h ((pb, listOf (List.toArray vs) n') :: (it, oI) :: rest) := fun p hp => N' p (by simp only [List.mem_cons] at hp ⊢; rcases hp with q | q | q; exact .inr (.inl q); exact .inl q; exact .inr (.inr q))
    refine st_level (s := { s with heap := h, toks := tk, gens := gs }) b0 b1 c0 c1' hi5 hS hC (.tail _ ht) (.tail _ hc2) hcd hcv (nmOk_sub hna fun p hp => .tail _ hp) (.tail _ hdr) (.tail _ hoL) hoc (.tail _ hxx) (.tail _ hd) hp2 hb B F' X N2 T
      fun h' tk' gs' vs' n4 t4 xo4 le4 ro4 to4 wo4 lo4 hi4 hb4 F4 N4 S4 => ?_
    refine hret h' tk' _ ((pb, listOf (List.toArray vs') n4) :: rest) gs' F4 ?_ ?_ ⟨hb4, _, _, _, _, _, _, _, _, vs', _, rfl, rfl, S4⟩
    · exact fun p hp => N4 p (by simp only [List.mem_cons] at hp ⊢; rcases hp with q | q | q; exact .inr (.inl q); exact .inl q; exact .inr (.inr q))
    · intro p hp
      rcases List.mem_cons.mp hp with rfl | hp
      · exact hpit
      · exact hrit p hp
end
end
section
open PySem PySem.W PySem.Spec PySem.Calls PyProof.Rows
local macro_rules | `(tactic| walk_at "call ref") => `(tactic| (k_here; (with_reducible show wpAny _ _ (call (Prod.fst (Value.ref 42, _)) _) _ _ _); refine stop_of ?_))
section
open PySem PySem.W PySem.Spec PySem.Calls PyProof.Rows
local macro_rules | `(tactic| walk_at "compareOp Eq ref ref") => `(tactic| (k_here; (with_reducible show wpAny _ _ (compareOp _ (Value.ref _) (Value.ref _)) _ _ _); refine stop_of ?_))
section
open PySem PySem.W PySem.Spec PySem.Calls PyProof.Rows PyProof.Rows.LCg
set_option maxRecDepth 100000
set_option maxHeartbeats 4000000
set_option linter.unusedVariables false
variable {w : World} {fa : Addr} {cd : Value} {A₀ : Around} {base h₀ : Heap} {L : Addr} {m : Str → Option Value}
  {news news' rest : List (Addr × Obj)} {s : Shared} {p : Program} {loose : List Str} {mean : ExcName → Option Value} {mg mb : Str → Option Value}
  {Q E : Value → Shared → Prop}
/-- the last comparison -/
theorem st7 {QQ : Flow → Shared → Prop} {EE : Value → Shared → Prop} {g : Obj → List (Addr × Obj)} {x d pb f fd rd ce sg c2 : Addr} {n np u : Nat} {oL : Obj} {un na xo dr wa le ro to wo lo hi : Option Value} 
  (hC : CodeHd h₀ 133 129) (G0 : LexG g x d pb f fd rd ce sg c2) (hps : pb ≠ sg) (hcell : ∀ o, (L + 2, oL) ∈ g o) (hoc : oL.data = .cell (some (.ref x)))
  (B : Below callerA h₀ [] h₀) (F : Fr h₀ L s.heap (lwF un na xo dr wa le ro to wo lo hi)) (X : (Mine.topK w.params).In h₀) (N : News h₀ L s.heap ((pb, listOf ([] : List Value).toArray np) :: g (listOf [Value.str (Str.ofString ".") u].toArray n))) (T : Top p loose mean mg mb h₀)
  (ret : ∀ h' tk', Fr h₀ L h' (lwF un na xo dr wa le ro to wo lo hi) → News h₀ L h' (g (listOf ([] : List Value).toArray (n + 1))) → QQ (.ret (.bool true)) { s with heap := h', toks := tk' }) :
  wpAny (model PySem.Challenge.rw_re0120_01.row.prog w) (lwA L fa cd) (exec lw_7 (lwEnv L fa cd)) QQ EE s := by
  have G := lexG_cons (a := pb) (ob := listOf ([] : List Value).toArray np) G0 hps
  have hoL1 := hcell (listOf [Value.str (Str.ofString ".") u].toArray n)
  have hx1 := G0.hx (listOf [Value.str (Str.ofString ".") u].toArray n)
  obtain ⟨h1, h2, h3, h4, k1, k2, k3, k4, k5, k6, hd⟩ := G0.hd
  have hd1 := hd (listOf [Value.str (Str.ofString ".") u].toArray n)
  generalize eg : g (listOf [Value.str (Str.ofString ".") u].toArray n) = rest at N hoL1 hx1 hd1
  revert X
  k_fill
  intro X
  k_steps
  refine stop_go ?_
  try dsimp only
  subst eg
  refine dot_K (g := fun o => (pb, listOf ([] : List Value).toArray np) :: g o) B F X N T hC G (fun o => .head _) ?r ?u fun ha tk1 t1 it q F1 N1 l1 l2 => ?_
  case r => ktr_room
  case u => ktr_units
  have hsg := G.U (listOf ([] : List Value).toArray (n + 1)) (listOf ([] : List Value).toArray (n + 1))
  have hsq : sg < q := l1 _ (upd_old hsg)
  have G2 := lexG_cons (a := it) (ob := itEnd) (lexG_cons (a := q) (ob := methodObj (.ref 35) (.ref x)) G (Ne.symm (Nat.ne_of_lt hsq))) (Ne.symm (Nat.ne_of_lt (Nat.lt_trans hsq l2)))
  have hoL2 := hcell (listOf ([] : List Value).toArray (n + 1))
  have hx2 := G0.hx (listOf ([] : List Value).toArray (n + 1))
  have hd2 := hd (listOf ([] : List Value).toArray (n + 1))
  generalize eg2 : g (listOf ([] : List Value).toArray (n + 1)) = rest2 at N1 hoL2 hx2 hd2
  k_steps
  refine stop_go ?_
  try dsimp only
  subst eg2
  refine nil_K (np := np) (g := fun o => (it, itEnd) :: (q, methodObj (.ref 35) (.ref x)) :: (pb, listOf ([] : List Value).toArray np) :: g o) B F1 X N1 T hC G2 (fun o => .tail _ (.tail _ (.head _))) ?r ?u fun hb tk2 t2 it2 q2 F2 N2 l3 l4 => ?_
  case r => ktr_room
  case u => ktr_units
  generalize eg3 : g (listOf ([] : List Value).toArray (n + 1)) = rest3 at N2 hoL2 hx2 hd2
  k_steps
  refine stop_go ?_
  try dsimp only
  rename_i la hA lA1 lb hB FB NB lB1
  have S1 : StrsAre [Value.str (Str.ofString ".") t1, Value.str (Str.ofString "") t2] [Str.ofString ".", Str.ofString ""] := .cons _ _ (.cons _ _ .nil)
  have S2 : StrsAre [Value.str (Str.ofString ".") tk2, Value.str (Str.ofString "") (tk2 + 1)] [Str.ofString ".", Str.ofString ""] := .cons _ _ (.cons _ _ .nil)
  have ok : ∀ x ∈ [Str.ofString ".", Str.ofString ""], PyData.strOk x = true := by decide +kernel
  refine eq_strsK NB (.tail _ (.head _)) S1 (.head _) S2 ok ok ?u3 ?_
  case u3 => ktr_units
  rw [decide_eq_true rfl]
  refine ret _ _ FB fun p hp => NB p ?_
  rw [eg3] at hp
  exact .tail _ (.tail _ (.tail _ (.tail _ (.tail _ (.tail _ (.tail _ hp))))))
end
end
end
section
open PySem PySem.W PySem.Spec PySem.Calls PyProof.Rows
set_option maxRecDepth 100000
set_option maxHeartbeats 4000000
set_option linter.unusedVariables false
variable {w : World} {fa : Addr} {cd : Value} {A₀ : Around} {base h₀ : Heap} {L : Addr} {m : Str → Option Value}
  {news news' : List (Addr × Obj)} {s : Shared} {p : Program} {loose : List Str} {mean : ExcName → Option Value} {mg mb : Str → Option Value}
  {Q E : Flow → Shared → Prop}
/-- a statement that the elaborator shall not evaluate -/
structure Hid (p : Prop) : Prop where
  go : p
theorem st0 {QQ : Flow → Shared → Prop} {EE : Value → Shared → Prop} (B : Below callerA h₀ [] h₀) (F : Fr h₀ L s.heap (lwF none none none none none none none none none none none)) (X : (Mine.topK w.params).In h₀) (N : News h₀ L s.heap news) (T : Top p loose mean mg mb h₀)
  (ret : ∀ h' tk' U vs n, Fr h₀ L h' (lwF (some (.ref U)) none none none none none none none none none none) → News h₀ L h' ((U, listOf (List.toArray vs) n) :: news) → (∀ p ∈ news, p.1 < U) → IntsAre vs unseenI →
    QQ .next { s with heap := h', toks := tk' }) :
  Hid (wpAny (model PySem.Challenge.rw_re0120_01.row.prog w) (lwA L fa cd) (exec lw_0 (lwEnv L fa cd)) QQ EE s) := by
  refine ⟨?_⟩
  revert X
  k_fill
  intro X
  k_steps
  rename CarriedAll _ _ => hc9
  rename Heap.IsList _ _ _ => hl9
  rename ∀ p ∈ news, p.1 < _ => l9
  refine kmk_add_ints (by k_asm) (by k_asm) (isList_news (by k_asm) (List.Mem.head _)) hl9 (ns := [173, 847, 6150, 6155, 6156, 6157, 8203, 8204, 8205, 8288, 65279]) (by repeat (first | exact .nil | refine .cons _ _ ?_)) (CarriedAll.intsOf hc9) ?_ (by rw [sizeLine_eq]; decide)
  intro D us h' F' N' l1 hI
  rw [List.map_id'] at hI
  dsimp only at F' N' ⊢
  k_steps
  rename Fr _ _ _ (fun y => _) => F9
  rename News _ _ _ _ => N9
  rw [lwF_unseen] at F9
  exact ret _ _ _ _ _ F9 (fun p hp => N9 p (by rcases List.mem_cons.mp hp with rfl | hp; exact .head _; exact .tail _ (.tail _ hp))) (fun p hp => l1 p (.tail _ hp)) hI
theorem st1 {QQ : Flow → Shared → Prop} {EE : Value → Shared → Prop} {vU : Option Value} (B : Below callerA h₀ [] h₀) (F : Fr h₀ L s.heap (lwF vU none none none none none none none none none none)) (X : (Mine.topK w.params).In h₀) (N : News h₀ L s.heap news) (T : Top p loose mean mg mb h₀)
  (ret : ∀ h' tk' U ex, Fr h₀ L h' (lwF vU (some (.ref U)) none none none none none none none none none) → News h₀ L h' (ex ++ news) → NmOk U ex →
    QQ .next { s with heap := h', toks := tk' }) :
  Hid (wpAny (model PySem.Challenge.rw_re0120_01.row.prog w) (lwA L fa cd) (exec lw_1 (lwEnv L fa cd)) QQ EE s) := by
  refine ⟨?_⟩
  revert X
  k_fill
  intro X
  k_steps
  rename Fr _ _ _ (fun y => _) => F9
  rename News _ _ _ _ => N9
  rw [lwF_names] at F9
  refine ret _ _ _ [(_, _), (_, _), (_, _), (_, _), (_, _), (_, _), (_, _)] F9 N9 ⟨_, _, _, _, _, _, _, List.Mem.head _, ?_⟩
  intro i a y ha hy
  match i with
  | 0 => cases ha; cases hy; exact ⟨_, _, _, by repeat (first | exact List.Mem.head _ | apply List.Mem.tail)⟩
  | 1 => cases ha; cases hy; exact ⟨_, _, _, by repeat (first | exact List.Mem.head _ | apply List.Mem.tail)⟩
  | 2 => cases ha; cases hy; exact ⟨_, _, _, by repeat (first | exact List.Mem.head _ | apply List.Mem.tail)⟩
  | 3 => cases ha; cases hy; exact ⟨_, _, _, by repeat (first | exact List.Mem.head _ | apply List.Mem.tail)⟩
  | 4 => cases ha; cases hy; exact ⟨_, _, _, by repeat (first | exact List.Mem.head _ | apply List.Mem.tail)⟩
  | 5 => cases ha; cases hy; exact ⟨_, _, _, by repeat (first | exact List.Mem.head _ | apply List.Mem.tail)⟩
  | i + 6 => simp at ha
end
section
open PySem PySem.W PySem.Spec PySem.Calls PyProof.Rows PyProof.Rows.LCg
set_option maxRecDepth 100000
set_option maxHeartbeats 4000000
set_option linter.unusedVariables false
noncomputable abbrev lwBody : List Stmt := by
  refine (fun (_ : defBody lwDef = ?l) => ?l) ?h
  case h => (conv => lhs; whnf)
variable {w : World} {fa : Addr} {cd : Value} {h₀ : Heap} {L : Addr}
  {rest l : List (Addr × Obj)} {s : Shared} {p : Program} {loose : List Str} {mean : ExcName → Option Value} {mg mb : Str → Option Value}
theorem keepf {a : Addr} {vs : Array Value} {n : Nat} {oL : Obj} {v : Option Value} {h : Heap} (N : News h₀ L h l) (hm : (a, listOf vs n) ∈ l) (h1 : (129, tab0) ∈ l) (h2 : (L + 2, oL) ∈ l) (hoL : oL.data = .cell v) :
    (a, listOf vs n) ∈ l.filter fun p => p.1 != 129 && p.1 != L + 2 := by
  refine List.mem_filter.mpr ⟨hm, ?_⟩
  have e0 := (N _ hm).1
  have e1 : (a != 129) = true := bne_iff_ne.mpr fun q => by
    have e := (N _ h1).1
    dsimp only at e0 e
    rw [q, e] at e0; cases e0
  have e2 : (a != L + 2) = true := bne_iff_ne.mpr fun q => by
    have e := (N _ h2).1
    dsimp only at e0 e
    rw [q, e] at e0; cases e0; cases hoL
  dsimp only
  rw [e1, e2]; rfl
/-- the whole of law -/
theorem law_walk {QQ : Flow → Shared → Prop} {EE : Value → Shared → Prop} {oL oS : Obj} {sl : Addr} {svs : List Value} {sns : List Int} (hC : CodeHd h₀ 133 129) (hL : 129 < L) (hoL : oL.data = .cell none) (hsc : oS.data = .cell (some (.ref sl))) (hsl : h₀.IsList sl svs.toArray) (hsi : IntsAre svs sns) (hsn : sns.length ≤ 63) (hg : AllBare s.gens)
  (B : Below callerA h₀ [] h₀) (F : Fr h₀ L s.heap (lwF none none none none none none none none none none none)) (X : (Mine.topK w.params).In h₀) (N : News h₀ L s.heap [(L + 2, oL), (L + 1, oS), (129, tab0)]) (T : Top p loose mean mg mb h₀)
  (ret : ∀ h' tk' gs' more, AllBare gs' → (∀ b o, h₀.get? b = some o → h'.get? b = some o) → h'.get? 129 = some (tabObj more) → QQ (.ret (.bool true)) { s with heap := h', toks := tk', gens := gs' }) :
  Hid (wpAny (model PySem.Challenge.rw_re0120_01.row.prog w) (lwA L fa cd) (execs lwBody (lwEnv L fa cd)) QQ EE s) := by
  refine ⟨?_⟩
  refine wpAny_execs_cons ?_
  refine Hid.go ?_
  refine st0 B F X N T fun ha ta un uvs n1 Fa Na _ hui => ?_
  refine wpAny_execs_cons ?_
  refine Hid.go ?_
  refine st1 (s := { s with heap := ha, toks := ta }) B Fa X Na T fun hb tb na ex Fb Nb hna => ?_
  refine wpAny_execs_cons (st2 (s := { s with heap := hb, toks := tb }) (oS := oS) (List.mem_append_right _ (.tail _ (.tail _ (.head _)))) hsc hsl hsi hsn B Fb X Nb T fun hc tc dr x1 x2 t1 t2 n2 Fc Nc _ b0 b1 c0 c1' => ?_)
  generalize el : (dr, listOf #[Value.int x1 t1, Value.int x2 t2] n2) :: (ex ++ (un, listOf (List.toArray uvs) n1) :: [(L + 2, oL), (L + 1, oS), (129, tab0)]) = l at Nc
  have m129 : (129, tab0) ∈ l := by rw [← el]; simp
  have mL : (L + 2, oL) ∈ l := by rw [← el]; simp
  have kun := keepf Nc (show (un, listOf (List.toArray uvs) n1) ∈ l by rw [← el]; simp) m129 mL hoL
  have kdr := keepf Nc (show (dr, listOf #[Value.int x1 t1, Value.int x2 t2] n2) ∈ l by rw [← el]; simp) m129 mL hoL
  have kna : NmOk na (l.filter fun p => p.1 != 129 && p.1 != L + 2) := by
    obtain ⟨a0, a1, a2, a3, a4, a5, n, hU, hA⟩ := hna
    have sub : ∀ q ∈ ex, q ∈ l := fun q hq => by rw [← el]; exact .tail _ (List.mem_append_left _ hq)
    exact ⟨a0, a1, a2, a3, a4, a5, n, keepf Nc (sub _ hU) m129 mL hoL, fun i a y e1 e2 => by obtain ⟨t, u, k, hm⟩ := hA i a y e1 e2; exact ⟨t, u, k, keepf Nc (sub _ hm) m129 mL hoL⟩⟩
  have N3 : News h₀ L hc ((L + 2, oL) :: (129, tab0) :: l.filter fun p => p.1 != 129 && p.1 != L + 2) := fun q hq => by
    rcases List.mem_cons.mp hq with rfl | hq
    · exact Nc _ mL
    · rcases List.mem_cons.mp hq with rfl | hq
      · exact Nc _ m129
      · exact Nc _ (List.mem_filter.mp hq).1
  refine wpAny_execs_cons (st3 (s := { s with heap := hc, toks := tc }) hC hoL (fun q hq => bne_iff_ne.mp (Bool.and_eq_true_iff.mp (List.mem_filter.mp hq).2).1) (fun q hq => bne_iff_ne.mp (Bool.and_eq_true_iff.mp (List.mem_filter.mp hq).2).2) hL B Fc X N3 T
    fun hd td xx d pb f fd rd ce sg c2 c1 g n u oL' Fd Nd G hps hpb htab hoL' hcell hsub hc2 => ?_)
  clear N3
  obtain ⟨oc2, vs2, t22, hc2, hcd, hcv⟩ := hc2
  obtain ⟨h1, h2, h3, h4, k1, k2, k3, k4, k5, k6, hd6⟩ := G.hd
  have kna' : NmOk na (g (listOf [Value.str (Str.ofString ".") u].toArray n)) := nmOk_sub kna (hsub _)
  refine wpAny_execs_cons (st4 (s := { s with heap := hd, toks := td }) b0 b1 c0 c1' (hsub _ _ kun) hui kna' (hsub _ _ kdr) (hcell _) hoL' (G.hx _) (hd6 _) (hpb _) B Fd X Nd T fun he te xv vs n4 Fe Ne' hS => ?_)
  obtain ⟨ws⟩ := vs
  refine wpAny_execs_cons (st5 (s := { s with heap := he, toks := te }) B Fe X Ne' T fun hf tf t5 Ff Nf => ?_)
  refine wpAny_execs_cons (st6 (s := { s with heap := hf, toks := tf }) (ws := ws) b0 b1 c0 c1' hS hC (htab _) (hc2 _) hcd hcv kna' (hsub _ _ kdr) (hcell _) hoL' (G.hx _) (hd6 _) (hpb _) hg B Ff X Nf T fun h7 tk7 gs7 n7 xo wa le ro to wo lo hi hb7 F7 N7 => ?_)
  refine wpAny_execs_cons (wpAny_mono (st7 (s := { s with heap := h7, toks := tk7, gens := gs7 }) (QQ := fun f s' => f = .ret (.bool true) ∧ QQ f s') (EE := EE) hC G hps hcell hoL' B F7 X N7 T fun h8 tk8 F8 N8 => ?_) ?_ fun _ _ q => q)
  · exact ⟨rfl, ret h8 tk8 gs7 _ hb7 F8.keep (N8 _ (htab _)).1⟩
  · rintro f s' ⟨rfl, hq⟩
    exact hq
end
end
end
end
end
end
end
section
open PySem PySem.W PySem.Spec PySem.Calls PyProof.Rows
set_option maxRecDepth 100000
set_option maxHeartbeats 4000000
set_option linter.unusedVariables false
theorem fin_post {M : Model} {A : Around} {cd : Code} {s s₁ : Shared} {cw : ClaimW} {cl : Str → Option Addr} {mean : ExcName → Option Value} {args : List WData} (hT : TabsAt [(133, 129)] s₁.heap) (hr : ∀ x, cw.raises args x = false) (hp : cw.post args (.bool true) args = true)
    (h : codeAny M A cd (fun r s' => r = .ok (.ret (.bool true)) ∧ (∀ b o, (ghostOf s₁.heap [(133, 129)]).get? b = some o → s'.heap.get? b = some o) ∧ (∃ more, s'.heap.get? 129 = some (tabObj more)) ∧ s'.os = s₁.os ∧ AllBare s'.gens) s) : codeAny M A cd (GoodWG cw cl mean args s₁) s := by
  refine codeAny_mono h ?_
  rintro r s' ⟨rfl, hk, ⟨more, hm⟩, hos, hg⟩
  obtain ⟨hc, h0⟩ := hT (133, 129) (.head _)
  have keep : ∀ b o, b ≠ 129 → s₁.heap.get? b = some o → s'.heap.get? b = some o := fun b o hb e => hk b o (ghost_ne e (by simpa using hb))
  have hc' : CodeHd s'.heap 133 129 := by
    obtain ⟨o, vs, file, tf, flags, tg, inF, text, tt, e, r⟩ := hc
    exact ⟨o, vs, file, tf, flags, tg, inF, text, tt, keep _ _ (by decide) e, r⟩
  refine ⟨.inl ⟨_, _, _, rfl, hr, .bool true, hp, fun _ => ⟨List.nodup_nil, fun _ hm => nomatch hm⟩⟩, ?_, hos, hg⟩
  refine OldK.step_table (more := more) (OldK.refl _) (hc.tab h0) (hc.tab h0) ?t keep (by decide)
  case t =>
    rw [Array.empty_append]
    exact hc'.tab hm
theorem said_law : PySem.Challenge.rw_re0120_01.wellSaid = true := by
  unfold OpenLaw.wellSaid OpenRow.wellSaid OpenRow.partSaid looksOpen
  repeat' (with_reducible refine look_both ?_ ?_)
  all_goals (as_aux_lemma => decide +kernel)
theorem post_true (args : List WData) : PySem.Challenge.rw_re0120_01.row.claim.post args (.bool true) args = true := by kc_post
theorem final : PySem.Challenge.rw_re0120_01.Holds := by
  w_on
  refine holds_law said_law fun said => ?_
  refine holds_open (q := vw) (loose := lsN) (Xt := fun s => xlAt vw [] s && recOk (RowW.records PySem.Challenge.rw_re0120_01.row.toRowW) s) (XP := XL vw []) (Yf := Hook.obs hk) (Ya := Hook.val hk) (YP := Hook.says hk) (N := 14400) ?hl (Hook.of hk) (Hook.keeps hk) (fun s e => xl_of s (Bool.and_eq_true_iff.mp e).1) XL.keeps (by rfl) (by rfl) (by rfl) (fun s e => recFacts_of (Bool.and_eq_true_iff.mp e).2) (by rfl) (by first | assumption | decide +kernel) (by decide +kernel) ⟨rfl, rfl, rfl, rfl, rfl, by decide +kernel⟩ ?hw ?hc
  case hl => exact leftO
  case hw => w_witness2
  case hc =>
    delta hk
    k_fill
    intro w s₀ s₁ mg mb G Y fa o pm cd doc dV kV ho hd hcd hD hmg hg args vals as hpre hlay hrd hwl hlo
    have KX := km_in_of Y
    km_tabs Y
    have X := (Ground.X G).1
    have V := (Ground.X G).2
    refine Ground.open G ?_
    intro T B D TE TW
    try (refine guard_noD D (by decide +kernel) ?_; clear D)
    km_lay T hmg ho hd cd
    clear hmg
    wrow_args hpre hlay hrd hwl hlo
    first | refine callC_kw (enter_call ?_) | refine enter_call ?_
    w_top on
    refine fin_post hT9 (fun _ => rfl) (post_true _) ?_
    w_call any ho hd hcd hD T F
    clear hd
    kn_ghosts F T
    k_drop
    rename IntsAre _ _ => hI
    rename News _ _ _ _ => N
    rename Fr _ _ _ _ => F
    rename Frag.In _ _ => X
    rename Below _ _ _ _ => B
    rename Top _ _ _ _ _ _ => T
    rename Obj.data _ = Data.cell _ => hdS
    revert hdS
    rename Obj.data _ = Data.cell _ => hdL
    intro hdS
    rename 129 < _ => hLt
    rename ¬ _ < _ => hlen
    rename Heap.IsList (ghostOf _ _) _ _ => hsl
    rename CodeHd _ _ _ => hC
    have F2 := fr_eq F (m' := lwF none none none none none none none none none none none) (by
      refine Eq.trans (b := fun _ => none) ?_ ?_
      · with_unfolding_all rfl
      · funext y
        simp only [lwF, ite_self])
    clear F
    have hL1 := hdL.trans (b := _) (c := .cell none) (by with_unfolding_all rfl)
    have hS1 := hdS.trans (b := _) (c := .cell (some (.ref _))) (by with_unfolding_all rfl)
    clear hdL hdS
    refine Hid.go ?_
    refine law_walk (EE := _) hC hLt hL1 hS1 hsl hI (by omega) (by rw [hg]; exact AllBare.empty) B F2 X N T fun h' tk' gs' more hb hk hm => ?_
    exact ⟨rfl, hk, ⟨more, hm⟩, rfl, hb⟩
end
end Mine
set_option maxRecDepth 100000 in
set_option maxHeartbeats 4000000 in
theorem PySem.Challenge.cw_re0120_01_holds : PySem.Challenge.rw_re0120_01.Holds := by
  exact Mine.final
