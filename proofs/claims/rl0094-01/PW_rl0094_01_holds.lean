import PyProof.Rows.All
import Wide.All
import OpenK.AllK
import Wide.FinOn
import PySem.Challenge.RW_rl0094_01
set_option Elab.async false
set_option compiler.extract_closed false
section
open PySem PySem.W PyProof.Rows
set_option maxRecDepth 100000
set_option maxHeartbeats 8000000
set_option linter.unusedVariables false
set_option compiler.extract_closed false
namespace Mine
def st (i : Nat) : Stmt := match PySem.Challenge.pw_rl0094_01.main.body.drop i with
  | s :: _ => s
  | [] => default
def prog : Program := { PySem.Challenge.pw_rl0094_01 with main := { PySem.Challenge.pw_rl0094_01.main with body := [st 0, st 1, st 2, st 3, st 4, st 5, st 6, st 7, st 8, st 9, st 10, st 11, st 12, st 13, st 14, st 15, st 16, st 17, st 18, st 19, st 20, st 21, st 22, st 23, st 24, st 25, st 26, st 27, st 28, st 29, st 30, st 31, st 32, st 33, st 34, st 35, st 36, st 37, st 38, st 39, st 40, st 41, st 42, st 43, st 44, st 45, st 46, st 47, st 48, st 49, st 50, st 51, st 52, st 53, st 54, st 55, st 56, st 57, st 58, st 59, st 60, st 61, st 62, st 63, st 64, st 65, st 66, st 67] } }
def row : OpenLaw := { PySem.Challenge.rw_rl0094_01 with prog := prog }
theorem row_eq : row = PySem.Challenge.rw_rl0094_01 := by kernel_rfl
noncomputable def bodyOf : Stmt → List Stmt
  | .FunctionDef _ _ b .. => b
  | _ => []
noncomputable def argsOf : Stmt → Arguments
  | .FunctionDef _ a .. => a
  | _ => default
noncomputable def scopeOf : Stmt → Scope
  | .FunctionDef _ _ _ _ _ _ sc .. => sc
  | _ => default
noncomputable def e3_0 (P : Params) : List DictEntry := [{ hash := PyData.keyHash P (Str.ofString "__name__"), key := Value.str (Str.ofString "__name__") 165, val := Value.str (Str.ofString "law_rl0094_01") 472 }, { hash := PyData.keyHash P (Str.ofString "__doc__"), key := Value.str (Str.ofString "__doc__") 166, val := Value.none }, { hash := PyData.keyHash P (Str.ofString "__package__"), key := Value.str (Str.ofString "__package__") 167, val := Value.none }, { hash := PyData.keyHash P (Str.ofString "__loader__"), key := Value.str (Str.ofString "__loader__") 168, val := Value.builtin "__main__.__loader__#opaque" }, { hash := PyData.keyHash P (Str.ofString "__spec__"), key := Value.str (Str.ofString "__spec__") 169, val := Value.none }, { hash := PyData.keyHash P (Str.ofString "__annotations__"), key := Value.str (Str.ofString "__annotations__") 170, val := Value.ref 6 }]
noncomputable def e3_1 (P : Params) : List DictEntry := [{ hash := PyData.keyHash P (Str.ofString "__builtins__"), key := Value.str (Str.ofString "__builtins__") 171, val := Value.ref 4 }, { hash := PyData.keyHash P (Str.ofString "__file__"), key := Value.str (Str.ofString "__file__") 173, val := Value.str (Str.ofString "/claim/cut.py") 172 }, { hash := PyData.keyHash P (Str.ofString "__cached__"), key := Value.str (Str.ofString "__cached__") 174, val := Value.none }, { hash := PyData.keyHash P (Str.ofString "insort_right"), key := Value.str (Str.ofString "insort_right") 201, val := Value.ref 23 }, { hash := PyData.keyHash P (Str.ofString "bisect_right"), key := Value.str (Str.ofString "bisect_right") 215, val := Value.ref 32 }, { hash := PyData.keyHash P (Str.ofString "ENDMARKER"), key := Value.str (Str.ofString "ENDMARKER") 219, val := Value.int 0 218 }]
noncomputable def e3_2 (P : Params) : List DictEntry := [{ hash := PyData.keyHash P (Str.ofString "LPAR"), key := Value.str (Str.ofString "LPAR") 221, val := Value.int 7 220 }, { hash := PyData.keyHash P (Str.ofString "RPAR"), key := Value.str (Str.ofString "RPAR") 223, val := Value.int 8 222 }, { hash := PyData.keyHash P (Str.ofString "LSQB"), key := Value.str (Str.ofString "LSQB") 225, val := Value.int 9 224 }, { hash := PyData.keyHash P (Str.ofString "RSQB"), key := Value.str (Str.ofString "RSQB") 227, val := Value.int 10 226 }, { hash := PyData.keyHash P (Str.ofString "COLON"), key := Value.str (Str.ofString "COLON") 229, val := Value.int 11 228 }, { hash := PyData.keyHash P (Str.ofString "COMMA"), key := Value.str (Str.ofString "COMMA") 231, val := Value.int 12 230 }]
noncomputable def e3_3 (P : Params) : List DictEntry := [{ hash := PyData.keyHash P (Str.ofString "SEMI"), key := Value.str (Str.ofString "SEMI") 233, val := Value.int 13 232 }, { hash := PyData.keyHash P (Str.ofString "PLUS"), key := Value.str (Str.ofString "PLUS") 235, val := Value.int 14 234 }, { hash := PyData.keyHash P (Str.ofString "MINUS"), key := Value.str (Str.ofString "MINUS") 237, val := Value.int 15 236 }, { hash := PyData.keyHash P (Str.ofString "STAR"), key := Value.str (Str.ofString "STAR") 239, val := Value.int 16 238 }, { hash := PyData.keyHash P (Str.ofString "SLASH"), key := Value.str (Str.ofString "SLASH") 241, val := Value.int 17 240 }, { hash := PyData.keyHash P (Str.ofString "VBAR"), key := Value.str (Str.ofString "VBAR") 243, val := Value.int 18 242 }]
noncomputable def e3_4 (P : Params) : List DictEntry := [{ hash := PyData.keyHash P (Str.ofString "AMPER"), key := Value.str (Str.ofString "AMPER") 245, val := Value.int 19 244 }, { hash := PyData.keyHash P (Str.ofString "LESS"), key := Value.str (Str.ofString "LESS") 247, val := Value.int 20 246 }, { hash := PyData.keyHash P (Str.ofString "GREATER"), key := Value.str (Str.ofString "GREATER") 249, val := Value.int 21 248 }, { hash := PyData.keyHash P (Str.ofString "EQUAL"), key := Value.str (Str.ofString "EQUAL") 251, val := Value.int 22 250 }, { hash := PyData.keyHash P (Str.ofString "DOT"), key := Value.str (Str.ofString "DOT") 253, val := Value.int 23 252 }, { hash := PyData.keyHash P (Str.ofString "PERCENT"), key := Value.str (Str.ofString "PERCENT") 255, val := Value.int 24 254 }]
noncomputable def e3_5 (P : Params) : List DictEntry := [{ hash := PyData.keyHash P (Str.ofString "LBRACE"), key := Value.str (Str.ofString "LBRACE") 257, val := Value.int 25 256 }, { hash := PyData.keyHash P (Str.ofString "RBRACE"), key := Value.str (Str.ofString "RBRACE") 259, val := Value.int 26 258 }, { hash := PyData.keyHash P (Str.ofString "EQEQUAL"), key := Value.str (Str.ofString "EQEQUAL") 261, val := Value.int 27 260 }, { hash := PyData.keyHash P (Str.ofString "NOTEQUAL"), key := Value.str (Str.ofString "NOTEQUAL") 263, val := Value.int 28 262 }, { hash := PyData.keyHash P (Str.ofString "LESSEQUAL"), key := Value.str (Str.ofString "LESSEQUAL") 265, val := Value.int 29 264 }, { hash := PyData.keyHash P (Str.ofString "GREATEREQUAL"), key := Value.str (Str.ofString "GREATEREQUAL") 267, val := Value.int 30 266 }]
noncomputable def e3_6 (P : Params) : List DictEntry := [{ hash := PyData.keyHash P (Str.ofString "TILDE"), key := Value.str (Str.ofString "TILDE") 269, val := Value.int 31 268 }, { hash := PyData.keyHash P (Str.ofString "CIRCUMFLEX"), key := Value.str (Str.ofString "CIRCUMFLEX") 271, val := Value.int 32 270 }, { hash := PyData.keyHash P (Str.ofString "LEFTSHIFT"), key := Value.str (Str.ofString "LEFTSHIFT") 273, val := Value.int 33 272 }, { hash := PyData.keyHash P (Str.ofString "RIGHTSHIFT"), key := Value.str (Str.ofString "RIGHTSHIFT") 275, val := Value.int 34 274 }, { hash := PyData.keyHash P (Str.ofString "DOUBLESTAR"), key := Value.str (Str.ofString "DOUBLESTAR") 277, val := Value.int 35 276 }, { hash := PyData.keyHash P (Str.ofString "PLUSEQUAL"), key := Value.str (Str.ofString "PLUSEQUAL") 279, val := Value.int 36 278 }]
noncomputable def e3_7 (P : Params) : List DictEntry := [{ hash := PyData.keyHash P (Str.ofString "MINEQUAL"), key := Value.str (Str.ofString "MINEQUAL") 281, val := Value.int 37 280 }, { hash := PyData.keyHash P (Str.ofString "STAREQUAL"), key := Value.str (Str.ofString "STAREQUAL") 283, val := Value.int 38 282 }, { hash := PyData.keyHash P (Str.ofString "SLASHEQUAL"), key := Value.str (Str.ofString "SLASHEQUAL") 285, val := Value.int 39 284 }, { hash := PyData.keyHash P (Str.ofString "PERCENTEQUAL"), key := Value.str (Str.ofString "PERCENTEQUAL") 287, val := Value.int 40 286 }, { hash := PyData.keyHash P (Str.ofString "AMPEREQUAL"), key := Value.str (Str.ofString "AMPEREQUAL") 289, val := Value.int 41 288 }, { hash := PyData.keyHash P (Str.ofString "VBAREQUAL"), key := Value.str (Str.ofString "VBAREQUAL") 291, val := Value.int 42 290 }]
noncomputable def e3_8 (P : Params) : List DictEntry := [{ hash := PyData.keyHash P (Str.ofString "CIRCUMFLEXEQUAL"), key := Value.str (Str.ofString "CIRCUMFLEXEQUAL") 293, val := Value.int 43 292 }, { hash := PyData.keyHash P (Str.ofString "LEFTSHIFTEQUAL"), key := Value.str (Str.ofString "LEFTSHIFTEQUAL") 295, val := Value.int 44 294 }, { hash := PyData.keyHash P (Str.ofString "RIGHTSHIFTEQUAL"), key := Value.str (Str.ofString "RIGHTSHIFTEQUAL") 297, val := Value.int 45 296 }, { hash := PyData.keyHash P (Str.ofString "DOUBLESTAREQUAL"), key := Value.str (Str.ofString "DOUBLESTAREQUAL") 299, val := Value.int 46 298 }, { hash := PyData.keyHash P (Str.ofString "DOUBLESLASH"), key := Value.str (Str.ofString "DOUBLESLASH") 301, val := Value.int 47 300 }, { hash := PyData.keyHash P (Str.ofString "DOUBLESLASHEQUAL"), key := Value.str (Str.ofString "DOUBLESLASHEQUAL") 303, val := Value.int 48 302 }]
noncomputable def e3_9 (P : Params) : List DictEntry := [{ hash := PyData.keyHash P (Str.ofString "AT"), key := Value.str (Str.ofString "AT") 305, val := Value.int 49 304 }, { hash := PyData.keyHash P (Str.ofString "ATEQUAL"), key := Value.str (Str.ofString "ATEQUAL") 307, val := Value.int 50 306 }, { hash := PyData.keyHash P (Str.ofString "RARROW"), key := Value.str (Str.ofString "RARROW") 309, val := Value.int 51 308 }, { hash := PyData.keyHash P (Str.ofString "ELLIPSIS"), key := Value.str (Str.ofString "ELLIPSIS") 311, val := Value.int 52 310 }, { hash := PyData.keyHash P (Str.ofString "COLONEQUAL"), key := Value.str (Str.ofString "COLONEQUAL") 313, val := Value.int 53 312 }, { hash := PyData.keyHash P (Str.ofString "EXCLAMATION"), key := Value.str (Str.ofString "EXCLAMATION") 315, val := Value.int 54 314 }]
noncomputable def e3_10 (P : Params) : List DictEntry := [{ hash := PyData.keyHash P (Str.ofString "NT_OFFSET"), key := Value.str (Str.ofString "NT_OFFSET") 317, val := Value.int 256 316 }, { hash := PyData.keyHash P (Str.ofString "EXACT_TOKEN_TYPES"), key := Value.str (Str.ofString "EXACT_TOKEN_TYPES") 414, val := Value.ref 33 }, { hash := PyData.keyHash P (Str.ofString "ISTERMINAL"), key := Value.str (Str.ofString "ISTERMINAL") 421, val := Value.ref 42 }, { hash := PyData.keyHash P (Str.ofString "ISNONTERMINAL"), key := Value.str (Str.ofString "ISNONTERMINAL") 428, val := Value.ref 49 }, { hash := PyData.keyHash P (Str.ofString "ISEOF"), key := Value.str (Str.ofString "ISEOF") 435, val := Value.ref 56 }, { hash := PyData.keyHash P (Str.ofString "_MAX_STRING_SIZE"), key := Value.str (Str.ofString "_MAX_STRING_SIZE") 439, val := Value.int 40 438 }]
noncomputable def e3_11 (P : Params) : List DictEntry := [{ hash := PyData.keyHash P (Str.ofString "_MOVE_COST"), key := Value.str (Str.ofString "_MOVE_COST") 441, val := Value.int 2 440 }, { hash := PyData.keyHash P (Str.ofString "_CASE_COST"), key := Value.str (Str.ofString "_CASE_COST") 443, val := Value.int 1 442 }, { hash := PyData.keyHash P (Str.ofString "_substitution_cost"), key := Value.str (Str.ofString "_substitution_cost") 451, val := Value.ref 63 }, { hash := PyData.keyHash P (Str.ofString "_levenshtein_distance"), key := Value.str (Str.ofString "_levenshtein_distance") 471, val := Value.ref 70 }, { hash := PyData.keyHash P (Str.ofString "_law_operators"), key := Value.str (Str.ofString "_law_operators") 480, val := Value.ref 77 }, { hash := PyData.keyHash P (Str.ofString "_law_one_pass"), key := Value.str (Str.ofString "_law_one_pass") 486, val := Value.ref 82 }]
noncomputable def e3_12 (P : Params) : List DictEntry := [{ hash := PyData.keyHash P (Str.ofString "law"), key := Value.str (Str.ofString "law") 492, val := Value.ref 87 }]
noncomputable def b3 : Params → Obj := fun P => { cls := Value.type "dict", data := Data.dict ⟨e3_0 P ++ e3_1 P ++ e3_2 P ++ e3_3 P ++ e3_4 P ++ e3_5 P ++ e3_6 P ++ e3_7 P ++ e3_8 P ++ e3_9 P ++ e3_10 P ++ e3_11 P ++ e3_12 P⟩ 73 }
noncomputable def b15 : Params → Obj := fun P => { cls := Value.type "tuple", data := Data.seq #[Value.int 0 189, Value.none] }
noncomputable def b16 : Params → Obj := fun P => { cls := Value.type "dict", data := Data.dict #[{ hash := PyData.keyHash P (Str.ofString "key"), key := Value.str (Str.ofString "key") 190, val := Value.none }] 1 }
noncomputable def b22 : Params → Obj := fun P => { cls := Value.type "code", data := Data.fields #[Value.str (Str.ofString "insort_right") 191, Value.str (Str.ofString "insort_right") 192, Value.str (Str.ofString "/claim/cut.py") 193, Value.int 2 0, Value.int 4 0, Value.int 0 0, Value.int 1 0, Value.int 3 0, Value.ref 17, Value.bool true, Value.int 181 0, Value.ref 18, Value.none, Value.ref 19, Value.ref 20, Value.ref 21, Value.int 199 0, Value.int 2 0, Value.str (Str.ofString "/claim/cut.py") 200] }
noncomputable def b23 : Params → Obj := fun P => { cls := Value.type "function", data := Data.func { name := Str.ofString "insort_right", qualname := Str.ofString "insort_right", params := (argsOf (st 1)), body := FuncBody.stmts (bodyOf (st 1)), scope := (scopeOf (st 1)), globals := 3, closure := [], defaults := Value.ref 15, kwdefaults := Value.ref 16, pyModule := Value.str (Str.ofString "cpy313.bisect") 187, code := Value.ref 22 } }
noncomputable def b24 : Params → Obj := fun P => { cls := Value.type "tuple", data := Data.seq #[Value.int 0 202, Value.none] }
noncomputable def b25 : Params → Obj := fun P => { cls := Value.type "dict", data := Data.dict #[{ hash := PyData.keyHash P (Str.ofString "key"), key := Value.str (Str.ofString "key") 203, val := Value.none }] 1 }
noncomputable def b31 : Params → Obj := fun P => { cls := Value.type "code", data := Data.fields #[Value.str (Str.ofString "bisect_right") 204, Value.str (Str.ofString "bisect_right") 205, Value.str (Str.ofString "/claim/cut.py") 206, Value.int 8 0, Value.int 4 0, Value.int 0 0, Value.int 1 0, Value.int 3 0, Value.ref 26, Value.bool true, Value.int 181 0, Value.ref 27, Value.none, Value.ref 28, Value.ref 29, Value.ref 30, Value.int 213 0, Value.int 8 0, Value.str (Str.ofString "/claim/cut.py") 214] }
noncomputable def b32 : Params → Obj := fun P => { cls := Value.type "function", data := Data.func { name := Str.ofString "bisect_right", qualname := Str.ofString "bisect_right", params := (argsOf (st 2)), body := FuncBody.stmts (bodyOf (st 2)), scope := (scopeOf (st 2)), globals := 3, closure := [], defaults := Value.ref 24, kwdefaults := Value.ref 25, pyModule := Value.str (Str.ofString "cpy313.bisect") 187, code := Value.ref 31 } }
noncomputable def e33_0 (P : Params) : List DictEntry := [{ hash := PyData.keyHash P (Str.ofString "!"), key := Value.str (Str.ofString "!") 318, val := Value.int 54 314 }, { hash := PyData.keyHash P (Str.ofString "!="), key := Value.str (Str.ofString "!=") 320, val := Value.int 28 262 }, { hash := PyData.keyHash P (Str.ofString "%"), key := Value.str (Str.ofString "%") 322, val := Value.int 24 254 }, { hash := PyData.keyHash P (Str.ofString "%="), key := Value.str (Str.ofString "%=") 324, val := Value.int 40 286 }, { hash := PyData.keyHash P (Str.ofString "&"), key := Value.str (Str.ofString "&") 326, val := Value.int 19 244 }, { hash := PyData.keyHash P (Str.ofString "&="), key := Value.str (Str.ofString "&=") 328, val := Value.int 41 288 }]
noncomputable def e33_1 (P : Params) : List DictEntry := [{ hash := PyData.keyHash P (Str.ofString "("), key := Value.str (Str.ofString "(") 330, val := Value.int 7 220 }, { hash := PyData.keyHash P (Str.ofString ")"), key := Value.str (Str.ofString ")") 332, val := Value.int 8 222 }, { hash := PyData.keyHash P (Str.ofString "*"), key := Value.str (Str.ofString "*") 334, val := Value.int 16 238 }, { hash := PyData.keyHash P (Str.ofString "**"), key := Value.str (Str.ofString "**") 336, val := Value.int 35 276 }, { hash := PyData.keyHash P (Str.ofString "**="), key := Value.str (Str.ofString "**=") 338, val := Value.int 46 298 }, { hash := PyData.keyHash P (Str.ofString "*="), key := Value.str (Str.ofString "*=") 340, val := Value.int 38 282 }]
noncomputable def e33_2 (P : Params) : List DictEntry := [{ hash := PyData.keyHash P (Str.ofString "+"), key := Value.str (Str.ofString "+") 342, val := Value.int 14 234 }, { hash := PyData.keyHash P (Str.ofString "+="), key := Value.str (Str.ofString "+=") 344, val := Value.int 36 278 }, { hash := PyData.keyHash P (Str.ofString ","), key := Value.str (Str.ofString ",") 346, val := Value.int 12 230 }, { hash := PyData.keyHash P (Str.ofString "-"), key := Value.str (Str.ofString "-") 348, val := Value.int 15 236 }, { hash := PyData.keyHash P (Str.ofString "-="), key := Value.str (Str.ofString "-=") 350, val := Value.int 37 280 }, { hash := PyData.keyHash P (Str.ofString "->"), key := Value.str (Str.ofString "->") 352, val := Value.int 51 308 }]
noncomputable def e33_3 (P : Params) : List DictEntry := [{ hash := PyData.keyHash P (Str.ofString "."), key := Value.str (Str.ofString ".") 354, val := Value.int 23 252 }, { hash := PyData.keyHash P (Str.ofString "..."), key := Value.str (Str.ofString "...") 356, val := Value.int 52 310 }, { hash := PyData.keyHash P (Str.ofString "/"), key := Value.str (Str.ofString "/") 358, val := Value.int 17 240 }, { hash := PyData.keyHash P (Str.ofString "//"), key := Value.str (Str.ofString "//") 360, val := Value.int 47 300 }, { hash := PyData.keyHash P (Str.ofString "//="), key := Value.str (Str.ofString "//=") 362, val := Value.int 48 302 }, { hash := PyData.keyHash P (Str.ofString "/="), key := Value.str (Str.ofString "/=") 364, val := Value.int 39 284 }]
noncomputable def e33_4 (P : Params) : List DictEntry := [{ hash := PyData.keyHash P (Str.ofString ":"), key := Value.str (Str.ofString ":") 366, val := Value.int 11 228 }, { hash := PyData.keyHash P (Str.ofString ":="), key := Value.str (Str.ofString ":=") 368, val := Value.int 53 312 }, { hash := PyData.keyHash P (Str.ofString ";"), key := Value.str (Str.ofString ";") 370, val := Value.int 13 232 }, { hash := PyData.keyHash P (Str.ofString "<"), key := Value.str (Str.ofString "<") 372, val := Value.int 20 246 }, { hash := PyData.keyHash P (Str.ofString "<<"), key := Value.str (Str.ofString "<<") 374, val := Value.int 33 272 }, { hash := PyData.keyHash P (Str.ofString "<<="), key := Value.str (Str.ofString "<<=") 376, val := Value.int 44 294 }]
noncomputable def e33_5 (P : Params) : List DictEntry := [{ hash := PyData.keyHash P (Str.ofString "<="), key := Value.str (Str.ofString "<=") 378, val := Value.int 29 264 }, { hash := PyData.keyHash P (Str.ofString "="), key := Value.str (Str.ofString "=") 380, val := Value.int 22 250 }, { hash := PyData.keyHash P (Str.ofString "=="), key := Value.str (Str.ofString "==") 382, val := Value.int 27 260 }, { hash := PyData.keyHash P (Str.ofString ">"), key := Value.str (Str.ofString ">") 384, val := Value.int 21 248 }, { hash := PyData.keyHash P (Str.ofString ">="), key := Value.str (Str.ofString ">=") 386, val := Value.int 30 266 }, { hash := PyData.keyHash P (Str.ofString ">>"), key := Value.str (Str.ofString ">>") 387, val := Value.int 34 274 }]
noncomputable def e33_6 (P : Params) : List DictEntry := [{ hash := PyData.keyHash P (Str.ofString ">>="), key := Value.str (Str.ofString ">>=") 388, val := Value.int 45 296 }, { hash := PyData.keyHash P (Str.ofString "@"), key := Value.str (Str.ofString "@") 389, val := Value.int 49 304 }, { hash := PyData.keyHash P (Str.ofString "@="), key := Value.str (Str.ofString "@=") 390, val := Value.int 50 306 }, { hash := PyData.keyHash P (Str.ofString "["), key := Value.str (Str.ofString "[") 391, val := Value.int 9 224 }, { hash := PyData.keyHash P (Str.ofString "]"), key := Value.str (Str.ofString "]") 392, val := Value.int 10 226 }, { hash := PyData.keyHash P (Str.ofString "^"), key := Value.str (Str.ofString "^") 393, val := Value.int 32 270 }]
noncomputable def e33_7 (P : Params) : List DictEntry := [{ hash := PyData.keyHash P (Str.ofString "^="), key := Value.str (Str.ofString "^=") 394, val := Value.int 43 292 }, { hash := PyData.keyHash P (Str.ofString "{"), key := Value.str (Str.ofString "{") 395, val := Value.int 25 256 }, { hash := PyData.keyHash P (Str.ofString "|"), key := Value.str (Str.ofString "|") 396, val := Value.int 18 242 }, { hash := PyData.keyHash P (Str.ofString "|="), key := Value.str (Str.ofString "|=") 397, val := Value.int 42 290 }, { hash := PyData.keyHash P (Str.ofString "}"), key := Value.str (Str.ofString "}") 398, val := Value.int 26 258 }, { hash := PyData.keyHash P (Str.ofString "~"), key := Value.str (Str.ofString "~") 399, val := Value.int 31 268 }]
noncomputable def b33 : Params → Obj := fun P => { cls := Value.type "dict", data := Data.dict ⟨e33_0 P ++ e33_1 P ++ e33_2 P ++ e33_3 P ++ e33_4 P ++ e33_5 P ++ e33_6 P ++ e33_7 P⟩ 48 }
noncomputable def b41 : Params → Obj := fun P => { cls := Value.type "code", data := Data.fields #[Value.str (Str.ofString "ISTERMINAL") 415, Value.str (Str.ofString "ISTERMINAL") 416, Value.str (Str.ofString "/claim/cut.py") 417, Value.int 80 0, Value.int 1 0, Value.int 0 0, Value.int 0 0, Value.int 3 0, Value.ref 36, Value.bool true, Value.int 181 0, Value.ref 37, Value.none, Value.ref 38, Value.ref 39, Value.ref 40, Value.int 419 0, Value.int 80 0, Value.str (Str.ofString "/claim/cut.py") 420] }
noncomputable def b42 : Params → Obj := fun P => { cls := Value.type "function", data := Data.func { name := Str.ofString "ISTERMINAL", qualname := Str.ofString "ISTERMINAL", params := (argsOf (st 55)), body := FuncBody.stmts (bodyOf (st 55)), scope := (scopeOf (st 55)), globals := 3, closure := [], defaults := Value.none, kwdefaults := Value.none, pyModule := Value.str (Str.ofString "cpy313.token") 216, code := Value.ref 41 } }
noncomputable def b48 : Params → Obj := fun P => { cls := Value.type "code", data := Data.fields #[Value.str (Str.ofString "ISNONTERMINAL") 422, Value.str (Str.ofString "ISNONTERMINAL") 423, Value.str (Str.ofString "/claim/cut.py") 424, Value.int 82 0, Value.int 1 0, Value.int 0 0, Value.int 0 0, Value.int 3 0, Value.ref 43, Value.bool true, Value.int 181 0, Value.ref 44, Value.none, Value.ref 45, Value.ref 46, Value.ref 47, Value.int 426 0, Value.int 82 0, Value.str (Str.ofString "/claim/cut.py") 427] }
noncomputable def b49 : Params → Obj := fun P => { cls := Value.type "function", data := Data.func { name := Str.ofString "ISNONTERMINAL", qualname := Str.ofString "ISNONTERMINAL", params := (argsOf (st 56)), body := FuncBody.stmts (bodyOf (st 56)), scope := (scopeOf (st 56)), globals := 3, closure := [], defaults := Value.none, kwdefaults := Value.none, pyModule := Value.str (Str.ofString "cpy313.token") 216, code := Value.ref 48 } }
noncomputable def b55 : Params → Obj := fun P => { cls := Value.type "code", data := Data.fields #[Value.str (Str.ofString "ISEOF") 429, Value.str (Str.ofString "ISEOF") 430, Value.str (Str.ofString "/claim/cut.py") 431, Value.int 84 0, Value.int 1 0, Value.int 0 0, Value.int 0 0, Value.int 3 0, Value.ref 50, Value.bool true, Value.int 181 0, Value.ref 51, Value.none, Value.ref 52, Value.ref 53, Value.ref 54, Value.int 433 0, Value.int 84 0, Value.str (Str.ofString "/claim/cut.py") 434] }
noncomputable def b56 : Params → Obj := fun P => { cls := Value.type "function", data := Data.func { name := Str.ofString "ISEOF", qualname := Str.ofString "ISEOF", params := (argsOf (st 57)), body := FuncBody.stmts (bodyOf (st 57)), scope := (scopeOf (st 57)), globals := 3, closure := [], defaults := Value.none, kwdefaults := Value.none, pyModule := Value.str (Str.ofString "cpy313.token") 216, code := Value.ref 55 } }
noncomputable def b62 : Params → Obj := fun P => { cls := Value.type "code", data := Data.fields #[Value.str (Str.ofString "_substitution_cost") 444, Value.str (Str.ofString "_substitution_cost") 445, Value.str (Str.ofString "/claim/cut.py") 446, Value.int 90 0, Value.int 2 0, Value.int 0 0, Value.int 0 0, Value.int 3 0, Value.ref 57, Value.bool true, Value.int 181 0, Value.ref 58, Value.none, Value.ref 59, Value.ref 60, Value.ref 61, Value.int 449 0, Value.int 90 0, Value.str (Str.ofString "/claim/cut.py") 450] }
noncomputable def b63 : Params → Obj := fun P => { cls := Value.type "function", data := Data.func { name := Str.ofString "_substitution_cost", qualname := Str.ofString "_substitution_cost", params := (argsOf (st 62)), body := FuncBody.stmts (bodyOf (st 62)), scope := (scopeOf (st 62)), globals := 3, closure := [], defaults := Value.none, kwdefaults := Value.none, pyModule := Value.str (Str.ofString "cpy313.traceback") 436, code := Value.ref 62 } }
noncomputable def b69 : Params → Obj := fun P => { cls := Value.type "code", data := Data.fields #[Value.str (Str.ofString "_levenshtein_distance") 452, Value.str (Str.ofString "_levenshtein_distance") 453, Value.str (Str.ofString "/claim/cut.py") 454, Value.int 96 0, Value.int 3 0, Value.int 0 0, Value.int 0 0, Value.int 3 0, Value.ref 64, Value.bool true, Value.int 181 0, Value.ref 65, Value.none, Value.ref 66, Value.ref 67, Value.ref 68, Value.int 469 0, Value.int 96 0, Value.str (Str.ofString "/claim/cut.py") 470] }
noncomputable def b70 : Params → Obj := fun P => { cls := Value.type "function", data := Data.func { name := Str.ofString "_levenshtein_distance", qualname := Str.ofString "_levenshtein_distance", params := (argsOf (st 63)), body := FuncBody.stmts (bodyOf (st 63)), scope := (scopeOf (st 63)), globals := 3, closure := [], defaults := Value.none, kwdefaults := Value.none, pyModule := Value.str (Str.ofString "cpy313.traceback") 436, code := Value.ref 69 } }
noncomputable def b76 : Params → Obj := fun P => { cls := Value.type "code", data := Data.fields #[Value.str (Str.ofString "_law_operators") 474, Value.str (Str.ofString "_law_operators") 475, Value.str (Str.ofString "/claim/cut.py") 476, Value.int 135 0, Value.int 0 0, Value.int 0 0, Value.int 0 0, Value.int 3 0, Value.ref 71, Value.bool true, Value.int 181 0, Value.ref 72, Value.none, Value.ref 73, Value.ref 74, Value.ref 75, Value.int 478 0, Value.int 135 0, Value.str (Str.ofString "/claim/cut.py") 479] }
noncomputable def b77 : Params → Obj := fun P => { cls := Value.type "function", data := Data.func { name := Str.ofString "_law_operators", qualname := Str.ofString "_law_operators", params := (argsOf (st 65)), body := FuncBody.stmts (bodyOf (st 65)), scope := (scopeOf (st 65)), globals := 3, closure := [], defaults := Value.none, kwdefaults := Value.none, pyModule := Value.str (Str.ofString "law_rl0094_01") 472, code := Value.ref 76 } }
noncomputable def b81 : Params → Obj := fun P => { cls := Value.type "code", data := Data.fields #[Value.str (Str.ofString "_law_one_pass") 481, Value.str (Str.ofString "_law_one_pass") 482, Value.str (Str.ofString "/claim/cut.py") 483, Value.int 138 0, Value.int 2 0, Value.int 0 0, Value.int 0 0, Value.int 3 0, Value.ref 78, Value.bool true, Value.int 181 0, Value.ref 79, Value.none, Value.none, Value.none, Value.ref 80, Value.int 484 0, Value.int 138 0, Value.str (Str.ofString "/claim/cut.py") 485] }
noncomputable def b82 : Params → Obj := fun P => { cls := Value.type "function", data := Data.func { name := Str.ofString "_law_one_pass", qualname := Str.ofString "_law_one_pass", params := (argsOf (st 66)), body := FuncBody.stmts (bodyOf (st 66)), scope := (scopeOf (st 66)), globals := 3, closure := [], defaults := Value.none, kwdefaults := Value.none, pyModule := Value.str (Str.ofString "law_rl0094_01") 472, code := Value.ref 81 } }
noncomputable def b86 : Params → Obj := fun P => { cls := Value.type "code", data := Data.fields #[Value.str (Str.ofString "law") 487, Value.str (Str.ofString "law") 488, Value.str (Str.ofString "/claim/cut.py") 489, Value.int 155 0, Value.int 1 0, Value.int 0 0, Value.int 0 0, Value.int 3 0, Value.ref 83, Value.bool true, Value.int 181 0, Value.ref 84, Value.none, Value.none, Value.none, Value.ref 85, Value.int 490 0, Value.int 155 0, Value.str (Str.ofString "/claim/cut.py") 491] }
noncomputable def b87 : Params → Obj := fun P => { cls := Value.type "function", data := Data.func { name := Str.ofString "law", qualname := Str.ofString "law", params := (argsOf (st 67)), body := FuncBody.stmts (bodyOf (st 67)), scope := (scopeOf (st 67)), globals := 3, closure := [], defaults := Value.none, kwdefaults := Value.none, pyModule := Value.str (Str.ofString "law_rl0094_01") 472, code := Value.ref 86 } }
noncomputable def HK : Params → Frag := fun P => [(3, b3 P), (15, b15 P), (16, b16 P), (22, b22 P), (23, b23 P), (24, b24 P), (25, b25 P), (31, b31 P), (32, b32 P), (33, b33 P), (41, b41 P), (42, b42 P), (48, b48 P), (49, b49 P), (55, b55 P), (56, b56 P), (62, b62 P), (63, b63 P), (69, b69 P), (70, b70 P), (76, b76 P), (77, b77 P), (81, b81 P), (82, b82 P), (86, b86 P), (87, b87 P)]
local macro_rules | `(tactic| k_head) => `(tactic| o_head (kmHook HK [3, 15, 16, 22, 23, 24, 25, 31, 32, 33, 41, 42, 48, 49, 55, 56, 62, 63, 69, 70, 76, 77, 81, 82, 86, 87] (fun _ => by kernel_rfl) [84]))
open_top hd for row
noncomputable def KF : Params → Frag := fun P => [(3, Mine.hd.o_78 P), (15, Mine.hd.o_51 P), (16, Mine.hd.o_52 P), (22, Mine.hd.o_58 P), (23, Mine.hd.o_59 P), (24, Mine.hd.o_60 P), (25, Mine.hd.o_61 P), (31, Mine.hd.o_67 P), (32, Mine.hd.o_68 P), (33, Mine.hd.o_72 P), (41, Mine.hd.o_85 P), (42, Mine.hd.o_86 P), (48, Mine.hd.o_92 P), (49, Mine.hd.o_93 P), (55, Mine.hd.o_99 P), (56, Mine.hd.o_100 P), (62, Mine.hd.o_106 P), (63, Mine.hd.o_107 P), (69, Mine.hd.o_113 P), (70, Mine.hd.o_114 P), (76, Mine.hd.o_120 P), (77, Mine.hd.o_121 P), (81, Mine.hd.o_125 P), (82, Mine.hd.o_126 P), (86, Mine.hd.o_130 P), (87, Mine.hd.o_131 P)]
theorem KF_eq (P : Params) : HK P = KF P := by kernel_rfl
end Mine
end
section
open PySem PySem.W PyProof.Rows
set_option linter.unusedVariables false
namespace Mine
/-- the goal as a variable, while a hypothesis is taken apart -/
theorem byG {p : Prop} (h : ∀ G : Prop, (p → G) → G) : p := h p id
theorem if_pos' {p : Prop} [Decidable p] {a b : Prop} (h : p) (k : a) : if p then a else b := by rw [if_pos h]; exact k
theorem if_neg' {p : Prop} [Decidable p] {a b : Prop} (h : ¬ p) (k : b) : if p then a else b := by rw [if_neg h]; exact k
theorem exI4 {α0 α1 α2 α3 : Type} {P : α0 → α1 → α2 → α3 → Prop} (x0 : α0) (x1 : α1) (x2 : α2) (x3 : α3) (h : P x0 x1 x2 x3) : ∃ x0 x1 x2 x3, P x0 x1 x2 x3 := ⟨x0, x1, x2, x3, h⟩
theorem exE4 {α0 α1 α2 α3 : Type} {P : α0 → α1 → α2 → α3 → Prop} {G : Prop} (h : ∃ x0 x1 x2 x3, P x0 x1 x2 x3) (k : ∀ x0 x1 x2 x3, P x0 x1 x2 x3 → G) : G := by
  obtain ⟨x0, x1, x2, x3, p⟩ := h
  exact k x0 x1 x2 x3 p
theorem exI5 {α0 α1 α2 α3 α4 : Type} {P : α0 → α1 → α2 → α3 → α4 → Prop} (x0 : α0) (x1 : α1) (x2 : α2) (x3 : α3) (x4 : α4) (h : P x0 x1 x2 x3 x4) : ∃ x0 x1 x2 x3 x4, P x0 x1 x2 x3 x4 := ⟨x0, x1, x2, x3, x4, h⟩
theorem exE5 {α0 α1 α2 α3 α4 : Type} {P : α0 → α1 → α2 → α3 → α4 → Prop} {G : Prop} (h : ∃ x0 x1 x2 x3 x4, P x0 x1 x2 x3 x4) (k : ∀ x0 x1 x2 x3 x4, P x0 x1 x2 x3 x4 → G) : G := by
  obtain ⟨x0, x1, x2, x3, x4, p⟩ := h
  exact k x0 x1 x2 x3 x4 p
theorem exI6 {α0 α1 α2 α3 α4 α5 : Type} {P : α0 → α1 → α2 → α3 → α4 → α5 → Prop} (x0 : α0) (x1 : α1) (x2 : α2) (x3 : α3) (x4 : α4) (x5 : α5) (h : P x0 x1 x2 x3 x4 x5) : ∃ x0 x1 x2 x3 x4 x5, P x0 x1 x2 x3 x4 x5 := ⟨x0, x1, x2, x3, x4, x5, h⟩
theorem exE6 {α0 α1 α2 α3 α4 α5 : Type} {P : α0 → α1 → α2 → α3 → α4 → α5 → Prop} {G : Prop} (h : ∃ x0 x1 x2 x3 x4 x5, P x0 x1 x2 x3 x4 x5) (k : ∀ x0 x1 x2 x3 x4 x5, P x0 x1 x2 x3 x4 x5 → G) : G := by
  obtain ⟨x0, x1, x2, x3, x4, x5, p⟩ := h
  exact k x0 x1 x2 x3 x4 x5 p
theorem exI7 {α0 α1 α2 α3 α4 α5 α6 : Type} {P : α0 → α1 → α2 → α3 → α4 → α5 → α6 → Prop} (x0 : α0) (x1 : α1) (x2 : α2) (x3 : α3) (x4 : α4) (x5 : α5) (x6 : α6) (h : P x0 x1 x2 x3 x4 x5 x6) : ∃ x0 x1 x2 x3 x4 x5 x6, P x0 x1 x2 x3 x4 x5 x6 := ⟨x0, x1, x2, x3, x4, x5, x6, h⟩
theorem exE7 {α0 α1 α2 α3 α4 α5 α6 : Type} {P : α0 → α1 → α2 → α3 → α4 → α5 → α6 → Prop} {G : Prop} (h : ∃ x0 x1 x2 x3 x4 x5 x6, P x0 x1 x2 x3 x4 x5 x6) (k : ∀ x0 x1 x2 x3 x4 x5 x6, P x0 x1 x2 x3 x4 x5 x6 → G) : G := by
  obtain ⟨x0, x1, x2, x3, x4, x5, x6, p⟩ := h
  exact k x0 x1 x2 x3 x4 x5 x6 p
theorem exI8 {α0 α1 α2 α3 α4 α5 α6 α7 : Type} {P : α0 → α1 → α2 → α3 → α4 → α5 → α6 → α7 → Prop} (x0 : α0) (x1 : α1) (x2 : α2) (x3 : α3) (x4 : α4) (x5 : α5) (x6 : α6) (x7 : α7) (h : P x0 x1 x2 x3 x4 x5 x6 x7) : ∃ x0 x1 x2 x3 x4 x5 x6 x7, P x0 x1 x2 x3 x4 x5 x6 x7 := ⟨x0, x1, x2, x3, x4, x5, x6, x7, h⟩
theorem exE8 {α0 α1 α2 α3 α4 α5 α6 α7 : Type} {P : α0 → α1 → α2 → α3 → α4 → α5 → α6 → α7 → Prop} {G : Prop} (h : ∃ x0 x1 x2 x3 x4 x5 x6 x7, P x0 x1 x2 x3 x4 x5 x6 x7) (k : ∀ x0 x1 x2 x3 x4 x5 x6 x7, P x0 x1 x2 x3 x4 x5 x6 x7 → G) : G := by
  obtain ⟨x0, x1, x2, x3, x4, x5, x6, x7, p⟩ := h
  exact k x0 x1 x2 x3 x4 x5 x6 x7 p
theorem exI9 {α0 α1 α2 α3 α4 α5 α6 α7 α8 : Type} {P : α0 → α1 → α2 → α3 → α4 → α5 → α6 → α7 → α8 → Prop} (x0 : α0) (x1 : α1) (x2 : α2) (x3 : α3) (x4 : α4) (x5 : α5) (x6 : α6) (x7 : α7) (x8 : α8) (h : P x0 x1 x2 x3 x4 x5 x6 x7 x8) : ∃ x0 x1 x2 x3 x4 x5 x6 x7 x8, P x0 x1 x2 x3 x4 x5 x6 x7 x8 := ⟨x0, x1, x2, x3, x4, x5, x6, x7, x8, h⟩
theorem exE9 {α0 α1 α2 α3 α4 α5 α6 α7 α8 : Type} {P : α0 → α1 → α2 → α3 → α4 → α5 → α6 → α7 → α8 → Prop} {G : Prop} (h : ∃ x0 x1 x2 x3 x4 x5 x6 x7 x8, P x0 x1 x2 x3 x4 x5 x6 x7 x8) (k : ∀ x0 x1 x2 x3 x4 x5 x6 x7 x8, P x0 x1 x2 x3 x4 x5 x6 x7 x8 → G) : G := by
  obtain ⟨x0, x1, x2, x3, x4, x5, x6, x7, x8, p⟩ := h
  exact k x0 x1 x2 x3 x4 x5 x6 x7 x8 p
theorem exI12 {α0 α1 α2 α3 α4 α5 α6 α7 α8 α9 α10 α11 : Type} {P : α0 → α1 → α2 → α3 → α4 → α5 → α6 → α7 → α8 → α9 → α10 → α11 → Prop} (x0 : α0) (x1 : α1) (x2 : α2) (x3 : α3) (x4 : α4) (x5 : α5) (x6 : α6) (x7 : α7) (x8 : α8) (x9 : α9) (x10 : α10) (x11 : α11) (h : P x0 x1 x2 x3 x4 x5 x6 x7 x8 x9 x10 x11) : ∃ x0 x1 x2 x3 x4 x5 x6 x7 x8 x9 x10 x11, P x0 x1 x2 x3 x4 x5 x6 x7 x8 x9 x10 x11 := ⟨x0, x1, x2, x3, x4, x5, x6, x7, x8, x9, x10, x11, h⟩
theorem exE12 {α0 α1 α2 α3 α4 α5 α6 α7 α8 α9 α10 α11 : Type} {P : α0 → α1 → α2 → α3 → α4 → α5 → α6 → α7 → α8 → α9 → α10 → α11 → Prop} {G : Prop} (h : ∃ x0 x1 x2 x3 x4 x5 x6 x7 x8 x9 x10 x11, P x0 x1 x2 x3 x4 x5 x6 x7 x8 x9 x10 x11) (k : ∀ x0 x1 x2 x3 x4 x5 x6 x7 x8 x9 x10 x11, P x0 x1 x2 x3 x4 x5 x6 x7 x8 x9 x10 x11 → G) : G := by
  obtain ⟨x0, x1, x2, x3, x4, x5, x6, x7, x8, x9, x10, x11, p⟩ := h
  exact k x0 x1 x2 x3 x4 x5 x6 x7 x8 x9 x10 x11 p
theorem exI14 {α0 α1 α2 α3 α4 α5 α6 α7 α8 α9 α10 α11 α12 α13 : Type} {P : α0 → α1 → α2 → α3 → α4 → α5 → α6 → α7 → α8 → α9 → α10 → α11 → α12 → α13 → Prop} (x0 : α0) (x1 : α1) (x2 : α2) (x3 : α3) (x4 : α4) (x5 : α5) (x6 : α6) (x7 : α7) (x8 : α8) (x9 : α9) (x10 : α10) (x11 : α11) (x12 : α12) (x13 : α13) (h : P x0 x1 x2 x3 x4 x5 x6 x7 x8 x9 x10 x11 x12 x13) : ∃ x0 x1 x2 x3 x4 x5 x6 x7 x8 x9 x10 x11 x12 x13, P x0 x1 x2 x3 x4 x5 x6 x7 x8 x9 x10 x11 x12 x13 := ⟨x0, x1, x2, x3, x4, x5, x6, x7, x8, x9, x10, x11, x12, x13, h⟩
theorem exE14 {α0 α1 α2 α3 α4 α5 α6 α7 α8 α9 α10 α11 α12 α13 : Type} {P : α0 → α1 → α2 → α3 → α4 → α5 → α6 → α7 → α8 → α9 → α10 → α11 → α12 → α13 → Prop} {G : Prop} (h : ∃ x0 x1 x2 x3 x4 x5 x6 x7 x8 x9 x10 x11 x12 x13, P x0 x1 x2 x3 x4 x5 x6 x7 x8 x9 x10 x11 x12 x13) (k : ∀ x0 x1 x2 x3 x4 x5 x6 x7 x8 x9 x10 x11 x12 x13, P x0 x1 x2 x3 x4 x5 x6 x7 x8 x9 x10 x11 x12 x13 → G) : G := by
  obtain ⟨x0, x1, x2, x3, x4, x5, x6, x7, x8, x9, x10, x11, x12, x13, p⟩ := h
  exact k x0 x1 x2 x3 x4 x5 x6 x7 x8 x9 x10 x11 x12 x13 p
theorem exI3 {α0 α1 α2 : Type} {P : α0 → α1 → α2 → Prop} (x0 : α0) (x1 : α1) (x2 : α2) (h : P x0 x1 x2) : ∃ x0 x1 x2, P x0 x1 x2 := ⟨x0, x1, x2, h⟩
theorem exI2 {α0 α1 : Type} {P : α0 → α1 → Prop} (x0 : α0) (x1 : α1) (h : P x0 x1) : ∃ x0 x1, P x0 x1 := ⟨x0, x1, h⟩
theorem ex11 {α : Type} {A B : α → Prop} {x : α} (a : A x) (b : B x) : ∃ x, A x ∧ B x := ⟨x, a, b⟩
theorem ex21 {α β : Type} {A B : α → β → Prop} {x : α} {y : β} (a : A x y) (b : B x y) : ∃ x y, A x y ∧ B x y := ⟨x, y, a, b⟩
theorem ex22 {α β : Type} {A B C : α → β → Prop} {x : α} {y : β} (a : A x y) (b : B x y) (c : C x y) : ∃ x y, A x y ∧ B x y ∧ C x y := ⟨x, y, a, b, c⟩
theorem ex33 {α β γ : Type} {A B C D : α → β → γ → Prop} {x : α} {y : β} {z : γ} (a : A x y z) (b : B x y z) (c : C x y z) (d : D x y z) : ∃ x y z, A x y z ∧ B x y z ∧ C x y z ∧ D x y z := ⟨x, y, z, a, b, c, d⟩
/-! # A small program logic over wpAny: values without tokens, a ledger of owned objects, no exceptions -/
inductive AV where
  | none
  | bool (b : Bool)
  | int (i : Int)
  | str (cs : List Nat)
  | ref (a : Addr)
  | val (v : Value)
noncomputable def AV.mk : AV → Tok → Value
  | .none, _ => .none
  | .bool b, _ => .bool b
  | .int i, t => .int i t
  | .str cs, t => .str ⟨cs.toArray⟩ t
  | .ref a, _ => .ref a
  | .val v, _ => v
noncomputable def Rep (v : Value) (a : AV) : Prop := ∃ t, v = a.mk t
inductive Reps : List Value → List AV → Prop where
  | nil : Reps [] []
  | cons {v : Value} {a : AV} {vs : List Value} {as : List AV} : Rep v a → Reps vs as → Reps (v :: vs) (a :: as)
theorem Rep.int_mk (i : Int) (t : Tok) : Rep (.int i t) (.int i) := ⟨t, rfl⟩
theorem Rep.str_mk (x : Str) (t : Tok) : Rep (.str x t) (.str x.cps.toList) := ⟨t, by show Value.str x t = Value.str ⟨x.cps.toList.toArray⟩ t; rw [Array.toArray_toList]⟩
theorem Rep.bool_mk (b : Bool) : Rep (.bool b) (.bool b) := ⟨0, rfl⟩
theorem Rep.none_mk : Rep .none .none := ⟨0, rfl⟩
theorem Rep.ref_mk (a : Addr) : Rep (.ref a) (.ref a) := ⟨0, rfl⟩
theorem Rep.val_mk (v : Value) : Rep v (.val v) := ⟨0, rfl⟩
theorem Reps.length {vs : List Value} {as : List AV} (h : Reps vs as) : vs.length = as.length := by
  induction h with
  | nil => rfl
  | cons _ _ ih => simp [ih]
theorem Reps.get {vs : List Value} {as : List AV} (h : Reps vs as) : ∀ {i : Nat} {a : AV}, as[i]? = some a → ∃ v, vs[i]? = some v ∧ Rep v a := by
  induction h with
  | nil => intro i a e; simp at e
  | cons h1 _ ih =>
    intro i a e
    cases i with
    | zero => simp at e; subst e; exact ⟨_, by simp, h1⟩
    | succ i => simp at e ⊢; exact ih e
theorem Reps.get' {vs : List Value} {as : List AV} (h : Reps vs as) : ∀ {i : Nat} {v : Value}, vs[i]? = some v → ∃ a, as[i]? = some a ∧ Rep v a := by
  induction h with
  | nil => intro i a e; simp at e
  | cons h1 _ ih =>
    intro i a e
    cases i with
    | zero => simp at e; subst e; exact ⟨_, by simp, h1⟩
    | succ i => simp at e ⊢; exact ih e
theorem Reps.append {vs us : List Value} {as bs : List AV} (h : Reps vs as) (k : Reps us bs) : Reps (vs ++ us) (as ++ bs) := by
  induction h with
  | nil => simpa using k
  | cons h1 _ ih => exact .cons h1 ih
theorem Reps.one {v : Value} {a : AV} (h : Rep v a) : Reps [v] [a] := .cons h .nil
theorem Reps.take {vs : List Value} {as : List AV} (h : Reps vs as) : ∀ n, Reps (vs.take n) (as.take n) := by
  induction h with
  | nil => intro n; simp; exact .nil
  | cons h1 _ ih => intro n; cases n with
    | zero => exact .nil
    | succ n => exact .cons h1 (ih n)
theorem Reps.drop {vs : List Value} {as : List AV} (h : Reps vs as) : ∀ n, Reps (vs.drop n) (as.drop n) := by
  induction h with
  | nil => intro n; simp; exact .nil
  | cons h1 h2 ih => intro n; cases n with
    | zero => exact .cons h1 h2
    | succ n => exact ih n
theorem Reps.set {vs : List Value} {as : List AV} (h : Reps vs as) {v : Value} {a : AV} (k : Rep v a) : ∀ n, Reps (vs.set n v) (as.set n a) := by
  induction h with
  | nil => intro n; exact .nil
  | cons h1 h2 ih => intro n; cases n with
    | zero => exact .cons k h2
    | succ n => exact .cons h1 (ih n)
theorem Reps.insertIdx {vs : List Value} {as : List AV} (h : Reps vs as) {v : Value} {a : AV} (k : Rep v a) (n : Nat) : Reps (vs.take n ++ v :: vs.drop n) (as.take n ++ a :: as.drop n) :=
  (h.take n).append (.cons k (h.drop n))
theorem Reps.eraseIdx {vs : List Value} {as : List AV} (h : Reps vs as) : ∀ n, Reps (vs.eraseIdx n) (as.eraseIdx n) := by
  induction h with
  | nil => intro n; exact .nil
  | cons h1 h2 ih => intro n; cases n with
    | zero => exact h2
    | succ n => exact .cons h1 (ih n)
/-- what is known of one owned object -/
inductive Ent where
  | ns (m : Str → Option AV)
  | list (xs : List AV)
  | tup (xs : List AV)
  | cell (v : Option AV)
  | obj (q : Obj → Prop)
noncomputable def Ent.At (h : Heap) (a : Addr) : Ent → Prop
  | .ns m => ∃ m', h.Ns a m' ∧ ∀ x av, m x = some av → ∃ v, m' x = some v ∧ Rep v av
  | .list xs => ∃ vs n, h.get? a = some { cls := .type "list", data := .seq vs.toArray n } ∧ Reps vs xs
  | .tup xs => ∃ vs n, h.get? a = some { cls := .type "tuple", data := .seq vs.toArray n } ∧ Reps vs xs
  | .cell v => ∃ w, h.IsCell a w ∧ ∀ av, v = some av → ∃ x, w = some x ∧ Rep x av
  | .obj q => ∃ o, h.get? a = some o ∧ q o
theorem Ent.At.of {h h' : Heap} {a : Addr} {e : Ent} (x : e.At h a) (k : ∀ o, h.get? a = some o → h'.get? a = some o) : e.At h' a := by
  cases e with
  | ns m => obtain ⟨m', hn, hm⟩ := x; exact ⟨m', hn.at' k, hm⟩
  | list xs => obtain ⟨vs, n, hg, hr⟩ := x; exact ⟨vs, n, k _ hg, hr⟩
  | tup xs => obtain ⟨vs, n, hg, hr⟩ := x; exact ⟨vs, n, k _ hg, hr⟩
  | cell v => obtain ⟨w, ⟨o, ho, hd⟩, hm⟩ := x; exact ⟨w, ⟨o, k _ ho, hd⟩, hm⟩
  | obj q => obtain ⟨o, ho, hq⟩ := x; exact ⟨o, k _ ho, hq⟩
theorem Ent.At.lt {h : Heap} {a : Addr} {e : Ent} (x : e.At h a) : a < h.objs.size := by
  cases e with
  | ns m => obtain ⟨m', hn, hm⟩ := x; exact hn.lt
  | list xs => obtain ⟨vs, n, hg, hr⟩ := x; exact Heap.lt_size hg
  | tup xs => obtain ⟨vs, n, hg, hr⟩ := x; exact Heap.lt_size hg
  | cell v => obtain ⟨w, hc, hm⟩ := x; exact hc.lt
  | obj q => obtain ⟨o, ho, hq⟩ := x; exact Heap.lt_size ho
noncomputable abbrev Ledger := List (Addr × Ent)
structure Own (h₀ h : Heap) (l : Ledger) : Prop where
  has : ∀ p ∈ l, p.2.At h p.1
  nd : (l.map (·.1)).Nodup
  keep : ∀ b o, h₀.get? b = some o → h.get? b = some o
  fresh : ∀ p ∈ l, h₀.get? p.1 = none
theorem Own.grow {h₀ h h' : Heap} {l : Ledger} (O : Own h₀ h l) (k : ∀ b o, h.get? b = some o → h'.get? b = some o) : Own h₀ h' l :=
  ⟨fun p hp => (O.has p hp).of (k p.1), O.nd, fun b o e => k b o (O.keep b o e), O.fresh⟩
theorem Own.sub {h₀ h : Heap} {l l' : Ledger} (O : Own h₀ h l) (s : l'.Sublist l) : Own h₀ h l' :=
  ⟨fun p hp => O.has p (s.subset hp), (s.map _).nodup O.nd, O.keep, fun p hp => O.fresh p (s.subset hp)⟩
theorem Own.tail {h₀ h : Heap} {p : Addr × Ent} {l : Ledger} (O : Own h₀ h (p :: l)) : Own h₀ h l := O.sub (List.sublist_cons_self _ _)
theorem Own.new {h₀ h : Heap} {l : Ledger} (O : Own h₀ h l) {h' : Heap} {a : Addr} {e : Ent} (k : ∀ b o, h.get? b = some o → h'.get? b = some o) (ha : h.objs.size ≤ a) (x : e.At h' a) : Own h₀ h' ((a, e) :: l) := by
  refine ⟨?_, ?_, fun b o q => k b o (O.keep b o q), ?_⟩
  · intro p hp
    rcases List.mem_cons.mp hp with rfl | hp
    · exact x
    · exact (O.has p hp).of (k p.1)
  · rw [List.map_cons, List.nodup_cons]
    refine ⟨fun hm => ?_, O.nd⟩
    obtain ⟨p, hp, e'⟩ := List.mem_map.mp hm
    have := (O.has p hp).lt
    rw [e'] at this
    exact absurd this (Nat.not_lt.mpr ha)
  · intro p hp
    rcases List.mem_cons.mp hp with rfl | hp
    · cases hq : h₀.get? a with
      | none => rfl
      | some o => exact absurd (Heap.lt_size (O.keep _ _ hq)) (Nat.not_lt.mpr ha)
    · exact O.fresh p hp
/-- one object changes -/
inductive Upd (a : Addr) (e e' : Ent) : Ledger → Ledger → Prop where
  | head {l : Ledger} : Upd a e e' ((a, e) :: l) ((a, e') :: l)
  | tail {p : Addr × Ent} {l l' : Ledger} : Upd a e e' l l' → Upd a e e' (p :: l) (p :: l')
theorem Upd.mem {a : Addr} {e e' : Ent} {l l' : Ledger} (u : Upd a e e' l l') : (a, e) ∈ l := by
  induction u with
  | head => exact .head _
  | tail _ ih => exact .tail _ ih
theorem Upd.fst {a : Addr} {e e' : Ent} {l l' : Ledger} (u : Upd a e e' l l') : l'.map (·.1) = l.map (·.1) := by
  induction u with
  | head => rfl
  | tail _ ih => simp [ih]
theorem Upd.other {a : Addr} {e e' : Ent} {l l' : Ledger} (u : Upd a e e' l l') (nd : (l.map (·.1)).Nodup) : ∀ p ∈ l', p = (a, e') ∨ (p ∈ l ∧ p.1 ≠ a) := by
  induction u with
  | @head l =>
    intro p hp
    rcases List.mem_cons.mp hp with rfl | hp
    · exact .inl rfl
    · refine .inr ⟨.tail _ hp, fun q => ?_⟩
      rw [List.map_cons, List.nodup_cons] at nd
      exact nd.1 (List.mem_map.mpr ⟨p, hp, q⟩)
  | @tail p₀ l l' u' ih =>
    intro p hp
    rw [List.map_cons, List.nodup_cons] at nd
    rcases List.mem_cons.mp hp with rfl | hp
    · refine .inr ⟨.head _, fun q => nd.1 (List.mem_map.mpr ⟨_, u'.mem, q.symm⟩)⟩
    · rcases ih nd.2 p hp with h | ⟨h, k⟩
      · exact .inl h
      · exact .inr ⟨.tail _ h, k⟩
theorem Own.upd {h₀ h h' : Heap} {l l' : Ledger} {a : Addr} {e e' : Ent} (O : Own h₀ h l) (u : Upd a e e' l l') (x : e'.At h' a) (k : Heap.ExtBut a h h') : Own h₀ h' l' := by
  have ha := O.fresh _ u.mem
  refine ⟨?_, by rw [u.fst]; exact O.nd, fun b o q => k b o (fun hb => ?_) (O.keep b o q), ?_⟩
  · intro p hp
    rcases u.other O.nd p hp with rfl | ⟨hp, hne⟩
    · exact x
    · exact (O.has p hp).of fun o q => k _ o hne q
  · subst hb; simp only at ha; rw [ha] at q; cases q
  · intro p hp
    rcases u.other O.nd p hp with rfl | ⟨hp, _⟩
    · exact ha
    · exact O.fresh p hp
theorem Own.perm {h₀ h : Heap} {l l' : Ledger} (O : Own h₀ h l) (p : l'.Perm l) : Own h₀ h l' :=
  ⟨fun q hq => O.has q (p.subset hq), (p.map _).nodup_iff.mpr O.nd, O.keep, fun q hq => O.fresh q (p.subset hq)⟩
theorem Upd.app {a : Addr} {e e' : Ent} {l l' F : Ledger} (u : Upd a e e' l l') : Upd a e e' (l ++ F) (l' ++ F) := by
  induction u with
  | head => exact .head
  | tail _ ih => exact .tail ih
/-- where a piece of code runs -/
structure Cx where
  prog : Program
  w : World
  A : Around
  h₀ : Heap
noncomputable abbrev Cx.M (c : Cx) : Model := model c.prog c.w
/-- from every state that owns l (and a frame F beside it) the tree ends, raises nothing, keeps F and all that stood at c.h₀, and owns l' with P -/
noncomputable def Ev {α : Type} (c : Cx) (l : Ledger) (t : Sem α) (P : α → Ledger → Prop) : Prop :=
  ∀ (s : Shared) (F : Ledger), Own c.h₀ s.heap (l ++ F) → wpAny c.M c.A t (fun a s' => ∃ h' tk l', s' = { s with heap := h', toks := tk } ∧ Own c.h₀ h' (l' ++ F) ∧ P a l') (fun _ _ => False) s
noncomputable def EvV (c : Cx) (l : Ledger) (t : Sem Value) (P : AV → Ledger → Prop) : Prop := Ev c l t fun v l' => ∃ a, Rep v a ∧ P a l'
theorem postI {h₀ : Heap} {s s' : Shared} {F : Ledger} {P : Ledger → Prop} (h' : Heap) (tk : Nat) (l' : Ledger) (e : s' = { s with heap := h', toks := tk }) (O : Own h₀ h' (l' ++ F)) (p : P l') :
    ∃ h' tk l', s' = { s with heap := h', toks := tk } ∧ Own h₀ h' (l' ++ F) ∧ P l' := ⟨h', tk, l', e, O, p⟩
theorem postV {h₀ : Heap} {s s' : Shared} {F : Ledger} {v : Value} {P : AV → Ledger → Prop} (h' : Heap) (tk : Nat) (l' : Ledger) (e : s' = { s with heap := h', toks := tk }) (O : Own h₀ h' (l' ++ F)) (a : AV) (r : Rep v a) (p : P a l') :
    ∃ h' tk l', s' = { s with heap := h', toks := tk } ∧ Own h₀ h' (l' ++ F) ∧ ∃ a, Rep v a ∧ P a l' := ⟨h', tk, l', e, O, a, r, p⟩
section
variable {α β : Type} {c : Cx} {l l' F : Ledger}
theorem Ev.run {t : Sem α} {P : α → Ledger → Prop} {Q : α → Shared → Prop} {E : Value → Shared → Prop} {s : Shared} (h : Ev c l t P) (O : Own c.h₀ s.heap (l ++ F))
    (k : ∀ a h' tk l', Own c.h₀ h' (l' ++ F) → P a l' → Q a { s with heap := h', toks := tk }) : wpAny c.M c.A t Q E s := by
  refine wpAny_mono (h s F O) (fun a s' q => ?_) fun _ _ x => x.elim
  refine byG fun gG kgG => ?_
  obtain ⟨h', tk, l', rfl, O', p⟩ := q
  refine kgG ?_
  clear kgG gG
  exact k a h' tk l' O' p
theorem Ev.runV {t : Sem Value} {P : AV → Ledger → Prop} {Q : Value → Shared → Prop} {E : Value → Shared → Prop} {s : Shared} (h : EvV c l t P) (O : Own c.h₀ s.heap (l ++ F))
    (k : ∀ v a h' tk l', Own c.h₀ h' (l' ++ F) → Rep v a → P a l' → Q v { s with heap := h', toks := tk }) : wpAny c.M c.A t Q E s :=
  Ev.run h O fun v h' tk l' O' ⟨a, r, p⟩ => k v a h' tk l' O' r p
theorem Ev.mono {t : Sem α} {P P' : α → Ledger → Prop} (h : Ev c l t P) (k : ∀ a l', P a l' → P' a l') : Ev c l t P' :=
  fun _ _ O => Ev.run h O fun a h' tk l' O' p => (postI h' tk l' rfl O' (k a l' p))
theorem EvV.mono {t : Sem Value} {P P' : AV → Ledger → Prop} (h : EvV c l t P) (k : ∀ a l', P a l' → P' a l') : EvV c l t P' :=
  Ev.mono h fun _ _ ⟨a, r, p⟩ => ⟨a, r, k a _ p⟩
/-- the frame: what is not touched stays -/
theorem Ev.frame {t : Sem α} {P : α → Ledger → Prop} (G : Ledger) (h : Ev c l t P) : Ev c (l ++ G) t fun a l' => ∃ l'', l' = l'' ++ G ∧ P a l'' := fun s F O => by
  rw [List.append_assoc] at O
  exact Ev.run h O fun a h' tk l' O' p => ⟨h', tk, l' ++ G, rfl, by rw [List.append_assoc]; exact O', l', rfl, p⟩
theorem Ev.perm {t : Sem α} {P : α → Ledger → Prop} (p : l'.Perm l) (h : Ev c l' t P) : Ev c l t P := fun s F O => h s F (O.perm (p.append_right F))
/-- drop what is no longer needed -/
theorem Ev.weak {t : Sem α} {P : α → Ledger → Prop} (s : l'.Sublist l) (h : Ev c l' t P) : Ev c l t P := fun s' F O => h s' F (O.sub (s.append_right F))
/-- at the end: another view of what is owned -/
theorem Ev.after {t : Sem α} {P P' : α → Ledger → Prop} (h : Ev c l t P) (k : ∀ a l' h' F, P a l' → Own c.h₀ h' (l' ++ F) → ∃ l'', Own c.h₀ h' (l'' ++ F) ∧ P' a l'') : Ev c l t P' :=
  fun _ _ O => Ev.run h O fun a h' tk l' O' p => let ⟨l'', O'', p''⟩ := k a l' h' _ p O'; (postI h' tk l'' rfl O'' p'')
/-- a call on a part of what is owned -/
theorem Ev.on {t : Sem α} {P P' : α → Ledger → Prop} {l₁ G : Ledger} (h : Ev c l₁ t P) (p : (l₁ ++ G).Perm l) (k : ∀ a l'', P a l'' → P' a (l'' ++ G)) : Ev c l t P' :=
  Ev.perm p (Ev.mono (Ev.frame G h) fun a _ ⟨_, e, q⟩ => e ▸ k a _ q)
end
end Mine
end
section
open PySem PySem.W PyProof.Rows
set_option linter.unusedVariables false
namespace Mine
/-- room, the top's names, the written part of the heap -/
structure Ok (K : Params → Frag) (c : Cx) (n : Nat) : Prop where
  hh : c.A.handled = none
  hd : c.A.depth + n ≤ 900
  hu : c.A.units + 8 * n ≤ 9000
  k : (K c.w.params).In c.h₀
  g : ∃ mg, c.h₀.Ns mainGlobals mg
  b : ∃ mb, c.h₀.Ns builtinsNs mb ∧ ∀ x : Str, x ≠ "__name__" → mb x = bootBuiltins x
  lim : c.h₀.NoLimit
noncomputable def Cx.deeper (c : Cx) (env : Env) : Cx := { c with A := c.A.deeper env }
theorem Ok.deeper {K : Params → Frag} {c : Cx} {n : Nat} {env : Env} (h : Ok K c (n + 1)) : Ok K (c.deeper env) n :=
  ⟨h.hh, by have := h.hd; show c.A.depth + 1 + n ≤ 900; lia, by have := h.hu; show c.A.units + 3 + 8 * n ≤ 9000; lia, h.k, h.g, h.b, h.lim⟩
theorem Ok.room {K : Params → Frag} {c : Cx} {n : Nat} (h : Ok K c n) : c.A.depth < recursionLimit := by have := h.hd; show c.A.depth < 1000; lia
theorem Ok.units {K : Params → Frag} {c : Cx} {n : Nat} (h : Ok K c n) : c.A.units + 100 < cLine := by have := h.hu; show c.A.units + 100 < 9900; lia
noncomputable def put (m : Str → Option AV) (x : Str) (a : AV) : Str → Option AV := fun y => if y = x then some a else m y
section
variable {c : Cx} {env : Env} {l F : Ledger}
theorem Own.ns {h₀ h : Heap} {L : Addr} {m : Str → Option AV} (O : Own h₀ h ((L, .ns m) :: l)) {x : Str} {a : AV} (hx : m x = some a) : ∃ m' v, h.Ns L m' ∧ m' x = some v ∧ Rep v a :=
  let ⟨m', hn, hm⟩ := O.has _ (.head _)
  let ⟨v, hv, r⟩ := hm x a hx
  ⟨m', v, hn, hv, r⟩
theorem Own.isList {h₀ h : Heap} {a : Addr} {xs : List AV} (O : Own h₀ h l) (hm : (a, Ent.list xs) ∈ l) : ∃ vs, h.IsList a vs.toArray ∧ Reps vs xs :=
  let ⟨vs, n, hg, r⟩ := O.has _ hm
  ⟨vs, ⟨_, hg, rfl, n, rfl⟩, r⟩
theorem Own.isPlain {h₀ h : Heap} {a : Addr} {xs : List AV} (O : Own h₀ h l) (hm : (a, Ent.list xs) ∈ l) : ∃ vs, h.PlainList a vs.toArray ∧ Reps vs xs :=
  let ⟨vs, n, hg, r⟩ := O.has _ hm
  ⟨vs, ⟨n, hg⟩, r⟩
theorem Own.cell {h₀ h : Heap} {a : Addr} {av : AV} (O : Own h₀ h l) (hm : (a, Ent.cell (some av)) ∈ l) : ∃ v, h.IsCell a (some v) ∧ Rep v av := by
  obtain ⟨w, hc, hw⟩ := O.has _ hm
  obtain ⟨x, rfl, r⟩ := hw av rfl
  exact ⟨x, hc, r⟩
/-! names -/
theorem ev_local {L : Addr} {m : Str → Option AV} {x : Str} {pos : Pos} {a : AV} {P : AV → Ledger → Prop} (hL : env.locals = L) (hk : env.scope.kind = .function) (hl : env.kindOf x = some .local)
    (hd : (x == ("__debug__" : Str)) = false) (hx : m x = some a) (h : P a ((L, .ns m) :: l)) : EvV c ((L, .ns m) :: l) (eval (.Name x pos) env) P := fun s F O => by
  subst hL
  refine byG fun gG kgG => ?_
  obtain ⟨m', v, hn, hv, r⟩ := Own.ns O hx
  refine kgG ?_
  clear kgG gG
  exact wpAny_Name (wpAny_loadName_local hk hl hn hv (postV s.heap s.toks _ rfl O a r h)) hd
theorem ev_local_load {L : Addr} {m : Str → Option AV} {x : Str} {a : AV} {P : AV → Ledger → Prop} (hL : env.locals = L) (hk : env.scope.kind = .function) (hl : env.kindOf x = some .local)
    (hx : m x = some a) (h : P a ((L, .ns m) :: l)) : EvV c ((L, .ns m) :: l) (loadName env x) P := fun s F O => by
  subst hL
  refine byG fun gG kgG => ?_
  obtain ⟨m', v, hn, hv, r⟩ := Own.ns O hx
  refine kgG ?_
  clear kgG gG
  exact wpAny_loadName_local hk hl hn hv (postV s.heap s.toks _ rfl O a r h)
theorem ev_store {L : Addr} {m : Str → Option AV} {x : Str} {v : Value} {a : AV} {P : Unit → Ledger → Prop} (hL : env.locals = L) (hk : env.scope.kind = .function) (hl : env.kindOf x = some .local)
    (r : Rep v a) (h : P () ((L, .ns (put m x a)) :: l)) : Ev c ((L, .ns m) :: l) (storeName env x v) P := fun s F O => by
  subst hL
  obtain ⟨m', hn, hm⟩ := O.has _ (.head _)
  refine wpAny_storeName_local hl hn (fun h' hn' hs => ?_) (by rw [hk]; rfl)
  refine ⟨h', _, _, rfl, Own.upd (e' := .ns (put m x a)) O Upd.head ⟨_, hn', ?_⟩ hs.extBut, h⟩
  intro y av hy
  by_cases hyx : y = x
  · rw [put, if_pos hyx] at hy; cases hy; exact ⟨v, by simp [hyx], r⟩
  · rw [put, if_neg hyx] at hy; simp only [if_neg hyx]; exact hm y av hy
theorem ev_cell {x : Str} {pos : Pos} {ca : Addr} {a : AV} {P : AV → Ledger → Prop} (hk : env.scope.kind = .function) (hl : env.kindOf x = some .cell) (hc : env.cells.lookup x = some ca)
    (hd : (x == ("__debug__" : Str)) = false) (hm : (ca, Ent.cell (some a)) ∈ l) (h : P a l) : EvV c l (eval (.Name x pos) env) P := fun s F O => by
  obtain ⟨v, hv, r⟩ := O.cell (List.mem_append_left _ hm)
  exact wpAny_Name (wpAny_loadName_cell hk hl hc hv (postV s.heap s.toks _ rfl O a r h)) hd
theorem ev_store_cell {x : Str} {v : Value} {ca : Addr} {a : AV} {o : Option AV} {l' : Ledger} {P : Unit → Ledger → Prop} (hk : env.scope.kind = .function) (hl : env.kindOf x = some .cell) (hc : env.cells.lookup x = some ca)
    (r : Rep v a) (u : Upd ca (.cell o) (.cell (some a)) l l') (h : P () l') : Ev c l (storeName env x v) P := fun s F O => by
  obtain ⟨w, hw, _⟩ := O.has _ (List.mem_append_left _ u.mem)
  refine wpAny_storeName_cell hk hl hc hw fun h' hc' hs => ?_
  exact (postI h' s.toks l' rfl (O.upd u.app ⟨_, hc', fun av e => by cases e; exact ⟨v, rfl, r⟩⟩ hs.extBut) h)
theorem ev_global {K : Params → Frag} {n : Nat} {x : Str} {pos : Pos} {v : Value} {a : AV} {P : AV → Ledger → Prop} (ok : Ok K c n) (hk : env.scope.kind = .function) (hl : env.kindOf x = some .globalImplicit) (hg : env.globals = mainGlobals)
    (hd : (x == ("__debug__" : Str)) = false) (e : nsIn (K c.w.params) mainGlobals x = some (some v)) (r : Rep v a) (h : P a l) : EvV c l (eval (.Name x pos) env) P := fun s F O => by
  obtain ⟨mg, G⟩ := ok.g
  have e' := mg_of ok.k G e
  exact Calls.Name_function_global hk hl (Calls.loadGlobal_global (by rw [hg]; exact G.keeps O.keep) e' (postV s.heap s.toks _ rfl O a r h)) hd
theorem ev_builtin {K : Params → Frag} {n : Nat} {x : Str} {pos : Pos} {v : Value} {P : AV → Ledger → Prop} (ok : Ok K c n) (hk : env.scope.kind = .function) (hl : env.kindOf x = some .globalImplicit) (hg : env.globals = mainGlobals) (hb : env.builtins = builtinsNs)
    (hd : (x == ("__debug__" : Str)) = false) (e : nsIn (K c.w.params) mainGlobals x = some none) (hv : bootBuiltins x = some v) (hn : x ≠ "__name__") (h : P (.val v) l) : EvV c l (eval (.Name x pos) env) P := fun s F O => by
  obtain ⟨mg, G⟩ := ok.g
  obtain ⟨mb, B, hB⟩ := ok.b
  exact Calls.Name_function_global hk hl (Calls.loadGlobal_builtin (by rw [hg]; exact G.keeps O.keep) (mg_none_of ok.k G e) (by rw [hb]; exact B.keeps O.keep) ((hB x hn).trans hv) (postV s.heap s.toks _ rfl O (.val v) (Rep.val_mk v) h)) hd
/-! constants -/
theorem ev_int {i : Int} {k : Nat} {pos : Pos} {P : AV → Ledger → Prop} (h : P (.int i) l) : EvV c l (eval (.Constant (.int i) k pos) env) P := fun s F O => wpAny_Constant_int (postV s.heap (s.toks + 1) l rfl O (.int i) (Rep.int_mk _ _) h)
theorem ev_str {x : Str} {k : Nat} {pos : Pos} {cs : List Nat} {P : AV → Ledger → Prop} (hx : x = ⟨cs.toArray⟩) (h : P (.str cs) l) : EvV c l (eval (.Constant (.str x) k pos) env) P := fun s F O => by
  subst hx
  exact wpAny_Constant_str (postV s.heap (s.toks + 1) l rfl O (.str cs) ⟨_, rfl⟩ h)
theorem ev_none {k : Nat} {pos : Pos} {P : AV → Ledger → Prop} (h : P .none l) : EvV c l (eval (.Constant .none k pos) env) P := fun s F O => wpAny_Constant_none (postV s.heap s.toks l rfl O .none Rep.none_mk h)
theorem ev_BinOp {a b : Expr} {op : Operator} {pos : Pos} {P : AV → Ledger → Prop}
    (h : EvV c l (eval a env) fun x l₁ => EvV c l₁ (eval b env) fun y l₂ => ∀ v u, Rep v x → Rep u y → EvV c l₂ (binaryOp op v u) P) : EvV c l (eval (.BinOp a op b pos) env) P := fun s F O =>
  wpAny_BinOp (Ev.runV h O fun v x h₁ tk₁ l₁ O₁ r₁ p₁ => Ev.runV p₁ O₁ fun u y h₂ tk₂ l₂ O₂ r₂ p₂ => Ev.runV (p₂ v u r₁ r₂) O₂ fun z w h₃ tk₃ l₃ O₃ r₃ p₃ => (postV h₃ tk₃ l₃ rfl O₃ w r₃ p₃))
theorem ev_UnaryOp {a : Expr} {op : UnaryOp} {pos : Pos} {P : AV → Ledger → Prop}
    (h : EvV c l (eval a env) fun x l₁ => ∀ v, Rep v x → EvV c l₁ (unaryOp op v) P) : EvV c l (eval (.UnaryOp op a pos) env) P := fun s F O =>
  wpAny_UnaryOp (Ev.runV h O fun v x h₁ tk₁ l₁ O₁ r₁ p₁ => Ev.runV (p₁ v r₁) O₁ fun z w h₃ tk₃ l₃ O₃ r₃ p₃ => (postV h₃ tk₃ l₃ rfl O₃ w r₃ p₃))
theorem ev_Compare {a b : Expr} {op : CmpOp} {pos : Pos} {P : AV → Ledger → Prop}
    (h : EvV c l (eval a env) fun x l₁ => EvV c l₁ (eval b env) fun y l₂ => ∀ v u, Rep v x → Rep u y → EvV c l₂ (compareOp op v u) P) (hm : behindInMarks op b = false := by with_unfolding_all rfl) : EvV c l (eval (.Compare a [op] [b] pos) env) P := fun s F O =>
  wpAny_Compare1 (Ev.runV h O fun v x h₁ tk₁ l₁ O₁ r₁ p₁ => Ev.runV p₁ O₁ fun u y h₂ tk₂ l₂ O₂ r₂ p₂ => Ev.runV (p₂ v u r₁ r₂) O₂ fun z w h₃ tk₃ l₃ O₃ r₃ p₃ => (postV h₃ tk₃ l₃ rfl O₃ w r₃ p₃)) hm
/-- a test by a comparison whose answer is a bool -/
theorem ev_test {a b : Expr} {op : CmpOp} {pos : Pos} {whole : Sem Value} {P : Bool → Ledger → Prop}
    (h : EvV c l (eval a env) fun x l₁ => EvV c l₁ (eval b env) fun y l₂ => ∀ v u, Rep v x → Rep u y → EvV c l₂ (compareOp op v u) fun z l₃ => ∃ q, z = .bool q ∧ P q l₃) (hm : behindInMarks op b = false := by with_unfolding_all rfl) :
    Ev c l (isTrue (.Compare a [op] [b] pos) env whole) P := fun s F O =>
  wpAny_isTrue_Compare1 (Ev.runV h O fun v x h₁ tk₁ l₁ O₁ r₁ p₁ => Ev.runV p₁ O₁ fun u y h₂ tk₂ l₂ O₂ r₂ p₂ => Ev.runV (p₂ v u r₁ r₂) O₂ fun z w h₃ tk₃ l₃ O₃ r₃ ⟨q, e, p₃⟩ => by
    subst e
    obtain ⟨_, rfl⟩ := r₃
    exact wpAny_truthy_bool (postI h₃ tk₃ l₃ rfl O₃ p₃)) hm
theorem ev_IfExp {t a b : Expr} {pos : Pos} {P : AV → Ledger → Prop} (h : Ev c l (isTrue t env (eval t env)) fun q l₁ => if q then EvV c l₁ (eval a env) P else EvV c l₁ (eval b env) P) : EvV c l (eval (.IfExp t a b pos) env) P := fun s F O =>
  wpAny_IfExp (Ev.run h O fun q h₁ tk₁ l₁ O₁ p₁ => by
    cases q
    · exact Ev.runV p₁ O₁ fun z w h₃ tk₃ l₃ O₃ r₃ p₃ => (postV h₃ tk₃ l₃ rfl O₃ w r₃ p₃)
    · exact Ev.runV p₁ O₁ fun z w h₃ tk₃ l₃ O₃ r₃ p₃ => (postV h₃ tk₃ l₃ rfl O₃ w r₃ p₃))
theorem ev_not {x : Expr} {pos : Pos} {whole : Sem Value} {P : Bool → Ledger → Prop} (h : Ev c l (isTrue x env (eval x env)) fun b l₁ => P (!b) l₁) : Ev c l (isTrue (.UnaryOp .Not x pos) env whole) P := fun s F O =>
  wpAny_isTrue_Not (Ev.run h O fun q h₁ tk₁ l₁ O₁ p₁ => (postI h₁ tk₁ l₁ rfl O₁ p₁))
theorem ev_boolop {op : BoolOp} {vs : List Expr} {pos : Pos} {whole : Sem Value} {P : Bool → Ledger → Prop} (h : Ev c l (allTrue op vs env) P) : Ev c l (isTrue (.BoolOp op vs pos) env whole) P := fun s F O => wpAny_isTrue_BoolOp (h s F O)
theorem ev_and_nil {P : Bool → Ledger → Prop} (h : P true l) : Ev c l (allTrue .And [] env) P := fun s F O => wpAny_allTrue_And_nil (postI s.heap s.toks l rfl O h)
theorem ev_or_nil {P : Bool → Ledger → Prop} (h : P false l) : Ev c l (allTrue .Or [] env) P := fun s F O => wpAny_allTrue_Or_nil (postI s.heap s.toks l rfl O h)
theorem ev_and {x : Expr} {r : List Expr} {P : Bool → Ledger → Prop} (h : Ev c l (isTrue x env (eval x env)) fun b l₁ => if b then Ev c l₁ (allTrue .And r env) P else P false l₁) : Ev c l (allTrue .And (x :: r) env) P := fun s F O =>
  wpAny_allTrue_And_cons (Ev.run h O fun q h₁ tk₁ l₁ O₁ p₁ => by
    cases q
    · exact (postI h₁ tk₁ l₁ rfl O₁ p₁)
    · exact Ev.run p₁ O₁ fun z h₃ tk₃ l₃ O₃ p₃ => (postI h₃ tk₃ l₃ rfl O₃ p₃))
theorem ev_or {x : Expr} {r : List Expr} {P : Bool → Ledger → Prop} (h : Ev c l (isTrue x env (eval x env)) fun b l₁ => if b then P true l₁ else Ev c l₁ (allTrue .Or r env) P) : Ev c l (allTrue .Or (x :: r) env) P := fun s F O =>
  wpAny_allTrue_Or_cons (Ev.run h O fun q h₁ tk₁ l₁ O₁ p₁ => by
    cases q
    · exact Ev.run p₁ O₁ fun z h₃ tk₃ l₃ O₃ p₃ => (postI h₃ tk₃ l₃ rfl O₃ p₃)
    · exact (postI h₁ tk₁ l₁ rfl O₁ p₁))
/-- a test by a value's truth -/
theorem ev_truth {e : Expr} {whole : Sem Value} {P : Bool → Ledger → Prop} (h : EvV c l whole fun a l₁ => ∀ v, Rep v a → Ev c l₁ (truthy v) P)
    (he : isTrue e env whole = (do let v ← whole; standAt e.pos; holding [v] (truthy v)) := by with_unfolding_all rfl) : Ev c l (isTrue e env whole) P := fun s F O =>
  wpAny_isTrue_value (Ev.runV h O fun v a h₁ tk₁ l₁ O₁ r p₁ => Ev.run (p₁ v r) O₁ fun z h₃ tk₃ l₃ O₃ p₃ => (postI h₃ tk₃ l₃ rfl O₃ p₃)) he
theorem ev_Or2 {x y : Expr} {pos : Pos} {P : AV → Ledger → Prop}
    (h : EvV c l (eval x env) fun a l₁ => ∀ v, Rep v a → Ev c l₁ (truthy v) fun t l₂ => if t then P a l₂ else EvV c l₂ (eval y env) P) : EvV c l (eval (.BoolOp .Or [x, y] pos) env) P := fun s F O =>
  wpAny_Or2 (Ev.runV h O fun v a h₁ tk₁ l₁ O₁ r p₁ => Ev.run (p₁ v r) O₁ fun t h₃ tk₃ l₃ O₃ p₃ => by
    cases t
    · exact Ev.runV p₃ O₃ fun z w h₄ tk₄ l₄ O₄ r₄ p₄ => (postV h₄ tk₄ l₄ rfl O₄ w r₄ p₄)
    · exact (postV h₃ tk₃ l₃ rfl O₃ a r p₃))
/-! statements -/
theorem ev_nil {P : Flow → Ledger → Prop} (h : P .next l) : Ev c l (execs [] env) P := fun s F O => wpAny_execs_nil (postI s.heap s.toks l rfl O h)
theorem ev_cons {st : Stmt} {rest : List Stmt} {P : Flow → Ledger → Prop} (h : Ev c l (exec st env) fun f l₁ => match f with | .next => Ev c l₁ (execs rest env) P | f => P f l₁) : Ev c l (execs (st :: rest) env) P := fun s F O =>
  wpAny_execs_cons (Ev.run h O fun f h₁ tk₁ l₁ O₁ p₁ => by
    cases f with
    | next => exact Ev.run p₁ O₁ fun z h₃ tk₃ l₃ O₃ p₃ => (postI h₃ tk₃ l₃ rfl O₃ p₃)
    | brk => exact (postI h₁ tk₁ l₁ rfl O₁ p₁)
    | cont => exact (postI h₁ tk₁ l₁ rfl O₁ p₁)
    | ret v => exact (postI h₁ tk₁ l₁ rfl O₁ p₁))
theorem ev_Return {e : Expr} {pos : Pos} {P : Flow → Ledger → Prop} (h : EvV c l (eval e env) fun a l₁ => ∀ v, Rep v a → P (.ret v) l₁) : Ev c l (exec (.Return (some e) pos) env) P := fun s F O =>
  wpAny_Return_some (Ev.runV h O fun v a h₁ tk₁ l₁ O₁ r p₁ => (postI h₁ tk₁ l₁ rfl O₁ (p₁ v r)))
theorem ev_If {t : Expr} {a b : List Stmt} {pos : Pos} {P : Flow → Ledger → Prop} (h : Ev c l (isTrue t env (eval t env)) fun q l₁ => if q then Ev c l₁ (execs a env) P else Ev c l₁ (execs b env) P) : Ev c l (exec (.If t a b pos) env) P := fun s F O =>
  wpAny_If (Ev.run h O fun q h₁ tk₁ l₁ O₁ p₁ => by
    cases q
    · exact Ev.run p₁ O₁ fun z h₃ tk₃ l₃ O₃ p₃ => (postI h₃ tk₃ l₃ rfl O₃ p₃)
    · exact Ev.run p₁ O₁ fun z h₃ tk₃ l₃ O₃ p₃ => (postI h₃ tk₃ l₃ rfl O₃ p₃))
theorem ev_Assign {x : Str} {p' pos : Pos} {e : Expr} {P : Flow → Ledger → Prop} (h : EvV c l (eval e env) fun a l₁ => ∀ v, Rep v a → Ev c l₁ (storeName env x v) fun _ l₂ => P .next l₂)
    (hs : swapsWith e (some (.Name x p')) pos.line env = pure false := by with_unfolding_all rfl) : Ev c l (exec (.Assign [.Name x p'] e pos) env) P := fun s F O =>
  wpAny_Assign_Name (Ev.runV h O fun v a h₁ tk₁ l₁ O₁ r p₁ => Ev.run (p₁ v r) O₁ fun z h₃ tk₃ l₃ O₃ p₃ => (postI h₃ tk₃ l₃ rfl O₃ p₃)) hs
theorem ev_AugAssign {x : Str} {p' pos : Pos} {op : Operator} {e : Expr} {P : Flow → Ledger → Prop}
    (h : EvV c l (loadName env x) fun a l₁ => EvV c l₁ (eval e env) fun b l₂ => ∀ v u, Rep v a → Rep u b → EvV c l₂ (inplaceOp op v u) fun d l₃ => ∀ z, Rep z d → Ev c l₃ (storeName env x z) fun _ l₄ => P .next l₄) :
    Ev c l (exec (.AugAssign (.Name x p') op e pos) env) P := fun s F O =>
  wpAny_AugAssign_Name (Ev.runV h O fun v a h₁ tk₁ l₁ O₁ r p₁ => Ev.runV p₁ O₁ fun u b h₂ tk₂ l₂ O₂ r₂ p₂ => Ev.runV (p₂ v u r r₂) O₂ fun z d h₃ tk₃ l₃ O₃ r₃ p₃ => Ev.run (p₃ z r₃) O₃ fun z h₃ tk₃ l₃ O₃ p₃ => (postI h₃ tk₃ l₃ rfl O₃ p₃))
/-- a while by an invariant over the ledger and a measure -/
theorem ev_While {t : Expr} {body : List Stmt} {pos : Pos} {P : Flow → Ledger → Prop} (I : Nat → Ledger → Prop)
    (turn : ∀ n l, I n l → Ev c l (isTrue t env (eval t env)) fun b l₁ => if b then Ev c l₁ (execs body env) (fun f l₂ => match f with | .next | .cont => ∃ m, m < n ∧ I m l₂ | .brk => P .next l₂ | .ret v => P (.ret v) l₂) else P .next l₁)
    (n : Nat) (h : I n l) : Ev c l (exec (.While t body [] pos) env) P := fun s F O => by
  refine wpAny_While ?_
  refine codeAny_whileLoop (fun n s' => ∃ h' tk l', s' = { s with heap := h', toks := tk } ∧ Own c.h₀ h' (l' ++ F) ∧ I n l') ?_ n (postI s.heap s.toks l rfl O h)
  rintro n s' hxx1
  refine byG fun gG kgG => ?_
  obtain ⟨h', tk, l', rfl, O', hI⟩ := hxx1
  refine kgG ?_
  clear kgG gG
  refine Ev.run (turn n l' hI) O' fun b h₁ tk₁ l₁ O₁ p₁ => ?_
  cases b with
  | false => exact wpAny_execs_nil (postI h₁ tk₁ l₁ rfl O₁ p₁)
  | true =>
    refine Ev.run p₁ O₁ fun f h₂ tk₂ l₂ O₂ p₂ => ?_
    cases f with
    | next => obtain ⟨m, hm, hI'⟩ := p₂; exact ⟨m, hm, h₂, tk₂, l₂, rfl, O₂, hI'⟩
    | cont => obtain ⟨m, hm, hI'⟩ := p₂; exact ⟨m, hm, h₂, tk₂, l₂, rfl, O₂, hI'⟩
    | brk => exact (postI h₂ tk₂ l₂ rfl O₂ p₂)
    | ret v => exact (postI h₂ tk₂ l₂ rfl O₂ p₂)
end
end Mine
end
section
open PySem PySem.W PyProof.Rows
set_option linter.unusedVariables false
namespace Mine
section
variable {α : Type} {c : Cx} {env : Env} {l : Ledger}
/-- the post as a variable: smaller terms -/
theorem Ev.gen {t : Sem α} {P : α → Ledger → Prop} (h : ∀ Q : α → Ledger → Prop, (∀ a l', P a l' → Q a l') → Ev c l t Q) : Ev c l t P := h P fun _ _ p => p
theorem EvV.gen {t : Sem Value} {P : AV → Ledger → Prop} (h : ∀ Q : AV → Ledger → Prop, (∀ a l', P a l' → Q a l') → EvV c l t Q) : EvV c l t P := h P fun _ _ p => p
theorem EvV.var {t : Sem Value} {P : AV → Ledger → Prop} (h : ∀ B, B = l → EvV c B t P) : EvV c l t P := h l rfl
theorem Ev.var {t : Sem α} {P : α → Ledger → Prop} (h : ∀ B, B = l → Ev c B t P) : Ev c l t P := h l rfl
theorem compgen {β : Type} {t : Sem β} {u : Sem Bool} {e : Sem Value} {P1 : AV → Ledger → Prop} {P2 : Ledger → Prop} (h : ∀ (Q1 : AV → Ledger → Prop) (Q2 : Ledger → Prop), (∀ b l₃, P1 b l₃ → Q1 b l₃) → (∀ l₂, P2 l₂ → Q2 l₂) → Ev c l t fun _ l₁ => Ev c l₁ u fun ok l₂ => if ok then EvV c l₂ e Q1 else Q2 l₂) :
    Ev c l t fun _ l₁ => Ev c l₁ u fun ok l₂ => if ok then EvV c l₂ e P1 else P2 l₂ := h P1 P2 (fun _ _ p => p) (fun _ p => p)
theorem Ev.ifgen {t : Sem Bool} {B : List Stmt} {P1 : Flow → Ledger → Prop} {N : Ledger → Prop} (h : ∀ (Q : Flow → Ledger → Prop) (M : Ledger → Prop), (∀ f l', P1 f l' → Q f l') → (∀ l', N l' → M l') → Ev c l t fun b l₁ => if b then Ev c l₁ (execs B env) Q else M l₁) : Ev c l t fun b l₁ => if b then Ev c l₁ (execs B env) P1 else N l₁ := h P1 N (fun _ _ p => p) (fun _ p => p)
end
end Mine
end
section
open PySem PySem.W PyProof.Rows
set_option linter.unusedVariables false
namespace Mine
section
variable {c : Cx} {env : Env} {l F : Ledger}
/-- an end that changes nothing but the tokens -/
theorem fin_still {a : AV} {v : Value} {P : AV → Ledger → Prop} {s : Shared} {tk : Nat} (O : Own c.h₀ s.heap (l ++ F)) (r : Rep v a) (h : P a l) :
    ∃ h' tk' l', ({ s with toks := tk } : Shared) = { s with heap := h', toks := tk' } ∧ Own c.h₀ h' (l' ++ F) ∧ ∃ a, Rep v a ∧ P a l' := (postV s.heap tk l rfl O a r h)
/-! ints -/
section
variable {a b : Expr} {pos : Pos} {P : AV → Ledger → Prop}
end
section
variable {x : Str} {p' pos : Pos} {b : Expr} {P : Flow → Ledger → Prop}
end
/-! comparisons as values of compareOp -/
section
variable {v u : Value} {P : AV → Ledger → Prop} {i j : Int} {x y : List Nat}
theorem fin_bool {q : Bool} {P : AV → Ledger → Prop} {s : Shared} (O : Own c.h₀ s.heap (l ++ F)) (h : P (.bool q) l) :
    ∃ h' tk' l', s = { s with heap := h', toks := tk' } ∧ Own c.h₀ h' (l' ++ F) ∧ ∃ a, Rep (.bool q) a ∧ P a l' := (postV s.heap s.toks l rfl O (.bool q) (Rep.bool_mk q) h)
theorem v_lt (r1 : Rep v (.int i)) (r2 : Rep u (.int j)) (h : P (.bool (decide (i < j))) l) : EvV c l (compareOp .Lt v u) P := by
  obtain ⟨t, rfl⟩ := r1; obtain ⟨t', rfl⟩ := r2; exact fun s F O => PySem.P.lt_int (fin_bool O h)
theorem v_gt (r1 : Rep v (.int i)) (r2 : Rep u (.int j)) (h : P (.bool (decide (i > j))) l) : EvV c l (compareOp .Gt v u) P := by
  obtain ⟨t, rfl⟩ := r1; obtain ⟨t', rfl⟩ := r2; exact fun s F O => PySem.P.gt_int (fin_bool O h)
theorem v_ge (r1 : Rep v (.int i)) (r2 : Rep u (.int j)) (h : P (.bool (decide (i ≥ j))) l) : EvV c l (compareOp .GtE v u) P := by
  obtain ⟨t, rfl⟩ := r1; obtain ⟨t', rfl⟩ := r2; exact fun s F O => PySem.P.ge_int (fin_bool O h)
theorem v_eq (r1 : Rep v (.int i)) (r2 : Rep u (.int j)) (h : P (.bool (i == j)) l) : EvV c l (compareOp .Eq v u) P := by
  obtain ⟨t, rfl⟩ := r1; obtain ⟨t', rfl⟩ := r2; exact fun s F O => PySem.P.eq_int (fin_bool O h)
theorem v_ne (r1 : Rep v (.int i)) (r2 : Rep u (.int j)) (h : P (.bool (i != j)) l) : EvV c l (compareOp .NotEq v u) P := by
  obtain ⟨t, rfl⟩ := r1; obtain ⟨t', rfl⟩ := r2; exact fun s F O => PySem.P.ne_int (fin_bool O h)
theorem v_eqs (r1 : Rep v (.str x)) (r2 : Rep u (.str y)) (h : P (.bool (x == y)) l) : EvV c l (compareOp .Eq v u) P := by
  obtain ⟨t, rfl⟩ := r1; obtain ⟨t', rfl⟩ := r2; exact fun s F O => PySem.P.eq_str (fin_bool O (by simpa using h))
theorem v_nes (r1 : Rep v (.str x)) (r2 : Rep u (.str y)) (h : P (.bool (x != y)) l) : EvV c l (compareOp .NotEq v u) P := by
  obtain ⟨t, rfl⟩ := r1; obtain ⟨t', rfl⟩ := r2; exact fun s F O => PySem.P.ne_str (fin_bool O (by simpa using h))
end
/-! tests and values by comparisons -/
section
variable {a b : Expr} {pos : Pos} {whole : Sem Value} {P : Bool → Ledger → Prop}
end
section
variable {a b : Expr} {pos : Pos} {P : AV → Ledger → Prop}
end
/-! truth -/
theorem v_truthInt {v : Value} {i : Int} {P : Bool → Ledger → Prop} (r : Rep v (.int i)) (h : P (i != 0) l) : Ev c l (truthy v) P := by
  obtain ⟨t, rfl⟩ := r; exact fun s F O => PySem.P.truthy_int ⟨s.heap, s.toks, l, rfl, O, h⟩
theorem v_truthStr {v : Value} {x : List Nat} {P : Bool → Ledger → Prop} (r : Rep v (.str x)) (hx : x.length < 2 ^ 63) (h : P (x != []) l) : Ev c l (truthy v) P := by
  obtain ⟨t, rfl⟩ := r
  intro s F O
  have hl : (Str.mk x.toArray).length = x.length := by simp [Str.length]
  refine PySem.P.truthy_str (by rw [hl]; lia) (postI s.heap (s.toks + 1 + 1) l rfl O ?_)
  have e : (((Str.mk x.toArray).length : Int) != 0) = (x != []) := by
    rw [hl]
    cases x with
    | nil => rfl
    | cons a r =>
      have h1 : (((a :: r).length : Int) != 0) = true := by simp; lia
      have h2 : ((a :: r) != []) = true := by simp
      rw [h1, h2]
  rw [e]; exact h
/-- a text's truth as a test -/
theorem t_str {e : Expr} {P : Bool → Ledger → Prop} (h : EvV c l (eval e env) fun a l₁ => ∃ x, a = .str x ∧ x.length < 2 ^ 63 ∧ P (x != []) l₁)
    (he : isTrue e env (eval e env) = (do let v ← eval e env; standAt e.pos; holding [v] (truthy v)) := by with_unfolding_all rfl) : Ev c l (isTrue e env (eval e env)) P :=
  ev_truth (h.mono fun _ _ ⟨x, e, hx, p⟩ v r => by subst e; exact v_truthStr r hx p) he
/-- a bool's truth as a test -/
theorem t_bool {e : Expr} {P : Bool → Ledger → Prop} (h : EvV c l (eval e env) fun a l₁ => ∃ q, a = .bool q ∧ P q l₁)
    (he : isTrue e env (eval e env) = (do let v ← eval e env; standAt e.pos; holding [v] (truthy v)) := by with_unfolding_all rfl) : Ev c l (isTrue e env (eval e env)) P :=
  ev_truth (h.mono fun _ _ ⟨q, e, p⟩ v r => by subst e; obtain ⟨_, rfl⟩ := r; exact fun s F O => wpAny_truthy_bool ⟨s.heap, s.toks, _, rfl, O, p⟩) he
/-- «i or None» -/
theorem e_orNone {a : Expr} {k : Nat} {pp pos : Pos} {P : AV → Ledger → Prop} (h : EvV c l (eval a env) fun x l₁ => ∃ i, x = .int i ∧ P (if i = 0 then .none else .int i) l₁) : EvV c l (eval (.BoolOp .Or [a, .Constant .none k pp] pos) env) P :=
  ev_Or2 (h.mono fun _ _ ⟨i, e, p⟩ v r => by
    subst e
    refine v_truthInt r ?_
    by_cases hi : i = 0
    · subst hi; exact ev_none (by simpa using p)
    · rw [if_neg hi] at p
      have : (i != 0) = true := by simpa using hi
      rw [this]; exact p)
end
end Mine
end
section
open PySem PySem.W PyProof.Rows
set_option linter.unusedVariables false
namespace Mine
/-! ## cuts -/
noncomputable def cutAt (v : Option Int) (d n : Nat) : Nat := match v with
  | none => d
  | some i => (max 0 (min (if i < 0 then i + n else i) (n : Int))).toNat
noncomputable def cut {α : Type} (xs : List α) (lo hi : Option Int) : List α := (xs.drop (cutAt lo 0 xs.length)).take (cutAt hi xs.length xs.length - cutAt lo 0 xs.length)
theorem imin_nat (a b : Nat) : min (a : Int) (b : Int) = ((min a b : Nat) : Int) := by
  rcases Nat.le_total a b with h | h
  · rw [Nat.min_eq_left h, Int.min_eq_left (Int.ofNat_le.mpr h)]
  · rw [Nat.min_eq_right h, Int.min_eq_right (Int.ofNat_le.mpr h)]
theorem cutAt_some_nat (a n d : Nat) : cutAt (some (a : Int)) d n = min a n := by
  unfold cutAt; simp only [show ¬ ((a : Int) < 0) by lia, if_false]; rw [imin_nat, Int.max_eq_right (Int.natCast_nonneg _), Int.toNat_natCast]
theorem cut_all {α : Type} (xs : List α) : cut xs none none = xs := by simp [cut, cutAt]
theorem cut_from {α : Type} (xs : List α) (a : Nat) : cut xs (some (a : Int)) none = xs.drop a := by
  unfold cut; rw [cutAt_some_nat]
  show (xs.drop (min a xs.length)).take (xs.length - min a xs.length) = _
  by_cases h : a ≤ xs.length
  · rw [Nat.min_eq_left h, List.take_of_length_le (by simp)]
  · rw [Nat.min_eq_right (by lia), List.drop_of_length_le (by lia), List.drop_of_length_le (by lia)]; simp
theorem cut_mid {α : Type} (xs : List α) (a b : Nat) (h : b ≤ xs.length) : cut xs (some (a : Int)) (some (b : Int)) = (xs.drop a).take (b - a) := by
  unfold cut; rw [cutAt_some_nat, cutAt_some_nat, Nat.min_eq_left h]
  by_cases h' : a ≤ xs.length
  · rw [Nat.min_eq_left h']
  · rw [Nat.min_eq_right (by lia), List.drop_of_length_le (by lia), List.drop_of_length_le (by lia)]; simp
theorem cut_neg {α : Type} (xs : List α) (k : Nat) (h : 0 < k) : cut xs none (some (-(k : Int))) = xs.take (xs.length - k) := by
  unfold cut
  have e : cutAt (some (-(k : Int))) xs.length xs.length = xs.length - k := by
    unfold cutAt; simp only [show (-(k : Int) < 0) by lia, if_true]; rw [Int.min_eq_left (by lia)]; lia
  rw [e]; simp [cutAt]
theorem cut_sublist {α : Type} (xs : List α) (lo hi : Option Int) : (cut xs lo hi).Sublist xs := (List.take_sublist _ _).trans (List.drop_sublist _ _)
theorem bounds_eq (lo hi : Option Int) (n : Nat) : sliceBounds lo hi none n = (((cutAt lo 0 n : Nat) : Int), ((cutAt hi n n : Nat) : Int), (1 : Int)) := by
  simp only [sliceBounds, Option.getD_none, show (1 : Int) > 0 by decide, if_true]
  cases lo <;> cases hi <;> simp only [cutAt] <;> (congr 1 <;> (try congr 1) <;> first | exact (Int.toNat_of_nonneg (Int.le_max_left _ _)).symm | lia)
theorem strIdx_eq (lo hi : Option Int) (n : Nat) : Builtin.Str.strSliceIndices lo hi 1 n = (List.range (cutAt hi n n - cutAt lo 0 n)).map (cutAt lo 0 n + ·) := by
  have e := bounds_eq lo hi n
  rw [← sliceRange_one]
  have e1 : Builtin.Str.strSliceIndices lo hi 1 n = sliceRange (sliceBounds lo hi none n).1 (sliceBounds lo hi none n).2.1 (sliceBounds lo hi none n).2.2 := rfl
  rw [e1, e]
theorem slicePick_eq (vs : List Value) (lo hi : Option Int) : slicePick vs.toArray lo hi none = (cut vs lo hi).toArray := by
  unfold slicePick cut
  rw [List.size_toArray, bounds_eq, sliceRange_one]
  have := pick_run vs.toArray (cutAt lo 0 vs.length) (cutAt hi vs.length vs.length - cutAt lo 0 vs.length)
  simp only at this ⊢
  rw [this]
theorem Reps.cut {vs : List Value} {as : List AV} (h : Reps vs as) (lo hi : Option Int) : Reps (cut vs lo hi) (cut as lo hi) := by
  unfold Mine.cut; rw [h.length]; exact (h.drop _).take _
/-- what a slice's part is -/
inductive PartIs : AV → Option Int → Prop where
  | none : PartIs .none none
  | int (i : Int) : PartIs (.int i) (some i)
section
variable {c : Cx} {env : Env} {l F : Ledger}
theorem ev_part_none {P : AV → Ledger → Prop} (h : P .none l) : EvV c l (evalPart none env) P := fun s F O => wpAny_pure (postV s.heap s.toks l rfl O .none Rep.none_mk h)
theorem ev_part_some {e : Expr} {P : AV → Ledger → Prop} (h : EvV c l (eval e env) P) : EvV c l (evalPart (some e) env) P := h
theorem sliceMade_post {cs : List Nat} {t : Tok} {lo hi : Option (Int × Tok)} {Q : Value → Shared → Prop} {s : Shared} (hz : cs.length ≤ sizeLine) (h : ∀ t' k, Q (.str ⟨(cut cs (lo.map (·.1)) (hi.map (·.1))).toArray⟩ t') { s with toks := k }) :
    (sliceMade ⟨cs.toArray⟩ t lo hi none).post Q s := by
  have hl : (Str.mk cs.toArray).length = cs.length := by simp [Str.length]
  have e : (slicePicked ⟨cs.toArray⟩ lo hi none) = (List.range (cutAt (hi.map (·.1)) cs.length cs.length - cutAt (lo.map (·.1)) 0 cs.length)).map (cutAt (lo.map (·.1)) 0 cs.length + ·) := by
    unfold slicePicked; rw [hl]; exact strIdx_eq _ _ _
  have e2 : (slicePicked ⟨cs.toArray⟩ lo hi none).filterMap ((Str.mk cs.toArray).cps[·]?) = cut cs (lo.map (·.1)) (hi.map (·.1)) := by
    rw [e]
    have := pick_run cs.toArray (cutAt (lo.map (·.1)) 0 cs.length) (cutAt (hi.map (·.1)) cs.length cs.length - cutAt (lo.map (·.1)) 0 cs.length)
    rw [this]
    rfl
  have hsub := cut_sublist cs (lo.map (·.1)) (hi.map (·.1))
  unfold sliceMade
  split
  · rename_i hcond
    have hcond' := (Bool.and_eq_true_iff.mp hcond).2
    rw [e, hl] at hcond'
    have hlen : cutAt (hi.map (·.1)) cs.length cs.length - cutAt (lo.map (·.1)) 0 cs.length = cs.length := by simpa using hcond'
    have hfull : cut cs (lo.map (·.1)) (hi.map (·.1)) = cs := by
      refine hsub.eq_of_length ?_
      have hle : cutAt (hi.map (·.1)) cs.length cs.length ≤ cs.length := by
        cases hi with
        | none => exact Nat.le_refl _
        | some p => simp only [Option.map, cutAt]; first | exact Int.toNat_le.mpr (Int.max_le.mpr ⟨Int.natCast_nonneg _, Int.min_le_right _ _⟩) | lia
      unfold cut; rw [List.length_take, List.length_drop]; first | exact Nat.min_eq_left (Nat.sub_le_sub_right (by assumption) _) | lia
    have := h t s.toks
    rw [hfull] at this
    exact this
  · rw [e2]
    exact ⟨by simp only [Str.length, List.size_toArray]; exact Nat.le_trans hsub.length_le hz, h _ _⟩
/-- a slice of a text -/
theorem e_strSlice {value : Expr} {lower upper : Option Expr} {p pos : Pos} {P : AV → Ledger → Prop}
    (h : EvV c l (eval value env) fun o l₁ => EvV c l₁ (evalPart lower env) fun x l₂ => EvV c l₂ (evalPart upper env) fun y l₃ => ∃ cs lo hi, o = .str cs ∧ PartIs x lo ∧ PartIs y hi ∧ cs.length ≤ sizeLine ∧ P (.str (cut cs lo hi)) l₃)
    (ht : ∀ o r, letTemporaryGo value o r = pure () := by intro _ _; with_unfolding_all rfl) : EvV c l (eval (.Subscript value (.Slice lower upper none p) pos) env) P := fun s F O =>
  wpAny_Subscript_str_slice (Ev.runV h O fun v x h₁ tk₁ l₁ O₁ r₁ p₁ => Ev.runV p₁ O₁ fun vl x₂ h₂ tk₂ l₂ O₂ r₂ p₂ => Ev.runV p₂ O₂ fun vu x₃ h₃ tk₃ l₃ O₃ r₃ ⟨cs, lo, hi, e, q₁, q₂, hz, p₃⟩ => by
    subst e
    obtain ⟨t, rfl⟩ := r₁
    have mkP : ∀ {a : AV} {v : Value} {o : Option Int}, Rep v a → PartIs a o → ∃ k : Option (Int × Tok), v = partValue k ∧ k.map (·.1) = o := by
      intro a v o r q
      cases q with
      | none => obtain ⟨_, rfl⟩ := r; exact ⟨none, rfl, rfl⟩
      | int i => obtain ⟨t, rfl⟩ := r; exact ⟨some (i, t), rfl, rfl⟩
    obtain ⟨k1, rfl, e1⟩ := mkP r₂ q₁
    obtain ⟨k2, rfl, e2⟩ := mkP r₃ q₂
    refine ⟨_, t, k1, k2, rfl, rfl, rfl, sliceMade_post hz fun t' k => ?_⟩
    rw [e1, e2]
    exact ⟨_, k, l₃, rfl, O₃.grow fun b o e => Heap.get?_push_of_some _ e, _, ⟨t', rfl⟩, p₃⟩) ht
/-- a slice of a list: a new list -/
theorem e_listSlice {value : Expr} {lower upper : Option Expr} {p pos : Pos} {P : AV → Ledger → Prop}
    (h : EvV c l (eval value env) fun o l₁ => EvV c l₁ (evalPart lower env) fun x l₂ => EvV c l₂ (evalPart upper env) fun y l₃ => ∃ a xs lo hi, o = .ref a ∧ (a, Ent.list xs) ∈ l₃ ∧ PartIs x lo ∧ PartIs y hi ∧ xs.length ≤ sizeLine ∧
      ∀ n, P (.ref n) ((n, .list (cut xs lo hi)) :: l₃))
    (ht : ∀ o r, letTemporaryGo value o r = pure () := by intro _ _; with_unfolding_all rfl) : EvV c l (eval (.Subscript value (.Slice lower upper none p) pos) env) P := fun s F O =>
  wpAny_Subscript_list_slice (Ev.runV h O fun v x h₁ tk₁ l₁ O₁ r₁ p₁ => Ev.runV p₁ O₁ fun vl x₂ h₂ tk₂ l₂ O₂ r₂ p₂ => Ev.runV p₂ O₂ fun vu x₃ h₃ tk₃ l₃ O₃ r₃ ⟨a, xs, lo, hi, e, hm, q₁, q₂, hz, p₃⟩ => by
    subst e
    obtain ⟨_, rfl⟩ := r₁
    have mkP : ∀ {a : AV} {v : Value} {o : Option Int}, Rep v a → PartIs a o → IsPart v o := by
      intro a v o r q
      cases q with
      | none => obtain ⟨_, rfl⟩ := r; exact .none
      | int i => obtain ⟨t, rfl⟩ := r; exact .int i t
    obtain ⟨vs, hl, hr⟩ := O₃.isList (List.mem_append_left _ hm)
    refine ⟨a, vs.toArray, lo, hi, rfl, hl, by rw [List.size_toArray, hr.length]; exact hz, mkP r₂ q₁, mkP r₃ q₂, ?_⟩
    refine ⟨_, _, _, rfl, ?_, _, Rep.ref_mk _, p₃ _⟩
    refine Own.new (O₃.grow (h' := h₃.push _) fun b o e => Heap.get?_push_of_some _ e) (fun b o e => Heap.get?_push_of_some _ e) (by rw [Heap.size_push]; exact Nat.le_refl _) ?_
    refine ⟨cut vs lo hi, 0, ?_, hr.cut lo hi⟩
    have := Heap.get?_push_size (h₃.push { cls := .type "slice", data := .fields #[vl, vu, .none] }) (o := { cls := .type "list", data := .seq (cut vs lo hi).toArray }) rfl
    rw [Heap.size_push] at this
    rw [slicePick_eq]
    exact this) ht
/-! ## items -/
theorem ev_Sub {value slice : Expr} {pos : Pos} {P : AV → Ledger → Prop}
    (h : EvV c l (eval value env) fun o l₁ => EvV c l₁ (eval slice env) fun i l₂ => ∀ v u, Rep v o → Rep u i → EvV c l₂ (subscriptTail value slice v u) P) : EvV c l (eval (.Subscript value slice pos) env) P := fun s F O =>
  Subscript_ (Ev.runV h O fun v x h₁ tk₁ l₁ O₁ r₁ p₁ => Ev.runV p₁ O₁ fun u y h₂ tk₂ l₂ O₂ r₂ p₂ => Ev.runV (p₂ v u r₁ r₂) O₂ fun z w h₃ tk₃ l₃ O₃ r₃ p₃ => (postV h₃ tk₃ l₃ rfl O₃ w r₃ p₃))
theorem Own.isTup {h₀ h : Heap} {a : Addr} {xs : List AV} (O : Own h₀ h l) (hm : (a, Ent.tup xs) ∈ l) : ∃ vs n, IsT h a vs.toArray n ∧ Reps vs xs :=
  let ⟨vs, n, hg, r⟩ := O.has _ hm
  ⟨vs, n, hg, r⟩
theorem ev_AssignItem {o i e : Expr} {p' pos : Pos} {P : Flow → Ledger → Prop}
    (h : EvV c l (eval e env) fun x l₁ => EvV c l₁ (eval o env) fun b l₂ => EvV c l₂ (eval i env) fun k l₃ => ∃ a xs j l₄, b = .ref a ∧ k = .int j ∧ 0 ≤ j ∧ j < xs.length ∧ j < 2 ^ 63 ∧ Mine.Upd a (.list xs) (.list (xs.set j.toNat x)) l₃ l₄ ∧ P .next l₄)
    (hs : swapsWith e (some (.Subscript o i p')) pos.line env = pure false := by with_unfolding_all rfl) : Ev c l (exec (.Assign [.Subscript o i p'] e pos) env) P := fun s F O =>
  wpAny_Assign_Subscript (Ev.runV h O fun v x h₁ tk₁ l₁ O₁ r₁ p₁ => Ev.runV p₁ O₁ fun b y h₂ tk₂ l₂ O₂ r₂ p₂ => Ev.runV p₂ O₂ fun k z h₃ tk₃ l₃ O₃ r₃ ⟨a, xs, j, l₄, e1, e2, h0, hn, hf, u, p⟩ => by
    subst e1 e2
    obtain ⟨_, rfl⟩ := r₂
    obtain ⟨t, rfl⟩ := r₃
    refine byG fun gG kgG => ?_
    obtain ⟨vs, n, hg, hr⟩ := O₃.has _ (List.mem_append_left _ u.mem)
    refine kgG ?_
    clear kgG gG
    have hsz : vs.toArray.size = xs.length := by rw [List.size_toArray, hr.length]
    refine ki_setAt (n := n) hg h0 hf (by rw [hsz]; exact hn) ⟨_, _, l₄, rfl, O₃.upd u.app ⟨vs.set j.toNat v, n, ?_, hr.set r₁ _⟩ (Heap.SameBut.update ..).extBut, p⟩
    have := IsL.update hg (fun its => its.setIfInBounds j.toNat v)
    simp only [Array.size_setIfInBounds, beq_self_eq_true, if_true] at this
    have e : vs.toArray.setIfInBounds j.toNat v = (vs.set j.toNat v).toArray := by apply Array.toList_inj.mp; simp
    rw [e] at this
    exact this) hs
/-! ## displays -/
theorem Own.newList {h₀ h : Heap} {vs : List Value} {as : List AV} (O : Own h₀ h l) (hr : Reps vs as) : Own h₀ (h.push { cls := .type "list", data := .seq vs.toArray }) ((h.objs.size, .list as) :: l) :=
  Own.new (e := .list as) O (fun b o e => Heap.get?_push_of_some _ e) (Nat.le_refl _) ⟨vs, 0, Heap.get?_push_size _ rfl, hr⟩
theorem Own.newTup {h₀ h : Heap} {vs : List Value} {as : List AV} (O : Own h₀ h l) (hr : Reps vs as) : Own h₀ (h.push { cls := .type "tuple", data := .seq vs.toArray }) ((h.objs.size, .tup as) :: l) :=
  Own.new (e := .tup as) O (fun b o e => Heap.get?_push_of_some _ e) (Nat.le_refl _) ⟨vs, 0, Heap.get?_push_size _ rfl, hr⟩
theorem ev_items_nil {pos : Pos} {P : List Value → Ledger → Prop} (h : P [] l) : Ev c l (spliced (backTo pos (starEach [] env))) P := fun s F O => wpAny_items_nil (postI s.heap s.toks l rfl O h)
theorem ev_items_cons {pos : Pos} {e : Expr} {rest : List Expr} {P : List Value → Ledger → Prop}
    (h : EvV c l (eval e env) fun a l₁ => ∀ v, Rep v a → Ev c l₁ (spliced (backTo pos (starEach rest env))) fun vs l₂ => P (v :: vs) l₂)
    (he : starEach (e :: rest) env = (false, eval e env) :: starEach rest env := by with_unfolding_all rfl) : Ev c l (spliced (backTo pos (starEach (e :: rest) env))) P := fun s F O =>
  wpAny_items_cons (Ev.runV h O fun v x h₁ tk₁ l₁ O₁ r₁ p₁ => Ev.run (p₁ v r₁) O₁ fun vs h₃ tk₃ l₃ O₃ p₃ => (postI h₃ tk₃ l₃ rfl O₃ p₃)) he
theorem e_List {elts : List Expr} {pos : Pos} {P : AV → Ledger → Prop} (h : Ev c l (spliced (backTo pos (starEach elts env))) fun vs l₁ => ∃ as, Reps vs as ∧ vs.length ≤ sizeLine ∧ ∀ n, P (.ref n) ((n, .list as) :: l₁)) : EvV c l (eval (.List elts pos) env) P := fun s F O =>
  wpAny_List (Ev.run h O fun vs h₁ tk₁ l₁ O₁ ⟨as, hr, hz, p⟩ => ⟨hz, _, _, _ :: l₁, rfl, Own.newList O₁ hr, _, Rep.ref_mk _, p _⟩)
theorem e_Tuple {elts : List Expr} {k : Nat} {pos : Pos} {P : AV → Ledger → Prop} (h : Ev c l (spliced (backTo pos (starEach elts env))) fun vs l₁ => ∃ as, Reps vs as ∧ vs.length ≤ sizeLine ∧ ∀ n, P (.ref n) ((n, .tup as) :: l₁)) : EvV c l (eval (.Tuple elts k pos) env) P := fun s F O =>
  wpAny_Tuple (Ev.run h O fun vs h₁ tk₁ l₁ O₁ ⟨as, hr, hz, p⟩ => ⟨hz, _, _, _ :: l₁, rfl, Own.newTup O₁ hr, _, Rep.ref_mk _, p _⟩)
/-- texts one behind the other -/
theorem e_catStr {a b : Expr} {pos : Pos} {P : AV → Ledger → Prop} (h : EvV c l (eval a env) fun x l₁ => EvV c l₁ (eval b env) fun y l₂ => ∃ i j, x = .str i ∧ y = .str j ∧ i.length + j.length ≤ sizeLine ∧ P (.str (i ++ j)) l₂) : EvV c l (eval (.BinOp a .Add b pos) env) P :=
  ev_BinOp (h.mono fun _ _ h₁ => h₁.mono fun _ _ ⟨i, j, e1, e2, hz, p⟩ v u r1 r2 => by
    subst e1 e2; obtain ⟨t, rfl⟩ := r1; obtain ⟨t', rfl⟩ := r2
    intro s F O
    refine PySem.P.add_str ?_
    have hl : ∀ x : List Nat, (Str.mk x.toArray).length = x.length := fun x => by simp [Str.length]
    rw [hl, hl]
    split
    · rename_i h0
      have : i = [] := by simpa using h0
      subst this
      exact (postV s.heap s.toks _ rfl O (.str j) ⟨t', rfl⟩ (by simpa using p))
    · split
      · rename_i h0
        have : j = [] := by simpa using h0
        subst this
        exact (postV s.heap s.toks _ rfl O (.str i) ⟨t, rfl⟩ (by simpa using p))
      · have e : (Str.mk i.toArray ++ Str.mk j.toArray) = Str.mk (i ++ j).toArray := by apply Str.ext'; rw [Str.cps_append]; simp
        rw [e]
        exact ⟨by rw [hl, List.length_append]; exact hz, s.heap, s.toks + 1, _, rfl, O, .str (i ++ j), ⟨_, rfl⟩, p⟩)
end
end Mine
end
section
open PySem PySem.W PyProof.Rows
set_option linter.unusedVariables false
namespace Mine
section
variable {c : Cx} {env : Env} {l F : Ledger}
/-- an object that stands, of the top or made by the call -/
noncomputable def ObjAt (c : Cx) (l : Ledger) (a : Addr) (o : Obj) : Prop := ∀ h F, Own c.h₀ h (l ++ F) → h.get? a = some o
theorem ObjAt.base {a : Addr} {o : Obj} (h : c.h₀.get? a = some o) : ObjAt c l a o := fun _ _ O => O.keep _ _ h
theorem ObjAt.made {a : Addr} {o : Obj} (hm : (a, Ent.obj (· = o)) ∈ l) : ObjAt c l a o := fun h F O => by
  obtain ⟨o', ho, rfl⟩ := O.has _ (List.mem_append_left F hm)
  exact ho
/-! ## calls by name -/
theorem e_callF {x : Str} {np pos : Pos} {e : Expr} {rest : List Expr} {P : AV → Ledger → Prop}
    (h : EvV c l (eval (.Name x np) env) fun f l₁ => ∃ a o fd, f = .ref a ∧ o.data = .func fd ∧ Ev c l₁ (spliced (backTo pos (starEach (e :: rest) env))) fun vs l₂ => ObjAt c l₂ a o ∧ EvV c l₂ (call (.ref a) vs) P)
    (he : starEach (e :: rest) env = (false, eval e env) :: starEach rest env := by with_unfolding_all rfl) : EvV c l (eval (.Call (.Name x np) (e :: rest) [] pos) env) P := fun s F O =>
  wpAny_Call_ofName (Ev.runV h O fun v x h₁ tk₁ l₁ O₁ r₁ ⟨a, o, fd, e', hd, p⟩ => by
    subst e'
    obtain ⟨_, rfl⟩ := r₁
    rw [he] at p ⊢
    refine callWith_function_kw (o := o) (fd := fd) (Calls.evalArgs_plain (Ev.run p O₁ fun vs h₂ tk₂ l₂ O₂ ⟨hf, p₂⟩ => ⟨⟨hf _ _ O₂, hd⟩, ?_⟩))
    exact Ev.runV p₂ O₂ fun z w h₃ tk₃ l₃ O₃ r₃ p₃ => (postV h₃ tk₃ l₃ rfl O₃ w r₃ p₃))
theorem e_callF0 {x : Str} {np pos : Pos} {P : AV → Ledger → Prop}
    (h : EvV c l (eval (.Name x np) env) fun f l₁ => ∃ a o fd, f = .ref a ∧ o.data = .func fd ∧ ObjAt c l₁ a o ∧ EvV c l₁ (call (.ref a) []) P) : EvV c l (eval (.Call (.Name x np) [] [] pos) env) P := fun s F O =>
  wpAny_Call_ofName (Ev.runV h O fun v x h₁ tk₁ l₁ O₁ r₁ ⟨a, o, fd, e', hd, hf, p₂⟩ => by
    subst e'
    obtain ⟨_, rfl⟩ := r₁
    refine callWith_function_kw (o := o) (fd := fd) (PySem.evalArgs_none ⟨⟨hf _ _ O₁, hd⟩, ?_⟩)
    exact Ev.runV p₂ O₁ fun z w h₃ tk₃ l₃ O₃ r₃ p₃ => (postV h₃ tk₃ l₃ rfl O₃ w r₃ p₃))
/-- one keyword behind -/
theorem e_callFkw {x k : Str} {np pos kp : Pos} {e ke : Expr} {rest : List Expr} {P : AV → Ledger → Prop}
    (h : EvV c l (eval (.Name x np) env) fun f l₁ => ∃ a o fd, f = .ref a ∧ o.data = .func fd ∧ Ev c l₁ (spliced (backTo pos (starEach (e :: rest) env))) fun vs l₂ => EvV c l₂ (eval ke env) fun kv l₃ => ∀ u, Rep u kv → ObjAt c l₃ a o ∧ EvV c l₃ (call (.ref a) vs [(k, u)]) P)
    (he : starEach (e :: rest) env = (false, eval e env) :: starEach rest env := by with_unfolding_all rfl) : EvV c l (eval (.Call (.Name x np) (e :: rest) [⟨some k, ke, kp⟩] pos) env) P := fun s F O =>
  wpAny_Call_ofName (Ev.runV h O fun v x h₁ tk₁ l₁ O₁ r₁ ⟨a, o, fd, e', hd, p⟩ => by
    subst e'
    obtain ⟨_, rfl⟩ := r₁
    rw [he] at p ⊢
    refine callWith_function_kw (o := o) (fd := fd) (evalArgs_kw rfl (Ev.run p O₁ fun vs h₂ tk₂ l₂ O₂ p₂ => ?_))
    refine wpAny_evalAll_cons ?_
    show wpAny c.M c.A (do let v ← eval ke env; standAt pos; pure v) _ _ _
    refine wpAny_bind (Ev.runV p₂ O₂ fun u kv h₃ tk₃ l₃ O₃ r₃ p₃ => ?_)
    refine wpAny_bind (wpAny_standAt (wpAny_pure (wpAny_evalAll_nil ?_)))
    obtain ⟨hf, p₄⟩ := p₃ u r₃
    refine ⟨⟨hf _ _ O₃, hd⟩, ?_⟩
    exact Ev.runV p₄ O₃ fun z w h₃ tk₃ l₃ O₃ r₃ p₃ => (postV h₃ tk₃ l₃ rfl O₃ w r₃ p₃))
/-- a built-in function or type, by name -/
theorem e_callB {x : Str} {np pos : Pos} {e : Expr} {rest : List Expr} {P : AV → Ledger → Prop}
    (h : EvV c l (eval (.Name x np) env) fun f l₁ => ∃ v, f = .val v ∧ keeperOf v = pure .machine ∧ Ev c l₁ (spliced (backTo pos (starEach (e :: rest) env))) fun vs l₂ => EvV c l₂ (call v vs) P)
    (he : starEach (e :: rest) env = (false, eval e env) :: starEach rest env := by with_unfolding_all rfl) (hplain : (backTo pos (starEach rest env)).any (·.1) = false := by with_unfolding_all rfl) : EvV c l (eval (.Call (.Name x np) (e :: rest) [] pos) env) P := fun s F O =>
  wpAny_Call_ofName (Ev.runV h O fun v x h₁ tk₁ l₁ O₁ r₁ ⟨a, e', hk, p⟩ => by
    subst e'
    obtain ⟨_, rfl⟩ := r₁
    rw [he] at p ⊢
    refine callWith_of (P := fun _ => True) (by show ((false || (backTo pos (starEach rest env)).any (·.1)) || false) = false; rw [hplain]; rfl) (fun h _ => ⟨.machine, .inr (.inl rfl), ?_⟩) (Calls.evalArgs_plain (Ev.run p O₁ fun vs h₂ tk₂ l₂ O₂ p₂ => ⟨trivial, ?_⟩))
    · exact Looks.of_pure hk
    · exact Ev.runV p₂ O₂ fun z w h₃ tk₃ l₃ O₃ r₃ p₃ => (postV h₃ tk₃ l₃ rfl O₃ w r₃ p₃))
/-! ## the call of a def -/
theorem ev_def {K : Params → Frag} {n : Nat} {a : Addr} {o : Obj} {fd : FuncData} {body : List Stmt} {vs : List Value} {kw : List (Str × Value)} {binds : List (Str × Value)} {m : Str → Option AV} {P : AV → Ledger → Prop}
    (ok : Ok K c (n + 1)) (ho : c.h₀.get? a = some o) (hdata : o.data = .func fd) (hcd : c.h₀.CodeRec fd.code fd.qualname) (hbody : fd.body = .stmts body)
    (hbind : ∀ s : Shared, (∀ b o, c.h₀.get? b = some o → s.heap.get? b = some o) → BindsTo s fd ⟨vs, kw⟩ binds) (hcell : ∀ x ∈ fd.scope.names, x.2 ≠ .cell) (hloc : ∀ x ∈ binds, fd.scope.names.lookup x.1 = some .local)
    (hm : ∀ x av, m x = some av → ∃ v, binds.reverse.lookup x = some v ∧ Rep v av)
    (h : ∀ L, Ev (c.deeper (callEnv fd L a)) ((L, .ns m) :: l) (execs body (callEnv fd L a)) fun f l' => ∃ av l'', Rep (match f with | .ret v => v | _ => .none) av ∧ l''.Sublist l' ∧ P av l'')
    (hco : fd.scope.isCoroutine = false := by with_unfolding_all rfl) (hgen : fd.scope.isGenerator = false := by with_unfolding_all rfl) (hk : fd.scope.kind = .function := by with_unfolding_all rfl) : EvV c l (call (.ref a) vs kw) P := fun s F O => by
  refine wpAny_call (codeAny_call_def (hroom := ok.room) (O.keep _ _ ho) hdata (ok.lim.keeps O.keep) (hcd.keeps O.keep) hbody (hbind s O.keep) hcell hloc (fun h₁ hns hk₁ => ?_) hco hgen hk)
  have O₁ : Own c.h₀ h₁ (((s.heap.objs.size, Ent.ns m) :: l) ++ F) := Own.new O hk₁ (Nat.le_refl _) ⟨_, hns, hm⟩
  refine Ev.run (c := c.deeper _) (h s.heap.objs.size) O₁ fun f h₂ tk₂ l₂ O₂ ⟨av, l'', r, sub, p⟩ => ?_
  exact (postV h₂ tk₂ l'' rfl (Own.sub O₂ (sub.append_right F)) av r p)
/-! ## built-ins -/
theorem v_lenList {a : Addr} {xs : List AV} {v : Value} {P : AV → Ledger → Prop} (r : Rep v (.ref a)) (hm : (a, Ent.list xs) ∈ l) (hz : xs.length < 2 ^ 63) (h : P (.int xs.length) l) : EvV c l (call (.builtin "len") [v]) P := fun s F O => by
  obtain ⟨_, rfl⟩ := r
  obtain ⟨vs, hl, hr⟩ := O.isList (List.mem_append_left _ hm)
  have hsz : vs.toArray.size = xs.length := by rw [List.size_toArray, hr.length]
  refine Calls.call_len_list hl (by rw [hsz]; lia) ?_
  rw [hsz]
  exact (postV s.heap (s.toks + 1 + 1) l rfl O _ (Rep.int_mk _ _) h)
theorem v_lenStr {x : List Nat} {v : Value} {P : AV → Ledger → Prop} (r : Rep v (.str x)) (hz : x.length < 2 ^ 63) (h : P (.int x.length) l) : EvV c l (call (.builtin "len") [v]) P := fun s F O => by
  obtain ⟨t, rfl⟩ := r
  have hl : (Str.mk x.toArray).length = x.length := by simp [Str.length]
  refine PySem.P.len_str (by rw [hl]; lia) ?_
  rw [hl]
  exact (postV s.heap (s.toks + 1 + 1) l rfl O _ (Rep.int_mk _ _) h)
theorem v_min2 {K : Params → Frag} {n : Nat} {i j : Int} {v u : Value} {P : AV → Ledger → Prop} (ok : Ok K c n) (r : Rep v (.int i)) (r' : Rep u (.int j)) (h : P (.int (min i j)) l) : EvV c l (call (.builtin "min") [v, u]) P := fun s F O => by
  obtain ⟨t, rfl⟩ := r
  obtain ⟨t', rfl⟩ := r'
  refine min_two_ints ok.hh fun h' tk hk => ?_
  have e : (if j < i then Value.int j t' else .int i t) = .int (min i j) (if j < i then t' else t) := by
    by_cases hji : j < i
    · simp only [hji, if_true]; congr 1; lia
    · simp only [hji, if_false]; congr 1; lia
  rw [e]
  exact (postV h' tk l rfl (O.grow hk) _ (Rep.int_mk _ _) h)
theorem m3i {i j k : Int} (h : i ≤ j) (h' : i ≤ k) : min (min i j) k = i := by rw [Int.min_eq_left h, Int.min_eq_left h']
theorem m3j {i j k : Int} (h : j ≤ i) (h' : j ≤ k) : min (min i j) k = j := by rw [Int.min_eq_right h, Int.min_eq_left h']
theorem m3k {i j k : Int} (h : k ≤ min i j) : min (min i j) k = k := Int.min_eq_right h
theorem v_min3 {K : Params → Frag} {n : Nat} {i j k : Int} {v u z : Value} {P : AV → Ledger → Prop} (ok : Ok K c n) (r : Rep v (.int i)) (r' : Rep u (.int j)) (r'' : Rep z (.int k)) (h : P (.int (min (min i j) k)) l) : EvV c l (call (.builtin "min") [v, u, z]) P := fun s F O => by
  obtain ⟨t, rfl⟩ := r
  obtain ⟨t', rfl⟩ := r'
  obtain ⟨t'', rfl⟩ := r''
  refine min_three_ints ok.hh fun h' tk hk => ?_
  have key : ∀ q : Tok, ∃ h₂ tk₂ l₂, ({ s with heap := h', toks := tk } : Shared) = { s with heap := h₂, toks := tk₂ } ∧ Own c.h₀ h₂ (l₂ ++ F) ∧ ∃ a, Rep (.int (min (min i j) k) q) a ∧ P a l₂ := fun q => (postV h' tk l rfl (O.grow hk) _ (Rep.int_mk _ _) h)
  by_cases h1 : j < i <;> by_cases h2 : k < j <;> by_cases h3 : k < i <;> simp only [h1, h2, h3, if_true, if_false] <;>
    (first
      | (rw [m3i (Int.not_lt.mp h1) (Int.not_lt.mp h3)] at key; exact key _)
      | (rw [m3j (Int.le_of_lt h1) (Int.not_lt.mp h2)] at key; exact key _)
      | (rw [m3k (Int.le_min.mpr ⟨Int.le_of_lt (Int.lt_trans h2 h1), Int.le_of_lt h2⟩)] at key; exact key _)
      | (rw [m3k (Int.le_min.mpr ⟨Int.le_of_lt h3, Int.le_trans (Int.le_of_lt h3) (Int.not_lt.mp h1)⟩)] at key; exact key _))
end
end Mine
end
section
open PySem PySem.W PyProof.Rows
set_option linter.unusedVariables false
set_option maxRecDepth 100000
namespace Mine
theorem Own.drop {h₀ h h' : Heap} {a : Addr} {e : Ent} {l : Ledger} (O : Own h₀ h ((a, e) :: l)) (k : Heap.ExtBut a h h') : Own h₀ h' l := by
  have ha := O.fresh _ (.head _)
  have nd := O.nd
  rw [List.map_cons, List.nodup_cons] at nd
  refine ⟨fun p hp => (O.has p (.tail _ hp)).of fun o q => k _ o (fun e => nd.1 (List.mem_map.mpr ⟨p, hp, e⟩)) q, nd.2, fun b o q => k b o (fun hb => ?_) (O.keep b o q), fun p hp => O.fresh p (.tail _ hp)⟩
  subst hb; simp only at ha; rw [ha] at q; cases q
/-- an iterator that stands at e i walks the items -/
structure It (c : Cx) (I : Addr) (items : List AV) (e : Nat → Ent) (need : Ledger) : Prop where
  next : ∀ i a l, items[i]? = some a → (∀ p ∈ need, p ∈ l) → Ev c ((I, e i) :: l) (pyNext (.ref I)) fun r l' => l' = (I, e (i + 1)) :: l ∧ ∃ v, r = some v ∧ Rep v a
  done : ∀ l, (∀ p ∈ need, p ∈ l) → Ev c ((I, e items.length) :: l) (pyNext (.ref I)) fun r l' => r = none ∧ l' = l
  self : ∀ i l, (∀ p ∈ need, p ∈ l) → Ev c ((I, e i) :: l) (pyIter (.ref I)) fun v l' => v = .ref I ∧ l' = (I, e i) :: l
noncomputable def listIter (ax : Addr) (i : Nat) : Ent := .obj fun o => o.cls = .type "list_iterator" ∧ o.data = .fields #[.ref ax, .int i 0]
theorem It.list {c : Cx} (hh : c.A.handled = none) (I ax : Addr) (xs : List AV) : It c I xs (listIter ax) [(ax, .list xs)] where
  next := fun i a l hx hn s F O => by
    obtain ⟨vs, hl, hr⟩ := O.isList (a := ax) (xs := xs) (List.mem_append_left _ (.tail _ (hn _ (.head _))))
    obtain ⟨v, hv, r⟩ := hr.get hx
    have hit : s.heap.IsListIter I ax i := O.has (I, listIter ax i) (.head _)
    exact wpAny_pyNext_list_item hit hl (by simpa using hv) fun h' hit' hs' => ⟨h', s.toks, _, rfl, Own.upd (e' := listIter ax (i + 1)) (l' := (I, listIter ax (i + 1)) :: (l ++ F)) O Mine.Upd.head hit' hs'.extBut, rfl, v, rfl, r⟩
  done := fun l hn s F O => by
    obtain ⟨vs, hl, hr⟩ := O.isList (a := ax) (xs := xs) (List.mem_append_left _ (.tail _ (hn _ (.head _))))
    have hit : s.heap.IsListIter I ax xs.length := O.has (I, listIter ax _) (.head _)
    exact wpAny_pyNext_list_end hh hit hl (by simp [hr.length]) fun h' he => ⟨h', s.toks, l, rfl, Own.drop O he, rfl, rfl⟩
  self := fun i l hn s F O => by
    have hit : s.heap.IsListIter I ax i := O.has (I, listIter ax i) (.head _)
    exact wpAny_pyIter_listiter hit ⟨s.heap, s.toks, _, rfl, O, rfl, rfl⟩
noncomputable def rangeIter (x left step : Int) : Ent := .obj (· = { cls := .type "range_iterator", dict := none, data := .fields #[rawInt x, rawInt left, rawInt step], slots := #[] })
noncomputable def rangeItems (a st : Int) (n : Nat) : List AV := (List.range n).map fun i => AV.int (a + (i : Nat) * st)
theorem rangeItems_get {a st : Int} {n i : Nat} {x : AV} (h : (rangeItems a st n)[i]? = some x) : i < n ∧ x = .int (a + (i : Nat) * st) := by
  unfold rangeItems at h
  rw [List.getElem?_map] at h
  by_cases hi : i < n
  · rw [List.getElem?_range hi] at h; simp at h; exact ⟨hi, h.symm⟩
  · rw [List.getElem?_eq_none (by simpa using hi)] at h; simp at h
theorem It.range {c : Cx} (hh : c.A.handled = none) (I : Addr) (a st : Int) (n : Nat) : It c I (rangeItems a st n) (fun i => rangeIter (a + (i : Nat) * st) ((n : Int) - (i : Nat)) st) [] where
  next := fun i x l hx _ s F O => by
    obtain ⟨hi, rfl⟩ := rangeItems_get hx
    obtain ⟨_, hit, rfl⟩ := O.has (I, rangeIter (a + (i : Nat) * st) ((n : Int) - (i : Nat)) st) (.head _)
    refine wpAny_pyNext_range_item hit (by lia) fun h' hit' hs' => ?_
    have e1 : a + ((i + 1 : Nat) : Int) * st = a + (i : Int) * st + st := by push_cast; rw [Int.add_mul, Int.one_mul, Int.add_assoc]
    have e2 : (n : Int) - ((i + 1 : Nat) : Int) = (n : Int) - (i : Int) - 1 := by push_cast; lia
    refine ⟨h', s.toks + 1, (I, rangeIter (a + (i : Int) * st + st) ((n : Int) - (i : Int) - 1) st) :: l, rfl, Own.upd (e' := rangeIter (a + (i : Int) * st + st) ((n : Int) - (i : Int) - 1) st) (l' := _ :: (l ++ F)) O Mine.Upd.head ⟨_, hit', rfl⟩ hs'.extBut, ?_, _, rfl, Rep.int_mk _ _⟩
    rw [e1, e2]
  done := fun l _ s F O => by
    obtain ⟨_, hit, rfl⟩ := O.has (I, rangeIter (a + ((rangeItems a st n).length : Nat) * st) ((n : Int) - ((rangeItems a st n).length : Nat)) st) (.head _)
    have hl : (rangeItems a st n).length = n := by simp [rangeItems]
    exact wpAny_pyNext_range_end hh hit (by rw [hl]; lia) fun h' he => ⟨h', s.toks, l, rfl, Own.drop O he, rfl, rfl⟩
  self := fun i l _ s F O => by
    obtain ⟨_, hit, rfl⟩ := O.has (I, rangeIter (a + (i : Nat) * st) ((n : Int) - (i : Nat)) st) (.head _)
    exact wpAny_pyIter_rangeiter hit ⟨s.heap, s.toks, _, rfl, O, rfl, rfl⟩
noncomputable def strIter (ty : String) (cs : List Nat) (t : Tok) (i : Nat) : Ent := .obj fun o => o.cls = .type ty ∧ o.data = .fields #[.str ⟨cs.toArray⟩ t, .int i 0]
noncomputable def signs (cs : List Nat) : List AV := cs.map fun x => AV.str [x]
theorem signs_get {cs : List Nat} {i : Nat} {x : AV} (h : (signs cs)[i]? = some x) : ∃ y, cs[i]? = some y ∧ x = .str [y] := by
  unfold signs at h; rw [List.getElem?_map] at h
  cases hc : cs[i]? with
  | none => rw [hc] at h; simp at h
  | some y => rw [hc] at h; simp at h; exact ⟨y, rfl, h.symm⟩
theorem It.ascii {c : Cx} (hh : c.A.handled = none) (I : Addr) (cs : List Nat) (t : Tok) : It c I (signs cs) (strIter "str_ascii_iterator" cs t) [] where
  next := fun i x l hx _ s F O => by
    obtain ⟨y, hy, rfl⟩ := signs_get hx
    have hit : s.heap.IsStrIter I "str_ascii_iterator" ⟨cs.toArray⟩ t i := O.has (I, strIter "str_ascii_iterator" cs t i) (.head _)
    exact wpAny_pyNext_ascii_item hit (c := y) (by simpa using hy) fun h' hit' hs' => ⟨h', s.toks + 1, _, rfl, Own.upd (e' := strIter "str_ascii_iterator" cs t (i + 1)) (l' := _ :: (l ++ F)) O Mine.Upd.head hit' hs'.extBut, rfl, _, rfl, ⟨_, rfl⟩⟩
  done := fun l _ s F O => by
    have hit : s.heap.IsStrIter I "str_ascii_iterator" ⟨cs.toArray⟩ t (signs cs).length := O.has (I, strIter "str_ascii_iterator" cs t _) (.head _)
    exact wpAny_pyNext_ascii_end hh hit (by simp [signs]) fun h' he => ⟨h', s.toks, l, rfl, Own.drop O he, rfl, rfl⟩
  self := fun i l _ s F O => by
    have hit : s.heap.IsStrIter I "str_ascii_iterator" ⟨cs.toArray⟩ t i := O.has (I, strIter "str_ascii_iterator" cs t i) (.head _)
    exact wpAny_pyIter_striter_ascii hit ⟨s.heap, s.toks, _, rfl, O, rfl, rfl⟩
section
variable {c : Cx} {env : Env} {l F : Ledger}
/-! ## iter() -/
theorem v_iterList {K : Params → Frag} {n : Nat} {ax : Addr} {xs : List AV} {v : Value} {P : Value → Ledger → Prop} (ok : Ok K c n) (r : Rep v (.ref ax)) (hm : (ax, Ent.list xs) ∈ l)
    (h : ∀ I, It c I xs (listIter ax) [(ax, .list xs)] → P (.ref I) ((I, listIter ax 0) :: l)) : Ev c l (pyIter v) P := fun s F O => by
  obtain ⟨_, rfl⟩ := r
  obtain ⟨vs, hl, hr⟩ := O.isList (List.mem_append_left _ hm)
  exact wpAny_pyIter_list hl (postI _ s.toks ((s.heap.objs.size, listIter ax 0) :: l) rfl (Own.new (e := listIter ax 0) O (fun b o e => Heap.get?_push_of_some _ e) (Nat.le_refl _) ⟨_, Heap.get?_push_size _ rfl, rfl, rfl⟩) (h _ (It.list ok.hh _ _ _)))
noncomputable def rng (a b st : Int) : Ent := .obj fun o => ∃ t u v, o = { cls := .type "range", dict := none, data := .fields #[.int a t, .int b u, .int st v], slots := #[] }
theorem v_iterRange {K : Params → Frag} {n : Nat} {r : Addr} {a b st : Int} {k : Nat} {v : Value} {P : Value → Ledger → Prop} (ok : Ok K c n) (rv : Rep v (.ref r)) (hm : (r, rng a b st) ∈ l) (hs : Builtin.Range.small a b st = true) (hk : Builtin.Range.rangeSize a b st = k)
    (h : ∀ I, It c I (rangeItems a st k) (fun i => rangeIter (a + (i : Nat) * st) ((k : Int) - (i : Nat)) st) [] → P (.ref I) ((I, rangeIter (a + (0 : Nat) * st) ((k : Int) - (0 : Nat)) st) :: l)) : Ev c l (pyIter v) P := fun s F O => by
  obtain ⟨_, rfl⟩ := rv
  refine byG fun gG kgG => ?_
  obtain ⟨_, hg, t, u, w, rfl⟩ := O.has _ (List.mem_append_left _ hm)
  refine kgG ?_
  clear kgG gG
  refine wpAny_pyIter_range hg hs (postI _ s.toks _ rfl (Own.new (e := rangeIter (a + (0 : Nat) * st) ((k : Int) - (0 : Nat)) st) O (fun b o e => Heap.get?_push_of_some _ e) (Nat.le_refl _) ⟨_, Heap.get?_push_size _ rfl, ?_⟩) (h _ (It.range ok.hh _ _ _ _)))
  rw [hk]
  simp
theorem v_iterStr {K : Params → Frag} {n : Nat} {cs : List Nat} {v : Value} {P : Value → Ledger → Prop} (ok : Ok K c n) (r : Rep v (.str cs)) (ha : cs.all (· < 128) = true)
    (h : ∀ I t, It c I (signs cs) (strIter "str_ascii_iterator" cs t) [] → P (.ref I) ((I, strIter "str_ascii_iterator" cs t 0) :: l)) : Ev c l (pyIter v) P := fun s F O => by
  obtain ⟨t, rfl⟩ := r
  refine wpAny_pyIter_ascii (by simpa using ha) (postI _ s.toks _ rfl (Own.new (e := strIter "str_ascii_iterator" cs t 0) O (fun b o e => Heap.get?_push_of_some _ e) (Nat.le_refl _) ⟨_, Heap.get?_push_size _ rfl, rfl, rfl⟩) (h _ _ (It.ascii ok.hh _ _ _)))
/-! ## range() -/
theorem v_range1 {v : Value} {n : Int} {P : AV → Ledger → Prop} (r : Rep v (.int n)) (h : ∀ a, P (.ref a) ((a, rng 0 n 1) :: l)) : EvV c l (call (.type "range") [v]) P := fun s F O => by
  obtain ⟨t, rfl⟩ := r
  exact call_range_1 ⟨_, _, _, rfl, Own.new (e := rng 0 n 1) O (fun b o e => Heap.get?_push_of_some _ e) (Nat.le_refl _) ⟨_, Heap.get?_push_size _ rfl, _, _, _, rfl⟩, _, Rep.ref_mk _, h _⟩
theorem v_range2 {v u : Value} {n m : Int} {P : AV → Ledger → Prop} (r : Rep v (.int n)) (r' : Rep u (.int m)) (h : ∀ a, P (.ref a) ((a, rng n m 1) :: l)) : EvV c l (call (.type "range") [v, u]) P := fun s F O => by
  obtain ⟨t, rfl⟩ := r
  obtain ⟨t', rfl⟩ := r'
  exact call_range_2 ⟨_, _, _, rfl, Own.new (e := rng n m 1) O (fun b o e => Heap.get?_push_of_some _ e) (Nat.le_refl _) ⟨_, Heap.get?_push_size _ rfl, _, _, _, rfl⟩, _, Rep.ref_mk _, h _⟩
theorem v_range3 {v u z : Value} {n m k : Int} {P : AV → Ledger → Prop} (r : Rep v (.int n)) (r' : Rep u (.int m)) (r'' : Rep z (.int k)) (hk : k ≠ 0) (hs : k.natAbs < 1073741824) (h : ∀ a, P (.ref a) ((a, rng n m k) :: l)) : EvV c l (call (.type "range") [v, u, z]) P := fun s F O => by
  obtain ⟨t, rfl⟩ := r
  obtain ⟨t', rfl⟩ := r'
  obtain ⟨t'', rfl⟩ := r''
  exact call_range_3 hk ⟨_, _, _, rfl, Own.new (e := rng n m k) O (fun b o e => Heap.get?_push_of_some _ e) (Nat.le_refl _) ⟨_, Heap.get?_push_size _ rfl, _, _, _, rfl⟩, _, Rep.ref_mk _, h _⟩ (Or.inl (PyProof.noPylong_small hs))
theorem reps_of_items {acc : Array Value} {a st : Int} {n : Nat} (h : ItemsOf (fun i v => ∃ t, v = .int (a + i * st) t) acc n) : Reps acc.toList (rangeItems a st n) := by
  obtain ⟨hs, hi⟩ := h
  have key : ∀ (vs : List Value) (k : Nat), (∀ j v, vs[j]? = some v → ∃ t, v = Value.int (a + ((k + j : Nat) : Int) * st) t) → Reps vs ((List.range' k vs.length).map fun i => AV.int (a + (i : Nat) * st)) := by
    intro vs
    induction vs with
    | nil => intro k _; exact .nil
    | cons v r ih =>
      intro k hk
      rw [List.length_cons, List.range'_succ, List.map_cons]
      obtain ⟨t, e⟩ := hk 0 v rfl
      refine .cons ⟨t, e⟩ (ih (k + 1) fun j w hj => ?_)
      have := hk (j + 1) w (by simpa using hj)
      rw [show k + 1 + j = k + (j + 1) by lia]; exact this
  have := key acc.toList 0 fun j v hj => by
    rw [Nat.zero_add]; exact hi j v (by simpa using hj)
  have hl : acc.toList.length = n := by simpa using hs
  rw [hl] at this
  rw [← List.range_eq_range'] at this
  exact this
theorem v_listRange {K : Params → Frag} {n : Nat} {r : Addr} {a b st : Int} {k : Nat} {v : Value} {P : AV → Ledger → Prop} (ok : Ok K c n) (rv : Rep v (.ref r)) (hm : (r, rng a b st) ∈ l) (hs : Builtin.Range.small a b st = true) (hk : Builtin.Range.rangeSize a b st = k) (hz : k ≤ 2 ^ 24)
    (h : ∀ q, P (.ref q) ((q, .list (rangeItems a st k)) :: l)) : EvV c l (call (.type "list") [v]) P := fun s F O => by
  obtain ⟨_, rfl⟩ := rv
  refine byG fun gG kgG => ?_
  obtain ⟨_, hg, t, u, w, rfl⟩ := O.has _ (List.mem_append_left _ hm)
  refine kgG ?_
  clear kgG gG
  refine call_list_range ok.hh hg hs hk hz fun h' tk acc n' hk' hS hi => ?_
  exact (postV h' tk _ rfl (Own.new (e := .list (rangeItems a st k)) O hk' (Nat.le_refl _) ⟨acc.toList, n', by rw [Array.toArray_toList]; exact hS, reps_of_items hi⟩) _ (Rep.ref_mk _) (h _))
/-! ## for -/
/-- a for over a list that was just made -/
theorem ev_ForA {α : Type} {c : Cx} {env : Env} {l : Ledger} {x : Str} {p' pos : Pos} {iter : Expr} {body : List Stmt} {P : Flow → Ledger → Prop} (J : α → Nat → Ledger → Prop) (items : List AV) (need : α → Ledger)
    (h : EvV c l (eval iter env) fun a l₁ => ∀ v, Rep v a → Ev c l₁ (pyIter v) fun it l₂ => ∃ (z : α) (I : Addr) (e : Nat → Ent) (l₃ : Ledger), it = .ref I ∧ l₂ = (I, e 0) :: l₃ ∧ It c I items e (need z) ∧ J z 0 l₃)
    (mem : ∀ z i l, J z i l → ∀ p ∈ need z, p ∈ l)
    (turn : ∀ z i a l, items[i]? = some a → J z i l → ∀ v, Rep v a → Ev c l (storeName env x v) fun _ l₁ => Ev c l₁ (execs body env) fun f l₂ => match f with | .next | .cont => J z (i + 1) l₂ | .brk => P .next l₂ | .ret v => P (.ret v) l₂)
    (done : ∀ z l, J z items.length l → P .next l) (hs : ∀ x, foldedSetIterable iter env x = pure x := by intro _; with_unfolding_all rfl) :
    Ev c l (exec (.For (.Name x p') iter body [] pos) env) P := fun s F O => by
  refine wpAny_For (Ev.runV h O fun v a h₁ tk₁ l₁ O₁ r₁ p₁ => Ev.run (p₁ v r₁) O₁ fun it h₂ tk₂ l₂ O₂ p₂ => ?_) hs
  refine byG fun gG kgG => ?_
  obtain ⟨z, I, e, l₃, rfl, rfl, W, hJ⟩ := p₂
  refine kgG ?_
  clear kgG gG
  refine codeAny_forLoop_any (fun n s' => ∃ h' tk l' i, s' = { s with heap := h', toks := tk } ∧ Own c.h₀ h' (((I, e i) :: l') ++ F) ∧ J z i l' ∧ i ≤ items.length ∧ n = items.length + 1 - i) ?_ (items.length + 1)
    ⟨h₂, tk₂, l₃, 0, rfl, O₂, hJ, Nat.zero_le _, rfl⟩
  rintro n s' hxx1
  refine byG fun gG kgG => ?_
  obtain ⟨h', tk, l', i, rfl, O', hJ', hi, rfl⟩ := hxx1
  refine kgG ?_
  clear kgG gG
  by_cases hlt : i < items.length
  · have hx : items[i]? = some items[i] := List.getElem?_eq_getElem hlt
    refine Ev.run (W.next i _ l' hx (mem z i l' hJ')) O' fun r h₃ tk₃ l₄ O₃ ⟨el, v', er, rv⟩ => ?_
    subst el er
    refine wpAny_pure (wpAny_assign_Name ?_)
    have O₄ : Own c.h₀ h₃ (l' ++ ((I, e (i + 1)) :: F)) := O₃.perm List.perm_middle
    refine Ev.run (turn z i _ l' hx hJ' v' rv) O₄ fun _ h₅ tk₅ l₅ O₅ p₅ => ?_
    refine Ev.run p₅ O₅ fun f h₆ tk₆ l₆ O₆ p₆ => ?_
    cases f with
    | next => exact ⟨_, Nat.sub_lt_sub_left (Nat.lt_succ_of_lt hlt) (Nat.lt_succ_self i), h₆, tk₆, l₆, i + 1, rfl, O₆.perm List.perm_middle.symm, p₆, hlt, rfl⟩
    | cont => exact ⟨_, Nat.sub_lt_sub_left (Nat.lt_succ_of_lt hlt) (Nat.lt_succ_self i), h₆, tk₆, l₆, i + 1, rfl, O₆.perm List.perm_middle.symm, p₆, hlt, rfl⟩
    | brk => exact (postI h₆ tk₆ l₆ rfl (O₆.sub ((List.Sublist.refl l₆).append (List.sublist_cons_self _ _))) p₆)
    | ret v => exact (postI h₆ tk₆ l₆ rfl (O₆.sub ((List.Sublist.refl l₆).append (List.sublist_cons_self _ _))) p₆)
  · have hi' : i = items.length := by lia
    subst hi'
    refine Ev.run (W.done l' (mem z _ l' hJ')) O' fun r h₃ tk₃ l₄ O₃ ⟨er, el⟩ => ?_
    subst el er
    exact wpAny_execs_nil (postI h₃ tk₃ l₄ rfl O₃ (done z _ hJ'))
theorem ev_For {x : Str} {p' pos : Pos} {iter : Expr} {body : List Stmt} {P : Flow → Ledger → Prop} (J : Nat → Ledger → Prop) (items : List AV) (need : Ledger)
    (h : EvV c l (eval iter env) fun a l₁ => ∀ v, Rep v a → Ev c l₁ (pyIter v) fun it l₂ => ∃ I e l₃, it = .ref I ∧ l₂ = (I, e 0) :: l₃ ∧ It c I items e need ∧ J 0 l₃)
    (mem : ∀ i l, J i l → ∀ p ∈ need, p ∈ l)
    (turn : ∀ i a l, items[i]? = some a → J i l → ∀ v, Rep v a → Ev c l (storeName env x v) fun _ l₁ => Ev c l₁ (execs body env) fun f l₂ => match f with | .next | .cont => J (i + 1) l₂ | .brk => P .next l₂ | .ret v => P (.ret v) l₂)
    (done : ∀ l, J items.length l → P .next l) (hs : ∀ x, foldedSetIterable iter env x = pure x := by intro _; with_unfolding_all rfl) :
    Ev c l (exec (.For (.Name x p') iter body [] pos) env) P :=
  ev_ForA (α := Unit) (fun _ => J) items (fun _ => need) (h.mono fun _ _ k v r => (k v r).mono fun _ _ ⟨I, e, l₃, q⟩ => ⟨(), I, e, l₃, q⟩) (fun _ => mem) (fun _ => turn) (fun _ => done) hs
theorem w_pop {prog : Program} {w : World} {A : Around} {E : Value → Shared → Prop} {s : Shared} {D : Addr} {its : Array Value} {n : Nat} {i : Int} {u : Tok} {k : Nat} {y : Value} {Q : Value → Shared → Prop} (hg : IsL s.heap D its n) (hf : Builtin.List.listFitsIndex i = true) (hk : seqIndex? i its.size = some k)
    (hy : its[k]? = some y) (hz : its.size ≤ sizeLine) (h : Q y { s with heap := s.heap.update D (Obj.mapSeq fun xs => xs.eraseIdxIfInBounds k) }) : wpAny (model prog w) A (call (.builtin "list.pop") [.ref D, .int i u]) Q E s :=
  call_meets PySem.F.slot_list_pop ⟨_, hg, rfl⟩ PySem.F.entry_list_pop (PySem.F.args_list_pop_2 _ _) (PySem.MeetsSeq.list_pop_at D _ n i u _ y hf hk hy hz) ⟨hg, h⟩
theorem w_insert {prog : Program} {w : World} {A : Around} {E : Value → Shared → Prop} {s : Shared} {D : Addr} {its : Array Value} {n : Nat} {x : Int} {u : Tok} {y : Value} {Q : Value → Shared → Prop} (hg : IsL s.heap D its n) (hf : Builtin.List.listFitsIndex x = true)
    (hz : its.size ≤ sizeLine) (h : Q .none { s with heap := s.heap.update D (Obj.mapSeq fun xs => have k := if x < 0 then (x + (xs.size : Int)).toNat else min x.toNat xs.size; (xs.extract 0 k).push y ++ xs.extract k) }) : wpAny (model prog w) A (call (.builtin "list.insert") [.ref D, .int x u, y]) Q E s :=
  call_meets PySem.F.slot_list_insert ⟨_, hg, rfl⟩ PySem.F.entry_list_insert (PySem.F.args_list_insert_3 _ _ _) (PySem.AutoSeq1.list_insert_list_int_val_1 D _ n x u y (by simp [hf]) hz) ⟨hg, h⟩
theorem v_append {a : Addr} {xs : List AV} {x : AV} {v u : Value} {l' : Ledger} {P : AV → Ledger → Prop} (r : Rep v (.ref a)) (r' : Rep u x) (hz : xs.length ≤ sizeLine) (up : Mine.Upd a (.list xs) (.list (xs ++ [x])) l l') (h : P .none l') : EvV c l (call (.builtin "list.append") [v, u]) P := fun s F O => by
  obtain ⟨_, rfl⟩ := r
  obtain ⟨vs, hl, hr⟩ := O.isPlain (List.mem_append_left _ up.mem)
  refine wpAny_list_append_plain (hsz := by rw [List.size_toArray, hr.length]; exact hz) hl fun h' hl' hs' => ?_
  obtain ⟨n, hg⟩ := hl'
  refine (postV h' s.toks l' rfl (O.upd up.app ⟨vs ++ [u], n, ?_, hr.append (Reps.one r')⟩ hs'.extBut) _ Rep.none_mk h)
  rw [hg]; simp
theorem v_popAt {a : Addr} {xs : List AV} {x : AV} {k : Nat} {v u : Value} {l' : Ledger} {P : AV → Ledger → Prop} (r : Rep v (.ref a)) (r' : Rep u (.int k)) (hz : xs.length ≤ sizeLine) (hx : xs[k]? = some x) (up : Mine.Upd a (.list xs) (.list (xs.eraseIdx k)) l l') (h : P x l') :
    EvV c l (call (.builtin "list.pop") [v, u]) P := fun s F O => by
  obtain ⟨_, rfl⟩ := r
  obtain ⟨t, rfl⟩ := r'
  refine byG fun gG kgG => ?_
  obtain ⟨vs, n, hg, hr⟩ := O.has _ (List.mem_append_left _ up.mem)
  refine kgG ?_
  clear kgG gG
  obtain ⟨y, hy, ry⟩ := hr.get hx
  have hlt : k < vs.length := (List.getElem?_eq_some_iff.mp hy).1
  have hz' : vs.toArray.size ≤ sizeLine := by rw [List.size_toArray, hr.length]; exact hz
  have hk : seqIndex? (k : Int) vs.toArray.size = some k := by
    unfold seqIndex?; rw [List.size_toArray]; simp only [show ¬ ((k : Int) < 0) by lia, if_false]
    rw [if_pos (by simp; lia)]; simp
  have hf : Builtin.List.listFitsIndex (k : Int) = true := by
    have : sizeLine = 16777216 := sizeLine_eq
    rw [List.size_toArray, this] at hz'
    simp [Builtin.List.listFitsIndex]; lia
  refine w_pop hg hf hk (by simpa using hy) hz' ?_
  have hu := IsL.update hg (fun its => its.eraseIdxIfInBounds k)
  have e : vs.toArray.eraseIdxIfInBounds k = (vs.eraseIdx k).toArray := by
    rw [Array.eraseIdxIfInBounds, dif_pos (by simpa using hlt)]; simp
  dsimp only at hu
  rw [e] at hu
  exact (postV _ s.toks l' rfl (O.upd up.app ⟨vs.eraseIdx k, _, hu, hr.eraseIdx k⟩ (Heap.SameBut.update ..).extBut) x ry h)
theorem v_insert {a : Addr} {xs : List AV} {x : AV} {k : Nat} {v u z : Value} {l' : Ledger} {P : AV → Ledger → Prop} (r : Rep v (.ref a)) (r' : Rep u (.int k)) (rz : Rep z x) (hz : xs.length ≤ sizeLine) (hk : k ≤ xs.length) (up : Mine.Upd a (.list xs) (.list (xs.take k ++ x :: xs.drop k)) l l') (h : P .none l') :
    EvV c l (call (.builtin "list.insert") [v, u, z]) P := fun s F O => by
  obtain ⟨_, rfl⟩ := r
  obtain ⟨t, rfl⟩ := r'
  refine byG fun gG kgG => ?_
  obtain ⟨vs, n, hg, hr⟩ := O.has _ (List.mem_append_left _ up.mem)
  refine kgG ?_
  clear kgG gG
  have hz' : vs.toArray.size ≤ sizeLine := by rw [List.size_toArray, hr.length]; exact hz
  have hf : Builtin.List.listFitsIndex (k : Int) = true := by
    have : sizeLine = 16777216 := sizeLine_eq
    rw [this] at hz
    simp [Builtin.List.listFitsIndex]; lia
  refine w_insert hg hf hz' ?_
  have hu := IsL.update hg (fun xs => have k := if (k : Int) < 0 then ((k : Int) + (xs.size : Int)).toNat else min (k : Int).toNat xs.size; (xs.extract 0 k).push z ++ xs.extract k)
  have e : ((vs.toArray.extract 0 (if (k : Int) < 0 then ((k : Int) + (vs.toArray.size : Int)).toNat else min (k : Int).toNat vs.toArray.size)).push z ++ vs.toArray.extract (if (k : Int) < 0 then ((k : Int) + (vs.toArray.size : Int)).toNat else min (k : Int).toNat vs.toArray.size)) = (vs.take k ++ z :: vs.drop k).toArray := by
    have hl : vs.length = xs.length := hr.length
    have e1 : (if (k : Int) < 0 then ((k : Int) + (vs.toArray.size : Int)).toNat else min (k : Int).toNat vs.toArray.size) = k := by
      rw [if_neg (by lia), List.size_toArray]; simp; lia
    rw [e1]
    apply Array.toList_inj.mp
    simp
    exact List.take_of_length_le (by simp)
  dsimp only at hu
  rw [e] at hu
  exact (postV _ s.toks l' rfl (O.upd up.app ⟨vs.take k ++ z :: vs.drop k, _, hu, hr.insertIdx rz k⟩ (Heap.SameBut.update ..).extBut) _ Rep.none_mk h)
end
end Mine
end
section
open PySem PySem.W PyProof.Rows
set_option linter.unusedVariables false
set_option maxRecDepth 100000
namespace Mine
/-! ## frames as a row of values -/
noncomputable def frm (ns : List Str) (vs : List (Option AV)) : Str → Option AV := fun x => (vs[ns.idxOf x]?).getD none
theorem frm_get {ns : List Str} {vs : List (Option AV)} {x : Str} {i : Nat} (h : ns.idxOf x = i) : frm ns vs x = (vs[i]?).getD none := by rw [frm, h]
theorem frm_put {ns : List Str} {vs : List (Option AV)} {x : Str} {i : Nat} {a : AV} (h : ns.idxOf x = i) (hi : i < ns.length) (hv : vs.length = ns.length) : put (frm ns vs) x a = frm ns (vs.set i (some a)) := by
  funext y
  unfold put frm
  by_cases hy : y = x
  · subst hy
    rw [if_pos rfl, h, List.getElem?_set_self (by lia)]; rfl
  · rw [if_neg hy]
    have hne : i ≠ ns.idxOf y := by
      intro e
      have hx : ns[i]? = some x := by
        have hmem : x ∈ ns := by
          rw [← List.idxOf_lt_length_iff, h]; exact hi
        rw [← h]
        rw [List.getElem?_eq_getElem (by rw [h]; exact hi)]
        simp
      have hlt : ns.idxOf y < ns.length := by rw [← e]; exact hi
      have hy' : ns[ns.idxOf y]? = some y := by
        rw [List.getElem?_eq_getElem hlt]; simp
      rw [← e, hx] at hy'
      exact hy (Option.some.inj hy').symm
    rw [List.getElem?_set_ne hne]
/-- a local name of the frame, at a place of the row -/
structure Var (env : Env) (ns : List Str) (x : Str) (i : Nat) : Prop where
  kind : env.kindOf x = some .local
  idx : ns.idxOf x = i
  lt : i < ns.length
  nd : (x == ("__debug__" : Str)) = false
/-- where the frame's locals stand -/
structure EnvAt (env : Env) (L : Addr) : Prop where
  locals : env.locals = L
  kind : env.scope.kind = .function
/-- a name that has a value whatever is owned -/
noncomputable def Glo (c : Cx) (env : Env) (x : Str) (a : AV) : Prop := ∀ (l : Ledger) (P : AV → Ledger → Prop) (pos : Pos), P a l → EvV c l (eval (.Name x pos) env) P
theorem Glo.global {K : Params → Frag} {c : Cx} {env : Env} {n : Nat} {x : Str} {v : Value} {a : AV} (ok : Ok K c n) (hk : env.scope.kind = .function) (hl : env.kindOf x = some .globalImplicit) (hg : env.globals = mainGlobals)
    (hd : (x == ("__debug__" : Str)) = false) (e : nsIn (K c.w.params) mainGlobals x = some (some v)) (r : Rep v a) : Glo c env x a := fun l P pos h => ev_global ok hk hl hg hd e r h
theorem Glo.builtin {K : Params → Frag} {c : Cx} {env : Env} {n : Nat} {x : Str} {v : Value} (ok : Ok K c n) (hk : env.scope.kind = .function) (hl : env.kindOf x = some .globalImplicit) (hg : env.globals = mainGlobals) (hb : env.builtins = builtinsNs)
    (hd : (x == ("__debug__" : Str)) = false) (e : nsIn (K c.w.params) mainGlobals x = some none) (hv : bootBuiltins x = some v) (hn : x ≠ "__name__") : Glo c env x (.val v) := fun l P pos h => ev_builtin ok hk hl hg hb hd e hv hn h
section
variable {c : Cx} {env : Env} {l F : Ledger} {L : Addr} {ns : List Str} {vs : List (Option AV)}
theorem e_var {x : Str} {i : Nat} {pos : Pos} {a : AV} {P : AV → Ledger → Prop} (hE : EnvAt env L) (hx : Var env ns x i) (hv : vs[i]? = some (some a)) (h : P a ((L, .ns (frm ns vs)) :: l)) : EvV c ((L, .ns (frm ns vs)) :: l) (eval (.Name x pos) env) P :=
  ev_local hE.locals hE.kind hx.kind hx.nd (by rw [frm_get hx.idx, hv]; rfl) h
theorem e_varL {x : Str} {i : Nat} {a : AV} {P : AV → Ledger → Prop} (hE : EnvAt env L) (hx : Var env ns x i) (hv : vs[i]? = some (some a)) (h : P a ((L, .ns (frm ns vs)) :: l)) : EvV c ((L, .ns (frm ns vs)) :: l) (loadName env x) P :=
  ev_local_load hE.locals hE.kind hx.kind (by rw [frm_get hx.idx, hv]; rfl) h
theorem e_set {x : Str} {i : Nat} {v : Value} {a : AV} {P : Unit → Ledger → Prop} (hE : EnvAt env L) (hx : Var env ns x i) (hn : vs.length = ns.length) (r : Rep v a) (h : P () ((L, .ns (frm ns (vs.set i (some a)))) :: l)) : Ev c ((L, .ns (frm ns vs)) :: l) (storeName env x v) P :=
  ev_store hE.locals hE.kind hx.kind r (by rw [frm_put hx.idx hx.lt hn]; exact h)
theorem lookup_of_mem {y : Str} {v : Value} {bs : List (Str × Value)} (hmem : (y, v) ∈ bs) (hndr : (bs.map (·.1)).Nodup) : bs.lookup y = some v := by
  induction bs with
  | nil => cases hmem
  | cons p r ih =>
    obtain ⟨z, w⟩ := p
    rw [List.map_cons, List.nodup_cons] at hndr
    rcases List.mem_cons.mp hmem with e | hm
    · cases e; simp
    · have hne : y ≠ z := fun e => hndr.1 (List.mem_map.mpr ⟨_, hm, by simp [e]⟩)
      rw [List.lookup_cons]
      have : (y == z) = false := by simpa using hne
      rw [this]
      exact ih hm hndr.2
/-- the frame's names at the call -/
theorem frm_binds {ns : List Str} {binds : List (Str × Value)} {as : List AV} (hn : binds.map (·.1) = ns.take binds.length) (hnd : ns.Nodup) (hr : Reps (binds.map (·.2)) as) (k : Nat) :
    ∀ x av, frm ns (as.map some ++ List.replicate k none) x = some av → ∃ v, binds.reverse.lookup x = some v ∧ Rep v av := by
  intro x av hx
  unfold frm at hx
  have hlen : as.length = binds.length := by rw [← hr.length]; simp
  have hi : ns.idxOf x < as.length := by
    apply Classical.byContradiction
    intro hge
    rw [List.getElem?_append_right (by simpa using hge)] at hx
    rw [List.getElem?_replicate] at hx
    split at hx <;> simp at hx
  rw [List.getElem?_append_left (by simpa using hi), List.getElem?_map] at hx
  have hav : as[ns.idxOf x]? = some av := by
    cases h : as[ns.idxOf x]? with
    | none => rw [h] at hx; simp at hx
    | some b => rw [h] at hx; simp at hx; rw [hx]
  obtain ⟨v, hv, r⟩ := hr.get hav
  refine ⟨v, ?_, r⟩
  have hb : ∃ y, binds[ns.idxOf x]? = some (y, v) := by
    rw [List.getElem?_map] at hv
    cases h : binds[ns.idxOf x]? with
    | none => rw [h] at hv; simp at hv
    | some p => rw [h] at hv; simp at hv; exact ⟨p.1, by rw [← hv]⟩
  obtain ⟨y, hy⟩ := hb
  have hyx : y = x := by
    have h1 : (binds.map (·.1))[ns.idxOf x]? = some y := by rw [List.getElem?_map, hy]; rfl
    rw [hn, List.getElem?_take] at h1
    split at h1
    · rename_i hlt
      have : ns.idxOf x < ns.length := (List.getElem?_eq_some_iff.mp h1).1
      rw [List.getElem?_eq_getElem this] at h1
      simp at h1; exact h1.symm
    · cases h1
  subst hyx
  -- the names are distinct, so the reversed lookup finds it
  have hndb : (binds.map (·.1)).Nodup := by rw [hn]; exact (List.take_sublist _ _).nodup hnd
  have hmem : (y, v) ∈ binds.reverse := List.mem_reverse.mpr (List.mem_of_getElem? hy)
  have hndr : (binds.reverse.map (·.1)).Nodup := by rw [List.map_reverse]; exact (List.reverse_perm _).nodup_iff.mpr hndb
  exact lookup_of_mem hmem hndr
/-! ## method calls -/
theorem keeper_builtin (id : String) : keeperOf (.builtin id) = pure .machine := rfl
theorem v_callWith {pos : Pos} {id : String} {first : List Value} {e : Expr} {rest : List Expr} {P : AV → Ledger → Prop} (h : Ev c l (spliced (backTo pos (starEach (e :: rest) env))) fun vs l₂ => EvV c l₂ (call (.builtin id) (first ++ vs)) P)
    (he : starEach (e :: rest) env = (false, eval e env) :: starEach rest env) (hplain : (backTo pos (starEach rest env)).any (·.1) = false) : EvV c l (callWith pos (.builtin id) first (backTo pos (starEach (e :: rest) env)) []) P := fun s F O => by
  rw [he] at h ⊢
  refine callWith_of (P := fun _ => True) (by show ((false || (backTo pos (starEach rest env)).any (·.1)) || false) = false; rw [hplain]; rfl) (fun h _ => ⟨.machine, .inr (.inl rfl), ?_⟩) (Calls.evalArgs_plain (Ev.run h O fun vs h₂ tk₂ l₂ O₂ p₂ => ⟨trivial, ?_⟩))
  · exact Looks.of_pure (keeper_builtin id)
  · exact Ev.runV p₂ O₂ fun z w h₃ tk₃ l₃ O₃ r₃ p₃ => (postV h₃ tk₃ l₃ rfl O₃ w r₃ p₃)
theorem v_callWith0 {pos : Pos} {id : String} {first : List Value} {P : AV → Ledger → Prop} (h : EvV c l (call (.builtin id) (first ++ [])) P) : EvV c l (callWith pos (.builtin id) first (backTo pos (starEach [] env)) []) P := fun s F O => by
  refine callWith_of (P := fun _ => True) rfl (fun h _ => ⟨.machine, .inr (.inl rfl), Looks.of_pure (keeper_builtin id)⟩) (PySem.evalArgs_none ⟨trivial, ?_⟩)
  exact Ev.runV h O fun z w h₃ tk₃ l₃ O₃ r₃ p₃ => (postV h₃ tk₃ l₃ rfl O₃ w r₃ p₃)
/-- a method of a text -/
theorem e_methStr {o : Expr} {name : Str} {apos pos : Pos} {args : List Expr} {id : String} {P : AV → Ledger → Prop} (slot : Slot "str" name id) (hty : typeOf (.builtin id) = pure (.type "method_descriptor"))
    (h : EvV c l (eval o env) fun ov l₁ => ∃ cs, ov = .str cs ∧ ∀ v, Rep v (.str cs) → EvV c l₁ (callWith pos (.builtin id) [v] (backTo pos (starEach args env)) []) P)
    (hbase : attributeBase o name env (eval o env) = eval o env := by with_unfolding_all rfl)
    (hfew : ((backTo pos (starEach args env)).all (fun x => !x.1) && (backToKw pos (keywordEach [] env)).all (fun x => x.1.isSome)
      && decide (args.length + ([] : List Keyword).length + (if ([] : List Keyword).isEmpty then 0 else 1) < 30)) = true := by with_unfolding_all rfl)
    (hline : (apos.endLine == pos.line) = true := by with_unfolding_all rfl) : EvV c l (eval (.Call (.Attribute o name apos) args [] pos) env) P := fun s F O =>
  wpAny_Call_method hbase hfew hline PySem.F.plainAttrs_str slot hty (Ev.runV h O fun v x h₁ tk₁ l₁ O₁ r₁ ⟨cs, e, p⟩ => by
    subst e
    have hv : ∃ t, v = .str ⟨cs.toArray⟩ t := r₁
    obtain ⟨t, hv⟩ := hv
    refine ⟨by rw [hv]; exact typeIs_str _ _ _, (fun a e => by rw [hv] at e; cases e), ?_⟩
    exact Ev.runV (p v r₁) O₁ fun z w h₃ tk₃ l₃ O₃ r₃ p₃ => (postV h₃ tk₃ l₃ rfl O₃ w r₃ p₃))
/-- a method of a list -/
theorem e_methList {o : Expr} {name : Str} {apos pos : Pos} {args : List Expr} {id : String} {P : AV → Ledger → Prop} (slot : Slot "list" name id) (hty : typeOf (.builtin id) = pure (.type "method_descriptor"))
    (h : EvV c l (eval o env) fun ov l₁ => ∃ a xs, ov = .ref a ∧ (a, Ent.list xs) ∈ l₁ ∧ EvV c l₁ (callWith pos (.builtin id) [.ref a] (backTo pos (starEach args env)) []) P)
    (hbase : attributeBase o name env (eval o env) = eval o env := by with_unfolding_all rfl)
    (hfew : ((backTo pos (starEach args env)).all (fun x => !x.1) && (backToKw pos (keywordEach [] env)).all (fun x => x.1.isSome)
      && decide (args.length + ([] : List Keyword).length + (if ([] : List Keyword).isEmpty then 0 else 1) < 30)) = true := by with_unfolding_all rfl)
    (hline : (apos.endLine == pos.line) = true := by with_unfolding_all rfl) : EvV c l (eval (.Call (.Attribute o name apos) args [] pos) env) P := fun s F O =>
  wpAny_Call_method hbase hfew hline PySem.F.plainAttrs_list slot hty (Ev.runV h O fun v x h₁ tk₁ l₁ O₁ r₁ ⟨a, xs, e, hm, p⟩ => by
    subst e
    obtain ⟨_, rfl⟩ := r₁
    refine byG fun gG kgG => ?_
    obtain ⟨vs, n, hg, hr⟩ := O₁.has _ (List.mem_append_left _ hm)
    refine kgG ?_
    clear kgG gG
    refine ⟨⟨_, hg, rfl⟩, fun b e => by cases e; exact ⟨_, hg, rfl⟩, ?_⟩
    exact Ev.runV p O₁ fun z w h₃ tk₃ l₃ O₃ r₃ p₃ => (postV h₃ tk₃ l₃ rfl O₃ w r₃ p₃))
/-- a statement that is a call without a value -/
theorem s_Expr {e : Expr} {pos : Pos} {P : Flow → Ledger → Prop} (h : EvV c l (eval e env) fun a l₁ => a = .none ∧ P .next l₁) (hi : interactive env = false := by with_unfolding_all rfl) (hs : swapsWith e none pos.line env = pure false := by with_unfolding_all rfl) : Ev c l (exec (.Expr e pos) env) P := fun s F O =>
  wpAny_Expr (Ev.runV h O fun v a h₁ tk₁ l₁ O₁ r ⟨e1, p⟩ => by subst e1; obtain ⟨_, rfl⟩ := r; exact ⟨h₁, tk₁, l₁, rfl, O₁, p⟩) hi hs
/-- signs that no method turns -/
noncomputable def Plain (cs : List Nat) : Prop := ∀ x ∈ cs, 33 ≤ x ∧ x < 127 ∧ (x < 65 ∨ 90 < x)
theorem v_lower {cs : List Nat} {v : Value} {P : AV → Ledger → Prop} (r : Rep v (.str cs)) (hp : Plain cs) (hz : cs.length ≤ 5592405) (h : P (.str cs) l) : EvV c l (call (.builtin "str.lower") [v]) P := fun s F O => by
  obtain ⟨t, rfl⟩ := r
  exact KXs.lower_K (x := ⟨cs.toArray⟩) (fun x hx => hp x (by simpa using hx)) (by simpa [Str.length] using hz) fun t' k => ⟨s.heap, k, l, rfl, O, _, ⟨t', rfl⟩, h⟩
/-- x.lower() -/
theorem e_lower {o : Expr} {apos pos : Pos} {P : AV → Ledger → Prop} (h : EvV c l (eval o env) fun ov l₁ => ∃ cs, ov = .str cs ∧ Plain cs ∧ cs.length ≤ 5592405 ∧ P (.str cs) l₁)
    (hbase : attributeBase o "lower" env (eval o env) = eval o env := by with_unfolding_all rfl) (hline : (apos.endLine == pos.line) = true := by with_unfolding_all rfl) : EvV c l (eval (.Call (.Attribute o "lower" apos) [] [] pos) env) P :=
  e_methStr PySem.F.slot_str_lower PySem.F.type_str_lower (h.mono fun _ _ ⟨cs, e, hp, hz, p⟩ => ⟨cs, e, fun v r => v_callWith0 (v_lower r hp hz p)⟩) hbase rfl hline
end
end Mine
end
section
open PySem PySem.W PyProof.Rows
set_option linter.unusedVariables false
set_option maxRecDepth 100000
namespace Mine
section
variable {c : Cx} {env : Env} {l F : Ledger} {v u z : Value} {P : AV → Ledger → Prop} {i j : Int} {x y : List Nat}
theorem v_add (r1 : Rep v (.int i)) (r2 : Rep u (.int j)) (h : P (.int (i + j)) l) : EvV c l (binaryOp .Add v u) P := by
  obtain ⟨t, rfl⟩ := r1; obtain ⟨t', rfl⟩ := r2; exact fun s F O => PySem.P.add_int (fin_still O (Rep.int_mk _ _) h)
theorem v_sub (r1 : Rep v (.int i)) (r2 : Rep u (.int j)) (h : P (.int (i - j)) l) : EvV c l (binaryOp .Sub v u) P := by
  obtain ⟨t, rfl⟩ := r1; obtain ⟨t', rfl⟩ := r2; exact fun s F O => PySem.P.sub_int (fin_still O (Rep.int_mk _ _) h)
theorem v_mul (r1 : Rep v (.int i)) (r2 : Rep u (.int j)) (hm : IntMulOk i j) (h : P (.int (i * j)) l) : EvV c l (binaryOp .Mult v u) P := by
  obtain ⟨t, rfl⟩ := r1; obtain ⟨t', rfl⟩ := r2; exact fun s F O => PySem.P.mul_int (fin_still O (Rep.int_mk _ _) h) hm
theorem v_fdiv (r1 : Rep v (.int i)) (r2 : Rep u (.int j)) (h0 : j ≠ 0) (hj : j.natAbs < 1073741824) (h : P (.int (i.fdiv j)) l) : EvV c l (binaryOp .FloorDiv v u) P := by
  obtain ⟨t, rfl⟩ := r1; obtain ⟨t', rfl⟩ := r2; exact fun s F O => floordiv_int h0 (fin_still O (Rep.int_mk _ _) h) (Or.inl (PyProof.noPylong_small hj))
theorem v_mod (r1 : Rep v (.int i)) (r2 : Rep u (.int j)) (h0 : j ≠ 0) (h : P (.int (i.fmod j)) l) : EvV c l (binaryOp .Mod v u) P := by
  obtain ⟨t, rfl⟩ := r1; obtain ⟨t', rfl⟩ := r2; exact fun s F O => mod_int' h0 (fin_still O (Rep.int_mk _ _) h)
theorem v_pow (r1 : Rep v (.int i)) (r2 : Rep u (.int j)) (h0 : 0 ≤ j) (hj : (Builtin.Int.intBits i : Int) * j ≤ 2 ^ 27) (h : P (.int (i ^ j.toNat)) l) : EvV c l (binaryOp .Pow v u) P := by
  obtain ⟨t, rfl⟩ := r1; obtain ⟨t', rfl⟩ := r2; exact fun s F O => pow_int h0 hj (fin_still O (Rep.int_mk _ _) h)
theorem v_neg (r1 : Rep v (.int i)) (h : P (.int (-i)) l) : EvV c l (unaryOp .USub v) P := by
  obtain ⟨t, rfl⟩ := r1; exact fun s F O => PySem.P.neg_int (fin_still O (Rep.int_mk _ _) h)
theorem v_iadd (r1 : Rep v (.int i)) (r2 : Rep u (.int j)) (h : P (.int (i + j)) l) : EvV c l (inplaceOp .Add v u) P := by
  obtain ⟨t, rfl⟩ := r1; obtain ⟨t', rfl⟩ := r2; exact fun s F O => PySem.P.iadd_int (fin_still O (Rep.int_mk _ _) h)
theorem v_isub (r1 : Rep v (.int i)) (r2 : Rep u (.int j)) (h : P (.int (i - j)) l) : EvV c l (inplaceOp .Sub v u) P := by
  obtain ⟨t, rfl⟩ := r1; obtain ⟨t', rfl⟩ := r2; exact fun s F O => PySem.P.isub_int (fin_still O (Rep.int_mk _ _) h)
theorem v_isNone {q : Bool} (hq : (v == .none) = q) (r2 : Rep u .none) (h : P (.bool q) l) : EvV c l (compareOp .Is v u) P := by
  obtain ⟨_, rfl⟩ := r2
  exact fun s F O => is_none (by rw [hq]; exact (postV s.heap s.toks _ rfl O (.bool q) (Rep.bool_mk q) h))
theorem v_item {value slice : Expr} {a : Addr} {xs : List AV} {k : Int} {b : AV} (r1 : Rep v (.ref a)) (r2 : Rep u (.int k)) (hm : (a, Ent.list xs) ∈ l) (h0 : 0 ≤ k) (hf : k < 2 ^ 63) (hx : xs[k.toNat]? = some b) (p : P b l)
    (hs : ∀ o i, subscripted slice false o i = operate [o, i] (getItem o i) := by intros; with_unfolding_all rfl) : EvV c l (subscriptTail value slice v u) P := by
  obtain ⟨_, rfl⟩ := r1
  obtain ⟨t, rfl⟩ := r2
  intro s F O
  obtain ⟨vs, hl, hr⟩ := O.isList (List.mem_append_left _ hm)
  obtain ⟨y, hy, ry⟩ := hr.get hx
  exact tail_any hl.typeIs slot_list_getitem.lookup (wpAny_getItem_list hl h0 hf (by simpa using hy) (postV s.heap s.toks _ rfl O b ry p)) (hs _ _)
theorem v_itemNeg {value slice : Expr} {a : Addr} {xs : List AV} {k : Int} {b : AV} (r1 : Rep v (.ref a)) (r2 : Rep u (.int k)) (hm : (a, Ent.list xs) ∈ l) (h0 : k < 0) (hf : -(2 ^ 63) ≤ k) (hn : -(xs.length : Int) ≤ k) (hx : xs[(k + xs.length).toNat]? = some b) (p : P b l)
    (hs : ∀ o i, subscripted slice false o i = operate [o, i] (getItem o i) := by intros; with_unfolding_all rfl) : EvV c l (subscriptTail value slice v u) P := by
  obtain ⟨_, rfl⟩ := r1
  obtain ⟨t, rfl⟩ := r2
  intro s F O
  obtain ⟨vs, hl, hr⟩ := O.isList (List.mem_append_left _ hm)
  obtain ⟨y, hy, ry⟩ := hr.get hx
  have hsz : vs.toArray.size = xs.length := by rw [List.size_toArray, hr.length]
  exact tail_any hl.typeIs slot_list_getitem.lookup (wpAny_getItem_list_neg hl h0 (by rw [hsz]; exact hn) hf (by rw [hsz]; simpa using hy) (postV s.heap s.toks _ rfl O b ry p)) (hs _ _)
theorem v_itemTup {value slice : Expr} {a : Addr} {xs : List AV} {k : Int} {b : AV} (r1 : Rep v (.ref a)) (r2 : Rep u (.int k)) (hm : (a, Ent.tup xs) ∈ l) (h0 : 0 ≤ k) (hf : k < 2 ^ 63) (hx : xs[k.toNat]? = some b) (p : P b l)
    (hs : ∀ o i, subscripted slice false o i = operate [o, i] (getItem o i) := by intros; with_unfolding_all rfl) : EvV c l (subscriptTail value slice v u) P := by
  obtain ⟨_, rfl⟩ := r1
  obtain ⟨t, rfl⟩ := r2
  intro s F O
  refine byG fun gG kgG => ?_
  obtain ⟨vs, n, hl, hr⟩ := Own.isTup O (List.mem_append_left _ hm)
  refine kgG ?_
  clear kgG gG
  obtain ⟨y, hy, ry⟩ := hr.get hx
  have hlt : k.toNat < xs.length := (List.getElem?_eq_some_iff.mp hx).1
  have hsz : vs.toArray.size = xs.length := by rw [List.size_toArray, hr.length]
  have hk : seqIndex? k vs.toArray.size = some k.toNat := by
    unfold seqIndex?; rw [hsz]; simp only [show ¬ k < 0 by lia, if_false]
    rw [if_pos (by simp; lia)]
  exact tail_any (T := "tuple") ⟨_, hl, rfl⟩ PySem.F.slot_tuple_getitem.lookup (PySem.P.getItem_tuple hl (by lia) hf hk (by simpa using hy) (postV s.heap s.toks _ rfl O b ry p)) (hs _ _)
theorem v_sign {value slice : Expr} {cs : List Nat} {k : Int} {b : Nat} (r1 : Rep v (.str cs)) (r2 : Rep u (.int k)) (hlo : -(2 ^ 63) ≤ k) (hf : k < 2 ^ 63) (hn : 0 ≤ k ∨ -(cs.length : Int) ≤ k) (hx : cs[(if k < 0 then k + cs.length else k).toNat]? = some b) (p : P (.str [b]) l)
    (hs : ∀ o i, subscripted slice false o i = operate [o, i] (getItem o i) := by intros; with_unfolding_all rfl) : EvV c l (subscriptTail value slice v u) P := by
  obtain ⟨t', rfl⟩ := r1
  obtain ⟨t, rfl⟩ := r2
  intro s F O
  have hlt := (List.getElem?_eq_some_iff.mp hx).1
  have hk : (seqIndex? k (Str.mk cs.toArray).length).bind ((Str.mk cs.toArray).cps[·]?) = some b := by
    have hl : (Str.mk cs.toArray).length = cs.length := by simp [Str.length]
    unfold seqIndex?; rw [hl]
    dsimp only
    rw [if_pos (by simp; split at hlt <;> split <;> lia)]
    simpa using hx
  refine tail_any (typeIs_str s _ _) PySem.F.slot_str_getitem.lookup (PySem.P.getItem_str (by simp; lia) hk ?_) (hs _ _)
  exact (postV s.heap (s.toks + 1) _ rfl O (.str [b]) ⟨_, rfl⟩ p)
theorem v_cat {p q : Addr} {xs ys : List AV} (r1 : Rep v (.ref p)) (r2 : Rep u (.ref q)) (m1 : (p, Ent.list xs) ∈ l) (m2 : (q, Ent.list ys) ∈ l) (hz : xs.length + ys.length ≤ sizeLine) (hp : ∀ n, P (.ref n) ((n, .list (xs ++ ys)) :: l)) : EvV c l (binaryOp .Add v u) P := by
  obtain ⟨_, rfl⟩ := r1
  obtain ⟨_, rfl⟩ := r2
  intro s F O
  refine byG fun gG kgG => ?_
  obtain ⟨vs, n, hg, hr⟩ := O.has _ (List.mem_append_left _ m1)
  refine kgG ?_
  clear kgG gG
  refine byG fun gG kgG => ?_
  obtain ⟨us, n2, hg2, hr2⟩ := O.has _ (List.mem_append_left _ m2)
  refine kgG ?_
  clear kgG gG
  refine PySem.P.add_list (n := n) (n2 := n2) hg hg2 ?_ (by rw [List.size_toArray, List.size_toArray, hr.length, hr2.length]; exact hz)
  have e : vs.toArray ++ us.toArray = (vs ++ us).toArray := by simp
  rw [e]
  exact (postV _ s.toks (_ :: _) rfl (Own.newList O (hr.append hr2)) _ (Rep.ref_mk _) (hp _))
end
section
variable {c : Cx} {env : Env} {l F : Ledger}
theorem e_glo {x : Str} {pos : Pos} {a : AV} {P : AV → Ledger → Prop} (hg : Glo c env x a) (h : P a l) : EvV c l (eval (.Name x pos) env) P := hg l P pos h
theorem ev_test' {a b : Expr} {op : CmpOp} {pos : Pos} {whole : Sem Value} {P : Bool → Ledger → Prop}
    (h : EvV c l (eval a env) fun x l₁ => EvV c l₁ (eval b env) fun y l₂ => ∀ v u, Rep v x → Rep u y → EvV c l₂ (compareOp op v u) fun z l₃ => ∃ q, z = .bool q ∧ P q l₃) (hm : behindInMarks op b = false := by with_unfolding_all rfl) :
    Ev c l (isTrue (.Compare a [op] [b] pos) env whole) P := ev_test h hm
/-- two targets: the value goes to the first, then to the second -/
theorem s_assign2 {x y : Str} {i j : Nat} {p1 p2 pos : Pos} {e : Expr} {P : Flow → Ledger → Prop} {l₀ : Ledger} {L : Addr} {ns : List Str} (hE : EnvAt env L) (hx : Var env ns x i) (hy : Var env ns y j)
    (h : EvV c l₀ (eval e env) fun a l₁ => ∃ vs l₂, l₁ = (L, .ns (frm ns vs)) :: l₂ ∧ vs.length = ns.length ∧ P .next ((L, .ns (frm ns ((vs.set i (some a)).set j (some a)))) :: l₂))
    (hsw : swappedStores [.Name x p1, .Name y p2] e env = pure none := by with_unfolding_all rfl) : Ev c l₀ (exec (.Assign [.Name x p1, .Name y p2] e pos) env) P := fun s F O => by
  refine wpAny_Assign_two (Ev.runV h O fun v a h₁ tk₁ l₁ O₁ r ⟨vs, l₂, e1, hn, p⟩ => ?_) 
  subst e1
  refine wpAny_assign_Name (Ev.run (e_set (P := fun _ l' => l' = (L, .ns (frm ns (vs.set i (some a)))) :: l₂) hE hx hn r rfl) O₁ fun _ h₂ tk₂ l₃ O₂ e2 => ?_)
  subst e2
  refine wpAny_assign_Name (Ev.run (e_set (P := fun _ l' => l' = (L, .ns (frm ns ((vs.set i (some a)).set j (some a)))) :: l₂) hE hy (by rw [List.length_set]; exact hn) r rfl) O₂ fun _ h₃ tk₃ l₄ O₃ e3 => ?_)
  subst e3
  exact (postI h₃ tk₃ _ rfl O₃ p)
/-- unpack a tuple: its items -/
theorem v_unpack {K : Params → Frag} {n k : Nat} {a : Addr} {xs : List AV} {v : Value} {P : List Value → Ledger → Prop} (ok : Ok K c n) (r : Rep v (.ref a)) (hm : (a, Ent.tup xs) ∈ l) (hk : k = xs.length) (h : ∀ vs, Reps vs xs → P vs l) : Ev c l (unpackItems v k none) P := fun s F O => by
  obtain ⟨_, rfl⟩ := r
  refine byG fun gG kgG => ?_
  obtain ⟨vs, m, hl, hr⟩ := Own.isTup O (List.mem_append_left _ hm)
  refine kgG ?_
  clear kgG gG
  have ht : IsTup s.heap a vs.toArray := ⟨_, hl, rfl, m, rfl⟩
  have hk' : k = vs.toArray.size := by rw [List.size_toArray, hr.length, hk]
  subst hk'
  refine unpackItems_tuple ok.hh ht fun h' he => (postI h' s.toks l rfl (O.grow fun b o e => he b o (Nat.ne_of_lt (Heap.lt_size e)) e) (h vs hr))
/-- a, b = (.., ..) -/
theorem s_swap {K : Params → Frag} {n : Nat} {x y : Str} {i j : Nat} {p1 p2 tp pos : Pos} {k : Nat} {e : Expr} {P : Flow → Ledger → Prop} {l₀ : Ledger} {L : Addr} {ns : List Str} (ok : Ok K c n) (hE : EnvAt env L) (hx : Var env ns x i) (hy : Var env ns y j)
    (h : EvV c l₀ (eval e env) fun a l₁ => ∃ t p q vs l₂, a = .ref t ∧ l₁ = (t, .tup [p, q]) :: (L, .ns (frm ns vs)) :: l₂ ∧ vs.length = ns.length ∧ P .next ((L, .ns (frm ns ((vs.set j (some q)).set i (some p)))) :: l₂))
    (hs : swapsWithSole [.Tuple [.Name x p1, .Name y p2] k tp] e pos.line env = pure false := by with_unfolding_all rfl)
    (hw : swappedStores [.Tuple [.Name x p1, .Name y p2] k tp] e env = pure (some [x, y]) := by with_unfolding_all rfl) : Ev c l₀ (exec (.Assign [.Tuple [.Name x p1, .Name y p2] k tp] e pos) env) P := fun s F O => by
  refine Assign_Tuple_swapped (names := [x, y]) (Ev.runV h O fun v a h₁ tk₁ l₁ O₁ r ⟨t, p, q, vs, l₂, e1, e2, hn, hp⟩ => ?_) hs hw
  subst e1 e2
  refine Ev.run (v_unpack (P := fun vs' l' => Reps vs' [p, q] ∧ l' = (t, .tup [p, q]) :: (L, .ns (frm ns vs)) :: l₂) ok r (.head _) rfl fun vs' hr => ⟨hr, rfl⟩) O₁ fun us h₂ tk₂ l₃ O₂ ⟨hr, e3⟩ => ?_
  subst e3
  cases hr with
  | @cons v1 _ _ _ r1 hr =>
  cases hr with
  | @cons v2 _ _ _ r2 hr =>
  cases hr
  show wpAny c.M c.A (do holding [v1] (bindName env y v2); (do holding [] (bindName env x v1); (pure () : Sem Unit))) _ _ _
  refine wpAny_bind (wpAny_holding (wpAny_bindName ?_))
  refine Ev.run (e_set (P := fun _ l' => l' = (L, .ns (frm ns (vs.set j (some q)))) :: l₂) hE hy hn r2 rfl) (Own.tail O₂) fun _ h₃ tk₃ l₄ O₃ e3 => ?_
  subst e3
  refine wpAny_bind (wpAny_holding (wpAny_bindName ?_))
  refine Ev.run (e_set (P := fun _ l' => l' = (L, .ns (frm ns ((vs.set j (some q)).set i (some p)))) :: l₂) hE hx (by rw [List.length_set]; exact hn) r1 rfl) O₃ fun _ h₄ tk₄ l₅ O₄ e4 => ?_
  subst e4
  exact wpAny_pure (postI h₄ tk₄ _ rfl O₄ hp)
end
end Mine
end
section
open PySem PySem.W PyProof.Rows
set_option linter.unusedVariables false
set_option maxRecDepth 100000
namespace Mine
theorem if_t {A B : Prop} (h : A) : if true = true then A else B := by rw [if_pos rfl]; exact h
theorem if_f {A B : Prop} (h : B) : if false = true then A else B := by rw [if_neg Bool.false_ne_true]; exact h
section
variable {c : Cx} {env : Env} {l F : Ledger} {f : Str} {np pos : Pos} {P : AV → Ledger → Prop}
/-! calls of built-ins by name, whole -/
theorem e_lenStr {e : Expr} (hg : Glo c env f (.val (.builtin "len"))) (h : EvV c l (eval e env) fun a l₁ => ∃ x, a = .str x ∧ x.length < 2 ^ 63 ∧ P (.int x.length) l₁)
    (he : starEach [e] env = (false, eval e env) :: starEach [] env := by with_unfolding_all rfl) : EvV c l (eval (.Call (.Name f np) [e] [] pos) env) P :=
  e_callB (e_glo hg ⟨_, rfl, rfl, ev_items_cons (h.mono fun a l₁ ⟨x, e1, hz, p⟩ v r => ev_items_nil (v_lenStr (by subst e1; exact r) hz p)) he⟩) he rfl
theorem e_lenList {e : Expr} (hg : Glo c env f (.val (.builtin "len"))) (h : EvV c l (eval e env) fun a l₁ => ∃ q xs, a = .ref q ∧ (q, Ent.list xs) ∈ l₁ ∧ xs.length < 2 ^ 63 ∧ P (.int xs.length) l₁)
    (he : starEach [e] env = (false, eval e env) :: starEach [] env := by with_unfolding_all rfl) : EvV c l (eval (.Call (.Name f np) [e] [] pos) env) P :=
  e_callB (e_glo hg ⟨_, rfl, rfl, ev_items_cons (h.mono fun a l₁ ⟨q, xs, e1, hm, hz, p⟩ v r => ev_items_nil (v_lenList (by subst e1; exact r) hm hz p)) he⟩) he rfl
theorem e_min2 {K : Params → Frag} {n : Nat} {a b : Expr} (ok : Ok K c n) (hg : Glo c env f (.val (.builtin "min"))) (h : EvV c l (eval a env) fun x l₁ => EvV c l₁ (eval b env) fun y l₂ => ∃ i j, x = .int i ∧ y = .int j ∧ P (.int (min i j)) l₂)
    (he : starEach [a, b] env = (false, eval a env) :: starEach [b] env := by with_unfolding_all rfl) (he' : starEach [b] env = (false, eval b env) :: starEach [] env := by with_unfolding_all rfl) : EvV c l (eval (.Call (.Name f np) [a, b] [] pos) env) P :=
  e_callB (e_glo hg ⟨_, rfl, rfl, ev_items_cons (h.mono fun x l₁ h₁ v r => ev_items_cons (h₁.mono fun y l₂ ⟨i, j, e1, e2, p⟩ u r' => ev_items_nil (v_min2 ok (by subst e1; exact r) (by subst e2; exact r') p)) he') he⟩) he (by rw [he']; rfl)
theorem e_min3 {K : Params → Frag} {n : Nat} {a b d : Expr} (ok : Ok K c n) (hg : Glo c env f (.val (.builtin "min"))) (h : EvV c l (eval a env) fun x l₁ => EvV c l₁ (eval b env) fun y l₂ => EvV c l₂ (eval d env) fun z l₃ => ∃ i j k, x = .int i ∧ y = .int j ∧ z = .int k ∧ P (.int (min (min i j) k)) l₃)
    (he : starEach [a, b, d] env = (false, eval a env) :: starEach [b, d] env := by with_unfolding_all rfl) (he' : starEach [b, d] env = (false, eval b env) :: starEach [d] env := by with_unfolding_all rfl) (he'' : starEach [d] env = (false, eval d env) :: starEach [] env := by with_unfolding_all rfl) : EvV c l (eval (.Call (.Name f np) [a, b, d] [] pos) env) P :=
  e_callB (e_glo hg ⟨_, rfl, rfl, ev_items_cons (h.mono fun x l₁ h₁ v r => ev_items_cons (h₁.mono fun y l₂ h₂ u r' => ev_items_cons (h₂.mono fun z l₃ ⟨i, j, k, e1, e2, e3, p⟩ w r'' => ev_items_nil (v_min3 ok (by subst e1; exact r) (by subst e2; exact r') (by subst e3; exact r'') p)) he'') he') he⟩) he (by rw [he', he'']; rfl)
theorem e_range1 {a : Expr} (hg : Glo c env f (.val (.type "range"))) (h : EvV c l (eval a env) fun x l₁ => ∃ i, x = .int i ∧ ∀ r, P (.ref r) ((r, rng 0 i 1) :: l₁))
    (he : starEach [a] env = (false, eval a env) :: starEach [] env := by with_unfolding_all rfl) : EvV c l (eval (.Call (.Name f np) [a] [] pos) env) P :=
  e_callB (e_glo hg ⟨_, rfl, rfl, ev_items_cons (h.mono fun x l₁ ⟨i, e1, p⟩ v r => ev_items_nil (v_range1 (by subst e1; exact r) p)) he⟩) he rfl
theorem e_range2 {a b : Expr} (hg : Glo c env f (.val (.type "range"))) (h : EvV c l (eval a env) fun x l₁ => EvV c l₁ (eval b env) fun y l₂ => ∃ i j, x = .int i ∧ y = .int j ∧ ∀ r, P (.ref r) ((r, rng i j 1) :: l₂))
    (he : starEach [a, b] env = (false, eval a env) :: starEach [b] env := by with_unfolding_all rfl) (he' : starEach [b] env = (false, eval b env) :: starEach [] env := by with_unfolding_all rfl) : EvV c l (eval (.Call (.Name f np) [a, b] [] pos) env) P :=
  e_callB (e_glo hg ⟨_, rfl, rfl, ev_items_cons (h.mono fun x l₁ h₁ v r => ev_items_cons (h₁.mono fun y l₂ ⟨i, j, e1, e2, p⟩ u r' => ev_items_nil (v_range2 (by subst e1; exact r) (by subst e2; exact r') p)) he') he⟩) he (by rw [he']; rfl)
theorem e_range3 {a b d : Expr} (hg : Glo c env f (.val (.type "range"))) (h : EvV c l (eval a env) fun x l₁ => EvV c l₁ (eval b env) fun y l₂ => EvV c l₂ (eval d env) fun z l₃ => ∃ i j k, x = .int i ∧ y = .int j ∧ z = .int k ∧ k ≠ 0 ∧ k.natAbs < 1073741824 ∧ ∀ r, P (.ref r) ((r, rng i j k) :: l₃))
    (he : starEach [a, b, d] env = (false, eval a env) :: starEach [b, d] env := by with_unfolding_all rfl) (he' : starEach [b, d] env = (false, eval b env) :: starEach [d] env := by with_unfolding_all rfl) (he'' : starEach [d] env = (false, eval d env) :: starEach [] env := by with_unfolding_all rfl) : EvV c l (eval (.Call (.Name f np) [a, b, d] [] pos) env) P :=
  e_callB (e_glo hg ⟨_, rfl, rfl, ev_items_cons (h.mono fun x l₁ h₁ v r => ev_items_cons (h₁.mono fun y l₂ h₂ u r' => ev_items_cons (h₂.mono fun z l₃ ⟨i, j, k, e1, e2, e3, h0, hs, p⟩ w r'' => ev_items_nil (v_range3 (by subst e1; exact r) (by subst e2; exact r') (by subst e3; exact r'') h0 hs p)) he'') he') he⟩) he (by rw [he', he'']; rfl)
theorem e_listRange {K : Params → Frag} {n k : Nat} {a : Expr} (ok : Ok K c n) (hg : Glo c env f (.val (.type "list"))) (h : EvV c l (eval a env) fun x l₁ => ∃ r i j st k l₂, x = .ref r ∧ l₁ = (r, rng i j st) :: l₂ ∧ Builtin.Range.small i j st = true ∧ Builtin.Range.rangeSize i j st = (k : Nat) ∧ k ≤ 2 ^ 24 ∧ ∀ q, P (.ref q) ((q, .list (rangeItems i st k)) :: l₂))
    (he : starEach [a] env = (false, eval a env) :: starEach [] env := by with_unfolding_all rfl) : EvV c l (eval (.Call (.Name f np) [a] [] pos) env) P :=
  e_callB (e_glo hg ⟨_, rfl, rfl, ev_items_cons (h.mono fun x l₁ ⟨r, i, j, st, k, l₂, e1, e2, hs, hk, hz, p⟩ v rv => ev_items_nil (by
    subst e1 e2
    refine Ev.after (v_listRange (P := fun a l' => ∃ q, a = .ref q ∧ l' = (q, .list (rangeItems i st k)) :: (r, rng i j st) :: l₂) ok rv (.head _) hs hk hz fun q => ⟨q, rfl, rfl⟩) fun v l' h' F ⟨a, ra, q, e3, e4⟩ O => ?_
    subst e3 e4
    exact ⟨_, O.sub (((List.sublist_cons_self _ _).cons_cons _).append_right F), _, ra, p q⟩)) he⟩) he rfl
/-- a for over range(..), its range object dropped -/
theorem s_forRange {K : Params → Frag} {n : Nat} {x : Str} {p' : Pos} {iter : Expr} {body : List Stmt} {P : Flow → Ledger → Prop} (ok : Ok K c n) (J : Nat → Ledger → Prop) (a : Int) (k : Nat)
    (h : EvV c l (eval iter env) fun v l₁ => ∃ r b l₂, v = .ref r ∧ l₁ = (r, rng a b 1) :: l₂ ∧ Builtin.Range.small a b 1 = true ∧ Builtin.Range.rangeSize a b 1 = k ∧ J 0 l₂)
    (turn : ∀ i l, i < k → J i l → ∀ v, Rep v (.int (a + i)) → Ev c l (storeName env x v) fun _ l₁ => Ev c l₁ (execs body env) fun f l₂ => match f with | .next | .cont => J (i + 1) l₂ | .brk => P .next l₂ | .ret v => P (.ret v) l₂)
    (done : ∀ l, J k l → P .next l) (hs : ∀ x, foldedSetIterable iter env x = pure x := by intro _; with_unfolding_all rfl) :
    Ev c l (exec (.For (.Name x p') iter body [] pos) env) P := by
  refine ev_For J (rangeItems a 1 k) [] (h.mono fun v l₁ ⟨r, b, l₂, e1, e2, hsm, hk, hJ⟩ u ru => ?_) (fun _ _ _ p hp => nomatch hp) (fun i av l hi hJ v rv => ?_) (fun l hJ => done l (by simpa [rangeItems] using hJ)) hs
  · subst e1 e2
    refine Ev.after (v_iterRange (P := fun it l' => ∃ I, it = .ref I ∧ It c I (rangeItems a 1 k) (fun i => rangeIter (a + (i : Nat) * 1) ((k : Int) - (i : Nat)) 1) [] ∧ l' = (I, rangeIter (a + (0 : Nat) * 1) ((k : Int) - (0 : Nat)) 1) :: (r, rng a b 1) :: l₂) ok ru (.head _) hsm hk fun I hI => ⟨I, rfl, hI, rfl⟩) fun it l' h' F ⟨I, e1, hI, e2⟩ O => ?_
    subst e1 e2
    exact ⟨_, O.sub (((List.sublist_cons_self _ _).cons_cons _).append_right F), I, _, l₂, rfl, rfl, hI, hJ⟩
  · obtain ⟨hlt, rfl⟩ := rangeItems_get hi
    rw [Int.mul_one] at rv
    exact turn i l hlt hJ v rv
end
theorem small_of {a b : Int} (ha : -1000000 ≤ a) (ha' : a ≤ 1000000) (hb : -1000000 ≤ b) (hb' : b ≤ 1000000) : Builtin.Range.small a b 1 = true := by
  unfold Builtin.Range.small Builtin.Range.rangeFitsLong Builtin.Range.rangeSize
  simp only [show (1 : Int) > 0 by decide, if_true, Bool.and_eq_true, Bool.or_eq_true, decide_eq_true_eq, beq_iff_eq]
  by_cases h : a < b
  · simp only [h, if_true, Int.ediv_one]; refine ⟨⟨⟨⟨?_, ?_⟩, ?_⟩, ?_⟩, Or.inr ?_⟩ <;> lia
  · simp only [h, if_false]; refine ⟨⟨⟨⟨?_, ?_⟩, ?_⟩, ?_⟩, Or.inl trivial⟩ <;> lia
theorem size_of {a b : Int} (h : a ≤ b) : Builtin.Range.rangeSize a b 1 = ((b - a).toNat : Nat) := by
  unfold Builtin.Range.rangeSize
  simp only [show (1 : Int) > 0 by decide, if_true]
  by_cases h' : a < b
  · simp only [h', if_true, Int.ediv_one]; lia
  · simp only [h', if_false]; lia
/-! ## parts of the text kept out of sight while the others are walked -/
structure Is (R S : List Stmt) : Prop where
  eq : R = S
theorem small0 {n : Nat} (h : n ≤ 1000000) : Builtin.Range.small 0 n 1 = true := small_of (by decide) (by decide) (by lia) (by lia)
theorem size0 {n : Nat} : Builtin.Range.rangeSize 0 n 1 = (n : Int) := by rw [size_of (Int.natCast_nonneg n)]; simp
theorem nn_lo (p : Nat) : (-(2 ^ 63) : Int) ≤ (p : Int) := by lia
theorem nn_neg (p : Nat) : ¬ (p : Int) < 0 := by lia
section
variable {c : Cx} {env : Env} {l : Ledger} {P : Flow → Ledger → Prop}
theorem ev_open {R S : List Stmt} (h : Is R S) (k : Ev c l (execs S env) P) : Ev c l (execs R env) P := by rw [h.eq]; exact k
/-- the statements that are left -/
noncomputable def Seq (c : Cx) (env : Env) (R : List Stmt) (P : Flow → Ledger → Prop) (f : Flow) (l₁ : Ledger) : Prop := match f with | .next => Ev c l₁ (execs R env) P | f => P f l₁
theorem seq_next {R : List Stmt} (h : Ev c l (execs R env) P) : Seq c env R P .next l := h
theorem seq_cont {R : List Stmt} (h : P .cont l) : Seq c env R P .cont l := h
theorem seq_brk {R : List Stmt} (h : P .brk l) : Seq c env R P .brk l := h
theorem seq_ret {R : List Stmt} {v : Value} (h : P (.ret v) l) : Seq c env R P (.ret v) l := h
theorem ev_cons' {st : Stmt} {rest : List Stmt} (h : ∀ R, Is R rest → Ev c l (exec st env) (Seq c env R P)) : Ev c l (execs (st :: rest) env) P := ev_cons (h rest ⟨rfl⟩)
theorem ev_If' {t : Expr} {a b : List Stmt} {pos : Pos} (h : ∀ A B, Is A a → Is B b → Ev c l (isTrue t env (eval t env)) fun q l₁ => if q then Ev c l₁ (execs A env) P else Ev c l₁ (execs B env) P) : Ev c l (exec (.If t a b pos) env) P := ev_If (h a b ⟨rfl⟩ ⟨rfl⟩)
theorem ev_While' {t : Expr} {body : List Stmt} {pos : Pos} (I : Nat → Ledger → Prop)
    (turn : ∀ B, Is B body → ∀ n l, I n l → Ev c l (isTrue t env (eval t env)) fun b l₁ => if b then Ev c l₁ (execs B env) (fun f l₂ => match f with | .next | .cont => ∃ m, m < n ∧ I m l₂ | .brk => P .next l₂ | .ret v => P (.ret v) l₂) else P .next l₁)
    (n : Nat) (h : I n l) : Ev c l (exec (.While t body [] pos) env) P := ev_While I (turn body ⟨rfl⟩) n h
end
theorem swapped_two {env : Env} {x y : Str} {p1 p2 tp q1 q2 tp' : Pos} {k k' : Nat} {x' y' : Str} (hk : env.scope.kind = .function) (hx : env.kindOf x = some .local) (hy : env.kindOf y = some .local) (hne : x ≠ y) (hl : p1.line = p2.line) (hd : (x' == ("__debug__" : Str)) = false) :
    swappedStores [.Tuple [.Name x p1, .Name y p2] k tp] (.Tuple [.Name x' q1, .Name y' q2] k' tp') env = pure (some [x, y]) := by
  have hb : env.blockKind = .function := by simp [Env.blockKind, hk, ScopeKind.isAnnotationScope]
  have e : (y == x) = false := by simpa using fun h => hne h.symm
  have f1 : foldedForSure 8 (.Name x' q1) = false := by with_unfolding_all rfl
  have f2 : constantsAlone 8 (.Name x' q1) = false := by
    have : constantsAlone 8 (.Name x' q1) = (x' == ("__debug__" : Str)) := by with_unfolding_all rfl
    rw [this, hd]
  have h1 : (some NameKind.local == some NameKind.local && p2.line == p2.line) = true := by rw [beq_self_eq_true, beq_self_eq_true]; rfl
  delta swappedStores
  dsimp only [List.any, List.all, List.length, List.head?, Option.map, Option.getD, List.filterMap, Expr.pos]
  simp only [hb, hx, hy, hl, h1, if_true, List.eraseDups, List.eraseDupsBy]
  dsimp only [List.eraseDupsBy.loop, List.any, List.length, List.reverse, List.reverseAux]
  simp only [e, f1, f2]
  rfl
/-- the value is a thing that was just made -/
theorem s_assignNew {c : Cx} {env : Env} {L : Addr} {ns : List Str} {x : Str} {i : Nat} {p' pos : Pos} {e : Expr} {P : Flow → Ledger → Prop} {l₀ : Ledger} (hE : EnvAt env L) (hx : Var env ns x i)
    (h : EvV c l₀ (eval e env) fun a l₁ => ∃ q vs l₂, l₁ = q :: (L, .ns (frm ns vs)) :: l₂ ∧ vs.length = ns.length ∧ P .next ((L, .ns (frm ns (vs.set i (some a)))) :: q :: l₂))
    (hs : swapsWith e (some (.Name x p')) pos.line env = pure false := by with_unfolding_all rfl) : Ev c l₀ (exec (.Assign [.Name x p'] e pos) env) P :=
  ev_Assign (h.mono fun a l₁ ⟨q, vs, l₂, e1, hn, p⟩ v r => by subst e1; exact Ev.perm (List.Perm.swap _ _ _) (e_set hE hx hn r p)) hs
end Mine
end
section
namespace Mine
/-! # plain: the distance of two rows of signs, by alignments -/
noncomputable def sc (x y : Nat) : Nat := if x = y then 0 else 2
noncomputable def D : List Nat → List Nat → Nat
  | [], b => 2 * b.length
  | x :: a, [] => 2 * (a.length + 1)
  | x :: a, y :: b => min (min (D a (y :: b) + 2) (D (x :: a) b + 2)) (D a b + sc x y)
termination_by a b => a.length + b.length
inductive Al : List Nat → List Nat → Nat → Prop where
  | nil : Al [] [] 0
  | del {a b n} (x : Nat) : Al a b n → Al (x :: a) b (n + 2)
  | ins {a b n} (y : Nat) : Al a b n → Al a (y :: b) (n + 2)
  | sub {a b n} (x y : Nat) : Al a b n → Al (x :: a) (y :: b) (n + sc x y)
theorem D_nil (b : List Nat) : D [] b = 2 * b.length := by unfold D; rfl
theorem D_nil' (a : List Nat) : D a [] = 2 * a.length := by cases a <;> (unfold D; simp)
theorem D_cons (x y : Nat) (a b : List Nat) : D (x :: a) (y :: b) = min (min (D a (y :: b) + 2) (D (x :: a) b + 2)) (D a b + sc x y) := by rw [D]
theorem Al.insAll (b : List Nat) : Al [] b (2 * b.length) := by
  induction b with
  | nil => exact .nil
  | cons y b ih => have := Al.ins y ih; rw [List.length_cons]; exact (show 2 * (b.length + 1) = 2 * b.length + 2 by lia) ▸ this
theorem Al.delAll (a : List Nat) : Al a [] (2 * a.length) := by
  induction a with
  | nil => exact .nil
  | cons y b ih => have := Al.del y ih; rw [List.length_cons]; exact (show 2 * (b.length + 1) = 2 * b.length + 2 by lia) ▸ this
theorem Al_D : ∀ (k : Nat) (a b : List Nat), a.length + b.length ≤ k → Al a b (D a b)
  | k, [], b, _ => by rw [D_nil]; exact Al.insAll b
  | k, x :: a, [], _ => by rw [D_nil']; exact Al.delAll _
  | 0, x :: a, y :: b, h => by simp at h
  | k + 1, x :: a, y :: b, h => by
    simp only [List.length_cons] at h
    rw [D_cons]
    have h1 := Al.del x (Al_D k a (y :: b) (by simp only [List.length_cons]; lia))
    have h2 := Al.ins y (Al_D k (x :: a) b (by simp only [List.length_cons]; lia))
    have h3 := Al.sub x y (Al_D k a b (by lia))
    rcases Nat.le_total (D a (y :: b) + 2) (D (x :: a) b + 2) with p | p
    · rw [Nat.min_eq_left p]
      rcases Nat.le_total (D a (y :: b) + 2) (D a b + sc x y) with q | q
      · rw [Nat.min_eq_left q]; exact h1
      · rw [Nat.min_eq_right q]; exact h3
    · rw [Nat.min_eq_right p]
      rcases Nat.le_total (D (x :: a) b + 2) (D a b + sc x y) with q | q
      · rw [Nat.min_eq_left q]; exact h2
      · rw [Nat.min_eq_right q]; exact h3
theorem Al.D (a b : List Nat) : Al a b (D a b) := Al_D _ a b (Nat.le_refl _)
theorem D_del (x : Nat) (a b : List Nat) : D (x :: a) b ≤ D a b + 2 := by
  cases b with
  | nil => rw [D_nil', D_nil', List.length_cons]; exact Nat.le_refl _
  | cons y b => rw [D_cons]; exact Nat.le_trans (Nat.min_le_left _ _) (Nat.min_le_left _ _)
theorem D_ins (y : Nat) (a b : List Nat) : D a (y :: b) ≤ D a b + 2 := by
  cases a with
  | nil => rw [D_nil, D_nil, List.length_cons]; exact Nat.le_refl _
  | cons x a => rw [D_cons]; exact Nat.le_trans (Nat.min_le_left _ _) (Nat.min_le_right _ _)
theorem D_le {a b : List Nat} {n : Nat} (h : Al a b n) : D a b ≤ n := by
  induction h with
  | nil => rw [D_nil]; exact Nat.le_refl _
  | del x _ ih => exact Nat.le_trans (D_del _ _ _) (Nat.add_le_add_right ih 2)
  | ins y _ ih => exact Nat.le_trans (D_ins _ _ _) (Nat.add_le_add_right ih 2)
  | sub x y _ ih => rw [D_cons]; exact Nat.le_trans (Nat.min_le_right _ _) (Nat.add_le_add_right ih _)
theorem Al.append {a b a' b' : List Nat} {n n' : Nat} (h : Al a b n) (h' : Al a' b' n') : Al (a ++ a') (b ++ b') (n + n') := by
  induction h with
  | nil => simpa using h'
  | @del a b n x _ ih => have := Al.del x ih; exact (show n + 2 + n' = n + n' + 2 by lia) ▸ this
  | @ins a b n y _ ih => have := Al.ins y ih; exact (show n + 2 + n' = n + n' + 2 by lia) ▸ this
  | @sub a b n x y _ ih => have := Al.sub x y ih; exact (show n + sc x y + n' = n + n' + sc x y by lia) ▸ this
theorem Al.reverse {a b : List Nat} {n : Nat} (h : Al a b n) : Al a.reverse b.reverse n := by
  induction h with
  | nil => exact .nil
  | @del a b n x _ ih =>
    rw [List.reverse_cons]
    have := ih.append (Al.del x Al.nil)
    simpa using this
  | @ins a b n y _ ih =>
    rw [List.reverse_cons]
    have := ih.append (Al.ins y Al.nil)
    simpa using this
  | @sub a b n x y _ ih =>
    rw [List.reverse_cons, List.reverse_cons]
    have := ih.append (Al.sub x y Al.nil)
    simpa using this
theorem D_reverse (a b : List Nat) : D a.reverse b.reverse = D a b := by
  apply Nat.le_antisymm
  · exact D_le (Al.D a b).reverse
  · have := D_le (Al.D a.reverse b.reverse).reverse
    simpa using this
theorem Al.symm {a b : List Nat} {n : Nat} (h : Al a b n) : Al b a n := by
  induction h with
  | nil => exact .nil
  | del x _ ih => exact .ins x ih
  | ins y _ ih => exact .del y ih
  | @sub a b n x y _ ih =>
    have e : sc x y = sc y x := by unfold sc; by_cases h : x = y <;> simp [h, eq_comm]
    rw [e]; exact .sub y x ih
theorem D_symm (a b : List Nat) : D a b = D b a := Nat.le_antisymm (D_le (Al.D b a).symm) (D_le (Al.D a b).symm)
theorem Al.split {a b₁ b₂ : List Nat} {n : Nat} (h : Al a (b₁ ++ b₂) n) : ∃ a₁ a₂ n₁ n₂, a = a₁ ++ a₂ ∧ Al a₁ b₁ n₁ ∧ Al a₂ b₂ n₂ ∧ n = n₁ + n₂ := by
  generalize hb : b₁ ++ b₂ = b at h
  induction h generalizing b₁ with
  | nil =>
    obtain ⟨rfl, rfl⟩ := List.append_eq_nil_iff.mp hb
    exact ⟨[], [], 0, 0, rfl, .nil, .nil, rfl⟩
  | @del a b n x _ ih =>
    obtain ⟨a₁, a₂, n₁, n₂, rfl, h1, h2, rfl⟩ := ih hb
    exact ⟨x :: a₁, a₂, n₁ + 2, n₂, rfl, .del x h1, h2, by lia⟩
  | @ins a b n y hA ih =>
    cases b₁ with
    | nil =>
      simp at hb; subst hb
      exact ⟨[], a, 0, n + 2, rfl, .nil, .ins y hA, by lia⟩
    | cons z b₁ =>
      simp at hb
      obtain ⟨rfl, hb⟩ := hb
      obtain ⟨a₁, a₂, n₁, n₂, rfl, h1, h2, rfl⟩ := ih hb
      exact ⟨a₁, a₂, n₁ + 2, n₂, rfl, .ins z h1, h2, by lia⟩
  | @sub a b n x y hA ih =>
    cases b₁ with
    | nil =>
      simp at hb; subst hb
      exact ⟨[], x :: a, 0, n + sc x y, rfl, .nil, .sub x y hA, by lia⟩
    | cons z b₁ =>
      simp at hb
      obtain ⟨rfl, hb⟩ := hb
      obtain ⟨a₁, a₂, n₁, n₂, rfl, h1, h2, rfl⟩ := ih hb
      exact ⟨x :: a₁, a₂, n₁ + sc x z, n₂, rfl, .sub x z h1, h2, by lia⟩
/-- one sign less changes at most 2 -/
theorem Al.unins {a b : List Nat} {y : Nat} {n : Nat} (h : Al a (y :: b) n) : ∃ m, m ≤ n + 2 ∧ Al a b m := by
  generalize hb : y :: b = b' at h
  induction h with
  | nil => cases hb
  | @del a b' n x _ ih => obtain ⟨m, hm, hA⟩ := ih hb; exact ⟨m + 2, by lia, .del x hA⟩
  | @ins a b' n z hA _ => cases hb; exact ⟨n, by lia, hA⟩
  | @sub a b' n x z hA _ => cases hb; exact ⟨n + 2, by lia, .del x hA⟩
theorem Al.undel {a b : List Nat} {x : Nat} {n : Nat} (h : Al (x :: a) b n) : ∃ m, m ≤ n + 2 ∧ Al a b m := by
  obtain ⟨m, hm, hA⟩ := h.symm.unins
  exact ⟨m, hm, hA.symm⟩
theorem D_head (x : Nat) (a b : List Nat) : D (x :: a) (x :: b) = D a b := by
  apply Nat.le_antisymm
  · have := D_le (Al.sub x x (Al.D a b)); simpa [sc] using this
  · have h := Al.D (x :: a) (x :: b)
    generalize D (x :: a) (x :: b) = n at h
    cases h with
    | @del _ _ n _ h => obtain ⟨m, hm, hA⟩ := h.unins; exact Nat.le_trans (D_le hA) hm
    | @ins _ _ n _ h => obtain ⟨m, hm, hA⟩ := h.undel; exact Nat.le_trans (D_le hA) hm
    | @sub _ _ n _ _ h => exact Nat.le_trans (D_le h) (Nat.le_add_right _ _)
theorem D_last (x : Nat) (a b : List Nat) : D (a ++ [x]) (b ++ [x]) = D a b := by
  rw [← D_reverse, List.reverse_append, List.reverse_append]
  show D (x :: a.reverse) (x :: b.reverse) = _
  rw [D_head, D_reverse]
theorem D_snoc (x y : Nat) (a b : List Nat) : D (a ++ [x]) (b ++ [y]) = min (min (D a (b ++ [y]) + 2) (D (a ++ [x]) b + 2)) (D a b + sc x y) := by
  have e1 := D_reverse (a ++ [x]) (b ++ [y])
  have e2 := D_reverse a (b ++ [y])
  have e3 := D_reverse (a ++ [x]) b
  have e4 := D_reverse a b
  rw [List.reverse_append, List.reverse_append] at e1
  rw [List.reverse_append] at e2 e3
  change D (x :: a.reverse) (y :: b.reverse) = _ at e1
  change D a.reverse (y :: b.reverse) = _ at e2
  change D (x :: a.reverse) b.reverse = _ at e3
  rw [← e1, D_cons, e2, e3, e4]
theorem Al.len {a b : List Nat} {n : Nat} (h : Al a b n) : 2 * b.length ≤ 2 * a.length + n ∧ 2 * a.length ≤ 2 * b.length + n := by
  induction h with
  | nil => exact ⟨Nat.le_refl _, Nat.le_refl _⟩
  | del x _ ih => simp only [List.length_cons]; lia
  | ins y _ ih => simp only [List.length_cons]; lia
  | sub x y _ ih => simp only [List.length_cons]; lia
theorem D_len (a b : List Nat) : 2 * b.length ≤ 2 * a.length + D a b := (Al.D a b).len.1
theorem D_self (a : List Nat) : D a a = 0 := by
  induction a with
  | nil => rw [D_nil]; rfl
  | cons x a ih => rw [D_head, ih]
/-- every stage of the second text passes a place of the first, not the first place, at no more than the whole -/
theorem D_stage (a b : List Nat) (j : Nat) (ha : a ≠ []) (hj : j < b.length) : ∃ p, 1 ≤ p ∧ p ≤ a.length ∧ D (a.take p) (b.take (j + 1)) ≤ D a b := by
  have h := Al.D a b
  rw [← List.take_append_drop (j + 1) b] at h
  obtain ⟨a₁, a₂, n₁, n₂, e, h1, h2, hn⟩ := h.split
  rw [List.take_append_drop] at hn
  cases a₁ with
  | nil =>
    have hl := h1.len.1
    obtain ⟨x, r, rfl⟩ := List.exists_cons_of_ne_nil ha
    refine ⟨1, Nat.le_refl _, by simp, ?_⟩
    have hb : b.take (j + 1) = b.take j ++ [b[j]] := by rw [List.take_add_one, List.getElem?_eq_getElem hj]; rfl
    have hs := D_snoc x b[j] [] (b.take j)
    simp only [List.nil_append] at hs
    have h0 : D [] (b.take j) = 2 * j := by rw [D_nil, List.length_take]; lia
    rw [show (x :: r).take 1 = [x] from rfl, hb, hs, h0]
    have : sc x b[j] ≤ 2 := by unfold sc; split <;> lia
    rw [List.length_take, List.length_nil] at hl
    lia
  | cons x a₁ =>
    refine ⟨(x :: a₁).length, by simp, by rw [e]; simp, ?_⟩
    rw [e, List.take_left']
    · have := D_le h1; rw [← e]; lia
    · rfl
theorem min3_cases (a b c : Int) : min (min a b) c = a ∨ min (min a b) c = b ∨ min (min a b) c = c := by
  rcases Int.le_total (min a b) c with h | h
  · rw [Int.min_eq_left h]
    rcases Int.le_total a b with h | h
    · exact .inl (Int.min_eq_left h)
    · exact .inr (.inl (Int.min_eq_right h))
  · exact .inr (.inr (Int.min_eq_right h))
theorem nmin3_cases (a b c : Nat) : min (min a b) c = a ∨ min (min a b) c = b ∨ min (min a b) c = c := by
  rcases Nat.le_total (min a b) c with h | h
  · rw [Nat.min_eq_left h]
    rcases Nat.le_total a b with h | h
    · exact .inl (Nat.min_eq_left h)
    · exact .inr (.inl (Nat.min_eq_right h))
  · exact .inr (.inr (Nat.min_eq_right h))
theorem low_arith {o1 o2 o3 : Int} {c D1 D2 D3 S : Nat} (h1 : o1 ≤ ((c + D1 : Nat) : Int)) (h2 : o2 ≤ ((c + D2 : Nat) : Int)) (h3 : o3 ≤ ((c + D3 : Nat) : Int)) :
    min (min (o1 + (S : Nat)) (o2 + 2)) (o3 + 2) ≤ ((c + min (min (D2 + 2) (D3 + 2)) (D1 + S) : Nat) : Int) := by
  have k1 : min (min (o1 + (S : Nat)) (o2 + 2)) (o3 + 2) ≤ o1 + (S : Nat) := Int.le_trans (Int.min_le_left _ _) (Int.min_le_left _ _)
  have k2 : min (min (o1 + (S : Nat)) (o2 + 2)) (o3 + 2) ≤ o2 + 2 := Int.le_trans (Int.min_le_left _ _) (Int.min_le_right _ _)
  have k3 : min (min (o1 + (S : Nat)) (o2 + 2)) (o3 + 2) ≤ o3 + 2 := Int.min_le_right _ _
  have k := nmin3_cases (D2 + 2) (D3 + 2) (D1 + S)
  generalize min (min (o1 + (S : Nat)) (o2 + 2)) (o3 + 2) = m at *
  generalize min (min (D2 + 2) (D3 + 2)) (D1 + S) = n at *
  rcases k with rfl | rfl | rfl
  · clear k1 k3 h1 h3; lia
  · clear k1 k2 h1 h2; lia
  · clear k2 k3 h2 h3; lia
theorem up1 {c D1 D2 D3 S : Nat} : ((c + min (min (D2 + 2) (D3 + 2)) (D1 + S) : Nat) : Int) ≤ ((c + D1 : Nat) : Int) + S := by
  have := Nat.min_le_right (min (D2 + 2) (D3 + 2)) (D1 + S)
  generalize min (min (D2 + 2) (D3 + 2)) (D1 + S) = n at *
  lia
theorem up2 {c D1 D2 D3 S : Nat} : ((c + min (min (D2 + 2) (D3 + 2)) (D1 + S) : Nat) : Int) ≤ ((c + D2 : Nat) : Int) + 2 := by
  have := Nat.le_trans (Nat.min_le_left (min (D2 + 2) (D3 + 2)) (D1 + S)) (Nat.min_le_left _ _)
  generalize min (min (D2 + 2) (D3 + 2)) (D1 + S) = n at *
  lia
theorem up3 {c D1 D2 D3 S : Nat} : ((c + min (min (D2 + 2) (D3 + 2)) (D1 + S) : Nat) : Int) ≤ ((c + D3 : Nat) : Int) + 2 := by
  have := Nat.le_trans (Nat.min_le_left (min (D2 + 2) (D3 + 2)) (D1 + S)) (Nat.min_le_right _ _)
  generalize min (min (D2 + 2) (D3 + 2)) (D1 + S) = n at *
  lia
theorem imin_cast (a b : Nat) : min (a : Int) (b : Int) = ((min a b : Nat) : Int) := by
  rcases Nat.le_total a b with h | h
  · rw [Nat.min_eq_left h, Int.min_eq_left (Int.ofNat_le.mpr h)]
  · rw [Nat.min_eq_right h, Int.min_eq_right (Int.ofNat_le.mpr h)]
theorem cell_arith (A B C S : Nat) : min (min (A : Int) (B : Int) + 2) ((C : Int) + (S : Int)) = ((min (min (A + 2) (B + 2)) (C + S) : Nat) : Int) := by
  rw [imin_cast A B, Nat.add_min_add_right, ← imin_cast (min A B + 2), Int.natCast_add, Int.natCast_add]; rfl
theorem cell_zero (j B S : Nat) (h : S ≤ 2) : min (min (2 * j : Int) (B : Int) + 2) (((2 * j : Nat) : Int) + (S : Int)) = ((min (min (2 * (j + 1) + 2) (B + 2)) (2 * j + S) : Nat) : Int) := by
  rw [← imin_cast, ← imin_cast]
  rcases Int.le_total (2 * j : Int) (B : Int) with h1 | h1
  · rw [Int.min_eq_left h1, Int.min_eq_right (by lia), Int.min_eq_right (by simp only [Int.natCast_add, Int.natCast_mul]; refine Int.le_min.mpr ⟨?_, ?_⟩ <;> lia)]
    lia
  · rw [Int.min_eq_right h1, Int.min_eq_right (a := ((2 * (j + 1) + 2 : Nat) : Int)) (by lia)]
    simp only [Int.natCast_add, Int.natCast_mul]; rfl
end Mine
end
section
open PySem PySem.W PyProof.Rows
set_option linter.unusedVariables false
set_option maxRecDepth 100000
namespace Mine
/-! ## more built-ins over lists -/
theorem ints_of_reps {vs : List Value} {ns : List Int} (h : Reps vs (ns.map AV.int)) : IntsAre vs ns := by
  induction ns generalizing vs with
  | nil => cases h; exact .nil
  | cons n r ih =>
    rw [List.map_cons] at h
    cases h with
    | cons h1 h2 => obtain ⟨t, rfl⟩ := h1; exact .cons _ _ (ih h2)
noncomputable def lmin : List Int → Int
  | [] => 0
  | [a] => a
  | a :: r => min a (lmin r)
theorem lmin_unique {ns : List Int} (hne : ns ≠ []) {M : Int} (h1 : M ∈ ns) (h2 : ∀ a ∈ ns, M ≤ a) : M = lmin ns := by
  have key : ∀ ns : List Int, ns ≠ [] → lmin ns ∈ ns ∧ ∀ a ∈ ns, lmin ns ≤ a := by
    intro ns
    induction ns with
    | nil => intro h; exact absurd rfl h
    | cons a r ih =>
      intro _
      cases r with
      | nil => exact ⟨by simp [lmin], fun b hb => by simp at hb; simp [lmin, hb]⟩
      | cons b r =>
        obtain ⟨i1, i2⟩ := ih (by simp)
        have e : lmin (a :: b :: r) = min a (lmin (b :: r)) := rfl
        rw [e]
        refine ⟨?_, fun c hc => ?_⟩
        · rcases Int.le_total a (lmin (b :: r)) with h | h
          · rw [Int.min_eq_left h]; exact .head _
          · rw [Int.min_eq_right h]; exact .tail _ i1
        · rcases List.mem_cons.mp hc with rfl | hc
          · lia
          · have := i2 c hc; lia
  obtain ⟨k1, k2⟩ := key ns hne
  have := h2 _ k1
  have := k2 _ h1
  lia
section
variable {c : Cx} {env : Env} {l F : Ledger}
theorem v_minList {K : Params → Frag} {n : Nat} {a : Addr} {ns : List Int} {v : Value} {P : AV → Ledger → Prop} (ok : Ok K c n) (r : Rep v (.ref a)) (hm : (a, Ent.list (ns.map AV.int)) ∈ l) (hne : ns ≠ []) (h : P (.int (lmin ns)) l) : EvV c l (call (.builtin "min") [v]) P := fun s F O => by
  obtain ⟨_, rfl⟩ := r
  obtain ⟨vs, hl, hr⟩ := O.isList (List.mem_append_left _ hm)
  have hi := ints_of_reps hr
  obtain ⟨xs, e⟩ := hi.allInts.items
  have hns : ns = xs.toList.map (·.1) := by rw [← hi.numsOf, ← nums_intItems, ← e]
  have hsz : 0 < xs.size := by
    have h3 : 0 < ns.length := List.length_pos_iff.mpr hne
    rw [hns, List.length_map, Array.length_toList] at h3; exact h3
  rw [e] at hl
  refine min_intList ok.hh hl hsz fun v h' tk hv hk => ?_
  obtain ⟨t, rfl⟩ := intItems_at hv
  obtain ⟨h1, h2⟩ := argBest_lt (numAt xs) (xs.size - 1)
  have e1 := lmin_unique (M := numAt xs (argBest (fun i j => decide (numAt xs i < numAt xs j)) (xs.size - 1))) hne (by
    rw [hns, numAt_eq]; exact getD_mem (by rw [List.length_map, Array.length_toList]; lia)) fun a ha => by
    rw [hns] at ha
    obtain ⟨j, hj, rfl⟩ := mem_getD ha
    rw [List.length_map, Array.length_toList] at hj
    rw [← numAt_eq]; exact h2 j (by lia)
  rw [e1]
  exact (postV h' tk l rfl (O.grow hk) _ (Rep.int_mk _ _) h)
theorem v_sumList {K : Params → Frag} {n : Nat} {a : Addr} {ns : List Int} {v : Value} {P : AV → Ledger → Prop} (ok : Ok K c n) (r : Rep v (.ref a)) (hm : (a, Ent.list (ns.map AV.int)) ∈ l) (h : P (.int ns.sum) l) : EvV c l (call (.builtin "sum") [v]) P := fun s F O => by
  obtain ⟨_, rfl⟩ := r
  obtain ⟨vs, hl, hr⟩ := O.isList (List.mem_append_left _ hm)
  have hi := ints_of_reps hr
  obtain ⟨xs, e⟩ := hi.allInts.items
  have hns : ns = xs.toList.map (·.1) := by rw [← hi.numsOf, ← nums_intItems, ← e]
  rw [e] at hl
  refine sum_intListG ok.hh hl fun h' tk t' hk => ?_
  have e1 : preSum (numAt xs) xs.size = ns.sum := by
    rw [preSum_eq, List.take_of_length_le (by simp), hns]
  rw [e1]
  exact (postV h' tk l rfl (O.grow hk) _ (Rep.int_mk _ _) h)
theorem v_in {a : Addr} {ns : List Int} {i : Int} {v u : Value} {P : AV → Ledger → Prop} (r : Rep v (.int i)) (r' : Rep u (.ref a)) (hm : (a, Ent.list (ns.map AV.int)) ∈ l) (h : P (.bool (!decide (i ∈ ns))) l) : EvV c l (compareOp .NotIn v u) P := fun s F O => by
  obtain ⟨t, rfl⟩ := r
  obtain ⟨_, rfl⟩ := r'
  obtain ⟨vs, hl, hr⟩ := O.isList (List.mem_append_left _ hm)
  refine PySem.SeqAt.notIn_listAt (fun y => match y with | .int j _ => j == i | _ => false) hl (fun y hy => ?_) ?_
  · have hy' : y ∈ vs := by simpa using hy
    obtain ⟨k, hk⟩ := List.getElem?_of_mem hy'
    obtain ⟨b, hb, ry⟩ := hr.get' hk
    rw [List.getElem?_map] at hb
    cases hn : ns[k]? with
    | none => rw [hn] at hb; simp at hb
    | some j =>
      rw [hn] at hb; simp at hb; subst hb
      obtain ⟨t', rfl⟩ := ry
      exact PySem.SeqAt.EqAt.int_int _ _ _ _
  · have e : (vs.toArray.any fun y => match y with | .int j _ => j == i | _ => false) = decide (i ∈ ns) := by
      rw [List.any_toArray]
      clear hl hm O h
      revert vs
      induction ns with
      | nil => intro vs hr; cases hr; simp
      | cons n r ih =>
        intro vs hr
        rw [List.map_cons] at hr
        cases hr with
        | cons h1 h2 =>
          obtain ⟨t', rfl⟩ := h1
          rw [List.any_cons, ih _ h2]
          show ((n == i) || _) = _
          by_cases hni : n = i
          · subst hni; simp
          · have e1 : (n == i) = false := by simpa using hni
            rw [e1, Bool.false_or]
            have e2 : ¬ i = n := fun e => hni e.symm
            simp [e2]
    rw [e]
    exact (postV s.heap s.toks l rfl O (.bool _) (Rep.bool_mk _) h)
/-- a list of texts -/
noncomputable def txts (ts : List (List Nat)) : List AV := ts.map AV.str
theorem txts_values {vs : List Value} {ts : List (List Nat)} (h : Reps vs (txts ts)) : ∃ l : List (Str × Tok), vs = strValues l ∧ l.map (·.1) = ts.map fun x => ⟨x.toArray⟩ := by
  induction ts generalizing vs with
  | nil => cases h; exact ⟨[], rfl, rfl⟩
  | cons x r ih =>
    rw [txts, List.map_cons] at h
    cases h with
    | cons h1 h2 =>
      obtain ⟨t, rfl⟩ := h1
      obtain ⟨l, rfl, e⟩ := ih h2
      exact ⟨(⟨x.toArray⟩, t) :: l, rfl, by simp [e]⟩
theorem txts_of_values {l : List (Str × Tok)} : Reps (strValues l) (txts (l.map fun p => p.1.cps.toList)) := by
  induction l with
  | nil => exact .nil
  | cons p r ih => exact .cons (Rep.str_mk _ _) ih
theorem glued_flat (ts : List (List Nat)) : Txt.join ⟨#[]⟩ (ts.map fun x => ⟨x.toArray⟩) = ⟨ts.flatten.toArray⟩ := by
  show Builtin.Str.glued _ _ = _
  rw [StrLaws.glued_eq_join]
  induction ts with
  | nil => rfl
  | cons x r ih =>
    cases r with
    | nil => simp [Str.join]
    | cons y r =>
      have e : Str.join ⟨#[]⟩ (List.map (fun x => (⟨x.toArray⟩ : Str)) (x :: y :: r)) = (⟨x.toArray⟩ : Str) ++ ⟨#[]⟩ ++ Str.join ⟨#[]⟩ (List.map (fun x => (⟨x.toArray⟩ : Str)) (y :: r)) := rfl
      rw [e, ih]
      apply Str.ext'
      rw [Str.cps_append, Str.cps_append]
      simp
theorem v_join {a : Addr} {ts : List (List Nat)} {v u : Value} {P : AV → Ledger → Prop} (r : Rep v (.str [])) (r' : Rep u (.ref a)) (hm : (a, Ent.list (txts ts)) ∈ l) (hB : ∀ y ∈ ts, y.length ≤ 1000) (hz : ts.length ≤ 1000) (h : P (.str ts.flatten) l) : EvV c l (call (.builtin "str.join") [v, u]) P := fun s F O => by
  obtain ⟨t, rfl⟩ := r
  obtain ⟨_, rfl⟩ := r'
  obtain ⟨vs, hl, hr⟩ := O.isList (List.mem_append_left _ hm)
  obtain ⟨w, rfl, e⟩ := txts_values hr
  have hok : Builtin.Str.tooLong ((w.map (·.1)).toArray.foldl (· + ·.length + (Str.mk ([] : List Nat).toArray).length) 0) = false := by
    refine StrLaws.joinFits (B := 1000) (fun y hy => ?_) ?_
    · rw [e] at hy
      obtain ⟨x, hx, rfl⟩ := List.mem_map.mp hy
      simpa [Str.length] using hB x hx
    · have hl2 : (w.map (·.1)).length = ts.length := by rw [e, List.length_map]
      rw [hl2]
      simp [Str.length]
      lia
  refine call_meets PySem.F.slot_str_join (typeIs_str _ _ _) PySem.F.entry_str_join (PySem.F.args_str_join_2 _ _) (meets_str_join_list _ _ _ _ hok) ⟨hl, post_join w ⟨joinFit_length hok, fun t' k => ?_⟩⟩
  rw [e, show (Str.mk ([] : List Nat).toArray) = (⟨#[]⟩ : Str) from rfl, glued_flat]
  exact ⟨s.heap, k, l, rfl, O, _, ⟨t', rfl⟩, h⟩
theorem reps_refs (as : List Addr) : Reps (as.map Value.ref) (as.map AV.ref) := by
  induction as with
  | nil => exact .nil
  | cons a r ih => exact .cons (Rep.ref_mk a) ih
theorem refs_of_reps {vs : List Value} {as : List Addr} (h : Reps vs (as.map AV.ref)) : vs = as.map Value.ref := by
  induction as generalizing vs with
  | nil => cases h; rfl
  | cons a r ih =>
    rw [List.map_cons] at h
    cases h with
    | cons h1 h2 => obtain ⟨_, rfl⟩ := h1; rw [ih h2]; rfl
theorem Ent.At.some {h : Heap} {a : Addr} {e : Ent} (x : e.At h a) : ∃ o, h.get? a = some o := by
  cases e with
  | ns m => obtain ⟨m', ⟨o, _, _, ho, _⟩, hm⟩ := x; exact ⟨o, ho⟩
  | list xs => obtain ⟨vs, n, hg, hr⟩ := x; exact ⟨_, hg⟩
  | tup xs => obtain ⟨vs, n, hg, hr⟩ := x; exact ⟨_, hg⟩
  | cell v => obtain ⟨w, ⟨o, ho, hd⟩, hm⟩ := x; exact ⟨o, ho⟩
  | obj q => obtain ⟨o, ho, hq⟩ := x; exact ⟨o, ho⟩
theorem Own.uniq {h₀ h : Heap} {l : Ledger} (O : Own h₀ h l) {a : Addr} {e e' : Ent} (h1 : (a, e) ∈ l) (h2 : (a, e') ∈ l) : e = e' := by
  have nd := O.nd
  clear O
  induction l with
  | nil => cases h1
  | cons p r ih =>
    rw [List.map_cons, List.nodup_cons] at nd
    rcases List.mem_cons.mp h1 with e1 | h1
    · rcases List.mem_cons.mp h2 with e2 | h2
      · rw [← e1] at e2; cases e2; rfl
      · exact absurd (List.mem_map.mpr ⟨_, h2, by rw [← e1]⟩) nd.1
    · rcases List.mem_cons.mp h2 with e2 | h2
      · exact absurd (List.mem_map.mpr ⟨_, h1, by rw [← e2]⟩) nd.1
      · exact ih h1 h2 nd.2
/-- two lists of the same things are not unlike -/
theorem v_neRefs {K : Params → Frag} {n : Nat} {p q : Addr} {as : List Addr} {v u : Value} {P : AV → Ledger → Prop} (ok : Ok K c n) (r : Rep v (.ref p)) (r' : Rep u (.ref q)) (hp : (p, Ent.list (as.map AV.ref)) ∈ l) (hq : (q, Ent.list (as.map AV.ref)) ∈ l) (h : P (.bool false) l) : EvV c l (compareOp .NotEq v u) P := fun s F O => by
  obtain ⟨_, rfl⟩ := r
  obtain ⟨_, rfl⟩ := r'
  obtain ⟨vs, hl, hr⟩ := O.isList (List.mem_append_left _ hp)
  obtain ⟨us, hl', hr'⟩ := O.isList (List.mem_append_left _ hq)
  have e2 := refs_of_reps hr
  have e3 := refs_of_reps hr'
  subst e2 e3
  refine PySem.EqBoolInt.of_rcne (PySem.SeqAt.RcNeAt.lists (e := fun _ => true) hl hl' rfl (by have := ok.units; lia) fun j h1 h2 => PySem.SeqAt.EqAt.same _) ?_
  have e : (!(List.range (as.map Value.ref).toArray.size).all fun _ => true) = false := by simp
  rw [e]
  exact (postV s.heap s.toks l rfl O (.bool false) (Rep.bool_mk _) h)
/-! ## sorted() of a row of pairs that rises -/
noncomputable def Lex (p q : Int × Int) : Prop := p.1 < q.1 ∨ (p.1 = q.1 ∧ p.2 < q.2)
theorem all_news {h : Heap} {L : Addr} {m : Str → Option Value} (hn : h.Ns L m) : ∃ news, Fr ({} : Heap) L h m ∧ News ({} : Heap) L h news ∧ ∀ b o, b ≠ L → h.get? b = some o → (b, o) ∈ news := by
  refine ⟨(List.range h.objs.size).filterMap fun b => if b = L then none else (h.get? b).map fun o => (b, o), ⟨hn, fun b o e => ?_, Nat.zero_le _⟩, fun p hp => ?_, fun b o hb e => ?_⟩
  · have := Heap.lt_size e; exact absurd this (Nat.not_lt.mpr (Nat.zero_le _))
  · obtain ⟨b, _, e⟩ := List.mem_filterMap.mp hp
    by_cases hb : b = L
    · rw [if_pos hb] at e; cases e
    · rw [if_neg hb] at e
      cases ho : h.get? b with
      | none => rw [ho] at e; cases e
      | some o =>
        rw [ho] at e; simp at e; subst e
        refine ⟨ho, hb, ?_⟩
        cases hq : ({} : Heap).get? b with
        | none => rfl
        | some o' => exact absurd (Heap.lt_size hq) (Nat.not_lt.mpr (Nat.zero_le _))
  · refine List.mem_filterMap.mpr ⟨b, List.mem_range.mpr (Heap.lt_size e), ?_⟩
    rw [if_neg hb, e]; rfl
theorem asc_ret {cmp : Nat → Nat → (Bool → Shared → Prop) → Shared → Prop} {p : Array Nat} {G : Nat → Shared → Prop} {s : Shared} : ∀ (f n : Nat), (∀ k, n ≤ k → k < n + f → ∀ C : Bool → Shared → Prop, C false s → cmp (p.getD k 0) (p.getD (k - 1) 0) C s) → G (n + f) s → (kas_asc p f n).kasWp cmp G s
  | 0, n, _, h => h
  | f + 1, n, hc, h => hc n (Nat.le_refl _) (by lia) _ (by
      show (if false = true then KasT.ret n else kas_asc p f (n + 1)).kasWp cmp G s
      rw [if_neg (by decide)]
      exact asc_ret f (n + 1) (fun k h1 h2 => hc k (by lia) (by lia)) (by rw [show n + 1 + f = n + (f + 1) by lia]; exact h))
theorem sort_ret {cmp : Nat → Nat → (Bool → Shared → Prop) → Shared → Prop} {n : Nat} {G : Array Nat → Shared → Prop} {s : Shared} (h2 : 2 ≤ n) (hc : ∀ k, 1 ≤ k → k < n → ∀ C : Bool → Shared → Prop, C false s → cmp k (k - 1) C s) (h : G (List.toArray (List.range n)) s) : (kas_sort n).kasWp cmp G s := by
  unfold kas_sort
  rw [KasT.kasWp_bind]
  unfold kas_count
  rw [KasT.kasWp_bind]
  refine asc_ret _ _ (fun k h1 h3 C hC => ?_) ?_
  · have e1 : (List.toArray (List.range n)).getD k 0 = k := by simp [Array.getD]; lia
    have e2 : (List.toArray (List.range n)).getD (k - 1) 0 = k - 1 := by simp [Array.getD]; lia
    rw [e1, e2]
    exact hc k h1 (by lia) C hC
  · rw [show 1 + (n - 1) = n by lia]
    rw [if_pos (by simp)]
    show ((if n < n then _ else KasT.ret (List.toArray (List.range n)))).kasWp cmp G s
    rw [if_neg (Nat.lt_irrefl _)]
    exact h
theorem v_sorted {K : Params → Frag} {n : Nat} {L a : Addr} {m : Str → Option AV} {as : List Addr} {ps : List (Int × Int)} {v : Value} {P : AV → Ledger → Prop} (ok : Ok K c n) (r : Rep v (.ref a)) (hL : (L, Ent.ns m) ∈ l) (hm : (a, Ent.list (as.map AV.ref)) ∈ l)
    (hlen : as.length = ps.length) (hps : ∀ (i : Nat) (b : Addr) (p : Int × Int), as[i]? = some b → ps[i]? = some p → (b, Ent.tup [.int p.1, .int p.2]) ∈ l) (h2 : 2 ≤ as.length) (h64 : as.length < 64) (hs : ps.Pairwise Lex)
    (h : ∀ q, P (.ref q) ((q, .list (as.map AV.ref)) :: l)) : EvV c l (call (.builtin "sorted") [v]) P := fun s F O => by
  obtain ⟨_, rfl⟩ := r
  obtain ⟨vs, hl, hr⟩ := O.isList (List.mem_append_left _ hm)
  have hvs := refs_of_reps hr
  subst hvs
  obtain ⟨mL, hn, hmL⟩ := O.has _ (List.mem_append_left F hL)
  refine byG fun gG kgG => ?_
  obtain ⟨news, Fr0, N0, hall⟩ := all_news hn
  refine kgG ?_
  clear kgG gG
  have hz : (as.map Value.ref).length = as.length := List.length_map _
  refine kat_sorted Fr0 N0 hl (by lia) (by lia) fun D e1 h' F' N' hD => ?_
  -- what stood still stands
  have keep : ∀ b o, b ≠ L → s.heap.get? b = some o → h'.get? b = some o := fun b o hb e => (N' (b, o) (.tail _ (hall b o hb e))).1
  have tupAt : ∀ (i : Nat) (b : Addr) (p : Int × Int), as[i]? = some b → ps[i]? = some p → ∃ v1 v2 n, h'.get? b = some { cls := .type "tuple", data := .seq #[v1, v2] n } ∧ Rep v1 (.int p.1) ∧ Rep v2 (.int p.2) := by
    intro i b p hb hp
    refine byG fun gG kgG => ?_
    obtain ⟨ws, k, hg, hw⟩ := O.has _ (List.mem_append_left F (hps i b p hb hp))
    refine kgG ?_
    clear kgG gG
    have hbL : b ≠ L := by
      rintro rfl
      refine byG fun gG kgG => ?_
      obtain ⟨o, es, ep, ho, hd, _⟩ := hn
      refine kgG ?_
      clear kgG gG
      rw [hg] at ho; cases ho; cases hd
    cases hw with
    | cons w1 hw =>
    cases hw with
    | cons w2 hw =>
    cases hw
    exact ⟨_, _, k, keep _ _ hbL hg, w1, w2⟩
  have hfs : ∃ fs : List Value, KatTups h' (as.map Value.ref) fs ∧ fs.length = as.length ∧ ∀ v ∈ fs, ∃ i t, v = Value.int i t := by
    have key : ∀ (as : List Addr) (ps : List (Int × Int)), as.length = ps.length → (∀ (i : Nat) (b : Addr) (p : Int × Int), as[i]? = some b → ps[i]? = some p → ∃ v1 v2 n, h'.get? b = some { cls := .type "tuple", data := .seq #[v1, v2] n } ∧ Rep v1 (.int p.1) ∧ Rep v2 (.int p.2)) →
        ∃ fs : List Value, KatTups h' (as.map Value.ref) fs ∧ fs.length = as.length ∧ ∀ v ∈ fs, ∃ i t, v = Value.int i t := by
      intro as
      induction as with
      | nil => intro ps _ _; exact ⟨[], KatTups.nil, rfl, fun v hv => nomatch hv⟩
      | cons b r ih =>
        intro ps hl ht
        cases ps with
        | nil => cases hl
        | cons p ps =>
          refine byG fun gG kgG => ?_
          obtain ⟨fs, h1, h2, h3⟩ := ih ps (by simpa using hl) (fun i b' p' hb hp => ht (i + 1) b' p' (by simpa using hb) (by simpa using hp))
          refine kgG ?_
          clear kgG gG
          refine byG fun gG kgG => ?_
          obtain ⟨v1, v2, k, hg, ⟨t1, e1⟩, r2⟩ := ht 0 b p rfl rfl
          refine kgG ?_
          clear kgG gG
          subst e1
          exact ⟨_ :: fs, KatTups.cons hg rfl rfl rfl h1, by simp [h2], fun v hv => by
            rcases List.mem_cons.mp hv with rfl | hv
            · exact ⟨_, _, rfl⟩
            · exact h3 v hv⟩
    exact key as ps hlen tupAt
  refine byG fun gG kgG => ?_
  obtain ⟨fs, hf1, hf2, hf3⟩ := hfs
  refine kgG ?_
  clear kgG gG
  refine kat_kind (T := .type "int") hf1 (by lia) (fun v hv => ?_) (by decide) ?_
  · obtain ⟨i, t, rfl⟩ := hf3 v hv
    exact Looks.of_pure rfl
  rw [hz]
  refine sort_ret h2 (fun k h1 hk C hC => ?_) ?_
  · unfold kas_ask
    have hk1 : k - 1 < as.length := by lia
    have g1 : (as.map Value.ref).getD k Value.none = .ref as[k] := by simp [hk]
    have g2 : (as.map Value.ref).getD (k - 1) Value.none = .ref as[k - 1] := by simp [hk1]
    rw [g1, g2]
    have hkp : k < ps.length := by lia
    have hkp1 : k - 1 < ps.length := by lia
    refine byG fun gG kgG => ?_
    obtain ⟨x1, x2, n1, hx, ⟨t1, ex1⟩, ⟨t2, ex2⟩⟩ := tupAt k as[k] ps[k] (List.getElem?_eq_getElem hk) (List.getElem?_eq_getElem hkp)
    refine kgG ?_
    clear kgG gG
    refine byG fun gG kgG => ?_
    obtain ⟨y1, y2, n2, hy, ⟨u1, ey1⟩, ⟨u2, ey2⟩⟩ := tupAt (k - 1) as[k - 1] ps[k - 1] (List.getElem?_eq_getElem hk1) (List.getElem?_eq_getElem hkp1)
    refine kgG ?_
    clear kgG gG
    subst ex1 ex2 ey1 ey2
    have hlex := List.pairwise_iff_getElem.mp hs (k - 1) k hkp1 hkp (by lia)
    refine kat_lt hx rfl hy rfl ?_
    show KatLex _ _ _ _ _ _ [(AV.mk (.int ps[k].1) t1, AV.mk (.int ps[k - 1].1) u1), (AV.mk (.int ps[k].2) t2, AV.mk (.int ps[k - 1].2) u2)] 0 _
    refine kat_cons (PySem.SeqAt.EqAt.int_int _ _ _ _ _ _ _ _ ?_)
    rcases hlex with hl1 | ⟨hl1, hl2⟩
    · have e : (ps[k].1 == ps[k - 1].1) = false := by simp; lia
      rw [e]
      refine kat_no (oneLt_int ?_)
      rw [decide_eq_false (by lia)]; exact hC
    · have e : (ps[k].1 == ps[k - 1].1) = true := by simp; lia
      rw [e]
      refine kat_yes (kat_cons (PySem.SeqAt.EqAt.int_int _ _ _ _ _ _ _ _ ?_))
      have e : (ps[k].2 == ps[k - 1].2) = false := by simp; lia
      rw [e]
      refine kat_no ?_
      show wpAny _ _ (oneLt' false _ _) _ _ _
      refine kat_one _ _ (PySem.P.lt_int ?_)
      show C _ _
      rw [decide_eq_false (by lia)]; exact hC
  · have hout : ((List.toArray (List.range as.length)).toList.map fun i => (as.map Value.ref).getD i Value.none) = as.map Value.ref := by
      apply List.ext_getElem?
      intro i
      by_cases hi : i < as.length
      · simp [hi]
      · rw [List.getElem?_eq_none (by simp; lia), List.getElem?_eq_none (by simp; lia)]
    rw [hout]
    have hDn : ∀ q ∈ news, q.1 ≠ D := fun q hq => Nat.ne_of_lt (hD q hq)
    refine KasFin.intro F' N' (.head hDn) fun h'' c' F'' N'' => ?_
    have keep2 : ∀ b o, b ≠ L → s.heap.get? b = some o → h''.get? b = some o := fun b o hb e => (N'' (b, o) (.tail _ (hall b o hb e))).1
    obtain ⟨hD1, hD2, _⟩ := N'' (D, _) (.head _)
    have hsz : s.heap.get? D = none := by
      cases e : s.heap.get? D with
      | none => rfl
      | some o => exact absurd rfl (hDn (D, o) (hall D o hD2 e))
    refine (postV h'' s.toks ((D, .list (as.map AV.ref)) :: l) rfl ?_ _ (Rep.ref_mk _) (h D))
    have hLn : c.h₀.get? L = none := O.fresh _ (List.mem_append_left F hL)
    refine ⟨fun p hp => ?_, ?_, fun b o e => keep2 b o (fun e2 => by subst e2; rw [hLn] at e; cases e) (O.keep b o e), fun p hp => ?_⟩
    · rcases List.mem_cons.mp hp with rfl | hp
      · refine ⟨as.map Value.ref, c', hD1, ?_⟩
        exact reps_refs as
      · by_cases hpL : p.1 = L
        · obtain ⟨pa, pe⟩ := p
          simp only at hpL
          subst hpL
          have nd := O.nd
          have : pe = Ent.ns m := O.uniq hp (List.mem_append_left F hL)
          subst this
          exact ⟨mL, F''.ns, hmL⟩
        · exact (O.has p hp).of fun o e => keep2 _ o hpL e
    · rw [List.cons_append, List.map_cons, List.nodup_cons]
      refine ⟨fun hmem => ?_, O.nd⟩
      obtain ⟨p, hp, e⟩ := List.mem_map.mp hmem
      obtain ⟨o, ho⟩ := (O.has p hp).some
      rw [e, hsz] at ho
      cases ho
    · rcases List.mem_cons.mp hp with rfl | hp
      · cases e : c.h₀.get? D with
        | none => rfl
        | some o => rw [O.keep _ _ e] at hsz; cases hsz
      · exact O.fresh p hp
end
end Mine
end
section
open PySem PySem.W PyProof.Rows
set_option linter.unusedVariables false
set_option maxRecDepth 100000
namespace Mine
section
variable {c : Cx} {env : Env} {l F : Ledger}
theorem subInts {vs : List Value} {ns : List Int} (hr : Reps vs (ns.map AV.int)) (ks : List Nat) : ∃ js : List Int, Reps (ks.filterMap (vs[·]?)) (js.map AV.int) := by
  induction ks with
  | nil => exact ⟨[], .nil⟩
  | cons k r ih =>
    obtain ⟨js, hj⟩ := ih
    cases hk : vs[k]? with
    | none => exact ⟨js, by rw [List.filterMap_cons, hk]; exact hj⟩
    | some v =>
      obtain ⟨a, ha, rv⟩ := hr.get' hk
      rw [List.getElem?_map] at ha
      cases hn : ns[k]? with
      | none => rw [hn] at ha; simp at ha
      | some j =>
        rw [hn] at ha; simp at ha; subst ha
        exact ⟨j :: js, by rw [List.filterMap_cons, hk]; exact .cons rv hj⟩
/-- s.split(" ") of a known text -/
theorem v_split {cs sep : List Nat} {ts : List (List Nat)} {v u : Value} {P : AV → Ledger → Prop} (r : Rep v (.str cs)) (r' : Rep u (.str sep)) (hz : cs.length ≤ 1000)
    (h1 : (decide ((Str.mk cs.toArray).length < (Str.mk sep.toArray).length) || decide (Builtin.Str.strKind ⟨cs.toArray⟩ < Builtin.Str.strKind ⟨sep.toArray⟩)) = false) (hy : ((Str.mk sep.toArray).length == 0) = false)
    (hf : (Builtin.Str.occurrences ⟨cs.toArray⟩ ⟨sep.toArray⟩ 0 (Str.mk cs.toArray).length ((Str.mk cs.toArray).length + 1)).isEmpty = false)
    (e : (Builtin.Str.partsBetween ⟨cs.toArray⟩ (Builtin.Str.occurrences ⟨cs.toArray⟩ ⟨sep.toArray⟩ 0 (Str.mk cs.toArray).length ((Str.mk cs.toArray).length + 1)) (Str.mk sep.toArray).length).map (fun x => x.cps.toList) = ts)
    (hz2 : ts.length ≤ 1000)
    (h : ∀ n, P (.ref n) ((n, .list (txts ts)) :: l)) : EvV c l (call (.builtin "str.split") [v, u]) P := fun s F O => by
  obtain ⟨t, rfl⟩ := r
  obtain ⟨t', rfl⟩ := r'
  have hsl : sizeLine = 16777216 := sizeLine_eq
  have hlen := congrArg List.length e
  rw [List.length_map] at hlen
  refine call_meets PySem.F.slot_str_split (typeIs_str _ _ _) PySem.F.entry_str_split (PySem.F.args_str_split_2 _ _) (meets_str_split_sep _ _ t t' h1 hy hf (by simp [Str.length]; lia) (by lia)) ?_
  generalize hpb : Builtin.Str.partsBetween _ _ _ = parts at *
  show PySem.wants _ _ _ { s with toks := _, heap := s.heap.push { cls := .type "list", data := .seq (strsFrom s.toks parts).toArray } }
  rw [strsFrom_eq]
  refine ⟨_, _, _, rfl, Own.newList O ?_, _, Rep.ref_mk _, h _⟩
  have := txts_of_values (l := numbered s.toks parts)
  have e2 : (numbered s.toks parts).map (fun p => p.1.cps.toList) = ts := by
    have q := congrArg (List.map fun x : Str => x.cps.toList) (numbered_texts s.toks parts)
    rw [List.map_map] at q
    rw [← e]; exact q
  rw [e2] at this
  exact this
end
end Mine
end
section
open PySem PySem.W PyProof.Rows
set_option linter.unusedVariables false
set_option maxRecDepth 100000
namespace Mine
/-! ## comprehensions -/
noncomputable def cellsL (cs : List (Str × Addr)) : Ledger := cs.map fun p => (p.2, Ent.cell none)
theorem Own.cells {h₀ h h' : Heap} {l : Ledger} (O : Own h₀ h l) (k : ∀ b o, h.get? b = some o → h'.get? b = some o) {lo : Nat} {cs : List (Str × Addr)} (ok : CellsOk h' lo cs) (hlo : h.objs.size ≤ lo) : Own h₀ h' (cellsL cs ++ l) := by
  have O' := O.grow k
  refine ⟨fun p hp => ?_, ?_, O'.keep, fun p hp => ?_⟩
  · rcases List.mem_append.mp hp with hp | hp
    · refine byG fun gG kgG => ?_
      obtain ⟨⟨x, a⟩, hx, rfl⟩ := List.mem_map.mp hp
      refine kgG ?_
      clear kgG gG
      exact ⟨none, (ok.empty x a hx).1, fun _ e => nomatch e⟩
    · exact O'.has p hp
  · rw [List.map_append, List.nodup_append]
    refine ⟨?_, O'.nd, ?_⟩
    · have : (cellsL cs).map (·.1) = cs.map (·.2) := by simp [cellsL]
      rw [this, List.nodup_iff_pairwise_ne]
      exact List.pairwise_map.mpr ok.apart
    · intro a ha b hb e
      subst e
      obtain ⟨p, hp, rfl⟩ := List.mem_map.mp ha
      refine byG fun gG kgG => ?_
      obtain ⟨⟨x, a⟩, hx, rfl⟩ := List.mem_map.mp hp
      refine kgG ?_
      clear kgG gG
      obtain ⟨q, hq, e⟩ := List.mem_map.mp hb
      have h1 := (ok.empty x a hx).2
      have h2 := (O.has q hq).lt
      rw [e] at h2
      exact absurd (Nat.le_trans hlo h1) (Nat.not_le.mpr h2)
  · rcases List.mem_append.mp hp with hp | hp
    · refine byG fun gG kgG => ?_
      obtain ⟨⟨x, a⟩, hx, rfl⟩ := List.mem_map.mp hp
      refine kgG ?_
      clear kgG gG
      cases e : h₀.get? a with
      | none => rfl
      | some o => exact absurd (Heap.lt_size (O.keep _ _ e)) (Nat.not_lt.mpr (Nat.le_trans hlo (ok.empty x a hx).2))
    · exact O'.fresh p hp
theorem wpAny_compEnv {M : Model} {A : Around} {E : Value → Shared → Prop} {s : Shared} {scope : Scope} {env : Env} {cl : List (Str × Addr)} {Q : Env → Shared → Prop}
    (h : Q (newEnv scope s.heap.objs.size env.globals (cellsFrom (s.heap.objs.size + 1) scope.names cl) env.qual none .none (some env) env.builtins) { s with heap := pushCells (s.heap.push { cls := .type "dict", data := .dict #[] }) scope.names }) :
    wpAny M A (newFunctionEnv scope env.globals cl [] env.qual none .none (some env)) Q E s := by
  simp only [newFunctionEnv, Option.isSome_some, if_true]
  refine wpAny_bind (wpAny_alloc ?_)
  refine wpAny_bind (wpAny_layCells _ (fun name kind cells => by cases hkc : kind == NameKind.cell <;> simp [hkc]) _ _ _ _ ?_)
  rw [show ({ s with heap := s.heap.push { cls := .type "dict", data := .dict #[] } } : Shared).heap.objs.size = s.heap.objs.size + 1 from Heap.size_push ..]
  exact wpAny_pure h
theorem cellsFrom_app : ∀ (names : List (Str × NameKind)) (n : Nat) (acc : List (Str × Addr)), cellsFrom n names acc = cellsFrom n names [] ++ acc
  | [], n, acc => rfl
  | (x, k) :: r, n, acc => by
    unfold cellsFrom
    split
    · rw [cellsFrom_app r (n + 1) ((x, n) :: acc), cellsFrom_app r (n + 1) [(x, n)], List.append_assoc]; rfl
    · exact cellsFrom_app r n acc
/-- weaker: what the names and cells of a comprehension hold is forgotten -/
noncomputable def blank : Ent → Ent
  | .ns _ => .ns fun _ => none
  | .cell _ => .cell none
  | e => e
noncomputable def blankL (l : Ledger) : Ledger := l.map fun p => (p.1, blank p.2)
theorem Ent.At.blank {h : Heap} {a : Addr} {e : Ent} (x : e.At h a) : (blank e).At h a := by
  cases e with
  | ns m => obtain ⟨m', hn, _⟩ := x; exact ⟨m', hn, fun _ _ e => nomatch e⟩
  | cell v => obtain ⟨w, hc, _⟩ := x; exact ⟨w, hc, fun _ e => nomatch e⟩
  | list xs => exact x
  | tup xs => exact x
  | obj q => exact x
theorem Own.blank {h₀ h : Heap} {a b : Ledger} (O : Own h₀ h (a ++ b)) : Own h₀ h (blankL a ++ b) := by
  refine ⟨fun p hp => ?_, ?_, O.keep, fun p hp => ?_⟩
  · rcases List.mem_append.mp hp with hp | hp
    · obtain ⟨q, hq, rfl⟩ := List.mem_map.mp hp
      exact (O.has q (List.mem_append_left _ hq)).blank
    · exact O.has p (List.mem_append_right _ hp)
  · have : ((blankL a ++ b).map (·.1)) = (a ++ b).map (·.1) := by simp [blankL]
    rw [this]; exact O.nd
  · rcases List.mem_append.mp hp with hp | hp
    · obtain ⟨q, hq, rfl⟩ := List.mem_map.mp hp
      exact O.fresh q (List.mem_append_left _ hq)
    · exact O.fresh p (List.mem_append_right _ hp)
/-- the names of a comprehension when a turn begins -/
noncomputable def compL (C : Addr) (cs : List (Str × Addr)) : Ledger := (C, .ns fun _ => none) :: cellsL cs
theorem comp_perm (a cs F : Ledger) (x d : Addr × Ent) : (a ++ ((x :: cs) ++ d :: F)).Perm (cs ++ (x :: d :: (a ++ F))) := by
  have h1 : (a ++ ((x :: cs) ++ d :: F)).Perm (x :: (a ++ (cs ++ d :: F))) := List.perm_middle
  have h2 : (cs ++ (x :: d :: (a ++ F))).Perm (x :: (cs ++ d :: (a ++ F))) := List.perm_middle
  have h3 : (a ++ (cs ++ d :: F)).Perm (cs ++ (a ++ d :: F)) := List.perm_append_comm_assoc ..
  have h4 : (cs ++ (a ++ d :: F)).Perm (cs ++ d :: (a ++ F)) := List.Perm.append_left cs List.perm_middle
  exact h1.trans (((h3.trans h4).cons x).trans h2.symm)
/-- the tests of a comprehension -/
noncomputable def tests (ifs : List Expr) (env : Env) : Sem Bool := forIn ifs true fun c r => if r = true then do let ok ← isTrue c env (eval c env); pure (ForInStep.yield ok) else pure (ForInStep.yield r)
section
variable {c : Cx} {env : Env} {l F : Ledger}
theorem ev_tests0 {P : Bool → Ledger → Prop} (h : P true l) : Ev c l (tests [] env) P := fun s F O => wpAny_pure (postI s.heap s.toks l rfl O h)
theorem ev_tests1 {t : Expr} {P : Bool → Ledger → Prop} (h : Ev c l (isTrue t env (eval t env)) P) : Ev c l (tests [t] env) P := fun s F O => wpAny_tests_one (h s F O)
theorem comp_core {elt target iter : Expr} {ifs : List Expr} {scope : Scope} {cl : List (Str × Addr)} {pos : Pos} {items : List AV} {need : Ledger} {J : Nat → List AV → Ledger → Prop} {RR : Value → Addr → Result → Shared → Prop} {E : Value → Shared → Prop} {s₂ : Shared} {I : Addr} {e : Nat → Ent} {l₃ : Ledger}
    (O : Own c.h₀ s₂.heap (((I, e 0) :: l₃) ++ F)) (W : It c I items e need) (hJ : J 0 [] l₃) (hz : items.length ≤ sizeLine) (mem : ∀ i ys l, J i ys l → ∀ p ∈ need, p ∈ l)
    (turn : ∀ C cs env' i a ys l, (∃ n, cs = cellsFrom n scope.names []) → env' = compEnvC scope (cs ++ cl) C env → items[i]? = some a → J i ys l → ∀ v, Rep v a → Ev c (compL C cs ++ l) (assign target env' v) fun _ l₁ => Ev c l₁ (tests ifs env') fun ok l₂ =>
      if ok then EvV c l₂ (eval elt env') fun b l₃ => ∃ lc l₄, (lc ++ l₄).Perm l₃ ∧ blankL lc = compL C cs ∧ J (i + 1) (ys ++ [b]) l₄ else ∃ lc l₄, (lc ++ l₄).Perm l₂ ∧ blankL lc = compL C cs ∧ J (i + 1) ys l₄)
    (hRR : ∀ D C h' tk ys l', Own c.h₀ h' ((C, .ns fun _ => none) :: (D, .list ys) :: (l' ++ F)) → J items.length ys l' → RR (.ref D) C (.ok .next) { s₂ with heap := h', toks := tk })
    (ht : ∀ it v, letOwnedTupleGo target it v = pure ()) :
    wpAny c.M c.A (newList []) (fun acc s₃ => wpAny c.M c.A (newFunctionEnv scope env.globals cl [] env.qual none .none (some env)) (fun cenv s₄ =>
      codeAny c.M c.A (.compStart (.ListComp elt [⟨target, iter, ifs, 0⟩] scope pos) 0 (.ref I) acc { cenv with scope := relabel scope env }) (RR acc cenv.locals) s₄) E s₃) E s₂ := by
  refine wpAny_newObj_type ?_
  have O₁ := Own.newList (vs := []) (as := []) O .nil
  refine wpAny_compEnv ?_
  generalize hD : s₂.heap.objs.size = D at *
  generalize hH1 : s₂.heap.push { cls := .type "list", data := .seq ([] : List Value).toArray } = H1 at *
  show codeAny _ _ _ _ { s₂ with heap := pushCells (H1.push { cls := .type "dict", data := .dict #[] }) scope.names }
  generalize hC : H1.objs.size = C at *
  rw [cellsFrom_app]
  generalize hcs : cellsFrom (C + 1) scope.names [] = cs
  have O₂ : Own c.h₀ (H1.push { cls := .type "dict", data := .dict #[] }) ((C, .ns fun _ => none) :: (D, .list []) :: (((I, e 0) :: l₃) ++ F)) := by
    have := Own.new (e := .ns fun _ => none) (a := H1.objs.size) O₁ (h' := H1.push { cls := .type "dict", data := .dict #[] }) (fun b o e => Heap.get?_push_of_some _ e) (Nat.le_refl _) ⟨_, Heap.Ns.new H1 (.type "dict"), fun _ _ e => nomatch e⟩
    rw [hC] at this; exact this
  have hok := cellsFrom_ok scope.names (H1.push { cls := .type "dict", data := .dict #[] }) (C + 1) [] ⟨fun _ _ hm => (nomatch hm), List.Pairwise.nil⟩ (by rw [Heap.size_push, hC]; exact Nat.le_refl _)
  rw [Heap.size_push, hC, hcs] at hok
  have O₃ := Own.cells O₂ (pushCells_keeps scope.names _) hok (by rw [Heap.size_push, hC]; exact Nat.le_refl _)
  have O₄ : Own c.h₀ (pushCells (H1.push { cls := .type "dict", data := .dict #[] }) scope.names) (((I, e 0) :: l₃) ++ (compL C cs ++ (D, .list []) :: F)) := by
    refine O₃.perm ?_
    exact comp_perm _ _ _ _ _
  have hexn : ∃ n, cs = cellsFrom n scope.names [] := ⟨_, hcs.symm⟩
  clear O₁ O₂ O₃ hok hcs hC hD
  generalize pushCells (H1.push { cls := .type "dict", data := .dict #[] }) scope.names = H2 at *
  generalize henv : compEnvC scope (cs ++ cl) C env = env'
  show codeAny c.M c.A (.compStart _ 0 (.ref I) (.ref D) (compEnvC scope (cs ++ cl) C env)) (RR (.ref D) C) _
  rw [henv]
  have loop : ∀ (H2 : Heap) (tk₂ : Nat), Own c.h₀ H2 (((I, e 0) :: l₃) ++ (compL C cs ++ (D, .list []) :: F)) → codeAny c.M c.A (.compLoop (.ListComp elt [⟨target, iter, ifs, 0⟩] scope pos) 0 (.ref I) (.ref D) env') (RR (.ref D) C) { s₂ with heap := H2, toks := tk₂ } := by
    intro H2 tk₂ O₄
    refine codeAny_compLoop_tests (fun n s' => ∃ h' tk l' i ys, s' = { s₂ with heap := h', toks := tk } ∧ Own c.h₀ h' (((I, e i) :: l') ++ (compL C cs ++ (D, .list ys) :: F)) ∧ J i ys l' ∧ i ≤ items.length ∧ ys.length ≤ i ∧ n = items.length + 1 - i) ?_ (items.length + 1)
      ⟨H2, tk₂, l₃, 0, [], rfl, O₄, hJ, Nat.zero_le _, Nat.le_refl _, rfl⟩ (fun v => ht _ v)
    rintro n s' hxx1
    refine byG fun gG kgG => ?_
    obtain ⟨h', tk, l', i, ys, rfl, O', hJ', hi, hys, rfl⟩ := hxx1
    refine kgG ?_
    clear kgG gG
    by_cases hlt : i < items.length
    · have hx : items[i]? = some items[i] := List.getElem?_eq_getElem hlt
      refine Ev.run (W.next i _ l' hx (mem i ys l' hJ')) O' fun r h₃ tk₃ l₄ O₅ ⟨el, v', er, rv⟩ => ?_
      subst el er
      have O₆ : Own c.h₀ h₃ ((compL C cs ++ l') ++ ((I, e (i + 1)) :: (D, .list ys) :: F)) := by
        refine O₅.perm ?_
        rw [List.append_assoc]
        have h1 : (compL C cs ++ (l' ++ (I, e (i + 1)) :: (D, Ent.list ys) :: F)).Perm (compL C cs ++ ((I, e (i + 1)) :: l' ++ (D, Ent.list ys) :: F)) := List.Perm.append_left _ List.perm_middle
        exact h1.trans (List.perm_append_comm_assoc ..)
      refine Ev.run (turn C cs env' i _ ys l' hexn henv.symm hx hJ' v' rv) O₆ fun _ h₅ tk₅ l₅ O₇ p₅ => ?_
      refine Ev.run p₅ O₇ fun ok h₆ tk₆ l₆ O₈ p₆ => ?_
      cases ok with
      | true =>
        simp only [if_true] at p₆ ⊢
        refine Ev.runV p₆ O₈ fun y b h₇ tk₇ l₇ O₉ ry ⟨lc, l₈, el, hb, hJ₂⟩ => ?_
        replace O₉ := O₉.perm (el.append_right _)
        have O₁₀ : Own c.h₀ h₇ ((D, .list ys) :: (lc ++ (l₈ ++ (I, e (i + 1)) :: F))) := by
          refine O₉.perm ?_
          rw [List.append_assoc]
          have h1 : ((D, Ent.list ys) :: (lc ++ (l₈ ++ (I, e (i + 1)) :: F))).Perm (lc ++ (D, Ent.list ys) :: (l₈ ++ (I, e (i + 1)) :: F)) := List.perm_middle.symm
          refine h1.trans (List.Perm.append_left lc ?_)
          have h2 : ((D, Ent.list ys) :: (l₈ ++ (I, e (i + 1)) :: F)).Perm (l₈ ++ (D, Ent.list ys) :: (I, e (i + 1)) :: F) := List.perm_middle.symm
          exact h2.trans (List.Perm.append_left l₈ (List.Perm.swap _ _ _))
        obtain ⟨vs, hl, hr⟩ := O₁₀.isPlain (.head _)
        refine wpAny_list_append_plain (hsz := by rw [List.size_toArray, hr.length]; lia) hl fun h₉ hl₉ hs₉ => ?_
        obtain ⟨k, hg⟩ := hl₉
        have O₁₁ : Own c.h₀ h₉ ((D, .list (ys ++ [b])) :: (lc ++ (l₈ ++ (I, e (i + 1)) :: F))) := O₁₀.upd .head ⟨vs ++ [y], k, by rw [hg]; simp, hr.append (Reps.one ry)⟩ hs₉.extBut
        have O₁₂ := Own.blank (a := lc) (O₁₁.perm List.perm_middle)
        rw [hb] at O₁₂
        refine ⟨_, Nat.sub_lt_sub_left (Nat.lt_succ_of_lt hlt) (Nat.lt_succ_self i), h₉, _, l₈, i + 1, ys ++ [b], rfl, ?_, hJ₂, hlt, by simp; lia, rfl⟩
        refine O₁₂.perm ?_
        have h1 : (((I, e (i + 1)) :: l₈) ++ (compL C cs ++ (D, Ent.list (ys ++ [b])) :: F)).Perm (compL C cs ++ (((I, e (i + 1)) :: l₈) ++ (D, Ent.list (ys ++ [b])) :: F)) := List.perm_append_comm_assoc ..
        refine h1.trans (List.Perm.append_left _ ?_)
        have h2 : (((I, e (i + 1)) :: l₈) ++ (D, Ent.list (ys ++ [b])) :: F).Perm ((D, Ent.list (ys ++ [b])) :: (((I, e (i + 1)) :: l₈) ++ F)) := List.perm_middle
        exact h2.trans (List.Perm.cons _ List.perm_middle.symm)
      | false =>
        simp only [Bool.false_eq_true, if_false] at p₆ ⊢
        refine byG fun gG kgG => ?_
        obtain ⟨lc, l₈, el, hb, hJ₂⟩ := p₆
        refine kgG ?_
        clear kgG gG
        replace O₈ := O₈.perm (el.append_right _)
        rw [List.append_assoc] at O₈
        have O₁₂ := Own.blank (a := lc) O₈
        rw [hb] at O₁₂
        refine ⟨_, Nat.sub_lt_sub_left (Nat.lt_succ_of_lt hlt) (Nat.lt_succ_self i), h₆, _, l₈, i + 1, ys, rfl, ?_, hJ₂, hlt, by lia, rfl⟩
        refine O₁₂.perm ?_
        have h1 : (((I, e (i + 1)) :: l₈) ++ (compL C cs ++ (D, Ent.list ys) :: F)).Perm (compL C cs ++ (((I, e (i + 1)) :: l₈) ++ (D, Ent.list ys) :: F)) := List.perm_append_comm_assoc ..
        refine h1.trans (List.Perm.append_left _ List.perm_middle.symm)
    · have hi' : i = items.length := by lia
      subst hi'
      refine Ev.run (W.done l' (mem _ ys l' hJ')) O' fun r h₃ tk₃ l₄ O₅ ⟨er, el⟩ => ?_
      subst el er
      refine hRR D C h₃ tk₃ ys l₄ ?_ hJ'
      refine Own.perm (Own.sub (O₅.perm (l' := (C, .ns fun _ => none) :: (l₄ ++ (cellsL cs ++ (D, .list ys) :: F))) ?_) (l' := (C, .ns fun _ => none) :: (l₄ ++ ((D, .list ys) :: F))) ?_) ?_
      · exact List.perm_middle.symm
      · exact ((List.Sublist.refl l₄).append (List.sublist_append_right _ _)).cons_cons _
      · exact List.Perm.cons _ List.perm_middle.symm
  refine codeAny_compStart_list (loop H2 s₂.toks O₄) ?_
  refine Ev.run (W.self 0 l₃ (mem 0 [] l₃ hJ)) O₄ fun v h₃ tk₃ l₄ O₅ ⟨e1, e2⟩ => ?_
  subst e1 e2
  exact loop h₃ tk₃ O₅
theorem e_compB {α : Type} {elt target iter : Expr} {ifs : List Expr} {scope : Scope} {cl : List (Str × Addr)} {pos : Pos} {P : AV → Ledger → Prop} (items : α → List AV) (need : α → Ledger) (J : α → Nat → List AV → Ledger → Prop)
    (hclos : closureFor scope env = pure cl) (hkind : scope.kind = .function) (hnames : ∀ x ∈ scope.names, x.2 = .local → scope.names.lookup x.1 = some .local) (hz : ∀ z, (items z).length ≤ sizeLine)
    (h : EvV c l (eval iter env) fun a l₁ => ∀ v, Rep v a → Ev c l₁ (pyIter v) fun it l₂ => ∃ (z : α) (I : Addr) (e : Nat → Ent) (l₃ : Ledger), it = .ref I ∧ l₂ = (I, e 0) :: l₃ ∧ It c I (items z) e (need z) ∧ J z 0 [] l₃)
    (mem : ∀ z i ys l, J z i ys l → ∀ p ∈ need z, p ∈ l)
    (turn : ∀ z C cs env' i a ys l, (∃ n, cs = cellsFrom n scope.names []) → env' = compEnvC scope (cs ++ cl) C env → (items z)[i]? = some a → J z i ys l → ∀ v, Rep v a → Ev c (compL C cs ++ l) (assign target env' v) fun _ l₁ => Ev c l₁ (tests ifs env') fun ok l₂ =>
      if ok then EvV c l₂ (eval elt env') fun b l₃ => ∃ lc l₄, (lc ++ l₄).Perm l₃ ∧ blankL lc = compL C cs ∧ J z (i + 1) (ys ++ [b]) l₄ else ∃ lc l₄, (lc ++ l₄).Perm l₂ ∧ blankL lc = compL C cs ∧ J z (i + 1) ys l₄)
    (done : ∀ z D ys l', J z (items z).length ys l' → P (.ref D) ((D, .list ys) :: l'))
    (ht : ∀ it v, letOwnedTupleGo target it v = pure () := by intro _ _; with_unfolding_all rfl) (hs : ∀ x, foldedSetIterable iter env x = pure x := by intro _; with_unfolding_all rfl) :
    EvV c l (eval (.ListComp elt [⟨target, iter, ifs, 0⟩] scope pos) env) P := fun s F O => by
  rw [eval_ListComp]
  refine wpAny_comprehension_free (use := none) rfl hs hclos hkind hnames (Ev.runV h O fun v a h₁ tk₁ l₁ O₁ r₁ p₁ => Ev.run (p₁ v r₁) O₁ fun it h₂ tk₂ l₂ O₂ ⟨z, I, e, l₃, e1, e2, W, hJ⟩ => ?_)
  subst e1 e2
  refine comp_core (RR := fun acc C => compPost c.M c.A _ none _ acc C) (J := J z) O₂ W hJ (hz z) (mem z) (turn z) (fun D C h' tk ys l' O' hJ' => ?_) ht
  obtain ⟨m', hn, _⟩ := O'.has _ (.head _)
  refine ⟨m', hn, fun h'' hs'' => (postV h'' tk ((D, .list ys) :: l') rfl (Own.drop O' hs''.extBut) _ (Rep.ref_mk _) (done z D ys l' hJ'))⟩
/-- a list comprehension with one for -/
theorem e_comp {elt target iter : Expr} {ifs : List Expr} {scope : Scope} {cl : List (Str × Addr)} {pos : Pos} {P : AV → Ledger → Prop} (items : List AV) (need : Ledger) (J : Nat → List AV → Ledger → Prop)
    (hclos : closureFor scope env = pure cl) (hkind : scope.kind = .function) (hnames : ∀ x ∈ scope.names, x.2 = .local → scope.names.lookup x.1 = some .local) (hz : items.length ≤ sizeLine)
    (h : EvV c l (eval iter env) fun a l₁ => ∀ v, Rep v a → Ev c l₁ (pyIter v) fun it l₂ => ∃ I e l₃, it = .ref I ∧ l₂ = (I, e 0) :: l₃ ∧ It c I items e need ∧ J 0 [] l₃)
    (mem : ∀ i ys l, J i ys l → ∀ p ∈ need, p ∈ l)
    (turn : ∀ C cs env' i a ys l, (∃ n, cs = cellsFrom n scope.names []) → env' = compEnvC scope (cs ++ cl) C env → items[i]? = some a → J i ys l → ∀ v, Rep v a → Ev c (compL C cs ++ l) (assign target env' v) fun _ l₁ => Ev c l₁ (tests ifs env') fun ok l₂ =>
      if ok then EvV c l₂ (eval elt env') fun b l₃ => ∃ lc l₄, (lc ++ l₄).Perm l₃ ∧ blankL lc = compL C cs ∧ J (i + 1) (ys ++ [b]) l₄ else ∃ lc l₄, (lc ++ l₄).Perm l₂ ∧ blankL lc = compL C cs ∧ J (i + 1) ys l₄)
    (done : ∀ D ys l', J items.length ys l' → P (.ref D) ((D, .list ys) :: l'))
    (ht : ∀ it v, letOwnedTupleGo target it v = pure () := by intro _ _; with_unfolding_all rfl) (hs : ∀ x, foldedSetIterable iter env x = pure x := by intro _; with_unfolding_all rfl) :
    EvV c l (eval (.ListComp elt [⟨target, iter, ifs, 0⟩] scope pos) env) P :=
  e_compB (α := Unit) (fun _ => items) (fun _ => need) (fun _ => J) hclos hkind hnames (fun _ => hz) (h.mono fun _ _ k v r => (k v r).mono fun _ _ ⟨I, e, l₃, q⟩ => ⟨(), I, e, l₃, q⟩) (fun _ => mem) (fun _ => turn) (fun _ => done) ht hs
/-- x = [.. for ..], to a local: the store stands inside -/
theorem s_assignComp {elt target iter : Expr} {ifs : List Expr} {scope : Scope} {cl : List (Str × Addr)} {pos spos py : Pos} {x : Str} {k : Nat} {L : Addr} {ns : List Str} {P : Flow → Ledger → Prop} (items : List AV) (need : Ledger) (J : Nat → List AV → Ledger → Prop) (hE : EnvAt env L) (hx : Var env ns x k)
    (hsw : swapsWith (.ListComp elt [⟨target, iter, ifs, 0⟩] scope pos) (some (.Name x py)) spos.line env = pure true)
    (hclos : closureFor scope env = pure cl) (hkind : scope.kind = .function) (hnames : ∀ x ∈ scope.names, x.2 = .local → scope.names.lookup x.1 = some .local) (hz : items.length ≤ sizeLine)
    (h : EvV c l (eval iter env) fun a l₁ => ∀ v, Rep v a → Ev c l₁ (pyIter v) fun it l₂ => ∃ I e l₃, it = .ref I ∧ l₂ = (I, e 0) :: l₃ ∧ It c I items e need ∧ J 0 [] l₃)
    (mem : ∀ i ys l, J i ys l → ∀ p ∈ need, p ∈ l)
    (turn : ∀ C cs env' i a ys l, (∃ n, cs = cellsFrom n scope.names []) → env' = compEnvC scope (cs ++ cl) C env → items[i]? = some a → J i ys l → ∀ v, Rep v a → Ev c (compL C cs ++ l) (assign target env' v) fun _ l₁ => Ev c l₁ (tests ifs env') fun ok l₂ =>
      if ok then EvV c l₂ (eval elt env') fun b l₃ => ∃ lc l₄, (lc ++ l₄).Perm l₃ ∧ blankL lc = compL C cs ∧ J (i + 1) (ys ++ [b]) l₄ else ∃ lc l₄, (lc ++ l₄).Perm l₂ ∧ blankL lc = compL C cs ∧ J (i + 1) ys l₄)
    (done : ∀ D ys l', J items.length ys l' → ∃ vs l'', l' = (L, .ns (frm ns vs)) :: l'' ∧ vs.length = ns.length ∧ P .next ((L, .ns (frm ns (vs.set k (some (.ref D))))) :: (D, .list ys) :: l''))
    (ht : ∀ it v, letOwnedTupleGo target it v = pure () := by intro _ _; with_unfolding_all rfl) (hs : ∀ x, foldedSetIterable iter env x = pure x := by intro _; with_unfolding_all rfl) :
    Ev c l (exec (.Assign [.Name x py] (.ListComp elt [⟨target, iter, ifs, 0⟩] scope pos) spos) env) P := fun s F O => by
  rw [exec_Assign_Name_used _ _ _ _ hsw]
  refine wpAny_bind (wpAny_standAt (wpAny_bind ?_))
  show wpAny _ c.A (do let _ ← comprehension (.ListComp elt [⟨target, iter, ifs, 0⟩] scope pos) scope env _ (newList []) false (eval iter env) (some (assign (.Name x py) env))) _ _ s
  refine wpAny_bind (wpAny_mono (wpAny_comprehension_free (use := some (assign (.Name x py) env)) (E := fun _ _ => False) (Q := fun _ s' => ∃ h' tk l', s' = { s with heap := h', toks := tk } ∧ Own c.h₀ h' (l' ++ F) ∧ P .next l') rfl hs hclos hkind hnames
    (Ev.runV h O fun v a h₁ tk₁ l₁ O₁ r₁ p₁ => Ev.run (p₁ v r₁) O₁ fun it h₂ tk₂ l₂ O₂ ⟨I, e, l₃, e1, e2, W, hJ⟩ => ?_)) (fun _ s' hq => wpAny_pure (wpAny_pure hq)) fun _ _ e => e.elim)
  subst e1 e2
  refine comp_core (RR := fun acc C => compPost c.M c.A _ (some (assign (.Name x py) env)) _ acc C) O₂ W hJ hz mem turn (fun D C h' tk ys l' O' hJ' => ?_) ht
  refine byG fun gG kgG => ?_
  obtain ⟨vs, l'', e3, hn, hP⟩ := done D ys l' hJ'
  refine kgG ?_
  clear kgG gG
  subst e3
  show wpAny c.M c.A (assign (.Name x py) env (.ref D)) _ _ _
  refine wpAny_assign_Name ?_
  have O₃ : Own c.h₀ h' (((L, .ns (frm ns vs)) :: []) ++ ((C, .ns fun _ => none) :: (D, .list ys) :: (l'' ++ F))) := O'.perm ((List.Perm.swap _ _ _).trans (List.Perm.cons _ (List.Perm.swap _ _ _)))
  refine Ev.run (e_set (P := fun _ l' => l' = [(L, .ns (frm ns (vs.set k (some (.ref D)))))]) hE hx hn (Rep.ref_mk D) rfl) O₃ fun _ h₃ tk₃ l₄ O₄ e4 => ?_
  subst e4
  have O₅ : Own c.h₀ h₃ ((C, .ns fun _ => none) :: (L, .ns (frm ns (vs.set k (some (.ref D))))) :: (D, .list ys) :: (l'' ++ F)) := O₄.perm (List.Perm.swap _ _ _)
  obtain ⟨m', hn', _⟩ := O₅.has _ (.head _)
  exact ⟨m', hn', fun h'' hs'' => (postI h'' tk₃ (_ :: _ :: l'') rfl (Own.drop O₅ hs''.extBut) hP)⟩
end
/-! facts of names under a comprehension -/
theorem swaps_cell {env : Env} {elt : Expr} {gs : List Comprehension} {scope : Scope} {pos py : Pos} {x : Str} {n : Nat} (h : env.kindOf x = some .cell) : swapsWith (.ListComp elt gs scope pos) (some (.Name x py)) n env = pure false := by
  show (pure (env.blockKind == .function && env.kindOf x == some .local && _ && _) : Sem Bool) = _
  rw [h]
  have e : ((some NameKind.cell : Option NameKind) == some .local) = false := by decide
  rw [e, Bool.and_false, Bool.false_and, Bool.false_and]
theorem swaps_local {env : Env} {elt : Expr} {gs : List Comprehension} {scope : Scope} {pos py : Pos} {x : Str} {n : Nat} (hk : env.scope.kind = .function) (h : env.kindOf x = some .local) (h2 : (py.line == pos.line && !(scope.names.any fun (n, k) => n == x && (k == .local || k == .cell))) = true) : swapsWith (.ListComp elt gs scope pos) (some (.Name x py)) n env = pure true := by
  show (pure (env.blockKind == .function && env.kindOf x == some .local && (py.line == pos.line) && !(scope.names.any fun (n, k) => n == x && (k == .local || k == .cell))) : Sem Bool) = _
  have hb : env.blockKind = .function := by simp [Env.blockKind, hk, ScopeKind.isAnnotationScope]
  rw [h, hb, Bool.and_assoc, h2]
  rfl
end Mine
end
section
open PySem PySem.W PyProof.Rows
set_option linter.unusedVariables false
set_option maxRecDepth 100000
namespace Mine
/-- where the frame's globals and built-ins stand -/
structure EnvG (env : Env) : Prop where
  g : env.globals = mainGlobals
  b : env.builtins = builtinsNs
/-- a name that stands in a cell -/
structure CVar (env : Env) (x : Str) (a : Addr) : Prop where
  kind : env.kindOf x = some .cell
  cell : env.cells.lookup x = some a
  nd : (x == ("__debug__" : Str)) = false
section
variable {c : Cx} {env : Env} {l F : Ledger} {L : Addr}
theorem e_cvar {x : Str} {a : Addr} {v : AV} {pos : Pos} {P : AV → Ledger → Prop} (hE : EnvAt env L) (hx : CVar env x a) (hm : (a, Ent.cell (some v)) ∈ l) (h : P v l) : EvV c l (eval (.Name x pos) env) P := ev_cell hE.kind hx.kind hx.cell hx.nd hm h
theorem e_cset {x : Str} {a : Addr} {v : Value} {av : AV} {o : Option AV} {l' : Ledger} {P : Unit → Ledger → Prop} (hE : EnvAt env L) (hx : CVar env x a) (r : Rep v av) (u : Mine.Upd a (.cell o) (.cell (some av)) l l') (h : P () l') : Ev c l (storeName env x v) P := ev_store_cell hE.kind hx.kind hx.cell r u h
theorem s_cassign {x : Str} {a : Addr} {p' pos : Pos} {e : Expr} {P : Flow → Ledger → Prop} (hE : EnvAt env L) (hx : CVar env x a)
    (h : EvV c l (eval e env) fun av l₁ => ∃ o l', Mine.Upd a (.cell o) (.cell (some av)) l₁ l' ∧ P .next l')
    (hs : swapsWith e (some (.Name x p')) pos.line env = pure false := by with_unfolding_all rfl) : Ev c l (exec (.Assign [.Name x p'] e pos) env) P :=
  ev_Assign (h.mono fun av l₁ ⟨o, l', u, p⟩ v r => e_cset hE hx r u p) hs
end
/-! ## what a comprehension's names are -/
noncomputable def reKind (env : Env) (x : Str) (k : NameKind) : NameKind := if (k == .free && env.scope.kind == .function && env.kindOf x == some .cell) = true then .cell else k
theorem lookup_re {env : Env} : ∀ {names : List (Str × NameKind)} {x : Str} {k : NameKind}, names.lookup x = some k →
    (names.map fun (n, k) => if (k == NameKind.free && env.scope.kind == .function && env.kindOf n == some .cell) = true then (n, NameKind.cell) else (n, k)).lookup x = some (reKind env x k)
  | [], _, _, h => by simp at h
  | (n, k') :: r, x, k, h => by
    have ih := @lookup_re env r x k
    show List.lookup x ((if (k' == NameKind.free && env.scope.kind == .function && env.kindOf n == some .cell) = true then (n, NameKind.cell) else (n, k')) :: _) = _
    cases hx : x == n with
    | true =>
      simp only [List.lookup_cons, hx] at h
      cases h
      have e : x = n := by simpa using hx
      subst e
      unfold reKind
      split <;> simp
    | false =>
      simp only [List.lookup_cons, hx] at h
      split <;> (simp only [List.lookup_cons, hx]; exact ih h)
section
variable {env : Env} {scope : Scope} {cs : List (Str × Addr)} {C : Addr}
theorem comp_kind {x : Str} {k : NameKind} (h : scope.names.lookup x = some k) : (compEnvC scope cs C env).kindOf x = some (reKind env x k) := lookup_re h
theorem comp_at (hk : scope.kind = .function) : EnvAt (compEnvC scope cs C env) C := ⟨rfl, hk⟩
theorem comp_g (h : EnvG env) : EnvG (compEnvC scope cs C env) := ⟨h.g, h.b⟩
theorem comp_var {ns : List Str} {x : Str} {i : Nat} (h : scope.names.lookup x = some .local) (hi : ns.idxOf x = i) (hl : i < ns.length) (nd : (x == ("__debug__" : Str)) = false) : Var (compEnvC scope cs C env) ns x i := ⟨comp_kind h, hi, hl, nd⟩
theorem comp_cell {x : Str} {a : Addr} (h : scope.names.lookup x = some .cell) (hc : cs.lookup x = some a) (nd : (x == ("__debug__" : Str)) = false) : CVar (compEnvC scope cs C env) x a := ⟨comp_kind h, hc, nd⟩
theorem comp_free {x : Str} {a : Addr} {L : Addr} (hE : EnvAt env L) (hx : CVar env x a) (h : scope.names.lookup x = some .free) (hc : cs.lookup x = some a) : CVar (compEnvC scope cs C env) x a :=
  ⟨by rw [comp_kind h]; unfold reKind; rw [hE.kind, hx.kind]; rfl, hc, hx.nd⟩
theorem comp_glob {c : Cx} {K : Params → Frag} {n : Nat} {x : Str} {v : Value} {a : AV} (ok : Ok K c n) (hg : EnvG env) (hk : scope.kind = .function) (h : scope.names.lookup x = some .globalImplicit) (hd : (x == ("__debug__" : Str)) = false) (e : nsIn (K c.w.params) mainGlobals x = some (some v)) (r : Rep v a) : Glo c (compEnvC scope cs C env) x a :=
  Glo.global ok hk (comp_kind h) hg.g hd e r
theorem comp_built {c : Cx} {K : Params → Frag} {n : Nat} {x : Str} {v : Value} (ok : Ok K c n) (hg : EnvG env) (hk : scope.kind = .function) (h : scope.names.lookup x = some .globalImplicit) (hd : (x == ("__debug__" : Str)) = false) (e : nsIn (K c.w.params) mainGlobals x = some none) (hv : bootBuiltins x = some v) (hn : x ≠ "__name__") : Glo c (compEnvC scope cs C env) x (.val v) :=
  Glo.builtin ok hk (comp_kind h) hg.g hg.b hd e hv hn
end
noncomputable def frees : List (Str × NameKind) → List Str
  | [] => []
  | (x, k) :: r => if k == .free then x :: frees r else frees r
theorem closure_of {scope : Scope} {env : Env} (cl : List (Str × Addr)) (h : frees scope.names = cl.reverse.map (·.1)) (hc : ∀ p ∈ cl, env.cells.lookup p.1 = some p.2) : closureFor scope env = pure cl := by
  unfold closureFor
  have key : ∀ (names : List (Str × NameKind)) (acc rest : List (Str × Addr)), frees names = rest.map (·.1) → (∀ p ∈ rest, env.cells.lookup p.1 = some p.2) →
      (forIn names acc (fun (x : Str × NameKind) (cs : List (Str × Addr)) => (do if x.2 == .free then (do pure (ForInStep.yield ((x.1, ← cellOf env x.1) :: cs))) else pure (ForInStep.yield cs) : Sem (ForInStep (List (Str × Addr))))) : Sem (List (Str × Addr))) = pure (rest.reverse ++ acc) := by
    intro names
    induction names with
    | nil =>
      intro acc rest h _
      cases rest with
      | nil => rfl
      | cons _ _ => simp [frees] at h
    | cons p r ih =>
      obtain ⟨x, k⟩ := p
      intro acc rest h hc
      rw [List.forIn_cons]
      unfold frees at h
      by_cases hk : (k == NameKind.free) = true
      · rw [if_pos hk] at h
        cases rest with
        | nil => simp at h
        | cons q rest =>
          obtain ⟨y, a⟩ := q
          simp at h
          obtain ⟨rfl, h⟩ := h
          have hl := hc (x, a) (.head _)
          simp only at hl
          simp only [hk, if_true]
          have e : cellOf env x = pure a := by unfold cellOf; rw [hl]
          rw [e]
          simp only [pure_bind]
          rw [ih _ rest h fun p hp => hc p (.tail _ hp)]
          simp
      · rw [if_neg hk] at h
        simp only [hk, Bool.false_eq_true, if_false, pure_bind]
        exact ih acc rest h hc
  have := key scope.names [] cl.reverse h (fun p hp => hc p (by simpa using hp))
  rw [List.reverse_reverse, List.append_nil] at this
  rw [← this]
  exact bind_pure _
/-! ## the call of a def some of whose names stand in cells -/
noncomputable def cellsV (m : Str → Option AV) (cs : List (Str × Addr)) : Ledger := cs.map fun p => (p.2, Ent.cell (m p.1))
theorem Own.newFrame {h₀ h h' : Heap} {l : Ledger} (O : Own h₀ h l) (k : ∀ b o, h.get? b = some o → h'.get? b = some o) {L : Addr} {m : Str → Option AV} {mv : Str → Option Value} (hL : h.objs.size ≤ L) (hn : h'.Ns L mv) (hm : ∀ x av, m x = some av → ∃ v, mv x = some v ∧ Rep v av)
    {cs : List (Str × Addr)} {cv : Str → Option Value} {ca : Str → Option AV} (hc : ∀ p ∈ cs, h'.IsCell p.2 (cv p.1)) (apart : cs.Pairwise fun x y => x.2 ≠ y.2) (above : ∀ p ∈ cs, L < p.2) (hca : ∀ x av, ca x = some av → ∃ v, cv x = some v ∧ Rep v av) :
    Own h₀ h' ((L, .ns m) :: (cellsV ca cs ++ l)) := by
  have O' := O.grow k
  have O₁ : Own h₀ h' (cellsV ca cs ++ l) := by
    refine ⟨fun p hp => ?_, ?_, O'.keep, fun p hp => ?_⟩
    · rcases List.mem_append.mp hp with hp | hp
      · obtain ⟨q, hq, rfl⟩ := List.mem_map.mp hp
        exact ⟨cv q.1, hc q hq, fun av e => by obtain ⟨v, e1, r⟩ := hca q.1 av e; exact ⟨v, e1, r⟩⟩
      · exact O'.has p hp
    · rw [List.map_append, List.nodup_append]
      refine ⟨?_, O'.nd, ?_⟩
      · have : (cellsV ca cs).map (·.1) = cs.map (·.2) := by simp [cellsV]
        rw [this, List.nodup_iff_pairwise_ne]
        exact List.pairwise_map.mpr apart
      · intro a ha b hb e
        subst e
        obtain ⟨p, hp, rfl⟩ := List.mem_map.mp ha
        obtain ⟨q', hq', rfl⟩ := List.mem_map.mp hp
        obtain ⟨q, hq, e⟩ := List.mem_map.mp hb
        have h1 := above q' hq'
        have h2 := (O.has q hq).lt
        rw [e] at h2
        exact absurd (Nat.lt_of_le_of_lt hL h1) (Nat.not_lt.mpr (Nat.le_of_lt h2))
    · rcases List.mem_append.mp hp with hp | hp
      · obtain ⟨q', hq', rfl⟩ := List.mem_map.mp hp
        cases e : h₀.get? q'.2 with
        | none => rfl
        | some o => exact absurd (Heap.lt_size (O.keep _ _ e)) (Nat.not_lt.mpr (Nat.le_of_lt (Nat.lt_of_le_of_lt hL (above q' hq'))))
      · exact O'.fresh p hp
  refine ⟨fun p hp => ?_, ?_, O₁.keep, fun p hp => ?_⟩
  · rcases List.mem_cons.mp hp with rfl | hp
    · exact ⟨mv, hn, hm⟩
    · exact O₁.has p hp
  · rw [List.map_cons, List.nodup_cons]
    refine ⟨fun hmem => ?_, O₁.nd⟩
    obtain ⟨p, hp, e⟩ := List.mem_map.mp hmem
    rcases List.mem_append.mp hp with hp | hp
    · obtain ⟨q, hq, rfl⟩ := List.mem_map.mp hp
      have := above q hq
      simp only at e
      exact absurd this (by rw [e]; exact Nat.lt_irrefl _)
    · have := (O.has p hp).lt
      rw [e] at this
      exact absurd hL (Nat.not_le.mpr this)
  · rcases List.mem_cons.mp hp with rfl | hp
    · cases e : h₀.get? L with
      | none => rfl
      | some o => exact absurd (Heap.lt_size (O.keep _ _ e)) (Nat.not_lt.mpr hL)
    · exact O₁.fresh p hp
theorem ev_defC {c : Cx} {l : Ledger} {K : Params → Frag} {n : Nat} {a : Addr} {o : Obj} {fd : FuncData} {body : List Stmt} {vs : List Value} {binds : List (Str × Value)} {m ca : Str → Option AV} {P : AV → Ledger → Prop}
    (ok : Ok K c (n + 1)) (ho : c.h₀.get? a = some o) (hdata : o.data = .func fd) (hcd : c.h₀.CodeRec fd.code fd.qualname) (hbody : fd.body = .stmts body)
    (hbind : bindArgs fd ⟨vs, []⟩ = pure binds) (hclo : fd.closure = []) (hkind : ∀ n, ∀ x ∈ binds, fd.scope.names.lookup x.1 = some .local ∨ (fd.scope.names.lookup x.1 = some .cell ∧ ((cellsFrom n fd.scope.names []).lookup x.1).isSome = true))
    (hnd : ((cellsFrom 0 fd.scope.names []).map (·.1)).Nodup)
    (hm : ∀ x av, m x = some av → ∃ v, bindL (fun y => fd.scope.names.lookup y) binds (fun _ => none) x = some v ∧ Rep v av)
    (hca : ∀ x av, ca x = some av → ∃ v, bindC (fun y => fd.scope.names.lookup y) binds (fun _ => none) x = some v ∧ Rep v av)
    (h : ∀ L, Ev (c.deeper (callEnvC fd L a)) ((L, .ns m) :: (cellsV ca (cellsFrom (L + 1) fd.scope.names []) ++ l)) (execs body (callEnvC fd L a)) fun f l' => ∃ av l'', Rep (match f with | .ret v => v | _ => .none) av ∧ l''.Sublist l' ∧ P av l'')
    (hco : fd.scope.isCoroutine = false := by with_unfolding_all rfl) (hgen : fd.scope.isGenerator = false := by with_unfolding_all rfl) (hk : fd.scope.kind = .function := by with_unfolding_all rfl) : EvV c l (call (.ref a) vs) P := fun s F O => by
  refine wpAny_call (codeAny_call_cells (hroom := ok.room) (O.keep _ _ ho) hdata (ok.lim.keeps O.keep) (hcd.keeps O.keep) hbody hbind hclo (hkind _) (fun s₁ X => ?_) hco hgen hk)
  refine byG fun gG kgG => ?_
  obtain ⟨h₁, tk, e1, hk₁⟩ := X.done
  refine kgG ?_
  clear kgG gG
  have O₁ : Own c.h₀ s₁.heap ((s.heap.objs.size, Ent.ns m) :: (cellsV ca (cellsFrom (s.heap.objs.size + 1) fd.scope.names []) ++ (l ++ F))) := by
    refine Own.newFrame (L := s.heap.objs.size) O (fun b o e => X.toInCall.keep b o e) (Nat.le_refl _) X.toInCall.ns hm (fun p hp => ?_) X.apart (fun p hp => X.above p.1 p.2 hp) hca
    exact X.cell p.1 p.2 (lookup_of_mem_nodup (cellsFrom_names fd.scope.names 0 (s.heap.objs.size + 1) [] [] rfl ▸ hnd) hp)
  subst e1
  refine Ev.run (c := c.deeper _) (l := (s.heap.objs.size, Ent.ns m) :: (cellsV ca (cellsFrom (s.heap.objs.size + 1) fd.scope.names []) ++ l)) (h s.heap.objs.size) (by rw [List.cons_append, List.append_assoc]; exact O₁) fun f h₂ tk₂ l₂ O₂ ⟨av, l'', r, sub, p⟩ => ?_
  exact (postV h₂ tk₂ l'' rfl (Own.sub O₂ (sub.append_right F)) av r p)
end Mine
end
section
open PySem PySem.W PyProof.Rows
set_option linter.unusedVariables false
set_option maxRecDepth 100000
namespace Mine
section
variable {c : Cx} {env : Env} {l F : Ledger} {L : Addr} {ns : List Str} {vs : List (Option AV)}
/-! the frame anywhere among what is owned -/
theorem e_varM {x : Str} {i : Nat} {pos : Pos} {a : AV} {P : AV → Ledger → Prop} (hE : EnvAt env L) (hx : Var env ns x i) (hm : (L, Ent.ns (frm ns vs)) ∈ l) (hv : vs[i]? = some (some a)) (h : P a l) : EvV c l (eval (.Name x pos) env) P := fun s F O => by
  obtain ⟨hL, hk⟩ := hE
  subst hL
  obtain ⟨m', hn, hm'⟩ := O.has _ (List.mem_append_left F hm)
  obtain ⟨v, hv', r⟩ := hm' x a (by rw [frm_get hx.idx, hv]; rfl)
  exact wpAny_Name (wpAny_loadName_local hk hx.kind hn hv' (postV s.heap s.toks _ rfl O a r h)) hx.nd
theorem e_setM {x : Str} {i : Nat} {v : Value} {a : AV} {l' : Ledger} {P : Unit → Ledger → Prop} (hE : EnvAt env L) (hx : Var env ns x i) (hn : vs.length = ns.length) (r : Rep v a) (u : Mine.Upd L (.ns (frm ns vs)) (.ns (frm ns (vs.set i (some a)))) l l') (h : P () l') : Ev c l (storeName env x v) P := fun s F O => by
  obtain ⟨hL, hk⟩ := hE
  subst hL
  obtain ⟨m', hn', hm⟩ := O.has _ (List.mem_append_left F u.mem)
  refine wpAny_storeName_local hx.kind hn' (fun h' hn'' hs => ?_) (by rw [hk]; rfl)
  refine ⟨h', _, _, rfl, Own.upd O u.app ⟨_, hn'', ?_⟩ hs.extBut, h⟩
  rw [← frm_put hx.idx hx.lt hn]
  intro y av hy
  by_cases hyx : y = x
  · rw [put, if_pos hyx] at hy; cases hy; exact ⟨v, by simp [hyx], r⟩
  · rw [put, if_neg hyx] at hy; simp only [if_neg hyx]; exact hm y av hy
theorem s_assignM {x : Str} {i : Nat} {p' pos : Pos} {e : Expr} {P : Flow → Ledger → Prop} {l₀ : Ledger} (hE : EnvAt env L) (hx : Var env ns x i)
    (h : EvV c l₀ (eval e env) fun a l₁ => ∃ vs l', vs.length = ns.length ∧ Mine.Upd L (.ns (frm ns vs)) (.ns (frm ns (vs.set i (some a)))) l₁ l' ∧ P .next l')
    (hs : swapsWith e (some (.Name x p')) pos.line env = pure false := by with_unfolding_all rfl) : Ev c l₀ (exec (.Assign [.Name x p'] e pos) env) P :=
  ev_Assign (h.mono fun a l₁ ⟨vs, l', hn, u, p⟩ v r => e_setM hE hx hn r u p) hs
/-- «min(list)» and the like: one argument -/
theorem e_call1 {f : Str} {np pos : Pos} {e : Expr} {b : Value} {P : AV → Ledger → Prop} (hg : Glo c env f (.val b)) (hk : keeperOf b = pure .machine) (h : EvV c l (eval e env) fun a l₁ => ∀ v, Rep v a → EvV c l₁ (call b [v]) P)
    (he : starEach [e] env = (false, eval e env) :: starEach [] env := by with_unfolding_all rfl) : EvV c l (eval (.Call (.Name f np) [e] [] pos) env) P :=
  e_callB (e_glo hg ⟨_, rfl, hk, ev_items_cons (h.mono fun a l₁ k v r => ev_items_nil (k v r)) he⟩) he rfl
/-- s.append(x) -/
theorem s_append {o e : Expr} {apos pos spos : Pos} {P : Flow → Ledger → Prop}
    (h : EvV c l (eval o env) fun ov l₁ => ∃ a xs, ov = .ref a ∧ (a, Ent.list xs) ∈ l₁ ∧ EvV c l₁ (eval e env) fun x l₂ => ∃ xs' l₃, xs'.length ≤ sizeLine ∧ Mine.Upd a (.list xs') (.list (xs' ++ [x])) l₂ l₃ ∧ P .next l₃)
    (hi : interactive env = false) (hs : swapsWith (.Call (.Attribute o "append" apos) [e] [] pos) none spos.line env = pure false := by with_unfolding_all rfl)
    (hbase : attributeBase o "append" env (eval o env) = eval o env := by with_unfolding_all rfl)
    (hfew : ((backTo pos (starEach [e] env)).all (fun x => !x.1) && (backToKw pos (keywordEach [] env)).all (fun x => x.1.isSome)
      && decide ([e].length + ([] : List Keyword).length + (if ([] : List Keyword).isEmpty then 0 else 1) < 30)) = true := by with_unfolding_all rfl)
    (hline : (apos.endLine == pos.line) = true := by with_unfolding_all rfl)
    (he : starEach [e] env = (false, eval e env) :: starEach [] env := by with_unfolding_all rfl) : Ev c l (exec (.Expr (.Call (.Attribute o "append" apos) [e] [] pos) spos) env) P :=
  s_Expr (e_methList slot_list_append PySem.F.type_list_append (h.mono fun ov l₁ ⟨a, xs, e1, hm, k⟩ => ⟨a, xs, e1, hm, v_callWith (ev_items_cons (k.mono fun x l₂ ⟨xs', l₃, hz, u, p⟩ v r => ev_items_nil (v_append (Rep.ref_mk a) r hz u ⟨rfl, p⟩)) he) he rfl⟩) hbase hfew hline) hi hs
theorem ev_assignName {x : Str} {px : Pos} {v : Value} {P : Unit → Ledger → Prop} (h : Ev c l (storeName env x v) P) : Ev c l (assign (.Name x px) env v) P := fun s F O => wpAny_assign_Name (h s F O)
theorem e_sum1 {K : Params → Frag} {n : Nat} {f : Str} {np pos : Pos} {e : Expr} {P : AV → Ledger → Prop} (ok : Ok K c n) (hg : Glo c env f (.val (.builtin "sum"))) (h : EvV c l (eval e env) fun a l₁ => ∃ (q : Addr) (ns : List Int), a = .ref q ∧ (q, Ent.list (ns.map AV.int)) ∈ l₁ ∧ P (.int ns.sum) l₁)
    (he : starEach [e] env = (false, eval e env) :: starEach [] env := by with_unfolding_all rfl) : EvV c l (eval (.Call (.Name f np) [e] [] pos) env) P :=
  e_call1 hg rfl (h.mono fun a l₁ ⟨q, ns, e1, hm, p⟩ v r => v_sumList ok (by subst e1; exact r) hm p) he
theorem e_minL {K : Params → Frag} {n : Nat} {f : Str} {np pos : Pos} {e : Expr} {P : AV → Ledger → Prop} (ok : Ok K c n) (hg : Glo c env f (.val (.builtin "min"))) (h : EvV c l (eval e env) fun a l₁ => ∃ (q : Addr) (ns : List Int), a = .ref q ∧ (q, Ent.list (ns.map AV.int)) ∈ l₁ ∧ ns ≠ [] ∧ P (.int (lmin ns)) l₁)
    (he : starEach [e] env = (false, eval e env) :: starEach [] env := by with_unfolding_all rfl) : EvV c l (eval (.Call (.Name f np) [e] [] pos) env) P :=
  e_call1 hg rfl (h.mono fun a l₁ ⟨q, ns, e1, hm, hne, p⟩ v r => v_minList ok (by subst e1; exact r) hm hne p) he
/-! iterators of range(..), whose range object is dropped -/
theorem v_iterRange' {K : Params → Frag} {n : Nat} {r : Addr} {a b : Int} {k : Nat} {v : Value} {P : Value → Ledger → Prop} (ok : Ok K c n) (rv : Rep v (.ref r)) (hs : Builtin.Range.small a b 1 = true) (hk : Builtin.Range.rangeSize a b 1 = k)
    (h : ∀ I, It c I (rangeItems a 1 k) (fun i => rangeIter (a + (i : Nat) * 1) ((k : Int) - (i : Nat)) 1) [] → P (.ref I) ((I, rangeIter (a + (0 : Nat) * 1) ((k : Int) - (0 : Nat)) 1) :: l)) : Ev c ((r, rng a b 1) :: l) (pyIter v) P :=
  Ev.after (v_iterRange (P := fun it l' => ∃ I, it = .ref I ∧ It c I (rangeItems a 1 k) (fun i => rangeIter (a + (i : Nat) * 1) ((k : Int) - (i : Nat)) 1) [] ∧ l' = (I, rangeIter (a + (0 : Nat) * 1) ((k : Int) - (0 : Nat)) 1) :: (r, rng a b 1) :: l) ok rv (.head _) hs hk fun I hI => ⟨I, rfl, hI, rfl⟩) fun it l' h' F ⟨I, e1, hI, e2⟩ O => by
    subst e1 e2
    exact ⟨_, O.sub (((List.sublist_cons_self _ _).cons_cons _).append_right F), h I hI⟩
end
theorem frm1 (x : Str) : (fun _ => none : Str → Option AV) = frm [x] [none] := by
  funext y; unfold frm
  cases h : ([none] : List (Option AV))[List.idxOf y [x]]? with
  | none => rfl
  | some z =>
    have := List.mem_of_getElem? h
    simp at this; subst this; rfl
theorem frm2 (x x' : Str) : (fun _ => none : Str → Option AV) = frm [x, x'] [none, none] := by
  funext y; unfold frm
  cases h : ([none, none] : List (Option AV))[List.idxOf y [x, x']]? with
  | none => rfl
  | some z =>
    have := List.mem_of_getElem? h
    simp at this; subst this; rfl
theorem compL_1 (x : Str) (C : Addr) (l : Ledger) : compL C [] ++ l = (C, Ent.ns (frm [x] [none])) :: l := by rw [← frm1]; rfl
theorem compL_2 (x y : Str) (C : Addr) (l : Ledger) : compL C [] ++ l = (C, Ent.ns (frm [x, y] [none, none])) :: l := by rw [← frm2]; rfl
theorem compL_c (x : Str) (C a : Addr) (l : Ledger) : compL C [(x, a)] ++ l = (C, Ent.ns fun _ => none) :: (a, Ent.cell none) :: l := rfl
/-- rows: a list of lists of ints -/
structure Rows (G : Ledger) (as : List Addr) (rows : List (List Int)) : Prop where
  len : as.length = rows.length
  at' : ∀ (k : Nat) (a : Addr) (r : List Int), as[k]? = some a → rows[k]? = some r → (a, Ent.list (r.map AV.int)) ∈ G
theorem Rows.nil {G : Ledger} : Rows G [] [] := ⟨rfl, fun k a r h => by simp at h⟩
theorem Rows.mono {G G' : Ledger} {as : List Addr} {rows : List (List Int)} (h : Rows G as rows) (s : ∀ p ∈ G, p ∈ G') : Rows G' as rows := ⟨h.len, fun k a r h1 h2 => s _ (h.at' k a r h1 h2)⟩
theorem Rows.snoc {G : Ledger} {as : List Addr} {rows : List (List Int)} {a : Addr} {r : List Int} (h : Rows G as rows) (hm : (a, Ent.list (r.map AV.int)) ∈ G) : Rows G (as ++ [a]) (rows ++ [r]) := by
  refine ⟨by simp [h.len], fun k b r' h1 h2 => ?_⟩
  by_cases hk : k < as.length
  · rw [List.getElem?_append_left hk] at h1
    rw [List.getElem?_append_left (by rw [← h.len]; exact hk)] at h2
    exact h.at' k b r' h1 h2
  · rw [List.getElem?_append_right (by lia)] at h1
    rw [List.getElem?_append_right (by rw [← h.len]; lia)] at h2
    rw [h.len] at h1
    cases hz : k - rows.length with
    | zero => rw [hz] at h1 h2; simp at h1 h2; subst h1 h2; exact hm
    | succ j => rw [hz] at h1; simp at h1
theorem Rows.get {G : Ledger} {as : List Addr} {rows : List (List Int)} (h : Rows G as rows) {k : Nat} (hk : k < rows.length) : ∃ a, as[k]? = some a ∧ (as.map AV.ref)[k]? = some (.ref a) ∧ (a, Ent.list ((rows[k]).map AV.int)) ∈ G := by
  have h1 : k < as.length := by rw [h.len]; exact hk
  refine ⟨as[k], List.getElem?_eq_getElem h1, by simp [h1], h.at' k _ _ (List.getElem?_eq_getElem h1) (List.getElem?_eq_getElem hk)⟩
end Mine
end
section
open PySem PySem.W PyProof.Rows
set_option linter.unusedVariables false
set_option maxRecDepth 100000
namespace Mine
/-! ## a lambda made in the frame; its code stands in a table of the frame's own code -/
structure Bm (c : Cx) : Prop where
  at' : ∃ mg bm ob, c.h₀.Ns mainGlobals mg ∧ mg "__builtins__" = some (.ref bm) ∧ bm ≠ builtinsNs ∧ bm ≠ mainGlobals ∧ c.h₀.get? bm = some ob ∧ ob.cls = .type "module" ∧ ob.dict = some builtinsNs ∧ ob.data = .plain
structure CodeOf (oc : Obj) (qual : Str) : Prop where
  at' : ∃ vs t, oc.data = .fields vs ∧ vs[1]? = some (.str qual t)
noncomputable def LamE (pos : Pos) (qual : Str) (G : Ledger) (e : Ent) : Prop :=
  e = .obj (· = tabObj #[]) ∨ ∃ c' oc, e = .obj (· = tabObj #[rawInt pos.line, rawInt pos.col, .ref c']) ∧ (c', Ent.obj (· = oc)) ∈ G ∧ CodeOf oc qual
theorem LamE.mono {pos : Pos} {qual : Str} {G G' : Ledger} {e : Ent} (h : LamE pos qual G e) (s : ∀ p ∈ G, p ∈ G') : LamE pos qual G' e := by
  rcases h with h | ⟨c', oc, h1, h2, h3⟩
  · exact .inl h
  · exact .inr ⟨c', oc, h1, s _ h2, h3⟩
theorem Upd.same {a : Addr} {e : Ent} {l l' : Ledger} (u : Mine.Upd a e e l l') : l' = l := by
  have key : ∀ {e e' : Ent} {l l' : Ledger}, Mine.Upd a e e' l l' → e = e' → l' = l := by
    intro e e' l l' u
    induction u with
    | head => intro h; subst h; rfl
    | tail _ ih => intro h; rw [ih h]
  exact key u rfl
section
variable {c : Cx} {env : Env} {l F : Ledger}
theorem e_lambda {T cd : Addr} {e : Ent} {G : Ledger} {params : Arguments} {body : Expr} {scope : Scope} {pos : Pos} {lu : Ent → Ledger} {P : AV → Ledger → Prop} (bm : Bm c) (hG : EnvG env) (hcd : env.code = .ref cd) (hhd : CodeHd c.h₀ cd T)
    (hT : c.h₀.get? T = none) (hm : LamE pos (env.qual ++ "<lambda>") G e) (hu : ∀ e', Mine.Upd T e e' l (lu e')) (hdef : defaultsOf params env = ([], [])) (hcl : closureFor scope env = pure [])
    (h : ∀ kf ko c' oc pm ctv e' new, ko = kla_obj "<lambda>" (env.qual ++ "<lambda>") params body scope [] pm c' ctv → (c', Ent.obj (· = oc)) ∈ new ++ G → CodeOf oc (env.qual ++ "<lambda>") → LamE pos (env.qual ++ "<lambda>") (new ++ G) e' → P (.ref kf) ((kf, .obj (· = ko)) :: (new ++ lu e'))) :
    EvV c l (eval (.Lambda params body scope pos) env) P := fun s F O => by
  refine byG fun gG kgG => ?_
  obtain ⟨mg, bmA, ob, hn, hb1, hb2, hb3, hb4, hb5, hb6, hb7⟩ := bm
  refine kgG ?_
  clear kgG gG
  have hbT : bmA ≠ T := fun q => by rw [q, hT] at hb4; cases hb4
  have hgT : mainGlobals ≠ T := fun q => by
    refine byG fun gG kgG => ?_
    obtain ⟨o, es, ep, ho, _⟩ := hn
    refine kgG ?_
    clear kgG gG
    rw [q, hT] at ho; cases ho
  have hB : s.heap.BuiltinsAt mg T := ⟨bmA, ob, hb1, hb2, hb3, hbT, O.keep _ _ hb4, hb5, hb6, hb7⟩
  have hC : CodeHd s.heap cd T := hhd.keeps O.keep
  have hg := hn.keeps O.keep
  refine kla_eval hdef ?_
  obtain ⟨o, ho, he⟩ : ∃ o, s.heap.get? T = some o ∧ e.At s.heap T := by
    have := O.has _ (List.mem_append_left F (hu e).mem)
    obtain ⟨o, ho⟩ := this.some
    exact ⟨o, ho, this⟩
  rcases hm with rfl | ⟨c', oc, rfl, hcm, hco⟩
  · obtain ⟨o', ho', rfl⟩ := he
    refine kla_makeFunction (ps := #[]) hcl hG.g hg hcd hC ho' trivial rfl hgT hB fun c' ctv h' tk hx hge hlt hrec htb => ?_
    refine byG fun gG kgG => ?_
    obtain ⟨c₂, oc, vs, t, e2, hoc, hd, hv⟩ := hrec
    refine kgG ?_
    clear kgG gG
    cases e2
    have u := hu (.obj (· = tabObj #[rawInt pos.line, rawInt pos.col, .ref c']))
    have O₁ : Own c.h₀ h' (lu (.obj (· = tabObj #[rawInt pos.line, rawInt pos.col, .ref c'])) ++ F) := O.upd u.app ⟨_, htb, rfl⟩ hx
    have hnew : ∀ p ∈ lu (.obj (· = tabObj #[rawInt pos.line, rawInt pos.col, .ref c'])) ++ F, p.1 ≠ c' := fun p hp q => by
      have hfst : p.1 ∈ (l ++ F).map (·.1) := by
        rw [← u.app.fst]; exact List.mem_map_of_mem hp
      obtain ⟨p', hp', e'⟩ := List.mem_map.mp hfst
      have := (O.has p' hp').lt
      rw [e', q] at this
      exact absurd hge (Nat.not_le.mpr this)
    have O₂ : Own c.h₀ h' ((c', Ent.obj (· = oc)) :: (lu (.obj (· = tabObj #[rawInt pos.line, rawInt pos.col, .ref c'])) ++ F)) := by
      refine ⟨fun p hp => ?_, ?_, O₁.keep, fun p hp => ?_⟩
      · rcases List.mem_cons.mp hp with rfl | hp
        · exact ⟨oc, hoc, rfl⟩
        · exact O₁.has p hp
      · rw [List.map_cons, List.nodup_cons]
        refine ⟨fun hmem => ?_, O₁.nd⟩
        obtain ⟨p, hp, e'⟩ := List.mem_map.mp hmem
        exact hnew p hp e'
      · rcases List.mem_cons.mp hp with rfl | hp
        · cases hq : c.h₀.get? c' with
          | none => rfl
          | some o => exact absurd (Heap.lt_size (O.keep _ _ hq)) (Nat.not_lt.mpr hge)
        · exact O₁.fresh p hp
    have O₃ := Own.new (e := .obj (· = kla_obj "<lambda>" (env.qual ++ "<lambda>") params body scope [] ((mg "__name__").getD .none) c' ctv)) O₂ (h' := h'.push (kla_obj "<lambda>" (env.qual ++ "<lambda>") params body scope [] ((mg "__name__").getD .none) c' ctv)) (fun b o e => Heap.get?_push_of_some _ e) (Nat.le_refl _) ⟨_, Heap.get?_push_size _ rfl, rfl⟩
    exact (postV _ tk (_ :: ([(c', Ent.obj (· = oc))] ++ lu (.obj (· = tabObj #[rawInt pos.line, rawInt pos.col, .ref c'])))) rfl O₃ _ (Rep.ref_mk _) (h _ _ c' oc _ _ _ [(c', Ent.obj (· = oc))] rfl (List.mem_append_left _ (.head _)) ⟨vs, t, hd, hv⟩ (.inr ⟨c', oc, rfl, List.mem_append_left _ (.head _), vs, t, hd, hv⟩)))
  · obtain ⟨o', ho', rfl⟩ := he
    refine kla_makeFunctionHit (ps := #[rawInt pos.line, rawInt pos.col, .ref c']) (cv := .ref c') hcl hG.g hg hcd hC ho' trivial (codeAmong_snoc [] trivial rfl) hB fun ctv h' tk hk hsz => ?_
    have u := hu (.obj (· = tabObj #[rawInt pos.line, rawInt pos.col, .ref c']))
    have hl := u.same
    have O₁ : Own c.h₀ h' (l ++ F) := O.grow hk
    have O₃ := Own.new (e := .obj (· = kla_obj "<lambda>" (env.qual ++ "<lambda>") params body scope [] ((mg "__name__").getD .none) c' ctv)) O₁ (h' := h'.push (kla_obj "<lambda>" (env.qual ++ "<lambda>") params body scope [] ((mg "__name__").getD .none) c' ctv)) (fun b o e => Heap.get?_push_of_some _ e) (Nat.le_refl _) ⟨_, Heap.get?_push_size _ rfl, rfl⟩
    refine (postV _ tk (_ :: ([] ++ lu (.obj (· = tabObj #[rawInt pos.line, rawInt pos.col, .ref c'])))) rfl ?_ _ (Rep.ref_mk _) (h _ (kla_obj "<lambda>" (env.qual ++ "<lambda>") params body scope [] ((mg "__name__").getD .none) c' ctv) c' oc _ _ _ [] rfl hcm hco (.inr ⟨c', oc, rfl, hcm, hco⟩)))
    rw [hl]
    exact O₃
/-- the call of a lambda: its expression, in a frame of its own -/
theorem ev_defE {K : Params → Frag} {n : Nat} {a : Addr} {o : Obj} {fd : FuncData} {body : Expr} {vs : List Value} {binds : List (Str × Value)} {m : Str → Option AV} {oc : Obj} {c' : Addr} {P : AV → Ledger → Prop}
    (ok : Ok K c (n + 1)) (ho : (a, Ent.obj (· = o)) ∈ l) (hdata : o.data = .func fd) (hcode : fd.code = .ref c') (hc' : (c', Ent.obj (· = oc)) ∈ l) (hco : CodeOf oc fd.qualname) (hbody : fd.body = .expr body)
    (hbind : bindArgs fd ⟨vs, []⟩ = pure binds) (hcell : ∀ x ∈ fd.scope.names, x.2 ≠ .cell) (hloc : ∀ x ∈ binds, fd.scope.names.lookup x.1 = some .local)
    (hm : ∀ x av, m x = some av → ∃ v, binds.reverse.lookup x = some v ∧ Rep v av)
    (h : ∀ L, EvV (c.deeper (callEnv fd L a)) ((L, .ns m) :: l) (eval body (callEnv fd L a)) fun av l' => ∃ l'', l''.Sublist l' ∧ P av l'')
    (hco' : fd.scope.isCoroutine = false := by with_unfolding_all rfl) (hgen : fd.scope.isGenerator = false := by with_unfolding_all rfl) (hk : fd.scope.kind = .function := by with_unfolding_all rfl) : EvV c l (call (.ref a) vs) P := fun s F O => by
  obtain ⟨o', ho', rfl⟩ := O.has _ (List.mem_append_left F ho)
  obtain ⟨oc', hoc', rfl⟩ := O.has _ (List.mem_append_left F hc')
  refine byG fun gG kgG => ?_
  obtain ⟨ws, t, hd, hv⟩ := hco
  refine kgG ?_
  clear kgG gG
  refine wpAny_call (kla_callFunE ok.room ho' hdata hco' hgen hbody ⟨c', _, ws, t, hcode, hoc', hd, hv⟩ ?_)
  rw [hbind]
  refine wpAny_pure (wpAny_newFunctionEnv hcell hloc (fun h₁ hns hsb => ?_) hk)
  dsimp only at hns hsb ⊢
  have hk₁ : ∀ b o, s.heap.get? b = some o → h₁.get? b = some o := fun b o e => hsb.extBut b o (Nat.ne_of_lt (Heap.lt_size e)) (Heap.get?_push_of_some _ e)
  refine ⟨(ok.lim.keeps O.keep).keeps hk₁, ?_⟩
  show codeAny _ _ (.expr body (callEnv fd s.heap.objs.size a)) _ _
  have O₁ : Own c.h₀ h₁ (((s.heap.objs.size, Ent.ns m) :: l) ++ F) := Own.new O hk₁ (Nat.le_refl _) ⟨_, hns, hm⟩
  refine kla_codeExpr (Ev.runV (c := c.deeper _) (h s.heap.objs.size) O₁ fun v av h₂ tk₂ l₂ O₂ r ⟨l'', sub, p⟩ => ?_)
  exact (postV h₂ tk₂ l'' rfl (Own.sub O₂ (sub.append_right F)) av r p)
end
end Mine
end
section
open PySem PySem.W PyProof.Rows
set_option linter.unusedVariables false
set_option maxRecDepth 100000
namespace Mine
/-! ## several owned objects change at once -/
theorem Own.change {h₀ h h' : Heap} {l₁ l₁' l : Ledger} (O : Own h₀ h (l₁ ++ l)) (hf : l₁'.map (·.1) = l₁.map (·.1)) (hat : ∀ p ∈ l₁', p.2.At h' p.1) (keep : ∀ b o, b ∉ l₁.map (·.1) → h.get? b = some o → h'.get? b = some o) : Own h₀ h' (l₁' ++ l) := by
  have nd := O.nd
  rw [List.map_append, List.nodup_append] at nd
  obtain ⟨n1, n2, n3⟩ := nd
  refine ⟨fun p hp => ?_, ?_, fun b o e => keep b o (fun hb => ?_) (O.keep b o e), fun p hp => ?_⟩
  · rcases List.mem_append.mp hp with hp | hp
    · exact hat p hp
    · exact (O.has p (List.mem_append_right _ hp)).of fun o e => keep _ o (fun hb => n3 _ hb _ (List.mem_map_of_mem hp) rfl) e
  · rw [List.map_append, hf, ← List.map_append]; exact O.nd
  · obtain ⟨q, hq, rfl⟩ := List.mem_map.mp hb
    rw [O.fresh q (List.mem_append_left _ hq)] at e; cases e
  · rcases List.mem_append.mp hp with hp | hp
    · have : p.1 ∈ l₁.map (·.1) := by rw [← hf]; exact List.mem_map_of_mem hp
      obtain ⟨q, hq, e⟩ := List.mem_map.mp this
      rw [← e]; exact O.fresh q (List.mem_append_left _ hq)
    · exact O.fresh p (List.mem_append_right _ hp)
theorem Own.add {h₀ h : Heap} {l : Ledger} (O : Own h₀ h l) {a : Addr} {e : Ent} (hn : a ∉ l.map (·.1)) (h0 : h₀.get? a = none) (x : e.At h a) : Own h₀ h ((a, e) :: l) := by
  refine ⟨fun p hp => ?_, ?_, O.keep, fun p hp => ?_⟩
  · rcases List.mem_cons.mp hp with rfl | hp
    · exact x
    · exact O.has p hp
  · rw [List.map_cons, List.nodup_cons]; exact ⟨hn, O.nd⟩
  · rcases List.mem_cons.mp hp with rfl | hp
    · exact h0
    · exact O.fresh p hp
theorem Own.size {h₀ h : Heap} {l : Ledger} (O : Own h₀ h l) : h.objs.size ∉ l.map (·.1) := fun hm => by
  obtain ⟨p, hp, e⟩ := List.mem_map.mp hm
  have := (O.has p hp).lt
  rw [e] at this
  exact Nat.lt_irrefl _ this
section
variable {c : Cx} {env : Env} {l F : Ledger}
/-! ## unpacking -/
theorem ev_assignTup2 {K : Params → Frag} {n k : Nat} {x y : Str} {p1 p2 tp : Pos} {t : Addr} {a b : AV} {v : Value} {P : Unit → Ledger → Prop} (ok : Ok K c n) (r : Rep v (.ref t)) (hm : (t, Ent.tup [a, b]) ∈ l)
    (h : ∀ v1 v2, Rep v1 a → Rep v2 b → Ev c l (storeName env x v1) fun _ l₁ => Ev c l₁ (storeName env y v2) P) : Ev c l (assign (.Tuple [.Name x p1, .Name y p2] k tp) env v) P := fun s F O => by
  obtain ⟨_, rfl⟩ := r
  refine byG fun gG kgG => ?_
  obtain ⟨vs, m, hl, hr⟩ := Own.isTup O (List.mem_append_left _ hm)
  refine kgG ?_
  clear kgG gG
  have hr' := hr
  cases hr with
  | @cons v1 _ _ _ r1 hr =>
  cases hr with
  | @cons v2 _ _ _ r2 hr =>
  cases hr
  refine assign_Tuple_tuple ok.hh (⟨_, hl, rfl, m, rfl⟩ : IsTup s.heap t [v1, v2].toArray) (by with_unfolding_all rfl) (by with_unfolding_all rfl) fun h' he => ?_
  have O' : Own c.h₀ h' (l ++ F) := O.grow fun b o e => he b o (Nat.ne_of_lt (Heap.lt_size e)) e
  show wpAny _ _ (assignInOrder [assign (.Name x p1) env, assign (.Name y p2) env] [v1, v2]) _ _ _
  refine assignInOrder_cons (wpAny_assign_Name (Ev.run (h v1 v2 r1 r2) O' fun _ h₂ tk₂ l₂ O₂ p₂ => ?_))
  refine assignInOrder_cons (wpAny_assign_Name (Ev.run p₂ O₂ fun _ h₃ tk₃ l₃ O₃ p₃ => ?_))
  exact assignInOrder_nil ⟨h₃, tk₃, l₃, rfl, O₃, p₃⟩
theorem ev_assignTup3 {K : Params → Frag} {n k : Nat} {x y z : Str} {p1 p2 p3 tp : Pos} {t : Addr} {a b d : AV} {v : Value} {P : Unit → Ledger → Prop} (ok : Ok K c n) (r : Rep v (.ref t)) (hm : (t, Ent.tup [a, b, d]) ∈ l)
    (h : ∀ v1 v2 v3, Rep v1 a → Rep v2 b → Rep v3 d → Ev c l (storeName env x v1) fun _ l₁ => Ev c l₁ (storeName env y v2) fun _ l₂ => Ev c l₂ (storeName env z v3) P) : Ev c l (assign (.Tuple [.Name x p1, .Name y p2, .Name z p3] k tp) env v) P := fun s F O => by
  obtain ⟨_, rfl⟩ := r
  refine byG fun gG kgG => ?_
  obtain ⟨vs, m, hl, hr⟩ := Own.isTup O (List.mem_append_left _ hm)
  refine kgG ?_
  clear kgG gG
  cases hr with
  | @cons v1 _ _ _ r1 hr =>
  cases hr with
  | @cons v2 _ _ _ r2 hr =>
  cases hr with
  | @cons v3 _ _ _ r3 hr =>
  cases hr
  refine assign_Tuple_tuple ok.hh (⟨_, hl, rfl, m, rfl⟩ : IsTup s.heap t [v1, v2, v3].toArray) (by with_unfolding_all rfl) (by with_unfolding_all rfl) fun h' he => ?_
  have O' : Own c.h₀ h' (l ++ F) := O.grow fun b o e => he b o (Nat.ne_of_lt (Heap.lt_size e)) e
  show wpAny _ _ (assignInOrder [assign (.Name x p1) env, assign (.Name y p2) env, assign (.Name z p3) env] [v1, v2, v3]) _ _ _
  refine assignInOrder_cons (wpAny_assign_Name (Ev.run (h v1 v2 v3 r1 r2 r3) O' fun _ h₂ tk₂ l₂ O₂ p₂ => ?_))
  refine assignInOrder_cons (wpAny_assign_Name (Ev.run p₂ O₂ fun _ h₃ tk₃ l₃ O₃ p₃ => ?_))
  refine assignInOrder_cons (wpAny_assign_Name (Ev.run p₃ O₃ fun _ h₄ tk₄ l₄ O₄ p₄ => ?_))
  exact assignInOrder_nil ⟨h₄, tk₄, l₄, rfl, O₄, p₄⟩
theorem s_assignTup {elts : List Expr} {k : Nat} {tp pos : Pos} {e : Expr} {P : Flow → Ledger → Prop}
    (h : EvV c l (eval e env) fun a l₁ => ∀ v, Rep v a → Ev c l₁ (assign (.Tuple elts k tp) env v) fun _ l₂ => P .next l₂)
    (hs : swapsWithSole [.Tuple elts k tp] e pos.line env = pure false := by with_unfolding_all rfl) (hw : swappedStores [.Tuple elts k tp] e env = pure none := by with_unfolding_all rfl) : Ev c l (exec (.Assign [.Tuple elts k tp] e pos) env) P := fun s F O =>
  Assign_Tuple (Ev.runV h O fun v a h₁ tk₁ l₁ O₁ r p₁ => Ev.run (p₁ v r) O₁ fun z h₃ tk₃ l₃ O₃ p₃ => ⟨h₃, tk₃, l₃, rfl, O₃, p₃⟩) hs hw
/-! ## enumerate(list) -/
noncomputable def enumE (it : Addr) (i : Nat) : Ent := .obj fun o => ∃ old, o = { cls := .type "enumerate", dict := none, data := .fields #[.none, .bool false, .ref it, rawInt i, .none, old], slots := #[] }
noncomputable def enumS (e it ax : Addr) (i : Nat) : Ledger := [(e, enumE it i), (it, listIter ax i)]
theorem v_enumerate {ax : Addr} {xs : List AV} {v : Value} {P : AV → Ledger → Prop} (r : Rep v (.ref ax)) (hm : (ax, Ent.list xs) ∈ l) (h : ∀ e it, P (.ref e) (enumS e it ax 0 ++ l)) : EvV c l (call (.type "enumerate") [v]) P := fun s F O => by
  obtain ⟨_, rfl⟩ := r
  refine byG fun gG kgG => ?_
  obtain ⟨vs, n, hg, hr⟩ := O.has _ (List.mem_append_left F hm)
  refine kgG ?_
  clear kgG gG
  refine call_enumerate_1 hg fun h' he hit hz hk => ?_
  have O₁ := O.grow hk
  have n1 : s.heap.objs.size ∉ (l ++ F).map (·.1) := O.size
  have n2 : s.heap.objs.size + 1 ∉ (l ++ F).map (·.1) := fun hm => by
    obtain ⟨p, hp, e⟩ := List.mem_map.mp hm
    have := (O.has p hp).lt
    rw [e] at this
    exact absurd this (Nat.not_lt.mpr (Nat.le_succ _))
  have f1 : ∀ b, s.heap.objs.size ≤ b → c.h₀.get? b = none := fun b hb => by
    cases q : c.h₀.get? b with
    | none => rfl
    | some o => exact absurd (Heap.lt_size (O.keep _ _ q)) (Nat.not_lt.mpr hb)
  have O₂ := O₁.add (e := listIter ax 0) n1 (f1 _ (Nat.le_refl _)) hit
  have O₃ := O₂.add (a := s.heap.objs.size + 1) (e := enumE s.heap.objs.size 0) (by
    rw [List.map_cons, List.mem_cons]
    rintro (q | q)
    · exact absurd q (Nat.succ_ne_self _)
    · exact n2 q) (f1 _ (Nat.le_succ _)) ⟨_, he, .none, rfl⟩
  exact ⟨h', s.toks, enumS (s.heap.objs.size + 1) s.heap.objs.size ax 0 ++ l, rfl, O₃, _, Rep.ref_mk _, h _ _⟩
theorem enum_next {ax e it : Addr} {xs : List AV} {i : Nat} {x : AV} {elts : List Expr} {k : Nat} {tp : Pos} (hx : xs[i]? = some x) (hm : (ax, Ent.list xs) ∈ l) :
    Ev c (enumS e it ax i ++ l) (pyNext (.ref e)) fun r l' => ∃ v, r = some v ∧ Ev c l' (letOwnedTupleGo (.Tuple elts k tp) (.ref e) v) fun _ l₂ => ∃ t, v = .ref t ∧ l₂ = enumS e it ax (i + 1) ++ ([(t, .tup [.int i, x])] ++ l) := fun s F O => by
  refine byG fun gG kgG => ?_
  obtain ⟨_, he, old, rfl⟩ := O.has (e, enumE it i) (.head _)
  refine kgG ?_
  clear kgG gG
  have hit : s.heap.IsListIter it ax i := O.has (it, listIter ax i) (.tail _ (.head _))
  refine byG fun gG kgG => ?_
  obtain ⟨vs, n, hg, hr⟩ := O.has (ax, Ent.list xs) (.tail _ (.tail _ (List.mem_append_left F hm)))
  refine kgG ?_
  clear kgG gG
  have hl : s.heap.IsList ax vs.toArray := ⟨_, hg, rfl, n, rfl⟩
  obtain ⟨w, hw, rw'⟩ := hr.get hx
  have hne : e ≠ it := fun q => by
    have nd := O.nd
    rw [q] at nd
    rw [show enumS it it ax i ++ l ++ F = (it, enumE it i) :: (it, listIter ax i) :: (l ++ F) from rfl, List.map_cons, List.nodup_cons] at nd
    exact nd.1 (.head _)
  refine wpAny_pyNext_enum_item he hit hl (by simpa using hw) hne fun h' ho hit' ht hz hk => ?_
  have O₁ : Own c.h₀ h' ([(e, .obj fun o => o = { cls := .type "enumerate", dict := none, data := .fields #[rawInt s.heap.objs.size, .bool false, .ref it, rawInt ((i : Int) + 1), .none, w], slots := #[] }), (it, listIter ax (i + 1))] ++ (l ++ F)) := by
    refine Own.change (l₁ := enumS e it ax i) (h := s.heap) (by rw [← List.append_assoc]; exact O) rfl (fun p hp => ?_) (fun b o hb q => hk b o (fun q' => hb (by rw [q']; exact .head _)) (fun q' => hb (by rw [q']; exact .tail _ (.head _))) q)
    rcases List.mem_cons.mp hp with rfl | hp
    · exact ⟨_, ho, rfl⟩
    · rcases List.mem_cons.mp hp with rfl | hp
      · exact hit'
      · cases hp
  have O₂ := O₁.add (a := s.heap.objs.size) (e := .tup [.int i, x]) (by
    have := O.size
    rwa [show ((([(e, Ent.obj fun o => o = ({ cls := .type "enumerate", dict := none, data := .fields #[rawInt s.heap.objs.size, .bool false, .ref it, rawInt ((i : Int) + 1), .none, w], slots := #[] } : Obj)), (it, listIter ax (i + 1))] ++ (l ++ F) : Ledger)).map (·.1)) = (enumS e it ax i ++ l ++ F).map (·.1) from by simp [enumS]])
    (by
      cases q : c.h₀.get? s.heap.objs.size with
      | none => rfl
      | some o => exact absurd (Heap.lt_size (O.keep _ _ q)) (Nat.lt_irrefl _)) ⟨[.int i s.toks, w], 0, ht, .cons (Rep.int_mk _ _) (.cons rw' .nil)⟩
  refine ⟨h', s.toks + 1, (s.heap.objs.size, .tup [.int i, x]) :: ([(e, .obj fun o => o = { cls := .type "enumerate", dict := none, data := .fields #[rawInt s.heap.objs.size, .bool false, .ref it, rawInt ((i : Int) + 1), .none, w], slots := #[] }), (it, listIter ax (i + 1))] ++ l), rfl, O₂, _, rfl, ?_⟩
  generalize s.heap.objs.size = T at *
  clear O O₁ O₂ hit he hl hg hk hz ht ho hit' hw hr h' s F
  intro s F O
  obtain ⟨_, ho, rfl⟩ := O.has (e, .obj fun o => o = { cls := .type "enumerate", dict := none, data := .fields #[rawInt T, .bool false, .ref it, rawInt ((i : Int) + 1), .none, w], slots := #[] }) (.tail _ (.head _))
  refine wpAny_letOwnedTupleGo_enum ho fun h' he' hs' => ?_
  refine ⟨h', s.toks, _, rfl, ?_, T, rfl, rfl⟩
  have O' := O.upd (e' := enumE it (i + 1)) (.tail .head) ⟨_, he', w, rfl⟩ hs'.extBut
  exact O'.perm ((List.Perm.swap _ _ _).trans (List.Perm.cons _ (List.Perm.swap _ _ _))).symm
theorem enum_done {ax e it : Addr} {xs : List AV} (hh : c.A.handled = none) (hm : (ax, Ent.list xs) ∈ l) : Ev c (enumS e it ax xs.length ++ l) (pyNext (.ref e)) fun r l' => r = none ∧ l' = l := fun s F O => by
  refine byG fun gG kgG => ?_
  obtain ⟨_, he, old, rfl⟩ := O.has (e, enumE it xs.length) (.head _)
  refine kgG ?_
  clear kgG gG
  have hit : s.heap.IsListIter it ax xs.length := O.has (it, listIter ax _) (.tail _ (.head _))
  refine byG fun gG kgG => ?_
  obtain ⟨vs, n, hg, hr⟩ := O.has (ax, Ent.list xs) (.tail _ (.tail _ (List.mem_append_left F hm)))
  refine kgG ?_
  clear kgG gG
  have hl : s.heap.IsList ax vs.toArray := ⟨_, hg, rfl, n, rfl⟩
  refine wpAny_pyNext_enum_end hh he hit hl (by simp [hr.length]) fun h' hx => ⟨h', s.toks, l, rfl, ?_, rfl, rfl⟩
  have O' : Own c.h₀ s.heap ((it, listIter ax xs.length) :: (l ++ F)) := Own.tail O
  exact O'.drop hx
theorem enum_self {ax e it : Addr} {i : Nat} : Ev c (enumS e it ax i ++ l) (pyIter (.ref e)) fun v l' => v = .ref e ∧ l' = enumS e it ax i ++ l := fun s F O => by
  refine byG fun gG kgG => ?_
  obtain ⟨_, he, old, rfl⟩ := O.has (e, enumE it i) (.head _)
  refine kgG ?_
  clear kgG gG
  exact wpAny_pyIter_enum he ⟨s.heap, s.toks, _, rfl, O, rfl, rfl⟩
end
end Mine
end
section
open PySem PySem.W PyProof.Rows
set_option linter.unusedVariables false
set_option maxRecDepth 100000
namespace Mine
section
variable {c : Cx} {env : Env} {l F : Ledger}
/-- a list comprehension over enumerate(list), its pair unpacked -/
theorem comp_enum {elt iter : Expr} {elts : List Expr} {kx : Nat} {tp : Pos} {scope : Scope} {cl : List (Str × Addr)} {pos : Pos} {items : List AV} {ax e it : Addr} {J : Nat → List AV → Ledger → Prop} {RR : Value → Addr → Result → Shared → Prop} {E : Value → Shared → Prop} {s₂ : Shared} {l₃ : Ledger} (hh : c.A.handled = none)
    (O : Own c.h₀ s₂.heap ((enumS e it ax 0 ++ l₃) ++ F)) (hJ : J 0 [] l₃) (hz : items.length ≤ sizeLine) (mem : ∀ i ys l, J i ys l → (ax, Ent.list items) ∈ l)
    (turn : ∀ C cs env' i a ys l t, (∃ n, cs = cellsFrom n scope.names []) → env' = compEnvC scope (cs ++ cl) C env → items[i]? = some a → J i ys l → Ev c (compL C cs ++ ((t, .tup [.int i, a]) :: l)) (assign (.Tuple elts kx tp) env' (.ref t)) fun _ l₁ =>
      EvV c l₁ (eval elt env') fun b l₃ => ∃ lc l₄, (lc ++ l₄).Perm l₃ ∧ blankL lc = compL C cs ∧ J (i + 1) (ys ++ [b]) l₄)
    (hRR : ∀ D C h' tk ys l', Own c.h₀ h' ((C, .ns fun _ => none) :: (D, .list ys) :: (l' ++ F)) → J items.length ys l' → RR (.ref D) C (.ok .next) { s₂ with heap := h', toks := tk }) :
    wpAny c.M c.A (newList []) (fun acc s₃ => wpAny c.M c.A (newFunctionEnv scope env.globals cl [] env.qual none .none (some env)) (fun cenv s₄ =>
      codeAny c.M c.A (.compStart (.ListComp elt [⟨.Tuple elts kx tp, iter, [], 0⟩] scope pos) 0 (.ref e) acc { cenv with scope := relabel scope env }) (RR acc cenv.locals) s₄) E s₃) E s₂ := by
  refine wpAny_newObj_type ?_
  have O₁ := Own.newList (vs := []) (as := []) O .nil
  refine wpAny_compEnv ?_
  generalize hD : s₂.heap.objs.size = D at *
  generalize hH1 : s₂.heap.push { cls := .type "list", data := .seq ([] : List Value).toArray } = H1 at *
  show codeAny _ _ _ _ { s₂ with heap := pushCells (H1.push { cls := .type "dict", data := .dict #[] }) scope.names }
  generalize hC : H1.objs.size = C at *
  rw [cellsFrom_app]
  generalize hcs : cellsFrom (C + 1) scope.names [] = cs
  have O₂ : Own c.h₀ (H1.push { cls := .type "dict", data := .dict #[] }) ((C, .ns fun _ => none) :: (D, .list []) :: ((enumS e it ax 0 ++ l₃) ++ F)) := by
    have := Own.new (e := .ns fun _ => none) (a := H1.objs.size) O₁ (h' := H1.push { cls := .type "dict", data := .dict #[] }) (fun b o e => Heap.get?_push_of_some _ e) (Nat.le_refl _) ⟨_, Heap.Ns.new H1 (.type "dict"), fun _ _ e => nomatch e⟩
    rw [hC] at this; exact this
  have hok := cellsFrom_ok scope.names (H1.push { cls := .type "dict", data := .dict #[] }) (C + 1) [] ⟨fun _ _ hm => (nomatch hm), List.Pairwise.nil⟩ (by rw [Heap.size_push, hC]; exact Nat.le_refl _)
  rw [Heap.size_push, hC, hcs] at hok
  have O₃ := Own.cells O₂ (pushCells_keeps scope.names _) hok (by rw [Heap.size_push, hC]; exact Nat.le_refl _)
  have O₄ : Own c.h₀ (pushCells (H1.push { cls := .type "dict", data := .dict #[] }) scope.names) ((enumS e it ax 0 ++ l₃) ++ (compL C cs ++ (D, .list []) :: F)) := by
    refine O₃.perm ?_
    exact comp_perm _ _ _ _ _
  have hexn : ∃ n, cs = cellsFrom n scope.names [] := ⟨_, hcs.symm⟩
  clear O₁ O₂ O₃ hok hcs hC hD
  generalize pushCells (H1.push { cls := .type "dict", data := .dict #[] }) scope.names = H2 at *
  generalize henv : compEnvC scope (cs ++ cl) C env = env'
  show codeAny c.M c.A (.compStart _ 0 (.ref e) (.ref D) (compEnvC scope (cs ++ cl) C env)) (RR (.ref D) C) _
  rw [henv]
  have loop : ∀ (H2 : Heap) (tk₂ : Nat), Own c.h₀ H2 ((enumS e it ax 0 ++ l₃) ++ (compL C cs ++ (D, .list []) :: F)) → codeAny c.M c.A (.compLoop (.ListComp elt [⟨.Tuple elts kx tp, iter, [], 0⟩] scope pos) 0 (.ref e) (.ref D) env') (RR (.ref D) C) { s₂ with heap := H2, toks := tk₂ } := by
    intro H2 tk₂ O₄
    refine PyProof.Rows.LCp.codeAny_compLoop_pair (fun n s' => ∃ h' tk l' i ys, s' = { s₂ with heap := h', toks := tk } ∧ Own c.h₀ h' ((enumS e it ax i ++ l') ++ (compL C cs ++ (D, .list ys) :: F)) ∧ J i ys l' ∧ i ≤ items.length ∧ ys.length ≤ i ∧ n = items.length + 1 - i) ?_ (items.length + 1)
      ⟨H2, tk₂, l₃, 0, [], rfl, O₄, hJ, Nat.zero_le _, Nat.le_refl _, rfl⟩
    rintro n s' hxx1
    refine byG fun gG kgG => ?_
    obtain ⟨h', tk, l', i, ys, rfl, O', hJ', hi, hys, rfl⟩ := hxx1
    refine kgG ?_
    clear kgG gG
    by_cases hlt : i < items.length
    · have hx : items[i]? = some items[i] := List.getElem?_eq_getElem hlt
      refine Ev.run (enum_next (elts := elts) (k := kx) (tp := tp) hx (mem i ys l' hJ')) O' fun r h₃ tk₃ l₄ O₅ ⟨v', er, p₅⟩ => ?_
      subst er
      refine Ev.run p₅ O₅ fun _ h₃ tk₃ l₄ O₅ ⟨t, ev, el⟩ => ?_
      subst ev el
      have O₆ : Own c.h₀ h₃ ((compL C cs ++ ((t, .tup [.int i, items[i]]) :: l')) ++ (enumS e it ax (i + 1) ++ (D, .list ys) :: F)) := by
        refine O₅.perm ?_
        rw [List.append_assoc, List.append_assoc]
        have h1 : ((compL C cs) ++ (((t, Ent.tup [.int i, items[i]]) :: l') ++ (enumS e it ax (i + 1) ++ (D, Ent.list ys) :: F))).Perm (compL C cs ++ (enumS e it ax (i + 1) ++ (((t, Ent.tup [.int i, items[i]]) :: l') ++ (D, Ent.list ys) :: F))) := List.Perm.append_left _ (List.perm_append_comm_assoc ..)
        refine h1.trans ?_
        have h2 : (compL C cs ++ (enumS e it ax (i + 1) ++ (((t, Ent.tup [.int i, items[i]]) :: l') ++ (D, Ent.list ys) :: F))).Perm (enumS e it ax (i + 1) ++ (compL C cs ++ (((t, Ent.tup [.int i, items[i]]) :: l') ++ (D, Ent.list ys) :: F))) := List.perm_append_comm_assoc ..
        refine h2.trans (List.Perm.append_left _ ?_)
        exact List.perm_append_comm_assoc ..
      refine Ev.run (turn C cs env' i _ ys l' t hexn henv.symm hx hJ') O₆ fun _ h₅ tk₅ l₅ O₇ p₅ => ?_
      refine Ev.runV p₅ O₇ fun y b h₇ tk₇ l₇ O₉ ry ⟨lc, l₈, el, hb, hJ₂⟩ => ?_
      replace O₉ := O₉.perm (el.append_right _)
      have O₁₀ : Own c.h₀ h₇ ((D, .list ys) :: (lc ++ (l₈ ++ (enumS e it ax (i + 1) ++ F)))) := by
        refine O₉.perm ?_
        rw [List.append_assoc]
        have h1 : ((D, Ent.list ys) :: (lc ++ (l₈ ++ (enumS e it ax (i + 1) ++ F)))).Perm (lc ++ (D, Ent.list ys) :: (l₈ ++ (enumS e it ax (i + 1) ++ F))) := List.perm_middle.symm
        refine h1.trans (List.Perm.append_left lc ?_)
        have h2 : ((D, Ent.list ys) :: (l₈ ++ (enumS e it ax (i + 1) ++ F))).Perm (l₈ ++ (D, Ent.list ys) :: (enumS e it ax (i + 1) ++ F)) := List.perm_middle.symm
        exact h2.trans (List.Perm.append_left l₈ List.perm_middle.symm)
      obtain ⟨vs, hl, hr⟩ := O₁₀.isPlain (.head _)
      refine wpAny_list_append_plain (hsz := by rw [List.size_toArray, hr.length]; lia) hl fun h₉ hl₉ hs₉ => ?_
      obtain ⟨k, hg⟩ := hl₉
      have O₁₁ : Own c.h₀ h₉ ((D, .list (ys ++ [b])) :: (lc ++ (l₈ ++ (enumS e it ax (i + 1) ++ F)))) := O₁₀.upd .head ⟨vs ++ [y], k, by rw [hg]; simp, hr.append (Reps.one ry)⟩ hs₉.extBut
      have O₁₂ := Own.blank (a := lc) (O₁₁.perm List.perm_middle)
      rw [hb] at O₁₂
      refine ⟨_, Nat.sub_lt_sub_left (Nat.lt_succ_of_lt hlt) (Nat.lt_succ_self i), h₉, _, l₈, i + 1, ys ++ [b], rfl, ?_, hJ₂, hlt, by simp; lia, rfl⟩
      refine O₁₂.perm ?_
      have h1 : ((enumS e it ax (i + 1) ++ l₈) ++ (compL C cs ++ (D, Ent.list (ys ++ [b])) :: F)).Perm (compL C cs ++ ((enumS e it ax (i + 1) ++ l₈) ++ (D, Ent.list (ys ++ [b])) :: F)) := List.perm_append_comm_assoc ..
      refine h1.trans (List.Perm.append_left _ ?_)
      have h2 : ((enumS e it ax (i + 1) ++ l₈) ++ (D, Ent.list (ys ++ [b])) :: F).Perm ((D, Ent.list (ys ++ [b])) :: ((enumS e it ax (i + 1) ++ l₈) ++ F)) := List.perm_middle
      refine h2.trans (List.Perm.cons _ ?_)
      rw [List.append_assoc]
      exact List.perm_append_comm_assoc ..
    · have hi' : i = items.length := by lia
      subst hi'
      refine Ev.run (enum_done hh (mem _ ys l' hJ')) O' fun r h₃ tk₃ l₄ O₅ ⟨er, el⟩ => ?_
      subst el er
      refine hRR D C h₃ tk₃ ys l₄ ?_ hJ'
      refine Own.perm (Own.sub (O₅.perm (l' := (C, .ns fun _ => none) :: (l₄ ++ (cellsL cs ++ (D, .list ys) :: F))) ?_) (l' := (C, .ns fun _ => none) :: (l₄ ++ ((D, .list ys) :: F))) ?_) ?_
      · exact List.perm_middle.symm
      · exact ((List.Sublist.refl l₄).append (List.sublist_append_right _ _)).cons_cons _
      · exact List.Perm.cons _ List.perm_middle.symm
  refine codeAny_compStart_list (loop H2 s₂.toks O₄) ?_
  refine Ev.run enum_self O₄ fun v h₃ tk₃ l₄ O₅ ⟨e1, e2⟩ => ?_
  subst e1 e2
  exact loop h₃ tk₃ O₅
theorem e_compEnum {elt iter : Expr} {elts : List Expr} {kx : Nat} {tp : Pos} {scope : Scope} {cl : List (Str × Addr)} {pos : Pos} {P : AV → Ledger → Prop} (items : List AV) (J : Addr → Nat → List AV → Ledger → Prop) (hh : c.A.handled = none)
    (hclos : closureFor scope env = pure cl) (hkind : scope.kind = .function) (hnames : ∀ x ∈ scope.names, x.2 = .local → scope.names.lookup x.1 = some .local) (hz : items.length ≤ sizeLine)
    (h : EvV c l (eval iter env) fun a l₁ => ∃ e it ax l₃, a = .ref e ∧ l₁ = enumS e it ax 0 ++ l₃ ∧ J ax 0 [] l₃)
    (mem : ∀ ax i ys l, J ax i ys l → (ax, Ent.list items) ∈ l)
    (turn : ∀ ax C cs env' i a ys l t, (∃ n, cs = cellsFrom n scope.names []) → env' = compEnvC scope (cs ++ cl) C env → items[i]? = some a → J ax i ys l → Ev c (compL C cs ++ ((t, .tup [.int i, a]) :: l)) (assign (.Tuple elts kx tp) env' (.ref t)) fun _ l₁ =>
      EvV c l₁ (eval elt env') fun b l₃ => ∃ lc l₄, (lc ++ l₄).Perm l₃ ∧ blankL lc = compL C cs ∧ J ax (i + 1) (ys ++ [b]) l₄)
    (done : ∀ ax D ys l', J ax items.length ys l' → P (.ref D) ((D, .list ys) :: l')) (hs : ∀ x, foldedSetIterable iter env x = pure x := by intro _; with_unfolding_all rfl) :
    EvV c l (eval (.ListComp elt [⟨.Tuple elts kx tp, iter, [], 0⟩] scope pos) env) P := fun s F O => by
  rw [eval_ListComp]
  refine wpAny_comprehension_free (use := none) rfl hs hclos hkind hnames (Ev.runV h O fun v a h₁ tk₁ l₁ O₁ r₁ ⟨e, it, ax, l₃, e1, e2, hJ⟩ => ?_)
  subst e1 e2
  obtain ⟨_, rfl⟩ := r₁
  refine Ev.run enum_self O₁ fun v h₂ tk₂ l₂ O₂ ⟨e3, e4⟩ => ?_
  subst e3 e4
  refine comp_enum (J := J ax) (RR := fun acc C => compPost c.M c.A _ none _ acc C) hh O₂ hJ hz (mem ax) (turn ax) fun D C h' tk ys l' O' hJ' => ?_
  obtain ⟨m', hn, _⟩ := O'.has _ (.head _)
  exact ⟨m', hn, fun h'' hs'' => (postV h'' tk ((D, .list ys) :: l') rfl (Own.drop O' hs''.extBut) _ (Rep.ref_mk _) (done ax D ys l' hJ'))⟩
theorem e_enumerate {f : Str} {np pos : Pos} {e : Expr} {P : AV → Ledger → Prop} (hg : Glo c env f (.val (.type "enumerate"))) (h : EvV c l (eval e env) fun a l₁ => ∃ q xs, a = .ref q ∧ (q, Ent.list xs) ∈ l₁ ∧ ∀ en it, P (.ref en) (enumS en it q 0 ++ l₁))
    (he : starEach [e] env = (false, eval e env) :: starEach [] env := by with_unfolding_all rfl) : EvV c l (eval (.Call (.Name f np) [e] [] pos) env) P :=
  e_call1 hg rfl (h.mono fun a l₁ ⟨q, xs, e1, hm, p⟩ v r => v_enumerate (by subst e1; exact r) hm p) he
end
end Mine
end
section
open PySem PySem.W PyProof.Rows
set_option linter.unusedVariables false
set_option maxRecDepth 100000
namespace Mine
section
variable {c : Cx} {env : Env} {l F : Ledger}
theorem e_compA {α : Type} {elt target iter : Expr} {ifs : List Expr} {scope : Scope} {cl : List (Str × Addr)} {pos : Pos} {P : AV → Ledger → Prop} (items : List AV) (need : α → Ledger) (J : α → Nat → List AV → Ledger → Prop)
    (hclos : closureFor scope env = pure cl) (hkind : scope.kind = .function) (hnames : ∀ x ∈ scope.names, x.2 = .local → scope.names.lookup x.1 = some .local) (hz : items.length ≤ sizeLine)
    (h : EvV c l (eval iter env) fun a l₁ => ∀ v, Rep v a → Ev c l₁ (pyIter v) fun it l₂ => ∃ (z : α) (I : Addr) (e : Nat → Ent) (l₃ : Ledger), it = .ref I ∧ l₂ = (I, e 0) :: l₃ ∧ It c I items e (need z) ∧ J z 0 [] l₃)
    (mem : ∀ z i ys l, J z i ys l → ∀ p ∈ need z, p ∈ l)
    (turn : ∀ z C cs env' i a ys l, (∃ n, cs = cellsFrom n scope.names []) → env' = compEnvC scope (cs ++ cl) C env → items[i]? = some a → J z i ys l → ∀ v, Rep v a → Ev c (compL C cs ++ l) (assign target env' v) fun _ l₁ => Ev c l₁ (tests ifs env') fun ok l₂ =>
      if ok then EvV c l₂ (eval elt env') fun b l₃ => ∃ lc l₄, (lc ++ l₄).Perm l₃ ∧ blankL lc = compL C cs ∧ J z (i + 1) (ys ++ [b]) l₄ else ∃ lc l₄, (lc ++ l₄).Perm l₂ ∧ blankL lc = compL C cs ∧ J z (i + 1) ys l₄)
    (done : ∀ z D ys l', J z items.length ys l' → P (.ref D) ((D, .list ys) :: l'))
    (ht : ∀ it v, letOwnedTupleGo target it v = pure () := by intro _ _; with_unfolding_all rfl) (hs : ∀ x, foldedSetIterable iter env x = pure x := by intro _; with_unfolding_all rfl) :
    EvV c l (eval (.ListComp elt [⟨target, iter, ifs, 0⟩] scope pos) env) P :=
  e_compB (fun _ => items) need J hclos hkind hnames (fun _ => hz) h mem turn done ht hs
theorem e_sorted {K : Params → Frag} {n : Nat} {f : Str} {np pos : Pos} {e : Expr} {P : AV → Ledger → Prop} (ok : Ok K c n) (hg : Glo c env f (.val (.builtin "sorted")))
    (h : EvV c l (eval e env) fun a l₁ => ∃ (L q : Addr) (m : Str → Option AV) (as : List Addr) (ps : List (Int × Int)), a = .ref q ∧ (L, Ent.ns m) ∈ l₁ ∧ (q, Ent.list (as.map AV.ref)) ∈ l₁ ∧ as.length = ps.length ∧ (∀ (i : Nat) (b : Addr) (p : Int × Int), as[i]? = some b → ps[i]? = some p → (b, Ent.tup [.int p.1, .int p.2]) ∈ l₁) ∧ 2 ≤ as.length ∧ as.length < 64 ∧ ps.Pairwise Lex ∧ ∀ s, P (.ref s) ((s, .list (as.map AV.ref)) :: l₁))
    (he : starEach [e] env = (false, eval e env) :: starEach [] env := by with_unfolding_all rfl) : EvV c l (eval (.Call (.Name f np) [e] [] pos) env) P :=
  e_call1 hg rfl (h.mono fun a l₁ ⟨L, q, m, as, ps, e1, hL, hm, hl, hps, h2, h64, hs, p⟩ v r => v_sorted ok (by subst e1; exact r) hL hm hl hps h2 h64 hs p) he
end
end Mine
end
section
open PySem PySem.W PyProof.Rows
set_option linter.unusedVariables false
set_option maxRecDepth 100000
namespace Mine
section
variable {c : Cx} {env : Env} {l F : Ledger}
theorem e_listStepB {value : Expr} {lower upper : Option Expr} {step : Expr} {p pos : Pos} {P : AV → Ledger → Prop}
    (h : EvV c l (eval value env) fun o l₁ => EvV c l₁ (evalPart lower env) fun x l₂ => EvV c l₂ (evalPart upper env) fun y l₃ => EvV c l₃ (eval step env) fun z l₄ => ∃ (a : Addr) (ns : List Int) (lo hi st : Option Int), o = .ref a ∧ (∃ us, c.h₀.IsList a us.toArray ∧ Reps us (ns.map AV.int)) ∧ PartIs x lo ∧ PartIs y hi ∧ PartIs z st ∧ st ≠ some 0 ∧ ns.length ≤ sizeLine ∧
      ∀ n (js : List Int), js.length ≤ ns.length → P (.ref n) ((n, .list (js.map AV.int)) :: l₄))
    (ht : ∀ o r, letTemporaryGo value o r = pure () := by intro _ _; with_unfolding_all rfl) : EvV c l (eval (.Subscript value (.Slice lower upper (some step) p) pos) env) P := fun s F O => by
  have mkP : ∀ {a : AV} {v : Value} {o : Option Int}, Rep v a → PartIs a o → IsPart v o := by
    intro a v o r q
    cases q with
    | none => obtain ⟨_, rfl⟩ := r; exact .none
    | int i => obtain ⟨t, rfl⟩ := r; exact .int i t
  refine wpAny_Subscript_Slice_step (T := "list") list_getitem_lookup (Ev.runV h O fun v x h₁ tk₁ l₁ O₁ r₁ p₁ => wpAny_Slice (Ev.runV p₁ O₁ fun vl x₂ h₂ tk₂ l₂ O₂ r₂ p₂ => Ev.runV p₂ O₂ fun vu x₃ h₃ tk₃ l₃ O₃ r₃ p₃ => ?_)) ht
  show wpAny _ _ (eval step env) _ _ _
  refine Ev.runV p₃ O₃ fun vs x₄ h₄ tk₄ l₄ O₄ r₄ ⟨a, ns, lo, hi, st, e, hm, q₁, q₂, q₃, h0, hz, p₄⟩ => ?_
  subst e
  obtain ⟨_, rfl⟩ := r₁
  obtain ⟨us, hl0, hr⟩ := hm
  have hl : h₄.IsList a us.toArray := let ⟨o, e, r⟩ := hl0; ⟨o, O₄.keep _ _ e, r⟩
  have hsz : us.toArray.size ≤ sizeLine := by rw [List.size_toArray, hr.length, List.length_map]; exact hz
  refine ⟨(hl.push _).typeIs, wpAny_getItem_list_slice (hl.push _) (Heap.IsSliceOf.new ..) (mkP r₂ q₁) (mkP r₃ q₂) (mkP r₄ q₃) h0 ?_ hsz⟩
  obtain ⟨js, hj⟩ := subInts hr (sliceRange (sliceBounds lo hi st us.toArray.size).1 (sliceBounds lo hi st us.toArray.size).2.1 (sliceBounds lo hi st us.toArray.size).2.2)
  have ej : slicePick us.toArray lo hi st = (((sliceRange (sliceBounds lo hi st us.toArray.size).1 (sliceBounds lo hi st us.toArray.size).2.1 (sliceBounds lo hi st us.toArray.size).2.2).filterMap (us[·]?))).toArray := by
    unfold slicePick; congr 1
    simp
  refine ⟨_, _, _, rfl, ?_, _, Rep.ref_mk _, p₄ _ js ?_⟩
  · refine Own.new (O₄.grow (h' := h₄.push _) fun b o e => Heap.get?_push_of_some _ e) (fun b o e => Heap.get?_push_of_some _ e) (Nat.le_refl _) ?_
    refine ⟨_, 0, ?_, hj⟩
    rw [← ej]
    exact Heap.get?_push_size _ rfl
  · have e1 := hj.length
    have e2 := slicePick_size_le us.toArray lo hi st
    rw [ej, List.size_toArray, e1, List.length_map] at e2
    have e3 := hr.length
    rw [List.length_map] at e3
    rw [List.size_toArray] at e2
    lia
end
end Mine
end
section
open PySem PySem.W PyProof.Rows
namespace Mine
local macro_rules | `(tactic| one_place) => `(tactic| first | (with_reducible exact List.mem_cons_self) | (with_reducible assumption) | ((with_reducible refine List.mem_cons_of_mem _ ?_); one_place))
local macro_rules | `(tactic| one_item) => `(tactic| first | with_reducible exact .head | with_reducible exact .tail .head | with_reducible exact .tail (.tail .head) | with_reducible exact .tail (.tail (.tail .head)) | with_reducible exact .tail (.tail (.tail (.tail .head))) | with_reducible exact .tail (.tail (.tail (.tail (.tail .head)))) | with_reducible exact .tail (.tail (.tail (.tail (.tail (.tail .head))))) | with_reducible exact .tail (.tail (.tail (.tail (.tail (.tail (.tail .head)))))) | with_reducible exact .tail (.tail (.tail (.tail (.tail (.tail (.tail (.tail .head))))))) | with_reducible exact .tail (.tail (.tail (.tail (.tail (.tail (.tail (.tail (.tail .head)))))))) | with_reducible exact .tail (.tail (.tail (.tail (.tail (.tail (.tail (.tail (.tail (.tail .head))))))))) | with_reducible exact .tail (.tail (.tail (.tail (.tail (.tail (.tail (.tail (.tail (.tail (.tail .head)))))))))) | with_reducible exact .tail (.tail (.tail (.tail (.tail (.tail (.tail (.tail (.tail (.tail (.tail (.tail .head))))))))))) | with_reducible exact .tail (.tail (.tail (.tail (.tail (.tail (.tail (.tail (.tail (.tail (.tail (.tail (.tail .head)))))))))))) | with_reducible exact .tail (.tail (.tail (.tail (.tail (.tail (.tail (.tail (.tail (.tail (.tail (.tail (.tail (.tail .head))))))))))))))
local macro_rules | `(tactic| tb_start) => `(tactic| first
  | ((with_reducible refine' e_varM ?hE ?hx ?hm ?hv ?_); (case hE => with_reducible assumption); (case hx => with_reducible assumption); (case hm => one_place); (case hv => exact rfl))
  | ((with_reducible refine' e_cvar ?hE ?hx ?hm ?_); (case hE => with_reducible assumption); (case hx => with_reducible assumption); (case hm => one_place))
  | ((with_reducible refine' e_glo ?hg ?_); (case hg => with_reducible assumption)))
local macro_rules | `(tactic| tb_rel) => `(tactic| first
  | ((with_reducible show EvV _ _ (eval _ _) _); first
    | tb_start
    | ((with_reducible refine e_strSlice ?_ ?ht); (case ht => intro _ _; with_unfolding_all rfl))
    | (with_reducible first | refine ev_int ?_ | refine ev_none ?_ | refine ev_BinOp ?_ | refine ev_Sub ?_ | refine e_orNone ?_ | refine ev_UnaryOp ?_ | refine ev_IfExp ?_)
    | ((with_reducible refine' e_min2 ?ok ?hg ?_ ?he ?he'); (case ok => with_reducible assumption); (case hg => with_reducible assumption); (case he => with_unfolding_all rfl); (case he' => with_unfolding_all rfl))
    | ((with_reducible refine' e_min3 ?ok ?hg ?_ ?he ?he' ?he''); (case ok => with_reducible assumption); (case hg => with_reducible assumption); (case he => with_unfolding_all rfl); (case he' => with_unfolding_all rfl); (case he'' => with_unfolding_all rfl)))
  | ((with_reducible show Ev _ _ (exec _ _) _); first
    | ((with_reducible refine' s_assignM ?hE ?hx ?_ ?hs); (case hE => with_reducible assumption); (case hx => with_reducible assumption); (case hs => with_unfolding_all rfl))
    | ((with_reducible refine' s_cassign ?hE ?hx ?_ ?hs); (case hE => with_reducible assumption); (case hx => with_reducible assumption); (case hs => with_unfolding_all rfl))
    | (with_reducible first | (refine ev_If' ?_; intro A B hA hB) | refine ev_Return ?_ | refine ev_AugAssign ?_))
  | ((with_reducible show Ev _ _ (execs _ _) _); first
    | (with_reducible first | (refine ev_cons' ?_; intro R hR) | refine ev_nil ?_)
    | ((with_reducible refine' ev_open ?hR ?_); (case hR => with_reducible assumption)))
  | ((with_reducible show Ev _ _ (isTrue _ _ _) _); first
    | ((with_reducible refine ev_test' ?_ ?hm); (case hm => with_unfolding_all rfl))
    | (with_reducible refine ev_not ?_)
    | (with_reducible refine ev_boolop ?_))
  | with_reducible (show Ev _ _ (allTrue _ _ _) _; first | refine ev_and ?_ | refine ev_or ?_ | refine ev_and_nil ?_ | refine ev_or_nil ?_)
  | with_reducible (show EvV _ _ (evalPart _ _) _; first | refine ev_part_none ?_ | refine ev_part_some ?_)
  | with_reducible (intro _ _ r1 r2; first | refine v_lt r1 r2 ?_ | refine v_gt r1 r2 ?_ | refine v_ge r1 r2 ?_ | refine v_eq r1 r2 ?_ | refine v_eqs r1 r2 ?_ | refine v_ne r1 r2 ?_ | refine v_nes r1 r2 ?_ | refine v_add r1 r2 ?_ | refine v_sub r1 r2 ?_ | refine v_iadd r1 r2 ?_ | refine v_isub r1 r2 ?_)
  | with_reducible (intro _ r1; refine v_neg r1 ?_)
  | (with_reducible first | refine if_t ?_ | refine if_f ?_ | refine seq_next ?_ | refine seq_ret ?_ | refine seq_cont ?_ | refine seq_brk ?_)
  | ((with_reducible intro _ rz); (with_reducible refine' e_setM ?hE ?hx ?hn rz ?hu ?_); (case hE => with_reducible assumption); (case hx => with_reducible assumption); (case hu => ((with_reducible show Mine.Upd _ _ _ _ _); one_item)); (case hn => with_unfolding_all rfl))
  | (with_reducible first | refine ex11 rfl ?_ | refine ex22 rfl rfl ?_ | refine ex33 rfl rfl rfl ?_)
  | ((with_reducible refine' ex22 ?hn ?hu ?_); (case hu => ((with_reducible show Mine.Upd _ _ _ _ _); one_item)); (case hn => with_unfolding_all rfl))
  | ((with_reducible refine' ex21 ?hu ?_); (case hu => ((with_reducible show Mine.Upd _ _ _ _ _); one_item)))
  | (with_reducible dsimp only))
section
set_option linter.unusedVariables false
set_option maxRecDepth 100000
theorem sub_call {c : Cx} {n : Nat} {v u : Value} {a b : Nat} {l : Ledger} {P : AV → Ledger → Prop} (ok : Ok KF c (n + 1)) (r : Rep v (.str [a])) (r' : Rep u (.str [b])) (hp : Plain [a]) (hq : Plain [b])
    (h : P (.int (if a = b then 0 else 2)) l) : EvV c l (call (.ref 63) [v, u]) P := by
  refine ev_def (binds := [(Str.ofString "ch_a", v), (Str.ofString "ch_b", u)]) (m := frm [Str.ofString "ch_a", Str.ofString "ch_b"] [some (.str [a]), some (.str [b])]) ok (ok.k 63 _ rfl) rfl ⟨62, _, _, _, rfl, ok.k 62 _ rfl, rfl, rfl⟩ rfl (fun s _ => BindsTo.of_eq rfl) ?_ (locs rfl)
    (frm_binds (binds := [(Str.ofString "ch_a", v), (Str.ofString "ch_b", u)]) (as := [.str [a], .str [b]]) rfl (by decide) (.cons r (.cons r' .nil)) 0) ?_
  · decide
  · intro L
    generalize henv : callEnv _ L 63 = env
    have hE : EnvAt env L := ⟨by rw [← henv]; rfl, by rw [← henv]; rfl⟩
    have x1 : Var env [Str.ofString "ch_a", Str.ofString "ch_b"] (Str.ofString "ch_a") 0 := ⟨by rw [← henv]; rfl, by decide, by decide, by decide⟩
    have x2 : Var env [Str.ofString "ch_a", Str.ofString "ch_b"] (Str.ofString "ch_b") 1 := ⟨by rw [← henv]; rfl, by decide, by decide, by decide⟩
    have ok' := ok.deeper (env := env)
    have g1 : Glo (c.deeper env) env (Str.ofString "_CASE_COST") (.int 1) := Glo.global ok' hE.kind (by rw [← henv]; rfl) (by rw [← henv]; rfl) (by decide) rfl ⟨_, rfl⟩
    have g2 : Glo (c.deeper env) env (Str.ofString "_MOVE_COST") (.int 2) := Glo.global ok' hE.kind (by rw [← henv]; rfl) (by rw [← henv]; rfl) (by decide) rfl ⟨_, rfl⟩
    clear henv
    repeat tb_rel
    by_cases hab : a = b
    · subst hab
      first | refine if_pos' (by simp) ?_ | rw [if_pos (by simp)]
      rw [if_pos rfl] at h
      repeat tb_rel
      exact fun v rv => ⟨_, l, rv, List.sublist_cons_self _ _, h⟩
    · first | refine if_neg' (by simpa using hab) ?_ | rw [if_neg (by simpa using hab)]
      rw [if_neg hab] at h
      repeat tb_rel
      refine e_lower (e_var hE x1 rfl ⟨_, rfl, hp, by simp, ?_⟩)
      refine e_lower (e_var hE x2 rfl ⟨_, rfl, hq, by simp, ?_⟩)
      repeat tb_rel
      first | refine if_neg' (by simpa using hab) ?_ | rw [if_neg (by simpa using hab)]
      repeat tb_rel
      exact fun v rv => ⟨_, l, rv, List.sublist_cons_self _ _, h⟩
end
section
set_option linter.unusedVariables false
set_option maxRecDepth 100000
set_option maxHeartbeats 4000000
local macro_rules | `(tactic| tb_rel) => `(tactic| with_reducible first
  | (show EvV _ _ (eval _ _) _; refine e_lenStr (by assumption) ?_ (by with_unfolding_all rfl))
  | (show Ev _ _ (exec _ _) _; refine s_assign2 (by assumption) (by assumption) (by assumption) ?_ (by with_unfolding_all rfl))
  | (show EvV _ _ (loadName _ _) _; refine e_varL (by assumption) (by assumption) (by with_unfolding_all exact rfl) ?_))
noncomputable abbrev levN : List Str := [Str.ofString "a", Str.ofString "b", Str.ofString "max_cost", Str.ofString "pre", Str.ofString "post", Str.ofString "row", Str.ofString "result", Str.ofString "bindex", Str.ofString "bchar", Str.ofString "distance", Str.ofString "minimum", Str.ofString "index", Str.ofString "substitute", Str.ofString "insert_delete"]
noncomputable abbrev levF (a b mc pre post row res bi bc dist mn idx sub id : Option AV) : Str → Option AV := frm levN [a, b, mc, pre, post, row, res, bi, bc, dist, mn, idx, sub, id]
noncomputable def rowOf (X Y : List Nat) (j i : Nat) : List AV := (List.range X.length).map fun q => AV.int ((if q < i then D (X.take (q + 1)) (Y.take (j + 1)) else D (X.take (q + 1)) (Y.take j) : Nat) : Int)
theorem rowOf_zero (X Y : List Nat) : rangeItems 2 2 X.length = rowOf X Y 0 0 := by
  unfold rangeItems rowOf
  refine List.map_congr_left fun q hq => ?_
  have hq' : q < X.length := List.mem_range.mp hq
  congr 1
  rw [if_neg (by lia), List.take_zero, D_nil', List.length_take]
  lia
theorem rowOf_next (X Y : List Nat) (j : Nat) : rowOf X Y j X.length = rowOf X Y (j + 1) 0 := by
  unfold rowOf
  refine List.map_congr_left fun q hq => ?_
  have hq' : q < X.length := List.mem_range.mp hq
  rw [if_pos hq', if_neg (by lia)]
theorem rowOf_len (X Y : List Nat) (j i : Nat) : (rowOf X Y j i).length = X.length := by simp [rowOf]
theorem rowOf_get (X Y : List Nat) (j i : Nat) (h : i < X.length) : (rowOf X Y j i)[i]? = some (.int (D (X.take (i + 1)) (Y.take j) : Nat)) := by
  unfold rowOf
  rw [List.getElem?_map, List.getElem?_range h]
  simp
theorem rowOf_set (X Y : List Nat) (j i : Nat) (h : i < X.length) : (rowOf X Y j i).set i (.int (D (X.take (i + 1)) (Y.take (j + 1)) : Nat)) = rowOf X Y j (i + 1) := by
  apply List.ext_getElem?
  intro q
  by_cases hq : q < X.length
  · by_cases hqi : i = q
    · subst hqi
      rw [List.getElem?_set_self (by rw [rowOf_len]; exact h)]
      unfold rowOf
      rw [List.getElem?_map, List.getElem?_range h]
      simp
    · rw [List.getElem?_set_ne hqi]
      unfold rowOf
      rw [List.getElem?_map, List.getElem?_map, List.getElem?_range hq]
      simp only [Option.map_some]
      congr 3
      by_cases h1 : q < i
      · rw [if_pos h1, if_pos (by lia)]
      · rw [if_neg h1, if_neg (by lia)]
  · rw [List.getElem?_eq_none (by rw [List.length_set, rowOf_len]; lia), List.getElem?_eq_none (by rw [rowOf_len]; lia)]
/-- one cell of the table -/
theorem cell_step (X Y : List Nat) (j i : Nat) (hi : i < X.length) (hj : j < Y.length) :
    min (min (if i = 0 then (2 * j : Int) else (D (X.take i) (Y.take (j + 1)) : Nat)) (D (X.take (i + 1)) (Y.take j) : Nat) + 2) ((D (X.take i) (Y.take j) : Nat) + (if Y[j] = X[i] then 0 else 2)) = ((D (X.take (i + 1)) (Y.take (j + 1)) : Nat) : Int) := by
  have hX : X.take (i + 1) = X.take i ++ [X[i]] := by rw [List.take_add_one, List.getElem?_eq_getElem hi]; rfl
  have hY : Y.take (j + 1) = Y.take j ++ [Y[j]] := by rw [List.take_add_one, List.getElem?_eq_getElem hj]; rfl
  have hs := D_snoc X[i] Y[j] (X.take i) (Y.take j)
  rw [← hX, ← hY] at hs
  have hsc : (sc X[i] Y[j] : Int) = if Y[j] = X[i] then 0 else 2 := by
    unfold sc
    by_cases h : X[i] = Y[j]
    · rw [if_pos h, if_pos h.symm]; rfl
    · rw [if_neg h, if_neg (fun e => h e.symm)]; rfl
  rw [hs, ← hsc]
  by_cases h0 : i = 0
  · subst h0
    rw [if_pos rfl, List.take_zero, D_nil, D_nil, List.length_take, List.length_take, Nat.min_eq_left (Nat.le_of_lt hj), Nat.min_eq_left hj]
    exact cell_zero _ _ _ (by unfold sc; split <;> decide)
  · rw [if_neg h0]; exact cell_arith _ _ _ _
theorem e_subCall {c : Cx} {env : Env} {n : Nat} {l : Ledger} {f : Str} {np pos : Pos} {x y : Expr} {P : AV → Ledger → Prop} (ok : Ok KF c (n + 1)) (hg : Glo c env f (.ref 63))
    (h : EvV c l (eval x env) fun a l₁ => EvV c l₁ (eval y env) fun b l₂ => ∃ p q, a = .str [p] ∧ b = .str [q] ∧ Plain [p] ∧ Plain [q] ∧ P (.int (if p = q then 0 else 2)) l₂)
    (he : starEach [x, y] env = (false, eval x env) :: starEach [y] env) (he' : starEach [y] env = (false, eval y env) :: starEach [] env) : EvV c l (eval (.Call (.Name f np) [x, y] [] pos) env) P :=
  e_callF (e_glo hg ⟨63, _, _, rfl, rfl, ev_items_cons (h.mono fun a l₁ h₁ v r => ev_items_cons (h₁.mono fun b l₂ ⟨p, q, e1, e2, hp, hq, k⟩ u r' => ev_items_nil ⟨ObjAt.base (ok.k 63 _ rfl), sub_call ok (by subst e1; exact r) (by subst e2; exact r') hp hq k⟩) he') he⟩) he
theorem part_neg (k : Nat) : ∃ hi, PartIs (if (-(k : Int)) = 0 then AV.none else AV.int (-(k : Int))) hi ∧ ∀ xs : List Nat, cut xs none hi = xs.take (xs.length - k) := by
  by_cases h : k = 0
  · subst h; exact ⟨none, by rw [if_pos (by lia)]; exact .none, fun xs => by rw [cut_all]; simp⟩
  · exact ⟨some (-(k : Int)), by rw [if_neg (by lia)]; exact .int _, fun xs => cut_neg xs k (by lia)⟩
theorem sub_lt' {n k : Nat} (h : k < n) : n - (k + 1) < n := Nat.sub_lt (Nat.lt_of_le_of_lt (Nat.zero_le k) h) (Nat.succ_pos k)
theorem dec_lt {n k : Nat} (h : k < n) : n - (k + 1) < n - k := Nat.sub_lt_sub_left h (Nat.lt_succ_self k)
theorem neg_idx {n k : Nat} (h : k < n) : (-(k : Int) - 1 + (n : Int)).toNat = n - (k + 1) := by lia
theorem take_snoc (xs : List Nat) (k : Nat) (h : k < xs.length) : xs.take (xs.length - k) = xs.take (xs.length - (k + 1)) ++ [xs[xs.length - (k + 1)]'(sub_lt' h)] := by
  have e : xs.length - k = (xs.length - (k + 1)) + 1 := by rw [Nat.sub_add_eq xs.length k 1, Nat.sub_add_cancel (Nat.sub_pos_of_lt h)]
  rw [e, List.take_add_one, List.getElem?_eq_getElem (sub_lt' h)]
  rfl
theorem lev_call {c : Cx} {n : Nat} {v u z : Value} {a b : List Nat} {m : Int} {l : Ledger} {P : AV → Ledger → Prop} (ok : Ok KF c (n + 2)) (r : Rep v (.str a)) (r' : Rep u (.str b)) (r'' : Rep z (.int m)) (hp : Plain a) (hq : Plain b)
    (la : a.length ≤ 40) (lb : b.length ≤ 40) (hm : (D a b : Int) ≤ m) (hm' : m ≤ 1000) (h : P (.int (D a b)) l) : EvV c l (call (.ref 70) [v, u, z]) P := by
  refine ev_def (binds := [(Str.ofString "a", v), (Str.ofString "b", u), (Str.ofString "max_cost", z)]) (m := frm levN [some (.str a), some (.str b), some (.int m), none, none, none, none, none, none, none, none, none, none, none]) ok (ok.k 70 _ rfl) rfl ⟨69, _, _, _, rfl, ok.k 69 _ rfl, rfl, rfl⟩ rfl (fun s _ => BindsTo.of_eq rfl) ?_ (locs rfl)
    (frm_binds (binds := [(Str.ofString "a", v), (Str.ofString "b", u), (Str.ofString "max_cost", z)]) (as := [.str a, .str b, .int m]) rfl (by decide) (.cons r (.cons r' (.cons r'' .nil))) 11) ?_
  · decide
  · intro L
    generalize henv : callEnv _ L 70 = env
    have hE : EnvAt env L := ⟨by rw [← henv]; rfl, by rw [← henv]; rfl⟩
    have x_a : Var env levN (Str.ofString "a") 0 := ⟨by rw [← henv]; rfl, by decide, by decide, by decide⟩
    have x_b : Var env levN (Str.ofString "b") 1 := ⟨by rw [← henv]; rfl, by decide, by decide, by decide⟩
    have x_mc : Var env levN (Str.ofString "max_cost") 2 := ⟨by rw [← henv]; rfl, by decide, by decide, by decide⟩
    have x_pre : Var env levN (Str.ofString "pre") 3 := ⟨by rw [← henv]; rfl, by decide, by decide, by decide⟩
    have x_post : Var env levN (Str.ofString "post") 4 := ⟨by rw [← henv]; rfl, by decide, by decide, by decide⟩
    have x_row : Var env levN (Str.ofString "row") 5 := ⟨by rw [← henv]; rfl, by decide, by decide, by decide⟩
    have x_res : Var env levN (Str.ofString "result") 6 := ⟨by rw [← henv]; rfl, by decide, by decide, by decide⟩
    have x_bi : Var env levN (Str.ofString "bindex") 7 := ⟨by rw [← henv]; rfl, by decide, by decide, by decide⟩
    have x_bc : Var env levN (Str.ofString "bchar") 8 := ⟨by rw [← henv]; rfl, by decide, by decide, by decide⟩
    have x_dist : Var env levN (Str.ofString "distance") 9 := ⟨by rw [← henv]; rfl, by decide, by decide, by decide⟩
    have x_min : Var env levN (Str.ofString "minimum") 10 := ⟨by rw [← henv]; rfl, by decide, by decide, by decide⟩
    have x_idx : Var env levN (Str.ofString "index") 11 := ⟨by rw [← henv]; rfl, by decide, by decide, by decide⟩
    have x_sub : Var env levN (Str.ofString "substitute") 12 := ⟨by rw [← henv]; rfl, by decide, by decide, by decide⟩
    have x_id : Var env levN (Str.ofString "insert_delete") 13 := ⟨by rw [← henv]; rfl, by decide, by decide, by decide⟩
    have ok' := ok.deeper (env := env)
    have g1 : Glo (c.deeper env) env (Str.ofString "_MAX_STRING_SIZE") (.int 40) := Glo.global ok' hE.kind (by rw [← henv]; rfl) (by rw [← henv]; rfl) (by decide) rfl ⟨_, rfl⟩
    have g2 : Glo (c.deeper env) env (Str.ofString "_MOVE_COST") (.int 2) := Glo.global ok' hE.kind (by rw [← henv]; rfl) (by rw [← henv]; rfl) (by decide) rfl ⟨_, rfl⟩
    have g3 : Glo (c.deeper env) env (Str.ofString "_substitution_cost") (.ref 63) := Glo.global ok' hE.kind (by rw [← henv]; rfl) (by rw [← henv]; rfl) (by decide) rfl ⟨0, rfl⟩
    have g4 : Glo (c.deeper env) env (Str.ofString "len") (.val (.builtin "len")) := Glo.builtin ok' hE.kind (by rw [← henv]; rfl) (by rw [← henv]; rfl) (by rw [← henv]; rfl) (by decide) rfl (by kernel_rfl) (by decide)
    have g5 : Glo (c.deeper env) env (Str.ofString "min") (.val (.builtin "min")) := Glo.builtin ok' hE.kind (by rw [← henv]; rfl) (by rw [← henv]; rfl) (by rw [← henv]; rfl) (by decide) rfl (by kernel_rfl) (by decide)
    have g6 : Glo (c.deeper env) env (Str.ofString "range") (.val (.type "range")) := Glo.builtin ok' hE.kind (by rw [← henv]; rfl) (by rw [← henv]; rfl) (by rw [← henv]; rfl) (by decide) rfl (by kernel_rfl) (by decide)
    have g7 : Glo (c.deeper env) env (Str.ofString "list") (.val (.type "list")) := Glo.builtin ok' hE.kind (by rw [← henv]; rfl) (by rw [← henv]; rfl) (by rw [← henv]; rfl) (by decide) rfl (by kernel_rfl) (by decide)
    clear henv
    repeat (first | tb_rel | ((with_reducible refine t_str ?_ ?he); (case he => with_unfolding_all rfl)))
    by_cases hab : a = b
    · subst hab
      first | refine if_pos' (by simp) ?_ | rw [if_pos (by simp)]
      rw [D_self] at h
      repeat (first | tb_rel | ((with_reducible refine t_str ?_ ?he); (case he => with_unfolding_all rfl)))
      exact fun v rv => ⟨_, l, rv, List.sublist_cons_self _ _, h⟩
    · first | refine if_neg' (by simpa using hab) ?_ | rw [if_neg (by simpa using hab)]
      repeat (first | tb_rel | ((with_reducible refine t_str ?_ ?he); (case he => with_unfolding_all rfl)))
      have hsl : sizeLine = 16777216 := sizeLine_eq
      refine Ev.mono (P := fun f l' => f = .next ∧ ∃ p : Nat, l' = (L, .ns (levF (some (.str a)) (some (.str b)) (some (.int m)) (some (.int p)) none none none none none none none none none none)) :: l ∧ p ≤ a.length ∧ p ≤ b.length ∧ D (a.drop p) (b.drop p) = D a b) (ev_While' (fun k l' => ∃ p : Nat, l' = (L, .ns (levF (some (.str a)) (some (.str b)) (some (.int m)) (some (.int p)) none none none none none none none none none none)) :: l ∧ p ≤ a.length ∧ p ≤ b.length ∧ D (a.drop p) (b.drop p) = D a b ∧ k = a.length - p) ?_ a.length ⟨0, rfl, Nat.zero_le _, Nat.zero_le _, rfl, rfl⟩) ?_
      · rintro B hB k l' hxx1
        refine byG fun gG kgG => ?_
        obtain ⟨p, rfl, pa, pb, hD, rfl⟩ := hxx1
        refine kgG ?_
        clear kgG gG
        refine Ev.ifgen fun Q M kQ kM => ?_
        repeat (first | tb_rel | ((with_reducible refine t_str ?_ ?he); (case he => with_unfolding_all rfl)))
        refine exI3 _ _ _ ⟨rfl, .int _, .none, by lia, ?_⟩
        rw [cut_from]
        refine ⟨_, rfl, by simp; lia, ?_⟩
        by_cases h1 : p < a.length
        · first | refine if_pos' (by simp; lia) ?_ | rw [if_pos (by simp; lia)]
          repeat (first | tb_rel | ((with_reducible refine t_str ?_ ?he); (case he => with_unfolding_all rfl)))
          refine exI3 _ _ _ ⟨rfl, .int _, .none, by lia, ?_⟩
          rw [cut_from]
          refine ⟨_, rfl, by simp; lia, ?_⟩
          by_cases h2 : p < b.length
          · first | refine if_pos' (by simp; lia) ?_ | rw [if_pos (by simp; lia)]
            repeat (first | tb_rel | ((with_reducible refine t_str ?_ ?he); (case he => with_unfolding_all rfl)))
            intro v1 u1 q1 q2
            refine v_sign (b := a[p]) q1 q2 (nn_lo _) (by lia) (Or.inl (Int.natCast_nonneg _)) (by rw [if_neg (nn_neg _)]; simp) ?_
            repeat (first | tb_rel | ((with_reducible refine t_str ?_ ?he); (case he => with_unfolding_all rfl)))
            intro v2 u2 q3 q4
            refine v_sign (b := b[p]) q3 q4 (nn_lo _) (by lia) (Or.inl (Int.natCast_nonneg _)) (by rw [if_neg (nn_neg _)]; simp) ?_
            repeat (first | tb_rel | ((with_reducible refine t_str ?_ ?he); (case he => with_unfolding_all rfl)))
            by_cases h3 : a[p] = b[p]
            · first | refine if_pos' (by simp [h3]) ?_ | rw [if_pos (by simp [h3])]
              repeat (first | tb_rel | ((with_reducible refine t_str ?_ ?he); (case he => with_unfolding_all rfl)))
              refine kQ _ _ ⟨a.length - (p + 1), dec_lt h1, p + 1, rfl, by lia, by lia, ?_, rfl⟩
              rw [List.drop_eq_getElem_cons h1, List.drop_eq_getElem_cons h2, h3, D_head] at hD
              exact hD
            · first | refine if_neg' (by simpa using h3) ?_ | rw [if_neg (by simpa using h3)]
              repeat (first | tb_rel | ((with_reducible refine t_str ?_ ?he); (case he => with_unfolding_all rfl)))
              exact kM _ ⟨rfl, p, rfl, pa, pb, hD⟩
          · first | refine if_neg' (by simp; lia) ?_ | rw [if_neg (by simp; lia)]
            repeat (first | tb_rel | ((with_reducible refine t_str ?_ ?he); (case he => with_unfolding_all rfl)))
            exact kM _ ⟨rfl, p, rfl, pa, pb, hD⟩
        · first | refine if_neg' (by simp; lia) ?_ | rw [if_neg (by simp; lia)]
          repeat (first | tb_rel | ((with_reducible refine t_str ?_ ?he); (case he => with_unfolding_all rfl)))
          exact kM _ ⟨rfl, p, rfl, pa, pb, hD⟩
      · rintro f l' hxx1
        refine byG fun gG kgG => ?_
        obtain ⟨rfl, p, rfl, pa, pb, hD⟩ := hxx1
        refine kgG ?_
        clear kgG gG
        repeat (first | tb_rel | ((with_reducible refine t_str ?_ ?he); (case he => with_unfolding_all rfl)))
        refine exI3 _ _ _ ⟨rfl, .int _, .none, by lia, ?_⟩
        rw [cut_from]
        repeat (first | tb_rel | ((with_reducible refine t_str ?_ ?he); (case he => with_unfolding_all rfl)))
        refine exI3 _ _ _ ⟨rfl, .int _, .none, by lia, ?_⟩
        rw [cut_from]
        repeat (first | tb_rel | ((with_reducible refine t_str ?_ ?he); (case he => with_unfolding_all rfl)))
        have hpA : Plain (a.drop p) := fun x hx => hp x (List.mem_of_mem_drop hx)
        have hpB : Plain (b.drop p) := fun x hx => hq x (List.mem_of_mem_drop hx)
        have lA : (a.drop p).length ≤ 40 := by simp; lia
        have lB : (b.drop p).length ≤ 40 := by simp; lia
        generalize a.drop p = A at *
        generalize b.drop p = B at *
        refine Ev.mono (P := fun f l' => f = .next ∧ ∃ k : Nat, l' = (L, .ns (levF (some (.str A)) (some (.str B)) (some (.int m)) (some (.int p)) (some (.int (-(k : Int)))) none none none none none none none none none)) :: l ∧ k ≤ A.length ∧ k ≤ B.length ∧ D (A.take (A.length - k)) (B.take (B.length - k)) = D a b)
          (ev_While' (fun j l' => ∃ k : Nat, l' = (L, .ns (levF (some (.str A)) (some (.str B)) (some (.int m)) (some (.int p)) (some (.int (-(k : Int)))) none none none none none none none none none)) :: l ∧ k ≤ A.length ∧ k ≤ B.length ∧ D (A.take (A.length - k)) (B.take (B.length - k)) = D a b ∧ j = A.length - k) ?_ A.length ⟨0, rfl, Nat.zero_le _, Nat.zero_le _, by simpa using hD, rfl⟩) ?_
        · rintro B' hB' j l' hxx1
          refine byG fun gG kgG => ?_
          obtain ⟨k, rfl, kA, kB, hD', rfl⟩ := hxx1
          refine kgG ?_
          clear kgG gG
          obtain ⟨hi, pi, hcut⟩ := part_neg k
          refine Ev.ifgen fun Q M kQ kM => ?_
          repeat (first | tb_rel | ((with_reducible refine t_str ?_ ?he); (case he => with_unfolding_all rfl)))
          refine exI3 _ _ _ ⟨rfl, .none, pi, by lia, ?_⟩
          rw [hcut]
          refine ⟨_, rfl, by simp; lia, ?_⟩
          by_cases h1 : k < A.length
          · first | refine if_pos' (by simp; refine ⟨by lia, fun e => ?_⟩; subst e; simp at h1) ?_ | rw [if_pos (by simp; refine ⟨by lia, fun e => ?_⟩; subst e; simp at h1)]
            repeat (first | tb_rel | ((with_reducible refine t_str ?_ ?he); (case he => with_unfolding_all rfl)))
            refine exI3 _ _ _ ⟨rfl, .none, pi, by lia, ?_⟩
            rw [hcut]
            refine ⟨_, rfl, by simp; lia, ?_⟩
            by_cases h2 : k < B.length
            · first | refine if_pos' (by simp; refine ⟨by lia, fun e => ?_⟩; subst e; simp at h2) ?_ | rw [if_pos (by simp; refine ⟨by lia, fun e => ?_⟩; subst e; simp at h2)]
              repeat (first | tb_rel | ((with_reducible refine t_str ?_ ?he); (case he => with_unfolding_all rfl)))
              intro v1 u1 q1 q2
              refine v_sign (b := A[A.length - (k + 1)]) q1 q2 (by lia) (by lia) (Or.inr (by lia)) (by rw [if_pos (by lia), neg_idx h1]; simp) ?_
              repeat (first | tb_rel | ((with_reducible refine t_str ?_ ?he); (case he => with_unfolding_all rfl)))
              intro v2 u2 q3 q4
              refine v_sign (b := B[B.length - (k + 1)]) q3 q4 (by lia) (by lia) (Or.inr (by lia)) (by rw [if_pos (by lia), neg_idx h2]; simp) ?_
              repeat (first | tb_rel | ((with_reducible refine t_str ?_ ?he); (case he => with_unfolding_all rfl)))
              by_cases h3 : A[A.length - (k + 1)] = B[B.length - (k + 1)]
              · first | refine if_pos' (by simp [h3]) ?_ | rw [if_pos (by simp [h3])]
                repeat (first | tb_rel | ((with_reducible refine t_str ?_ ?he); (case he => with_unfolding_all rfl)))
                refine kQ _ _ ⟨A.length - (k + 1), dec_lt h1, k + 1, ?_, by lia, by lia, ?_, rfl⟩
                · rw [show (-(k : Int) - 1) = -((k + 1 : Nat) : Int) by lia]; rfl
                · rw [take_snoc A k h1, take_snoc B k h2, h3, D_last] at hD'
                  exact hD'
              · first | refine if_neg' (by simpa using h3) ?_ | rw [if_neg (by simpa using h3)]
                repeat (first | tb_rel | ((with_reducible refine t_str ?_ ?he); (case he => with_unfolding_all rfl)))
                exact kM _ ⟨rfl, k, rfl, kA, kB, hD'⟩
            · first | refine if_neg' (by simp; lia) ?_ | rw [if_neg (by simp; lia)]
              repeat (first | tb_rel | ((with_reducible refine t_str ?_ ?he); (case he => with_unfolding_all rfl)))
              exact kM _ ⟨rfl, k, rfl, kA, kB, hD'⟩
          · first | refine if_neg' (by simp; lia) ?_ | rw [if_neg (by simp; lia)]
            repeat (first | tb_rel | ((with_reducible refine t_str ?_ ?he); (case he => with_unfolding_all rfl)))
            exact kM _ ⟨rfl, k, rfl, kA, kB, hD'⟩
        · rintro f l' hxx1
          refine byG fun gG kgG => ?_
          obtain ⟨rfl, k, rfl, kA, kB, hD'⟩ := hxx1
          refine kgG ?_
          clear kgG gG
          obtain ⟨hi, pi, hcut⟩ := part_neg k
          repeat (first | tb_rel | ((with_reducible refine t_str ?_ ?he); (case he => with_unfolding_all rfl)))
          refine exI3 _ _ _ ⟨rfl, .none, pi, by lia, ?_⟩
          rw [hcut]
          repeat (first | tb_rel | ((with_reducible refine t_str ?_ ?he); (case he => with_unfolding_all rfl)))
          refine exI3 _ _ _ ⟨rfl, .none, pi, by lia, ?_⟩
          rw [hcut]
          have hpA' : Plain (A.take (A.length - k)) := fun x hx => hpA x (List.mem_of_mem_take hx)
          have hpB' : Plain (B.take (B.length - k)) := fun x hx => hpB x (List.mem_of_mem_take hx)
          have lA' : (A.take (A.length - k)).length ≤ 40 := by simp; lia
          have lB' : (B.take (B.length - k)).length ≤ 40 := by simp; lia
          generalize A.take (A.length - k) = X at *
          generalize B.take (B.length - k) = Y at *
          repeat (first | tb_rel | ((with_reducible refine t_str ?_ ?he); (case he => with_unfolding_all rfl)))
          refine ⟨by lia, ?_⟩
          by_cases hX : X = []
          · subst hX
            first | refine if_pos' (by simp) ?_ | rw [if_pos (by simp)]
            repeat (first | tb_rel | ((with_reducible refine t_str ?_ ?he); (case he => with_unfolding_all rfl)))
            refine ⟨by simp, ?_⟩
            repeat (first | tb_rel | ((with_reducible refine t_str ?_ ?he); (case he => with_unfolding_all rfl)))
            refine ⟨by lia, ?_⟩
            repeat (first | tb_rel | ((with_reducible refine t_str ?_ ?he); (case he => with_unfolding_all rfl)))
            intro v1 u1 q1 q2
            refine v_mul q1 q2 (IntMulOk.of_left (by decide)) ?_
            rw [D_nil] at hD'
            refine fun v rv => ⟨_, l, rv, List.sublist_cons_self _ _, ?_⟩
            rw [show (2 : Int) * (((([] : List Nat).length : Nat) : Int) + (Y.length : Int)) = ((D a b : Nat) : Int) by rw [← hD']; simp]
            exact h
          first | refine if_neg' (by simpa using hX) ?_ | rw [if_neg (by simpa using hX)]
          repeat (first | tb_rel | ((with_reducible refine t_str ?_ ?he); (case he => with_unfolding_all rfl)))
          refine ⟨by lia, ?_⟩
          by_cases hY : Y = []
          · subst hY
            first | refine if_pos' (by simp) ?_ | rw [if_pos (by simp)]
            repeat (first | tb_rel | ((with_reducible refine t_str ?_ ?he); (case he => with_unfolding_all rfl)))
            refine ⟨by lia, ?_⟩
            repeat (first | tb_rel | ((with_reducible refine t_str ?_ ?he); (case he => with_unfolding_all rfl)))
            refine ⟨by simp, ?_⟩
            repeat (first | tb_rel | ((with_reducible refine t_str ?_ ?he); (case he => with_unfolding_all rfl)))
            intro v1 u1 q1 q2
            refine v_mul q1 q2 (IntMulOk.of_left (by decide)) ?_
            rw [D_nil'] at hD'
            refine fun v rv => ⟨_, l, rv, List.sublist_cons_self _ _, ?_⟩
            rw [show (2 : Int) * ((X.length : Int) + ((([] : List Nat).length : Nat) : Int)) = ((D a b : Nat) : Int) by rw [← hD']; simp]
            exact h
          first | refine if_neg' (by simpa using hY) ?_ | rw [if_neg (by simpa using hY)]
          repeat (first | tb_rel | ((with_reducible refine t_str ?_ ?he); (case he => with_unfolding_all rfl)))
          refine ⟨by lia, ?_⟩
          repeat (first | tb_rel | ((with_reducible refine t_str ?_ ?he); (case he => with_unfolding_all rfl)))
          first | refine if_neg' (by simp; lia) ?_ | rw [if_neg (by simp; lia)]
          repeat (first | tb_rel | ((with_reducible refine t_str ?_ ?he); (case he => with_unfolding_all rfl)))
          refine ⟨by lia, ?_⟩
          repeat (first | tb_rel | ((with_reducible refine t_str ?_ ?he); (case he => with_unfolding_all rfl)))
          first | refine if_neg' (by simp; lia) ?_ | rw [if_neg (by simp; lia)]
          repeat ((fail_if_success (with_reducible show Ev _ _ (exec _ _) _)); tb_rel)
          refine Ev.mono (P := fun f l' => f = .next ∧ ∃ X Y : List Nat, l' = (L, .ns (levF (some (.str X)) (some (.str Y)) (some (.int m)) (some (.int p)) (some (.int (-(k : Int)))) none none none none none none none none none)) :: l ∧ X ≠ [] ∧ Y ≠ [] ∧ X.length ≤ Y.length ∧ Plain X ∧ Plain Y ∧ Y.length ≤ 40 ∧ D X Y = D a b) ?_ ?_
          · repeat tb_rel
            refine ⟨by lia, ?_⟩
            repeat (first | tb_rel | ((with_reducible refine t_str ?_ ?he); (case he => with_unfolding_all rfl)))
            refine ⟨by lia, ?_⟩
            repeat (first | tb_rel | ((with_reducible refine t_str ?_ ?he); (case he => with_unfolding_all rfl)))
            by_cases hlt : Y.length < X.length
            · first | refine if_pos' (by simpa using hlt) ?_ | rw [if_pos (by simpa using hlt)]
              iterate 2 tb_rel
              refine s_swap ok' hE x_a x_b ?_ (by with_unfolding_all rfl) (swapped_two hE.kind x_a.kind x_b.kind (by decide) rfl (by decide))
              refine e_Tuple (ev_items_cons ?_)
              tb_rel
              intro v1 q1
              refine ev_items_cons ?_
              tb_rel
              intro v2 q2
              refine ev_items_nil ⟨_, .cons q1 (.cons q2 .nil), by simp; lia, fun t => ?_⟩
              refine ⟨t, _, _, _, _, rfl, rfl, rfl, ?_⟩
              repeat (first | tb_rel | ((with_reducible refine t_str ?_ ?he); (case he => with_unfolding_all rfl)))
              exact ⟨rfl, Y, X, rfl, hY, hX, by lia, hpB', hpA', by lia, by rw [D_symm]; exact hD'⟩
            · first | refine if_neg' (by simpa using hlt) ?_ | rw [if_neg (by simpa using hlt)]
              repeat (first | tb_rel | ((with_reducible refine t_str ?_ ?he); (case he => with_unfolding_all rfl)))
              exact ⟨rfl, X, Y, rfl, hX, hY, by lia, hpA', hpB', by lia, hD'⟩
          clear hX hY hD' hpA' hpB' lA' lB' hcut pi
          rintro f l' hxx1
          refine byG fun gG kgG => ?_
          obtain ⟨rfl, X, Y, rfl, hX, hY, hXY, hpX, hpY, lY, hD'⟩ := hxx1
          refine kgG ?_
          clear kgG gG
          have hlenD := D_len X Y
          repeat (first | tb_rel | ((with_reducible refine t_str ?_ ?he); (case he => with_unfolding_all rfl)))
          refine ⟨by lia, ?_⟩
          repeat (first | tb_rel | ((with_reducible refine t_str ?_ ?he); (case he => with_unfolding_all rfl)))
          refine ⟨by lia, ?_⟩
          repeat (first | tb_rel | ((with_reducible refine t_str ?_ ?he); (case he => with_unfolding_all rfl)))
          intro v1 u1 q1 q2
          refine v_mul q1 q2 (IntMulOk.of_right (by decide)) ?_
          repeat (first | tb_rel | ((with_reducible refine t_str ?_ ?he); (case he => with_unfolding_all rfl)))
          first | refine if_neg' (by simp; lia) ?_ | rw [if_neg (by simp; lia)]
          repeat ((fail_if_success (with_reducible show Ev _ _ (exec _ _) _)); tb_rel)
          have hna : 1 ≤ X.length := by cases X with | nil => exact absurd rfl hX | cons => simp
          refine s_assignNew hE x_row ?_
          refine e_listRange (k := X.length) ok' g7 ?_
          refine e_range3 g6 ?_
          repeat (first | tb_rel | ((with_reducible refine t_str ?_ ?he); (case he => with_unfolding_all rfl)))
          refine ⟨by lia, ?_⟩
          repeat (first | tb_rel | ((with_reducible refine t_str ?_ ?he); (case he => with_unfolding_all rfl)))
          intro v1 u1 q1 q2
          refine v_mul q1 q2 (IntMulOk.of_left (by decide)) ?_
          repeat (first | tb_rel | ((with_reducible refine t_str ?_ ?he); (case he => with_unfolding_all rfl)))
          refine ⟨by decide, by decide, fun r => ?_⟩
          refine ⟨r, _, _, _, X.length, _, rfl, rfl, ?_, ?_, by lia, fun q => ?_⟩
          · unfold Builtin.Range.small Builtin.Range.rangeFitsLong Builtin.Range.rangeSize
            simp only [show (2 : Int) > 0 by decide, if_true, Bool.and_eq_true, Bool.or_eq_true, decide_eq_true_eq, beq_iff_eq]
            first | refine if_pos' (by lia) ?_ | rw [if_pos (by lia)]
            refine ⟨⟨⟨⟨?_, ?_⟩, ?_⟩, ?_⟩, Or.inr ?_⟩ <;> lia
          · unfold Builtin.Range.rangeSize
            rw [if_pos (by decide), if_pos (by lia)]
            lia
          refine ⟨_, _, _, rfl, rfl, ?_⟩
          repeat (first | tb_rel | ((with_reducible refine t_str ?_ ?he); (case he => with_unfolding_all rfl)))
          rw [rowOf_zero X Y]
          have hnb : 1 ≤ Y.length := by lia
          refine s_forRange ok' (fun j l' => ∃ (res : Int) (bi bc dist mn idx sub id : Option AV), l' = (L, .ns (levF (some (.str X)) (some (.str Y)) (some (.int m)) (some (.int p)) (some (.int (-(k : Int)))) (some (.ref q)) (some (.int res)) bi bc dist mn idx sub id)) :: (q, .list (rowOf X Y j 0)) :: l ∧ (j = Y.length → res = (D X Y : Nat))) 0 Y.length ?_ ?_ ?_
          · refine e_range1 g6 ?_
            repeat (first | tb_rel | ((with_reducible refine t_str ?_ ?he); (case he => with_unfolding_all rfl)))
            refine ⟨by lia, ?_⟩
            refine ⟨_, rfl, fun r => exI3 r _ _ ⟨rfl, rfl, small0 (by lia), size0, (exI8 0 none none none none none none none ⟨rfl, fun e => by lia⟩)⟩⟩
          · rintro j l' hj hxx1 v1 rv
            refine byG fun gG kgG => ?_
            refine exE8 hxx1 fun res bi bc dist mn idx sub id hzz1 => ?_
            clear hxx1
            obtain ⟨rfl, hres⟩ := hzz1
            refine kgG ?_
            clear kgG gG
            rw [Int.zero_add] at rv
            refine e_set hE x_bi rfl rv (Ev.gen fun Q1 kQ1 => ?_)
            repeat (first | tb_rel | ((with_reducible refine t_str ?_ ?he); (case he => with_unfolding_all rfl)))
            intro v2 u2 q1 q2
            refine v_sign (b := Y[j]) q1 q2 (nn_lo _) (by lia) (Or.inl (Int.natCast_nonneg _)) (by rw [if_neg (nn_neg _)]; simp) ?_
            repeat (first | tb_rel | ((with_reducible refine t_str ?_ ?he); (case he => with_unfolding_all rfl)))
            intro v2 u2 q1 q2
            refine v_mul q1 q2 (IntMulOk.of_right (by decide)) ?_
            repeat (first | tb_rel | ((with_reducible refine t_str ?_ ?he); (case he => with_unfolding_all rfl)))
            refine Ev.mono (P := fun f l' => f = .next ∧ ∃ (mn : Int) (dist idx sub id : Option AV), l' = (L, .ns (levF (some (.str X)) (some (.str Y)) (some (.int m)) (some (.int p)) (some (.int (-(k : Int)))) (some (.ref q)) (some (.int (D X (Y.take (j + 1)) : Nat))) (some (.int j)) (some (.str [Y[j]])) dist (some (.int mn)) idx sub id)) :: (q, .list (rowOf X Y (j + 1) 0)) :: l ∧ ∀ s, 1 ≤ s → s ≤ X.length → mn ≤ (D (X.take s) (Y.take (j + 1)) : Nat))
              (s_forRange ok' (fun i l' => ∃ (mn : Int) (idx sub id : Option AV), l' = (L, .ns (levF (some (.str X)) (some (.str Y)) (some (.int m)) (some (.int p)) (some (.int (-(k : Int)))) (some (.ref q)) (some (.int (if i = 0 then (2 * j : Int) else (D (X.take i) (Y.take (j + 1)) : Nat)))) (some (.int j)) (some (.str [Y[j]])) (some (.int (D (X.take i) (Y.take j) : Nat))) (some (.int mn)) idx sub id)) :: (q, .list (rowOf X Y j i)) :: l ∧ ∀ s, 1 ≤ s → s ≤ i → mn ≤ (D (X.take s) (Y.take (j + 1)) : Nat)) 0 X.length ?_ ?_ ?_) ?_
            · refine e_range1 g6 ?_
              repeat (first | tb_rel | ((with_reducible refine t_str ?_ ?he); (case he => with_unfolding_all rfl)))
              refine ⟨by lia, ?_⟩
              refine ⟨_, rfl, fun r => exI3 r _ _ ⟨rfl, rfl, small0 (by lia), size0, (exI4 9223372036854775807 idx sub id ⟨?_, fun s h1 h2 => by lia⟩)⟩⟩
              have e0 : ((D (X.take 0) (Y.take j) : Nat) : Int) = (j : Int) * 2 := by rw [List.take_zero, D_nil, List.length_take]; lia
              rw [e0, if_pos rfl, Int.mul_comm 2]
              rfl
            · rintro i l' hi hxx1 v3 rv3
              refine byG fun gG kgG => ?_
              refine exE4 hxx1 fun mn' idx' sub' id' hzz1 => ?_
              clear hxx1
              obtain ⟨rfl, hmn⟩ := hzz1
              refine kgG ?_
              clear kgG gG
              rw [Int.zero_add] at rv3
              refine e_set hE x_idx rfl rv3 (Ev.gen fun Q2 kQ2 => ?_)
              iterate 4 tb_rel
              refine e_subCall (n := n) ok' g3 ?_ (by with_unfolding_all rfl) (by with_unfolding_all rfl)
              repeat (first | tb_rel | ((with_reducible refine t_str ?_ ?he); (case he => with_unfolding_all rfl)))
              intro v2 u2 q1 q2
              refine v_sign (b := X[i]) q1 q2 (nn_lo _) (by lia) (Or.inl (Int.natCast_nonneg _)) (by rw [if_neg (nn_neg _)]; simp) ?_
              refine ⟨Y[j], X[i], rfl, rfl, fun x hx => hpY x (by simp at hx; subst hx; simp), fun x hx => hpX x (by simp at hx; subst hx; simp), ?_⟩
              repeat (first | tb_rel | ((with_reducible refine t_str ?_ ?he); (case he => with_unfolding_all rfl)))
              intro v2 u2 q1 q2
              refine v_item (xs := rowOf X Y j i) (b := .int (D (X.take (i + 1)) (Y.take j) : Nat)) q1 q2 (.tail _ (.head _)) (by first | exact Int.natCast_nonneg _ | lia) (by lia) (by simpa using rowOf_get X Y j i hi) ?_
              repeat (first | tb_rel | ((with_reducible refine t_str ?_ ?he); (case he => with_unfolding_all rfl)))
              have hcell := cell_step X Y j i hi hj
              rw [hcell]
              refine ev_AssignItem ?_ (by with_unfolding_all rfl)
              repeat (first | tb_rel | ((with_reducible refine t_str ?_ ?he); (case he => with_unfolding_all rfl)))
              refine ⟨q, rowOf X Y j i, (i : Int), _, rfl, rfl, by lia, by rw [rowOf_len]; lia, by lia, Mine.Upd.tail Mine.Upd.head, ?_⟩
              rw [Int.toNat_natCast, rowOf_set X Y j i hi]
              repeat (first | tb_rel | ((with_reducible refine t_str ?_ ?he); (case he => with_unfolding_all rfl)))
              by_cases hlt : ((D (X.take (i + 1)) (Y.take (j + 1)) : Nat) : Int) < mn'
              · first | refine if_pos' (by simpa using hlt) ?_ | rw [if_pos (by simpa using hlt)]
                repeat (first | tb_rel | ((with_reducible refine t_str ?_ ?he); (case he => with_unfolding_all rfl)))
                refine kQ2 _ _ ⟨_, _, _, _, rfl, fun s h1 h2 => ?_⟩
                by_cases hs : s = i + 1
                · subst hs; exact Int.le_refl _
                · have := hmn s h1 (by lia); lia
              · first | refine if_neg' (by simpa using hlt) ?_ | rw [if_neg (by simpa using hlt)]
                repeat (first | tb_rel | ((with_reducible refine t_str ?_ ?he); (case he => with_unfolding_all rfl)))
                refine kQ2 _ _ ⟨_, _, _, _, rfl, fun s h1 h2 => ?_⟩
                by_cases hs : s = i + 1
                · subst hs; lia
                · exact hmn s h1 (by lia)
            · rintro l' hxx1
              refine byG fun gG kgG => ?_
              refine exE4 hxx1 fun mn' idx' sub' id' hzz1 => ?_
              clear hxx1
              obtain ⟨rfl, hmn⟩ := hzz1
              refine kgG ?_
              clear kgG gG
              refine ⟨rfl, (exI5 mn' (some (.int (D (X.take X.length) (Y.take j) : Nat))) idx' sub' id' ⟨?_, hmn⟩)⟩
              rw [rowOf_next, if_neg (by lia), List.take_length]
            · rintro f l' hxx1
              refine byG fun gG kgG => ?_
              obtain ⟨rfl, hyy1⟩ := hxx1
              refine exE5 hyy1 fun mn' dist' idx' sub' id' hzz1 => ?_
              clear hyy1
              obtain ⟨rfl, hmn⟩ := hzz1
              refine kgG ?_
              clear kgG gG
              repeat (first | tb_rel | ((with_reducible refine t_str ?_ ?he); (case he => with_unfolding_all rfl)))
              refine byG fun gG kgG => ?_
              obtain ⟨s, hs1, hs2, hs3⟩ := D_stage X Y j hX hj
              refine kgG ?_
              clear kgG gG
              have := hmn s hs1 hs2
              first | refine if_neg' (by simp; lia) ?_ | rw [if_neg (by simp; lia)]
              repeat (first | tb_rel | ((with_reducible refine t_str ?_ ?he); (case he => with_unfolding_all rfl)))
              refine kQ1 _ _ (exI8 _ _ _ _ _ _ _ _ ⟨rfl, fun e => ?_⟩)
              rw [e, List.take_length]
          · rintro l' hxx1
            refine byG fun gG kgG => ?_
            refine exE8 hxx1 fun res bi bc dist mn idx sub id hzz1 => ?_
            clear hxx1
            obtain ⟨rfl, hres⟩ := hzz1
            refine kgG ?_
            clear kgG gG
            rw [hres rfl, hD']
            repeat (first | tb_rel | ((with_reducible refine t_str ?_ ?he); (case he => with_unfolding_all rfl)))
            exact fun v rv => ⟨_, l, rv, (List.sublist_cons_self _ _).trans (List.sublist_cons_self _ _), h⟩
end
section
set_option linter.unusedVariables false
set_option maxRecDepth 100000
set_option maxHeartbeats 4000000
local macro_rules | `(tactic| tb_rel) => `(tactic| with_reducible first
  | (show EvV _ _ (eval _ _) _; refine e_lenStr (by assumption) ?_ (by with_unfolding_all rfl))
  | (show Ev _ _ (exec _ _) _; refine s_assign2 (by assumption) (by assumption) (by assumption) ?_ (by with_unfolding_all rfl))
  | (show EvV _ _ (loadName _ _) _; refine e_varL (by assumption) (by assumption) (by with_unfolding_all exact rfl) ?_))
theorem isNT_call {c : Cx} {n : Nat} {v : Value} {i : Int} {l : Ledger} {P : AV → Ledger → Prop} (ok : Ok KF c (n + 1)) (r : Rep v (.int i)) (h : P (.bool (decide (i ≥ 256))) l) : EvV c l (call (.ref 49) [v]) P := by
  refine ev_def (binds := [(Str.ofString "x", v)]) (m := frm [Str.ofString "x"] [some (.int i)]) ok (ok.k 49 _ rfl) rfl ⟨48, _, _, _, rfl, ok.k 48 _ rfl, rfl, rfl⟩ rfl (fun s _ => BindsTo.of_eq rfl) (by decide) (locs rfl)
    (frm_binds (binds := [(Str.ofString "x", v)]) (as := [.int i]) rfl (by decide) (.cons r .nil) 0) ?_
  intro L
  generalize henv : callEnv _ L 49 = env
  have hE : EnvAt env L := ⟨by rw [← henv]; rfl, by rw [← henv]; rfl⟩
  have x1 : Var env [Str.ofString "x"] (Str.ofString "x") 0 := ⟨by rw [← henv]; rfl, by decide, by decide, by decide⟩
  have ok' := ok.deeper (env := env)
  have g1 : Glo (c.deeper env) env (Str.ofString "NT_OFFSET") (.int 256) := Glo.global ok' hE.kind (by rw [← henv]; rfl) (by rw [← henv]; rfl) (by decide) rfl ⟨_, rfl⟩
  clear henv
  repeat tb_rel
  refine ev_Compare ?_
  repeat tb_rel
  exact fun v rv => ⟨_, l, rv, List.sublist_cons_self _ _, h⟩
theorem isT_call {c : Cx} {n : Nat} {v : Value} {i : Int} {l : Ledger} {P : AV → Ledger → Prop} (ok : Ok KF c (n + 1)) (r : Rep v (.int i)) (h : P (.bool (decide (i < 256))) l) : EvV c l (call (.ref 42) [v]) P := by
  refine ev_def (binds := [(Str.ofString "x", v)]) (m := frm [Str.ofString "x"] [some (.int i)]) ok (ok.k 42 _ rfl) rfl ⟨41, _, _, _, rfl, ok.k 41 _ rfl, rfl, rfl⟩ rfl (fun s _ => BindsTo.of_eq rfl) (by decide) (locs rfl)
    (frm_binds (binds := [(Str.ofString "x", v)]) (as := [.int i]) rfl (by decide) (.cons r .nil) 0) ?_
  intro L
  generalize henv : callEnv _ L 42 = env
  have hE : EnvAt env L := ⟨by rw [← henv]; rfl, by rw [← henv]; rfl⟩
  have x1 : Var env [Str.ofString "x"] (Str.ofString "x") 0 := ⟨by rw [← henv]; rfl, by decide, by decide, by decide⟩
  have ok' := ok.deeper (env := env)
  have g1 : Glo (c.deeper env) env (Str.ofString "NT_OFFSET") (.int 256) := Glo.global ok' hE.kind (by rw [← henv]; rfl) (by rw [← henv]; rfl) (by decide) rfl ⟨_, rfl⟩
  clear henv
  repeat tb_rel
  refine ev_Compare ?_
  repeat tb_rel
  exact fun v rv => ⟨_, l, rv, List.sublist_cons_self _ _, h⟩
theorem isEOF_call {c : Cx} {n : Nat} {v : Value} {i : Int} {l : Ledger} {P : AV → Ledger → Prop} (ok : Ok KF c (n + 1)) (r : Rep v (.int i)) (h : P (.bool (i == 0)) l) : EvV c l (call (.ref 56) [v]) P := by
  refine ev_def (binds := [(Str.ofString "x", v)]) (m := frm [Str.ofString "x"] [some (.int i)]) ok (ok.k 56 _ rfl) rfl ⟨55, _, _, _, rfl, ok.k 55 _ rfl, rfl, rfl⟩ rfl (fun s _ => BindsTo.of_eq rfl) (by decide) (locs rfl)
    (frm_binds (binds := [(Str.ofString "x", v)]) (as := [.int i]) rfl (by decide) (.cons r .nil) 0) ?_
  intro L
  generalize henv : callEnv _ L 56 = env
  have hE : EnvAt env L := ⟨by rw [← henv]; rfl, by rw [← henv]; rfl⟩
  have x1 : Var env [Str.ofString "x"] (Str.ofString "x") 0 := ⟨by rw [← henv]; rfl, by decide, by decide, by decide⟩
  have ok' := ok.deeper (env := env)
  have g1 : Glo (c.deeper env) env (Str.ofString "ENDMARKER") (.int 0) := Glo.global ok' hE.kind (by rw [← henv]; rfl) (by rw [← henv]; rfl) (by decide) rfl ⟨_, rfl⟩
  clear henv
  repeat tb_rel
  refine ev_Compare ?_
  repeat tb_rel
  exact fun v rv => ⟨_, l, rv, List.sublist_cons_self _ _, h⟩
end
section
set_option linter.unusedVariables false
set_option maxRecDepth 100000
set_option maxHeartbeats 4000000
theorem EvV.under {c : Cx} {l : Ledger} {p : Addr × Ent} {t : Sem Value} {Q : AV → Prop} {P : AV → Ledger → Prop} (h : EvV c l t fun a l' => l' = l ∧ Q a) (k : ∀ a, Q a → P a (p :: l)) : EvV c (p :: l) t P := fun s F O =>
  Ev.run (F := p :: F) h (O.perm List.perm_middle) fun v h' tk l' O' ⟨a, r, e, q⟩ => by
    subst e
    exact (postV h' tk (p :: l') rfl (O'.perm List.perm_middle.symm) a r (k a q))
local macro_rules | `(tactic| tb_rel) => `(tactic| with_reducible first
  | (show EvV _ _ (eval _ _) _; refine e_lenList (by assumption) ?_ (by with_unfolding_all rfl))
  | (show Ev _ _ (exec _ _) _; refine s_assign2 (by assumption) (by assumption) (by assumption) ?_ (by with_unfolding_all rfl))
  | (show EvV _ _ (loadName _ _) _; refine e_varL (by assumption) (by assumption) (by with_unfolding_all exact rfl) ?_))
noncomputable abbrev bisN : List Str := [Str.ofString "a", Str.ofString "x", Str.ofString "lo", Str.ofString "hi", Str.ofString "key", Str.ofString "mid"]
/-- where a price belongs: behind all that are not greater -/
noncomputable def Splits (ks : List Int) (x : Int) (p : Nat) : Prop := p ≤ ks.length ∧ (∀ i k, i < p → ks[i]? = some k → k ≤ x) ∧ (∀ i k, p ≤ i → ks[i]? = some k → x < k)
theorem bisect_call {c : Cx} {n : Nat} {v u w z y : Value} {q kf : Addr} {xs : List AV} {ks : List Int} {x : Int} {l : Ledger} {P : AV → Ledger → Prop} {ko : Obj} {kfd : FuncData} (ok : Ok KF c (n + 2)) (r : Rep v (.ref q)) (r' : Rep u (.int x)) (r2 : Rep w (.int 0)) (r3 : Rep z .none) (r4 : Rep y (.ref kf))
    (hm : (q, Ent.list xs) ∈ l) (hlen : xs.length = ks.length) (hsz : xs.length ≤ 1000) (hs : ks.Pairwise (· ≤ ·)) (hko : ∀ p : Addr × Ent, ObjAt c (p :: l) kf ko) (hkd : ko.data = .func kfd)
    (hkey : ∀ (env : Env) (i : Nat) (e : AV) (k : Int) (v : Value), xs[i]? = some e → ks[i]? = some k → Rep v e → EvV (c.deeper env) l (call (.ref kf) [v]) fun a l' => l' = l ∧ a = .int k)
    (h : ∀ p : Nat, Splits ks x p → P (.int p) l) : EvV c l (call (.ref 32) [v, u, w, z] [(Str.ofString "key", y)]) P := by
  refine ev_def (binds := [(Str.ofString "a", v), (Str.ofString "x", u), (Str.ofString "lo", w), (Str.ofString "hi", z), (Str.ofString "key", y)]) (m := frm bisN [some (.ref q), some (.int x), some (.int 0), some .none, some (.ref kf), none]) ok (ok.k 32 _ rfl) rfl ⟨31, _, _, _, rfl, ok.k 31 _ rfl, rfl, rfl⟩ rfl (fun s hs => BindsTo.of_defaults rfl (hs _ _ (ok.k 24 _ rfl)) rfl rfl rfl) (by decide) (locs rfl)
    (frm_binds (binds := [(Str.ofString "a", v), (Str.ofString "x", u), (Str.ofString "lo", w), (Str.ofString "hi", z), (Str.ofString "key", y)]) (as := [.ref q, .int x, .int 0, .none, .ref kf]) rfl (by decide) (.cons r (.cons r' (.cons r2 (.cons r3 (.cons r4 .nil))))) 1) ?_
  intro L
  generalize henv : callEnv _ L 32 = env
  have hE : EnvAt env L := ⟨by rw [← henv]; rfl, by rw [← henv]; rfl⟩
  have x_a : Var env bisN (Str.ofString "a") 0 := ⟨by rw [← henv]; rfl, by decide, by decide, by decide⟩
  have x_x : Var env bisN (Str.ofString "x") 1 := ⟨by rw [← henv]; rfl, by decide, by decide, by decide⟩
  have x_lo : Var env bisN (Str.ofString "lo") 2 := ⟨by rw [← henv]; rfl, by decide, by decide, by decide⟩
  have x_hi : Var env bisN (Str.ofString "hi") 3 := ⟨by rw [← henv]; rfl, by decide, by decide, by decide⟩
  have x_key : Var env bisN (Str.ofString "key") 4 := ⟨by rw [← henv]; rfl, by decide, by decide, by decide⟩
  have x_mid : Var env bisN (Str.ofString "mid") 5 := ⟨by rw [← henv]; rfl, by decide, by decide, by decide⟩
  have ok' := ok.deeper (env := env)
  have g1 : Glo (c.deeper env) env (Str.ofString "len") (.val (.builtin "len")) := Glo.builtin ok' hE.kind (by rw [← henv]; rfl) (by rw [← henv]; rfl) (by rw [← henv]; rfl) (by decide) rfl (by kernel_rfl) (by decide)
  clear henv
  repeat tb_rel
  first | refine if_neg' (by decide) ?_ | rw [if_neg (by decide)]
  repeat tb_rel
  intro v1 u1 q1 q2
  refine v_isNone (q := true) (by obtain ⟨_, rfl⟩ := q1; rfl) q2 ?_
  repeat tb_rel
  refine ⟨q, xs, rfl, .tail _ hm, by lia, ?_⟩
  repeat tb_rel
  intro v1 u1 q1 q2
  refine v_isNone (q := false) (by obtain ⟨_, rfl⟩ := q1; rfl) q2 ?_
  repeat tb_rel
  refine Ev.mono (P := fun f l' => f = .next ∧ ∃ (p : Nat) (hi md : Option AV), l' = (L, .ns (frm bisN [some (.ref q), some (.int x), some (.int p), hi, some (.ref kf), md])) :: l ∧ Splits ks x p)
    (ev_While' (fun k l' => ∃ (lo hi : Nat) (md : Option AV), l' = (L, .ns (frm bisN [some (.ref q), some (.int x), some (.int lo), some (.int hi), some (.ref kf), md])) :: l ∧ lo ≤ hi ∧ hi ≤ ks.length ∧ (∀ i k, i < lo → ks[i]? = some k → k ≤ x) ∧ (∀ i k, hi ≤ i → ks[i]? = some k → x < k) ∧ k = hi - lo) ?_ ks.length ⟨0, xs.length, none, rfl, by lia, by lia, fun i k h => by lia, fun i k h e => ?_, by lia⟩) ?_
  · rintro B hB k l' hxx1
    refine byG fun gG kgG => ?_
    obtain ⟨lo, hi, md, rfl, h1, h2, h3, h4, rfl⟩ := hxx1
    refine kgG ?_
    clear kgG gG
    refine Ev.ifgen fun Q M kQ kM => ?_
    repeat tb_rel
    by_cases hlt : lo < hi
    · first | refine if_pos' (by simp; lia) ?_ | rw [if_pos (by simp; lia)]
      repeat tb_rel
      intro v1 u1 q1 q2
      refine v_fdiv q1 q2 (by decide) (by decide) ?_
      have emid : ((lo : Int) + (hi : Int)).fdiv 2 = (((lo + hi) / 2 : Nat) : Int) := by rw [Int.fdiv_eq_ediv_of_nonneg _ (by decide)]; lia
      rw [emid]
      have hmid1 : lo ≤ (lo + hi) / 2 := by lia
      have hmid2 : (lo + hi) / 2 < hi := by lia
      generalize (lo + hi) / 2 = mid at *
      have hmx : mid < xs.length := by lia
      have hmk : mid < ks.length := by lia
      repeat tb_rel
      refine e_callF ?_ (by with_unfolding_all rfl)
      tb_rel
      refine ⟨kf, ko, kfd, rfl, hkd, ?_⟩
      refine ev_items_cons ?_ (by with_unfolding_all rfl)
      repeat tb_rel
      intro v1 u1 q1 q2
      refine v_item (xs := xs) (b := xs[mid]) q1 q2 (.tail _ hm) (by first | exact Int.natCast_nonneg _ | lia) (by lia) (by simp) ?_
      intro v2 q3
      refine ev_items_nil ⟨hko _, ?_⟩
      refine EvV.under (hkey env mid xs[mid] ks[mid] v2 (List.getElem?_eq_getElem hmx) (List.getElem?_eq_getElem hmk) q3) fun a ha => ?_
      subst ha
      repeat tb_rel
      by_cases hx : x < ks[mid]
      · first | refine if_pos' (by simpa using hx) ?_ | rw [if_pos (by simpa using hx)]
        repeat tb_rel
        refine kQ _ _ ⟨mid - lo, Nat.sub_lt_sub_right hmid1 hmid2, lo, mid, _, rfl, by lia, by lia, h3, fun i k hi' e => ?_, rfl⟩
        by_cases hi2 : hi ≤ i
        · exact h4 i k hi2 e
        · have hik : i < ks.length := by lia
          rw [List.getElem?_eq_getElem hik] at e
          cases e
          by_cases hmi : mid = i
          · subst hmi; exact hx
          · exact Int.lt_of_lt_of_le hx (List.pairwise_iff_getElem.mp hs mid i hmk hik (by lia))
      · first | refine if_neg' (by simpa using hx) ?_ | rw [if_neg (by simpa using hx)]
        repeat tb_rel
        refine kQ _ _ ⟨hi - (mid + 1), Nat.sub_lt_sub_left hlt (Nat.lt_succ_of_le hmid1), mid + 1, hi, _, rfl, by lia, by lia, fun i k hi' e => ?_, h4, rfl⟩
        have hik : i < ks.length := by lia
        rw [List.getElem?_eq_getElem hik] at e
        cases e
        by_cases hmi : i = mid
        · subst hmi; lia
        · have := List.pairwise_iff_getElem.mp hs i mid hik hmk (by lia)
          lia
    · first | refine if_neg' (by simp; lia) ?_ | rw [if_neg (by simp; lia)]
      repeat tb_rel
      have hlh : lo = hi := by lia
      subst hlh
      exact kM _ ⟨rfl, lo, _, _, rfl, h2, h3, h4⟩
  · rw [List.getElem?_eq_none (by lia)] at e; cases e
  · rintro f l' hxx1
    refine byG fun gG kgG => ?_
    obtain ⟨rfl, p, hi, md, rfl, hsp⟩ := hxx1
    refine kgG ?_
    clear kgG gG
    repeat tb_rel
    exact fun v rv => ⟨_, l, rv, List.sublist_cons_self _ _, h p hsp⟩
noncomputable abbrev insN : List Str := [Str.ofString "a", Str.ofString "x", Str.ofString "lo", Str.ofString "hi", Str.ofString "key"]
noncomputable def KeyOf (c : Cx) (l : Ledger) (kf : Addr) (e : AV) (k : Int) : Prop := ∀ v, Rep v e → EvV c l (call (.ref kf) [v]) fun a l' => l' = l ∧ a = .int k
theorem KeyOf.under {c : Cx} {l : Ledger} {kf : Addr} {e : AV} {k : Int} {p : Addr × Ent} (h : KeyOf c l kf e k) : KeyOf c (p :: l) kf e k := fun v r => EvV.under (h v r) fun a ha => ⟨rfl, ha⟩
theorem insort_call {c : Cx} {n : Nat} {v u y : Value} {q kf : Addr} {xs : List AV} {ks : List Int} {x0 : AV} {k0 : Int} {l : Ledger} {lu : Nat → Ledger} {P : AV → Ledger → Prop} {ko : Obj} {kfd : FuncData} (ok : Ok KF c (n + 3)) (r : Rep v (.ref q)) (r' : Rep u x0) (r4 : Rep y (.ref kf))
    (hm : (q, Ent.list xs) ∈ l) (hlen : xs.length = ks.length) (hsz : xs.length ≤ 1000) (hs : ks.Pairwise (· ≤ ·)) (hko : (kf, Ent.obj (· = ko)) ∈ l) (hkd : ko.data = .func kfd)
    (hkey1 : ∀ env, KeyOf (c.deeper env) l kf x0 k0)
    (hkey : ∀ (env env' : Env) (i : Nat) (e : AV) (k : Int), xs[i]? = some e → ks[i]? = some k → KeyOf ((c.deeper env).deeper env') l kf e k)
    (hu : ∀ p, Mine.Upd q (.list xs) (.list (xs.take p ++ x0 :: xs.drop p)) l (lu p))
    (h : ∀ p : Nat, Splits ks k0 p → P .none (lu p)) : EvV c l (call (.ref 23) [v, u] [(Str.ofString "key", y)]) P := by
  refine ev_def (binds := [(Str.ofString "a", v), (Str.ofString "x", u), (Str.ofString "lo", .int 0 _), (Str.ofString "hi", .none), (Str.ofString "key", y)]) (m := frm insN [some (.ref q), some x0, some (.int 0), some .none, some (.ref kf)]) ok (ok.k 23 _ rfl) rfl ⟨22, _, _, _, rfl, ok.k 22 _ rfl, rfl, rfl⟩ rfl (fun s hs => BindsTo.of_defaults rfl (hs _ _ (ok.k 15 _ rfl)) rfl rfl rfl) (by decide) (locs rfl)
    (frm_binds (binds := [(Str.ofString "a", v), (Str.ofString "x", u), (Str.ofString "lo", .int 0 _), (Str.ofString "hi", .none), (Str.ofString "key", y)]) (as := [.ref q, x0, .int 0, .none, .ref kf]) rfl (by decide) (.cons r (.cons r' (.cons ⟨_, rfl⟩ (.cons ⟨0, rfl⟩ (.cons r4 .nil))))) 0) ?_
  intro L
  generalize henv : callEnv _ L 23 = env
  have hE : EnvAt env L := ⟨by rw [← henv]; rfl, by rw [← henv]; rfl⟩
  have x_a : Var env insN (Str.ofString "a") 0 := ⟨by rw [← henv]; rfl, by decide, by decide, by decide⟩
  have x_x : Var env insN (Str.ofString "x") 1 := ⟨by rw [← henv]; rfl, by decide, by decide, by decide⟩
  have x_lo : Var env insN (Str.ofString "lo") 2 := ⟨by rw [← henv]; rfl, by decide, by decide, by decide⟩
  have x_hi : Var env insN (Str.ofString "hi") 3 := ⟨by rw [← henv]; rfl, by decide, by decide, by decide⟩
  have x_key : Var env insN (Str.ofString "key") 4 := ⟨by rw [← henv]; rfl, by decide, by decide, by decide⟩
  have ok' := ok.deeper (env := env)
  have g1 : Glo (c.deeper env) env (Str.ofString "bisect_right") (.ref 32) := Glo.global ok' hE.kind (by rw [← henv]; rfl) (by rw [← henv]; rfl) (by decide) rfl ⟨0, rfl⟩
  have hI : interactive env = false := by rw [← henv]; with_unfolding_all rfl
  clear henv
  repeat tb_rel
  intro v1 u1 q1 q2
  refine v_isNone (q := false) (by obtain ⟨_, rfl⟩ := q1; rfl) q2 ?_
  repeat tb_rel
  refine e_callFkw ?_ (by with_unfolding_all rfl)
  tb_rel
  obtain ⟨o32, fd32, ho32, hd32⟩ : ∃ o fd, c.h₀.get? 32 = some o ∧ o.data = .func fd := ⟨_, _, ok.k 32 _ rfl, rfl⟩
  refine exI3 32 o32 fd32 ⟨rfl, hd32, ?_⟩
  refine ev_items_cons ?_ (by with_unfolding_all rfl)
  tb_rel
  intro v1 q1
  refine ev_items_cons ?_ (by with_unfolding_all rfl)
  refine e_callF ?_ (by with_unfolding_all rfl)
  tb_rel
  refine ⟨kf, ko, kfd, rfl, hkd, ?_⟩
  refine ev_items_cons ?_ (by with_unfolding_all rfl)
  tb_rel
  intro v2 q2
  refine ev_items_nil ⟨ObjAt.made (.tail _ hko), ?_⟩
  refine EvV.mono ((hkey1 env).under v2 q2) fun a l' ⟨e1, e2⟩ => ?_
  subst e1 e2
  intro v3 q3
  refine ev_items_cons ?_ (by with_unfolding_all rfl)
  tb_rel
  intro v4 q4
  refine ev_items_cons ?_ (by with_unfolding_all rfl)
  tb_rel
  intro v5 q5
  refine ev_items_nil ?_
  tb_rel
  intro v6 q6
  refine ⟨ObjAt.base ho32, ?_⟩
  refine bisect_call (xs := xs) (ks := ks) ok' q1 q3 q4 q5 q6 (.tail _ hm) hlen hsz hs (fun p => ObjAt.made (.tail _ (.tail _ hko))) hkd (fun env' i e k v he hk rv => (hkey env env' i e k he hk).under v rv) fun p hp => ?_
  repeat tb_rel
  refine s_Expr ?_ hI (by with_unfolding_all rfl)
  refine e_methList PySem.F.slot_list_insert PySem.F.type_list_insert ?_ (by with_unfolding_all rfl) (by with_unfolding_all rfl) (by with_unfolding_all rfl)
  tb_rel
  refine ⟨q, xs, rfl, .tail _ hm, ?_⟩
  refine v_callWith ?_ (by with_unfolding_all rfl) (by with_unfolding_all rfl)
  refine ev_items_cons ?_ (by with_unfolding_all rfl)
  tb_rel
  intro v1 q1
  refine ev_items_cons ?_ (by with_unfolding_all rfl)
  tb_rel
  intro v2 q2
  refine ev_items_nil ?_
  have hsl : sizeLine = 16777216 := sizeLine_eq
  refine v_insert (Rep.ref_mk q) q1 q2 (by lia) (by have := hp.1; lia) (.tail (hu p)) ⟨rfl, ?_⟩
  repeat tb_rel
  exact ⟨.none, lu p, Rep.none_mk, List.sublist_cons_self _ _, h p hp⟩
end
section
set_option linter.unusedVariables false
set_option maxRecDepth 100000
set_option maxHeartbeats 4000000
local macro_rules | `(tactic| tb_rel) => `(tactic| with_reducible first
  | (show EvV _ _ (eval _ _) _; refine e_lenList (by assumption) ?_ (by with_unfolding_all rfl))
  | (show Ev _ _ (exec _ _) _; refine s_assign2 (by assumption) (by assumption) (by assumption) ?_ (by with_unfolding_all rfl))
  | (show EvV _ _ (loadName _ _) _; refine e_varL (by assumption) (by assumption) (by with_unfolding_all exact rfl) ?_))
noncomputable def OPS : List (List Nat) := [[40], [41], [91], [93], [58], [44], [59], [43], [45], [42], [47], [124], [38], [60], [62], [61], [46], [37], [123], [125], [61, 61], [33, 61], [60, 61], [62, 61], [126], [94], [60, 60], [62, 62], [42, 42], [43, 61], [45, 61], [42, 61], [47, 61], [37, 61], [38, 61], [124, 61], [94, 61], [60, 60, 61], [62, 62, 61], [42, 42, 61], [47, 47], [47, 47, 61], [64], [64, 61], [45, 62], [46, 46, 46], [58, 61], [33]]
noncomputable def toldL : List Nat := [40, 32, 41, 32, 91, 32, 93, 32, 58, 32, 44, 32, 59, 32, 43, 32, 45, 32, 42, 32, 47, 32, 124, 32, 38, 32, 60, 32, 62, 32, 61, 32, 46, 32, 37, 32, 123, 32, 125, 32, 61, 61, 32, 33, 61, 32, 60, 61, 32, 62, 61, 32, 126, 32, 94, 32, 60, 60, 32, 62, 62, 32, 42, 42, 32, 43, 61, 32, 45, 61, 32, 42, 61, 32, 47, 61, 32, 37, 61, 32, 38, 61, 32, 124, 61, 32, 94, 61, 32, 60, 60, 61, 32, 62, 62, 61, 32, 42, 42, 61, 32, 47, 47, 32, 47, 47, 61, 32, 64, 32, 64, 61, 32, 45, 62, 32, 46, 46, 46, 32, 58, 61, 32, 33]
theorem ops_call {c : Cx} {n : Nat} {l : Ledger} {P : AV → Ledger → Prop} (ok : Ok KF c (n + 1)) (h : ∀ q, P (.ref q) ((q, .list (txts OPS)) :: l)) : EvV c l (call (.ref 77) []) P := by
  refine ev_def (binds := []) (m := frm [Str.ofString "told"] [none]) ok (ok.k 77 _ rfl) rfl ⟨76, _, _, _, rfl, ok.k 76 _ rfl, rfl, rfl⟩ rfl (fun s _ => BindsTo.of_eq rfl) (by decide) (locs rfl)
    (frm_binds (binds := []) (as := []) rfl (by decide) .nil 1) ?_
  intro L
  generalize henv : callEnv _ L 77 = env
  have hE : EnvAt env L := ⟨by rw [← henv]; rfl, by rw [← henv]; rfl⟩
  have x_told : Var env [Str.ofString "told"] (Str.ofString "told") 0 := ⟨by rw [← henv]; rfl, by decide, by decide, by decide⟩
  clear henv
  iterate 2 tb_rel
  refine ev_str (cs := toldL) (by decide) ?_
  repeat tb_rel
  refine e_methStr PySem.F.slot_str_split PySem.F.type_str_split ?_ (by with_unfolding_all rfl) (by with_unfolding_all rfl) (by with_unfolding_all rfl)
  tb_rel
  refine ⟨toldL, rfl, fun v rv => ?_⟩
  refine v_callWith ?_ (by with_unfolding_all rfl) (by with_unfolding_all rfl)
  refine ev_items_cons ?_ (by with_unfolding_all rfl)
  refine ev_str (cs := [32]) (by decide) ?_
  intro v1 q1
  refine ev_items_nil ?_
  refine v_split (ts := OPS) rv q1 (by decide) (by decide +kernel) (by decide) (by decide +kernel) (by decide +kernel) (by decide) fun q => ?_
  intro v2 q2
  exact ⟨_, _, q2, (List.sublist_cons_self _ _).cons_cons _, h q⟩
end
section
set_option linter.unusedVariables false
set_option maxRecDepth 100000
set_option maxHeartbeats 4000000
/-! ## what one pass reckons -/
noncomputable def stepLine (old : List Int) (w : List Nat) (sign : Nat) (entry : Int) : Nat → Int
  | 0 => entry
  | p + 1 => min (min (old.getD p 0 + (if w.getD p 0 = sign then 0 else 2)) (old.getD (p + 1) 0 + 2)) (stepLine old w sign entry p + 2)
noncomputable def lineOf (old : List Int) (w : List Nat) (sign : Nat) (entry : Int) (n : Nat) : List Int := (List.range n).map (stepLine old w sign entry)
noncomputable def lastOf (r : List Int) : Int := r.getLast?.getD 0
noncomputable def freshOf (ws : List (List Nat)) (rows : List (List Int)) (sign : Nat) (entry : Int) (n : Nat) : List (List Int) := (List.range n).map fun k => lineOf (rows.getD k []) (ws.getD k []) sign entry ((ws.getD k []).length + 1)
noncomputable def relax (best : Int) (r : List Int) : List Int := (List.range r.length).map fun k => min (r.getD k 0) (best + 2 * (k : Nat))
noncomputable def bestOf (entry : Int) (fresh : List (List Int)) : Int := lmin (entry :: fresh.map lastOf)
noncomputable def passStep (ws : List (List Nat)) (st : List (List Int) × List Int) (sign : Nat) : List (List Int) × List Int :=
  let entry := lastOf st.2 + 2
  let fresh := freshOf ws st.1 sign entry ws.length
  let best := bestOf entry fresh
  (fresh.map (relax best), st.2 ++ [best])
noncomputable def row0 (w : List Nat) : List Int := (List.range (w.length + 1)).map fun k => 2 * ((k : Nat) : Int)
noncomputable def pass (ws : List (List Nat)) (t : List Nat) : List (List Int) × List Int := t.foldl (passStep ws) (ws.map row0, [0])
noncomputable def Shape (ws : List (List Nat)) (rows : List (List Int)) : Prop := rows.length = ws.length ∧ ∀ k, (rows.getD k []).length = if k < ws.length then (ws.getD k []).length + 1 else 0
theorem getD_map {α β : Type} (f : α → β) (xs : List α) (k : Nat) (d : α) (d' : β) (h : k < xs.length) : (xs.map f).getD k d' = f (xs.getD k d) := by simp [h]
theorem shape_row0 (ws : List (List Nat)) : Shape ws (ws.map row0) := by
  refine ⟨by simp, fun k => ?_⟩
  by_cases h : k < ws.length
  · rw [if_pos h, getD_map row0 ws k [] [] h]; simp [row0]
  · rw [if_neg h]; simp [List.getElem?_eq_none (show ws.length ≤ k by lia)]
theorem shape_fresh (ws : List (List Nat)) (rows : List (List Int)) (s : Nat) (e b : Int) : Shape ws ((freshOf ws rows s e ws.length).map (relax b)) := by
  refine ⟨by simp [freshOf], fun k => ?_⟩
  by_cases h : k < ws.length
  · rw [if_pos h, getD_map (relax b) _ k [] [] (by simpa [freshOf] using h)]
    unfold freshOf
    rw [getD_map _ _ k 0 [] (by simpa using h)]
    simp [relax, lineOf, h]
  · rw [if_neg h]; simp [freshOf, List.getElem?_eq_none (show (List.range ws.length).length ≤ k by simp; lia)]
theorem pass_snoc (ws : List (List Nat)) (t : List Nat) (s : Nat) : pass ws (t ++ [s]) = passStep ws (pass ws t) s := by simp [pass]
theorem pass_shape (ws : List (List Nat)) (t : List Nat) : Shape ws (pass ws t).1 ∧ (pass ws t).2.length = t.length + 1 := by
  have key : ∀ (t : List Nat) (st : List (List Int) × List Int), Shape ws st.1 → Shape ws (t.foldl (passStep ws) st).1 ∧ (t.foldl (passStep ws) st).2.length = t.length + st.2.length := by
    intro t
    induction t with
    | nil => intro st h; exact ⟨h, by simp⟩
    | cons s r ih =>
      intro st h
      obtain ⟨h1, h2⟩ := ih (passStep ws st s) (shape_fresh ws _ s _ _)
      refine ⟨h1, ?_⟩
      rw [List.foldl_cons, h2]
      simp [passStep]; lia
  have := key t (ws.map row0, [0]) (shape_row0 ws)
  exact ⟨this.1, by rw [pass, this.2]; simp⟩
theorem last_get (r : List Int) (h : r ≠ []) : (r.map AV.int)[((-1 : Int) + ((r.map AV.int).length : Nat)).toNat]? = some (.int (lastOf r)) := by
  have hl : 0 < r.length := List.length_pos_iff.mpr h
  have e : ((-1 : Int) + ((r.map AV.int).length : Nat)).toNat = r.length - 1 := by rw [List.length_map]; lia
  rw [e, List.getElem?_map, lastOf, ← List.getLast?_eq_getElem?, List.getLast?_eq_some_getLast h]
  rfl
theorem int_get (r : List Int) (p : Nat) (h : p < r.length) : (r.map AV.int)[p]? = some (.int (r.getD p 0)) := by simp [h]
theorem line_snoc (old : List Int) (w : List Nat) (s : Nat) (e : Int) (n : Nat) : lineOf old w s e (n + 1) = lineOf old w s e n ++ [stepLine old w s e n] := by simp [lineOf, List.range_succ]
theorem bindL_all (kind : Str → Option NameKind) : ∀ (bs : List (Str × Value)) (m : Str → Option Value) (x : Str), (∀ p ∈ bs, kind p.1 = some .local) → bindL kind bs m x = (bs.reverse.lookup x).or (m x)
  | [], m, x, _ => by simp [bindL]
  | (y, v) :: r, m, x, h => by
    unfold bindL
    rw [if_pos (h (y, v) (.head _)), bindL_all kind r _ x fun p hp => h p (.tail _ hp)]
    rw [List.reverse_cons, List.lookup_append]
    cases hr : r.reverse.lookup x with
    | some z => simp
    | none =>
      simp only [Option.none_or]
      by_cases hx : x = y
      · subst hx; simp
      · first | refine if_neg' hx ?_ | rw [if_neg hx]
        have : (x == y) = false := by simpa using hx
        simp [List.lookup_cons, this]
noncomputable abbrev onN : List Str := [Str.ofString "text", Str.ofString "words", Str.ofString "least", Str.ofString "k", Str.ofString "states", Str.ofString "sign", Str.ofString "entry", Str.ofString "fresh", Str.ofString "old", Str.ofString "line", Str.ofString "place", Str.ofString "change"]
noncomputable abbrev onF (text words least k states sign entry fresh old line place change : Option AV) : Ent := .ns (frm onN [text, words, least, k, states, sign, entry, fresh, old, line, place, change])
theorem pass_call {c : Cx} {n : Nat} {v u : Value} {t : List Nat} {ws : List (List Nat)} {wl : Addr} {l : Ledger} {P : AV → Ledger → Prop} (ok : Ok KF c (n + 1)) (r : Rep v (.str t)) (r' : Rep u (.ref wl)) (hwl : (wl, Ent.list (txts ws)) ∈ l) (ht : t.all (· < 128) = true) (hz : t.length ≤ 100) (hws : ws.length ≤ 100) (hw : ∀ w ∈ ws, w.length ≤ 100)
    (h : ∀ q, P (.ref q) ((q, .list ((pass ws t).2.map AV.int)) :: l)) : EvV c l (call (.ref 82) [v, u]) P := by
  refine ev_defC (binds := [(Str.ofString "text", v), (Str.ofString "words", u)]) (m := frm onN [some (.str t), some (.ref wl), none, none, none, none, none, none, none, none, none, none]) (ca := fun _ => none) ok (ok.k 82 _ rfl) rfl ⟨81, _, _, _, rfl, ok.k 81 _ rfl, rfl, rfl⟩ rfl rfl rfl
    (fun n x hx => Or.inl (locs rfl x hx)) (by decide) (fun x av hx => ?_) (fun x av hx => nomatch hx) ?_
  · obtain ⟨w, hw, rw'⟩ := frm_binds (binds := [(Str.ofString "text", v), (Str.ofString "words", u)]) (ns := onN) (as := [.str t, .ref wl]) rfl (by decide) (.cons r (.cons r' .nil)) 10 x av hx
    refine ⟨w, ?_, rw'⟩
    rw [bindL_all _ _ _ _ (locs rfl), hw]; rfl
  · intro L
    generalize henv : callEnvC _ L 82 = env
    have hE : EnvAt env L := ⟨by rw [← henv]; rfl, by rw [← henv]; rfl⟩
    have hG : EnvG env := ⟨by rw [← henv]; rfl, by rw [← henv]; rfl⟩
    have x_text : Var env onN (Str.ofString "text") 0 := ⟨by rw [← henv]; rfl, by decide, by decide, by decide⟩
    have x_words : Var env onN (Str.ofString "words") 1 := ⟨by rw [← henv]; rfl, by decide, by decide, by decide⟩
    have x_least : Var env onN (Str.ofString "least") 2 := ⟨by rw [← henv]; rfl, by decide, by decide, by decide⟩
    have x_k : Var env onN (Str.ofString "k") 3 := ⟨by rw [← henv]; rfl, by decide, by decide, by decide⟩
    have x_states : Var env onN (Str.ofString "states") 4 := ⟨by rw [← henv]; rfl, by decide, by decide, by decide⟩
    have x_sign : Var env onN (Str.ofString "sign") 5 := ⟨by rw [← henv]; rfl, by decide, by decide, by decide⟩
    have x_entry : Var env onN (Str.ofString "entry") 6 := ⟨by rw [← henv]; rfl, by decide, by decide, by decide⟩
    have x_fresh : Var env onN (Str.ofString "fresh") 7 := ⟨by rw [← henv]; rfl, by decide, by decide, by decide⟩
    have x_old : Var env onN (Str.ofString "old") 8 := ⟨by rw [← henv]; rfl, by decide, by decide, by decide⟩
    have x_line : Var env onN (Str.ofString "line") 9 := ⟨by rw [← henv]; rfl, by decide, by decide, by decide⟩
    have x_place : Var env onN (Str.ofString "place") 10 := ⟨by rw [← henv]; rfl, by decide, by decide, by decide⟩
    have x_change : Var env onN (Str.ofString "change") 11 := ⟨by rw [← henv]; rfl, by decide, by decide, by decide⟩
    have x_best : CVar env (Str.ofString "best") (L + 1) := ⟨by rw [← henv]; rfl, by rw [← henv]; rfl, by decide⟩
    have ok' := ok.deeper (env := env)
    have g_len : Glo (c.deeper env) env (Str.ofString "len") (.val (.builtin "len")) := Glo.builtin ok' hE.kind (by rw [← henv]; rfl) hG.g hG.b (by decide) rfl (by kernel_rfl) (by decide)
    have g_range : Glo (c.deeper env) env (Str.ofString "range") (.val (.type "range")) := Glo.builtin ok' hE.kind (by rw [← henv]; rfl) hG.g hG.b (by decide) rfl (by kernel_rfl) (by decide)
    have g_min : Glo (c.deeper env) env (Str.ofString "min") (.val (.builtin "min")) := Glo.builtin ok' hE.kind (by rw [← henv]; rfl) hG.g hG.b (by decide) rfl (by kernel_rfl) (by decide)
    have hI : interactive env = false := by rw [← henv]; with_unfolding_all rfl
    show Ev (c.deeper env) ((L, onF (some (.str t)) (some (.ref wl)) none none none none none none none none none none) :: (L + 1, Ent.cell none) :: l) (execs _ env) _
    clear henv
    generalize L + 1 = cb at *
    have hsl : sizeLine = 16777216 := sizeLine_eq
    have htl : (txts ws).length = ws.length := by simp [txts]
    tb_rel
    refine s_assignNew hE x_least (e_List (ev_items_cons (ev_int ?_) (by with_unfolding_all rfl))) (by with_unfolding_all rfl)
    intro v1 q1
    refine ev_items_nil ⟨[.int 0], .cons q1 .nil, by simp; lia, fun q => ⟨_, _, _, rfl, rfl, ?_⟩⟩
    repeat ((fail_if_success (with_reducible show Ev _ _ (exec _ _) _)); tb_rel)
    refine s_assignComp (txts ws) [(wl, .list (txts ws))] (fun i ys l' => ∃ G as, l' = (L, onF (some (.str t)) (some (.ref wl)) (some (.ref q)) none none none none none none none none none) :: (q, .list [.int 0]) :: (cb, Ent.cell none) :: G ∧ l.Sublist G ∧ ys = as.map AV.ref ∧ Rows G as ((ws.take i).map row0))
      hE x_states (swaps_local hE.kind x_states.kind (by decide)) (closure_of [] rfl (by simp)) rfl (by decide) (by simp [txts]; lia) ?_ ?_ ?_ ?_
    · tb_rel
      intro v2 q2
      refine v_iterList ok' q2 (.tail _ (.tail _ (.tail _ hwl))) fun I hI => exI3 I _ _ ⟨rfl, rfl, hI, l, [], rfl, List.Sublist.refl _, rfl, by simpa using Rows.nil⟩
    · rintro i ys l' hxx1 p hp
      refine byG fun gG kgG => ?_
      obtain ⟨G, as, rfl, hs, rfl, hR⟩ := hxx1
      refine kgG ?_
      clear kgG gG
      have : p = (wl, .list (txts ws)) := by simpa using hp
      subst this
      exact .tail _ (.tail _ (.tail _ (hs.subset hwl)))
    · rintro C cs env' i a ys l' ⟨n', ecs⟩ eenv hi hxx1 v rv
      refine byG fun gG kgG => ?_
      obtain ⟨G, as, hl, hs, rfl, hR⟩ := hxx1
      refine kgG ?_
      clear kgG gG
      refine compgen fun Qc1 Qc2 kc1 kc2 => ?_
      have ecs' : cs = [] := ecs
      subst ecs'
      have hwi : i < ws.length := by simpa [txts] using (List.getElem?_eq_some_iff.mp hi).1
      have ha : a = .str ws[i] := by
        rw [txts, List.getElem?_map, List.getElem?_eq_getElem hwi] at hi; simp at hi; exact hi.symm
      subst ha
      have hE' : EnvAt env' C := eenv ▸ comp_at rfl
      have hG' : EnvG env' := eenv ▸ comp_g hG
      have y_word : Var env' [Str.ofString "word"] (Str.ofString "word") 0 := eenv ▸ comp_var (by decide) (by decide) (by decide) (by decide)
      have g_len' : Glo (c.deeper env) env' (Str.ofString "len") (.val (.builtin "len")) := eenv ▸ comp_built ok' hG rfl (by decide) (by decide) rfl (by kernel_rfl) (by decide)
      have g_range' : Glo (c.deeper env) env' (Str.ofString "range") (.val (.type "range")) := eenv ▸ comp_built ok' hG rfl (by decide) (by decide) rfl (by kernel_rfl) (by decide)
      clear eenv ecs
      rw [compL_1 (Str.ofString "word")]
      refine ev_assignName ?_
      refine e_setM hE' y_word rfl rv .head ?_
      refine ev_tests0 (if_t ?_)
      dsimp only [List.set]
      have hwl' : ws[i].length ≤ 100 := hw _ (List.getElem_mem hwi)
      refine e_comp (rangeItems 0 1 (ws[i].length + 1)) [] (fun i2 ys2 l2 => l2 = (C, Ent.ns (frm [Str.ofString "word"] [some (.str ws[i])])) :: l' ∧ ys2 = (List.range i2).map fun k => AV.int (2 * ((k : Nat) : Int)))
        (closure_of [] rfl (by simp)) rfl (by decide) (by simp [rangeItems]; lia) ?_ (fun _ _ _ _ p hp => nomatch hp) ?_ ?_
      · refine e_range1 g_range' ?_ (by with_unfolding_all rfl)
        tb_rel
        refine e_lenStr g_len' ?_ (by with_unfolding_all rfl)
        tb_rel
        refine ⟨_, rfl, by lia, ?_⟩
        repeat tb_rel
        exact fun r v3 q3 => v_iterRange' ok' q3 (small_of (by lia) (by lia) (by lia) (by lia)) (by rw [size_of (by lia)]; lia) fun I hI => exI3 I _ _ ⟨rfl, rfl, hI, rfl, rfl⟩
      · rintro C2 cs2 env2 i2 a2 ys2 l2 ⟨n2, ecs2⟩ eenv2 hi2 ⟨rfl, rfl⟩ v3 rv3
        refine compgen fun Qc1 Qc2 kc1 kc2 => ?_
        have ecs2' : cs2 = [] := ecs2
        subst ecs2'
        obtain ⟨hlt2, rfl⟩ := rangeItems_get hi2
        have hE2 : EnvAt env2 C2 := eenv2 ▸ comp_at rfl
        have y_k : Var env2 [Str.ofString "k"] (Str.ofString "k") 0 := eenv2 ▸ comp_var (by decide) (by decide) (by decide) (by decide)
        clear eenv2 ecs2
        rw [compL_1 (Str.ofString "k")]
        refine ev_assignName ?_
        refine e_setM hE2 y_k rfl rv3 .head ?_
        refine ev_tests0 (if_t ?_)
        repeat tb_rel
        intro v4 u4 q4 q5
        refine v_mul q4 q5 (IntMulOk.of_left (by decide)) ?_
        refine kc1 _ _ (exI2 [(C2, _)] _ ⟨List.Perm.refl _, rfl, rfl, ?_⟩)
        rw [List.range_succ, List.map_append]
        simp
      · rintro D ys2 l2 ⟨rfl, rfl⟩
        subst hl
        refine kc1 _ _ (exI2 [(C, _)] ((L, _) :: (q, _) :: (cb, _) :: (D, _) :: G) ⟨List.perm_middle (l₁ := [(C, _), (L, _), (q, _), (cb, _)]), rfl, _, as ++ [D], rfl, hs.trans (List.sublist_cons_self _ _), by simp, ?_⟩)
        rw [List.take_add_one, List.getElem?_eq_getElem hwi]
        simp only [Option.toList_some, List.map_append, List.map_cons, List.map_nil]
        refine (hR.mono fun p hp => .tail _ hp).snoc ?_
        have e : (row0 ws[i]).map AV.int = (List.range (rangeItems 0 1 (ws[i].length + 1)).length).map fun k => AV.int (2 * ((k : Nat) : Int)) := by
          simp [row0, rangeItems]
        rw [e]
        exact .head _
    · rintro D ys l' hxx1
      refine byG fun gG kgG => ?_
      obtain ⟨G, as, rfl, hs, rfl, hR⟩ := hxx1
      refine kgG ?_
      clear kgG gG
      refine ⟨_, _, rfl, rfl, ?_⟩
      have e : (ws.take (txts ws).length) = ws := by simp [txts]
      rw [e] at hR
      repeat tb_rel
      refine Ev.mono (P := fun f l' => f = .next ∧ ∃ G sv svs a b d e f' g h' i j, l' = (L, onF (some (.str t)) (some (.ref wl)) (some (.ref q)) a b d e f' g h' i j) :: (sv, svs) :: (q, .list ((pass ws t).2.map .int)) :: G ∧ l.Sublist G) (ev_For (fun i l' => ∃ G as sv a b d e f g h' bv bo, l' = (L, onF (some (.str t)) (some (.ref wl)) (some (.ref q)) a (some (.ref sv)) b d e f g h' bv) :: (sv, .list (as.map .ref)) :: (q, .list ((pass ws (t.take i)).2.map .int)) :: (cb, .cell bo) :: G ∧ l.Sublist G ∧ Rows G as (pass ws (t.take i)).1)
        (signs t) [] ?_ (fun _ _ _ p hp => nomatch hp) ?_ ?_ ?hs) ?_
      case hs => intro _; with_unfolding_all rfl
      · tb_rel
        intro v2 q2
        refine v_iterStr ok' q2 ht fun I t' hI => exI3 I _ _ ⟨rfl, rfl, hI, (exI12 G as D none none none none none none none none none ⟨rfl, hs, ?_⟩)⟩
        simpa [pass] using hR
      · rintro i a l' hi hxx1 v rv
        refine byG fun gG kgG => ?_
        refine exE12 hxx1 fun G as sv va vb vd ve vf vg vh vi bo hzz1 => ?_
        clear hxx1
        obtain ⟨rfl, hs, hR⟩ := hzz1
        refine kgG ?_
        clear kgG gG
        obtain ⟨sg, hsg, rfl⟩ := signs_get hi
        have hit : i < t.length := (List.getElem?_eq_some_iff.mp hsg).1
        obtain ⟨hsh, hln⟩ := pass_shape ws (t.take i)
        have hnext : pass ws (t.take (i + 1)) = passStep ws (pass ws (t.take i)) sg := by
          rw [List.take_add_one, hsg]; exact pass_snoc ws _ _
        rw [hnext]
        generalize pass ws (t.take i) = st at *
        obtain ⟨rows, lst⟩ := st
        simp only at hsh hln hR ⊢
        have hne : lst ≠ [] := by intro e; rw [e] at hln; simp at hln
        have hlt : (t.take i).length ≤ 100 := by simp; lia
        refine e_setM hE x_sign rfl rv .head (Ev.gen fun Q1 kQ1 => ?_)
        iterate 3 tb_rel
        repeat tb_rel
        intro v3 u3 q3 q4
        refine v_itemNeg (xs := lst.map AV.int) (b := .int (lastOf lst)) q3 q4 (by one_place) (by decide) (by decide) (by rw [List.length_map]; lia) (last_get lst hne) ?_
        repeat tb_rel
        refine e_List (ev_items_nil ⟨[], .nil, by simp, fun f => ?_⟩)
        repeat tb_rel
        generalize hen : lastOf lst + 2 = entry
        refine Ev.mono (P := fun (f' : Flow) (l' : Ledger) => f' = Flow.next ∧ ∃ G2 fas kv ov lv pv chv, l' = (f, .list (fas.map .ref)) :: (L, onF (some (.str t)) (some (.ref wl)) (some (.ref q)) kv (some (.ref sv)) (some (.str [sg])) (some (.int entry)) (some (.ref f)) ov lv pv chv) :: (sv, .list (as.map .ref)) :: (q, .list (lst.map .int)) :: (cb, .cell bo) :: G2 ∧ G.Sublist G2 ∧ Rows G2 fas (freshOf ws rows sg entry ws.length))
          (s_forRange ok' (fun k l' => ∃ G2 fas kv ov lv pv chv, l' = (f, .list (fas.map .ref)) :: (L, onF (some (.str t)) (some (.ref wl)) (some (.ref q)) kv (some (.ref sv)) (some (.str [sg])) (some (.int entry)) (some (.ref f)) ov lv pv chv) :: (sv, .list (as.map .ref)) :: (q, .list (lst.map .int)) :: (cb, .cell bo) :: G2 ∧ G.Sublist G2 ∧ Rows G2 fas (freshOf ws rows sg entry k)) 0 ws.length ?_ ?_ ?_ ?hs) ?_
        case hs => intro _; with_unfolding_all rfl
        · refine e_range1 g_range (e_lenList g_len ?_ (by with_unfolding_all rfl)) (by with_unfolding_all rfl)
          tb_rel
          refine ⟨wl, txts ws, rfl, .tail _ (.tail _ (.tail _ (.tail _ (.tail _ (hs.subset hwl))))), by lia, _, rfl, fun r => exI3 r _ _ ⟨rfl, rfl, small_of (by lia) (by lia) (by lia) (by lia), by rw [size_of (by lia)]; lia, (exI7 G [] va vf vg vh vi ⟨rfl, List.Sublist.refl _, Rows.nil⟩)⟩⟩
        · rintro k l' hk hxx1 v3 rv3
          refine byG fun gG kgG => ?_
          refine exE7 hxx1 fun G2 fas kv ov lv pv chv hzz1 => ?_
          clear hxx1
          obtain ⟨rfl, hs2, hR2⟩ := hzz1
          refine kgG ?_
          clear kgG gG
          rw [Int.zero_add] at rv3
          refine e_setM hE x_k rfl rv3 (.tail .head) (Ev.gen fun Q2 kQ2 => ?_)
          have hkr : k < rows.length := by rw [hsh.1]; exact hk
          refine byG fun gG kgG => ?_
          obtain ⟨ak, h1, h2, h3⟩ := (hR.mono (fun p hp => hs2.subset hp)).get hkr
          refine kgG ?_
          clear kgG gG
          have hold : rows.getD k [] = rows[k] := by simp [hkr]
          repeat tb_rel
          intro v4 u4 q4 q5
          refine v_item (xs := as.map AV.ref) (b := .ref ak) q4 q5 (by one_place) (by first | exact Int.natCast_nonneg _ | lia) (by lia) (by rw [Int.toNat_natCast]; exact h2) ?_
          repeat tb_rel
          refine e_List (ev_items_cons ?_ (by with_unfolding_all rfl))
          tb_rel
          intro v5 q6
          refine ev_items_nil ⟨[.int entry], .cons q6 .nil, by simp; lia, fun ln => ?_⟩
          repeat tb_rel
          have hwk : ws.getD k [] = ws[k] := by simp [hk]
          have hwl' : ws[k].length ≤ 100 := hw _ (List.getElem_mem hk)
          have hgw : (txts ws)[k]? = some (.str ws[k]) := by simp [txts, hk]
          refine Ev.mono (P := fun (f' : Flow) (l' : Ledger) => f' = Flow.next ∧ ∃ pv chv, l' = (ln, .list ((lineOf rows[k] ws[k] sg entry (ws[k].length + 1)).map AV.int)) :: (f, .list (fas.map .ref)) :: (L, onF (some (.str t)) (some (.ref wl)) (some (.ref q)) (some (.int k)) (some (.ref sv)) (some (.str [sg])) (some (.int entry)) (some (.ref f)) (some (.ref ak)) (some (.ref ln)) pv chv) :: (sv, .list (as.map .ref)) :: (q, .list (lst.map .int)) :: (cb, .cell bo) :: G2)
            (s_forRange ok' (fun p l' => ∃ pv chv, l' = (ln, .list ((lineOf rows[k] ws[k] sg entry (p + 1)).map AV.int)) :: (f, .list (fas.map .ref)) :: (L, onF (some (.str t)) (some (.ref wl)) (some (.ref q)) (some (.int k)) (some (.ref sv)) (some (.str [sg])) (some (.int entry)) (some (.ref f)) (some (.ref ak)) (some (.ref ln)) pv chv) :: (sv, .list (as.map .ref)) :: (q, .list (lst.map .int)) :: (cb, .cell bo) :: G2) 0 ws[k].length ?_ ?_ ?_ ?hs) ?_
          case hs => intro _; with_unfolding_all rfl
          · refine e_range1 g_range (e_lenStr g_len ?_ (by with_unfolding_all rfl)) (by with_unfolding_all rfl)
            repeat tb_rel
            intro v6 u6 q7 q8
            refine v_item (xs := txts ws) (b := .str ws[k]) q7 q8 (.tail _ (.tail _ (.tail _ (.tail _ (.tail _ (.tail _ (hs2.subset (hs.subset hwl)))))))) (by first | exact Int.natCast_nonneg _ | lia) (by lia) (by rw [Int.toNat_natCast]; exact hgw) ?_
            refine ⟨_, rfl, by lia, _, rfl, fun r => exI3 r _ _ ⟨rfl, rfl, small0 (by lia), size0, pv, chv, rfl⟩⟩
          · rintro p l' hp ⟨pv, chv, rfl⟩ v6 rv6
            rw [Int.zero_add] at rv6
            refine e_setM hE x_place rfl rv6 (.tail (.tail .head)) (Ev.gen fun Q3 kQ3 => ?_)
            have hpr : p < rows[k].length := by
              have := hsh.2 k
              rw [hold, if_pos hk, hwk] at this; lia
            have hpr1 : p + 1 < rows[k].length := by
              have := hsh.2 k
              rw [hold, if_pos hk, hwk] at this; lia
            tb_rel
            refine Ev.mono (P := fun (f' : Flow) (l' : Ledger) => f' = Flow.next ∧ l' = (ln, .list ((lineOf rows[k] ws[k] sg entry (p + 1)).map AV.int)) :: (f, .list (fas.map .ref)) :: (L, onF (some (.str t)) (some (.ref wl)) (some (.ref q)) (some (.int k)) (some (.ref sv)) (some (.str [sg])) (some (.int entry)) (some (.ref f)) (some (.ref ak)) (some (.ref ln)) (some (.int p)) (some (.int (if ws[k].getD p 0 = sg then 0 else 2)))) :: (sv, .list (as.map .ref)) :: (q, .list (lst.map .int)) :: (cb, .cell bo) :: G2) ?_ ?_
            · repeat tb_rel
              intro v7 u7 q9 q10
              refine v_item (xs := txts ws) (b := .str ws[k]) q9 q10 (.tail _ (.tail _ (.tail _ (.tail _ (.tail _ (.tail _ (hs2.subset (hs.subset hwl)))))))) (by first | exact Int.natCast_nonneg _ | lia) (by lia) (by rw [Int.toNat_natCast]; exact hgw) ?_
              repeat tb_rel
              intro v8 u8 q11 q12
              refine v_sign (b := ws[k].getD p 0) q11 q12 (nn_lo _) (by lia) (Or.inl (Int.natCast_nonneg _)) (by rw [if_neg (nn_neg _)]; simp [hp]) ?_
              repeat tb_rel
              by_cases hsgn : ws[k].getD p 0 = sg
              · rw [if_pos (by simpa using hsgn), if_pos hsgn]
                repeat tb_rel
                exact ⟨rfl, rfl⟩
              · rw [if_neg (by simpa using hsgn), if_neg hsgn]
                repeat tb_rel
                exact ⟨rfl, rfl⟩
            · rintro f' l' ⟨rfl, rfl⟩
              repeat tb_rel
              refine s_append ?_ hI (by with_unfolding_all rfl) (by with_unfolding_all rfl) (by with_unfolding_all rfl) (by with_unfolding_all rfl) (by with_unfolding_all rfl)
              tb_rel
              refine ⟨ln, _, rfl, .head _, ?_⟩
              repeat tb_rel
              intro v7 u7 q9 q10
              refine v_item (xs := rows[k].map AV.int) (b := .int (rows[k].getD p 0)) q9 q10 (.tail _ (.tail _ (.tail _ (.tail _ (.tail _ (.tail _ h3)))))) (by first | exact Int.natCast_nonneg _ | lia) (by lia) (by rw [Int.toNat_natCast]; exact int_get _ _ hpr) ?_
              repeat tb_rel
              intro v8 u8 q11 q12
              refine v_item (xs := rows[k].map AV.int) (b := .int (rows[k].getD (p + 1) 0)) q11 q12 (.tail _ (.tail _ (.tail _ (.tail _ (.tail _ (.tail _ h3)))))) (by first | exact Int.natCast_nonneg _ | lia) (by lia) (by rw [show ((p : Int) + 1).toNat = p + 1 by lia]; exact int_get _ _ hpr1) ?_
              repeat tb_rel
              intro v9 u9 q13 q14
              refine v_item (xs := (lineOf rows[k] ws[k] sg entry (p + 1)).map AV.int) (b := .int (stepLine rows[k] ws[k] sg entry p)) q13 q14 (.head _) (by first | exact Int.natCast_nonneg _ | lia) (by lia) (by rw [Int.toNat_natCast]; simp [lineOf]) ?_
              repeat tb_rel
              refine ⟨_, _, by simp [lineOf]; lia, .head, ?_⟩
              repeat tb_rel
              refine kQ3 _ _ ?_
              refine ⟨some (.int p), some (.int (if ws[k].getD p 0 = sg then 0 else 2)), ?_⟩
              rw [line_snoc _ _ _ _ (p + 1), List.map_append]
              rfl
          · rintro l' hJ
            exact ⟨rfl, hJ⟩
          · rintro f' l' hxx1
            refine byG fun gG kgG => ?_
            obtain ⟨rfl, pv, chv, rfl⟩ := hxx1
            refine kgG ?_
            clear kgG gG
            refine Ev.perm (List.perm_middle (l₁ := [(f, _), (L, _), (sv, _), (q, _), (cb, _)])) ?_
            simp only [List.cons_append, List.nil_append]
            repeat tb_rel
            refine s_append ?_ hI (by with_unfolding_all rfl) (by with_unfolding_all rfl) (by with_unfolding_all rfl) (by with_unfolding_all rfl) (by with_unfolding_all rfl)
            tb_rel
            refine ⟨f, _, rfl, .head _, ?_⟩
            tb_rel
            refine ⟨_, _, by rw [List.length_map, hR2.len]; simp [freshOf]; lia, .head, ?_⟩
            repeat tb_rel
            refine kQ2 _ _ ?_
            refine (exI7 ((ln, .list ((lineOf rows[k] ws[k] sg entry (ws[k].length + 1)).map AV.int)) :: G2) (fas ++ [ln]) (some (.int k)) (some (.ref ak)) (some (.ref ln)) pv chv ⟨by simp, hs2.trans (List.sublist_cons_self _ _), ?_⟩)
            have efr : freshOf ws rows sg entry (k + 1) = freshOf ws rows sg entry k ++ [lineOf rows[k] ws[k] sg entry (ws[k].length + 1)] := by
              unfold freshOf
              rw [List.range_succ, List.map_append, List.map_singleton, hold, hwk]
            rw [efr]
            exact (hR2.mono fun p hp => .tail _ hp).snoc (.head _)
        · rintro l' hJ
          exact ⟨rfl, hJ⟩
        · rintro f' l' hxx1
          refine byG fun gG kgG => ?_
          obtain ⟨rfl, hyy1⟩ := hxx1
          refine exE7 hyy1 fun G2 fas kv ov lv pv chv hzz1 => ?_
          clear hyy1
          obtain ⟨rfl, hs2, hR2⟩ := hzz1
          refine kgG ?_
          clear kgG gG
          have hfl : (freshOf ws rows sg entry ws.length).length = ws.length := by simp [freshOf]
          have hst : passStep ws (rows, lst) sg = ((freshOf ws rows sg entry ws.length).map (relax (bestOf entry (freshOf ws rows sg entry ws.length))), lst ++ [bestOf entry (freshOf ws rows sg entry ws.length)]) := by rw [← hen]; rfl
          have hfne : ∀ k (hk : k < (freshOf ws rows sg entry ws.length).length), (freshOf ws rows sg entry ws.length)[k] ≠ [] := by
            intro k hk; simp [freshOf, lineOf]
          have hfle : ∀ k (hk : k < (freshOf ws rows sg entry ws.length).length), ((freshOf ws rows sg entry ws.length)[k]).length ≤ 101 := by
            intro k hk
            have hk' : k < ws.length := by lia
            have := hw _ (List.getElem_mem hk')
            simp [freshOf, lineOf, hk']; lia
          generalize freshOf ws rows sg entry ws.length = fr at *
          have hbe : bestOf entry fr = lmin (entry :: fr.map lastOf) := rfl
          generalize bestOf entry fr = best at *
          repeat tb_rel
          refine e_minL ok' g_min ?_ (by with_unfolding_all rfl)
          repeat tb_rel
          refine e_List (ev_items_cons ?_ (by with_unfolding_all rfl))
          tb_rel
          intro v5 q5
          refine ev_items_nil ⟨[.int entry], .cons q5 .nil, by simp; lia, fun el => ?_⟩
          refine EvV.var fun B hBv => ?_
          refine e_comp (fas.map AV.ref) [(f, .list (fas.map AV.ref))] (fun i ys l' => l' = B ∧ ys = ((fr.take i).map lastOf).map AV.int)
            (closure_of [] rfl (by simp)) rfl (by decide) (by rw [List.length_map, hR2.len]; lia) ?_ ?_ ?_ ?_
          · subst hBv
            tb_rel
            intro v6 q6
            exact v_iterList ok' q6 (.tail _ (.head _)) fun I hI => exI3 I _ _ ⟨rfl, rfl, hI, rfl, by simp⟩
          · rintro i2 ys l' ⟨hl, rfl⟩ p hp
            have : p = (f, .list (fas.map AV.ref)) := by simpa using hp
            subst this hl hBv
            exact .tail _ (.head _)
          · rintro C cs env' i2 a2 ys l' ⟨n', ecs⟩ eenv hi2 ⟨hl, rfl⟩ v6 rv6
            refine compgen fun Qc1 Qc2 kc1 kc2 => ?_
            subst hl
            have ecs' : cs = [] := ecs
            subst ecs'
            have hfi : i2 < fr.length := by have := (List.getElem?_eq_some_iff.mp hi2).1; rw [List.length_map, hR2.len] at this; exact this
            refine byG fun gG kgG => ?_
            obtain ⟨ak, h1, h2, h3⟩ := hR2.get hfi
            refine kgG ?_
            clear kgG gG
            rw [h2] at hi2
            cases hi2
            have m3 : (ak, Ent.list (fr[i2].map AV.int)) ∈ l' := hBv ▸ .tail _ (.tail _ (.tail _ (.tail _ (.tail _ (.tail _ h3)))))
            clear hBv
            have hE' : EnvAt env' C := eenv ▸ comp_at rfl
            have y_line : Var env' [Str.ofString "line"] (Str.ofString "line") 0 := eenv ▸ comp_var (by decide) (by decide) (by decide) (by decide)
            clear eenv ecs
            rw [compL_1 (Str.ofString "line")]
            refine ev_assignName ?_
            refine e_setM hE' y_line rfl rv6 .head ?_
            refine ev_tests0 (if_t ?_)
            repeat tb_rel
            intro v7 u7 q7 q8
            refine v_itemNeg (xs := fr[i2].map AV.int) (b := .int (lastOf fr[i2])) q7 q8 (.tail _ m3) (by decide) (by decide) (by have := List.length_pos_iff.mpr (hfne i2 hfi); rw [List.length_map]; lia) (last_get _ (hfne i2 hfi)) ?_
            refine kc1 _ _ (exI2 [(C, _)] _ ⟨List.Perm.refl _, rfl, rfl, ?_⟩)
            rw [List.take_add_one, List.getElem?_eq_getElem hfi, Option.toList_some, List.map_append, List.map_append]
            rfl
          · rintro D ys l' ⟨hl, rfl⟩ v6 u6 q6 q7
            subst hl hBv
            have e : fr.take (fas.map AV.ref).length = fr := by rw [List.length_map, hR2.len, List.take_length]
            rw [e]
            refine v_cat (xs := [.int entry]) (ys := (fr.map lastOf).map AV.int) q6 q7 (.tail _ (.head _)) (.head _) (by simp; lia) fun nn => ?_
            refine ⟨nn, entry :: fr.map lastOf, rfl, .head _, by simp, ?_⟩
            rw [← hbe]
            repeat tb_rel
            refine Ev.weak (l' := (f, .list (fas.map .ref)) :: (L, onF (some (.str t)) (some (.ref wl)) (some (.ref q)) kv (some (.ref sv)) (some (.str [sg])) (some (.int entry)) (some (.ref f)) ov lv pv chv) :: (q, .list (lst.map .int)) :: (cb, .cell (some (.int best))) :: G2) (.cons _ (.cons _ (.cons _ (.cons_cons _ (.cons_cons _ (.cons _ (List.Sublist.refl _))))))) ?_
            refine Ev.perm (List.Perm.swap _ _ _) ?_
            refine s_assignComp (fas.map AV.ref) [(f, .list (fas.map AV.ref))] (fun i ys l' => ∃ G3 as', l' = (L, onF (some (.str t)) (some (.ref wl)) (some (.ref q)) kv (some (.ref sv)) (some (.str [sg])) (some (.int entry)) (some (.ref f)) ov lv pv chv) :: (f, .list (fas.map .ref)) :: (q, .list (lst.map .int)) :: (cb, .cell (some (.int best))) :: G3 ∧ G2.Sublist G3 ∧ ys = as'.map AV.ref ∧ Rows G3 as' ((fr.take i).map (relax best)))
              hE x_states (swaps_local hE.kind x_states.kind (by decide)) (closure_of [(Str.ofString "best", cb)] rfl (by simpa using x_best.cell)) rfl (by decide) (by rw [List.length_map, hR2.len]; lia) ?_ ?_ ?_ ?_
            · tb_rel
              intro v6 q6
              exact v_iterList ok' q6 (.tail _ (.head _)) fun I hI => exI3 I _ _ ⟨rfl, rfl, hI, G2, [], rfl, List.Sublist.refl _, rfl, by simpa using Rows.nil⟩
            · rintro i2 ys l' hxx1 p hp
              refine byG fun gG kgG => ?_
              obtain ⟨G3, as', rfl, hs3, rfl, hR3⟩ := hxx1
              refine kgG ?_
              clear kgG gG
              have : p = (f, .list (fas.map AV.ref)) := by simpa using hp
              subst this
              exact .tail _ (.head _)
            · rintro C cs env' i2 a2 ys l' ⟨n', ecs⟩ eenv hi2 hxx1 v6 rv6
              refine byG fun gG kgG => ?_
              obtain ⟨G3, as', hl, hs3, rfl, hR3⟩ := hxx1
              refine kgG ?_
              clear kgG gG
              refine compgen fun Qc1 Qc2 kc1 kc2 => ?_
              have ecs' : cs = [(Str.ofString "line", n')] := ecs
              subst ecs'
              have hfi : i2 < fr.length := by have := (List.getElem?_eq_some_iff.mp hi2).1; rw [List.length_map, hR2.len] at this; exact this
              refine byG fun gG kgG => ?_
              obtain ⟨ak, h1, h2, h3⟩ := hR2.get hfi
              refine kgG ?_
              clear kgG gG
              rw [h2] at hi2
              cases hi2
              have h3' : (ak, Ent.list (fr[i2].map AV.int)) ∈ l' := hl ▸ .tail _ (.tail _ (.tail _ (.tail _ (hs3.subset h3))))
              have mcb : (cb, Ent.cell (some (.int best))) ∈ l' := hl ▸ .tail _ (.tail _ (.tail _ (.head _)))
              have hle := hfle i2 hfi
              have hE' : EnvAt env' C := eenv ▸ comp_at rfl
              have hG' : EnvG env' := eenv ▸ comp_g hG
              have y_line : CVar env' (Str.ofString "line") n' := eenv ▸ comp_cell (by decide) rfl (by decide)
              have y_best : CVar env' (Str.ofString "best") cb := eenv ▸ comp_free hE x_best (by decide) rfl
              have g_len' : Glo (c.deeper env) env' (Str.ofString "len") (.val (.builtin "len")) := eenv ▸ comp_built ok' hG rfl (by decide) (by decide) rfl (by kernel_rfl) (by decide)
              have g_range' : Glo (c.deeper env) env' (Str.ofString "range") (.val (.type "range")) := eenv ▸ comp_built ok' hG rfl (by decide) (by decide) rfl (by kernel_rfl) (by decide)
              clear eenv ecs
              rw [compL_c]
              refine ev_assignName ?_
              refine e_cset hE' y_line rv6 (.tail .head) ?_
              refine ev_tests0 (if_t ?_)
              refine e_comp (rangeItems 0 1 fr[i2].length) [] (fun i3 ys3 l3 => l3 = (C, Ent.ns fun _ => none) :: (n', Ent.cell (some (.ref ak))) :: l' ∧ ys3 = (List.range i3).map fun k => AV.int (min (fr[i2].getD k 0) (best + 2 * ((k : Nat) : Int))))
                (closure_of [(Str.ofString "line", n'), (Str.ofString "best", cb)] rfl (fun p hp => by
                  rcases List.mem_cons.mp hp with rfl | hp
                  · exact y_line.cell
                  · rcases List.mem_cons.mp hp with rfl | hp
                    · exact y_best.cell
                    · cases hp)) rfl (by decide) (by simp [rangeItems]; lia) ?_ (fun _ _ _ _ p hp => nomatch hp) ?_ ?_
              · refine e_range1 g_range' (e_lenList g_len' ?_ (by with_unfolding_all rfl)) (by with_unfolding_all rfl)
                tb_rel
                refine ⟨ak, _, rfl, .tail _ (.tail _ h3'), by rw [List.length_map]; lia, _, rfl, ?_⟩
                rw [List.length_map]
                exact fun r v7 q7 => v_iterRange' ok' q7 (small_of (by lia) (by lia) (by lia) (by lia)) (by rw [size_of (by lia)]; lia) fun I hI => exI3 I _ _ ⟨rfl, rfl, hI, rfl, rfl⟩
              · rintro C2 cs2 env2 i3 a3 ys3 l3 ⟨n3, ecs2⟩ eenv2 hi3 ⟨rfl, rfl⟩ v7 rv7
                refine compgen fun Qc1 Qc2 kc1 kc2 => ?_
                have ecs2' : cs2 = [] := ecs2
                subst ecs2'
                obtain ⟨hlt3, rfl⟩ := rangeItems_get hi3
                have e0 : (0 : Int) + ((i3 : Nat) : Int) * 1 = (i3 : Int) := by lia
                rw [e0] at rv7
                have hE2 : EnvAt env2 C2 := eenv2 ▸ comp_at rfl
                have z_k : Var env2 [Str.ofString "k"] (Str.ofString "k") 0 := eenv2 ▸ comp_var (by decide) (by decide) (by decide) (by decide)
                have z_line : CVar env2 (Str.ofString "line") n' := eenv2 ▸ comp_free hE' y_line (by decide) rfl
                have z_best : CVar env2 (Str.ofString "best") cb := eenv2 ▸ comp_free hE' y_best (by decide) rfl
                have g_min2 : Glo (c.deeper env) env2 (Str.ofString "min") (.val (.builtin "min")) := eenv2 ▸ comp_built ok' hG' rfl (by decide) (by decide) rfl (by kernel_rfl) (by decide)
                clear eenv2 ecs2
                rw [compL_1 (Str.ofString "k")]
                refine ev_assignName ?_
                refine e_setM hE2 z_k rfl rv7 .head ?_
                refine ev_tests0 (if_t ?_)
                repeat tb_rel
                intro v8 u8 q8 q9
                refine v_item (xs := fr[i2].map AV.int) (b := .int (fr[i2].getD i3 0)) q8 q9 (.tail _ (.tail _ (.tail _ h3'))) (by first | exact Int.natCast_nonneg _ | lia) (by lia) (by rw [Int.toNat_natCast]; exact int_get _ _ hlt3) ?_
                repeat tb_rel
                intro v9 u9 q10 q11
                refine v_mul q10 q11 (IntMulOk.of_left (by decide)) ?_
                repeat tb_rel
                refine kc1 _ _ (exI2 [(C2, _)] _ ⟨List.Perm.refl _, rfl, rfl, ?_⟩)
                rw [List.range_succ, List.map_append]
                rfl
              · rintro D2 ys3 l3 ⟨rfl, rfl⟩
                subst hl
                refine kc1 _ _ (exI2 [(C, _), (n', _)] ((L, _) :: (f, _) :: (q, _) :: (cb, _) :: (D2, _) :: G3) ⟨List.perm_middle (l₁ := [(C, _), (n', _), (L, _), (f, _), (q, _), (cb, _)]), rfl, _, as' ++ [D2], rfl, hs3.trans (List.sublist_cons_self _ _), by simp, ?_⟩)
                rw [List.take_add_one, List.getElem?_eq_getElem hfi]
                simp only [Option.toList_some, List.map_append, List.map_cons, List.map_nil]
                refine (hR3.mono fun p hp => .tail _ hp).snoc ?_
                have e : (relax best fr[i2]).map AV.int = (List.range (rangeItems 0 1 fr[i2].length).length).map fun k => AV.int (min (fr[i2].getD k 0) (best + 2 * ((k : Nat) : Int))) := by
                  simp [relax, rangeItems]
                rw [e]
                exact .head _
            · rintro D2 ys l' hxx1
              refine byG fun gG kgG => ?_
              obtain ⟨G3, as', rfl, hs3, rfl, hR3⟩ := hxx1
              refine kgG ?_
              clear kgG gG
              refine ⟨_, _, rfl, rfl, ?_⟩
              have e : fr.take (fas.map AV.ref).length = fr := by rw [List.length_map, hR2.len, List.take_length]
              rw [e] at hR3
              refine Ev.weak (l' := (L, onF (some (.str t)) (some (.ref wl)) (some (.ref q)) kv (some (.ref D2)) (some (.str [sg])) (some (.int entry)) (some (.ref f)) ov lv pv chv) :: (D2, .list (as'.map .ref)) :: (q, .list (lst.map .int)) :: (cb, .cell (some (.int best))) :: G3) (.cons_cons _ (.cons_cons _ (.cons _ (List.Sublist.refl _)))) ?_
              repeat tb_rel
              refine s_append ?_ hI (by with_unfolding_all rfl) (by with_unfolding_all rfl) (by with_unfolding_all rfl) (by with_unfolding_all rfl) (by with_unfolding_all rfl)
              tb_rel
              refine ⟨q, _, rfl, .tail _ (.tail _ (.head _)), ?_⟩
              tb_rel
              refine ⟨_, _, by rw [List.length_map, hln]; lia, .tail (.tail .head), ?_⟩
              repeat tb_rel
              refine kQ1 _ _ ?_
              dsimp only
              rw [hst]
              refine (exI12 G3 as' D2 kv (some (.str [sg])) (some (.int entry)) (some (.ref f)) ov lv pv chv (some (.int best)) ⟨?_, hs.trans (hs2.trans hs3), hR3⟩)
              rw [List.map_append]
              rfl
      · rintro l' hxx1
        refine byG fun gG kgG => ?_
        refine exE12 hxx1 fun G as sv va vb vd ve vf vg vh vi bo hzz1 => ?_
        clear hxx1
        obtain ⟨rfl, hs, hR⟩ := hzz1
        refine kgG ?_
        clear kgG gG
        have e : t.take (signs t).length = t := by simp [signs]
        rw [e]
        exact ⟨rfl, (exI12 _ sv _ va (some (.ref sv)) vb vd ve vf vg vh vi ⟨rfl, hs.trans (List.sublist_cons_self _ _)⟩)⟩
      · rintro f l' hxx1
        refine byG fun gG kgG => ?_
        obtain ⟨rfl, hyy1⟩ := hxx1
        refine exE12 hyy1 fun G sv svs va vb vd ve vf vg vh vi vj hzz1 => ?_
        clear hyy1
        obtain ⟨rfl, hs⟩ := hzz1
        refine kgG ?_
        clear kgG gG
        repeat tb_rel
        exact fun v rv => ⟨_, (q, _) :: l, rv, ((hs.cons_cons _).trans (List.sublist_cons_self _ _)).trans (List.sublist_cons_self _ _), h q⟩
end
section
/-! # plain: the cheapest ways through a text (no program in sight) -/
noncomputable def seg (T : List Nat) (i j : Nat) : List Nat := (T.drop i).take (j - i)
/-- a way up to a place: its price, the words that it is made of (those made of nothing are not told) -/
inductive Path (T : List Nat) (W : List (List Nat)) : Nat → Nat → List (List Nat) → Prop where
  | zero : Path T W 0 0 []
  | word {i j c : Nat} {r : List (List Nat)} {w : List Nat} : Path T W i c r → i < j → j ≤ T.length → w ∈ W → Path T W j (c + D (seg T i j) w) (r ++ [w])
  | none {i j c : Nat} {r : List (List Nat)} : Path T W i c r → i < j → j ≤ T.length → Path T W j (c + D (seg T i j) []) r
noncomputable def Best (T : List Nat) (W : List (List Nat)) (i d : Nat) : Prop := (∃ r, Path T W i d r) ∧ ∀ c r, Path T W i c r → d ≤ c
section
variable {T : List Nat} {W : List (List Nat)}
theorem Path.le {j c : Nat} {r : List (List Nat)} (h : Path T W j c r) : j ≤ T.length := by
  cases h with
  | zero => exact Nat.zero_le _
  | word _ _ h _ => exact h
  | none _ _ h => exact h
theorem Path.mem {j c : Nat} {r : List (List Nat)} (h : Path T W j c r) : ∀ w ∈ r, w ∈ W := by
  induction h with
  | zero => intro w hw; cases hw
  | word _ _ _ hw ih =>
    intro w' hw'
    rcases List.mem_append.mp hw' with h1 | h1
    · exact ih w' h1
    · simp at h1; subst h1; exact hw
  | none _ _ _ ih => exact ih
theorem Best.unique {i d d' : Nat} (h : Best T W i d) (h' : Best T W i d') : d = d' := by
  obtain ⟨⟨r, hr⟩, hm⟩ := h
  obtain ⟨⟨r', hr'⟩, hm'⟩ := h'
  exact Nat.le_antisymm (hm _ _ hr') (hm' _ _ hr)
theorem Best.zero : Best T W 0 0 := ⟨⟨_, .zero⟩, fun _ _ _ => Nat.zero_le _⟩
theorem take_seg (T : List Nat) {i j : Nat} (h : i ≤ j) : T.take j = T.take i ++ seg T i j := by
  unfold seg
  have : j = i + (j - i) := by first | exact (Nat.add_sub_cancel' (by assumption)).symm | lia
  rw [this, List.take_add]
  congr 2
  lia
/-- a way is an alignment of the text with its words -/
theorem Path.al {j c : Nat} {r : List (List Nat)} (h : Path T W j c r) : D (T.take j) r.flatten ≤ c := by
  induction h with
  | zero => rw [List.take_zero]; exact Nat.le_of_eq (D_self [])
  | @word i j c r w _ hij hj _ ih =>
    rw [take_seg T (Nat.le_of_lt hij), List.flatten_append]
    have h1 := (Al.D (T.take i) r.flatten).append (Al.D (seg T i j) w)
    have := D_le h1
    simp only [List.flatten_cons, List.flatten_nil, List.append_nil]
    lia
  | @none i j c r _ hij hj ih =>
    rw [take_seg T (Nat.le_of_lt hij)]
    have h1 := (Al.D (T.take i) r.flatten).append (Al.D (seg T i j) [])
    have := D_le h1
    rw [List.append_nil] at this
    lia
theorem seg_len {i j : Nat} (h : j ≤ T.length) : (seg T i j).length = j - i := by unfold seg; rw [List.length_take, List.length_drop]; exact Nat.min_eq_left (Nat.sub_le_sub_right h i)
theorem seg_self (i : Nat) : seg T i i = [] := by simp [seg]
theorem seg_split {i j : Nat} {a b : List Nat} (h : seg T i j = a ++ b) (hij : i ≤ j) (hj : j ≤ T.length) : ∃ m, i ≤ m ∧ m ≤ j ∧ seg T i m = a ∧ seg T m j = b := by
  have hl := congrArg List.length h
  rw [seg_len hj, List.length_append] at hl
  refine ⟨i + a.length, by lia, by lia, ?_, ?_⟩
  · have h1 := congrArg (List.take a.length) h
    rw [List.take_left' rfl] at h1
    refine Eq.trans ?_ h1
    unfold seg
    rw [List.take_take, show min a.length (j - i) = i + a.length - i by rw [hl, Nat.add_sub_cancel_left, Nat.min_eq_left (Nat.le_add_right _ _)]]
  · have h1 := congrArg (List.drop a.length) h
    rw [List.drop_left' rfl] at h1
    refine Eq.trans ?_ h1
    unfold seg
    rw [List.drop_take, List.drop_drop, show j - i - a.length = j - (i + a.length) by lia]
/-- no row of the words is nearer than some way -/
theorem Path.nearest (r : List (List Nat)) (hr : ∀ w ∈ r, w ∈ W) : ∀ (i j c : Nat) (r₀ : List (List Nat)), Path T W i c r₀ → i ≤ j → j ≤ T.length → ∃ c' r', Path T W j c' r' ∧ c' ≤ c + D (seg T i j) r.flatten := by
  induction r with
  | nil =>
    intro i j c r₀ hp hij hj
    by_cases h : i = j
    · subst h; exact ⟨c, r₀, hp, Nat.le_add_right _ _⟩
    · exact ⟨_, _, .none hp (by lia) hj, Nat.le_refl _⟩
  | cons w r ih =>
    intro i j c r₀ hp hij hj
    rw [List.flatten_cons]
    have hA := Al.D (seg T i j) (w ++ r.flatten)
    obtain ⟨a₁, a₂, n₁, n₂, e, h1, h2, hn⟩ := hA.split
    obtain ⟨m, hm1, hm2, e1, e2⟩ := seg_split e hij hj
    have d1 := D_le h1
    have d2 := D_le h2
    rw [← e1] at d1
    rw [← e2] at d2
    by_cases h : i = m
    · subst h
      obtain ⟨c', r', hp', hc⟩ := ih (fun w hw => hr w (.tail _ hw)) i j c r₀ hp hij hj
      exact ⟨c', r', hp', by lia⟩
    · obtain ⟨c', r', hp', hc⟩ := ih (fun w hw => hr w (.tail _ hw)) m j _ _ (Path.word (w := w) hp (by lia) (by lia) (hr w (.head _))) hm2 hj
      exact ⟨c', r', hp', by lia⟩
/-- the price of a cheapest way through the whole text is its words' distance -/
theorem Best.dist {c : Nat} {r : List (List Nat)} (h : Best T W T.length c) (hp : Path T W T.length c r) : D T r.flatten = c := by
  have h1 := hp.al
  rw [List.take_length] at h1
  obtain ⟨c', r', hp', hc⟩ := Path.nearest r hp.mem 0 T.length 0 [] .zero (Nat.zero_le _) (Nat.le_refl _)
  have h2 := h.2 _ _ hp'
  have e : seg T 0 T.length = T := by simp [seg]
  rw [e] at hc
  lia
end
end
section
set_option linter.unusedVariables false
/-! # plain: the one pass tells the cheapest prices -/
section
variable {T : List Nat} {W : List (List Nat)}
noncomputable def MinV (T : List Nat) (W : List (List Nat)) (i n : Nat) (w : List Nat) (v : Int) : Prop :=
  (∃ i' c, i' ≤ n ∧ Best T W i' c ∧ v = ((c + D (seg T i' i) w : Nat) : Int)) ∧ ∀ i' c, i' ≤ n → Best T W i' c → v ≤ ((c + D (seg T i' i) w : Nat) : Int)
theorem seg_snoc {i j : Nat} {s : Nat} (hij : i ≤ j) (hs : T[j]? = some s) : seg T i (j + 1) = seg T i j ++ [s] := by
  unfold seg
  rw [show j + 1 - i = (j - i) + 1 from Nat.succ_sub hij, List.take_add_one]
  congr 1
  rw [List.getElem?_drop, show i + (j - i) = j from Nat.add_sub_cancel' hij, hs]
  rfl
theorem take_snoc' {w : List Nat} {p : Nat} (h : p < w.length) : w.take (p + 1) = w.take p ++ [w.getD p 0] := by
  rw [List.take_add_one, List.getElem?_eq_getElem h]; simp [h]
theorem sc_change (s x : Nat) : ((sc s x : Nat) : Int) = if x = s then 0 else 2 := by
  unfold sc
  by_cases h : s = x
  · rw [if_pos h, if_pos h.symm]; rfl
  · rw [if_neg h, if_neg (fun e => h e.symm)]; rfl
/-- the price of a stretch of single deletions -/
theorem Best.far {i j c d : Nat} (hi : Best T W i c) (hj : Best T W j d) (hij : i ≤ j) (hl : j ≤ T.length) : d ≤ c + 2 * (j - i) := by
  by_cases h : i = j
  · subst h; have := hi.unique hj; lia
  · obtain ⟨r, hp⟩ := hi.1
    have := hj.2 _ _ (Path.none hp (by lia) hl)
    rw [D_nil', seg_len hl] at this
    exact this
theorem far2 {i i' c d : Nat} (h : i' ≤ i) (k : d ≤ c + 2 * (i - i')) : (d : Int) + 2 ≤ ((c + 2 * (i + 1 - i') : Nat) : Int) := by lia
theorem line_min {i : Nat} {s : Nat} {d : Nat} {w : List Nat} {old : List Int} (hs : T[i]? = some s) (hd : Best T W i d) (hold : ∀ p, p ≤ w.length → MinV T W i i (w.take p) (old.getD p 0)) :
    ∀ p, p ≤ w.length → MinV T W (i + 1) i (w.take p) (stepLine old w s ((d : Int) + 2) p) := by
  have hi : i < T.length := (List.getElem?_eq_some_iff.mp hs).1
  intro p
  induction p with
  | zero =>
    intro _
    have e : ∀ i', i' ≤ i → D (seg T i' (i + 1)) (w.take 0) = 2 * (i + 1 - i') := fun i' h => by rw [List.take_zero, D_nil', seg_len (by lia)]
    refine ⟨⟨i, d, Nat.le_refl _, hd, ?_⟩, fun i' c h hb => ?_⟩
    · rw [e i (Nat.le_refl _)]; show (d : Int) + 2 = _; first | (rw [Nat.add_sub_cancel_left]; rfl) | lia
    · rw [e i' h]
      have := hb.far hd h (Nat.le_of_lt hi)
      show (d : Int) + 2 ≤ _; exact far2 h this
  | succ p ih =>
    intro hp
    have hp' : p < w.length := by lia
    have h1 := hold p (by lia)
    have h2 := hold (p + 1) hp
    have h3 := ih (by lia)
    have hD : ∀ i', i' ≤ i → D (seg T i' (i + 1)) (w.take (p + 1)) = min (min (D (seg T i' i) (w.take (p + 1)) + 2) (D (seg T i' (i + 1)) (w.take p) + 2)) (D (seg T i' i) (w.take p) + sc s (w.getD p 0)) := fun i' h => by
      rw [seg_snoc h hs, take_snoc' hp', D_snoc]
    have hc := sc_change s (w.getD p 0)
    have low : ∀ i' c, i' ≤ i → Best T W i' c → stepLine old w s ((d : Int) + 2) (p + 1) ≤ ((c + D (seg T i' (i + 1)) (w.take (p + 1)) : Nat) : Int) := by
      intro i' c h hb
      have l1 := h1.2 i' c h hb
      have l2 := h2.2 i' c h hb
      have l3 := h3.2 i' c h hb
      rw [hD i' h]
      show min (min (old.getD p 0 + (if w.getD p 0 = s then 0 else 2)) (old.getD (p + 1) 0 + 2)) (stepLine old w s ((d : Int) + 2) p + 2) ≤ _
      rw [← hc]
      exact low_arith l1 l2 l3
    refine ⟨?_, low⟩
    have hcase : stepLine old w s ((d : Int) + 2) (p + 1) = old.getD p 0 + sc s (w.getD p 0) ∨ stepLine old w s ((d : Int) + 2) (p + 1) = old.getD (p + 1) 0 + 2 ∨ stepLine old w s ((d : Int) + 2) (p + 1) = stepLine old w s ((d : Int) + 2) p + 2 := by
      show min (min (old.getD p 0 + (if w.getD p 0 = s then 0 else 2)) (old.getD (p + 1) 0 + 2)) (stepLine old w s ((d : Int) + 2) p + 2) = _ ∨ min (min (old.getD p 0 + (if w.getD p 0 = s then 0 else 2)) (old.getD (p + 1) 0 + 2)) (stepLine old w s ((d : Int) + 2) p + 2) = _ ∨ min (min (old.getD p 0 + (if w.getD p 0 = s then 0 else 2)) (old.getD (p + 1) 0 + 2)) (stepLine old w s ((d : Int) + 2) p + 2) = _
      rw [← hc]
      exact min3_cases _ _ _
    rcases hcase with e | e | e
    · refine byG fun gG kgG => ?_
      obtain ⟨i', c, h, hb, ev⟩ := h1.1
      refine kgG ?_
      clear kgG gG
      refine ⟨i', c, h, hb, Int.le_antisymm (low i' c h hb) ?_⟩
      rw [e, ev, hD i' h]; exact up1
    · refine byG fun gG kgG => ?_
      obtain ⟨i', c, h, hb, ev⟩ := h2.1
      refine kgG ?_
      clear kgG gG
      refine ⟨i', c, h, hb, Int.le_antisymm (low i' c h hb) ?_⟩
      rw [e, ev, hD i' h]; exact up2
    · refine byG fun gG kgG => ?_
      obtain ⟨i', c, h, hb, ev⟩ := h3.1
      refine kgG ?_
      clear kgG gG
      refine ⟨i', c, h, hb, Int.le_antisymm (low i' c h hb) ?_⟩
      rw [e, ev, hD i' h]; exact up3
theorem lmin_spec {ns : List Int} (hne : ns ≠ []) : lmin ns ∈ ns ∧ ∀ a ∈ ns, lmin ns ≤ a := by
  induction ns with
  | nil => exact absurd rfl hne
  | cons a r ih =>
    cases r with
    | nil => exact ⟨by simp [lmin], fun b hb => by simp at hb; simp [lmin, hb]⟩
    | cons b r =>
      obtain ⟨i1, i2⟩ := ih (by simp)
      have e : lmin (a :: b :: r) = min a (lmin (b :: r)) := rfl
      rw [e]
      refine ⟨?_, fun c hc => ?_⟩
      · rcases Int.le_total a (lmin (b :: r)) with h | h
        · rw [Int.min_eq_left h]; exact .head _
        · rw [Int.min_eq_right h]; exact .tail _ i1
      · rcases List.mem_cons.mp hc with rfl | hc
        · first | exact Int.min_le_left _ _ | lia
        · have := i2 c hc; first | exact Int.le_trans (Int.min_le_right _ _) this | lia
structure PassOk (T : List Nat) (W : List (List Nat)) (i : Nat) (st : List (List Int) × List Int) : Prop where
  len : st.2.length = i + 1
  shape : Shape W st.1
  least : ∀ k, k ≤ i → ∃ d, Best T W k d ∧ st.2[k]? = some (d : Int)
  rows : ∀ k, k < W.length → ∀ p, p ≤ (W.getD k []).length → MinV T W i i ((W.getD k []).take p) ((st.1.getD k []).getD p 0)
theorem PassOk.zero : PassOk T W 0 (W.map row0, [0]) := by
  refine ⟨rfl, shape_row0 W, fun k hk => ⟨0, by rw [show k = 0 by lia]; exact Best.zero, by rw [show k = 0 by lia]; rfl⟩, fun k hk p hp => ?_⟩
  rw [getD_map row0 W k [] [] hk]
  generalize W.getD k [] = w at *
  have e : (row0 w).getD p 0 = 2 * ((p : Nat) : Int) := by
    unfold row0
    rw [getD_map _ _ p 0 0 (by simp; lia)]
    simp [show p < w.length + 1 by lia]
  rw [e]
  have hD : ∀ i', i' ≤ 0 → D (seg T i' 0) (w.take p) = 2 * p := fun i' h => by
    rw [show i' = 0 by lia, seg_self, D_nil, List.length_take, Nat.min_eq_left hp]
  refine ⟨⟨0, 0, Nat.le_refl _, Best.zero, by rw [hD 0 (Nat.le_refl _)]; lia⟩, fun i' c h hb => ?_⟩
  rw [hD i' h]; lia
theorem fresh_get (W : List (List Nat)) (rows : List (List Int)) (s : Nat) (e : Int) (k : Nat) (hk : k < W.length) : (freshOf W rows s e W.length).getD k [] = lineOf (rows.getD k []) (W.getD k []) s e ((W.getD k []).length + 1) := by
  unfold freshOf
  rw [getD_map _ _ k 0 [] (by simpa using hk)]
  simp [hk]
theorem line_get (old : List Int) (w : List Nat) (s : Nat) (e : Int) (n p : Nat) (h : p < n) : (lineOf old w s e n).getD p 0 = stepLine old w s e p := by
  unfold lineOf
  rw [getD_map _ _ p 0 0 (by simpa using h)]
  simp [h]
theorem lastOf_line (old : List Int) (w : List Nat) (s : Nat) (e : Int) (n : Nat) : lastOf (lineOf old w s e (n + 1)) = stepLine old w s e n := by
  rw [line_snoc]; simp [lastOf]
theorem lastOf_get {r : List Int} {i : Nat} {d : Int} (hl : r.length = i + 1) (h : r[i]? = some d) : lastOf r = d := by
  unfold lastOf
  rw [List.getLast?_eq_getElem?, hl, Nat.add_sub_cancel, h]; rfl
theorem PassOk.next {i s : Nat} {st : List (List Int) × List Int} (h : PassOk T W i st) (hs : T[i]? = some s) : PassOk T W (i + 1) (passStep W st s) := by
  have hi : i < T.length := (List.getElem?_eq_some_iff.mp hs).1
  obtain ⟨d, hd, hdl⟩ := h.least i (Nat.le_refl _)
  have hlast := lastOf_get h.len hdl
  have hline : ∀ k, k < W.length → ∀ p, p ≤ (W.getD k []).length → MinV T W (i + 1) i ((W.getD k []).take p) (stepLine (st.1.getD k []) (W.getD k []) s ((d : Int) + 2) p) := fun k hk => line_min hs hd (h.rows k hk)
  have hfl : (freshOf W st.1 s ((d : Int) + 2) W.length).length = W.length := by simp [freshOf]
  have hstep : passStep W st s = ((freshOf W st.1 s ((d : Int) + 2) W.length).map (relax (bestOf ((d : Int) + 2) (freshOf W st.1 s ((d : Int) + 2) W.length))), st.2 ++ [bestOf ((d : Int) + 2) (freshOf W st.1 s ((d : Int) + 2) W.length)]) := by
    unfold passStep; rw [hlast]
  -- the new best
  have hentry : ∀ i' c, i' ≤ i → Best T W i' c → ((d : Int) + 2) ≤ ((c + D (seg T i' (i + 1)) [] : Nat) : Int) := fun i' c h' hb => by
    have := hb.far hd h' (Nat.le_of_lt hi)
    rw [D_nil', seg_len (by lia)]; first | exact far2 (by assumption) (by assumption) | lia
  have hlastk : ∀ k, k < W.length → lastOf ((freshOf W st.1 s ((d : Int) + 2) W.length).getD k []) = stepLine (st.1.getD k []) (W.getD k []) s ((d : Int) + 2) (W.getD k []).length := fun k hk => by rw [fresh_get W _ _ _ k hk, lastOf_line]
  have hbest : ∃ b : Nat, Best T W (i + 1) b ∧ bestOf ((d : Int) + 2) (freshOf W st.1 s ((d : Int) + 2) W.length) = (b : Int) := by
    obtain ⟨m1, m2⟩ := lmin_spec (ns := ((d : Int) + 2) :: (freshOf W st.1 s ((d : Int) + 2) W.length).map lastOf) (by simp)
    have hbe : bestOf ((d : Int) + 2) (freshOf W st.1 s ((d : Int) + 2) W.length) = lmin (((d : Int) + 2) :: (freshOf W st.1 s ((d : Int) + 2) W.length).map lastOf) := rfl
    rw [hbe]
    generalize hM : lmin (((d : Int) + 2) :: (freshOf W st.1 s ((d : Int) + 2) W.length).map lastOf) = M at *
    have low : ∀ c r, Path T W (i + 1) c r → M ≤ (c : Int) := by
      intro c r hp
      generalize hj : i + 1 = j at hp
      cases hp with
      | zero => lia
      | @word i' _ c' r' w hp' hij hjl hw =>
        subst hj
        have hbi : ∃ b, Best T W i' b := let ⟨b, hb, _⟩ := h.least i' (by lia); ⟨b, hb⟩
        obtain ⟨b, hb⟩ := hbi
        have hcb := hb.2 _ _ hp'
        obtain ⟨k, hk, rfl⟩ := List.mem_iff_getElem.mp hw
        have hwk : W.getD k [] = W[k] := by simp [hk]
        have l1 := (hline k hk _ (Nat.le_refl _)).2 i' b (by lia) hb
        rw [List.take_length, hwk] at l1
        have l2 := m2 (lastOf ((freshOf W st.1 s ((d : Int) + 2) W.length).getD k [])) (.tail _ (by
          have : (freshOf W st.1 s ((d : Int) + 2) W.length).getD k [] = (freshOf W st.1 s ((d : Int) + 2) W.length)[k]'(by lia) := by simp [hfl, hk]
          rw [this]; exact List.mem_map_of_mem (List.getElem_mem _)))
        rw [hlastk k hk, hwk] at l2
        lia
      | @none i' _ c' r' hp' hij hjl =>
        subst hj
        obtain ⟨b, hb, _⟩ := h.least i' (by lia)
        have hcb := hb.2 _ _ hp'
        have l1 := hentry i' b (by lia) hb
        have l2 := m2 _ (.head _)
        lia
    rcases List.mem_cons.mp m1 with e | e
    · obtain ⟨r, hp⟩ := hd.1
      have hp' := Path.none hp (Nat.lt_succ_self i) hi
      have e2 : D (seg T i (i + 1)) [] = 2 := by rw [D_nil', seg_len (by lia)]; lia
      rw [e2] at hp'
      exact ⟨d + 2, ⟨⟨_, hp'⟩, fun c r hp'' => by have := low c r hp''; lia⟩, by rw [e]; lia⟩
    · obtain ⟨row, hrow, er⟩ := List.mem_map.mp e
      obtain ⟨k, hk, rfl⟩ := List.mem_iff_getElem.mp hrow
      have hk' : k < W.length := by lia
      have e3 : (freshOf W st.1 s ((d : Int) + 2) W.length)[k] = (freshOf W st.1 s ((d : Int) + 2) W.length).getD k [] := by simp [hk]
      have hwk : W.getD k [] = W[k] := by simp [hk']
      rw [e3, hlastk k hk'] at er
      refine byG fun gG kgG => ?_
      obtain ⟨i', b, hle, hb, ev⟩ := (hline k hk' _ (Nat.le_refl _)).1
      refine kgG ?_
      clear kgG gG
      rw [List.take_length] at ev
      obtain ⟨r, hp⟩ := hb.1
      have hp' := Path.word (w := W[k]) hp (show i' < i + 1 by lia) hi (List.getElem_mem hk')
      rw [hwk] at ev
      rw [hwk] at er
      exact ⟨_, ⟨⟨_, hp'⟩, fun c r hp'' => by have := low c r hp''; lia⟩, by lia⟩
  obtain ⟨b, hb, hbe⟩ := hbest
  rw [hstep, hbe]
  refine ⟨by simp [h.len], shape_fresh W _ _ _ _, fun k hk => ?_, fun k hk p hp => ?_⟩
  · by_cases hki : k ≤ i
    · obtain ⟨d', hd', e⟩ := h.least k hki
      exact ⟨d', hd', by show (st.2 ++ [(b : Int)])[k]? = _; rw [List.getElem?_append_left (by rw [h.len]; lia)]; exact e⟩
    · have : k = i + 1 := by lia
      subst this
      exact ⟨b, hb, by show (st.2 ++ [(b : Int)])[i + 1]? = _; rw [List.getElem?_append_right (by rw [h.len]; exact Nat.le_refl _), h.len]; simp⟩
  · show MinV T W (i + 1) (i + 1) _ ((((freshOf W st.1 s ((d : Int) + 2) W.length).map (relax (b : Int))).getD k []).getD p 0)
    rw [getD_map _ _ k [] [] (by rw [hfl]; exact hk), fresh_get W _ _ _ k hk]
    have hL := hline k hk p hp
    generalize W.getD k [] = w at *
    have e : (relax (b : Int) (lineOf (st.1.getD k []) w s ((d : Int) + 2) (w.length + 1))).getD p 0 = min (stepLine (st.1.getD k []) w s ((d : Int) + 2) p) ((b : Int) + 2 * (p : Nat)) := by
      unfold relax
      rw [getD_map _ _ p 0 0 (by simp [lineOf]; lia)]
      rw [show (List.range (lineOf (st.1.getD k []) w s ((d : Int) + 2) (w.length + 1)).length).getD p 0 = p by simp [lineOf, show p < w.length + 1 by lia]]
      rw [line_get _ _ _ _ _ _ (by lia)]
    rw [e]
    have hDn : D (seg T (i + 1) (i + 1)) (w.take p) = 2 * p := by rw [seg_self, D_nil, List.length_take, Nat.min_eq_left hp]
    refine ⟨?_, fun i' c hle hbc => ?_⟩
    · rcases Int.le_total (stepLine (st.1.getD k []) w s ((d : Int) + 2) p) ((b : Int) + 2 * (p : Nat)) with q | q
      · rw [Int.min_eq_left q]
        refine byG fun gG kgG => ?_
        obtain ⟨i', c, hle, hbc, ev⟩ := hL.1
        refine kgG ?_
        clear kgG gG
        exact ⟨i', c, by lia, hbc, ev⟩
      · rw [Int.min_eq_right q]
        exact ⟨i + 1, b, Nat.le_refl _, hb, by rw [hDn]; lia⟩
    · by_cases hii : i' ≤ i
      · have := hL.2 i' c hii hbc
        first | exact Int.le_trans (Int.min_le_left _ _) (by assumption) | lia
      · have : i' = i + 1 := by lia
        subst this
        have := hb.unique hbc
        rw [hDn]; first | exact Int.le_trans (Int.min_le_right _ _) (by lia) | lia
theorem pass_ok (T : List Nat) (W : List (List Nat)) : ∀ i, i ≤ T.length → PassOk T W i (pass W (T.take i)) := by
  intro i
  induction i with
  | zero => intro _; exact PassOk.zero
  | succ i ih =>
    intro h
    have hs : T[i]? = some T[i] := List.getElem?_eq_getElem (by lia)
    rw [List.take_add_one, hs]
    show PassOk T W (i + 1) (pass W (T.take i ++ [T[i]]))
    rw [pass_snoc]
    exact (ih (by lia)).next hs
theorem pass_least (T : List Nat) (W : List (List Nat)) : (pass W T).2.length = T.length + 1 ∧ ∀ k, k ≤ T.length → ∃ d, Best T W k d ∧ (pass W T).2[k]? = some (d : Int) := by
  have := pass_ok T W T.length (Nat.le_refl _)
  rw [List.take_length] at this
  exact ⟨this.len, this.least⟩
end
end
section
/-! # plain: the queue (Dijkstra) -/
structure Itm where
  price : Nat
  num : Nat
  pl : Nat
  row : List (List Nat)
noncomputable def Itm.key (q : Itm) : Nat × Nat := (q.price, q.num)
structure St where
  queue : List Itm
  taken : List (Nat × Nat)
  places : List Nat
  made : Nat
noncomputable def LexN (p q : Nat × Nat) : Prop := p.1 < q.1 ∨ (p.1 = q.1 ∧ p.2 < q.2)
structure Inv (T : List Nat) (W : List (List Nat)) (Need : Nat → Nat → List Nat → Prop) (S : St) : Prop where
  sorted : (S.taken ++ S.queue.map Itm.key).Pairwise LexN
  count : S.made = S.taken.length + S.queue.length
  nums : ∀ p ∈ S.taken ++ S.queue.map Itm.key, p.2 < S.made
  node : ∀ q ∈ S.queue, Path T W q.pl q.price q.row
  pnd : S.places.Nodup
  plt : ∀ i ∈ S.places, i < T.length
  base : 0 ∈ S.places ∨ ∃ q ∈ S.queue, q.pl = 0 ∧ q.price = 0
  edge : ∀ i ∈ S.places, ∀ d, Best T W i d → ∀ j, i < j → j ≤ T.length → ∀ w, (w = [] ∨ w ∈ W) → Need i j w → j ∈ S.places ∨ ∃ q ∈ S.queue, q.pl = j ∧ q.price ≤ d + D (seg T i j) w
section
variable {T : List Nat} {W : List (List Nat)} {Need Need' : Nat → Nat → List Nat → Prop} {S : St}
theorem Inv.start : Inv T W (fun _ _ _ => True) ⟨[⟨0, 0, 0, []⟩], [], [], 1⟩ := by
  refine ⟨by simp, rfl, ?_, ?_, by simp, ?_, .inr ⟨_, .head _, rfl, rfl⟩, ?_⟩
  · intro p hp; simp at hp; subst hp; decide
  · intro q hq; simp at hq; subst hq; exact .zero
  · intro i hi; cases hi
  · intro i hi; cases hi
/-- every way has its end among the places, or something no dearer in the queue -/
theorem Inv.cover (h : Inv T W (fun _ _ _ => True) S) (hB : ∀ i, i ≤ T.length → ∃ d, Best T W i d) {j c : Nat} {r : List (List Nat)} (hp : Path T W j c r) : j ∈ S.places ∨ ∃ q ∈ S.queue, q.price ≤ c := by
  have step : ∀ {i j c : Nat} {r : List (List Nat)} {w : List Nat}, Path T W i c r → (i ∈ S.places ∨ ∃ q ∈ S.queue, q.price ≤ c) → i < j → j ≤ T.length → (w = [] ∨ w ∈ W) → j ∈ S.places ∨ ∃ q ∈ S.queue, q.price ≤ c + D (seg T i j) w := by
    intro i j c r w hp ih hij hj hw
    rcases ih with hi | ⟨q, hq, hle⟩
    · obtain ⟨d, hd⟩ := hB i (by lia)
      rcases h.edge i hi d hd j hij hj w hw trivial with h1 | ⟨q, hq, _, hle⟩
      · exact .inl h1
      · exact .inr ⟨q, hq, by have := hd.2 _ _ hp; lia⟩
    · exact .inr ⟨q, hq, by lia⟩
  induction hp with
  | zero =>
    rcases h.base with h1 | ⟨q, hq, _, e⟩
    · exact .inl h1
    · exact .inr ⟨q, hq, Nat.le_of_eq e⟩
  | word hp hij hj hw ih => exact step hp ih hij hj (.inr hw)
  | none hp hij hj ih => exact step hp ih hij hj (.inl rfl)
theorem Inv.least {q : Itm} {rest : List Itm} (h : Inv T W Need S) (e : S.queue = q :: rest) : ∀ x ∈ S.queue, q.price ≤ x.price := by
  intro x hx
  have hs := (List.pairwise_append.mp h.sorted).2.1
  rw [e, List.map_cons, List.pairwise_cons] at hs
  rw [e] at hx
  rcases List.mem_cons.mp hx with rfl | hx
  · exact Nat.le_refl _
  · have := hs.1 _ (List.mem_map_of_mem hx)
    unfold LexN Itm.key at this
    simp only at this
    lia
theorem Inv.best {q : Itm} {rest : List Itm} (h : Inv T W (fun _ _ _ => True) S) (hB : ∀ i, i ≤ T.length → ∃ d, Best T W i d) (e : S.queue = q :: rest) (hq : q.pl ∉ S.places) : Best T W q.pl q.price := by
  refine ⟨⟨_, h.node q (by rw [e]; exact .head _)⟩, fun c r hp => ?_⟩
  rcases h.cover hB hp with h1 | ⟨x, hx, hle⟩
  · exact absurd h1 hq
  · have := h.least e x hx; lia
theorem Inv.ne (h : Inv T W (fun _ _ _ => True) S) (hB : ∀ i, i ≤ T.length → ∃ d, Best T W i d) : S.queue ≠ [] := by
  refine byG fun gG kgG => ?_
  obtain ⟨d, ⟨r, hp⟩, _⟩ := hB T.length (Nat.le_refl _)
  refine kgG ?_
  clear kgG gG
  rcases h.cover hB hp with h1 | ⟨q, hq, _⟩
  · exact absurd (h.plt _ h1) (Nat.lt_irrefl _)
  · intro e; rw [e] at hq; cases hq
theorem Inv.takenLe {q : Itm} {rest : List Itm} (h : Inv T W Need S) (e : S.queue = q :: rest) : ∀ t ∈ S.taken ++ [q.key], t.1 ≤ q.price := by
  intro t ht
  rcases List.mem_append.mp ht with ht | ht
  · have := (List.pairwise_append.mp h.sorted).2.2 t ht q.key (by rw [e]; exact .head _)
    unfold LexN Itm.key at this
    simp only at this
    lia
  · simp at ht; subst ht; exact Nat.le_refl _
/-- one is taken off -/
theorem Inv.pop {q : Itm} {rest : List Itm} {places : List Nat} (h : Inv T W (fun _ _ _ => True) S) (e : S.queue = q :: rest) (hp : ∀ i ∈ S.places, i ∈ places) (hq : q.pl ∈ places) (hsub : ∀ i ∈ places, i ∈ S.places ∨ i = q.pl) (hnd : places.Nodup) (hlt : ∀ i ∈ places, i < T.length) (hN : ∀ i j w, i ∈ places → Need' i j w → i ∈ S.places) :
    Inv T W Need' ⟨rest, S.taken ++ [q.key], places, S.made⟩ := by
  refine ⟨?_, ?_, ?_, fun x hx => h.node x (by rw [e]; exact .tail _ hx), hnd, hlt, ?_, ?_⟩
  · have := h.sorted
    rw [e, List.map_cons] at this
    simpa using this
  · have := h.count
    rw [e] at this
    simp at this ⊢; lia
  · have := h.nums
    rw [e, List.map_cons] at this
    simpa using this
  · rcases h.base with h1 | ⟨x, hx, h1, h2⟩
    · exact .inl (hp _ h1)
    · rw [e] at hx
      rcases List.mem_cons.mp hx with rfl | hx
      · exact .inl (by rw [← h1]; exact hq)
      · exact .inr ⟨x, hx, h1, h2⟩
  · intro i hi d hd j h1 h2 w hw hNd
    rcases h.edge i (hN i j w hi hNd) d hd j h1 h2 w hw trivial with h3 | ⟨x, hx, h3, h4⟩
    · exact .inl (hp _ h3)
    · rw [e] at hx
      rcases List.mem_cons.mp hx with rfl | hx
      · exact .inl (by rw [← h3]; exact hq)
      · exact .inr ⟨x, hx, h3, h4⟩
/-- one is put in -/
theorem Inv.push {x : Itm} {p : Nat} (h : Inv T W Need S) (hx : Path T W x.pl x.price x.row) (hnum : x.num = S.made) (ht : ∀ t ∈ S.taken, t.1 ≤ x.price) (hp : p ≤ S.queue.length)
    (h1 : ∀ i q, i < p → S.queue[i]? = some q → q.price ≤ x.price) (h2 : ∀ i q, p ≤ i → S.queue[i]? = some q → x.price < q.price)
    (hN : ∀ i j w, Need' i j w → Need i j w ∨ (j = x.pl ∧ ∀ d, Best T W i d → x.price ≤ d + D (seg T i j) w)) :
    Inv T W Need' ⟨S.queue.take p ++ x :: S.queue.drop p, S.taken, S.places, S.made + 1⟩ := by
  have hmem : ∀ y, y ∈ S.queue.take p ++ x :: S.queue.drop p ↔ y = x ∨ y ∈ S.queue := by
    intro y
    rw [List.mem_append, List.mem_cons]
    constructor
    · rintro (h | h | h)
      · exact .inr (List.mem_of_mem_take h)
      · exact .inl h
      · exact .inr (List.mem_of_mem_drop h)
    · rintro (h | h)
      · exact .inr (.inl h)
      · rw [← List.take_append_drop p S.queue] at h
        rcases List.mem_append.mp h with h | h
        · exact .inl h
        · exact .inr (.inr h)
  have hnumlt : ∀ q ∈ S.queue, q.num < S.made := fun q hq => h.nums q.key (List.mem_append_right _ (List.mem_map_of_mem hq))
  have htnum : ∀ t ∈ S.taken, t.2 < S.made := fun t ht => h.nums t (List.mem_append_left _ ht)
  have htake : ∀ q ∈ S.queue.take p, q.price ≤ x.price := fun q hq => by
    obtain ⟨i, hi, e⟩ := List.mem_iff_getElem.mp hq
    have hi' : i < p := by rw [List.length_take] at hi; lia
    refine h1 i q hi' ?_
    rw [← e, List.getElem_take, List.getElem?_eq_getElem]
  have hdrop : ∀ q ∈ S.queue.drop p, x.price < q.price := fun q hq => by
    obtain ⟨i, hi, e⟩ := List.mem_iff_getElem.mp hq
    refine h2 (p + i) q (Nat.le_add_right _ _) ?_
    rw [← e, List.getElem_drop, List.getElem?_eq_getElem]
  refine ⟨?_, ?_, ?_, ?_, h.pnd, h.plt, ?_, ?_⟩
  · have hs := h.sorted
    rw [← List.take_append_drop p S.queue, List.map_append] at hs
    obtain ⟨s1, s2, s3⟩ := List.pairwise_append.mp hs
    obtain ⟨s4, s5, s6⟩ := List.pairwise_append.mp s2
    show (S.taken ++ (S.queue.take p ++ x :: S.queue.drop p).map Itm.key).Pairwise LexN
    rw [List.map_append, List.map_cons]
    refine List.pairwise_append.mpr ⟨s1, List.pairwise_append.mpr ⟨s4, List.pairwise_cons.mpr ⟨?_, s5⟩, ?_⟩, ?_⟩
    · intro k hk
      obtain ⟨q, hq, rfl⟩ := List.mem_map.mp hk
      exact .inl (hdrop q hq)
    · intro a ha b hb
      rcases List.mem_cons.mp hb with rfl | hb
      · obtain ⟨q, hq, rfl⟩ := List.mem_map.mp ha
        have := htake q hq
        have := hnumlt q (List.mem_of_mem_take hq)
        unfold LexN Itm.key; simp only; lia
      · exact s6 a ha b hb
    · intro t htm b hb
      rcases List.mem_append.mp hb with hb | hb
      · exact s3 t htm b (List.mem_append_left _ hb)
      · rcases List.mem_cons.mp hb with rfl | hb
        · have := ht t htm
          have := htnum t htm
          unfold LexN Itm.key; simp only; lia
        · exact s3 t htm b (List.mem_append_right _ hb)
  · have := h.count
    have e : (S.queue.take p ++ x :: S.queue.drop p).length = S.queue.length + 1 := by simp; first | (rw [Nat.min_eq_left (by assumption), ← Nat.add_assoc, Nat.add_sub_cancel' (by assumption)]) | lia
    show S.made + 1 = S.taken.length + _
    rw [e]; lia
  · intro k hk
    show k.2 < S.made + 1
    rcases List.mem_append.mp hk with hk | hk
    · have := htnum k hk; lia
    · obtain ⟨q, hq, rfl⟩ := List.mem_map.mp hk
      rcases (hmem q).mp hq with rfl | hq
      · show q.num < _; lia
      · have := hnumlt q hq
        show q.num < _; lia
  · intro q hq
    rcases (hmem q).mp hq with rfl | hq
    · exact hx
    · exact h.node q hq
  · rcases h.base with h3 | ⟨q, hq, h3⟩
    · exact .inl h3
    · exact .inr ⟨q, (hmem q).mpr (.inr hq), h3⟩
  · intro i hi d hd j h3 h4 w hw hNd
    rcases hN i j w hNd with h5 | ⟨h5, h6⟩
    · rcases h.edge i hi d hd j h3 h4 w hw h5 with h7 | ⟨q, hq, h7⟩
      · exact .inl h7
      · exact .inr ⟨q, (hmem q).mpr (.inr hq), h7⟩
    · exact .inr ⟨x, (hmem x).mpr (.inl rfl), h5.symm, h6 d hd⟩
/-- at the end -/
theorem Inv.fin {q : Itm} {rest : List Itm} (h : Inv T W (fun _ _ _ => True) S) (hB : ∀ i, i ≤ T.length → ∃ d, Best T W i d) (e : S.queue = q :: rest) : ∀ k d, k < T.length → Best T W k d → d < q.price → k ∈ S.places := by
  intro k d hk hd hlt
  obtain ⟨r, hp⟩ := hd.1
  rcases h.cover hB hp with h1 | ⟨x, hx, hle⟩
  · exact h1
  · have := h.least e x hx; lia
end
/-! counting -/
theorem sum_le_of_sub (f : Nat → Nat) : ∀ (l R : List Nat), l.Nodup → (∀ i ∈ l, i ∈ R) → (l.map f).sum ≤ (R.map f).sum
  | [], R, _, _ => by simp
  | a :: l, R, hnd, hs => by
    rw [List.nodup_cons] at hnd
    have hp := List.perm_cons_erase (hs a (.head _))
    have hs1 : (R.map f).sum = f a + ((R.erase a).map f).sum := by
      have := (hp.map f).sum_nat
      simpa using this
    have ih := sum_le_of_sub f l (R.erase a) hnd.2 fun i hi => (List.mem_erase_of_ne (fun e : i = a => hnd.1 (by rw [← e]; exact hi))).mpr (hs i (.tail _ hi))
    rw [List.map_cons, List.sum_cons, hs1]
    lia
theorem places_sum {n : Nat} {l : List Nat} (h : n = 3 ∨ n = 4) (hnd : l.Nodup) (hl : ∀ i ∈ l, i < n) : (l.map fun i => n - i).sum ≤ 10 := by
  have := sum_le_of_sub (fun i => n - i) l (List.range n) hnd fun i hi => List.mem_range.mpr (hl i hi)
  rcases h with rfl | rfl
  · exact Nat.le_trans this (by decide)
  · exact Nat.le_trans this (by decide)
theorem places_len {n a : Nat} {l : List Nat} (hnd : l.Nodup) (hl : ∀ i ∈ l, i < n) (ha : a ∉ l) (han : a < n) : l.length < n := by
  have := sum_le_of_sub (fun _ => 1) (a :: l) (List.range n) (List.nodup_cons.mpr ⟨ha, hnd⟩) fun i hi => by
    rcases List.mem_cons.mp hi with rfl | hi
    · exact List.mem_range.mpr han
    · exact List.mem_range.mpr (hl i hi)
  have e1 : ∀ l : List Nat, (l.map fun _ => 1).sum = l.length := fun l => by
    induction l with
    | nil => rfl
    | cons a r ih => rw [List.map_cons, List.sum_cons, ih, List.length_cons]; lia
  rw [e1, e1, List.length_cons, List.length_range] at this
  lia
end
section
set_option linter.unusedVariables false
set_option maxRecDepth 100000
set_option maxHeartbeats 4000000
/-! ## the table of tokens -/
noncomputable def TOK (w : List Nat) : Int := ((OPS.idxOf w + 7 : Nat) : Int)
theorem ett_get (p : Params) : ∀ w ∈ OPS, ∃ tk, nsIn (KF p) 33 ⟨w.toArray⟩ = some (some (.int (TOK w) tk)) := by
  intro w hw
  have key : ∀ ws : List (List Nat), (∀ w ∈ ws, ∃ tk, nsIn (KF p) 33 ⟨w.toArray⟩ = some (some (.int (TOK w) tk))) → w ∈ ws → ∃ tk, nsIn (KF p) 33 ⟨w.toArray⟩ = some (some (.int (TOK w) tk)) := fun ws h hm => h w hm
  have cons : ∀ (x : List Nat) (ws : List (List Nat)), (∃ tk, nsIn (KF p) 33 ⟨x.toArray⟩ = some (some (.int (TOK x) tk))) → (∀ w ∈ ws, ∃ tk, nsIn (KF p) 33 ⟨w.toArray⟩ = some (some (.int (TOK w) tk))) → ∀ w ∈ x :: ws, ∃ tk, nsIn (KF p) 33 ⟨w.toArray⟩ = some (some (.int (TOK w) tk)) := fun x ws h1 h2 w hw => by
    rcases List.mem_cons.mp hw with rfl | hw
    · exact h1
    · exact h2 w hw
  refine key OPS ?_ hw
  unfold OPS
  repeat' (refine cons _ _ ⟨_, rfl⟩ ?_)
  intro w hw; cases hw
section
variable {c : Cx} {env : Env} {l F : Ledger}
theorem v_ett {n : Nat} {value slice : Expr} {w : List Nat} {v u : Value} {P : AV → Ledger → Prop} (ok : Ok KF c n) (hw : w ∈ OPS) (r1 : Rep v (.ref 33)) (r2 : Rep u (.str w)) (h : P (.int (TOK w)) l)
    (hs : ∀ o i, subscripted slice false o i = operate [o, i] (getItem o i) := by intros; with_unfolding_all rfl) : EvV c l (subscriptTail value slice v u) P := fun s F O => by
  obtain ⟨_, rfl⟩ := r1
  obtain ⟨t, rfl⟩ := r2
  obtain ⟨tk, e⟩ := ett_get c.w.params w hw
  have X := ok.k.keeps O.keep
  have hl : ∃ es n, (KF c.w.params).lookup 33 = some ⟨.type "dict", none, .dict es n, #[]⟩ ∧ KeysLit c.w.params es.toList := by
    refine ⟨_, _, rfl, ?_⟩
    repeat (refine ⟨⟨_, _, rfl, rfl⟩, ?_⟩)
    exact trivial
  refine byG fun gG kgG => ?_
  obtain ⟨es, n', hl, hk⟩ := hl
  refine kgG ?_
  clear kgG gG
  have hm := mapOf_K (prog := c.prog) X hl hk
  refine tail_any hm.typeIs slot_dict_getitem.lookup (wpAny_getItem_of (strKind_is c.prog c.w _ t) hm (find_K hl e) ?_) (hs _ _)
  exact ⟨s.heap, s.toks + 1, l, rfl, O, _, ⟨tk, rfl⟩, h⟩
end
end
section
set_option linter.unusedVariables false
set_option maxRecDepth 100000
set_option maxHeartbeats 8000000
/-! ## the law's text, by parts -/
noncomputable def lamBodyOf : Stmt → List Stmt
  | .FunctionDef _ _ b _ _ _ _ _ _ _ => b
  | .While _ b _ _ => b
  | .For _ _ b _ _ => b
  | .If _ b _ _ => b
  | _ => []
noncomputable def lawB : List Stmt := lamBodyOf ((PySem.Challenge.pw_rl0094_01.main.body.getLast?).getD default)
noncomputable def whileS : Stmt := lawB.getD 11 default
noncomputable def freshIf : Stmt := (lamBodyOf whileS).getD 3 default
noncomputable def stopS : Stmt := (lamBodyOf freshIf).getD 2 default
noncomputable def wordS : Stmt := (lamBodyOf stopS).getD 1 default
noncomputable abbrev lawN : List Str := [Str.ofString "left", Str.ofString "words", Str.ofString "size", Str.ofString "text", Str.ofString "queue", Str.ofString "made", Str.ofString "taken", Str.ofString "number", Str.ofString "form", Str.ofString "place", Str.ofString "stop", Str.ofString "goal", Str.ofString "word", Str.ofString "told", Str.ofString "symbols", Str.ofString "order", Str.ofString "mended"]
noncomputable abbrev lawF (left words size text queue made taken number form place stop goal word told symbols order mended : Option AV) : Ent := .ns (frm lawN [left, words, size, text, queue, made, taken, number, form, place, stop, goal, word, told, symbols, order, mended])
inductive LawEnv (c : Cx) (env : Env) (L c_script c_sums c_signs c_least c_places c_price c_names : Addr) : Prop
  | mk (hE : EnvAt env L) (hG : EnvG env) (hI : interactive env = false) (hcode : env.code = .ref 86) (hqual : env.qual = "law.<locals>.") (x_left : Var env lawN (Str.ofString "left") 0) (x_words : Var env lawN (Str.ofString "words") 1) (x_size : Var env lawN (Str.ofString "size") 2) (x_text : Var env lawN (Str.ofString "text") 3) (x_queue : Var env lawN (Str.ofString "queue") 4) (x_made : Var env lawN (Str.ofString "made") 5) (x_taken : Var env lawN (Str.ofString "taken") 6) (x_number : Var env lawN (Str.ofString "number") 7) (x_form : Var env lawN (Str.ofString "form") 8) (x_place : Var env lawN (Str.ofString "place") 9) (x_stop : Var env lawN (Str.ofString "stop") 10) (x_goal : Var env lawN (Str.ofString "goal") 11) (x_word : Var env lawN (Str.ofString "word") 12) (x_told : Var env lawN (Str.ofString "told") 13) (x_symbols : Var env lawN (Str.ofString "symbols") 14) (x_order : Var env lawN (Str.ofString "order") 15) (x_mended : Var env lawN (Str.ofString "mended") 16) (y_script : CVar env (Str.ofString "script") c_script) (y_sums : CVar env (Str.ofString "sums") c_sums) (y_signs : CVar env (Str.ofString "signs") c_signs) (y_least : CVar env (Str.ofString "least") c_least) (y_places : CVar env (Str.ofString "places") c_places) (y_price : CVar env (Str.ofString "price") c_price) (y_names : CVar env (Str.ofString "names") c_names) (g_law_operators : Glo c env (Str.ofString "_law_operators") (.ref 77)) (g_law_one_pass : Glo c env (Str.ofString "_law_one_pass") (.ref 82)) (g_levenshtein_distance : Glo c env (Str.ofString "_levenshtein_distance") (.ref 70)) (g_ISNONTERMINAL : Glo c env (Str.ofString "ISNONTERMINAL") (.ref 49)) (g_ISEOF : Glo c env (Str.ofString "ISEOF") (.ref 56)) (g_insort_right : Glo c env (Str.ofString "insort_right") (.ref 23)) (g_EXACT_TOKEN_TYPES : Glo c env (Str.ofString "EXACT_TOKEN_TYPES") (.ref 33)) (g_NT_OFFSET : Glo c env (Str.ofString "NT_OFFSET") (.int 256)) (g_ENDMARKER : Glo c env (Str.ofString "ENDMARKER") (.int 0)) (g_enumerate : Glo c env (Str.ofString "enumerate") (.val (.type "enumerate"))) (g_len : Glo c env (Str.ofString "len") (.val (.builtin "len"))) (g_sum : Glo c env (Str.ofString "sum") (.val (.builtin "sum"))) (g_range : Glo c env (Str.ofString "range") (.val (.type "range"))) (g_sorted : Glo c env (Str.ofString "sorted") (.val (.builtin "sorted"))) : LawEnv c env L c_script c_sums c_signs c_least c_places c_price c_names
/-! ## the key -/
noncomputable def lamP : Arguments := { posonlyargs := [], args := [{ arg := "one", annotation := none, pos := ⟨180, 103, 180, 106⟩ }], vararg := none, kwonlyargs := [], kw_defaults := [], kwarg := none, defaults := [] }
noncomputable def lamB : Expr := .Subscript (.Name "one" ⟨180, 108, 180, 111⟩) (.Constant (.int 0) 0 ⟨180, 112, 180, 113⟩) ⟨180, 108, 180, 114⟩
noncomputable def lamS : Scope := { kind := .function, names := [(Str.ofString "one", .local)], isGenerator := false, isCoroutine := false, more := [] }
theorem lam_call {c : Cx} {n : Nat} {kf t c' : Addr} {ko oc : Obj} {qual : Str} {pm ctv : Value} {l : Ledger} {k : Int} {xs : List AV} (ok : Ok KF c (n + 1)) (hko : ko = kla_obj "<lambda>" qual lamP lamB lamS [] pm c' ctv) (hkf : (kf, Ent.obj (· = ko)) ∈ l) (hc' : (c', Ent.obj (· = oc)) ∈ l) (hco : CodeOf oc qual)
    (ht : (t, Ent.tup (.int k :: xs)) ∈ l) : KeyOf c l kf (.ref t) k := fun v r => by
  refine ev_defE (binds := [(Str.ofString "one", v)]) (m := frm [Str.ofString "one"] [some (.ref t)]) ok hkf (by rw [hko]) rfl hc' hco rfl rfl (show ∀ x ∈ lamS.names, x.2 ≠ .cell by decide) (locs rfl)
    (frm_binds (binds := [(Str.ofString "one", v)]) (as := [.ref t]) rfl (by decide) (.cons r .nil) 0) ?_
  intro L
  generalize henv : callEnv _ L kf = env
  have hE : EnvAt env L := ⟨by rw [← henv]; rfl, by rw [← henv]; rfl⟩
  have x_one : Var env [Str.ofString "one"] (Str.ofString "one") 0 := ⟨by rw [← henv]; rfl, by decide, by decide, by decide⟩
  clear henv
  unfold lamB
  repeat tb_rel
  intro v1 u1 q1 q2
  refine v_itemTup (xs := .int k :: xs) (b := .int k) q1 q2 (.tail _ ht) (by decide) (by decide) rfl ?_
  exact ⟨l, List.sublist_cons_self _ _, rfl, rfl⟩
/-! ## how the queue stands in the heap -/
noncomputable def goalOf (n j : Nat) : Int := if j < n then 256 + (j : Int) else 0
noncomputable def Itm.form (n : Nat) (q : Itm) : List Int := q.row.map TOK ++ [goalOf n q.pl]
structure QRep (G : Ledger) (n : Nat) (ts : List Addr) (qs : List Itm) : Prop where
  len : ts.length = qs.length
  at' : ∀ (k : Nat) (t : Addr) (q : Itm), ts[k]? = some t → qs[k]? = some q → ∃ f, (t, Ent.tup [.int q.price, .int q.num, .ref f]) ∈ G ∧ (f, Ent.list ((q.form n).map AV.int)) ∈ G
structure TRep (G : Ledger) (as : List Addr) (ps : List (Nat × Nat)) : Prop where
  len : as.length = ps.length
  at' : ∀ (k : Nat) (a : Addr) (p : Nat × Nat), as[k]? = some a → ps[k]? = some p → (a, Ent.tup [.int p.1, .int p.2]) ∈ G
section
variable {G G' : Ledger} {n : Nat} {ts : List Addr} {qs : List Itm}
theorem QRep.mono (h : QRep G n ts qs) (s : ∀ p ∈ G, p ∈ G') : QRep G' n ts qs := ⟨h.len, fun k t q h1 h2 => let ⟨f, a, b⟩ := h.at' k t q h1 h2; ⟨f, s _ a, s _ b⟩⟩
theorem TRep.mono {as : List Addr} {ps : List (Nat × Nat)} (h : TRep G as ps) (s : ∀ p ∈ G, p ∈ G') : TRep G' as ps := ⟨h.len, fun k a p h1 h2 => s _ (h.at' k a p h1 h2)⟩
theorem QRep.insert {t f : Addr} {q : Itm} {p : Nat} (h : QRep G n ts qs) (hp : p ≤ qs.length) (h1 : (t, Ent.tup [.int q.price, .int q.num, .ref f]) ∈ G) (h2 : (f, Ent.list ((q.form n).map AV.int)) ∈ G) : QRep G n (ts.take p ++ t :: ts.drop p) (qs.take p ++ q :: qs.drop p) := by
  have hl := h.len
  refine ⟨by simp [hl], fun k t' q' e1 e2 => ?_⟩
  have hlt : (ts.take p).length = p := by rw [List.length_take]; lia
  have hlq : (qs.take p).length = p := by rw [List.length_take]; lia
  rcases Nat.lt_trichotomy k p with hk | hk | hk
  · rw [List.getElem?_append_left (by lia), List.getElem?_take, if_pos hk] at e1 e2
    exact h.at' k t' q' e1 e2
  · subst hk
    rw [List.getElem?_append_right (by lia), hlt] at e1
    rw [List.getElem?_append_right (by lia), hlq] at e2
    simp at e1 e2
    subst e1 e2
    exact ⟨f, h1, h2⟩
  · rw [List.getElem?_append_right (by lia), hlt] at e1
    rw [List.getElem?_append_right (by lia), hlq] at e2
    obtain ⟨m, hm⟩ : ∃ m, k - p = m + 1 := ⟨k - p - 1, (Nat.sub_add_cancel (Nat.sub_pos_of_lt hk)).symm⟩
    rw [hm, List.getElem?_cons_succ, List.getElem?_drop] at e1 e2
    exact h.at' (p + m) t' q' e1 e2
theorem QRep.tail {t : Addr} {q : Itm} {ts : List Addr} {qs : List Itm} (h : QRep G n (t :: ts) (q :: qs)) : QRep G n ts qs :=
  ⟨by have := h.len; simpa using this, fun k t' q' e1 e2 => h.at' (k + 1) t' q' (by simpa using e1) (by simpa using e2)⟩
theorem TRep.snoc {as : List Addr} {ps : List (Nat × Nat)} {a : Addr} {p : Nat × Nat} (h : TRep G as ps) (hm : (a, Ent.tup [.int p.1, .int p.2]) ∈ G) : TRep G (as ++ [a]) (ps ++ [p]) := by
  refine ⟨by simp [h.len], fun k b r h1 h2 => ?_⟩
  by_cases hk : k < as.length
  · rw [List.getElem?_append_left hk] at h1
    rw [List.getElem?_append_left (by rw [← h.len]; exact hk)] at h2
    exact h.at' k b r h1 h2
  · rw [List.getElem?_append_right (by lia)] at h1
    rw [List.getElem?_append_right (by rw [← h.len]; lia)] at h2
    rw [h.len] at h1
    cases hz : k - ps.length with
    | zero => rw [hz] at h1 h2; simp at h1 h2; subst h1 h2; exact hm
    | succ j => rw [hz] at h1; simp at h1
end
theorem D_max (a b : List Nat) : D a b ≤ 2 * max a.length b.length := by
  have key : ∀ (k : Nat) (a b : List Nat), a.length + b.length ≤ k → D a b ≤ 2 * max a.length b.length := by
    intro k
    induction k with
    | zero => intro a b h; have : a = [] := List.length_eq_zero_iff.mp (by lia); subst this; rw [D_nil]; simp
    | succ k ih =>
      intro a b h
      cases a with
      | nil => rw [D_nil]; simp
      | cons x a =>
        cases b with
        | nil => rw [D_nil']; simp
        | cons y b =>
          rw [D_cons]
          simp only [List.length_cons] at h ⊢
          have := ih a b (by lia)
          have : sc x y ≤ 2 := by unfold sc; split <;> decide
          first | (refine Nat.le_trans (Nat.min_le_right _ _) ?_; rw [Nat.add_max_add_right]; generalize max a.length b.length = q at *; lia) | lia
  exact key _ a b (Nat.le_refl _)
theorem seg_plain {T : List Nat} {i j : Nat} (h : Plain T) : Plain (seg T i j) := fun x hx => h x (List.mem_of_mem_drop (List.mem_of_mem_take hx))
end
section
set_option linter.unusedVariables false
set_option maxRecDepth 100000
set_option maxHeartbeats 8000000
noncomputable def lamPos : Pos := ⟨180, 96, 180, 114⟩
noncomputable abbrev lamQ : Str := "law.<locals>." ++ "<lambda>"
theorem ops_plain : ∀ w ∈ OPS, Plain w ∧ w.length ≤ 3 ∧ w ≠ [] := by
  have : (OPS.all fun w => (w.all fun x => 33 ≤ x && x < 127 && (x < 65 || 90 < x)) && decide (w.length ≤ 3) && !w.isEmpty) = true := by decide
  intro w hw
  have h := List.all_eq_true.mp this w hw
  simp only [Bool.and_eq_true, decide_eq_true_eq, List.all_eq_true, Bool.or_eq_true, Bool.not_eq_true'] at h
  refine ⟨fun x hx => ?_, h.1.2, fun e => by subst e; exact absurd h.2 (by decide)⟩
  have := h.1.1 x hx
  lia
theorem cut_init (r : List Int) (g : Int) : cut ((r ++ [g]).map AV.int) none (some (-1)) = r.map AV.int := by
  have h := cut_neg ((r ++ [g]).map AV.int) 1 (by decide)
  have e : (-((1 : Nat) : Int)) = -1 := rfl
  rw [e] at h
  rw [h]
  simp
theorem Path.rlen {T : List Nat} {W : List (List Nat)} {i c : Nat} {r : List (List Nat)} (h : Path T W i c r) : r.length ≤ i := by
  induction h with
  | zero => exact Nat.le_refl _
  | word _ h1 _ _ ih => rw [List.length_append, List.length_singleton]; lia
  | none _ h1 _ ih => lia
theorem prices_sorted {T : List Nat} {W : List (List Nat)} {Need : Nat → Nat → List Nat → Prop} {S : St} (h : Inv T W Need S) : (S.queue.map fun q => (q.price : Int)).Pairwise (· ≤ ·) := by
  have hs := (List.pairwise_append.mp h.sorted).2.1
  rw [List.pairwise_map] at hs ⊢
  refine hs.imp fun {a b} hab => ?_
  unfold LexN Itm.key at hab
  simp only at hab
  lia
theorem law_word {c : Cx} {n : Nat} {env : Env} {L c_script c_sums c_signs c_least c_places c_price c_names : Addr} (ok : Ok KF c (n + 6)) (bm : Bm c) (hhd : CodeHd c.h₀ 86 84) (h84 : c.h₀.get? 84 = none) (H : LawEnv c env L c_script c_sums c_signs c_least c_places c_price c_names)
    {T : List Nat} {W : List (List Nat)} (hT : Plain T) (hTl : T.length ≤ 4) (hW : ∀ w ∈ W, w ∈ OPS) {S : St} {Need : Nat → Nat → List Nat → Prop} (hS : Inv T W Need S) (hmade : S.made ≤ 500) {i j pr : Nat} {w : List Nat} {r : List (List Nat)} (hpr : Path T W i pr r) (hbst : Best T W i pr) (hij : i < j) (hj : j ≤ T.length) (hw : w = [] ∨ w ∈ W)
    (htk : ∀ t ∈ S.taken, t.1 ≤ pr) {G : Ledger} {ts : List Addr} {qa fa wa ta : Addr} {e : Ent} {lv nv tv sv ov mv : Option AV} (hQ : QRep G T.length ts S.queue) (hfa : (fa, Ent.list ((r.map TOK ++ [goalOf T.length i]).map AV.int)) ∈ G) (hLam : LamE lamPos lamQ G e) :
    Ev c ((L, lawF lv (some (.ref wa)) (some (.int T.length)) (some (.str T)) (some (.ref qa)) (some (.int S.made)) (some (.ref ta)) nv (some (.ref fa)) (some (.int i)) (some (.int j)) (some (.int (goalOf T.length j))) (some (.str w)) tv sv ov mv) :: (c_price, Ent.cell (some (.int pr))) :: (qa, Ent.list (ts.map AV.ref)) :: (84, e) :: G) (execs (lamBodyOf wordS) env)
      fun f l' => f = Flow.next ∧ ∃ X ts' S' e' tv' sv', l' = (L, lawF lv (some (.ref wa)) (some (.int T.length)) (some (.str T)) (some (.ref qa)) (some (.int S'.made)) (some (.ref ta)) nv (some (.ref fa)) (some (.int i)) (some (.int j)) (some (.int (goalOf T.length j))) (some (.str w)) tv' sv' ov mv) :: (c_price, Ent.cell (some (.int pr))) :: (qa, Ent.list (ts'.map AV.ref)) :: (84, e') :: (X ++ G) ∧
        Inv T W (fun i' j' w' => Need i' j' w' ∨ (i' = i ∧ j' = j ∧ w' = w)) S' ∧ S'.made = S.made + 1 ∧ S'.taken = S.taken ∧ S'.places = S.places ∧ QRep (X ++ G) T.length ts' S'.queue ∧ LamE lamPos lamQ (X ++ G) e' := by
  refine byG fun gG kgG => ?_
  obtain ⟨hE, hG, hI, hcode, hqual, x_left, x_words, x_size, x_text, x_queue, x_made, x_taken, x_number, x_form, x_place, x_stop, x_goal, x_word, x_told, x_symbols, x_order, x_mended, y_script, y_sums, y_signs, y_least, y_places, y_price, y_names, g_law_operators, g_law_one_pass, g_levenshtein_distance, g_ISNONTERMINAL, g_ISEOF, g_insort_right, g_EXACT_TOKEN_TYPES, g_NT_OFFSET, g_ENDMARKER, g_enumerate, g_len, g_sum, g_range, g_sorted⟩ := H
  refine kgG ?_
  clear kgG gG
  have hsl : sizeLine = 16777216 := sizeLine_eq
  have hww : Plain w ∧ w.length ≤ 3 := by
    rcases hw with rfl | hw
    · exact ⟨fun x hx => (nomatch hx), by simp⟩
    · exact ⟨(ops_plain w (hW w hw)).1, (ops_plain w (hW w hw)).2.1⟩
  have hsegl : (seg T i j).length ≤ 4 := by rw [seg_len hj]; lia
  have hcut : cut T (some ((i : Nat) : Int)) (some ((j : Nat) : Int)) = seg T i j := by rw [cut_mid T i j hj]; rfl
  have hD8 : D (seg T i j) w ≤ 8 := by have := D_max (seg T i j) w; lia
  obtain ⟨o70, fd70, ho70, hd70⟩ : ∃ o fd, c.h₀.get? 70 = some o ∧ o.data = .func fd := ⟨_, _, ok.k 70 _ rfl, rfl⟩
  obtain ⟨o23, fd23, ho23, hd23⟩ : ∃ o fd, c.h₀.get? 23 = some o ∧ o.data = .func fd := ⟨_, _, ok.k 23 _ rfl, rfl⟩
  show Ev c _ (execs (_ :: _ :: _ :: _ :: []) env) _
  refine Ev.gen fun Q0 kQ0 => ?_
  repeat tb_rel
  refine e_callF ?_ (by with_unfolding_all rfl)
  tb_rel
  refine exI3 70 o70 fd70 ⟨rfl, hd70, ?_⟩
  refine ev_items_cons ?_ (by with_unfolding_all rfl)
  repeat tb_rel
  refine ⟨_, _, _, rfl, .int _, .int _, by lia, ?_⟩
  rw [hcut]
  intro v1 q1
  refine ev_items_cons ?_ (by with_unfolding_all rfl)
  tb_rel
  intro v2 q2
  refine ev_items_cons ?_ (by with_unfolding_all rfl)
  tb_rel
  intro v3 q3
  refine ev_items_nil ⟨ObjAt.base ho70, ?_⟩
  refine lev_call (n := n + 4) ok q1 q2 q3 (seg_plain hT) hww.1 (by lia) (by lia) (by lia) (by decide) ?_
  repeat ((fail_if_success (with_reducible show Ev _ _ (exec _ _) _)); tb_rel)
  -- the symbols
  refine Ev.mono (P := fun (f' : Flow) (l' : Ledger) => f' = Flow.next ∧ ∃ sy, l' = (sy, Ent.list ((if w = [] then [] else [TOK w]).map AV.int)) :: (L, lawF lv (some (.ref wa)) (some (.int T.length)) (some (.str T)) (some (.ref qa)) (some (.int S.made)) (some (.ref ta)) nv (some (.ref fa)) (some (.int i)) (some (.int j)) (some (.int (goalOf T.length j))) (some (.str w)) (some (.int (D (seg T i j) w : Nat))) (some (.ref sy)) ov mv) :: (c_price, Ent.cell (some (.int pr))) :: (qa, Ent.list (ts.map AV.ref)) :: (84, e) :: G) ?_ ?_
  · repeat tb_rel
    refine ev_str (cs := []) (by decide) ?_
    repeat tb_rel
    by_cases hwe : w = []
    · subst hwe
      first | refine if_neg' (by decide) ?_ | rw [if_neg (by decide)]
      refine e_List (ev_items_nil ⟨[], .nil, by simp, fun sy => ?_⟩)
      repeat tb_rel
      exact ⟨rfl, sy, rfl⟩
    · rw [if_pos (by simpa using hwe), if_neg hwe]
      have hwO : w ∈ OPS := by
        rcases hw with h | h
        · exact absurd h hwe
        · exact hW w h
      refine e_List (ev_items_cons ?_ (by with_unfolding_all rfl))
      repeat tb_rel
      intro v4 u4 q4 q5
      refine v_ett ok hwO q4 q5 ?_
      intro v5 q6
      refine ev_items_nil ⟨[.int (TOK w)], .cons q6 .nil, by simp; lia, fun sy => ?_⟩
      repeat tb_rel
      exact ⟨rfl, sy, rfl⟩
  · rintro f' l' ⟨rfl, sy, rfl⟩
    repeat tb_rel
    refine s_Expr ?_ hI (by with_unfolding_all rfl)
    refine e_callFkw ?_ (by with_unfolding_all rfl)
    tb_rel
    refine exI3 23 o23 fd23 ⟨rfl, hd23, ?_⟩
    refine ev_items_cons ?_ (by with_unfolding_all rfl)
    tb_rel
    intro v4 q4
    refine ev_items_cons ?_ (by with_unfolding_all rfl)
    refine e_Tuple (ev_items_cons ?_ (by with_unfolding_all rfl))
    repeat tb_rel
    intro v5 q5
    refine ev_items_cons ?_ (by with_unfolding_all rfl)
    tb_rel
    intro v6 q6
    refine ev_items_cons ?_ (by with_unfolding_all rfl)
    iterate 2 tb_rel
    refine e_listSlice ?_ (by intro _ _; with_unfolding_all rfl)
    repeat tb_rel
    have hrl : r.length ≤ 100 := by have := hpr.rlen; lia
    refine ⟨fa, _, none, some (-1), rfl, .tail _ (.tail _ (.tail _ (.tail _ (.tail _ hfa)))), .none, .int _, by simp; lia, fun f1 => ?_⟩
    rw [cut_init]
    repeat tb_rel
    intro v7 u7 q7 q8
    refine v_cat (xs := (r.map TOK).map AV.int) (ys := (if w = [] then [] else [TOK w]).map AV.int) q7 q8 (.head _) (.tail _ (.head _)) (by split <;> simp <;> lia) fun f2 => ?_
    rw [← List.map_append]
    have hrow : r.map TOK ++ (if w = [] then [] else [TOK w]) = (if w = [] then r else r ++ [w]).map TOK := by split <;> simp
    rw [hrow]
    refine e_List (ev_items_cons ?_ (by with_unfolding_all rfl))
    tb_rel
    intro v8 q9
    refine ev_items_nil ⟨[.int (goalOf T.length j)], .cons q9 .nil, by simp; lia, fun f3 => ?_⟩
    intro v9 u9 q10 q11
    refine v_cat (xs := ((if w = [] then r else r ++ [w]).map TOK).map AV.int) (ys := [.int (goalOf T.length j)]) q10 q11 (.tail _ (.head _)) (.head _) (by split <;> simp <;> lia) fun f4 => ?_
    intro v10 q12
    refine ev_items_nil ⟨[_, _, _], .cons q5 (.cons q6 (.cons q12 .nil)), by simp; lia, fun t => ?_⟩
    intro v11 q13
    refine ev_items_nil ?_
    rw [show ((if w = [] then r else r ++ [w]).map TOK).map AV.int ++ [AV.int (goalOf T.length j)] = ((⟨pr + D (seg T i j) w, S.made, j, if w = [] then r else r ++ [w]⟩ : Itm).form T.length).map AV.int by unfold Itm.form; rw [List.map_append]; rfl]
    have hx : Path T W j (pr + D (seg T i j) w) (if w = [] then r else r ++ [w]) := by
      by_cases hwe : w = []
      · subst hwe; rw [if_pos rfl]; exact Path.none hpr hij hj
      · first | refine if_neg' hwe ?_ | rw [if_neg hwe]
        exact Path.word hpr hij hj (by rcases hw with h | h; exact absurd h hwe; exact h)
    generalize hit : (⟨pr + D (seg T i j) w, S.made, j, if w = [] then r else r ++ [w]⟩ : Itm) = x at *
    have hxp : x.price = pr + D (seg T i j) w := by rw [← hit]
    have hxn : x.num = S.made := by rw [← hit]
    have hxj : x.pl = j := by rw [← hit]
    have hxr : x.row = if w = [] then r else r ++ [w] := by rw [← hit]
    refine Ev.weak (l' := (t, _) :: (f4, _) :: (L, _) :: (c_price, _) :: (qa, _) :: (84, e) :: G) (.cons_cons _ (.cons_cons _ (.cons _ (.cons _ (.cons _ (.cons _ (List.Sublist.refl _))))))) ?_
    refine Ev.perm (List.perm_append_comm_assoc [(L, _), (c_price, _), (qa, _), (84, _)] [(t, _), (f4, _)] G) ?_
    simp only [List.cons_append, List.nil_append]
    refine e_lambda (T := 84) (cd := 86) (lu := fun e' => (L, lawF lv (some (.ref wa)) (some (.int T.length)) (some (.str T)) (some (.ref qa)) (some (.int S.made)) (some (.ref ta)) nv (some (.ref fa)) (some (.int i)) (some (.int j)) (some (.int (goalOf T.length j))) (some (.str w)) (some (.int (D (seg T i j) w : Nat))) (some (.ref sy)) ov mv) :: (c_price, Ent.cell (some (.int pr))) :: (qa, Ent.list (ts.map AV.ref)) :: (84, e') :: (t, Ent.tup [.int ((pr : Int) + (D (seg T i j) w : Nat)), .int S.made, .ref f4]) :: (f4, Ent.list ((x.form T.length).map AV.int)) :: G)
      bm hG hcode hhd h84 (by rw [hqual]; exact hLam) (fun e' => .tail (.tail (.tail .head))) (by with_unfolding_all rfl) (closure_of [] rfl (by simp)) ?_
    intro kf ko c' oc pm ctv e' new hko hc' hco hle u ru
    rw [hqual] at hko hco hle
    refine ⟨ObjAt.base ho23, ?_⟩
    refine Ev.perm (List.perm_append_comm_assoc [(L, _), (c_price, _), (qa, _), (84, e')] ((kf, _) :: new) ((t, _) :: (f4, _) :: G)) ?_
    simp only [List.cons_append, List.nil_append]
    have hql : S.queue.length ≤ 500 := by have := hS.count; lia
    have hxk : ((pr : Int) + (D (seg T i j) w : Nat)) = (x.price : Int) := by rw [hxp]; lia
    rw [hxk]
    have htup : ∀ (q : Ledger) (t' : Addr) (a b d : AV), (t', Ent.tup [a, b, d]) ∈ q → ∃ xs, (t', Ent.tup (a :: xs)) ∈ q := fun q t' a b d h => ⟨_, h⟩
    have mc' : (c', Ent.obj (· = oc)) ∈ (L, lawF lv (some (.ref wa)) (some (.int T.length)) (some (.str T)) (some (.ref qa)) (some (.int S.made)) (some (.ref ta)) nv (some (.ref fa)) (some (.int i)) (some (.int j)) (some (.int (goalOf T.length j))) (some (.str w)) (some (.int (D (seg T i j) w : Nat))) (some (.ref sy)) ov mv) :: (c_price, Ent.cell (some (.int pr))) :: (qa, Ent.list (ts.map AV.ref)) :: (84, e') :: (kf, Ent.obj (· = ko)) :: (new ++ (t, Ent.tup [.int x.price, .int S.made, .ref f4]) :: (f4, Ent.list ((x.form T.length).map AV.int)) :: G) := by
      refine .tail _ (.tail _ (.tail _ (.tail _ (.tail _ ?_))))
      rcases List.mem_append.mp hc' with h | h
      · exact List.mem_append_left _ h
      · exact List.mem_append_right _ (.tail _ (.tail _ h))
    refine insort_call (n := n + 3) (xs := ts.map AV.ref) (ks := S.queue.map fun q => (q.price : Int)) (x0 := .ref t) (k0 := (x.price : Int)) (lu := fun p => (L, lawF lv (some (.ref wa)) (some (.int T.length)) (some (.str T)) (some (.ref qa)) (some (.int S.made)) (some (.ref ta)) nv (some (.ref fa)) (some (.int i)) (some (.int j)) (some (.int (goalOf T.length j))) (some (.str w)) (some (.int (D (seg T i j) w : Nat))) (some (.ref sy)) ov mv) :: (c_price, Ent.cell (some (.int pr))) :: (qa, Ent.list ((ts.map AV.ref).take p ++ .ref t :: (ts.map AV.ref).drop p)) :: (84, e') :: (kf, Ent.obj (· = ko)) :: (new ++ (t, Ent.tup [.int x.price, .int S.made, .ref f4]) :: (f4, Ent.list ((x.form T.length).map AV.int)) :: G))
      ok q4 q13 ru (.tail _ (.tail _ (.head _))) (by rw [List.length_map, List.length_map, hQ.len]) (by rw [List.length_map, hQ.len]; lia) (prices_sorted hS) (.tail _ (.tail _ (.tail _ (.tail _ (.head _))))) (by rw [hko]) ?_ ?_ (fun p => .tail (.tail .head)) ?_
    · intro env'
      exact lam_call (n := n + 4) ok.deeper hko (.tail _ (.tail _ (.tail _ (.tail _ (.head _))))) mc' hco (.tail _ (.tail _ (.tail _ (.tail _ (.tail _ (List.mem_append_right _ (.head _)))))))
    · intro env1 env2 i' e1 k he hk
      rw [List.getElem?_map] at he hk
      cases ht' : ts[i']? with
      | none => rw [ht'] at he; simp at he
      | some t' =>
      cases hq' : S.queue[i']? with
      | none => rw [hq'] at hk; simp at hk
      | some q' =>
      rw [ht'] at he; rw [hq'] at hk
      simp at he hk
      subst he hk
      obtain ⟨f', h1, h2⟩ := hQ.at' i' t' q' ht' hq'
      exact lam_call (n := n + 3) ok.deeper.deeper hko (.tail _ (.tail _ (.tail _ (.tail _ (.head _))))) mc' hco (.tail _ (.tail _ (.tail _ (.tail _ (.tail _ (List.mem_append_right _ (.tail _ (.tail _ h1))))))))
    · intro p hp
      refine ⟨rfl, ?_⟩
      have hpl : p ≤ S.queue.length := by have := hp.1; rw [List.length_map] at this; exact this
      have hpush := hS.push (Need' := fun i' j' w' => Need i' j' w' ∨ (i' = i ∧ j' = j ∧ w' = w)) (x := x) (p := p) (by rw [hxj, hxp, hxr]; exact hx) hxn (fun t' ht' => by have := htk t' ht'; lia) hpl
        (fun i' q' hi' hq' => by have := hp.2.1 i' (q'.price : Int) hi' (by rw [List.getElem?_map, hq']; rfl); lia)
        (fun i' q' hi' hq' => by have := hp.2.2 i' (q'.price : Int) hi' (by rw [List.getElem?_map, hq']; rfl); lia)
        (fun i' j' w' hN => by
          rcases hN with h | ⟨rfl, rfl, rfl⟩
          · exact .inl h
          · exact .inr ⟨hxj.symm, fun d hd => by rw [hxp]; have := hbst.unique hd; lia⟩)
      repeat tb_rel
      have e1 : (ts.map AV.ref).take p ++ AV.ref t :: (ts.map AV.ref).drop p = (ts.take p ++ t :: ts.drop p).map AV.ref := by simp [List.map_take, List.map_drop]
      have e2 : ((S.made : Int) + 1) = ((S.made + 1 : Nat) : Int) := by lia
      refine kQ0 _ _ ?_
      refine ⟨rfl, (exI6 ((kf, Ent.obj (· = ko)) :: (new ++ [(t, Ent.tup [.int x.price, .int S.made, .ref f4]), (f4, Ent.list ((x.form T.length).map AV.int))])) (ts.take p ++ t :: ts.drop p) _ e' (some (.int (D (seg T i j) w : Nat))) (some (.ref sy)) ⟨?_, hpush, rfl, rfl, rfl, ?_, ?_⟩)⟩
      · rw [e1, e2]
        simp only [List.cons_append, List.append_assoc, List.nil_append]
        rfl
      · refine (hQ.mono (G' := (kf, Ent.obj (· = ko)) :: (new ++ [(t, Ent.tup [.int x.price, .int S.made, .ref f4]), (f4, Ent.list ((x.form T.length).map AV.int))]) ++ G) fun p hp => List.mem_append_right _ hp).insert hpl (f := f4) ?_ ?_
        · rw [hxn]
          exact List.mem_append_left _ (.tail _ (List.mem_append_right _ (.head _)))
        · exact List.mem_append_left _ (.tail _ (List.mem_append_right _ (.tail _ (.head _))))
      · refine hle.mono fun p hp => ?_
        rcases List.mem_append.mp hp with h | h
        · exact List.mem_append_left _ (.tail _ (List.mem_append_left _ h))
        · exact List.mem_append_right _ h
end
section
set_option linter.unusedVariables false
set_option maxRecDepth 100000
set_option maxHeartbeats 8000000
theorem Inv.weak2 {T : List Nat} {W : List (List Nat)} {Need Need' : Nat → Nat → List Nat → Prop} {S : St} (h : Inv T W Need S) (k : ∀ i j w, i < j → j ≤ T.length → (w = [] ∨ w ∈ W) → Need' i j w → Need i j w) : Inv T W Need' S :=
  ⟨h.sorted, h.count, h.nums, h.node, h.pnd, h.plt, h.base, fun i hi d hd j h1 h2 w hw hN => h.edge i hi d hd j h1 h2 w hw (k _ _ _ h1 h2 hw hN)⟩
theorem law_stop {c : Cx} {n : Nat} {env : Env} {L c_script c_sums c_signs c_least c_places c_price c_names : Addr} (ok : Ok KF c (n + 6)) (bm : Bm c) (hhd : CodeHd c.h₀ 86 84) (h84 : c.h₀.get? 84 = none) (H : LawEnv c env L c_script c_sums c_signs c_least c_places c_price c_names)
    {T : List Nat} {W : List (List Nat)} (hT : Plain T) (hTl : T.length ≤ 4) (hW : ∀ w ∈ W, w ∈ OPS) (hWl : W.length = 3) {S : St} {i pr : Nat} (hS : Inv T W (fun i' _ _ => i' ≠ i) S) (hmade : S.made ≤ 100) {r : List (List Nat)} (hpr : Path T W i pr r) (hbst : Best T W i pr) (hin : i < T.length)
    (htk : ∀ t ∈ S.taken, t.1 ≤ pr) {G : Ledger} {ts : List Addr} {qa fa wa ta : Addr} {e : Ent} {lv nv stv gv wv tv sv ov mv : Option AV} (hQ : QRep G T.length ts S.queue) (hfa : (fa, Ent.list ((r.map TOK ++ [goalOf T.length i]).map AV.int)) ∈ G) (hwa : (wa, Ent.list (txts W)) ∈ G) (hLam : LamE lamPos lamQ G e) :
    Ev c ((L, lawF lv (some (.ref wa)) (some (.int T.length)) (some (.str T)) (some (.ref qa)) (some (.int S.made)) (some (.ref ta)) nv (some (.ref fa)) (some (.int i)) stv gv wv tv sv ov mv) :: (c_price, Ent.cell (some (.int pr))) :: (qa, Ent.list (ts.map AV.ref)) :: (84, e) :: G) (exec stopS env)
      fun f l' => f = Flow.next ∧ ∃ X ts' S' e' stv gv wv tv sv, ((L, lawF lv (some (.ref wa)) (some (.int T.length)) (some (.str T)) (some (.ref qa)) (some (.int S'.made)) (some (.ref ta)) nv (some (.ref fa)) (some (.int i)) stv gv wv tv sv ov mv) :: (c_price, Ent.cell (some (.int pr))) :: (qa, Ent.list (ts'.map AV.ref)) :: (84, e') :: (X ++ G)).Perm l' ∧
        Inv T W (fun _ _ _ => True) S' ∧ S'.made = S.made + 4 * (T.length - i) ∧ S'.taken = S.taken ∧ S'.places = S.places ∧ QRep (X ++ G) T.length ts' S'.queue ∧ LamE lamPos lamQ (X ++ G) e' := by
  have H' := H
  obtain ⟨hE, hG, hI, hcode, hqual, x_left, x_words, x_size, x_text, x_queue, x_made, x_taken, x_number, x_form, x_place, x_stop, x_goal, x_word, x_told, x_symbols, x_order, x_mended, y_script, y_sums, y_signs, y_least, y_places, y_price, y_names, g_law_operators, g_law_one_pass, g_levenshtein_distance, g_ISNONTERMINAL, g_ISEOF, g_insort_right, g_EXACT_TOKEN_TYPES, g_NT_OFFSET, g_ENDMARKER, g_enumerate, g_len, g_sum, g_range, g_sorted⟩ := H'
  have hsl : sizeLine = 16777216 := sizeLine_eq
  have htl : (txts W).length = 3 := by simp [txts, hWl]
  show Ev c _ (exec (Stmt.For (Expr.Name _ _) _ _ [] _) env) _
  refine s_forRange ok (fun p l' => ∃ X ts' S' e' stv gv wv tv sv, ((L, lawF lv (some (.ref wa)) (some (.int T.length)) (some (.str T)) (some (.ref qa)) (some (.int S'.made)) (some (.ref ta)) nv (some (.ref fa)) (some (.int i)) stv gv wv tv sv ov mv) :: (c_price, Ent.cell (some (.int pr))) :: (qa, Ent.list (ts'.map AV.ref)) :: (84, e') :: (X ++ G)).Perm l' ∧
        Inv T W (fun i' j' _ => i' ≠ i ∨ j' ≤ i + p) S' ∧ S'.made = S.made + 4 * p ∧ S'.taken = S.taken ∧ S'.places = S.places ∧ QRep (X ++ G) T.length ts' S'.queue ∧ LamE lamPos lamQ (X ++ G) e') ((i : Int) + 1) (T.length - i) ?_ ?_ ?_ ?hs
  case hs => intro _; with_unfolding_all rfl
  · refine e_range2 g_range ?_ (by with_unfolding_all rfl) (by with_unfolding_all rfl)
    repeat tb_rel
    refine fun r' => ⟨r', _, _, rfl, rfl, small_of (by lia) (by lia) (by lia) (by lia), by rw [size_of (by lia)]; lia, (exI9 [] ts S e stv gv wv tv sv ⟨List.Perm.refl _, ?_, by lia, rfl, rfl, hQ, hLam⟩)⟩
    exact hS.weak2 fun i' j' w' h1 _ _ hN => by
      rcases hN with h | h
      · exact h
      · intro e; subst e; lia
  · rintro p l' hp hxx1 v rv
    refine byG fun gG kgG => ?_
    refine exE9 hxx1 fun X ts' S' e' stv gv wv tv sv hzz1 => ?_
    clear hxx1
    obtain ⟨hperm, hS', hm', htk', hpl', hQ', hLam'⟩ := hzz1
    refine kgG ?_
    clear kgG gG
    refine Ev.perm hperm ?_
    have ej : ((i : Int) + 1 + (p : Int)) = ((i + 1 + p : Nat) : Int) := by lia
    rw [ej] at rv
    refine e_setM hE x_stop rfl rv .head (Ev.gen fun Q1 kQ1 => ?_)
    tb_rel
    refine Ev.mono (P := fun (f' : Flow) (l' : Ledger) => f' = Flow.next ∧ l' = ((L, lawF lv (some (.ref wa)) (some (.int T.length)) (some (.str T)) (some (.ref qa)) (some (.int S'.made)) (some (.ref ta)) nv (some (.ref fa)) (some (.int i)) (some (.int (i + 1 + p : Nat))) (some (.int (goalOf T.length (i + 1 + p)))) wv tv sv ov mv) :: (c_price, Ent.cell (some (.int pr))) :: (qa, Ent.list (ts'.map AV.ref)) :: (84, e') :: (X ++ G))) ?_ ?_
    · repeat tb_rel
      by_cases hjn : i + 1 + p < T.length
      · first | refine if_pos' (by simp; lia) ?_ | rw [if_pos (by simp; lia)]
        repeat tb_rel
        refine ⟨rfl, ?_⟩
        unfold goalOf
        first | refine if_pos' hjn ?_ | rw [if_pos hjn]
        rfl
      · first | refine if_neg' (by simp; lia) ?_ | rw [if_neg (by simp; lia)]
        repeat tb_rel
        refine ⟨rfl, ?_⟩
        unfold goalOf
        first | refine if_neg' hjn ?_ | rw [if_neg hjn]
        rfl
    · rintro f' l' ⟨rfl, rfl⟩
      repeat tb_rel
      refine ev_ForA (fun (nl : Addr) k l' => ∃ X₂ ts₂ S₂ e₂ wv tv sv, ((L, lawF lv (some (.ref wa)) (some (.int T.length)) (some (.str T)) (some (.ref qa)) (some (.int S₂.made)) (some (.ref ta)) nv (some (.ref fa)) (some (.int i)) (some (.int (i + 1 + p : Nat))) (some (.int (goalOf T.length (i + 1 + p)))) wv tv sv ov mv) :: (c_price, Ent.cell (some (.int pr))) :: (qa, Ent.list (ts₂.map AV.ref)) :: (84, e₂) :: (X₂ ++ G)).Perm l' ∧ (nl, Ent.list (txts ([] :: W))) ∈ X₂ ∧ Inv T W (fun i' j' w' => i' ≠ i ∨ j' ≤ i + p ∨ (j' = i + 1 + p ∧ w' ∈ ([] :: W).take k)) S₂ ∧ S₂.made = S.made + 4 * p + k ∧ S₂.taken = S.taken ∧ S₂.places = S.places ∧ QRep (X₂ ++ G) T.length ts₂ S₂.queue ∧ LamE lamPos lamQ (X₂ ++ G) e₂) (txts ([] :: W)) (fun nl => [(nl, .list (txts ([] :: W)))]) ?_ ?_ ?_ ?_ ?hs
      case hs => intro _; with_unfolding_all rfl
      · repeat tb_rel
        refine e_List (ev_items_cons (ev_str (cs := []) (by decide) ?_) (by with_unfolding_all rfl))
        intro v1 q1
        refine ev_items_nil ⟨[.str []], .cons q1 .nil, by simp; lia, fun el => ?_⟩
        repeat tb_rel
        intro v2 u2 q2 q3
        refine v_cat (xs := [.str []]) (ys := txts W) q2 q3 (.head _) (.tail _ (.tail _ (.tail _ (.tail _ (.tail _ (List.mem_append_right _ hwa)))))) (by rw [htl]; simp; lia) fun nl => ?_
        intro v3 q4
        refine v_iterList ok q4 (.head _) fun I hI => exI4 nl I _ _ ⟨rfl, rfl, hI, (exI7 ((nl, Ent.list (txts ([] :: W))) :: (el, Ent.list [.str []]) :: X) ts' S' e' wv tv sv ⟨?_, .head _, ?_, by lia, htk', hpl', hQ'.mono fun p hp => .tail _ (.tail _ hp), hLam'.mono fun p hp => .tail _ (.tail _ hp)⟩)⟩
        · exact List.perm_append_comm_assoc [(L, _), (c_price, _), (qa, _), (84, _)] [(nl, _), (el, _)] (X ++ G)
        · exact hS'.weak2 fun i' j' w' h1 _ _ hN => by
            rcases hN with h | h | ⟨_, h⟩
            · exact .inl h
            · exact .inr h
            · simp at h
      · rintro nl k l' hxx1 q hq
        refine byG fun gG kgG => ?_
        refine exE7 hxx1 fun X₂ ts₂ S₂ e₂ wv tv sv hzz1 => ?_
        clear hxx1
        obtain ⟨hperm, hnl, _⟩ := hzz1
        refine kgG ?_
        clear kgG gG
        have : q = (nl, .list (txts ([] :: W))) := by simpa using hq
        subst this
        exact hperm.subset (.tail _ (.tail _ (.tail _ (.tail _ (List.mem_append_left _ hnl)))))
      · rintro nl k a l' hk hxx1 v rv
        refine byG fun gG kgG => ?_
        refine exE7 hxx1 fun X₂ ts₂ S₂ e₂ wv tv sv hzz1 => ?_
        clear hxx1
        obtain ⟨hperm, hnl, hS₂, hm₂, htk₂, hpl₂, hQ₂, hLam₂⟩ := hzz1
        refine kgG ?_
        clear kgG gG
        refine Ev.perm hperm ?_
        have hkl : k < ([] :: W).length := by simpa [txts] using (List.getElem?_eq_some_iff.mp hk).1
        have ha : a = .str ([] :: W)[k] := by
          rw [txts, List.getElem?_map, List.getElem?_eq_getElem hkl] at hk; simp at hk; exact hk.symm
        subst ha
        have hwk : ([] :: W)[k] = [] ∨ ([] :: W)[k] ∈ W := List.mem_cons.mp (List.getElem_mem hkl)
        refine e_setM hE x_word rfl rv .head ?_
        refine Ev.mono (law_word (n := n) ok bm hhd h84 H hT hTl hW hS₂ (by simp at hkl; lia) hpr hbst (show i < i + 1 + p by lia) (by lia) hwk (by rw [htk₂]; exact htk) hQ₂ (List.mem_append_right _ hfa) hLam₂) ?_
        rintro f' l'' hxx1
        refine byG fun gG kgG => ?_
        obtain ⟨rfl, hyy1⟩ := hxx1
        refine exE6 hyy1 fun X₃ ts₃ S₃ e₃ tv₃ sv₃ hzz1 => ?_
        clear hyy1
        obtain ⟨rfl, hS₃, hm₃, htk₃, hpl₃, hQ₃, hLam₃⟩ := hzz1
        refine kgG ?_
        clear kgG gG
        rw [← List.append_assoc] at hQ₃ hLam₃
        refine (exI7 (X₃ ++ X₂) ts₃ S₃ e₃ (some (.str ([] :: W)[k])) tv₃ sv₃ ⟨?_, List.mem_append_right _ hnl, ?_, by lia, htk₃.trans htk₂, hpl₃.trans hpl₂, hQ₃, hLam₃⟩)
        · rw [List.append_assoc]
        · refine hS₃.weak2 fun i' j' w' h1 _ _ hN => ?_
          rcases hN with h | h | ⟨h, hw'⟩
          · exact .inl (.inl h)
          · exact .inl (.inr (.inl h))
          · rw [List.take_add_one, List.getElem?_eq_getElem hkl, Option.toList_some, List.mem_append] at hw'
            rcases hw' with hw' | hw'
            · exact .inl (.inr (.inr ⟨h, hw'⟩))
            · by_cases hii : i' = i
              · exact .inr ⟨hii, h, by simpa using hw'⟩
              · exact .inl (.inl hii)
      · rintro nl l' hxx1
        refine byG fun gG kgG => ?_
        refine exE7 hxx1 fun X₂ ts₂ S₂ e₂ wv tv sv hzz1 => ?_
        clear hxx1
        obtain ⟨hperm, hnl, hS₂, hm₂, htk₂, hpl₂, hQ₂, hLam₂⟩ := hzz1
        refine kgG ?_
        clear kgG gG
        refine Ev.perm hperm ?_
        repeat tb_rel
        have hlen4 : (txts ([] :: W)).length = 4 := by simp [txts, hWl]
        rw [hlen4] at hS₂ hm₂
        refine kQ1 _ _ ?_
        refine (exI9 X₂ ts₂ S₂ e₂ (some (.int (i + 1 + p : Nat))) (some (.int (goalOf T.length (i + 1 + p)))) wv tv sv ⟨List.Perm.refl _, ?_, by lia, htk₂, hpl₂, hQ₂, hLam₂⟩)
        refine hS₂.weak2 fun i' j' w' h1 _ hw' hN => ?_
        rcases hN with h | h
        · exact .inl h
        · by_cases hjj : j' ≤ i + p
          · exact .inr (.inl hjj)
          · refine .inr (.inr ⟨by lia, ?_⟩)
            rw [List.take_of_length_le (by simp [hWl])]
            exact List.mem_cons.mpr hw'
  · rintro l' hxx1
    refine byG fun gG kgG => ?_
    refine exE9 hxx1 fun X ts' S' e' stv gv wv tv sv hzz1 => ?_
    clear hxx1
    obtain ⟨hperm, hS', hm', htk', hpl', hQ', hLam'⟩ := hzz1
    refine kgG ?_
    clear kgG gG
    exact ⟨rfl, (exI9 X ts' S' e' stv gv wv tv sv ⟨hperm, hS'.weak2 fun i' j' w' h1 h2 _ _ => .inr (by lia), hm', htk', hpl', hQ', hLam'⟩)⟩
end
section
set_option linter.unusedVariables false
set_option maxRecDepth 100000
set_option maxHeartbeats 8000000
theorem goal_ge (n j : Nat) (h : j ≤ n) : decide (goalOf n j ≥ 256) = decide (j < n) := by
  unfold goalOf
  by_cases hj : j < n
  · rw [if_pos hj]; simp [hj]; lia
  · rw [if_neg hj]; simp [hj]
theorem form_last (n : Nat) (q : Itm) : lastOf (q.form n) = goalOf n q.pl := by simp [lastOf, Itm.form]
theorem form_ne (n : Nat) (q : Itm) : q.form n ≠ [] := by simp [Itm.form]
noncomputable def castZ (l : List Nat) : List Int := l.map fun (i : Nat) => (i : Int)
theorem mem_cast (l : List Nat) (i : Nat) : decide (((i : Nat) : Int) ∈ castZ l) = decide (i ∈ l) := by
  congr 1
  unfold castZ
  rw [List.mem_map]
  apply propext
  constructor
  · rintro ⟨a, ha, e⟩; have : a = i := by lia
    subst this; exact ha
  · intro h; exact ⟨i, h, rfl⟩
theorem law_while {c : Cx} {n : Nat} {env : Env} {L c_script c_sums c_signs c_least c_places c_price c_names : Addr} (ok : Ok KF c (n + 6)) (bm : Bm c) (hhd : CodeHd c.h₀ 86 84) (h84 : c.h₀.get? 84 = none) (H : LawEnv c env L c_script c_sums c_signs c_least c_places c_price c_names)
    {T : List Nat} {W : List (List Nat)} (hT : Plain T) (hTl : T.length = 3 ∨ T.length = 4) (hW : ∀ w ∈ W, w ∈ OPS) (hWl : W.length = 3) {lst : List Int} (hll : lst.length = T.length + 1) (hlst : ∀ k, k ≤ T.length → ∃ d, Best T W k d ∧ lst[k]? = some (d : Int))
    {G : Ledger} {wa qa ta pa la : Addr} {lv ov mv : Option AV} (hwa : (wa, Ent.list (txts W)) ∈ G) (hla : (la, Ent.list (lst.map AV.int)) ∈ G) (hcl : (c_least, Ent.cell (some (.ref la))) ∈ G) (hcp : (c_places, Ent.cell (some (.ref pa))) ∈ G)
    {l : Ledger} (h : ∃ X ts as S e pr nv fv pv stv gv wv tv sv, ((L, lawF lv (some (.ref wa)) (some (.int T.length)) (some (.str T)) (some (.ref qa)) (some (.int S.made)) (some (.ref ta)) nv fv pv stv gv wv tv sv ov mv) :: (c_price, Ent.cell pr) :: (qa, Ent.list (ts.map AV.ref)) :: (84, e) :: (ta, Ent.list (as.map AV.ref)) :: (pa, Ent.list ((castZ S.places).map AV.int)) :: (X ++ G)).Perm l ∧ Inv T W (fun _ _ _ => True) S ∧ S.made = 1 + 4 * (S.places.map fun i => T.length - i).sum ∧ QRep (X ++ G) T.length ts S.queue ∧ TRep (X ++ G) as S.taken ∧ LamE lamPos lamQ (X ++ G) e) :
    Ev c l (exec whileS env) fun f l' => f = Flow.next ∧ ∃ X ts as S e pr nv fv pv stv gv wv tv sv, ((L, lawF lv (some (.ref wa)) (some (.int T.length)) (some (.str T)) (some (.ref qa)) (some (.int S.made)) (some (.ref ta)) nv fv pv stv gv wv tv sv ov mv) :: (c_price, Ent.cell pr) :: (qa, Ent.list (ts.map AV.ref)) :: (84, e) :: (ta, Ent.list (as.map AV.ref)) :: (pa, Ent.list ((castZ S.places).map AV.int)) :: (X ++ G)).Perm l' ∧ Inv T W (fun _ _ _ => True) S ∧ S.made = 1 + 4 * (S.places.map fun i => T.length - i).sum ∧ QRep (X ++ G) T.length ts S.queue ∧ TRep (X ++ G) as S.taken ∧ LamE lamPos lamQ (X ++ G) e ∧ ∃ q rest, S.queue = q :: rest ∧ q.pl = T.length := by
  have H' := H
  obtain ⟨hE, hG, hI, hcode, hqual, x_left, x_words, x_size, x_text, x_queue, x_made, x_taken, x_number, x_form, x_place, x_stop, x_goal, x_word, x_told, x_symbols, x_order, x_mended, y_script, y_sums, y_signs, y_least, y_places, y_price, y_names, g_law_operators, g_law_one_pass, g_levenshtein_distance, g_ISNONTERMINAL, g_ISEOF, g_insort_right, g_EXACT_TOKEN_TYPES, g_NT_OFFSET, g_ENDMARKER, g_enumerate, g_len, g_sum, g_range, g_sorted⟩ := H'
  have hsl : sizeLine = 16777216 := sizeLine_eq
  have hB : ∀ i, i ≤ T.length → ∃ d, Best T W i d := fun i hi => let ⟨d, hd, _⟩ := hlst i hi; ⟨d, hd⟩
  obtain ⟨o49, fd49, ho49, hd49⟩ : ∃ o fd, c.h₀.get? 49 = some o ∧ o.data = .func fd := ⟨_, _, ok.k 49 _ rfl, rfl⟩
  show Ev c _ (exec (Stmt.While _ _ [] _) env) _
  refine byG fun gG kgG => ?_
  obtain ⟨X, ts, as, S, e, pr, nv, fv, pv, stv, gv, wv, tv, sv, hI⟩ := h
  refine kgG ?_
  clear kgG gG
  refine ev_While' (fun k l' => ∃ X ts as S e pr nv fv pv stv gv wv tv sv, ((L, lawF lv (some (.ref wa)) (some (.int T.length)) (some (.str T)) (some (.ref qa)) (some (.int S.made)) (some (.ref ta)) nv fv pv stv gv wv tv sv ov mv) :: (c_price, Ent.cell pr) :: (qa, Ent.list (ts.map AV.ref)) :: (84, e) :: (ta, Ent.list (as.map AV.ref)) :: (pa, Ent.list ((castZ S.places).map AV.int)) :: (X ++ G)).Perm l' ∧ Inv T W (fun _ _ _ => True) S ∧ S.made = 1 + 4 * (S.places.map fun i => T.length - i).sum ∧ QRep (X ++ G) T.length ts S.queue ∧ TRep (X ++ G) as S.taken ∧ LamE lamPos lamQ (X ++ G) e ∧ k = (T.length - S.places.length) * 64 + S.queue.length) ?_ ((T.length - S.places.length) * 64 + S.queue.length) (exI14 X ts as S e pr nv fv pv stv gv wv tv sv ⟨hI.1, hI.2.1, hI.2.2.1, hI.2.2.2.1, hI.2.2.2.2.1, hI.2.2.2.2.2, rfl⟩)
  clear hI
  rintro B hB' k l' hxx1
  refine byG fun gG kgG => ?_
  refine exE14 hxx1 fun X ts as S e pr nv fv pv stv gv wv tv sv hzz1 => ?_
  clear hxx1
  obtain ⟨hperm, hS, hm, hQ, hTk, hLam, rfl⟩ := hzz1
  refine kgG ?_
  clear kgG gG
  refine Ev.perm hperm ?_
  refine Ev.ifgen fun Q M kQ kM => ?_
  -- the first one
  obtain ⟨q, rest, hq⟩ : ∃ q rest, S.queue = q :: rest := by
    cases hq : S.queue with
    | nil => exact absurd hq (hS.ne hB)
    | cons q rest => exact ⟨q, rest, rfl⟩
  obtain ⟨t0, ts1, rfl⟩ : ∃ t0 ts1, ts = t0 :: ts1 := by
    cases ts with
    | nil => have := hQ.len; rw [hq] at this; simp at this
    | cons t r => exact ⟨t, r, rfl⟩
  obtain ⟨f0, h1, h2⟩ := hQ.at' 0 t0 q rfl (by rw [hq]; rfl)
  have hqn : Path T W q.pl q.price q.row := hS.node q (by rw [hq]; exact .head _)
  have hqle := hqn.le
  have hsum := places_sum (n := T.length) hTl hS.pnd hS.plt
  have hmade : S.made ≤ 41 := by lia
  refine t_bool ?_ (by with_unfolding_all rfl)
  refine e_callF ?_ (by with_unfolding_all rfl)
  tb_rel
  refine exI3 49 o49 fd49 ⟨rfl, hd49, ?_⟩
  refine ev_items_cons ?_ (by with_unfolding_all rfl)
  repeat tb_rel
  intro v1 u1 q1 q2
  refine v_item (xs := (t0 :: ts1).map AV.ref) (b := .ref t0) q1 q2 (.tail _ (.tail _ (.head _))) (by decide) (by decide) rfl ?_
  repeat tb_rel
  intro v2 u2 q3 q4
  refine v_itemTup (xs := [.int q.price, .int q.num, .ref f0]) (b := .ref f0) q3 q4 (.tail _ (.tail _ (.tail _ (.tail _ (.tail _ (.tail _ h1)))))) (by decide) (by decide) rfl ?_
  repeat tb_rel
  intro v3 u3 q5 q6
  refine v_itemNeg (xs := (q.form T.length).map AV.int) (b := .int (lastOf (q.form T.length))) q5 q6 (.tail _ (.tail _ (.tail _ (.tail _ (.tail _ (.tail _ h2)))))) (by decide) (by decide) (by have := List.length_pos_iff.mpr (form_ne T.length q); rw [List.length_map]; lia) (last_get _ (form_ne T.length q)) ?_
  rw [form_last]
  intro v4 q7
  refine ev_items_nil ⟨ObjAt.base ho49, ?_⟩
  refine isNT_call (n := n + 5) ok q7 ?_
  rw [goal_ge _ _ hqle]
  refine ⟨_, rfl, ?_⟩
  by_cases hlt : q.pl < T.length
  · first | refine if_pos' (by simpa using hlt) ?_ | rw [if_pos (by simpa using hlt)]
    repeat tb_rel
    refine s_assignTup ?_ (by with_unfolding_all rfl) (by with_unfolding_all rfl)
    refine e_methList PySem.F.slot_list_pop PySem.F.type_list_pop ?_ (by with_unfolding_all rfl) (by with_unfolding_all rfl) (by with_unfolding_all rfl)
    tb_rel
    refine ⟨qa, _, rfl, .tail _ (.tail _ (.head _)), ?_⟩
    refine v_callWith ?_ (by with_unfolding_all rfl) (by with_unfolding_all rfl)
    refine ev_items_cons ?_ (by with_unfolding_all rfl)
    tb_rel
    intro v5 q8
    refine ev_items_nil ?_
    have hts : ts1.length + 1 = S.queue.length := hQ.len
    have hcount := hS.count
    refine v_popAt (k := 0) (xs := (t0 :: ts1).map AV.ref) (x := .ref t0) (l' := (L, lawF lv (some (.ref wa)) (some (.int T.length)) (some (.str T)) (some (.ref qa)) (some (.int S.made)) (some (.ref ta)) nv fv pv stv gv wv tv sv ov mv) :: (c_price, Ent.cell pr) :: (qa, Ent.list (ts1.map AV.ref)) :: (84, e) :: (ta, Ent.list (as.map AV.ref)) :: (pa, Ent.list ((castZ S.places).map AV.int)) :: (X ++ G)) (Rep.ref_mk qa) (by simpa using q8) (by rw [List.length_map, List.length_cons]; lia) rfl (.tail (.tail .head)) ?_
    intro v6 q9
    refine ev_assignTup3 ok q9 (.tail _ (.tail _ (.tail _ (.tail _ (.tail _ (.tail _ h1)))))) ?_
    intro v7 v8 v9 r7 r8 r9
    refine e_cset hE y_price r7 (.tail .head) ?_
    refine e_setM hE x_number rfl r8 .head ?_
    refine e_setM hE x_form rfl r9 .head ?_
    repeat tb_rel
    refine s_append ?_ hI (by with_unfolding_all rfl) (by with_unfolding_all rfl) (by with_unfolding_all rfl) (by with_unfolding_all rfl) (by with_unfolding_all rfl)
    tb_rel
    refine ⟨ta, _, rfl, .tail _ (.tail _ (.tail _ (.tail _ (.head _)))), ?_⟩
    refine e_Tuple (ev_items_cons ?_ (by with_unfolding_all rfl))
    tb_rel
    intro v10 q10
    refine ev_items_cons ?_ (by with_unfolding_all rfl)
    tb_rel
    intro v11 q11
    refine ev_items_nil ⟨[_, _], .cons q10 (.cons q11 .nil), by simp; lia, fun tt => ?_⟩
    refine ⟨_, _, by rw [List.length_map, hTk.len]; lia, .tail (.tail (.tail (.tail (.tail .head)))), ?_⟩
    refine Ev.perm (List.perm_middle (l₁ := [(L, _), (c_price, _), (qa, _), (84, _), (ta, _), (pa, _)])) ?_
    simp only [List.cons_append, List.nil_append]
    repeat tb_rel
    intro v12 u12 q12 q13
    refine v_itemNeg (xs := (q.form T.length).map AV.int) (b := .int (lastOf (q.form T.length))) q12 q13 (.tail _ (.tail _ (.tail _ (.tail _ (.tail _ (.tail _ (.tail _ h2))))))) (by decide) (by decide) (by have := List.length_pos_iff.mpr (form_ne T.length q); rw [List.length_map]; lia) (last_get _ (form_ne T.length q)) ?_
    rw [form_last]
    have hgo : goalOf T.length q.pl - 256 = (q.pl : Int) := by unfold goalOf; rw [if_pos hlt]; lia
    repeat tb_rel
    rw [hgo]
    refine e_cvar hE y_places (.tail _ (.tail _ (.tail _ (.tail _ (.tail _ (.tail _ (.tail _ (List.mem_append_right _ hcp)))))))) ?_
    intro v13 u13 q14 q15
    refine v_in (ns := castZ S.places) q14 q15 (.tail _ (.tail _ (.tail _ (.tail _ (.tail _ (.head _)))))) ?_
    rw [mem_cast]
    refine ⟨_, rfl, ?_⟩
    rw [show List.map AV.ref as ++ [AV.ref tt] = (as ++ [tt]).map AV.ref by simp]
    have mono1 : ∀ p ∈ X ++ G, p ∈ ((tt, Ent.tup [.int q.price, .int q.num]) :: X) ++ G := fun p hp => .tail _ hp
    have hQr : QRep (((tt, Ent.tup [.int q.price, .int q.num]) :: X) ++ G) T.length ts1 rest := by
      rw [hq] at hQ; exact hQ.tail.mono mono1
    have hTr : TRep (((tt, Ent.tup [.int q.price, .int q.num]) :: X) ++ G) (as ++ [tt]) (S.taken ++ [q.key]) := (hTk.mono mono1).snoc (.head _)
    by_cases hpin : q.pl ∈ S.places
    · first | refine if_neg' (by simpa using hpin) ?_ | rw [if_neg (by simpa using hpin)]
      repeat tb_rel
      refine kQ _ _ ?_
      dsimp only
      refine ⟨(T.length - S.places.length) * 64 + rest.length, by rw [hq, List.length_cons]; lia, (exI14 ((tt, Ent.tup [.int q.price, .int q.num]) :: X) ts1 (as ++ [tt]) ⟨rest, S.taken ++ [q.key], S.places, S.made⟩ e (some (.int q.price)) (some (.int q.num)) (some (.ref f0)) (some (.int q.pl)) stv gv wv tv sv ⟨List.Perm.refl _, ?_, hm, hQr, hTr, hLam.mono mono1, rfl⟩)⟩
      exact hS.pop hq (fun i hi => hi) hpin (fun i hi => .inl hi) hS.pnd hS.plt (fun i j w hi _ => hi)
    · first | refine if_pos' (by simpa using hpin) ?_ | rw [if_pos (by simpa using hpin)]
      have hbst := hS.best hB hq hpin
      obtain ⟨d, hd, hld⟩ := hlst q.pl hqle
      have hdq := hbst.unique hd
      subst hdq
      repeat tb_rel
      refine e_cvar hE y_least (.tail _ (.tail _ (.tail _ (.tail _ (.tail _ (.tail _ (.tail _ (List.mem_append_right _ hcl)))))))) ?_
      repeat tb_rel
      intro v14 u14 q16 q17
      refine v_item (xs := lst.map AV.int) (b := .int q.price) q16 q17 (.tail _ (.tail _ (.tail _ (.tail _ (.tail _ (.tail _ (.tail _ (List.mem_append_right _ hla)))))))) (by first | exact Int.natCast_nonneg _ | lia) (by lia) (by rw [Int.toNat_natCast, List.getElem?_map, hld]; rfl) ?_
      repeat tb_rel
      first | refine if_neg' (by simp) ?_ | rw [if_neg (by simp)]
      repeat tb_rel
      refine s_append ?_ hI (by with_unfolding_all rfl) (by with_unfolding_all rfl) (by with_unfolding_all rfl) (by with_unfolding_all rfl) (by with_unfolding_all rfl)
      refine e_cvar hE y_places (.tail _ (.tail _ (.tail _ (.tail _ (.tail _ (.tail _ (.tail _ (List.mem_append_right _ hcp)))))))) ?_
      refine ⟨pa, _, rfl, .tail _ (.tail _ (.tail _ (.tail _ (.tail _ (.head _))))), ?_⟩
      tb_rel
      have hpl' := places_len (n := T.length) hS.pnd hS.plt hpin hlt
      refine ⟨_, _, by simp [castZ]; lia, .tail (.tail (.tail (.tail (.tail .head)))), ?_⟩
      rw [show (castZ S.places).map AV.int ++ [AV.int (q.pl : Int)] = (castZ (S.places ++ [q.pl])).map AV.int by simp [castZ]]
      have hS2 : Inv T W (fun i' _ _ => i' ≠ q.pl) ⟨rest, S.taken ++ [q.key], S.places ++ [q.pl], S.made⟩ :=
        hS.pop hq (fun i hi => List.mem_append_left _ hi) (List.mem_append_right _ (.head _)) (fun i hi => by
          rcases List.mem_append.mp hi with h | h
          · exact .inl h
          · exact .inr (by simpa using h)) (List.nodup_append.mpr ⟨hS.pnd, by simp, fun a ha b hb e => by simp at hb; subst hb; exact hpin (e ▸ ha)⟩) (fun i hi => by
          rcases List.mem_append.mp hi with h | h
          · exact hS.plt i h
          · simp at h; subst h; exact hlt) (fun i j w hi hne => by
          rcases List.mem_append.mp hi with h | h
          · exact h
          · simp at h; exact absurd h hne)
      have htk2 := hS.takenLe hq
      repeat tb_rel
      refine Ev.on (G := [(ta, Ent.list ((as ++ [tt]).map AV.ref)), (pa, Ent.list ((castZ (S.places ++ [q.pl])).map AV.int))]) (law_stop (n := n) ok bm hhd h84 H hT (by lia) hW hWl (S := ⟨rest, S.taken ++ [q.key], S.places ++ [q.pl], S.made⟩) hS2 (by show S.made ≤ 100; lia) hqn hbst hlt htk2 (G := ((tt, Ent.tup [.int q.price, .int q.num]) :: X) ++ G)
        hQr (.tail _ h2) (List.mem_append_right _ hwa) (hLam.mono mono1)) (List.Perm.cons _ (List.Perm.cons _ (List.Perm.cons _ (List.Perm.cons _ List.perm_append_comm)))) ?_
      rintro f' l'' hxx1
      refine byG fun gG kgG => ?_
      obtain ⟨rfl, hyy1⟩ := hxx1
      refine exE9 hyy1 fun X' ts' S' e' stv' gv' wv' tv' sv' hzz1 => ?_
      clear hyy1
      obtain ⟨hperm', hS', hm', htk', hpl2, hQ', hLam'⟩ := hzz1
      refine kgG ?_
      clear kgG gG
      refine Ev.perm ((List.Perm.cons _ (List.Perm.cons _ (List.Perm.cons _ (List.Perm.cons _ List.perm_append_comm)))).trans (hperm'.append_right _) : ((L, _) :: (c_price, _) :: (qa, _) :: (84, e') :: (([(ta, Ent.list ((as ++ [tt]).map AV.ref)), (pa, Ent.list ((castZ (S.places ++ [q.pl])).map AV.int))] : Ledger) ++ (X' ++ (((tt, Ent.tup [.int q.price, .int q.num]) :: X) ++ G)))).Perm _) ?_
      simp only [List.cons_append, List.nil_append]
      repeat tb_rel
      have hpl3 : S'.places = S.places ++ [q.pl] := hpl2
      have htk3 : S'.taken = S.taken ++ [q.key] := htk'
      have hm3 : S'.made = S.made + 4 * (T.length - q.pl) := hm'
      have hc3 := hS'.count
      have e1 : S'.taken.length = S.taken.length + 1 := by rw [htk3]; simp
      have e2 : S'.places.length = S.places.length + 1 := by rw [hpl3]; simp
      rw [← hpl3]
      have e3 : X' ++ ((tt, Ent.tup [.int q.price, .int q.num]) :: (X ++ G)) = (X' ++ ((tt, Ent.tup [.int q.price, .int q.num]) :: X)) ++ G := by simp
      have e4 : X' ++ (((tt, Ent.tup [.int q.price, .int q.num]) :: X) ++ G) = (X' ++ ((tt, Ent.tup [.int q.price, .int q.num]) :: X)) ++ G := by simp
      rw [e4] at hQ' hLam'
      refine kQ _ _ ?_
      dsimp only
      refine ⟨(T.length - S'.places.length) * 64 + S'.queue.length, by lia, (exI14 (X' ++ ((tt, Ent.tup [.int q.price, .int q.num]) :: X)) ts' (as ++ [tt]) S' e' (some (.int q.price)) (some (.int q.num)) (some (.ref f0)) (some (.int q.pl)) stv' gv' wv' tv' sv' ⟨?_, hS', ?_, hQ', ?_, hLam', rfl⟩)⟩
      · rw [e3]
      · rw [hm3, hpl3, List.map_append, List.sum_append]
        simp
        lia
      · rw [htk3]
        exact hTr.mono fun p hp => by rw [List.append_assoc]; exact List.mem_append_right _ hp
  · first | refine if_neg' (by simpa using hlt) ?_ | rw [if_neg (by simpa using hlt)]
    refine kM _ ?_
    exact ⟨rfl, (exI14 X (t0 :: ts1) as S e pr nv fv pv stv gv wv tv sv ⟨List.Perm.refl _, hS, hm, hQ, hTk, hLam, q, rest, hq, by lia⟩)⟩
end
section
set_option linter.unusedVariables false
set_option maxRecDepth 100000
set_option maxHeartbeats 8000000
noncomputable def toZ (p : Nat × Nat) : Int × Int := ((p.1 : Int), (p.2 : Int))
theorem lex_toZ {l : List (Nat × Nat)} (h : l.Pairwise LexN) : (l.map toZ).Pairwise Lex := by
  rw [List.pairwise_map]
  refine h.imp fun {a b} hab => ?_
  unfold LexN at hab
  unfold Lex toZ
  simp only
  lia
theorem tok_lt (w : List Nat) : TOK w < 256 := by
  unfold TOK
  have : OPS.idxOf w ≤ 48 := by
    have := List.idxOf_le_length (a := w) (l := OPS)
    have e : OPS.length = 48 := by decide
    lia
  lia
theorem tok_get {w : List Nat} (h : w ∈ OPS) : (txts OPS)[(TOK w - 7).toNat]? = some (.str w) := by
  unfold TOK txts
  have hi : OPS.idxOf w < OPS.length := List.idxOf_lt_length_of_mem h
  rw [show (((OPS.idxOf w + 7 : Nat) : Int) - 7).toNat = OPS.idxOf w by lia, List.getElem?_map, List.getElem?_eq_getElem hi]
  simp
theorem flat_len : ∀ (r : List (List Nat)), (∀ w ∈ r, w.length ≤ 3) → r.flatten.length ≤ 3 * r.length
  | [], _ => by simp
  | w :: r, h => by
    have h1 := h w (.head _)
    have h2 := flat_len r fun w hw => h w (.tail _ hw)
    rw [List.flatten_cons, List.length_append, List.length_cons]
    lia
theorem law_tail {c : Cx} {n : Nat} {env : Env} {L c_script c_sums c_signs c_least c_places c_price c_names : Addr} (ok : Ok KF c (n + 6)) (H : LawEnv c env L c_script c_sums c_signs c_least c_places c_price c_names)
    {T : List Nat} {W : List (List Nat)} (hT : Plain T) (hTl : T.length = 3 ∨ T.length = 4) (hW : ∀ w ∈ W, w ∈ OPS) {lst : List Int} (hll : lst.length = T.length + 1) (hlst : ∀ k, k ≤ T.length → ∃ d, Best T W k d ∧ lst[k]? = some (d : Int))
    {G : Ledger} {wa qa ta pa la : Addr} {lv nv fv pv stv gv wv tv sv ov mv pr : Option AV} {S : St} {ts as : List Addr} {q : Itm} {rest : List Itm} (hla : (la, Ent.list (lst.map AV.int)) ∈ G) (hcl : (c_least, Ent.cell (some (.ref la))) ∈ G) (hcp : (c_places, Ent.cell (some (.ref pa))) ∈ G)
    (hS : Inv T W (fun _ _ _ => True) S) (hm : S.made = 1 + 4 * (S.places.map fun i => T.length - i).sum) (hQ : QRep G T.length ts S.queue) (hTk : TRep G as S.taken) (hq : S.queue = q :: rest) (hqn : q.pl = T.length) :
    Ev c ((L, lawF lv (some (.ref wa)) (some (.int T.length)) (some (.str T)) (some (.ref qa)) (some (.int S.made)) (some (.ref ta)) nv fv pv stv gv wv tv sv ov mv) :: (c_price, Ent.cell pr) :: (c_names, Ent.cell none) :: (qa, Ent.list (ts.map AV.ref)) :: (ta, Ent.list (as.map AV.ref)) :: (pa, Ent.list ((castZ S.places).map AV.int)) :: G) (execs (lawB.drop 12) env)
      fun f l' => ∃ v, f = Flow.ret v ∧ Rep v (.bool true) := by
  have H' := H
  obtain ⟨hE, hG, hI, hcode, hqual, x_left, x_words, x_size, x_text, x_queue, x_made, x_taken, x_number, x_form, x_place, x_stop, x_goal, x_word, x_told, x_symbols, x_order, x_mended, y_script, y_sums, y_signs, y_least, y_places, y_price, y_names, g_law_operators, g_law_one_pass, g_levenshtein_distance, g_ISNONTERMINAL, g_ISEOF, g_insort_right, g_EXACT_TOKEN_TYPES, g_NT_OFFSET, g_ENDMARKER, g_enumerate, g_len, g_sum, g_range, g_sorted⟩ := H'
  have hsl : sizeLine = 16777216 := sizeLine_eq
  have hB : ∀ i, i ≤ T.length → ∃ d, Best T W i d := fun i hi => let ⟨d, hd, _⟩ := hlst i hi; ⟨d, hd⟩
  have hsum := places_sum (n := T.length) hTl hS.pnd hS.plt
  have hmade : S.made ≤ 41 := by lia
  have hcount := hS.count
  have hql := hQ.len
  have htl := hTk.len
  show Ev c _ (execs (_ :: _ :: _ :: _ :: _ :: _ :: _ :: _ :: []) env) _
  repeat tb_rel
  refine e_comp (ts.map AV.ref) [(qa, .list (ts.map AV.ref))] (fun i ys l' => ∃ Y os, l' = (L, lawF lv (some (.ref wa)) (some (.int T.length)) (some (.str T)) (some (.ref qa)) (some (.int S.made)) (some (.ref ta)) nv fv pv stv gv wv tv sv ov mv) :: (c_price, Ent.cell pr) :: (c_names, Ent.cell none) :: (qa, Ent.list (ts.map AV.ref)) :: (ta, Ent.list (as.map AV.ref)) :: (pa, Ent.list ((castZ S.places).map AV.int)) :: (Y ++ G) ∧ ys = os.map AV.ref ∧ TRep (Y ++ G) os ((S.queue.take i).map Itm.key))
    (closure_of [] rfl (by simp)) rfl (by decide) (by rw [List.length_map, hql]; lia) ?_ ?_ ?_ ?_
  · tb_rel
    intro v1 q1
    exact v_iterList ok q1 (.tail _ (.tail _ (.tail _ (.head _)))) fun I hI => exI3 I _ _ ⟨rfl, rfl, hI, [], [], rfl, rfl, ⟨rfl, fun k a p h => by simp at h⟩⟩
  · rintro i ys l' hxx1 p hp
    refine byG fun gG kgG => ?_
    obtain ⟨Y, os, rfl, rfl, hO⟩ := hxx1
    refine kgG ?_
    clear kgG gG
    have : p = (qa, .list (ts.map AV.ref)) := by simpa using hp
    subst this
    exact .tail _ (.tail _ (.tail _ (.head _)))
  · rintro C cs env' i a ys l' ⟨n', ecs⟩ eenv hi hxx1 v rv
    refine byG fun gG kgG => ?_
    obtain ⟨Y, os, rfl, rfl, hO⟩ := hxx1
    refine kgG ?_
    clear kgG gG
    refine compgen fun Qc1 Qc2 kc1 kc2 => ?_
    have ecs' : cs = [] := ecs
    subst ecs'
    have hit : i < ts.length := by simpa using (List.getElem?_eq_some_iff.mp hi).1
    have hiq : i < S.queue.length := by lia
    obtain ⟨f, h1, h2⟩ := hQ.at' i ts[i] S.queue[i] (List.getElem?_eq_getElem hit) (List.getElem?_eq_getElem hiq)
    have ha : a = .ref ts[i] := by rw [List.getElem?_map, List.getElem?_eq_getElem hit] at hi; simp at hi; exact hi.symm
    subst ha
    have hE' : EnvAt env' C := eenv ▸ comp_at rfl
    have y_one : Var env' [Str.ofString "one"] (Str.ofString "one") 0 := eenv ▸ comp_var (by decide) (by decide) (by decide) (by decide)
    clear eenv ecs
    rw [compL_1 (Str.ofString "one")]
    refine ev_assignName ?_
    refine e_setM hE' y_one rfl rv .head ?_
    refine ev_tests0 (if_t ?_)
    refine e_Tuple (ev_items_cons ?_ (by with_unfolding_all rfl))
    repeat tb_rel
    intro v2 u2 q2 q3
    refine v_itemTup (xs := [.int S.queue[i].price, .int S.queue[i].num, .ref f]) (b := .int S.queue[i].price) q2 q3 (.tail _ (.tail _ (.tail _ (.tail _ (.tail _ (.tail _ (.tail _ (List.mem_append_right _ h1)))))))) (by decide) (by decide) rfl ?_
    intro v3 q4
    refine ev_items_cons ?_ (by with_unfolding_all rfl)
    repeat tb_rel
    intro v4 u4 q5 q6
    refine v_itemTup (xs := [.int S.queue[i].price, .int S.queue[i].num, .ref f]) (b := .int S.queue[i].num) q5 q6 (.tail _ (.tail _ (.tail _ (.tail _ (.tail _ (.tail _ (.tail _ (List.mem_append_right _ h1)))))))) (by decide) (by decide) rfl ?_
    intro v5 q7
    refine ev_items_nil ⟨[_, _], .cons q4 (.cons q7 .nil), by simp; lia, fun tt => ?_⟩
    refine kc1 _ _ (exI2 [(C, _)] ((L, _) :: (c_price, _) :: (c_names, _) :: (qa, _) :: (ta, _) :: (pa, _) :: (tt, _) :: (Y ++ G)) ⟨List.perm_middle (l₁ := [(C, _), (L, _), (c_price, _), (c_names, _), (qa, _), (ta, _), (pa, _)]), rfl, (tt, Ent.tup [.int S.queue[i].price, .int S.queue[i].num]) :: Y, os ++ [tt], rfl, by simp, ?_⟩)
    rw [List.take_add_one, List.getElem?_eq_getElem hiq]
    simp only [Option.toList_some, List.map_append, List.map_cons, List.map_nil]
    exact (hO.mono fun p hp => .tail _ hp).snoc (p := S.queue[i].key) (.head _)
  · rintro D ys l' hxx1 v1 u1 q1 q2
    refine byG fun gG kgG => ?_
    obtain ⟨Y, os, rfl, rfl, hO⟩ := hxx1
    refine kgG ?_
    clear kgG gG
    have e1 : S.queue.take (ts.map AV.ref).length = S.queue := by rw [List.length_map, hql, List.take_length]
    rw [e1] at hO
    have hol := hO.len
    rw [List.length_map] at hol
    refine v_cat (xs := as.map AV.ref) (ys := os.map AV.ref) q1 q2 (.tail _ (.tail _ (.tail _ (.tail _ (.tail _ (.head _)))))) (.head _) (by rw [List.length_map, List.length_map]; lia) fun od => ?_
    rw [← List.map_append]
    repeat tb_rel
    have hpne : S.places ≠ [] := by
      intro e
      rw [e] at hm
      have h1 : S.made = 1 := by simpa using hm
      have h2 : rest = [] := by
        rw [hq, List.length_cons] at hcount
        exact List.length_eq_zero_iff.mp (by lia)
      rcases hS.base with h3 | ⟨x, hx, h3, _⟩
      · rw [e] at h3; cases h3
      · rw [hq, h2] at hx
        simp at hx
        subst hx
        lia
    have hmade2 : 2 ≤ S.made := by
      obtain ⟨a, r, e⟩ := List.exists_cons_of_ne_nil hpne
      have := hS.plt a (by rw [e]; exact .head _)
      rw [e, List.map_cons, List.sum_cons] at hm
      lia
    have hlo : (as ++ os).length = S.made := by rw [List.length_append]; lia
    refine e_sorted ok g_sorted ?_ (by with_unfolding_all rfl)
    tb_rel
    refine ⟨L, od, _, as ++ os, (S.taken ++ S.queue.map Itm.key).map toZ, rfl, .tail _ (.tail _ (.head _)), .head _, by rw [hlo, List.length_map, List.length_append, List.length_map]; lia, ?_, by lia, by lia, lex_toZ hS.sorted, fun sd v2 u2 q3 q4 => v_neRefs ok q3 q4 (.tail _ (.head _)) (.head _) ⟨_, rfl, ?_⟩⟩
    · intro i b p hb hp
      obtain ⟨p', hp', rfl⟩ : ∃ p', (S.taken ++ S.queue.map Itm.key)[i]? = some p' ∧ toZ p' = p := by
        rw [List.getElem?_map] at hp
        simpa using hp
      refine .tail _ (.tail _ (.tail _ (.tail _ (.tail _ (.tail _ (.tail _ (.tail _ ?_)))))))
      by_cases hi : i < as.length
      · rw [List.getElem?_append_left hi] at hb
        rw [List.getElem?_append_left (by lia)] at hp'
        exact List.mem_append_right _ (hTk.at' i b p' hb hp')
      · rw [List.getElem?_append_right (by lia)] at hb
        rw [List.getElem?_append_right (by lia)] at hp'
        exact hO.at' (i - as.length) b p' hb (by rw [htl]; exact hp')
    repeat tb_rel
    refine e_lenList g_len ?_ (by with_unfolding_all rfl)
    tb_rel
    refine ⟨od, _, rfl, .tail _ (.head _), by rw [List.length_map]; lia, ?_⟩
    rw [List.length_map, hlo]
    repeat tb_rel
    first | refine if_neg' (by simp) ?_ | rw [if_neg (by simp)]
    repeat tb_rel
    obtain ⟨t0, ts1, rfl⟩ : ∃ t0 ts1, ts = t0 :: ts1 := by
      cases ts with
      | nil => rw [hq] at hql; simp at hql
      | cons t r => exact ⟨t, r, rfl⟩
    obtain ⟨f0, h1, h2⟩ := hQ.at' 0 t0 q rfl (by rw [hq]; rfl)
    have hpath : Path T W q.pl q.price q.row := hS.node q (by rw [hq]; exact .head _)
    have h1' : (t0, Ent.tup [.int q.price, .int q.num, .ref f0]) ∈ Y ++ G := List.mem_append_right _ h1
    have h2' : (f0, Ent.list ((q.form T.length).map AV.int)) ∈ Y ++ G := List.mem_append_right _ h2
    refine Ev.weak (l' := (L, _) :: (c_price, _) :: (c_names, _) :: (qa, _) :: (ta, _) :: (pa, _) :: (Y ++ G)) ((List.Sublist.refl _).cons _ |>.cons _ |>.cons _) ?_
    dsimp only [List.set]
    refine s_assignTup ?_ (by with_unfolding_all rfl) (by with_unfolding_all rfl)
    repeat tb_rel
    intro v3 u3 q3 q4
    refine v_item (xs := (t0 :: ts1).map AV.ref) (b := .ref t0) q3 q4 (.tail _ (.tail _ (.tail _ (.head _)))) (by decide) (by decide) rfl ?_
    intro v6 q9
    refine ev_assignTup3 ok q9 (.tail _ (.tail _ (.tail _ (.tail _ (.tail _ (.tail _ h1')))))) ?_
    intro v7 v8 v9 r7 r8 r9
    refine e_cset hE y_price r7 (.tail .head) ?_
    refine e_setM hE x_number rfl r8 .head ?_
    refine e_setM hE x_form rfl r9 .head ?_
    repeat tb_rel
    dsimp only [List.set]
    obtain ⟨o56, fd56, ho56, hd56⟩ : ∃ o fd, c.h₀.get? 56 = some o ∧ o.data = .func fd := ⟨_, _, ok.k 56 _ rfl, rfl⟩
    obtain ⟨o42, fd42, ho42, hd42⟩ : ∃ o fd, c.h₀.get? 42 = some o ∧ o.data = .func fd := ⟨_, _, ok.k 42 _ rfl, rfl⟩
    refine t_bool ?_ (by with_unfolding_all rfl)
    refine e_callF ?_ (by with_unfolding_all rfl)
    tb_rel
    refine exI3 56 o56 fd56 ⟨rfl, hd56, ?_⟩
    refine ev_items_cons ?_ (by with_unfolding_all rfl)
    repeat tb_rel
    intro v5 u5 q5 q6
    refine v_itemNeg (xs := (q.form T.length).map AV.int) (b := .int (lastOf (q.form T.length))) q5 q6 (.tail _ (.tail _ (.tail _ (.tail _ (.tail _ (.tail _ h2')))))) (by decide) (by decide) (by have := List.length_pos_iff.mpr (form_ne T.length q); rw [List.length_map]; lia) (last_get _ (form_ne T.length q)) ?_
    rw [form_last]
    intro v10 q10
    refine ev_items_nil ⟨ObjAt.base ho56, ?_⟩
    refine isEOF_call (n := n + 5) ok q10 ?_
    refine ⟨_, rfl, ?_⟩
    rw [hqn, show (goalOf T.length T.length == 0) = true by unfold goalOf; rw [if_neg (by lia)]; rfl]
    first | refine if_neg' (by simp) ?_ | rw [if_neg (by simp)]
    repeat tb_rel
    have hfl : (q.form T.length).length ≤ 5 := by
      have := hpath.rlen
      simp [Itm.form]; lia
    refine EvV.var fun B hBv => ?_
    refine e_comp ((q.form T.length).map AV.int) [(f0, .list ((q.form T.length).map AV.int))] (fun i ys l' => l' = B ∧ ys = [])
      (closure_of [] rfl (by simp)) rfl (by decide) (by rw [List.length_map]; lia) ?_ ?_ ?_ ?_
    · subst hBv
      tb_rel
      intro v11 q11
      exact v_iterList ok q11 (.tail _ (.tail _ (.tail _ (.tail _ (.tail _ (.tail _ h2')))))) fun I hI => exI3 I _ _ ⟨rfl, rfl, hI, rfl, rfl⟩
    · rintro i ys l' ⟨hl, rfl⟩ p hp
      have : p = (f0, .list ((q.form T.length).map AV.int)) := by simpa using hp
      subst this hl hBv
      exact .tail _ (.tail _ (.tail _ (.tail _ (.tail _ (.tail _ h2')))))
    · rintro C cs env' i a ys l' ⟨n', ecs⟩ eenv hi ⟨hl, rfl⟩ v rv
      refine compgen fun Qc1 Qc2 kc1 kc2 => ?_
      clear hBv
      have ecs' : cs = [] := ecs
      subst ecs'
      obtain ⟨z, hz, rfl⟩ : ∃ z ∈ q.form T.length, a = .int z := by
        obtain ⟨z, hz, e⟩ := List.mem_map.mp (List.mem_of_getElem? hi)
        exact ⟨z, hz, e.symm⟩
      have hz256 : z < 256 := by
        rcases List.mem_append.mp hz with h | h
        · obtain ⟨w, _, rfl⟩ := List.mem_map.mp h
          exact tok_lt w
        · simp [hqn, goalOf] at h; lia
      have hE' : EnvAt env' C := eenv ▸ comp_at rfl
      have y_one : Var env' [Str.ofString "one"] (Str.ofString "one") 0 := eenv ▸ comp_var (by decide) (by decide) (by decide) (by decide)
      have g_t : Glo c env' (Str.ofString "ISTERMINAL") (.ref 42) := eenv ▸ comp_glob ok hG rfl (by decide) (by decide) rfl (Rep.ref_mk _)
      clear eenv ecs
      rw [compL_1 (Str.ofString "one")]
      refine ev_assignName ?_
      refine e_setM hE' y_one rfl rv .head ?_
      refine ev_tests1 (ev_not ?_)
      refine t_bool ?_ (by with_unfolding_all rfl)
      refine e_callF ?_ (by with_unfolding_all rfl)
      refine e_glo g_t ?_
      refine exI3 42 o42 fd42 ⟨rfl, hd42, ?_⟩
      refine ev_items_cons ?_ (by with_unfolding_all rfl)
      repeat tb_rel
      intro v12 q12
      refine ev_items_nil ⟨ObjAt.base ho42, ?_⟩
      refine isT_call (n := n + 5) ok q12 ⟨_, rfl, ?_⟩
      rw [show decide (z < 256) = true by simpa using hz256]
      first | refine if_neg' (by simp) ?_ | rw [if_neg (by simp)]
      exact kc2 _ (exI2 [(C, _)] _ ⟨List.Perm.refl _, rfl, hl, rfl⟩)
    · rintro D' ys l' ⟨hl, rfl⟩
      subst hl hBv
      refine e_List (ev_items_nil ⟨[], .nil, by simp, fun em => ?_⟩)
      intro v13 u13 q13 q14
      refine v_neRefs (as := []) ok q13 q14 (.tail _ (.head _)) (.head _) ⟨_, rfl, ?_⟩
      refine if_f ?_
      repeat tb_rel
      refine Ev.weak (l' := (L, _) :: (c_price, _) :: (c_names, _) :: (qa, _) :: (ta, _) :: (pa, _) :: (Y ++ G)) ((List.Sublist.refl _).cons _ |>.cons _) ?_
      have hbq := hS.best hB hq (fun h => by have := hS.plt _ h; lia)
      rw [hqn] at hbq
      obtain ⟨d, hd, hld⟩ := hlst T.length (Nat.le_refl _)
      have hdq := hbq.unique hd
      subst hdq
      refine e_cvar hE y_least (.tail _ (.tail _ (.tail _ (.tail _ (.tail _ (.tail _ (List.mem_append_right _ hcl))))))) ?_
      repeat tb_rel
      intro v14 u14 q15 q16
      refine v_item (xs := lst.map AV.int) (b := .int q.price) q15 q16 (.tail _ (.tail _ (.tail _ (.tail _ (.tail _ (.tail _ (List.mem_append_right _ hla))))))) (by first | exact Int.natCast_nonneg _ | lia) (by lia) (by rw [Int.toNat_natCast, List.getElem?_map, hld]; rfl) ?_
      repeat tb_rel
      first | refine if_neg' (by simp) ?_ | rw [if_neg (by simp)]
      repeat tb_rel
      refine EvV.var fun B hBv => ?_
      have mcl : (c_least, Ent.cell (some (.ref la))) ∈ B := hBv ▸ .tail _ (.tail _ (.tail _ (.tail _ (.tail _ (.tail _ (List.mem_append_right _ hcl))))))
      have mla : (la, Ent.list (lst.map AV.int)) ∈ B := hBv ▸ .tail _ (.tail _ (.tail _ (.tail _ (.tail _ (.tail _ (List.mem_append_right _ hla))))))
      have mcp : (c_places, Ent.cell (some (.ref pa))) ∈ B := hBv ▸ .tail _ (.tail _ (.tail _ (.tail _ (.tail _ (.tail _ (List.mem_append_right _ hcp))))))
      have mpa : (pa, Ent.list ((castZ S.places).map AV.int)) ∈ B := hBv ▸ .tail _ (.tail _ (.tail _ (.tail _ (.tail _ (.head _)))))
      have mpr : (c_price, Ent.cell (some (.int q.price))) ∈ B := hBv ▸ .tail _ (.head _)
      refine e_comp (rangeItems 0 1 T.length) [] (fun i ys l' => l' = B ∧ ys = [])
        (closure_of [(Str.ofString "price", c_price), (Str.ofString "places", c_places), (Str.ofString "least", c_least)] rfl (fun p hp => by
          rcases List.mem_cons.mp hp with rfl | hp
          · exact y_price.cell
          rcases List.mem_cons.mp hp with rfl | hp
          · exact y_places.cell
          rcases List.mem_cons.mp hp with rfl | hp
          · exact y_least.cell
          cases hp)) rfl (by decide) (by simp [rangeItems]; lia) ?_ (fun _ _ _ _ p hp => nomatch hp) ?_ ?_
      · subst hBv
        refine e_range1 g_range ?_ (by with_unfolding_all rfl)
        tb_rel
        exact ⟨_, rfl, fun r v15 q17 => v_iterRange' ok q17 (small_of (by lia) (by lia) (by lia) (by lia)) (by rw [size_of (by lia)]; lia) fun I hI => exI3 I _ _ ⟨rfl, rfl, hI, rfl, rfl⟩⟩
      · rintro C cs env' i a ys l' ⟨n', ecs⟩ eenv hi ⟨hl, rfl⟩ v rv
        refine compgen fun Qc1 Qc2 kc1 kc2 => ?_
        subst hl
        clear hBv
        have ecs' : cs = [] := ecs
        subst ecs'
        obtain ⟨hiT, rfl⟩ := rangeItems_get hi
        have hE' : EnvAt env' C := eenv ▸ comp_at rfl
        have y_k : Var env' [Str.ofString "k"] (Str.ofString "k") 0 := eenv ▸ comp_var (by decide) (by decide) (by decide) (by decide)
        have z_least : CVar env' (Str.ofString "least") c_least := eenv ▸ comp_free hE y_least (by decide) rfl
        have z_places : CVar env' (Str.ofString "places") c_places := eenv ▸ comp_free hE y_places (by decide) rfl
        have z_price : CVar env' (Str.ofString "price") c_price := eenv ▸ comp_free hE y_price (by decide) rfl
        clear eenv ecs
        rw [compL_1 (Str.ofString "k")]
        refine ev_assignName ?_
        refine e_setM hE' y_k rfl rv .head ?_
        refine ev_tests1 ?_
        obtain ⟨d, hd, hld'⟩ := hlst i (by lia)
        repeat tb_rel
        try refine e_cvar hE' z_least (.tail _ mcl) ?_
        repeat tb_rel
        intro v16 u16 q18 q19
        refine v_item (xs := lst.map AV.int) (b := .int d) q18 q19 (.tail _ mla) (by first | exact Int.natCast_nonneg _ | lia) (by lia) (by rw [show (0 + ((i : Nat) : Int) * 1).toNat = i by lia, List.getElem?_map, hld']; rfl) ?_
        repeat tb_rel
        have hplt : (d : Int) < q.price → i ∈ S.places := fun h => hS.fin hB hq i d hiT hd (by lia)
        by_cases hlt : (d : Int) < q.price
        · first | refine if_pos' (by simpa using hlt) ?_ | rw [if_pos (by simpa using hlt)]
          repeat tb_rel
          try refine e_cvar hE' z_places (.tail _ mcp) ?_
          intro v17 u17 q20 q21
          rw [show (0 + ((i : Nat) : Int) * 1) = (i : Int) by lia] at q20
          refine v_in (ns := castZ S.places) q20 q21 (.tail _ mpa) ?_
          rw [mem_cast]
          refine ⟨_, rfl, ?_⟩
          first | refine if_neg' (by simpa using hplt hlt) ?_ | rw [if_neg (by simpa using hplt hlt)]
          repeat tb_rel
          exact kc2 _ (exI2 [(C, _)] _ ⟨List.Perm.refl _, rfl, rfl, rfl⟩)
        · first | refine if_neg' (by simpa using hlt) ?_ | rw [if_neg (by simpa using hlt)]
          repeat tb_rel
          exact kc2 _ (exI2 [(C, _)] _ ⟨List.Perm.refl _, rfl, rfl, rfl⟩)
      · clear mcl mla mcp mpa mpr
        rintro D' ys l' ⟨hl, rfl⟩
        subst hl hBv
        refine e_List (ev_items_nil ⟨[], .nil, by simp, fun em => ?_⟩)
        intro v13 u13 q13 q14
        refine v_neRefs (as := []) ok q13 q14 (.tail _ (.head _)) (.head _) ⟨_, rfl, ?_⟩
        refine if_f ?_
        repeat tb_rel
        refine e_callF0 ?_
        tb_rel
        obtain ⟨o77, fd77, ho77, hd77⟩ : ∃ o fd, c.h₀.get? 77 = some o ∧ o.data = .func fd := ⟨_, _, ok.k 77 _ rfl, rfl⟩
        refine exI3 77 o77 fd77 ⟨rfl, hd77, ObjAt.base ho77, ?_⟩
        refine ops_call (n := n + 5) ok fun na => ?_
        repeat tb_rel
        refine Ev.weak (l' := (na, _) :: (L, _) :: (c_price, _) :: (c_names, _) :: (qa, _) :: (ta, _) :: (pa, _) :: (Y ++ G)) (((List.Sublist.refl _).cons _ |>.cons _).cons_cons _) ?_
        have hrl := hpath.rlen
        have hrW : ∀ w ∈ q.row, w ∈ OPS := fun w hw => hW w (hpath.mem w hw)
        refine e_methStr PySem.F.slot_str_join PySem.F.type_str_join ?_ (by with_unfolding_all rfl) (by with_unfolding_all rfl) (by with_unfolding_all rfl)
        refine ev_str (cs := []) (by decide) ?_
        refine ⟨[], rfl, fun v19 rv19 => ?_⟩
        refine v_callWith ?_ (by with_unfolding_all rfl) (by with_unfolding_all rfl)
        refine ev_items_cons ?_ (by with_unfolding_all rfl)
        refine EvV.var fun B hBv => ?_
        have mcn : (c_names, Ent.cell (some (.ref na))) ∈ B := hBv ▸ .tail _ (.tail _ (.tail _ (.head _)))
        have mna : (na, Ent.list (txts OPS)) ∈ B := hBv ▸ .head _
        refine e_compA (α := Addr) ((q.row.map TOK).map AV.int) (fun z => [(z, .list ((q.row.map TOK).map AV.int))]) (fun z i ys l' => l' = (z, Ent.list ((q.row.map TOK).map AV.int)) :: B ∧ ys = txts (q.row.take i))
          (closure_of [(Str.ofString "names", c_names)] rfl (fun p hp => by
            rcases List.mem_cons.mp hp with rfl | hp
            · exact y_names.cell
            cases hp)) rfl (by decide) (by simp; lia) ?_ ?_ ?_ ?_
        · subst hBv
          refine e_listSlice ?_ (by intro _ _; with_unfolding_all rfl)
          repeat tb_rel
          refine ⟨f0, _, none, some (-1), rfl, .tail _ (.tail _ (.tail _ (.tail _ (.tail _ (.tail _ (.tail _ h2')))))), .none, .int _, by rw [List.length_map]; lia, fun sl => ?_⟩
          rw [Itm.form, cut_init]
          intro v20 q23
          exact v_iterList ok q23 (.head _) fun I hI => exI4 sl I _ _ ⟨rfl, rfl, hI, rfl, rfl⟩
        · rintro z i ys l' ⟨rfl, rfl⟩ p hp
          have : p = (z, .list ((q.row.map TOK).map AV.int)) := by simpa using hp
          subst this
          exact .head _
        · rintro z C cs env' i a ys l' ⟨n', ecs⟩ eenv hi ⟨rfl, rfl⟩ v rv
          refine compgen fun Qc1 Qc2 kc1 kc2 => ?_
          clear hBv
          have ecs' : cs = [] := ecs
          subst ecs'
          have hir : i < q.row.length := by simpa using (List.getElem?_eq_some_iff.mp hi).1
          have ha : a = .int (TOK q.row[i]) := by
            rw [List.getElem?_map, List.getElem?_map, List.getElem?_eq_getElem hir] at hi; simp at hi; exact hi.symm
          subst ha
          have hE' : EnvAt env' C := eenv ▸ comp_at rfl
          have y_one : Var env' [Str.ofString "one"] (Str.ofString "one") 0 := eenv ▸ comp_var (by decide) (by decide) (by decide) (by decide)
          have z_names : CVar env' (Str.ofString "names") c_names := eenv ▸ comp_free hE y_names (by decide) rfl
          clear eenv ecs
          rw [compL_1 (Str.ofString "one")]
          refine ev_assignName ?_
          refine e_setM hE' y_one rfl rv .head ?_
          refine ev_tests0 (if_t ?_)
          tb_rel
          try refine e_cvar hE' z_names (.tail _ (.tail _ mcn)) ?_
          repeat tb_rel
          intro v16 u16 q18 q19
          have hTK : 7 ≤ TOK q.row[i] := by unfold TOK; lia
          have hOL : (txts OPS).length = 48 := by decide
          have hTK' : (TOK q.row[i] - 7).toNat < (txts OPS).length := (List.getElem?_eq_some_iff.mp (tok_get (hrW _ (List.getElem_mem hir)))).1
          refine v_item (xs := txts OPS) (b := .str q.row[i]) q18 q19 (.tail _ (.tail _ mna)) (by first | exact Int.natCast_nonneg _ | lia) (by lia) (tok_get (hrW _ (List.getElem_mem hir))) ?_
          refine kc1 _ _ (exI2 [(C, _)] _ ⟨List.Perm.refl _, rfl, rfl, ?_⟩)
          rw [List.take_add_one, List.getElem?_eq_getElem hir]
          unfold txts
          rw [List.map_append]
          rfl
        · clear mcn mna
          rintro z D'' ys l' ⟨rfl, rfl⟩
          subst hBv
          rw [show q.row.take ((q.row.map TOK).map AV.int).length = q.row by simp]
          intro v21 q24
          refine ev_items_nil ?_
          have hr3 : ∀ w ∈ q.row, w.length ≤ 3 := fun w hw => (ops_plain w (hrW w hw)).2.1
          refine v_join (ts := q.row) rv19 q24 (.head _) (fun w hw => by have := hr3 w hw; lia) (by lia) ?_
          repeat tb_rel
          have hfl2 := flat_len q.row hr3
          have hD := hbq.dist (hqn ▸ hpath)
          have hDm := D_max T q.row.flatten
          obtain ⟨o70, fd70, ho70, hd70⟩ : ∃ o fd, c.h₀.get? 70 = some o ∧ o.data = .func fd := ⟨_, _, ok.k 70 _ rfl, rfl⟩
          refine ev_Compare ?_ (by with_unfolding_all rfl)
          refine e_callF ?_ (by with_unfolding_all rfl)
          tb_rel
          refine exI3 70 o70 fd70 ⟨rfl, hd70, ?_⟩
          refine ev_items_cons ?_ (by with_unfolding_all rfl)
          tb_rel
          intro v22 q25
          refine ev_items_cons ?_ (by with_unfolding_all rfl)
          tb_rel
          intro v23 q26
          refine ev_items_cons ?_ (by with_unfolding_all rfl)
          tb_rel
          intro v24 q27
          refine ev_items_nil ⟨ObjAt.base ho70, ?_⟩
          have hpf : Plain q.row.flatten := fun x hx => by
            obtain ⟨w, hw, hxw⟩ := List.mem_flatten.mp hx
            exact (ops_plain w (hrW w hw)).1 x hxw
          refine lev_call (n := n + 4) ok q25 q26 q27 hT hpf (by lia) (by lia) (by lia) (by lia) ?_
          rw [hD]
          repeat tb_rel
          intro v25 q28
          exact ⟨v25, rfl, by simpa using q28⟩
end
section
set_option linter.unusedVariables false
set_option maxRecDepth 100000
set_option maxHeartbeats 8000000
theorem law_sums {c : Cx} {n : Nat} {env : Env} {L c_script c_sums c_signs c_least c_places c_price c_names : Addr} (ok : Ok KF c (n + 6)) (H : LawEnv c env L c_script c_sums c_signs c_least c_places c_price c_names)
    {sl : Addr} {ns : List Int} {fe : Ent} {R : Ledger} (hns : ns.length ≤ 63) (hsl' : ∃ us, c.h₀.IsList sl us.toArray ∧ Reps us (ns.map AV.int)) :
    Ev c ((L, fe) :: (c_script, Ent.cell (some (.ref sl))) :: (c_sums, Ent.cell none) :: R) (exec (lawB.getD 0 default) env)
      fun f l' => f = Flow.next ∧ ∃ (X : Ledger) (p₀ : Addr × Ent) (su : Addr) (sums : List Int), l' = (su, Ent.list (sums.map AV.int)) :: p₀ :: (L, fe) :: (c_script, Ent.cell (some (.ref sl))) :: (c_sums, Ent.cell (some (.ref su))) :: (X ++ R) ∧ sums.length = 4 := by
  have H' := H
  obtain ⟨hE, hG, hI, hcode, hqual, x_left, x_words, x_size, x_text, x_queue, x_made, x_taken, x_number, x_form, x_place, x_stop, x_goal, x_word, x_told, x_symbols, x_order, x_mended, y_script, y_sums, y_signs, y_least, y_places, y_price, y_names, g_law_operators, g_law_one_pass, g_levenshtein_distance, g_ISNONTERMINAL, g_ISEOF, g_insort_right, g_EXACT_TOKEN_TYPES, g_NT_OFFSET, g_ENDMARKER, g_enumerate, g_len, g_sum, g_range, g_sorted⟩ := H'
  have hsl : sizeLine = 16777216 := sizeLine_eq
  show Ev c _ (exec (Stmt.Assign [.Name _ _] _ _) env) _
  refine s_cassign hE y_sums ?_ (swaps_cell y_sums.kind)
  refine e_compEnum [.int 26, .int 62, .int 42, .int 32] (fun ax i ys l' => ∃ (X : Ledger) (sums : List Int), l' = (ax, Ent.list [.int 26, .int 62, .int 42, .int 32]) :: (L, fe) :: (c_script, Ent.cell (some (.ref sl))) :: (c_sums, Ent.cell none) :: (X ++ R) ∧ ys = sums.map AV.int ∧ sums.length = i) ok.hh
    (closure_of [(Str.ofString "script", c_script)] rfl (fun p hp => by
      rcases List.mem_cons.mp hp with rfl | hp
      · exact y_script.cell
      cases hp)) rfl (by decide) (by simp; lia) ?_ ?_ ?_ ?_
  · refine e_enumerate g_enumerate ?_ (by with_unfolding_all rfl)
    refine e_List (ev_items_cons (ev_int ?_) (by with_unfolding_all rfl))
    intro v1 q1
    refine ev_items_cons (ev_int ?_) (by with_unfolding_all rfl)
    intro v2 q2
    refine ev_items_cons (ev_int ?_) (by with_unfolding_all rfl)
    intro v3 q3
    refine ev_items_cons (ev_int ?_) (by with_unfolding_all rfl)
    intro v4 q4
    refine ev_items_nil ⟨_, .cons q1 (.cons q2 (.cons q3 (.cons q4 .nil))), by simp; lia, fun ax => ⟨ax, _, rfl, .head _, fun en it => ⟨en, it, ax, _, rfl, rfl, ?_⟩⟩⟩
    exact ⟨[], [], rfl, rfl, rfl⟩
  · rintro ax i ys l' hxx1
    refine byG fun gG kgG => ?_
    obtain ⟨X, sums, rfl, rfl, hi⟩ := hxx1
    refine kgG ?_
    clear kgG gG
    exact .head _
  · rintro ax C cs env' i a ys l' t ⟨n', ecs⟩ eenv hi hxx1
    refine byG fun gG kgG => ?_
    obtain ⟨X, sums, rfl, rfl, hl⟩ := hxx1
    refine kgG ?_
    clear kgG gG
    have ecs' : cs = [] := ecs
    subst ecs'
    obtain ⟨z, rfl⟩ : ∃ z : Int, a = .int z := by
      have := List.mem_of_getElem? hi
      simp at this
      rcases this with h | h | h | h
      all_goals exact ⟨_, h⟩
    have hE' : EnvAt env' C := eenv ▸ comp_at rfl
    have hG' : EnvG env' := eenv ▸ comp_g hG
    have y_k : Var env' [Str.ofString "k", Str.ofString "one"] (Str.ofString "k") 0 := eenv ▸ comp_var (by decide) (by decide) (by decide) (by decide)
    have y_one : Var env' [Str.ofString "k", Str.ofString "one"] (Str.ofString "one") 1 := eenv ▸ comp_var (by decide) (by decide) (by decide) (by decide)
    have z_script : CVar env' (Str.ofString "script") c_script := eenv ▸ comp_free hE y_script (by decide) rfl
    have g_sum' : Glo c env' (Str.ofString "sum") (.val (.builtin "sum")) := eenv ▸ comp_built ok hG rfl (by decide) (by decide) rfl (by kernel_rfl) (by decide)
    clear eenv ecs
    rw [compL_2 (Str.ofString "k") (Str.ofString "one")]
    refine ev_assignTup2 ok (Rep.ref_mk t) (.tail _ (.head _)) ?_
    intro v1 v2 q1 q2
    refine e_setM hE' y_k rfl q1 .head ?_
    refine e_setM hE' y_one rfl q2 .head ?_
    iterate 2 tb_rel
    refine e_sum1 ok g_sum' ?_ (by with_unfolding_all rfl)
    refine e_compB (α := Addr × { js : List Int // js.length ≤ 63 }) (fun z => z.2.1.map AV.int) (fun z => [(z.1, .list (z.2.1.map AV.int))]) (fun zz i' ys l' => ∃ out : List Int, l' = (zz.1, Ent.list (zz.2.1.map AV.int)) :: (C, Ent.ns (frm [Str.ofString "k", Str.ofString "one"] [some (.int i), some (.int z)])) :: (t, Ent.tup [.int i, .int z]) :: (ax, Ent.list [.int 26, .int 62, .int 42, .int 32]) :: (L, fe) :: (c_script, Ent.cell (some (.ref sl))) :: (c_sums, Ent.cell none) :: (X ++ R) ∧ ys = out.map AV.int)
      (closure_of [] rfl (by simp)) rfl (by decide) (fun zz => by have := zz.2.2; rw [List.length_map]; lia) ?_ ?_ ?_ ?_
    · refine e_listStepB ?_ (by intro _ _; with_unfolding_all rfl)
      refine e_cvar hE' z_script (.tail _ (.tail _ (.tail _ (.tail _ (.head _))))) ?_
      repeat tb_rel
      refine ⟨sl, ns, some i, some 60, some 4, rfl, hsl', .int _, .int _, .int _, by decide, by lia, fun n js hjs => ?_⟩
      intro v3 q3
      exact v_iterList ok q3 (.head _) fun I hI => ⟨(n, ⟨js, by lia⟩), I, _, _, rfl, rfl, hI, [], rfl, rfl⟩
    · rintro zz i' ys l' ⟨out, rfl, rfl⟩ p hp
      have : p = (zz.1, .list (zz.2.1.map AV.int)) := by simpa using hp
      subst this
      exact .head _
    · rintro zz C2 cs2 env2 i2 a2 ys l2 ⟨n2, ecs2⟩ eenv2 hi2 ⟨out, rfl, rfl⟩ v3 rv3
      refine compgen fun Qc1 Qc2 kc1 kc2 => ?_
      have ecs2' : cs2 = [] := ecs2
      subst ecs2'
      obtain ⟨x, rfl⟩ : ∃ x : Int, a2 = .int x := by
        obtain ⟨x, _, e⟩ := List.mem_map.mp (List.mem_of_getElem? hi2)
        exact ⟨x, e.symm⟩
      have hE2 : EnvAt env2 C2 := eenv2 ▸ comp_at rfl
      have y_x : Var env2 [Str.ofString "x"] (Str.ofString "x") 0 := eenv2 ▸ comp_var (by decide) (by decide) (by decide) (by decide)
      clear eenv2 ecs2
      rw [compL_1 (Str.ofString "x")]
      refine ev_assignName ?_
      refine e_setM hE2 y_x rfl rv3 .head ?_
      refine ev_tests0 (if_t ?_)
      iterate 4 tb_rel
      repeat tb_rel
      intro v4 u4 q4 q5
      refine v_pow q4 q5 (by decide) (by decide) ?_
      intro v5 u5 q6 q7
      refine v_mod q6 q7 (by decide) ?_
      refine kc1 _ _ (exI2 [(C2, _)] _ ⟨List.Perm.refl _, rfl, out ++ [x.fmod (10 ^ Int.toNat 6)], rfl, ?_⟩)
      rw [List.map_append]
      rfl
    · rintro zz D ys l2 ⟨out, rfl, rfl⟩
      refine ⟨D, out, rfl, .head _, ?_⟩
      intro v4 u4 q4 q5
      refine Ev.weak (l' := (C, _) :: (ax, _) :: (L, _) :: (c_script, _) :: (c_sums, _) :: (X ++ R)) ((((List.Sublist.refl _).cons _).cons_cons _).cons _ |>.cons _) ?_
      refine v_add q4 q5 ?_
      exact ⟨[(C, _)], _, List.Perm.refl _, rfl, X, sums ++ [z + out.sum], rfl, by rw [List.map_append]; rfl, by rw [List.length_append, hl]; rfl⟩
  · rintro ax D ys l' hxx1
    refine byG fun gG kgG => ?_
    obtain ⟨X, sums, rfl, rfl, hl⟩ := hxx1
    refine kgG ?_
    clear kgG gG
    refine ⟨_, _, .tail (.tail (.tail (.tail .head))), rfl, X, _, D, sums, rfl, hl⟩
end
section
set_option linter.unusedVariables false
set_option maxRecDepth 100000
set_option maxHeartbeats 8000000
theorem txts_erase (ts : List (List Nat)) (k : Nat) : (txts ts).eraseIdx k = txts (ts.eraseIdx k) := by
  unfold txts
  induction ts generalizing k with
  | nil => rfl
  | cons t r ih =>
    cases k with
    | zero => rfl
    | succ k => simp [ih]
theorem fmod_bound (z : Int) (m : Nat) (h : 0 < m) : 0 ≤ z.fmod m ∧ z.fmod m < m := by
  have e : z.fmod m = z.emod m := Int.fmod_eq_emod_of_nonneg _ (by lia)
  rw [e]
  exact ⟨Int.emod_nonneg _ (by lia), Int.emod_lt_of_pos _ (by lia)⟩
theorem v_popMod {c : Cx} {la : Addr} {ts : List (List Nat)} {R : Ledger} {P : AV → Ledger → Prop} {v u : Value} {m : Nat} {z : Int} (r : Rep v (.ref la)) (r' : Rep u (.int (z.fmod m))) (hml : ts.length = m) (hm : 0 < m) (hm48 : m ≤ 48)
    (h : ∀ w, w ∈ ts → ∀ ts', ts'.length + 1 = m → (∀ x ∈ ts', x ∈ ts) → P (.str w) ((la, Ent.list (txts ts')) :: R)) : EvV c ((la, Ent.list (txts ts)) :: R) (call (.builtin "list.pop") [v, u]) P := by
  obtain ⟨b1, b2⟩ := fmod_bound z m hm
  have hsl : sizeLine = 16777216 := sizeLine_eq
  have hk : (z.fmod m).toNat < ts.length := by lia
  refine v_popAt (k := (z.fmod m).toNat) (xs := txts ts) (x := .str ts[(z.fmod m).toNat]) (l' := (la, Ent.list (txts (ts.eraseIdx (z.fmod m).toNat))) :: R) r (by rw [Int.toNat_of_nonneg b1]; exact r') (by simp [txts]; lia) (by simp [txts, hk]) (by rw [txts_erase]; exact .head) ?_
  exact h _ (List.getElem_mem hk) _ (by rw [List.length_eraseIdx_of_lt hk]; lia) fun x hx => List.mem_of_mem_eraseIdx hx
theorem law_words {c : Cx} {n : Nat} {env : Env} {L c_script c_sums c_signs c_least c_places c_price c_names : Addr} (ok : Ok KF c (n + 6)) (H : LawEnv c env L c_script c_sums c_signs c_least c_places c_price c_names)
    {su : Addr} {z0 z1 z2 z3 : Int} {R : Ledger} {rest : List Stmt} {P : Flow → Ledger → Prop} (hcs : (c_sums, Ent.cell (some (.ref su))) ∈ R) (hsu : (su, Ent.list ([z0, z1, z2, z3].map AV.int)) ∈ R)
    (h : ∀ la wa el W, W.length = 3 → (∀ w ∈ W, w ∈ OPS) → Ev c ((wa, Ent.list (txts W)) :: (la, el) :: (L, lawF (some (.ref la)) (some (.ref wa)) none none none none none none none none none none none none none none none) :: R) (execs rest env) P) :
    Ev c ((L, lawF none none none none none none none none none none none none none none none none none) :: R) (execs (lawB.getD 1 default :: lawB.getD 2 default :: rest) env) P := by
  have H' := H
  obtain ⟨hE, hG, hI, hcode, hqual, x_left, x_words, x_size, x_text, x_queue, x_made, x_taken, x_number, x_form, x_place, x_stop, x_goal, x_word, x_told, x_symbols, x_order, x_mended, y_script, y_sums, y_signs, y_least, y_places, y_price, y_names, g_law_operators, g_law_one_pass, g_levenshtein_distance, g_ISNONTERMINAL, g_ISEOF, g_insort_right, g_EXACT_TOKEN_TYPES, g_NT_OFFSET, g_ENDMARKER, g_enumerate, g_len, g_sum, g_range, g_sorted⟩ := H'
  have hsl : sizeLine = 16777216 := sizeLine_eq
  show Ev c _ (execs (Stmt.Assign [.Name _ _] _ _ :: Stmt.Assign [.Name _ _] _ _ :: rest) env) _
  repeat tb_rel
  refine e_callF0 ?_
  tb_rel
  obtain ⟨o77, fd77, ho77, hd77⟩ : ∃ o fd, c.h₀.get? 77 = some o ∧ o.data = .func fd := ⟨_, _, ok.k 77 _ rfl, rfl⟩
  refine exI3 77 o77 fd77 ⟨rfl, hd77, ObjAt.base ho77, ?_⟩
  refine ops_call (n := n + 5) ok fun la => ?_
  repeat tb_rel
  have hOL : OPS.length = 48 := by decide
  refine e_List ?_
  refine ev_items_cons ?_ (by with_unfolding_all rfl)
  refine e_methList PySem.F.slot_list_pop PySem.F.type_list_pop ?_ (by with_unfolding_all rfl) (by with_unfolding_all rfl) (by with_unfolding_all rfl)
  tb_rel
  refine ⟨la, _, rfl, .head _, ?_⟩
  refine v_callWith ?_ (by with_unfolding_all rfl) (by with_unfolding_all rfl)
  refine ev_items_cons ?_ (by with_unfolding_all rfl)
  tb_rel
  tb_rel
  refine e_cvar hE y_sums (.tail _ (.tail _ hcs)) ?_
  repeat tb_rel
  intro v01 u01 q01 q02
  refine v_item (xs := [z0, z1, z2, z3].map AV.int) (b := .int z0) q01 q02 (.tail _ (.tail _ hsu)) (by decide) (by decide) rfl ?_
  repeat tb_rel
  intro v03 u03 q03 q04
  refine v_mod q03 q04 (by decide) ?_
  intro v05 q05
  refine ev_items_nil ?_
  refine v_popMod (m := 48) (z := z0) (ts := OPS) (Rep.ref_mk la) q05 (by lia) (by decide) (by decide) fun w0 hw0 ts0 hts0 hsub0 => ?_
  intro v06 q06
  refine ev_items_cons ?_ (by with_unfolding_all rfl)
  refine e_methList PySem.F.slot_list_pop PySem.F.type_list_pop ?_ (by with_unfolding_all rfl) (by with_unfolding_all rfl) (by with_unfolding_all rfl)
  tb_rel
  refine ⟨la, _, rfl, .head _, ?_⟩
  refine v_callWith ?_ (by with_unfolding_all rfl) (by with_unfolding_all rfl)
  refine ev_items_cons ?_ (by with_unfolding_all rfl)
  tb_rel
  tb_rel
  refine e_cvar hE y_sums (.tail _ (.tail _ hcs)) ?_
  repeat tb_rel
  intro v11 u11 q11 q12
  refine v_item (xs := [z0, z1, z2, z3].map AV.int) (b := .int z1) q11 q12 (.tail _ (.tail _ hsu)) (by decide) (by decide) rfl ?_
  repeat tb_rel
  intro v13 u13 q13 q14
  refine v_mod q13 q14 (by decide) ?_
  intro v15 q15
  refine ev_items_nil ?_
  refine v_popMod (m := 47) (z := z1) (ts := ts0) (Rep.ref_mk la) q15 (by lia) (by decide) (by decide) fun w1 hw1 ts1 hts1 hsub1 => ?_
  intro v16 q16
  refine ev_items_cons ?_ (by with_unfolding_all rfl)
  refine e_methList PySem.F.slot_list_pop PySem.F.type_list_pop ?_ (by with_unfolding_all rfl) (by with_unfolding_all rfl) (by with_unfolding_all rfl)
  tb_rel
  refine ⟨la, _, rfl, .head _, ?_⟩
  refine v_callWith ?_ (by with_unfolding_all rfl) (by with_unfolding_all rfl)
  refine ev_items_cons ?_ (by with_unfolding_all rfl)
  tb_rel
  tb_rel
  refine e_cvar hE y_sums (.tail _ (.tail _ hcs)) ?_
  repeat tb_rel
  intro v21 u21 q21 q22
  refine v_item (xs := [z0, z1, z2, z3].map AV.int) (b := .int z2) q21 q22 (.tail _ (.tail _ hsu)) (by decide) (by decide) rfl ?_
  repeat tb_rel
  intro v23 u23 q23 q24
  refine v_mod q23 q24 (by decide) ?_
  intro v25 q25
  refine ev_items_nil ?_
  refine v_popMod (m := 46) (z := z2) (ts := ts1) (Rep.ref_mk la) q25 (by lia) (by decide) (by decide) fun w2 hw2 ts2 hts2 hsub2 => ?_
  intro v26 q26
  refine ev_items_nil ⟨[.str w0, .str w1, .str w2], .cons q06 (.cons q16 (.cons q26 .nil)), by simp; lia, fun wa => ?_⟩
  repeat tb_rel
  exact h la wa _ [w0, w1, w2] rfl fun w hw => by
    simp at hw
    rcases hw with rfl | rfl | rfl
    · exact hw0
    · exact hsub0 _ hw1
    · exact hsub0 _ (hsub1 _ hw2)
end
section
set_option linter.unusedVariables false
set_option maxRecDepth 100000
set_option maxHeartbeats 8000000
theorem flat_one : ∀ t : List Nat, (t.map fun x => [x]).flatten = t
  | [] => rfl
  | a :: r => by rw [List.map_cons, List.flatten_cons, flat_one r]; rfl
theorem law_text {c : Cx} {n : Nat} {env : Env} {L c_script c_sums c_signs c_least c_places c_price c_names : Addr} (ok : Ok KF c (n + 6)) (H : LawEnv c env L c_script c_sums c_signs c_least c_places c_price c_names)
    {la wa su : Addr} {z0 z1 z2 z3 : Int} {R : Ledger} {rest : List Stmt} {P : Flow → Ledger → Prop} {W : List (List Nat)} (hW : ∀ w ∈ W, w ∈ OPS) (hWl : W.length = 3) (hwa : (wa, Ent.list (txts W)) ∈ R) (hcs : (c_sums, Ent.cell (some (.ref su))) ∈ R) (hsu : (su, Ent.list ([z0, z1, z2, z3].map AV.int)) ∈ R)
    (h : ∀ D e T sg, Plain T → (T.length = 3 ∨ T.length = 4) → Ev c ((D, e) :: (L, lawF (some (.ref la)) (some (.ref wa)) (some (.int T.length)) (some (.str T)) none none none none none none none none none none none none none) :: (c_signs, Ent.cell (some (.str sg))) :: R) (execs rest env) P) :
    Ev c ((L, lawF (some (.ref la)) (some (.ref wa)) none none none none none none none none none none none none none none none) :: (c_signs, Ent.cell none) :: R) (execs (lawB.getD 3 default :: lawB.getD 4 default :: lawB.getD 5 default :: rest) env) P := by
  have H' := H
  obtain ⟨hE, hG, hI, hcode, hqual, x_left, x_words, x_size, x_text, x_queue, x_made, x_taken, x_number, x_form, x_place, x_stop, x_goal, x_word, x_told, x_symbols, x_order, x_mended, y_script, y_sums, y_signs, y_least, y_places, y_price, y_names, g_law_operators, g_law_one_pass, g_levenshtein_distance, g_ISNONTERMINAL, g_ISEOF, g_insort_right, g_EXACT_TOKEN_TYPES, g_NT_OFFSET, g_ENDMARKER, g_enumerate, g_len, g_sum, g_range, g_sorted⟩ := H'
  have hsl : sizeLine = 16777216 := sizeLine_eq
  have hW3 : ∀ w ∈ W, w.length ≤ 3 := fun w hw => (ops_plain w (hW w hw)).2.1
  have hfl := flat_len W hW3
  have hpf : Plain W.flatten := fun x hx => by
    obtain ⟨w, hw, hxw⟩ := List.mem_flatten.mp hx
    exact (ops_plain w (hW w hw)).1 x hxw
  show Ev c _ (execs (Stmt.Assign [.Name _ _] _ _ :: Stmt.Assign [.Name _ _] _ _ :: Stmt.Assign [.Name _ _] _ _ :: rest) env) _
  iterate 2 tb_rel
  refine e_catStr ?_
  refine e_methStr PySem.F.slot_str_join PySem.F.type_str_join ?_ (by with_unfolding_all rfl) (by with_unfolding_all rfl) (by with_unfolding_all rfl)
  refine ev_str (cs := []) (by decide) ?_
  refine ⟨[], rfl, fun v1 rv1 => ?_⟩
  refine v_callWith ?_ (by with_unfolding_all rfl) (by with_unfolding_all rfl)
  refine ev_items_cons ?_ (by with_unfolding_all rfl)
  tb_rel
  intro v2 q2
  refine ev_items_nil ?_
  refine v_join (ts := W) rv1 q2 (.tail _ (.tail _ hwa)) (fun w hw => by have := hW3 w hw; lia) (by lia) ?_
  refine ev_str (cs := [63]) (by decide) ?_
  refine ⟨_, _, rfl, rfl, by rw [List.length_singleton]; lia, ?_⟩
  generalize hSG : W.flatten ++ [63] = SG
  have hSl : 1 ≤ SG.length ∧ SG.length ≤ 10 := by rw [← hSG, List.length_append, List.length_singleton]; lia
  have hSp : Plain SG := by
    rw [← hSG]
    intro x hx
    rcases List.mem_append.mp hx with h | h
    · exact hpf x h
    · simp at h; subst h; decide
  repeat tb_rel
  refine e_sum1 ok g_sum ?_ (by with_unfolding_all rfl)
  refine e_cvar hE y_sums (.tail _ (.tail _ hcs)) ?_
  refine ⟨su, _, rfl, .tail _ (.tail _ hsu), ?_⟩
  generalize ([z0, z1, z2, z3] : List Int).sum = sm
  repeat tb_rel
  intro v3 u3 q3 q4
  refine v_mod q3 q4 (by decide) ?_
  repeat tb_rel
  obtain ⟨N, hN, hN34⟩ : ∃ N : Nat, 3 + sm.fmod 2 = (N : Int) ∧ (N = 3 ∨ N = 4) := by
    obtain ⟨b1, b2⟩ := fmod_bound sm 2 (by decide)
    have b3 : sm.fmod 2 < 2 := b2
    have b4 : 0 ≤ sm.fmod 2 := b1
    exact ⟨(3 + sm.fmod 2).toNat, by lia, by lia⟩
  rw [hN]
  repeat tb_rel
  have hbits : ∀ m : Fin 11, Builtin.Int.intBits ((m.val : Nat) : Int) ≤ 4 := by decide
  refine e_methStr PySem.F.slot_str_join PySem.F.type_str_join ?_ (by with_unfolding_all rfl) (by with_unfolding_all rfl) (by with_unfolding_all rfl)
  refine ev_str (cs := []) (by decide) ?_
  refine ⟨[], rfl, fun v5 rv5 => ?_⟩
  refine v_callWith ?_ (by with_unfolding_all rfl) (by with_unfolding_all rfl)
  refine ev_items_cons ?_ (by with_unfolding_all rfl)
  dsimp only [List.set]
  refine e_comp (rangeItems 0 1 N) [] (fun i ys l' => ∃ t : List Nat, l' = (L, lawF (some (.ref la)) (some (.ref wa)) (some (.int N)) none none none none none none none none none none none none none none) :: (c_signs, Ent.cell (some (.str SG))) :: R ∧ ys = txts (t.map fun x => [x]) ∧ t.length = i ∧ Plain t)
    (closure_of [(Str.ofString "sums", c_sums), (Str.ofString "signs", c_signs)] rfl (fun p hp => by
      rcases List.mem_cons.mp hp with rfl | hp
      · exact y_sums.cell
      rcases List.mem_cons.mp hp with rfl | hp
      · exact y_signs.cell
      cases hp)) rfl (by decide) (by simp [rangeItems]; lia) ?_ (fun _ _ _ _ p hp => nomatch hp) ?_ ?_
  · refine e_range1 g_range ?_ (by with_unfolding_all rfl)
    tb_rel
    exact ⟨_, rfl, fun r v6 q6 => v_iterRange' ok q6 (small_of (by lia) (by lia) (by lia) (by lia)) (by rw [size_of (by lia)]; lia) fun I hI => exI3 I _ _ ⟨rfl, rfl, hI, [], rfl, rfl, rfl, fun x hx => nomatch hx⟩⟩
  · rintro C cs env' i a ys l' ⟨n', ecs⟩ eenv hi hxx1 v rv
    refine byG fun gG kgG => ?_
    obtain ⟨t, rfl, rfl, htl, htp⟩ := hxx1
    refine kgG ?_
    clear kgG gG
    refine compgen fun Qc1 Qc2 kc1 kc2 => ?_
    have ecs' : cs = [] := ecs
    subst ecs'
    obtain ⟨hiN, rfl⟩ := rangeItems_get hi
    have hE' : EnvAt env' C := eenv ▸ comp_at rfl
    have hG' : EnvG env' := eenv ▸ comp_g hG
    have y_k : Var env' [Str.ofString "k"] (Str.ofString "k") 0 := eenv ▸ comp_var (by decide) (by decide) (by decide) (by decide)
    have z_sums : CVar env' (Str.ofString "sums") c_sums := eenv ▸ comp_free hE y_sums (by decide) rfl
    have z_signs : CVar env' (Str.ofString "signs") c_signs := eenv ▸ comp_free hE y_signs (by decide) rfl
    have g_len' : Glo c env' (Str.ofString "len") (.val (.builtin "len")) := eenv ▸ comp_built ok hG rfl (by decide) (by decide) rfl (by kernel_rfl) (by decide)
    clear eenv ecs
    rw [compL_1 (Str.ofString "k")]
    refine ev_assignName ?_
    refine e_setM hE' y_k rfl rv .head ?_
    refine ev_tests0 (if_t ?_)
    repeat tb_rel
    intro v7 u7 q7 q8
    refine v_item (xs := [z0, z1, z2, z3].map AV.int) (b := .int z3) q7 q8 (.tail _ (.tail _ (.tail _ hsu))) (by decide) (by decide) rfl ?_
    tb_rel
    refine e_lenStr g_len' ?_ (by with_unfolding_all rfl)
    tb_rel
    refine ⟨_, rfl, by lia, ?_⟩
    tb_rel
    intro v8 u8 q9 q10
    refine v_pow q9 q10 (by lia) ?_ ?_
    · have := hbits ⟨SG.length, by lia⟩
      have h4 : ((Builtin.Int.intBits ((SG.length : Nat) : Int) : Nat) : Int) ≤ 4 := by exact_mod_cast this
      have h5 : (0 : Int) + ((i : Nat) : Int) * 1 ≤ 4 := by lia
      have h6 : (0 : Int) ≤ (0 : Int) + ((i : Nat) : Int) * 1 := by lia
      have := Int.mul_le_mul h4 h5 h6 (by decide)
      lia
    have hpw : ((SG.length : Nat) : Int) ^ ((0 : Int) + ((i : Nat) : Int) * 1).toNat = ((SG.length ^ i : Nat) : Int) := by
      rw [show ((0 : Int) + ((i : Nat) : Int) * 1).toNat = i by lia]
      exact_mod_cast rfl
    rw [hpw]
    have hpos : 0 < SG.length ^ i := Nat.pow_pos (by lia)
    have hle : SG.length ^ i ≤ 10 ^ 4 := Nat.le_trans (Nat.pow_le_pow_left hSl.2 i) (Nat.pow_le_pow_right (by decide) (by lia))
    intro v9 u9 q11 q12
    refine v_fdiv q11 q12 (by lia) (by lia) ?_
    refine e_lenStr g_len' ?_ (by with_unfolding_all rfl)
    tb_rel
    refine ⟨_, rfl, by lia, ?_⟩
    intro v10 u10 q13 q14
    refine v_mod q13 q14 (by lia) ?_
    generalize z3.fdiv _ = y
    obtain ⟨b1, b2⟩ := fmod_bound y SG.length (by lia)
    generalize y.fmod _ = x at *
    intro v11 u11 q15 q16
    have hxl : x.toNat < SG.length := by lia
    refine v_sign (b := SG[x.toNat]) q15 q16 (by lia) (by lia) (Or.inl b1) (by rw [if_neg (by lia)]; exact List.getElem?_eq_getElem hxl) ?_
    refine kc1 _ _ (exI2 [(C, _)] _ ⟨List.Perm.refl _, rfl, t ++ [SG[x.toNat]], rfl, by simp [txts], by rw [List.length_append, htl]; rfl, fun x' hx' => ?_⟩)
    rcases List.mem_append.mp hx' with h | h
    · exact htp x' h
    · simp at h; subst h; exact hSp _ (List.getElem_mem hxl)
  · rintro D ys l' hxx1
    refine byG fun gG kgG => ?_
    obtain ⟨t, rfl, rfl, htl, htp⟩ := hxx1
    refine kgG ?_
    clear kgG gG
    have htl' : t.length = N := by rw [htl]; simp [rangeItems]
    intro v12 q17
    refine ev_items_nil ?_
    refine v_join (ts := t.map fun x => [x]) rv5 q17 (.head _) (fun w hw => by obtain ⟨x, _, rfl⟩ := List.mem_map.mp hw; simp) (by rw [List.length_map]; lia) ?_
    rw [flat_one, ← htl']
    repeat tb_rel
    exact h D _ t SG htp (by lia)
end
section
set_option linter.unusedVariables false
set_option maxRecDepth 100000
set_option maxHeartbeats 8000000
theorem law_init {c : Cx} {n : Nat} {env : Env} {L c_script c_sums c_signs c_least c_places c_price c_names : Addr} (ok : Ok KF c (n + 6)) (H : LawEnv c env L c_script c_sums c_signs c_least c_places c_price c_names)
    {la wa : Addr} {R : Ledger} {rest : List Stmt} {P : Flow → Ledger → Prop} {W : List (List Nat)} {T : List Nat} (hW : ∀ w ∈ W, w ∈ OPS) (hWl : W.length = 3) (hwa : (wa, Ent.list (txts W)) ∈ R) (hT : Plain T) (hTl : T.length ≤ 4)
    (h : ∀ ll f0 t0 qa ta pa, Ev c ((pa, Ent.list ((castZ ([] : List Nat)).map AV.int)) :: (ta, Ent.list (([] : List Addr).map AV.ref)) :: (qa, Ent.list ([t0].map AV.ref)) :: (t0, Ent.tup [.int ((0 : Nat) : Int), .int ((0 : Nat) : Int), .ref f0]) :: (f0, Ent.list [.int 256]) :: (ll, Ent.list ((pass W T).2.map AV.int)) :: (L, lawF (some (.ref la)) (some (.ref wa)) (some (.int T.length)) (some (.str T)) (some (.ref qa)) (some (.int ((1 : Nat) : Int))) (some (.ref ta)) none none none none none none none none none none) :: (c_least, Ent.cell (some (.ref ll))) :: (c_places, Ent.cell (some (.ref pa))) :: R) (execs rest env) P) :
    Ev c ((L, lawF (some (.ref la)) (some (.ref wa)) (some (.int T.length)) (some (.str T)) none none none none none none none none none none none none none) :: (c_least, Ent.cell none) :: (c_places, Ent.cell none) :: R) (execs (lawB.getD 6 default :: lawB.getD 7 default :: lawB.getD 8 default :: lawB.getD 9 default :: lawB.getD 10 default :: rest) env) P := by
  have H' := H
  obtain ⟨hE, hG, hI, hcode, hqual, x_left, x_words, x_size, x_text, x_queue, x_made, x_taken, x_number, x_form, x_place, x_stop, x_goal, x_word, x_told, x_symbols, x_order, x_mended, y_script, y_sums, y_signs, y_least, y_places, y_price, y_names, g_law_operators, g_law_one_pass, g_levenshtein_distance, g_ISNONTERMINAL, g_ISEOF, g_insort_right, g_EXACT_TOKEN_TYPES, g_NT_OFFSET, g_ENDMARKER, g_enumerate, g_len, g_sum, g_range, g_sorted⟩ := H'
  have hsl : sizeLine = 16777216 := sizeLine_eq
  have hW3 : ∀ w ∈ W, w.length ≤ 3 := fun w hw => (ops_plain w (hW w hw)).2.1
  obtain ⟨o82, fd82, ho82, hd82⟩ : ∃ o fd, c.h₀.get? 82 = some o ∧ o.data = .func fd := ⟨_, _, ok.k 82 _ rfl, rfl⟩
  show Ev c _ (execs (Stmt.Assign [.Name _ _] _ _ :: Stmt.Assign [.Name _ _] _ _ :: Stmt.Assign [.Name _ _] _ _ :: Stmt.Assign [.Name _ _] _ _ :: Stmt.Assign [.Name _ _] _ _ :: rest) env) _
  repeat tb_rel
  refine e_callF ?_ (by with_unfolding_all rfl)
  tb_rel
  refine exI3 82 o82 fd82 ⟨rfl, hd82, ?_⟩
  refine ev_items_cons ?_ (by with_unfolding_all rfl)
  tb_rel
  intro v1 q1
  refine ev_items_cons ?_ (by with_unfolding_all rfl)
  tb_rel
  intro v2 q2
  refine ev_items_nil ⟨ObjAt.base ho82, ?_⟩
  refine pass_call (n := n + 5) ok q1 q2 (.tail _ (.tail _ (.tail _ hwa))) (List.all_eq_true.mpr fun x hx => by have := hT x hx; simp; lia) (by lia) (by lia) (fun w hw => by have := hW3 w hw; lia) fun ll => ?_
  repeat tb_rel
  refine e_List (ev_items_cons ?_ (by with_unfolding_all rfl))
  refine e_Tuple (ev_items_cons (ev_int ?_) (by with_unfolding_all rfl))
  intro v3 q3
  refine ev_items_cons (ev_int ?_) (by with_unfolding_all rfl)
  intro v4 q4
  refine ev_items_cons ?_ (by with_unfolding_all rfl)
  refine e_List (ev_items_cons ?_ (by with_unfolding_all rfl))
  tb_rel
  intro v5 q5
  refine ev_items_nil ⟨[.int 256], .cons q5 .nil, by simp; lia, fun f0 => ?_⟩
  intro v6 q6
  refine ev_items_nil ⟨[.int 0, .int 0, .ref f0], .cons q3 (.cons q4 (.cons q6 .nil)), by simp; lia, fun t0 => ?_⟩
  intro v7 q7
  refine ev_items_nil ⟨[.ref t0], .cons q7 .nil, by simp; lia, fun qa => ?_⟩
  repeat tb_rel
  refine e_List (ev_items_nil ⟨[], .nil, by simp, fun ta => ?_⟩)
  repeat tb_rel
  refine e_List (ev_items_nil ⟨[], .nil, by simp, fun pa => ?_⟩)
  repeat tb_rel
  exact h _ _ _ _ _ _
end
section
set_option linter.unusedVariables false
set_option maxRecDepth 100000
set_option maxHeartbeats 8000000
inductive Pick {α : Type} (a : α) : List α → List α → Prop where
  | head {l : List α} : Pick a (a :: l) l
  | tail {b : α} {l r : List α} : Pick a l r → Pick a (b :: l) (b :: r)
theorem Pick.perm {α : Type} {a : α} {l l' r : List α} (p : Pick a l' r) (h : l.Perm r) : (a :: l).Perm l' := by
  refine (List.Perm.cons a h).trans ?_
  clear h
  induction p with
  | head => exact List.Perm.refl _
  | tail _ ih => exact (List.Perm.swap _ _ _).trans (List.Perm.cons _ ih)
theorem lawB_eq : lawB = lawB.getD 0 default :: lawB.getD 1 default :: lawB.getD 2 default :: lawB.getD 3 default :: lawB.getD 4 default :: lawB.getD 5 default :: lawB.getD 6 default :: lawB.getD 7 default :: lawB.getD 8 default :: lawB.getD 9 default :: lawB.getD 10 default :: whileS :: lawB.drop 12 := by
  have h : lawB.length = 20 := rfl
  have key : ∀ (l : List Stmt), l.length = 20 → l = l.getD 0 default :: l.getD 1 default :: l.getD 2 default :: l.getD 3 default :: l.getD 4 default :: l.getD 5 default :: l.getD 6 default :: l.getD 7 default :: l.getD 8 default :: l.getD 9 default :: l.getD 10 default :: l.getD 11 default :: l.drop 12 := by
    intro l hl
    iterate 12 (cases l with
      | nil => simp at hl
      | cons a l => ?_)
    rfl
  exact key lawB h
theorem law_main {c : Cx} {n : Nat} {env : Env} {L c_script c_sums c_signs c_least c_places c_price c_names : Addr} (ok : Ok KF c (n + 6)) (bm : Bm c) (hhd : CodeHd c.h₀ 86 84) (h84 : c.h₀.get? 84 = none) (H : LawEnv c env L c_script c_sums c_signs c_least c_places c_price c_names)
    {sl : Addr} {ns : List Int} {G : Ledger} (hns : ns.length ≤ 63) (hsl' : ∃ us, c.h₀.IsList sl us.toArray ∧ Reps us (ns.map AV.int)) :
    Ev c ((L, lawF none none none none none none none none none none none none none none none none none) :: (c_script, Ent.cell (some (.ref sl))) :: (c_sums, Ent.cell none) :: (c_signs, Ent.cell none) :: (c_least, Ent.cell none) :: (c_places, Ent.cell none) :: (c_price, Ent.cell none) :: (c_names, Ent.cell none) :: (84, Ent.obj (· = tabObj #[])) :: G) (execs lawB env)
      fun f l' => ∃ v, f = Flow.ret v ∧ Rep v (.bool true) ∧ ∃ more, (84, Ent.obj (· = tabObj more)) ∈ l' := by
  rw [lawB_eq]
  refine ev_cons' fun R0 hR0 => ?_
  refine Ev.mono (law_sums ok H hns hsl') ?_
  rintro f l' hxx1
  refine byG fun gG kgG => ?_
  obtain ⟨rfl, hyy1⟩ := hxx1
  refine exE4 hyy1 fun X p0 su sums hzz1 => ?_
  clear hyy1
  obtain ⟨rfl, hl⟩ := hzz1
  refine kgG ?_
  clear kgG gG
  obtain ⟨z0, z1, z2, z3, rfl⟩ : ∃ z0 z1 z2 z3, sums = [z0, z1, z2, z3] := by
    match sums, hl with
    | [z0, z1, z2, z3], _ => exact ⟨_, _, _, _, rfl⟩
  refine ev_open hR0 ?_
  refine Ev.weak (l' := (su, _) :: (L, _) :: (c_script, _) :: (c_sums, _) :: (c_signs, _) :: (c_least, _) :: (c_places, _) :: (c_price, _) :: (c_names, _) :: (84, _) :: G) ((((List.sublist_append_right X _).cons_cons _).cons_cons _).cons_cons _ |>.cons _ |>.cons_cons _) ?_
  refine Ev.perm (List.Perm.swap (L, _) (su, _) _).symm ?_
  refine law_words ok H (su := su) (z0 := z0) (z1 := z1) (z2 := z2) (z3 := z3) (by one_place) (by one_place) fun la wa el W hWl hW => ?_
  refine Ev.weak (l' := (wa, _) :: (L, _) :: (su, _) :: (c_script, _) :: (c_sums, _) :: (c_signs, _) :: (c_least, _) :: (c_places, _) :: (c_price, _) :: (c_names, _) :: (84, _) :: G) (((List.Sublist.refl _).cons _).cons_cons _) ?_
  refine Ev.perm (Pick.perm (.tail .head) (Pick.perm (.tail (.tail (.tail (.tail .head)))) (List.Perm.refl _))) ?_
  refine law_text ok H (su := su) (z0 := z0) (z1 := z1) (z2 := z2) (z3 := z3) hW hWl (by one_place) (by one_place) (by one_place) fun D e T sg hT hTl => ?_
  refine Ev.weak (l' := (L, _) :: (wa, _) :: (c_least, _) :: (c_places, _) :: (c_price, _) :: (c_names, _) :: (84, _) :: []) ((((((((List.nil_sublist G).cons_cons _).cons_cons _).cons_cons _).cons_cons _).cons_cons _).cons _ |>.cons _ |>.cons _ |>.cons_cons _ |>.cons _ |>.cons_cons _ |>.cons _)) ?_
  refine Ev.perm (Pick.perm .head (Pick.perm (.tail .head) (Pick.perm (.tail .head) (List.Perm.refl _)))) ?_
  refine law_init ok H hW hWl (by one_place) hT (by lia) fun ll f0 t0 qa ta pa => ?_
  refine ev_cons' fun R11 hR11 => ?_
  obtain ⟨hpl, hpb⟩ := pass_least T W
  refine Ev.on (G := [(c_names, Ent.cell none)]) (l₁ := (L, lawF (some (.ref la)) (some (.ref wa)) (some (.int T.length)) (some (.str T)) (some (.ref qa)) (some (.int ((1 : Nat) : Int))) (some (.ref ta)) none none none none none none none none none none) :: (c_price, Ent.cell none) :: (qa, Ent.list ([t0].map AV.ref)) :: (84, Ent.obj (· = tabObj #[])) :: (ta, Ent.list (([] : List Addr).map AV.ref)) :: (pa, Ent.list ((castZ ([] : List Nat)).map AV.int)) :: ([(t0, Ent.tup [.int ((0 : Nat) : Int), .int ((0 : Nat) : Int), .ref f0]), (f0, Ent.list [.int 256])] ++ [(ll, Ent.list ((pass W T).2.map AV.int)), (c_least, Ent.cell (some (.ref ll))), (c_places, Ent.cell (some (.ref pa))), (wa, Ent.list (txts W))]))
    (law_while (n := n) ok bm hhd h84 H hT hTl hW hWl hpl hpb (G := [(ll, Ent.list ((pass W T).2.map AV.int)), (c_least, Ent.cell (some (.ref ll))), (c_places, Ent.cell (some (.ref pa))), (wa, Ent.list (txts W))]) (by one_place) (by one_place) (by one_place) (by one_place)
      (exI14 [(t0, Ent.tup [.int ((0 : Nat) : Int), .int ((0 : Nat) : Int), .ref f0]), (f0, Ent.list [.int 256])] [t0] [] ⟨[⟨0, 0, 0, []⟩], [], [], 1⟩ _ _ _ _ _ _ _ _ _ _ ⟨List.Perm.refl _, Inv.start, rfl, ?_, ?_, .inl rfl⟩)) ?_ ?_
  · refine ⟨rfl, fun k t q h1 h2 => ?_⟩
    match k with
    | 0 =>
      simp at h1 h2
      subst h1 h2
      refine ⟨f0, .head _, .tail _ ?_⟩
      have e : ([256] : List Int) = Itm.form T.length ⟨0, 0, 0, []⟩ := by
        unfold Itm.form goalOf
        first | refine if_pos' (by show 0 < T.length; lia) ?_ | rw [if_pos (by show 0 < T.length; lia)]
        rfl
      rw [← e]
      exact .head _
    | k + 1 => simp at h1
  · exact ⟨rfl, fun k a p h1 h2 => by simp at h1⟩
  · exact (Pick.perm (.tail (.tail (.tail (.tail (.tail (.tail .head)))))) (Pick.perm (.tail (.tail (.tail (.tail (.tail (.tail (.tail (.tail (.tail .head))))))))) (Pick.perm (.tail (.tail .head)) (Pick.perm (.tail (.tail (.tail (.tail (.tail (.tail (.tail (.tail (.tail .head))))))))) (Pick.perm (.tail .head) (List.Perm.refl _))))))
  · rintro f l'' hxx1
    refine byG fun gG kgG => ?_
    obtain ⟨rfl, hyy1⟩ := hxx1
    refine exE14 hyy1 fun X ts as S e' pr nv fv pv stv gv wv tv sv hzz1 => ?_
    clear hyy1
    obtain ⟨hperm, hS, hm, hQ, hTk, hLam, q, rest, hq, hqn⟩ := hzz1
    refine kgG ?_
    clear kgG gG
    refine ev_open hR11 ?_
    obtain ⟨more, rfl⟩ : ∃ more, e' = Ent.obj (· = tabObj more) := by
      rcases hLam with h | ⟨c', oc, h, _⟩
      · exact ⟨_, h⟩
      · exact ⟨_, h⟩
    refine Ev.on (G := [(84, Ent.obj (· = tabObj more))]) (law_tail (n := n) (wa := wa) (qa := qa) (ta := ta) (lv := some (.ref la)) (nv := nv) (fv := fv) (pv := pv) (stv := stv) (gv := gv) (wv := wv) (tv := tv) (sv := sv) (ov := none) (mv := none) (pr := pr) ok H hT hTl hW hpl hpb (G := X ++ [(ll, Ent.list ((pass W T).2.map AV.int)), (c_least, Ent.cell (some (.ref ll))), (c_places, Ent.cell (some (.ref pa))), (wa, Ent.list (txts W))]) (List.mem_append_right _ (by one_place)) (List.mem_append_right _ (by one_place)) (List.mem_append_right _ (by one_place)) hS hm hQ hTk hq hqn) (List.Perm.trans ?_ (hperm.append_right _)) ?_
    · refine (List.perm_append_singleton _ _).trans ?_
      refine List.Perm.trans ?_ (List.perm_append_singleton _ _).symm
      exact (Pick.perm (.tail (.tail (.tail (.tail .head)))) (Pick.perm (.tail .head) (Pick.perm (.tail .head) (Pick.perm .head (List.Perm.refl _)))))
    · rintro f l'' ⟨v, rfl, rv⟩
      exact ⟨v, rfl, rv, more, List.mem_append_right _ (.head _)⟩
end
section
set_option linter.unusedVariables false
set_option maxRecDepth 100000
set_option maxHeartbeats 8000000
theorem frm_none (ns : List Str) (k : Nat) (x : Str) : frm ns (List.replicate k none) x = none := by
  unfold frm
  rw [List.getElem?_replicate]
  split <;> rfl
theorem law_call {c : Cx} {n : Nat} {v : Value} {sl : Addr} {ns : List Int} {l : Ledger} (ok : Ok KF c (n + 7)) (bm : Bm c) (h84 : c.h₀.get? 84 = none) (r : Rep v (.ref sl)) (hns : ns.length ≤ 63) (hsl' : ∃ us, c.h₀.IsList sl us.toArray ∧ Reps us (ns.map AV.int)) :
    EvV c ((84, Ent.obj (· = tabObj #[])) :: l) (call (.ref 87) [v]) fun a l' => a = .bool true ∧ ∃ more, (84, Ent.obj (· = tabObj more)) ∈ l' := by
  refine ev_defC (binds := [(Str.ofString "script", v)]) (m := frm lawN [none, none, none, none, none, none, none, none, none, none, none, none, none, none, none, none, none]) (ca := fun x => if x = Str.ofString "script" then some (.ref sl) else none) ok (ok.k 87 _ rfl) rfl ⟨86, _, _, _, rfl, ok.k 86 _ rfl, rfl, rfl⟩ rfl rfl rfl
    (fun n x hx => Or.inr ?_) (by decide) (fun x av hx => ?_) (fun x av hx => ?_) ?_
  · have hx' : x = (Str.ofString "script", v) := by simpa using hx
    subst hx'
    exact ⟨rfl, rfl⟩
  · exact absurd ((frm_none lawN 17 x).symm.trans hx) (fun h => nomatch h)
  · by_cases hxs : x = Str.ofString "script"
    · subst hxs
      rw [if_pos rfl] at hx
      cases hx
      exact ⟨v, rfl, r⟩
    · rw [if_neg hxs] at hx
      cases hx
  · intro L
    generalize henv : callEnvC _ L 87 = env
    have ok' := ok.deeper (env := env)
    have hE : EnvAt env L := ⟨by rw [← henv]; rfl, by rw [← henv]; rfl⟩
    have hG : EnvG env := ⟨by rw [← henv]; rfl, by rw [← henv]; rfl⟩
    have H : LawEnv (c.deeper env) env L (L + 1) (L + 1 + 1) (L + 1 + 1 + 1) (L + 1 + 1 + 1 + 1) (L + 1 + 1 + 1 + 1 + 1) (L + 1 + 1 + 1 + 1 + 1 + 1) (L + 1 + 1 + 1 + 1 + 1 + 1 + 1) := .mk
      (hE)
      (hG)
      (by rw [← henv]; with_unfolding_all rfl)
      (by rw [← henv]; rfl)
      (by rw [← henv]; rfl)
      (⟨by rw [← henv]; rfl, by decide, by decide, by decide⟩)
      (⟨by rw [← henv]; rfl, by decide, by decide, by decide⟩)
      (⟨by rw [← henv]; rfl, by decide, by decide, by decide⟩)
      (⟨by rw [← henv]; rfl, by decide, by decide, by decide⟩)
      (⟨by rw [← henv]; rfl, by decide, by decide, by decide⟩)
      (⟨by rw [← henv]; rfl, by decide, by decide, by decide⟩)
      (⟨by rw [← henv]; rfl, by decide, by decide, by decide⟩)
      (⟨by rw [← henv]; rfl, by decide, by decide, by decide⟩)
      (⟨by rw [← henv]; rfl, by decide, by decide, by decide⟩)
      (⟨by rw [← henv]; rfl, by decide, by decide, by decide⟩)
      (⟨by rw [← henv]; rfl, by decide, by decide, by decide⟩)
      (⟨by rw [← henv]; rfl, by decide, by decide, by decide⟩)
      (⟨by rw [← henv]; rfl, by decide, by decide, by decide⟩)
      (⟨by rw [← henv]; rfl, by decide, by decide, by decide⟩)
      (⟨by rw [← henv]; rfl, by decide, by decide, by decide⟩)
      (⟨by rw [← henv]; rfl, by decide, by decide, by decide⟩)
      (⟨by rw [← henv]; rfl, by decide, by decide, by decide⟩)
      (⟨by rw [← henv]; rfl, by rw [← henv]; rfl, by decide⟩)
      (⟨by rw [← henv]; rfl, by rw [← henv]; rfl, by decide⟩)
      (⟨by rw [← henv]; rfl, by rw [← henv]; rfl, by decide⟩)
      (⟨by rw [← henv]; rfl, by rw [← henv]; rfl, by decide⟩)
      (⟨by rw [← henv]; rfl, by rw [← henv]; rfl, by decide⟩)
      (⟨by rw [← henv]; rfl, by rw [← henv]; rfl, by decide⟩)
      (⟨by rw [← henv]; rfl, by rw [← henv]; rfl, by decide⟩)
      (Glo.global ok' hE.kind (by rw [← henv]; rfl) hG.g (by decide) rfl (Rep.ref_mk _))
      (Glo.global ok' hE.kind (by rw [← henv]; rfl) hG.g (by decide) rfl (Rep.ref_mk _))
      (Glo.global ok' hE.kind (by rw [← henv]; rfl) hG.g (by decide) rfl (Rep.ref_mk _))
      (Glo.global ok' hE.kind (by rw [← henv]; rfl) hG.g (by decide) rfl (Rep.ref_mk _))
      (Glo.global ok' hE.kind (by rw [← henv]; rfl) hG.g (by decide) rfl (Rep.ref_mk _))
      (Glo.global ok' hE.kind (by rw [← henv]; rfl) hG.g (by decide) rfl (Rep.ref_mk _))
      (Glo.global ok' hE.kind (by rw [← henv]; rfl) hG.g (by decide) rfl (Rep.ref_mk _))
      (Glo.global ok' hE.kind (by rw [← henv]; rfl) hG.g (by decide) rfl (Rep.int_mk _ _))
      (Glo.global ok' hE.kind (by rw [← henv]; rfl) hG.g (by decide) rfl (Rep.int_mk _ _))
      (Glo.builtin ok' hE.kind (by rw [← henv]; rfl) hG.g hG.b (by decide) rfl (by kernel_rfl) (by decide))
      (Glo.builtin ok' hE.kind (by rw [← henv]; rfl) hG.g hG.b (by decide) rfl (by kernel_rfl) (by decide))
      (Glo.builtin ok' hE.kind (by rw [← henv]; rfl) hG.g hG.b (by decide) rfl (by kernel_rfl) (by decide))
      (Glo.builtin ok' hE.kind (by rw [← henv]; rfl) hG.g hG.b (by decide) rfl (by kernel_rfl) (by decide))
      (Glo.builtin ok' hE.kind (by rw [← henv]; rfl) hG.g hG.b (by decide) rfl (by kernel_rfl) (by decide))
    have bm' : Bm (c.deeper env) := ⟨bm.at'⟩
    have hhd : CodeHd (c.deeper env).h₀ 86 84 := codeHd_of_K ok.k (by kernel_rfl)
    show Ev (c.deeper env) ((L, lawF none none none none none none none none none none none none none none none none none) :: (L + 1 + 1 + 1 + 1 + 1 + 1 + 1, Ent.cell none) :: (L + 1 + 1 + 1 + 1 + 1 + 1, Ent.cell none) :: (L + 1 + 1 + 1 + 1 + 1, Ent.cell none) :: (L + 1 + 1 + 1 + 1, Ent.cell none) :: (L + 1 + 1 + 1, Ent.cell none) :: (L + 1 + 1, Ent.cell none) :: (L + 1, Ent.cell (some (.ref sl))) :: (84, Ent.obj (· = tabObj #[])) :: l) (execs lawB env) _
    clear henv
    refine Ev.perm (Pick.perm .head (Pick.perm (.tail (.tail (.tail (.tail (.tail (.tail .head)))))) (Pick.perm (.tail (.tail (.tail (.tail (.tail .head))))) (Pick.perm (.tail (.tail (.tail (.tail .head)))) (Pick.perm (.tail (.tail (.tail .head))) (Pick.perm (.tail (.tail .head)) (Pick.perm (.tail .head) (List.Perm.refl _)))))))) ?_
    refine Ev.mono (law_main (n := n) ok' bm' hhd h84 H hns hsl') ?_
    rintro f l' hxx1
    refine byG fun gG kgG => ?_
    obtain ⟨z, rfl, rz, hm⟩ := hxx1
    refine kgG ?_
    clear kgG gG
    exact ⟨_, l', rz, List.Sublist.refl _, rfl, hm⟩
end
end Mine
end
section
open PySem PySem.W PyProof.Rows
set_option linter.unusedVariables false
set_option maxRecDepth 100000
set_option maxHeartbeats 8000000
namespace Mine
theorem reps_ints {vs : List Value} {ns : List Int} (h : IntsAre vs ns) : Reps vs (ns.map AV.int) := by
  induction h with
  | nil => exact .nil
  | cons _ _ _ ih => exact .cons ⟨_, rfl⟩ ih
theorem law_run {prog : Program} {w : World} {s₁ : Shared} {sl : Addr} {ns : List Int} {Q : Value → Shared → Prop} {E : Value → Shared → Prop} {p : Program} {loose : List Str} {mean : ExcName → Option Value} {mg mb : Str → Option Value}
    (KX : (KF w.params).In s₁.heap) (KT : s₁.heap.get? 84 = some (tabObj #[])) (T : Top p loose mean mg mb s₁.heap) (hl : ∃ us, s₁.heap.IsList sl us.toArray ∧ Reps us (ns.map AV.int)) (hns : ns.length ≤ 63)
    (k : ∀ h' tk, OldK s₁.heap h' → Q (.bool true) { s₁ with heap := h', toks := tk }) : wpAny (model prog w) callerA (call (.ref 87) [.ref sl]) Q E s₁ := by
  have hC : CodeHd s₁.heap 86 84 := codeHd_of_K KX (by kernel_rfl)
  have hT : TabsAt [(86, 84)] s₁.heap := fun q hq => by
    have : q = (86, 84) := by simpa using hq
    subst this
    exact ⟨hC, KT⟩
  have T' := ghost_top hT T
  let c : Cx := ⟨prog, w, callerA, ghostOf s₁.heap [(86, 84)]⟩
  have hd : callerA.depth = 301 := rfl
  have hu : callerA.units = 4 := rfl
  have ok : Ok KF c (0 + 7) := ⟨rfl, by show callerA.depth + (0 + 7) ≤ 900; lia, by show callerA.units + 8 * (0 + 7) ≤ 9000; lia, ghost_K hT KX (by kernel_rfl), ⟨mg, T'.g⟩, ⟨mb, T'.b, T'.builtins⟩, T'.nolimit⟩
  have bm : Bm c := by
    refine byG fun gG kgG => ?_
    obtain ⟨bmA, ob, h1, h2, h3, h4, h5, h6⟩ := T'.bmain
    refine kgG ?_
    clear kgG gG
    refine ⟨mg, bmA, ob, T'.g, h1, h2, fun e => ?_, h3, h4, h5, h6⟩
    refine byG fun gG kgG => ?_
    obtain ⟨o, es, ep, ho, hd', _⟩ := T'.g
    refine kgG ?_
    clear kgG gG
    rw [e, ho] at h3
    cases h3
    rw [hd'] at h6
    cases h6
  have h84 : c.h₀.get? 84 = none := hideAll_none _ (.head _)
  have hl' : ∃ us, c.h₀.IsList sl us.toArray ∧ Reps us (ns.map AV.int) := let ⟨us, a, b⟩ := hl; ⟨us, ghost_list hT a, b⟩
  have O : Own c.h₀ s₁.heap ([(84, Ent.obj (· = tabObj #[]))] ++ []) := by
    refine ⟨fun p hp => ?_, by simp, fun b o e => of_hideAll _ e, fun p hp => ?_⟩
    · have : p = (84, Ent.obj (· = tabObj #[])) := by simpa using hp
      subst this
      exact ⟨_, KT, rfl⟩
    · have : p = (84, Ent.obj (· = tabObj #[])) := by simpa using hp
      subst this
      exact h84
  refine Ev.runV (c := c) (F := []) (law_call (n := 0) ok bm h84 (Rep.ref_mk sl) hns hl') O fun v a h' tk l' O' r ⟨e, more, hm⟩ => ?_
  subst e
  obtain ⟨_, rfl⟩ := r
  obtain ⟨o84, ho84, e84⟩ := O'.has _ (List.mem_append_left _ hm)
  subst e84
  refine k h' tk ⟨fun b o e => ?_, fun b o e => ?_⟩
  · by_cases hb : b = 84
    · subst hb
      rw [KT] at e
      cases e
      exact .inr (.inl ⟨(hC.tab KT).isCodeTable, rfl, #[], more, rfl, by rw [ho84]; simp⟩)
    · exact .inl (O'.keep b o (ghost_ne e (by simpa using hb)))
  · by_cases hb : b = 84
    · subst hb
      exact ⟨_, ho84⟩
    · exact ⟨o, O'.keep b o (ghost_ne e (by simpa using hb))⟩
end Mine
end
open PySem PySem.W PyProof.Rows
set_option maxRecDepth 100000
set_option maxHeartbeats 8000000
theorem PySem.Challenge.cw_rl0094_01_holds : PySem.Challenge.rw_rl0094_01.Holds := by
  refine Mine.row_eq ▸ Mine.hd ?_
  intro w s₀ s₁ mg mb G Y fa o pm cd doc dV kV ho hd hcd hD hmg hg args vals as hpre hlay hrd hwl hlo
  have KX : (Mine.KF w.params).In s₁.heap := Mine.KF_eq w.params ▸ km_in_of Y
  have KT := km_tabs_of Y
  have X := (Ground.X G).1
  have V := (Ground.X G).2
  try w_nolog (first | (have GL := glob_more (Ground.glob G (by first | k_qdec | decide +kernel) (by first | k_qdec | decide +kernel)) V) | (have GL := glob_more (Ground.glob G (by decide +kernel)) V))
  refine Ground.open G ?_
  intro T B D TE TW
  try (refine guard_noD D (by decide +kernel) ?_; clear D)
  have hfa : fa = 87 := by
    have e := mg_of KX T.g (n := Str.ofString "law") (v := .ref 87) (by kernel_rfl)
    have e2 : mg (Str.ofString "law") = some (.ref fa) := hmg
    rw [e] at e2
    injection e2 with e2
    injection e2 with e2
    exact e2.symm
  subst hfa
  clear hmg
  wrow_args hpre hlay hrd hwl hlo
  rename IntsAre _ _ => hI'
  rename Heap.IsList _ _ _ => hL'
  rename ¬ (_ < _) => hc'
  refine Mine.law_run KX (KT 84 (.head _)) T ⟨_, hL', Mine.reps_ints hI'⟩ (by lia) fun h' tk hK => ?_
  refine ⟨.inl ⟨.bool true, .bool true, [], rfl, raisesW_false ?_, .bool true, ?_, unshared_nil⟩, hK, rfl, .of_eq hg⟩
  · wrow_none_raised
  · wrow_post
