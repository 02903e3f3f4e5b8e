import PyProof.Rows.All
import Wide.All
import OpenK.AllK
import Wide.FinOn
import Lean
import PySem.Challenge.RW_ti0032_01
set_option Elab.async false

section
open PySem PySem.W PyProof.Rows PySem.Spec PySem.Calls
set_option maxRecDepth 100000
namespace Mine
/-- the statements of the given program, by their places -/
def nthS : List Stmt → Nat → Stmt
  | s :: _, 0 => s
  | _ :: r, n + 1 => nthS r n
  | [], _ => .Pass ⟨0, 0, 0, 0⟩
def topS (i : Nat) : Stmt := nthS PySem.Challenge.pw_ti0032_01.main.body i
def clsS (i j : Nat) : Stmt := match topS i with
  | .ClassDef _ _ _ b _ _ _ _ _ _ _ => nthS b j
  | s => s
def fArgs : Stmt → Arguments
  | .FunctionDef _ a _ _ _ _ _ _ _ _ => a
  | _ => { posonlyargs := [], args := [], vararg := none, kwonlyargs := [], kw_defaults := [], kwarg := none, defaults := [] }
def fBody : Stmt → List Stmt
  | .FunctionDef _ _ b _ _ _ _ _ _ _ => b
  | _ => []
def fScope : Stmt → Scope
  | .FunctionDef _ _ _ _ _ _ s _ _ _ => s
  | _ => { kind := .function, names := [], isGenerator := false, isCoroutine := false }
/-- what stands at the top, as far as the walk asks for it (printed by a program of this claim) -/
noncomputable def topK (P : Params) : Frag := [
  (2, { cls := PySem.Value.none, data := PySem.Data.dict #[] }),
  (3, { cls := PySem.Value.type "dict", data := PySem.Data.dict #[{ hash := PySem.PyData.keyHash P (PySem.Str.ofString "__name__"), key := PySem.Value.str (PySem.Str.ofString "__name__") 165, val := PySem.Value.str (PySem.Str.ofString "law_ti0032_01") 543 }, { hash := PySem.PyData.keyHash P (PySem.Str.ofString "__doc__"), key := PySem.Value.str (PySem.Str.ofString "__doc__") 166, val := PySem.Value.none }, { hash := PySem.PyData.keyHash P (PySem.Str.ofString "__package__"), key := PySem.Value.str (PySem.Str.ofString "__package__") 167, val := PySem.Value.none }, { hash := PySem.PyData.keyHash P (PySem.Str.ofString "__loader__"), key := PySem.Value.str (PySem.Str.ofString "__loader__") 168, val := PySem.Value.builtin "__main__.__loader__#opaque" }, { hash := PySem.PyData.keyHash P (PySem.Str.ofString "__spec__"), key := PySem.Value.str (PySem.Str.ofString "__spec__") 169, val := PySem.Value.none }, { hash := PySem.PyData.keyHash P (PySem.Str.ofString "__annotations__"), key := PySem.Value.str (PySem.Str.ofString "__annotations__") 170, val := PySem.Value.ref 6 }, { hash := PySem.PyData.keyHash P (PySem.Str.ofString "__builtins__"), key := PySem.Value.str (PySem.Str.ofString "__builtins__") 171, val := PySem.Value.ref 4 }, { hash := PySem.PyData.keyHash P (PySem.Str.ofString "__file__"), key := PySem.Value.str (PySem.Str.ofString "__file__") 173, val := PySem.Value.str (PySem.Str.ofString "/claim/cut.py") 172 }, { hash := PySem.PyData.keyHash P (PySem.Str.ofString "__cached__"), key := PySem.Value.str (PySem.Str.ofString "__cached__") 174, val := PySem.Value.none }, { hash := PySem.PyData.keyHash P (PySem.Str.ofString "_wall"), key := PySem.Value.str (PySem.Str.ofString "_wall") 193, val := PySem.Value.ref 21 }, { hash := PySem.PyData.keyHash P (PySem.Str.ofString "_MAX_STRING_SIZE"), key := PySem.Value.str (PySem.Str.ofString "_MAX_STRING_SIZE") 197, val := PySem.Value.int 40 196 }, { hash := PySem.PyData.keyHash P (PySem.Str.ofString "_MOVE_COST"), key := PySem.Value.str (PySem.Str.ofString "_MOVE_COST") 199, val := PySem.Value.int 2 198 }, { hash := PySem.PyData.keyHash P (PySem.Str.ofString "_CASE_COST"), key := PySem.Value.str (PySem.Str.ofString "_CASE_COST") 201, val := PySem.Value.int 1 200 }, { hash := PySem.PyData.keyHash P (PySem.Str.ofString "_substitution_cost"), key := PySem.Value.str (PySem.Str.ofString "_substitution_cost") 209, val := PySem.Value.ref 28 }, { hash := PySem.PyData.keyHash P (PySem.Str.ofString "_levenshtein_distance"), key := PySem.Value.str (PySem.Str.ofString "_levenshtein_distance") 229, val := PySem.Value.ref 35 }, { hash := PySem.PyData.keyHash P (PySem.Str.ofString "EMPTYSTRING"), key := PySem.Value.str (PySem.Str.ofString "EMPTYSTRING") 233, val := PySem.Value.str (PySem.Str.ofString "") 232 }, { hash := PySem.PyData.keyHash P (PySem.Str.ofString "_Accumulator"), key := PySem.Value.str (PySem.Str.ofString "_Accumulator") 329, val := PySem.Value.ref 115 }, { hash := PySem.PyData.keyHash P (PySem.Str.ofString "ENDMARKER"), key := PySem.Value.str (PySem.Str.ofString "ENDMARKER") 333, val := PySem.Value.int 0 332 }, { hash := PySem.PyData.keyHash P (PySem.Str.ofString "LPAR"), key := PySem.Value.str (PySem.Str.ofString "LPAR") 335, val := PySem.Value.int 7 334 }, { hash := PySem.PyData.keyHash P (PySem.Str.ofString "RPAR"), key := PySem.Value.str (PySem.Str.ofString "RPAR") 337, val := PySem.Value.int 8 336 }, { hash := PySem.PyData.keyHash P (PySem.Str.ofString "LSQB"), key := PySem.Value.str (PySem.Str.ofString "LSQB") 339, val := PySem.Value.int 9 338 }, { hash := PySem.PyData.keyHash P (PySem.Str.ofString "RSQB"), key := PySem.Value.str (PySem.Str.ofString "RSQB") 341, val := PySem.Value.int 10 340 }, { hash := PySem.PyData.keyHash P (PySem.Str.ofString "COLON"), key := PySem.Value.str (PySem.Str.ofString "COLON") 343, val := PySem.Value.int 11 342 }, { hash := PySem.PyData.keyHash P (PySem.Str.ofString "COMMA"), key := PySem.Value.str (PySem.Str.ofString "COMMA") 345, val := PySem.Value.int 12 344 }, { hash := PySem.PyData.keyHash P (PySem.Str.ofString "SEMI"), key := PySem.Value.str (PySem.Str.ofString "SEMI") 347, val := PySem.Value.int 13 346 }, { hash := PySem.PyData.keyHash P (PySem.Str.ofString "PLUS"), key := PySem.Value.str (PySem.Str.ofString "PLUS") 349, val := PySem.Value.int 14 348 }, { hash := PySem.PyData.keyHash P (PySem.Str.ofString "MINUS"), key := PySem.Value.str (PySem.Str.ofString "MINUS") 351, val := PySem.Value.int 15 350 }, { hash := PySem.PyData.keyHash P (PySem.Str.ofString "STAR"), key := PySem.Value.str (PySem.Str.ofString "STAR") 353, val := PySem.Value.int 16 352 }, { hash := PySem.PyData.keyHash P (PySem.Str.ofString "SLASH"), key := PySem.Value.str (PySem.Str.ofString "SLASH") 355, val := PySem.Value.int 17 354 }, { hash := PySem.PyData.keyHash P (PySem.Str.ofString "VBAR"), key := PySem.Value.str (PySem.Str.ofString "VBAR") 357, val := PySem.Value.int 18 356 }, { hash := PySem.PyData.keyHash P (PySem.Str.ofString "AMPER"), key := PySem.Value.str (PySem.Str.ofString "AMPER") 359, val := PySem.Value.int 19 358 }, { hash := PySem.PyData.keyHash P (PySem.Str.ofString "LESS"), key := PySem.Value.str (PySem.Str.ofString "LESS") 361, val := PySem.Value.int 20 360 }, { hash := PySem.PyData.keyHash P (PySem.Str.ofString "GREATER"), key := PySem.Value.str (PySem.Str.ofString "GREATER") 363, val := PySem.Value.int 21 362 }, { hash := PySem.PyData.keyHash P (PySem.Str.ofString "EQUAL"), key := PySem.Value.str (PySem.Str.ofString "EQUAL") 365, val := PySem.Value.int 22 364 }, { hash := PySem.PyData.keyHash P (PySem.Str.ofString "DOT"), key := PySem.Value.str (PySem.Str.ofString "DOT") 367, val := PySem.Value.int 23 366 }, { hash := PySem.PyData.keyHash P (PySem.Str.ofString "PERCENT"), key := PySem.Value.str (PySem.Str.ofString "PERCENT") 369, val := PySem.Value.int 24 368 }, { hash := PySem.PyData.keyHash P (PySem.Str.ofString "LBRACE"), key := PySem.Value.str (PySem.Str.ofString "LBRACE") 371, val := PySem.Value.int 25 370 }, { hash := PySem.PyData.keyHash P (PySem.Str.ofString "RBRACE"), key := PySem.Value.str (PySem.Str.ofString "RBRACE") 373, val := PySem.Value.int 26 372 }, { hash := PySem.PyData.keyHash P (PySem.Str.ofString "EQEQUAL"), key := PySem.Value.str (PySem.Str.ofString "EQEQUAL") 375, val := PySem.Value.int 27 374 }, { hash := PySem.PyData.keyHash P (PySem.Str.ofString "NOTEQUAL"), key := PySem.Value.str (PySem.Str.ofString "NOTEQUAL") 377, val := PySem.Value.int 28 376 }, { hash := PySem.PyData.keyHash P (PySem.Str.ofString "LESSEQUAL"), key := PySem.Value.str (PySem.Str.ofString "LESSEQUAL") 379, val := PySem.Value.int 29 378 }, { hash := PySem.PyData.keyHash P (PySem.Str.ofString "GREATEREQUAL"), key := PySem.Value.str (PySem.Str.ofString "GREATEREQUAL") 381, val := PySem.Value.int 30 380 }, { hash := PySem.PyData.keyHash P (PySem.Str.ofString "TILDE"), key := PySem.Value.str (PySem.Str.ofString "TILDE") 383, val := PySem.Value.int 31 382 }, { hash := PySem.PyData.keyHash P (PySem.Str.ofString "CIRCUMFLEX"), key := PySem.Value.str (PySem.Str.ofString "CIRCUMFLEX") 385, val := PySem.Value.int 32 384 }, { hash := PySem.PyData.keyHash P (PySem.Str.ofString "LEFTSHIFT"), key := PySem.Value.str (PySem.Str.ofString "LEFTSHIFT") 387, val := PySem.Value.int 33 386 }, { hash := PySem.PyData.keyHash P (PySem.Str.ofString "RIGHTSHIFT"), key := PySem.Value.str (PySem.Str.ofString "RIGHTSHIFT") 389, val := PySem.Value.int 34 388 }, { hash := PySem.PyData.keyHash P (PySem.Str.ofString "DOUBLESTAR"), key := PySem.Value.str (PySem.Str.ofString "DOUBLESTAR") 391, val := PySem.Value.int 35 390 }, { hash := PySem.PyData.keyHash P (PySem.Str.ofString "PLUSEQUAL"), key := PySem.Value.str (PySem.Str.ofString "PLUSEQUAL") 393, val := PySem.Value.int 36 392 }, { hash := PySem.PyData.keyHash P (PySem.Str.ofString "MINEQUAL"), key := PySem.Value.str (PySem.Str.ofString "MINEQUAL") 395, val := PySem.Value.int 37 394 }, { hash := PySem.PyData.keyHash P (PySem.Str.ofString "STAREQUAL"), key := PySem.Value.str (PySem.Str.ofString "STAREQUAL") 397, val := PySem.Value.int 38 396 }, { hash := PySem.PyData.keyHash P (PySem.Str.ofString "SLASHEQUAL"), key := PySem.Value.str (PySem.Str.ofString "SLASHEQUAL") 399, val := PySem.Value.int 39 398 }, { hash := PySem.PyData.keyHash P (PySem.Str.ofString "PERCENTEQUAL"), key := PySem.Value.str (PySem.Str.ofString "PERCENTEQUAL") 401, val := PySem.Value.int 40 400 }, { hash := PySem.PyData.keyHash P (PySem.Str.ofString "AMPEREQUAL"), key := PySem.Value.str (PySem.Str.ofString "AMPEREQUAL") 403, val := PySem.Value.int 41 402 }, { hash := PySem.PyData.keyHash P (PySem.Str.ofString "VBAREQUAL"), key := PySem.Value.str (PySem.Str.ofString "VBAREQUAL") 405, val := PySem.Value.int 42 404 }, { hash := PySem.PyData.keyHash P (PySem.Str.ofString "CIRCUMFLEXEQUAL"), key := PySem.Value.str (PySem.Str.ofString "CIRCUMFLEXEQUAL") 407, val := PySem.Value.int 43 406 }, { hash := PySem.PyData.keyHash P (PySem.Str.ofString "LEFTSHIFTEQUAL"), key := PySem.Value.str (PySem.Str.ofString "LEFTSHIFTEQUAL") 409, val := PySem.Value.int 44 408 }, { hash := PySem.PyData.keyHash P (PySem.Str.ofString "RIGHTSHIFTEQUAL"), key := PySem.Value.str (PySem.Str.ofString "RIGHTSHIFTEQUAL") 411, val := PySem.Value.int 45 410 }, { hash := PySem.PyData.keyHash P (PySem.Str.ofString "DOUBLESTAREQUAL"), key := PySem.Value.str (PySem.Str.ofString "DOUBLESTAREQUAL") 413, val := PySem.Value.int 46 412 }, { hash := PySem.PyData.keyHash P (PySem.Str.ofString "DOUBLESLASH"), key := PySem.Value.str (PySem.Str.ofString "DOUBLESLASH") 415, val := PySem.Value.int 47 414 }, { hash := PySem.PyData.keyHash P (PySem.Str.ofString "DOUBLESLASHEQUAL"), key := PySem.Value.str (PySem.Str.ofString "DOUBLESLASHEQUAL") 417, val := PySem.Value.int 48 416 }, { hash := PySem.PyData.keyHash P (PySem.Str.ofString "AT"), key := PySem.Value.str (PySem.Str.ofString "AT") 419, val := PySem.Value.int 49 418 }, { hash := PySem.PyData.keyHash P (PySem.Str.ofString "ATEQUAL"), key := PySem.Value.str (PySem.Str.ofString "ATEQUAL") 421, val := PySem.Value.int 50 420 }, { hash := PySem.PyData.keyHash P (PySem.Str.ofString "RARROW"), key := PySem.Value.str (PySem.Str.ofString "RARROW") 423, val := PySem.Value.int 51 422 }, { hash := PySem.PyData.keyHash P (PySem.Str.ofString "ELLIPSIS"), key := PySem.Value.str (PySem.Str.ofString "ELLIPSIS") 425, val := PySem.Value.int 52 424 }, { hash := PySem.PyData.keyHash P (PySem.Str.ofString "COLONEQUAL"), key := PySem.Value.str (PySem.Str.ofString "COLONEQUAL") 427, val := PySem.Value.int 53 426 }, { hash := PySem.PyData.keyHash P (PySem.Str.ofString "EXCLAMATION"), key := PySem.Value.str (PySem.Str.ofString "EXCLAMATION") 429, val := PySem.Value.int 54 428 }, { hash := PySem.PyData.keyHash P (PySem.Str.ofString "NT_OFFSET"), key := PySem.Value.str (PySem.Str.ofString "NT_OFFSET") 431, val := PySem.Value.int 256 430 }, { hash := PySem.PyData.keyHash P (PySem.Str.ofString "EXACT_TOKEN_TYPES"), key := PySem.Value.str (PySem.Str.ofString "EXACT_TOKEN_TYPES") 528, val := PySem.Value.ref 120 }, { hash := PySem.PyData.keyHash P (PySem.Str.ofString "ISNONTERMINAL"), key := PySem.Value.str (PySem.Str.ofString "ISNONTERMINAL") 535, val := PySem.Value.ref 129 }, { hash := PySem.PyData.keyHash P (PySem.Str.ofString "ISEOF"), key := PySem.Value.str (PySem.Str.ofString "ISEOF") 542, val := PySem.Value.ref 136 }, { hash := PySem.PyData.keyHash P (PySem.Str.ofString "_law_pair"), key := PySem.Value.str (PySem.Str.ofString "_law_pair") 551, val := PySem.Value.ref 143 }, { hash := PySem.PyData.keyHash P (PySem.Str.ofString "_law_rule"), key := PySem.Value.str (PySem.Str.ofString "_law_rule") 566, val := PySem.Value.ref 150 }, { hash := PySem.PyData.keyHash P (PySem.Str.ofString "_law_grammar"), key := PySem.Value.str (PySem.Str.ofString "_law_grammar") 572, val := PySem.Value.ref 155 }, { hash := PySem.PyData.keyHash P (PySem.Str.ofString "_law_spelled"), key := PySem.Value.str (PySem.Str.ofString "_law_spelled") 587, val := PySem.Value.ref 162 }, { hash := PySem.PyData.keyHash P (PySem.Str.ofString "_law_single"), key := PySem.Value.str (PySem.Str.ofString "_law_single") 593, val := PySem.Value.ref 167 }, { hash := PySem.PyData.keyHash P (PySem.Str.ofString "_law_sign_table"), key := PySem.Value.str (PySem.Str.ofString "_law_sign_table") 599, val := PySem.Value.ref 172 }, { hash := PySem.PyData.keyHash P (PySem.Str.ofString "_law_rule_table"), key := PySem.Value.str (PySem.Str.ofString "_law_rule_table") 605, val := PySem.Value.ref 177 }, { hash := PySem.PyData.keyHash P (PySem.Str.ofString "_law_agree"), key := PySem.Value.str (PySem.Str.ofString "_law_agree") 611, val := PySem.Value.ref 182 }, { hash := PySem.PyData.keyHash P (PySem.Str.ofString "law"), key := PySem.Value.str (PySem.Str.ofString "law") 617, val := PySem.Value.ref 187 }] 79 }),
  (15, { cls := PySem.Value.type "tuple", data := PySem.Data.seq #[] }),
  (17, { cls := PySem.Value.type "tuple", data := PySem.Data.seq #[PySem.Value.str (PySem.Str.ofString "k") 190] }),
  (18, { cls := PySem.Value.type "tuple", data := PySem.Data.seq #[] }),
  (20, { cls := PySem.Value.type "code", data := PySem.Data.fields #[PySem.Value.str (PySem.Str.ofString "_wall") 187, PySem.Value.str (PySem.Str.ofString "_wall") 188, PySem.Value.str (PySem.Str.ofString "/claim/cut.py") 189, PySem.Value.int 1 0, PySem.Value.int 1 0, PySem.Value.int 0 0, PySem.Value.int 0 0, PySem.Value.int 3 0, PySem.Value.ref 15, PySem.Value.bool true, PySem.Value.int 181 0, PySem.Value.ref 16, PySem.Value.none, PySem.Value.ref 17, PySem.Value.ref 18, PySem.Value.ref 19, PySem.Value.int 191 0, PySem.Value.int 1 0, PySem.Value.str (PySem.Str.ofString "/claim/cut.py") 192] }),
  (21, { cls := PySem.Value.type "function", data := PySem.Data.func { name := PySem.Str.ofString "_wall", qualname := PySem.Str.ofString "_wall", params := fArgs (topS 0), body := PySem.FuncBody.stmts (fBody (topS 0)), scope := fScope (topS 0), globals := 3, closure := [], defaults := PySem.Value.none, kwdefaults := PySem.Value.none, doc := PySem.Value.none, pyModule := PySem.Value.str (PySem.Str.ofString "__main__") 164, annotations := none, code := PySem.Value.ref 20, closureTuple := PySem.Value.none, builtins := 0 } }),
  (22, { cls := PySem.Value.type "tuple", data := PySem.Data.seq #[] }),
  (24, { cls := PySem.Value.type "tuple", data := PySem.Data.seq #[PySem.Value.str (PySem.Str.ofString "ch_a") 205, PySem.Value.str (PySem.Str.ofString "ch_b") 206] }),
  (25, { cls := PySem.Value.type "tuple", data := PySem.Data.seq #[] }),
  (27, { cls := PySem.Value.type "code", data := PySem.Data.fields #[PySem.Value.str (PySem.Str.ofString "_substitution_cost") 202, PySem.Value.str (PySem.Str.ofString "_substitution_cost") 203, PySem.Value.str (PySem.Str.ofString "/claim/cut.py") 204, PySem.Value.int 8 0, PySem.Value.int 2 0, PySem.Value.int 0 0, PySem.Value.int 0 0, PySem.Value.int 3 0, PySem.Value.ref 22, PySem.Value.bool true, PySem.Value.int 181 0, PySem.Value.ref 23, PySem.Value.none, PySem.Value.ref 24, PySem.Value.ref 25, PySem.Value.ref 26, PySem.Value.int 207 0, PySem.Value.int 8 0, PySem.Value.str (PySem.Str.ofString "/claim/cut.py") 208] }),
  (28, { cls := PySem.Value.type "function", data := PySem.Data.func { name := PySem.Str.ofString "_substitution_cost", qualname := PySem.Str.ofString "_substitution_cost", params := fArgs (topS 5), body := PySem.FuncBody.stmts (fBody (topS 5)), scope := fScope (topS 5), globals := 3, closure := [], defaults := PySem.Value.none, kwdefaults := PySem.Value.none, doc := PySem.Value.none, pyModule := PySem.Value.str (PySem.Str.ofString "cpy313.traceback") 194, annotations := none, code := PySem.Value.ref 27, closureTuple := PySem.Value.none, builtins := 0 } }),
  (29, { cls := PySem.Value.type "tuple", data := PySem.Data.seq #[] }),
  (31, { cls := PySem.Value.type "tuple", data := PySem.Data.seq #[PySem.Value.str (PySem.Str.ofString "a") 213, PySem.Value.str (PySem.Str.ofString "b") 214, PySem.Value.str (PySem.Str.ofString "max_cost") 215, PySem.Value.str (PySem.Str.ofString "pre") 216, PySem.Value.str (PySem.Str.ofString "post") 217, PySem.Value.str (PySem.Str.ofString "row") 218, PySem.Value.str (PySem.Str.ofString "result") 219, PySem.Value.str (PySem.Str.ofString "bindex") 220, PySem.Value.str (PySem.Str.ofString "bchar") 221, PySem.Value.str (PySem.Str.ofString "distance") 222, PySem.Value.str (PySem.Str.ofString "minimum") 223, PySem.Value.str (PySem.Str.ofString "index") 224, PySem.Value.str (PySem.Str.ofString "substitute") 225, PySem.Value.str (PySem.Str.ofString "insert_delete") 226] }),
  (32, { cls := PySem.Value.type "tuple", data := PySem.Data.seq #[] }),
  (34, { cls := PySem.Value.type "code", data := PySem.Data.fields #[PySem.Value.str (PySem.Str.ofString "_levenshtein_distance") 210, PySem.Value.str (PySem.Str.ofString "_levenshtein_distance") 211, PySem.Value.str (PySem.Str.ofString "/claim/cut.py") 212, PySem.Value.int 14 0, PySem.Value.int 3 0, PySem.Value.int 0 0, PySem.Value.int 0 0, PySem.Value.int 3 0, PySem.Value.ref 29, PySem.Value.bool true, PySem.Value.int 181 0, PySem.Value.ref 30, PySem.Value.none, PySem.Value.ref 31, PySem.Value.ref 32, PySem.Value.ref 33, PySem.Value.int 227 0, PySem.Value.int 14 0, PySem.Value.str (PySem.Str.ofString "/claim/cut.py") 228] }),
  (35, { cls := PySem.Value.type "function", data := PySem.Data.func { name := PySem.Str.ofString "_levenshtein_distance", qualname := PySem.Str.ofString "_levenshtein_distance", params := fArgs (topS 6), body := PySem.FuncBody.stmts (fBody (topS 6)), scope := fScope (topS 6), globals := 3, closure := [], defaults := PySem.Value.none, kwdefaults := PySem.Value.none, doc := PySem.Value.none, pyModule := PySem.Value.str (PySem.Str.ofString "cpy313.traceback") 194, annotations := none, code := PySem.Value.ref 34, closureTuple := PySem.Value.none, builtins := 0 } }),
  (36, { cls := PySem.Value.type "tuple", data := PySem.Data.seq #[PySem.Value.type "list"] }),
  (39, { cls := PySem.Value.type "cell", data := PySem.Data.cell (some (PySem.Value.ref 115)) }),
  (44, { cls := PySem.Value.type "tuple", data := PySem.Data.seq #[PySem.Value.int 0 246] }),
  (45, { cls := PySem.Value.type "tuple", data := PySem.Data.seq #[PySem.Value.ref 39] }),
  (46, { cls := PySem.Value.type "tuple", data := PySem.Data.seq #[PySem.Value.str (PySem.Str.ofString "__class__") 250] }),
  (48, { cls := PySem.Value.type "tuple", data := PySem.Data.seq #[PySem.Value.str (PySem.Str.ofString "self") 251, PySem.Value.str (PySem.Str.ofString "initial_size") 252] }),
  (49, { cls := PySem.Value.type "tuple", data := PySem.Data.seq #[] }),
  (51, { cls := PySem.Value.type "code", data := PySem.Data.fields #[PySem.Value.str (PySem.Str.ofString "__init__") 247, PySem.Value.str (PySem.Str.ofString "_Accumulator.__init__") 248, PySem.Value.str (PySem.Str.ofString "/claim/cut.py") 249, PySem.Value.int 56 0, PySem.Value.int 2 0, PySem.Value.int 0 0, PySem.Value.int 0 0, PySem.Value.int 3 0, PySem.Value.ref 46, PySem.Value.bool true, PySem.Value.int 181 0, PySem.Value.ref 47, PySem.Value.none, PySem.Value.ref 48, PySem.Value.ref 49, PySem.Value.ref 50, PySem.Value.int 253 0, PySem.Value.int 56 0, PySem.Value.str (PySem.Str.ofString "/claim/cut.py") 254] }),
  (52, { cls := PySem.Value.type "function", data := PySem.Data.func { name := PySem.Str.ofString "__init__", qualname := PySem.Str.ofString "_Accumulator.__init__", params := fArgs (clsS 9 0), body := PySem.FuncBody.stmts (fBody (clsS 9 0)), scope := fScope (clsS 9 0), globals := 3, closure := [(PySem.Str.ofString "__class__", 39)], defaults := PySem.Value.ref 44, kwdefaults := PySem.Value.none, doc := PySem.Value.none, pyModule := PySem.Value.str (PySem.Str.ofString "cpy313.email.header") 230, annotations := none, code := PySem.Value.ref 51, closureTuple := PySem.Value.ref 45, builtins := 0 } }),
  (53, { cls := PySem.Value.type "tuple", data := PySem.Data.seq #[] }),
  (55, { cls := PySem.Value.type "tuple", data := PySem.Data.seq #[PySem.Value.str (PySem.Str.ofString "self") 259, PySem.Value.str (PySem.Str.ofString "fws") 260, PySem.Value.str (PySem.Str.ofString "string") 261] }),
  (56, { cls := PySem.Value.type "tuple", data := PySem.Data.seq #[] }),
  (58, { cls := PySem.Value.type "code", data := PySem.Data.fields #[PySem.Value.str (PySem.Str.ofString "push") 256, PySem.Value.str (PySem.Str.ofString "_Accumulator.push") 257, PySem.Value.str (PySem.Str.ofString "/claim/cut.py") 258, PySem.Value.int 60 0, PySem.Value.int 3 0, PySem.Value.int 0 0, PySem.Value.int 0 0, PySem.Value.int 3 0, PySem.Value.ref 53, PySem.Value.bool true, PySem.Value.int 181 0, PySem.Value.ref 54, PySem.Value.none, PySem.Value.ref 55, PySem.Value.ref 56, PySem.Value.ref 57, PySem.Value.int 262 0, PySem.Value.int 60 0, PySem.Value.str (PySem.Str.ofString "/claim/cut.py") 263] }),
  (59, { cls := PySem.Value.type "function", data := PySem.Data.func { name := PySem.Str.ofString "push", qualname := PySem.Str.ofString "_Accumulator.push", params := fArgs (clsS 9 1), body := PySem.FuncBody.stmts (fBody (clsS 9 1)), scope := fScope (clsS 9 1), globals := 3, closure := [], defaults := PySem.Value.none, kwdefaults := PySem.Value.none, doc := PySem.Value.none, pyModule := PySem.Value.str (PySem.Str.ofString "cpy313.email.header") 230, annotations := none, code := PySem.Value.ref 58, closureTuple := PySem.Value.none, builtins := 0 } }),
  (60, { cls := PySem.Value.type "tuple", data := PySem.Data.seq #[PySem.Value.int 0 265] }),
  (61, { cls := PySem.Value.type "tuple", data := PySem.Data.seq #[] }),
  (63, { cls := PySem.Value.type "tuple", data := PySem.Data.seq #[PySem.Value.str (PySem.Str.ofString "self") 269, PySem.Value.str (PySem.Str.ofString "i") 270, PySem.Value.str (PySem.Str.ofString "popped") 271] }),
  (64, { cls := PySem.Value.type "tuple", data := PySem.Data.seq #[] }),
  (66, { cls := PySem.Value.type "code", data := PySem.Data.fields #[PySem.Value.str (PySem.Str.ofString "pop_from") 266, PySem.Value.str (PySem.Str.ofString "_Accumulator.pop_from") 267, PySem.Value.str (PySem.Str.ofString "/claim/cut.py") 268, PySem.Value.int 63 0, PySem.Value.int 2 0, PySem.Value.int 0 0, PySem.Value.int 0 0, PySem.Value.int 3 0, PySem.Value.ref 61, PySem.Value.bool true, PySem.Value.int 181 0, PySem.Value.ref 62, PySem.Value.none, PySem.Value.ref 63, PySem.Value.ref 64, PySem.Value.ref 65, PySem.Value.int 272 0, PySem.Value.int 63 0, PySem.Value.str (PySem.Str.ofString "/claim/cut.py") 273] }),
  (67, { cls := PySem.Value.type "function", data := PySem.Data.func { name := PySem.Str.ofString "pop_from", qualname := PySem.Str.ofString "_Accumulator.pop_from", params := fArgs (clsS 9 2), body := PySem.FuncBody.stmts (fBody (clsS 9 2)), scope := fScope (clsS 9 2), globals := 3, closure := [], defaults := PySem.Value.ref 60, kwdefaults := PySem.Value.none, doc := PySem.Value.none, pyModule := PySem.Value.str (PySem.Str.ofString "cpy313.email.header") 230, annotations := none, code := PySem.Value.ref 66, closureTuple := PySem.Value.none, builtins := 0 } }),
  (68, { cls := PySem.Value.type "tuple", data := PySem.Data.seq #[PySem.Value.ref 39] }),
  (69, { cls := PySem.Value.type "tuple", data := PySem.Data.seq #[PySem.Value.str (PySem.Str.ofString "__class__") 278] }),
  (71, { cls := PySem.Value.type "tuple", data := PySem.Data.seq #[PySem.Value.str (PySem.Str.ofString "self") 279] }),
  (72, { cls := PySem.Value.type "tuple", data := PySem.Data.seq #[] }),
  (74, { cls := PySem.Value.type "code", data := PySem.Data.fields #[PySem.Value.str (PySem.Str.ofString "pop") 275, PySem.Value.str (PySem.Str.ofString "_Accumulator.pop") 276, PySem.Value.str (PySem.Str.ofString "/claim/cut.py") 277, PySem.Value.int 68 0, PySem.Value.int 1 0, PySem.Value.int 0 0, PySem.Value.int 0 0, PySem.Value.int 3 0, PySem.Value.ref 69, PySem.Value.bool true, PySem.Value.int 181 0, PySem.Value.ref 70, PySem.Value.none, PySem.Value.ref 71, PySem.Value.ref 72, PySem.Value.ref 73, PySem.Value.int 280 0, PySem.Value.int 68 0, PySem.Value.str (PySem.Str.ofString "/claim/cut.py") 281] }),
  (75, { cls := PySem.Value.type "function", data := PySem.Data.func { name := PySem.Str.ofString "pop", qualname := PySem.Str.ofString "_Accumulator.pop", params := fArgs (clsS 9 3), body := PySem.FuncBody.stmts (fBody (clsS 9 3)), scope := fScope (clsS 9 3), globals := 3, closure := [(PySem.Str.ofString "__class__", 39)], defaults := PySem.Value.none, kwdefaults := PySem.Value.none, doc := PySem.Value.none, pyModule := PySem.Value.str (PySem.Str.ofString "cpy313.email.header") 230, annotations := none, code := PySem.Value.ref 74, closureTuple := PySem.Value.ref 68, builtins := 0 } }),
  (76, { cls := PySem.Value.type "tuple", data := PySem.Data.seq #[] }),
  (78, { cls := PySem.Value.type "tuple", data := PySem.Data.seq #[PySem.Value.str (PySem.Str.ofString "self") 286] }),
  (79, { cls := PySem.Value.type "tuple", data := PySem.Data.seq #[] }),
  (81, { cls := PySem.Value.type "code", data := PySem.Data.fields #[PySem.Value.str (PySem.Str.ofString "__len__") 283, PySem.Value.str (PySem.Str.ofString "_Accumulator.__len__") 284, PySem.Value.str (PySem.Str.ofString "/claim/cut.py") 285, PySem.Value.int 73 0, PySem.Value.int 1 0, PySem.Value.int 0 0, PySem.Value.int 0 0, PySem.Value.int 3 0, PySem.Value.ref 76, PySem.Value.bool true, PySem.Value.int 181 0, PySem.Value.ref 77, PySem.Value.none, PySem.Value.ref 78, PySem.Value.ref 79, PySem.Value.ref 80, PySem.Value.int 287 0, PySem.Value.int 73 0, PySem.Value.str (PySem.Str.ofString "/claim/cut.py") 288] }),
  (82, { cls := PySem.Value.type "function", data := PySem.Data.func { name := PySem.Str.ofString "__len__", qualname := PySem.Str.ofString "_Accumulator.__len__", params := fArgs (clsS 9 4), body := PySem.FuncBody.stmts (fBody (clsS 9 4)), scope := fScope (clsS 9 4), globals := 3, closure := [], defaults := PySem.Value.none, kwdefaults := PySem.Value.none, doc := PySem.Value.none, pyModule := PySem.Value.str (PySem.Str.ofString "cpy313.email.header") 230, annotations := none, code := PySem.Value.ref 81, closureTuple := PySem.Value.none, builtins := 0 } }),
  (83, { cls := PySem.Value.type "tuple", data := PySem.Data.seq #[] }),
  (85, { cls := PySem.Value.type "tuple", data := PySem.Data.seq #[PySem.Value.str (PySem.Str.ofString "self") 293] }),
  (86, { cls := PySem.Value.type "tuple", data := PySem.Data.seq #[] }),
  (88, { cls := PySem.Value.type "code", data := PySem.Data.fields #[PySem.Value.str (PySem.Str.ofString "__str__") 290, PySem.Value.str (PySem.Str.ofString "_Accumulator.__str__") 291, PySem.Value.str (PySem.Str.ofString "/claim/cut.py") 292, PySem.Value.int 76 0, PySem.Value.int 1 0, PySem.Value.int 0 0, PySem.Value.int 0 0, PySem.Value.int 3 0, PySem.Value.ref 83, PySem.Value.bool true, PySem.Value.int 181 0, PySem.Value.ref 84, PySem.Value.none, PySem.Value.ref 85, PySem.Value.ref 86, PySem.Value.ref 87, PySem.Value.int 294 0, PySem.Value.int 76 0, PySem.Value.str (PySem.Str.ofString "/claim/cut.py") 295] }),
  (89, { cls := PySem.Value.type "function", data := PySem.Data.func { name := PySem.Str.ofString "__str__", qualname := PySem.Str.ofString "_Accumulator.__str__", params := fArgs (clsS 9 5), body := PySem.FuncBody.stmts (fBody (clsS 9 5)), scope := fScope (clsS 9 5), globals := 3, closure := [], defaults := PySem.Value.none, kwdefaults := PySem.Value.none, doc := PySem.Value.none, pyModule := PySem.Value.str (PySem.Str.ofString "cpy313.email.header") 230, annotations := none, code := PySem.Value.ref 88, closureTuple := PySem.Value.none, builtins := 0 } }),
  (90, { cls := PySem.Value.type "tuple", data := PySem.Data.seq #[PySem.Value.none] }),
  (91, { cls := PySem.Value.type "tuple", data := PySem.Data.seq #[] }),
  (93, { cls := PySem.Value.type "tuple", data := PySem.Data.seq #[PySem.Value.str (PySem.Str.ofString "self") 300, PySem.Value.str (PySem.Str.ofString "startval") 301] }),
  (94, { cls := PySem.Value.type "tuple", data := PySem.Data.seq #[] }),
  (96, { cls := PySem.Value.type "code", data := PySem.Data.fields #[PySem.Value.str (PySem.Str.ofString "reset") 297, PySem.Value.str (PySem.Str.ofString "_Accumulator.reset") 298, PySem.Value.str (PySem.Str.ofString "/claim/cut.py") 299, PySem.Value.int 79 0, PySem.Value.int 2 0, PySem.Value.int 0 0, PySem.Value.int 0 0, PySem.Value.int 3 0, PySem.Value.ref 91, PySem.Value.bool true, PySem.Value.int 181 0, PySem.Value.ref 92, PySem.Value.none, PySem.Value.ref 93, PySem.Value.ref 94, PySem.Value.ref 95, PySem.Value.int 302 0, PySem.Value.int 79 0, PySem.Value.str (PySem.Str.ofString "/claim/cut.py") 303] }),
  (97, { cls := PySem.Value.type "function", data := PySem.Data.func { name := PySem.Str.ofString "reset", qualname := PySem.Str.ofString "_Accumulator.reset", params := fArgs (clsS 9 6), body := PySem.FuncBody.stmts (fBody (clsS 9 6)), scope := fScope (clsS 9 6), globals := 3, closure := [], defaults := PySem.Value.ref 90, kwdefaults := PySem.Value.none, doc := PySem.Value.none, pyModule := PySem.Value.str (PySem.Str.ofString "cpy313.email.header") 230, annotations := none, code := PySem.Value.ref 96, closureTuple := PySem.Value.none, builtins := 0 } }),
  (98, { cls := PySem.Value.type "tuple", data := PySem.Data.seq #[] }),
  (100, { cls := PySem.Value.type "tuple", data := PySem.Data.seq #[PySem.Value.str (PySem.Str.ofString "self") 308] }),
  (101, { cls := PySem.Value.type "tuple", data := PySem.Data.seq #[] }),
  (103, { cls := PySem.Value.type "code", data := PySem.Data.fields #[PySem.Value.str (PySem.Str.ofString "is_onlyws") 305, PySem.Value.str (PySem.Str.ofString "_Accumulator.is_onlyws") 306, PySem.Value.str (PySem.Str.ofString "/claim/cut.py") 307, PySem.Value.int 85 0, PySem.Value.int 1 0, PySem.Value.int 0 0, PySem.Value.int 0 0, PySem.Value.int 3 0, PySem.Value.ref 98, PySem.Value.bool true, PySem.Value.int 181 0, PySem.Value.ref 99, PySem.Value.none, PySem.Value.ref 100, PySem.Value.ref 101, PySem.Value.ref 102, PySem.Value.int 309 0, PySem.Value.int 85 0, PySem.Value.str (PySem.Str.ofString "/claim/cut.py") 310] }),
  (104, { cls := PySem.Value.type "function", data := PySem.Data.func { name := PySem.Str.ofString "is_onlyws", qualname := PySem.Str.ofString "_Accumulator.is_onlyws", params := fArgs (clsS 9 7), body := PySem.FuncBody.stmts (fBody (clsS 9 7)), scope := fScope (clsS 9 7), globals := 3, closure := [], defaults := PySem.Value.none, kwdefaults := PySem.Value.none, doc := PySem.Value.none, pyModule := PySem.Value.str (PySem.Str.ofString "cpy313.email.header") 230, annotations := none, code := PySem.Value.ref 103, closureTuple := PySem.Value.none, builtins := 0 } }),
  (105, { cls := PySem.Value.type "tuple", data := PySem.Data.seq #[PySem.Value.ref 39] }),
  (106, { cls := PySem.Value.type "tuple", data := PySem.Data.seq #[PySem.Value.str (PySem.Str.ofString "__class__") 315] }),
  (108, { cls := PySem.Value.type "tuple", data := PySem.Data.seq #[PySem.Value.str (PySem.Str.ofString "self") 316] }),
  (109, { cls := PySem.Value.type "tuple", data := PySem.Data.seq #[] }),
  (111, { cls := PySem.Value.type "code", data := PySem.Data.fields #[PySem.Value.str (PySem.Str.ofString "part_count") 312, PySem.Value.str (PySem.Str.ofString "_Accumulator.part_count") 313, PySem.Value.str (PySem.Str.ofString "/claim/cut.py") 314, PySem.Value.int 88 0, PySem.Value.int 1 0, PySem.Value.int 0 0, PySem.Value.int 0 0, PySem.Value.int 3 0, PySem.Value.ref 106, PySem.Value.bool true, PySem.Value.int 181 0, PySem.Value.ref 107, PySem.Value.none, PySem.Value.ref 108, PySem.Value.ref 109, PySem.Value.ref 110, PySem.Value.int 317 0, PySem.Value.int 88 0, PySem.Value.str (PySem.Str.ofString "/claim/cut.py") 318] }),
  (112, { cls := PySem.Value.type "function", data := PySem.Data.func { name := PySem.Str.ofString "part_count", qualname := PySem.Str.ofString "_Accumulator.part_count", params := fArgs (clsS 9 8), body := PySem.FuncBody.stmts (fBody (clsS 9 8)), scope := fScope (clsS 9 8), globals := 3, closure := [(PySem.Str.ofString "__class__", 39)], defaults := PySem.Value.none, kwdefaults := PySem.Value.none, doc := PySem.Value.none, pyModule := PySem.Value.str (PySem.Str.ofString "cpy313.email.header") 230, annotations := none, code := PySem.Value.ref 111, closureTuple := PySem.Value.ref 105, builtins := 0 } }),
  (113, { cls := PySem.Value.type "tuple", data := PySem.Data.seq #[PySem.Value.str (PySem.Str.ofString "_initial_size") 320] }),
  (114, { cls := PySem.Value.type "dict", data := PySem.Data.dict #[{ hash := PySem.PyData.keyHash P (PySem.Str.ofString "__module__"), key := PySem.Value.str (PySem.Str.ofString "__module__") 241, val := PySem.Value.str (PySem.Str.ofString "cpy313.email.header") 230 }, { hash := PySem.PyData.keyHash P (PySem.Str.ofString "__firstlineno__"), key := PySem.Value.str (PySem.Str.ofString "__firstlineno__") 245, val := PySem.Value.int 54 244 }, { hash := PySem.PyData.keyHash P (PySem.Str.ofString "__init__"), key := PySem.Value.str (PySem.Str.ofString "__init__") 255, val := PySem.Value.ref 52 }, { hash := PySem.PyData.keyHash P (PySem.Str.ofString "push"), key := PySem.Value.str (PySem.Str.ofString "push") 264, val := PySem.Value.ref 59 }, { hash := PySem.PyData.keyHash P (PySem.Str.ofString "pop_from"), key := PySem.Value.str (PySem.Str.ofString "pop_from") 274, val := PySem.Value.ref 67 }, { hash := PySem.PyData.keyHash P (PySem.Str.ofString "pop"), key := PySem.Value.str (PySem.Str.ofString "pop") 282, val := PySem.Value.ref 75 }, { hash := PySem.PyData.keyHash P (PySem.Str.ofString "__len__"), key := PySem.Value.str (PySem.Str.ofString "__len__") 289, val := PySem.Value.ref 82 }, { hash := PySem.PyData.keyHash P (PySem.Str.ofString "__str__"), key := PySem.Value.str (PySem.Str.ofString "__str__") 296, val := PySem.Value.ref 89 }, { hash := PySem.PyData.keyHash P (PySem.Str.ofString "reset"), key := PySem.Value.str (PySem.Str.ofString "reset") 304, val := PySem.Value.ref 97 }, { hash := PySem.PyData.keyHash P (PySem.Str.ofString "is_onlyws"), key := PySem.Value.str (PySem.Str.ofString "is_onlyws") 311, val := PySem.Value.ref 104 }, { hash := PySem.PyData.keyHash P (PySem.Str.ofString "part_count"), key := PySem.Value.str (PySem.Str.ofString "part_count") 319, val := PySem.Value.ref 112 }, { hash := PySem.PyData.keyHash P (PySem.Str.ofString "__static_attributes__"), key := PySem.Value.str (PySem.Str.ofString "__static_attributes__") 321, val := PySem.Value.ref 113 }, { hash := PySem.PyData.keyHash P (PySem.Str.ofString "__dict__"), key := PySem.Value.str (PySem.Str.ofString "__dict__") 324, val := PySem.Value.ref 116 }, { hash := PySem.PyData.keyHash P (PySem.Str.ofString "__weakref__"), key := PySem.Value.str (PySem.Str.ofString "__weakref__") 326, val := PySem.Value.ref 117 }, { hash := PySem.PyData.keyHash P (PySem.Str.ofString "__doc__"), key := PySem.Value.str (PySem.Str.ofString "__doc__") 327, val := PySem.Value.none }] 5 }),
  (115, { cls := PySem.Value.type "type", data := PySem.Data.cls { name := PySem.Str.ofString "_Accumulator", bases := [PySem.Value.type "list"], mro := [PySem.Value.ref 115, PySem.Value.type "list", PySem.Value.type "object"], ns := 114, qualname := PySem.Str.ofString "_Accumulator" }, slots := #[some (PySem.Value.ref 36), none, some (PySem.Value.str (PySem.Str.ofString "_Accumulator") 234), some (PySem.Value.str (PySem.Str.ofString "_Accumulator") 242), some (PySem.Value.builtin "list.__new__"), some (PySem.Value.bool true)] }),
  (116, { cls := PySem.Value.type "getset_descriptor", data := PySem.Data.fields #[PySem.Value.str (PySem.Str.ofString "__dict__") 323, PySem.Value.ref 115, PySem.Value.builtin "function.__dict__", PySem.Value.builtin "function.__dict__#set"] }),
  (117, { cls := PySem.Value.type "getset_descriptor", data := PySem.Data.fields #[PySem.Value.str (PySem.Str.ofString "__weakref__") 325, PySem.Value.ref 115, PySem.Value.builtin "ExceptionGroup.__weakref__", PySem.Value.none] }),
  (120, { cls := PySem.Value.type "dict", data := PySem.Data.dict #[{ hash := PySem.PyData.keyHash P (PySem.Str.ofString "!"), key := PySem.Value.str (PySem.Str.ofString "!") 432, val := PySem.Value.int 54 428 }, { hash := PySem.PyData.keyHash P (PySem.Str.ofString "!="), key := PySem.Value.str (PySem.Str.ofString "!=") 434, val := PySem.Value.int 28 376 }, { hash := PySem.PyData.keyHash P (PySem.Str.ofString "%"), key := PySem.Value.str (PySem.Str.ofString "%") 436, val := PySem.Value.int 24 368 }, { hash := PySem.PyData.keyHash P (PySem.Str.ofString "%="), key := PySem.Value.str (PySem.Str.ofString "%=") 438, val := PySem.Value.int 40 400 }, { hash := PySem.PyData.keyHash P (PySem.Str.ofString "&"), key := PySem.Value.str (PySem.Str.ofString "&") 440, val := PySem.Value.int 19 358 }, { hash := PySem.PyData.keyHash P (PySem.Str.ofString "&="), key := PySem.Value.str (PySem.Str.ofString "&=") 442, val := PySem.Value.int 41 402 }, { hash := PySem.PyData.keyHash P (PySem.Str.ofString "("), key := PySem.Value.str (PySem.Str.ofString "(") 444, val := PySem.Value.int 7 334 }, { hash := PySem.PyData.keyHash P (PySem.Str.ofString ")"), key := PySem.Value.str (PySem.Str.ofString ")") 446, val := PySem.Value.int 8 336 }, { hash := PySem.PyData.keyHash P (PySem.Str.ofString "*"), key := PySem.Value.str (PySem.Str.ofString "*") 448, val := PySem.Value.int 16 352 }, { hash := PySem.PyData.keyHash P (PySem.Str.ofString "**"), key := PySem.Value.str (PySem.Str.ofString "**") 450, val := PySem.Value.int 35 390 }, { hash := PySem.PyData.keyHash P (PySem.Str.ofString "**="), key := PySem.Value.str (PySem.Str.ofString "**=") 452, val := PySem.Value.int 46 412 }, { hash := PySem.PyData.keyHash P (PySem.Str.ofString "*="), key := PySem.Value.str (PySem.Str.ofString "*=") 454, val := PySem.Value.int 38 396 }, { hash := PySem.PyData.keyHash P (PySem.Str.ofString "+"), key := PySem.Value.str (PySem.Str.ofString "+") 456, val := PySem.Value.int 14 348 }, { hash := PySem.PyData.keyHash P (PySem.Str.ofString "+="), key := PySem.Value.str (PySem.Str.ofString "+=") 458, val := PySem.Value.int 36 392 }, { hash := PySem.PyData.keyHash P (PySem.Str.ofString ","), key := PySem.Value.str (PySem.Str.ofString ",") 460, val := PySem.Value.int 12 344 }, { hash := PySem.PyData.keyHash P (PySem.Str.ofString "-"), key := PySem.Value.str (PySem.Str.ofString "-") 462, val := PySem.Value.int 15 350 }, { hash := PySem.PyData.keyHash P (PySem.Str.ofString "-="), key := PySem.Value.str (PySem.Str.ofString "-=") 464, val := PySem.Value.int 37 394 }, { hash := PySem.PyData.keyHash P (PySem.Str.ofString "->"), key := PySem.Value.str (PySem.Str.ofString "->") 466, val := PySem.Value.int 51 422 }, { hash := PySem.PyData.keyHash P (PySem.Str.ofString "."), key := PySem.Value.str (PySem.Str.ofString ".") 468, val := PySem.Value.int 23 366 }, { hash := PySem.PyData.keyHash P (PySem.Str.ofString "..."), key := PySem.Value.str (PySem.Str.ofString "...") 470, val := PySem.Value.int 52 424 }, { hash := PySem.PyData.keyHash P (PySem.Str.ofString "/"), key := PySem.Value.str (PySem.Str.ofString "/") 472, val := PySem.Value.int 17 354 }, { hash := PySem.PyData.keyHash P (PySem.Str.ofString "//"), key := PySem.Value.str (PySem.Str.ofString "//") 474, val := PySem.Value.int 47 414 }, { hash := PySem.PyData.keyHash P (PySem.Str.ofString "//="), key := PySem.Value.str (PySem.Str.ofString "//=") 476, val := PySem.Value.int 48 416 }, { hash := PySem.PyData.keyHash P (PySem.Str.ofString "/="), key := PySem.Value.str (PySem.Str.ofString "/=") 478, val := PySem.Value.int 39 398 }, { hash := PySem.PyData.keyHash P (PySem.Str.ofString ":"), key := PySem.Value.str (PySem.Str.ofString ":") 480, val := PySem.Value.int 11 342 }, { hash := PySem.PyData.keyHash P (PySem.Str.ofString ":="), key := PySem.Value.str (PySem.Str.ofString ":=") 482, val := PySem.Value.int 53 426 }, { hash := PySem.PyData.keyHash P (PySem.Str.ofString ";"), key := PySem.Value.str (PySem.Str.ofString ";") 484, val := PySem.Value.int 13 346 }, { hash := PySem.PyData.keyHash P (PySem.Str.ofString "<"), key := PySem.Value.str (PySem.Str.ofString "<") 486, val := PySem.Value.int 20 360 }, { hash := PySem.PyData.keyHash P (PySem.Str.ofString "<<"), key := PySem.Value.str (PySem.Str.ofString "<<") 488, val := PySem.Value.int 33 386 }, { hash := PySem.PyData.keyHash P (PySem.Str.ofString "<<="), key := PySem.Value.str (PySem.Str.ofString "<<=") 490, val := PySem.Value.int 44 408 }, { hash := PySem.PyData.keyHash P (PySem.Str.ofString "<="), key := PySem.Value.str (PySem.Str.ofString "<=") 492, val := PySem.Value.int 29 378 }, { hash := PySem.PyData.keyHash P (PySem.Str.ofString "="), key := PySem.Value.str (PySem.Str.ofString "=") 494, val := PySem.Value.int 22 364 }, { hash := PySem.PyData.keyHash P (PySem.Str.ofString "=="), key := PySem.Value.str (PySem.Str.ofString "==") 496, val := PySem.Value.int 27 374 }, { hash := PySem.PyData.keyHash P (PySem.Str.ofString ">"), key := PySem.Value.str (PySem.Str.ofString ">") 498, val := PySem.Value.int 21 362 }, { hash := PySem.PyData.keyHash P (PySem.Str.ofString ">="), key := PySem.Value.str (PySem.Str.ofString ">=") 500, val := PySem.Value.int 30 380 }, { hash := PySem.PyData.keyHash P (PySem.Str.ofString ">>"), key := PySem.Value.str (PySem.Str.ofString ">>") 501, val := PySem.Value.int 34 388 }, { hash := PySem.PyData.keyHash P (PySem.Str.ofString ">>="), key := PySem.Value.str (PySem.Str.ofString ">>=") 502, val := PySem.Value.int 45 410 }, { hash := PySem.PyData.keyHash P (PySem.Str.ofString "@"), key := PySem.Value.str (PySem.Str.ofString "@") 503, val := PySem.Value.int 49 418 }, { hash := PySem.PyData.keyHash P (PySem.Str.ofString "@="), key := PySem.Value.str (PySem.Str.ofString "@=") 504, val := PySem.Value.int 50 420 }, { hash := PySem.PyData.keyHash P (PySem.Str.ofString "["), key := PySem.Value.str (PySem.Str.ofString "[") 505, val := PySem.Value.int 9 338 }, { hash := PySem.PyData.keyHash P (PySem.Str.ofString "]"), key := PySem.Value.str (PySem.Str.ofString "]") 506, val := PySem.Value.int 10 340 }, { hash := PySem.PyData.keyHash P (PySem.Str.ofString "^"), key := PySem.Value.str (PySem.Str.ofString "^") 507, val := PySem.Value.int 32 384 }, { hash := PySem.PyData.keyHash P (PySem.Str.ofString "^="), key := PySem.Value.str (PySem.Str.ofString "^=") 508, val := PySem.Value.int 43 406 }, { hash := PySem.PyData.keyHash P (PySem.Str.ofString "{"), key := PySem.Value.str (PySem.Str.ofString "{") 509, val := PySem.Value.int 25 370 }, { hash := PySem.PyData.keyHash P (PySem.Str.ofString "|"), key := PySem.Value.str (PySem.Str.ofString "|") 510, val := PySem.Value.int 18 356 }, { hash := PySem.PyData.keyHash P (PySem.Str.ofString "|="), key := PySem.Value.str (PySem.Str.ofString "|=") 511, val := PySem.Value.int 42 404 }, { hash := PySem.PyData.keyHash P (PySem.Str.ofString "}"), key := PySem.Value.str (PySem.Str.ofString "}") 512, val := PySem.Value.int 26 372 }, { hash := PySem.PyData.keyHash P (PySem.Str.ofString "~"), key := PySem.Value.str (PySem.Str.ofString "~") 513, val := PySem.Value.int 31 382 }] 48 }),
  (123, { cls := PySem.Value.type "tuple", data := PySem.Data.seq #[] }),
  (125, { cls := PySem.Value.type "tuple", data := PySem.Data.seq #[PySem.Value.str (PySem.Str.ofString "x") 532] }),
  (126, { cls := PySem.Value.type "tuple", data := PySem.Data.seq #[] }),
  (128, { cls := PySem.Value.type "code", data := PySem.Data.fields #[PySem.Value.str (PySem.Str.ofString "ISNONTERMINAL") 529, PySem.Value.str (PySem.Str.ofString "ISNONTERMINAL") 530, PySem.Value.str (PySem.Str.ofString "/claim/cut.py") 531, PySem.Value.int 142 0, PySem.Value.int 1 0, PySem.Value.int 0 0, PySem.Value.int 0 0, PySem.Value.int 3 0, PySem.Value.ref 123, PySem.Value.bool true, PySem.Value.int 181 0, PySem.Value.ref 124, PySem.Value.none, PySem.Value.ref 125, PySem.Value.ref 126, PySem.Value.ref 127, PySem.Value.int 533 0, PySem.Value.int 142 0, PySem.Value.str (PySem.Str.ofString "/claim/cut.py") 534] }),
  (129, { cls := PySem.Value.type "function", data := PySem.Data.func { name := PySem.Str.ofString "ISNONTERMINAL", qualname := PySem.Str.ofString "ISNONTERMINAL", params := fArgs (topS 62), body := PySem.FuncBody.stmts (fBody (topS 62)), scope := fScope (topS 62), globals := 3, closure := [], defaults := PySem.Value.none, kwdefaults := PySem.Value.none, doc := PySem.Value.none, pyModule := PySem.Value.str (PySem.Str.ofString "cpy313.token") 330, annotations := none, code := PySem.Value.ref 128, closureTuple := PySem.Value.none, builtins := 0 } }),
  (130, { cls := PySem.Value.type "tuple", data := PySem.Data.seq #[] }),
  (132, { cls := PySem.Value.type "tuple", data := PySem.Data.seq #[PySem.Value.str (PySem.Str.ofString "x") 539] }),
  (133, { cls := PySem.Value.type "tuple", data := PySem.Data.seq #[] }),
  (135, { cls := PySem.Value.type "code", data := PySem.Data.fields #[PySem.Value.str (PySem.Str.ofString "ISEOF") 536, PySem.Value.str (PySem.Str.ofString "ISEOF") 537, PySem.Value.str (PySem.Str.ofString "/claim/cut.py") 538, PySem.Value.int 144 0, PySem.Value.int 1 0, PySem.Value.int 0 0, PySem.Value.int 0 0, PySem.Value.int 3 0, PySem.Value.ref 130, PySem.Value.bool true, PySem.Value.int 181 0, PySem.Value.ref 131, PySem.Value.none, PySem.Value.ref 132, PySem.Value.ref 133, PySem.Value.ref 134, PySem.Value.int 540 0, PySem.Value.int 144 0, PySem.Value.str (PySem.Str.ofString "/claim/cut.py") 541] }),
  (136, { cls := PySem.Value.type "function", data := PySem.Data.func { name := PySem.Str.ofString "ISEOF", qualname := PySem.Str.ofString "ISEOF", params := fArgs (topS 63), body := PySem.FuncBody.stmts (fBody (topS 63)), scope := fScope (topS 63), globals := 3, closure := [], defaults := PySem.Value.none, kwdefaults := PySem.Value.none, doc := PySem.Value.none, pyModule := PySem.Value.str (PySem.Str.ofString "cpy313.token") 330, annotations := none, code := PySem.Value.ref 135, closureTuple := PySem.Value.none, builtins := 0 } }),
  (137, { cls := PySem.Value.type "tuple", data := PySem.Data.seq #[] }),
  (139, { cls := PySem.Value.type "tuple", data := PySem.Data.seq #[PySem.Value.str (PySem.Str.ofString "place") 548] }),
  (140, { cls := PySem.Value.type "tuple", data := PySem.Data.seq #[] }),
  (142, { cls := PySem.Value.type "code", data := PySem.Data.fields #[PySem.Value.str (PySem.Str.ofString "_law_pair") 545, PySem.Value.str (PySem.Str.ofString "_law_pair") 546, PySem.Value.str (PySem.Str.ofString "/claim/cut.py") 547, PySem.Value.int 147 0, PySem.Value.int 1 0, PySem.Value.int 0 0, PySem.Value.int 0 0, PySem.Value.int 3 0, PySem.Value.ref 137, PySem.Value.bool true, PySem.Value.int 181 0, PySem.Value.ref 138, PySem.Value.none, PySem.Value.ref 139, PySem.Value.ref 140, PySem.Value.ref 141, PySem.Value.int 549 0, PySem.Value.int 147 0, PySem.Value.str (PySem.Str.ofString "/claim/cut.py") 550] }),
  (143, { cls := PySem.Value.type "function", data := PySem.Data.func { name := PySem.Str.ofString "_law_pair", qualname := PySem.Str.ofString "_law_pair", params := fArgs (topS 65), body := PySem.FuncBody.stmts (fBody (topS 65)), scope := fScope (topS 65), globals := 3, closure := [], defaults := PySem.Value.none, kwdefaults := PySem.Value.none, doc := PySem.Value.none, pyModule := PySem.Value.str (PySem.Str.ofString "law_ti0032_01") 543, annotations := none, code := PySem.Value.ref 142, closureTuple := PySem.Value.none, builtins := 0 } }),
  (144, { cls := PySem.Value.type "tuple", data := PySem.Data.seq #[] }),
  (146, { cls := PySem.Value.type "tuple", data := PySem.Data.seq #[PySem.Value.str (PySem.Str.ofString "cell") 555, PySem.Value.str (PySem.Str.ofString "words") 556, PySem.Value.str (PySem.Str.ofString "ways") 557, PySem.Value.str (PySem.Str.ofString "most") 558, PySem.Value.str (PySem.Str.ofString "figures") 559, PySem.Value.str (PySem.Str.ofString "parts") 560, PySem.Value.str (PySem.Str.ofString "count") 561, PySem.Value.str (PySem.Str.ofString "turn") 562, PySem.Value.str (PySem.Str.ofString "word") 563] }),
  (147, { cls := PySem.Value.type "tuple", data := PySem.Data.seq #[] }),
  (149, { cls := PySem.Value.type "code", data := PySem.Data.fields #[PySem.Value.str (PySem.Str.ofString "_law_rule") 552, PySem.Value.str (PySem.Str.ofString "_law_rule") 553, PySem.Value.str (PySem.Str.ofString "/claim/cut.py") 554, PySem.Value.int 149 0, PySem.Value.int 4 0, PySem.Value.int 0 0, PySem.Value.int 0 0, PySem.Value.int 3 0, PySem.Value.ref 144, PySem.Value.bool true, PySem.Value.int 181 0, PySem.Value.ref 145, PySem.Value.none, PySem.Value.ref 146, PySem.Value.ref 147, PySem.Value.ref 148, PySem.Value.int 564 0, PySem.Value.int 149 0, PySem.Value.str (PySem.Str.ofString "/claim/cut.py") 565] }),
  (150, { cls := PySem.Value.type "function", data := PySem.Data.func { name := PySem.Str.ofString "_law_rule", qualname := PySem.Str.ofString "_law_rule", params := fArgs (topS 66), body := PySem.FuncBody.stmts (fBody (topS 66)), scope := fScope (topS 66), globals := 3, closure := [], defaults := PySem.Value.none, kwdefaults := PySem.Value.none, doc := PySem.Value.none, pyModule := PySem.Value.str (PySem.Str.ofString "law_ti0032_01") 543, annotations := none, code := PySem.Value.ref 149, closureTuple := PySem.Value.none, builtins := 0 } }),
  (151, { cls := PySem.Value.type "tuple", data := PySem.Data.seq #[] }),
  (154, { cls := PySem.Value.type "code", data := PySem.Data.fields #[PySem.Value.str (PySem.Str.ofString "_law_grammar") 567, PySem.Value.str (PySem.Str.ofString "_law_grammar") 568, PySem.Value.str (PySem.Str.ofString "/claim/cut.py") 569, PySem.Value.int 158 0, PySem.Value.int 2 0, PySem.Value.int 0 0, PySem.Value.int 0 0, PySem.Value.int 3 0, PySem.Value.ref 151, PySem.Value.bool true, PySem.Value.int 181 0, PySem.Value.ref 152, PySem.Value.none, PySem.Value.none, PySem.Value.none, PySem.Value.ref 153, PySem.Value.int 570 0, PySem.Value.int 158 0, PySem.Value.str (PySem.Str.ofString "/claim/cut.py") 571] }),
  (155, { cls := PySem.Value.type "function", data := PySem.Data.func { name := PySem.Str.ofString "_law_grammar", qualname := PySem.Str.ofString "_law_grammar", params := fArgs (topS 67), body := PySem.FuncBody.stmts (fBody (topS 67)), scope := fScope (topS 67), globals := 3, closure := [], defaults := PySem.Value.none, kwdefaults := PySem.Value.none, doc := PySem.Value.none, pyModule := PySem.Value.str (PySem.Str.ofString "law_ti0032_01") 543, annotations := none, code := PySem.Value.ref 154, closureTuple := PySem.Value.none, builtins := 0 } }),
  (156, { cls := PySem.Value.type "tuple", data := PySem.Data.seq #[] }),
  (158, { cls := PySem.Value.type "tuple", data := PySem.Data.seq #[PySem.Value.str (PySem.Str.ofString "store") 576, PySem.Value.str (PySem.Str.ofString "rules") 577, PySem.Value.str (PySem.Str.ofString "told") 578, PySem.Value.str (PySem.Str.ofString "word") 579, PySem.Value.str (PySem.Str.ofString "symbol") 580, PySem.Value.str (PySem.Str.ofString "rest") 581, PySem.Value.str (PySem.Str.ofString "rows") 582, PySem.Value.str (PySem.Str.ofString "parts") 583, PySem.Value.str (PySem.Str.ofString "part") 584] }),
  (159, { cls := PySem.Value.type "tuple", data := PySem.Data.seq #[] }),
  (161, { cls := PySem.Value.type "code", data := PySem.Data.fields #[PySem.Value.str (PySem.Str.ofString "_law_spelled") 573, PySem.Value.str (PySem.Str.ofString "_law_spelled") 574, PySem.Value.str (PySem.Str.ofString "/claim/cut.py") 575, PySem.Value.int 166 0, PySem.Value.int 3 0, PySem.Value.int 0 0, PySem.Value.int 0 0, PySem.Value.int 3 0, PySem.Value.ref 156, PySem.Value.bool true, PySem.Value.int 181 0, PySem.Value.ref 157, PySem.Value.none, PySem.Value.ref 158, PySem.Value.ref 159, PySem.Value.ref 160, PySem.Value.int 585 0, PySem.Value.int 166 0, PySem.Value.str (PySem.Str.ofString "/claim/cut.py") 586] }),
  (162, { cls := PySem.Value.type "function", data := PySem.Data.func { name := PySem.Str.ofString "_law_spelled", qualname := PySem.Str.ofString "_law_spelled", params := fArgs (topS 68), body := PySem.FuncBody.stmts (fBody (topS 68)), scope := fScope (topS 68), globals := 3, closure := [], defaults := PySem.Value.none, kwdefaults := PySem.Value.none, doc := PySem.Value.none, pyModule := PySem.Value.str (PySem.Str.ofString "law_ti0032_01") 543, annotations := none, code := PySem.Value.ref 161, closureTuple := PySem.Value.none, builtins := 0 } }),
  (163, { cls := PySem.Value.type "tuple", data := PySem.Data.seq #[] }),
  (166, { cls := PySem.Value.type "code", data := PySem.Data.fields #[PySem.Value.str (PySem.Str.ofString "_law_single") 588, PySem.Value.str (PySem.Str.ofString "_law_single") 589, PySem.Value.str (PySem.Str.ofString "/claim/cut.py") 590, PySem.Value.int 180 0, PySem.Value.int 2 0, PySem.Value.int 0 0, PySem.Value.int 0 0, PySem.Value.int 3 0, PySem.Value.ref 163, PySem.Value.bool true, PySem.Value.int 181 0, PySem.Value.ref 164, PySem.Value.none, PySem.Value.none, PySem.Value.none, PySem.Value.ref 165, PySem.Value.int 591 0, PySem.Value.int 180 0, PySem.Value.str (PySem.Str.ofString "/claim/cut.py") 592] }),
  (167, { cls := PySem.Value.type "function", data := PySem.Data.func { name := PySem.Str.ofString "_law_single", qualname := PySem.Str.ofString "_law_single", params := fArgs (topS 69), body := PySem.FuncBody.stmts (fBody (topS 69)), scope := fScope (topS 69), globals := 3, closure := [], defaults := PySem.Value.none, kwdefaults := PySem.Value.none, doc := PySem.Value.none, pyModule := PySem.Value.str (PySem.Str.ofString "law_ti0032_01") 543, annotations := none, code := PySem.Value.ref 166, closureTuple := PySem.Value.none, builtins := 0 } }),
  (168, { cls := PySem.Value.type "tuple", data := PySem.Data.seq #[] }),
  (171, { cls := PySem.Value.type "code", data := PySem.Data.fields #[PySem.Value.str (PySem.Str.ofString "_law_sign_table") 594, PySem.Value.str (PySem.Str.ofString "_law_sign_table") 595, PySem.Value.str (PySem.Str.ofString "/claim/cut.py") 596, PySem.Value.int 184 0, PySem.Value.int 2 0, PySem.Value.int 0 0, PySem.Value.int 0 0, PySem.Value.int 3 0, PySem.Value.ref 168, PySem.Value.bool true, PySem.Value.int 181 0, PySem.Value.ref 169, PySem.Value.none, PySem.Value.none, PySem.Value.none, PySem.Value.ref 170, PySem.Value.int 597 0, PySem.Value.int 184 0, PySem.Value.str (PySem.Str.ofString "/claim/cut.py") 598] }),
  (172, { cls := PySem.Value.type "function", data := PySem.Data.func { name := PySem.Str.ofString "_law_sign_table", qualname := PySem.Str.ofString "_law_sign_table", params := fArgs (topS 70), body := PySem.FuncBody.stmts (fBody (topS 70)), scope := fScope (topS 70), globals := 3, closure := [], defaults := PySem.Value.none, kwdefaults := PySem.Value.none, doc := PySem.Value.none, pyModule := PySem.Value.str (PySem.Str.ofString "law_ti0032_01") 543, annotations := none, code := PySem.Value.ref 171, closureTuple := PySem.Value.none, builtins := 0 } }),
  (173, { cls := PySem.Value.type "tuple", data := PySem.Data.seq #[] }),
  (176, { cls := PySem.Value.type "code", data := PySem.Data.fields #[PySem.Value.str (PySem.Str.ofString "_law_rule_table") 600, PySem.Value.str (PySem.Str.ofString "_law_rule_table") 601, PySem.Value.str (PySem.Str.ofString "/claim/cut.py") 602, PySem.Value.int 187 0, PySem.Value.int 3 0, PySem.Value.int 0 0, PySem.Value.int 0 0, PySem.Value.int 3 0, PySem.Value.ref 173, PySem.Value.bool true, PySem.Value.int 181 0, PySem.Value.ref 174, PySem.Value.none, PySem.Value.none, PySem.Value.none, PySem.Value.ref 175, PySem.Value.int 603 0, PySem.Value.int 187 0, PySem.Value.str (PySem.Str.ofString "/claim/cut.py") 604] }),
  (177, { cls := PySem.Value.type "function", data := PySem.Data.func { name := PySem.Str.ofString "_law_rule_table", qualname := PySem.Str.ofString "_law_rule_table", params := fArgs (topS 71), body := PySem.FuncBody.stmts (fBody (topS 71)), scope := fScope (topS 71), globals := 3, closure := [], defaults := PySem.Value.none, kwdefaults := PySem.Value.none, doc := PySem.Value.none, pyModule := PySem.Value.str (PySem.Str.ofString "law_ti0032_01") 543, annotations := none, code := PySem.Value.ref 176, closureTuple := PySem.Value.none, builtins := 0 } }),
  (178, { cls := PySem.Value.type "tuple", data := PySem.Data.seq #[] }),
  (181, { cls := PySem.Value.type "code", data := PySem.Data.fields #[PySem.Value.str (PySem.Str.ofString "_law_agree") 606, PySem.Value.str (PySem.Str.ofString "_law_agree") 607, PySem.Value.str (PySem.Str.ofString "/claim/cut.py") 608, PySem.Value.int 193 0, PySem.Value.int 4 0, PySem.Value.int 0 0, PySem.Value.int 0 0, PySem.Value.int 3 0, PySem.Value.ref 178, PySem.Value.bool true, PySem.Value.int 181 0, PySem.Value.ref 179, PySem.Value.none, PySem.Value.none, PySem.Value.none, PySem.Value.ref 180, PySem.Value.int 609 0, PySem.Value.int 193 0, PySem.Value.str (PySem.Str.ofString "/claim/cut.py") 610] }),
  (182, { cls := PySem.Value.type "function", data := PySem.Data.func { name := PySem.Str.ofString "_law_agree", qualname := PySem.Str.ofString "_law_agree", params := fArgs (topS 72), body := PySem.FuncBody.stmts (fBody (topS 72)), scope := fScope (topS 72), globals := 3, closure := [], defaults := PySem.Value.none, kwdefaults := PySem.Value.none, doc := PySem.Value.none, pyModule := PySem.Value.str (PySem.Str.ofString "law_ti0032_01") 543, annotations := none, code := PySem.Value.ref 181, closureTuple := PySem.Value.none, builtins := 0 } }),
  (183, { cls := PySem.Value.type "tuple", data := PySem.Data.seq #[] }),
  (186, { cls := PySem.Value.type "code", data := PySem.Data.fields #[PySem.Value.str (PySem.Str.ofString "law") 612, PySem.Value.str (PySem.Str.ofString "law") 613, PySem.Value.str (PySem.Str.ofString "/claim/cut.py") 614, PySem.Value.int 215 0, PySem.Value.int 1 0, PySem.Value.int 0 0, PySem.Value.int 0 0, PySem.Value.int 3 0, PySem.Value.ref 183, PySem.Value.bool true, PySem.Value.int 181 0, PySem.Value.ref 184, PySem.Value.none, PySem.Value.none, PySem.Value.none, PySem.Value.ref 185, PySem.Value.int 615 0, PySem.Value.int 215 0, PySem.Value.str (PySem.Str.ofString "/claim/cut.py") 616] }),
  (187, { cls := PySem.Value.type "function", data := PySem.Data.func { name := PySem.Str.ofString "law", qualname := PySem.Str.ofString "law", params := fArgs (topS 73), body := PySem.FuncBody.stmts (fBody (topS 73)), scope := fScope (topS 73), globals := 3, closure := [], defaults := PySem.Value.none, kwdefaults := PySem.Value.none, doc := PySem.Value.none, pyModule := PySem.Value.str (PySem.Str.ofString "law_ti0032_01") 543, annotations := none, code := PySem.Value.ref 186, closureTuple := PySem.Value.none, builtins := 0 } })]
end Mine
end

section
open PySem PySem.W PyProof.Rows PySem.Spec PySem.Calls
namespace Mine

/-- the heap never shrinks -/
theorem runs_size {M : Model} {Γ : PySem.Ctx} {p : Pos} {t : Sem Fin} {fs : List Frame} {s s' : Shared} {e : End} (h : Runs M Γ p t fs s e s') : s.heap.objs.size ≤ s'.heap.objs.size := by
  induction h <;> (try simp only [Shared.setGen, Heap.size_push, Heap.size_after_update] at *) <;> lia

theorem wakes_size {M : Model} {Γ : PySem.Ctx} {p : Pos} {g : Nat} {r : Resume} {s s' : Shared} {res : GenResult} (h : Wakes M Γ p g r s res s') : s.heap.objs.size ≤ s'.heap.objs.size := by
  unfold Wakes at h
  split at h
  · exact h.elim
  · split at h
    · obtain ⟨e₁, s₁, hr, _, _, rfl⟩ := h
      have := runs_size hr
      simpa [Shared.setGen] using this
    · rw [h.2]; exact Nat.le_refl _
    · rw [h.2]; exact Nat.le_refl _
  · obtain ⟨e₁, s₁, hr, _, _, rfl⟩ := h
    have := runs_size hr
    simpa [Shared.setGen] using this
  · rw [h.2]; exact Nat.le_refl _
  · rw [h.2]; exact Nat.le_refl _

theorem wp_size {α : Type} (M : Model) (Γ : PySem.Ctx) (n : Nat) (t : Sem α) : ∀ (Q : α → Pos → Shared → Prop) (E : Value → Pos → Shared → Prop) (p : Pos) (s : Shared), n ≤ s.heap.objs.size → Sem.wp M Γ t Q E p s →
    Sem.wp M Γ t (fun a p' s' => n ≤ s'.heap.objs.size ∧ Q a p' s') (fun e p' s' => n ≤ s'.heap.objs.size ∧ E e p' s') p s := by
  induction t with
  | pure a => intro Q E p s hn h; exact ⟨hn, h⟩
  | raise e => intro Q E p s hn h; exact ⟨hn, h⟩
  | unsupported _ | finish _ | register _ _ | yield _ _ _ _ | fork _ _ | await _ _ _ _ _ => intro Q E p s _ h; exact h
  | rule _ k ih | «at» _ k ih | point _ k ih | fresh k ih | ask k ih | os _ _ k ih | handled _ k ih | newGen _ k ih | stack k ih | thread k ih | loadIfAlive _ k ih =>
    intro Q E p s hn h; exact ih _ Q E _ _ hn h
  | load a _ k ih => intro Q E p s hn h; obtain ⟨o, ho, h⟩ := h; exact ⟨o, ho, ih o Q E p s hn h⟩
  | update a _ f k ih => intro Q E p s hn h; exact ⟨h.1, ih () Q E p _ (by simpa using hn) h.2⟩
  | alloc o k ih => intro Q E p s hn h; exact ih _ Q E p _ (by simp only [Heap.size_push]; lia) h
  | choose src m k ih => intro Q E p s hn h; exact ⟨h.1, ih _ Q E p _ hn h.2⟩
  | call c hd _ _ k ih => intro Q E p s hn h; obtain ⟨r, s', hr, h⟩ := h; exact ⟨r, s', hr, ih r Q E p s' (Nat.le_trans hn (runs_size hr)) h⟩
  | genState g k ih => intro Q E p s hn h; obtain ⟨st, hs, h⟩ := h; exact ⟨st, hs, ih _ Q E p s hn h⟩
  | resume g r _ k ih => intro Q E p s hn h; obtain ⟨res, s', hw, h⟩ := h; exact ⟨res, s', hw, ih res Q E p s' (Nat.le_trans hn (wakes_size hw)) h⟩

theorem wpAny_size {α : Type} {M : Model} {A : Around} {s : Shared} {t : Sem α} {Q : α → Shared → Prop} {E : Value → Shared → Prop} (h : wpAny M A t Q E s) :
    wpAny M A t (fun a s' => s.heap.objs.size ≤ s'.heap.objs.size ∧ Q a s') (fun e s' => s.heap.objs.size ≤ s'.heap.objs.size ∧ E e s') s :=
  fun Γ p hΓ => wp_size M Γ _ t _ _ p s (Nat.le_refl _) (h Γ p hΓ)
end Mine
end

section
open PySem PySem.W PyProof.Rows PySem.Spec PySem.Calls
namespace Mine

/-- plain data -/
inductive D where
  | none
  | bool (b : Bool)
  | int (i : Int)
  | str (x : Str)
  | tup (ds : List D)
  | lst (ds : List D)
  | dct (es : List (Str × D))
  | rng (a b c : Int)

/-- a view of a heap: the objects that may be looked at -/
abbrev HV := Addr → Obj → Prop
def vw (h : Heap) (X : Addr → Prop) : HV := fun a o => h.get? a = some o ∧ ¬ X a

mutual
inductive Rep (p : Program) (w : World) (H : HV) : Value → D → Prop
  | nn : Rep p w H Value.none D.none
  | bool (b : Bool) : Rep p w H (Value.bool b) (D.bool b)
  | int (i : Int) (t : Tok) : Rep p w H (Value.int i t) (D.int i)
  | str (x : Str) (t : Tok) : Rep p w H (Value.str x t) (D.str x)
  | tup {a : Addr} {o : Obj} {vs : List Value} {n : Nat} {ds : List D} : H a o → o.cls = .type "tuple" → o.data = .seq vs.toArray n → Reps p w H vs ds → Rep p w H (Value.ref a) (D.tup ds)
  | lst {a : Addr} {o : Obj} {vs : List Value} {n : Nat} {ds : List D} : H a o → o.cls = .type "list" → o.data = .seq vs.toArray n → Reps p w H vs ds → Rep p w H (Value.ref a) (D.lst ds)
  | dct {a : Addr} {o : Obj} {kvs : List (Str × Value)} {es : List (Str × D)} : H a o → o.IsDictOf (PySem.strKind p w) kvs → (a == sysModules) = false → RepE p w H kvs es → Rep p w H (Value.ref a) (D.dct es)
  | rng {x : Addr} {a b c : Int} {t u v : Tok} : H x { cls := .type "range", dict := none, data := .fields #[.int a t, .int b u, .int c v], slots := #[] } → Rep p w H (Value.ref x) (D.rng a b c)
inductive Reps (p : Program) (w : World) (H : HV) : List Value → List D → Prop
  | nil : Reps p w H [] []
  | cons {v : Value} {vs : List Value} {d : D} {ds : List D} : Rep p w H v d → Reps p w H vs ds → Reps p w H (v :: vs) (d :: ds)
inductive RepE (p : Program) (w : World) (H : HV) : List (Str × Value) → List (Str × D) → Prop
  | nil : RepE p w H [] []
  | cons {k : Str} {v : Value} {vs : List (Str × Value)} {d : D} {ds : List (Str × D)} : Rep p w H v d → RepE p w H vs ds → RepE p w H ((k, v) :: vs) ((k, d) :: ds)
end

section
variable {p : Program} {w : World} {H H' : HV}
mutual
theorem Rep.mono (hs : ∀ a o, H a o → H' a o) : ∀ {v : Value} {d : D}, Rep p w H v d → Rep p w H' v d
  | _, _, .nn => .nn
  | _, _, .bool b => .bool b
  | _, _, .int i t => .int i t
  | _, _, .str x t => .str x t
  | _, _, .tup h c e r => .tup (hs _ _ h) c e (Reps.mono hs r)
  | _, _, .lst h c e r => .lst (hs _ _ h) c e (Reps.mono hs r)
  | _, _, .dct h c e r => .dct (hs _ _ h) c e (RepE.mono hs r)
  | _, _, .rng h => .rng (hs _ _ h)
theorem Reps.mono (hs : ∀ a o, H a o → H' a o) : ∀ {vs : List Value} {ds : List D}, Reps p w H vs ds → Reps p w H' vs ds
  | _, _, .nil => .nil
  | _, _, .cons h r => .cons (Rep.mono hs h) (Reps.mono hs r)
theorem RepE.mono (hs : ∀ a o, H a o → H' a o) : ∀ {vs : List (Str × Value)} {ds : List (Str × D)}, RepE p w H vs ds → RepE p w H' vs ds
  | _, _, .nil => .nil
  | _, _, .cons h r => .cons (Rep.mono hs h) (RepE.mono hs r)
end
theorem Reps.length {vs : List Value} {ds : List D} (h : Reps p w H vs ds) : vs.length = ds.length := by
  induction vs generalizing ds with
  | nil => cases h; rfl
  | cons v vs ih => cases h with | cons _ r => rw [List.length_cons, List.length_cons, ih r]
theorem Reps.append {vs us : List Value} {ds es : List D} (h : Reps p w H vs ds) (k : Reps p w H us es) : Reps p w H (vs ++ us) (ds ++ es) := by
  induction vs generalizing ds with
  | nil => cases h; exact k
  | cons v vs ih => cases h with | cons h r => exact .cons h (ih r)
theorem Reps.get {vs : List Value} {ds : List D} (h : Reps p w H vs ds) {k : Nat} {d : D} (hk : ds[k]? = some d) : ∃ v, vs[k]? = some v ∧ Rep p w H v d := by
  induction vs generalizing ds k with
  | nil => cases h; simp at hk
  | cons v vs ih =>
    cases h with
    | cons h r =>
      cases k with
      | zero => simp at hk; subst hk; exact ⟨v, rfl, h⟩
      | succ k => exact ih r (by simpa using hk)
theorem Reps.get' {vs : List Value} {ds : List D} (h : Reps p w H vs ds) {k : Nat} {v : Value} (hk : vs[k]? = some v) : ∃ d, ds[k]? = some d ∧ Rep p w H v d := by
  have hl : k < ds.length := by rw [← h.length]; exact (List.getElem?_eq_some_iff.mp hk).1
  obtain ⟨v', e, r⟩ := h.get (List.getElem?_eq_getElem hl)
  rw [hk] at e; cases e
  exact ⟨_, List.getElem?_eq_getElem hl, r⟩
theorem Reps.of_get {vs : List Value} {ds : List D} (hl : vs.length = ds.length) (h : ∀ (k : Nat) (v : Value) (d : D), vs[k]? = some v → ds[k]? = some d → Rep p w H v d) : Reps p w H vs ds := by
  induction vs generalizing ds with
  | nil => cases ds with | nil => exact .nil | cons _ _ => simp at hl
  | cons v vs ih =>
    cases ds with
    | nil => simp at hl
    | cons d ds => exact .cons (h 0 v d rfl rfl) (ih (by simpa using hl) fun k v d e1 e2 => h (k + 1) v d (by simpa using e1) (by simpa using e2))
end

/-- what an evaluation may do: make objects, and change those whose addresses are in X -/
structure Grow (X : Addr → Prop) (s s' : Shared) : Prop where
  same : s' = { s with heap := s'.heap, toks := s'.toks }
  size : s.heap.objs.size ≤ s'.heap.objs.size
  keep : ∀ a o, ¬ X a → s.heap.get? a = some o → s'.heap.get? a = some o

abbrev Nil : Addr → Prop := fun _ => False

theorem Grow.refl {X : Addr → Prop} (s : Shared) : Grow X s s := ⟨rfl, Nat.le_refl _, fun _ _ _ h => h⟩
theorem Grow.trans {X : Addr → Prop} {s s' s'' : Shared} (h : Grow X s s') (k : Grow X s' s'') : Grow X s s'' :=
  ⟨by rw [k.same, h.same], Nat.le_trans h.size k.size, fun a o n e => k.keep a o n (h.keep a o n e)⟩
theorem Grow.weak {X Y : Addr → Prop} {s s' : Shared} (h : Grow X s s') (hx : ∀ a, X a → Y a) : Grow Y s s' :=
  ⟨h.same, h.size, fun a o n e => h.keep a o (fun q => n (hx a q)) e⟩
theorem Grow.toks {X : Addr → Prop} {s s' : Shared} (h : Grow X s s') (t : Nat) : Grow X s { s' with toks := t } := by
  refine ⟨?_, h.size, h.keep⟩
  have := h.same
  rw [this]
theorem Grow.ofToks {X : Addr → Prop} (s : Shared) (t : Nat) : Grow X s { s with toks := t } := ⟨rfl, Nat.le_refl _, fun _ _ _ h => h⟩
theorem Grow.ofPush {X : Addr → Prop} (s : Shared) (o : Obj) (t : Nat) : Grow X s { s with heap := s.heap.push o, toks := t } :=
  ⟨rfl, by simp, fun _ _ _ h => Heap.get?_push_of_some _ h⟩
theorem Grow.ofKeep {X : Addr → Prop} (s : Shared) (h' : Heap) (t : Nat) (hk : ∀ a o, ¬ X a → s.heap.get? a = some o → h'.get? a = some o) (hs : s.heap.objs.size ≤ h'.objs.size) :
    Grow X s { s with heap := h', toks := t } := ⟨rfl, hs, hk⟩

section
variable {p : Program} {w : World}
theorem Rep.grow {X Y Z : Addr → Prop} {s s' : Shared} {v : Value} {d : D} (h : Rep p w (vw s.heap X) v d) (g : Grow Y s s') (hy : ∀ a, Y a → X a) (hz : ∀ a, Z a → X a ∨ s.heap.get? a = none) :
    Rep p w (vw s'.heap Z) v d := by
  refine h.mono fun a o ⟨e, n⟩ => ⟨g.keep a o (fun q => n (hy a q)) e, fun q => ?_⟩
  rcases hz a q with q | q
  · exact n q
  · rw [q] at e; cases e
theorem Rep.at' {X Z : Addr → Prop} {h h' : Heap} {v : Value} {d : D} (r : Rep p w (vw h X) v d) (g : ∀ a o, ¬ X a → h.get? a = some o → h'.get? a = some o) (hz : ∀ a, Z a → X a ∨ h.get? a = none) :
    Rep p w (vw h' Z) v d := by
  refine r.mono fun a o ⟨e, n⟩ => ⟨g a o n e, fun q => ?_⟩
  rcases hz a q with q | q
  · exact n q
  · rw [q] at e; cases e
theorem Reps.at' {X Z : Addr → Prop} {h h' : Heap} {v : List Value} {d : List D} (r : Reps p w (vw h X) v d) (g : ∀ a o, ¬ X a → h.get? a = some o → h'.get? a = some o) (hz : ∀ a, Z a → X a ∨ h.get? a = none) :
    Reps p w (vw h' Z) v d := by
  refine r.mono fun a o ⟨e, n⟩ => ⟨g a o n e, fun q => ?_⟩
  rcases hz a q with q | q
  · exact n q
  · rw [q] at e; cases e
theorem RepE.at' {X Z : Addr → Prop} {h h' : Heap} {v : List (Str × Value)} {d : List (Str × D)} (r : RepE p w (vw h X) v d) (g : ∀ a o, ¬ X a → h.get? a = some o → h'.get? a = some o) (hz : ∀ a, Z a → X a ∨ h.get? a = none) :
    RepE p w (vw h' Z) v d := by
  refine r.mono fun a o ⟨e, n⟩ => ⟨g a o n e, fun q => ?_⟩
  rcases hz a q with q | q
  · exact n q
  · rw [q] at e; cases e
theorem none_of_ge {h : Heap} {a : Addr} (e : h.objs.size ≤ a) : h.get? a = none := by
  cases q : h.get? a with
  | none => rfl
  | some o => exact absurd (Heap.lt_size q) (Nat.not_lt.mpr e)
end

/-- an owned object's contents -/
inductive Own where
  | lst (ds : List D)
  | pls (ds : List D)
  | dct (es : List (Str × D))
  | acc (cls dx : Addr) (ds : List D)

abbrev Mu := List (Str × Own)

inductive OwnRep (p : Program) (w : World) (h : Heap) (X : Addr → Prop) : Addr → Own → Prop
  | lst {a : Addr} {vs : List Value} {ds : List D} : h.IsList a vs.toArray → Reps p w (vw h X) vs ds → OwnRep p w h X a (.lst ds)
  | pls {a : Addr} {vs : List Value} {ds : List D} : h.PlainList a vs.toArray → Reps p w (vw h X) vs ds → OwnRep p w h X a (.pls ds)
  | dct {a : Addr} {o : Obj} {kvs : List (Str × Value)} {es : List (Str × D)} : h.get? a = some o → o.IsDictOf (PySem.strKind p w) kvs → o.dict = none → (a == sysModules) = false → RepE p w (vw h X) kvs es → OwnRep p w h X a (.dct es)
  | acc {a : Addr} {cls dx : Addr} {vs : List Value} {n : Nat} {m : Str → Option Value} {ds : List D} : h.get? a = some { cls := .ref cls, dict := some dx, data := .seq vs.toArray n } →
      h.Ns1 dx m → (dx ≠ a ∧ ∀ y, y ≠ ("_initial_size" : Str) → m y = none) → Reps p w (vw h X) vs ds → OwnRep p w h X a (.acc cls dx ds)

/-- the context of a frame -/
structure Cx where
  p : Program
  w : World
  A : Around
  env : Env
  s0 : Shared
  mt : Addr → Prop
  X : Addr → Prop
  own : List (Str × Addr)
  oa : Addr → Prop
  ox : Addr → Prop
  fa : Addr → Prop
  hb : Heap

def Cx.ex (C : Cx) (a : Addr) : Prop := C.X a ∨ C.fa a ∨ C.oa a

structure Cx.Ok (C : Cx) : Prop where
  kind : C.env.scope.kind = .function
  hh : C.A.handled = none
  gl : C.env.globals = mainGlobals
  bl : C.env.builtins = builtinsNs
  floc : C.fa C.env.locals
  fo : ∀ a, C.fa a → ¬ C.oa a
  fge : ∀ a, C.fa a → C.s0.heap.objs.size ≤ a ∨ C.mt a
  oge : ∀ a, C.oa a → C.s0.heap.objs.size ≤ a ∨ C.mt a
  cno : ∀ n a, (n, a) ∈ C.env.cells → ¬ C.oa a
  cnx : ∀ n a, (n, a) ∈ C.env.cells → ¬ C.ox a
  apart : ∀ x y c, C.env.cells.lookup x = some c → C.env.cells.lookup y = some c → x = y
  loc : ∀ n, (n, C.env.locals) ∉ C.env.cells
  ownox : ∀ x a, (x, a) ∈ C.own → C.ox a
  oxe : ∀ a, C.ox a → C.X a ∨ C.oa a
  oxf : ∀ a, C.ox a → ¬ C.fa a
  hb0 : ∀ a o, C.hb.get? a = some o → C.s0.heap.get? a = some o
  mhb : ∀ a, C.mt a → C.hb.get? a = none
  ohb : ∀ a, C.ox a → C.hb.get? a = none

def IsFr (env : Env) (a : Addr) : Prop := a = env.locals ∨ ∃ n, (n, a) ∈ env.cells
theorem Cx.Ok.noa {C : Cx} (h : C.Ok) {a : Addr} (f : IsFr C.env a) : ¬ C.oa a := by
  rcases f with rfl | ⟨n, f⟩
  · exact h.fo _ h.floc
  · exact h.cno n a f
theorem Cx.Ok.nox {C : Cx} (h : C.Ok) {a : Addr} (f : IsFr C.env a) : ¬ C.ox a := by
  rcases f with rfl | ⟨n, f⟩
  · exact fun q => h.oxf _ q h.floc
  · exact h.cnx n a f

def Reads (env : Env) (h : Heap) (x : Str) (v : Value) : Prop :=
  (env.kindOf x = some .local ∧ ∃ m, h.Ns env.locals m ∧ m x = some v) ∨
  ((env.kindOf x = some .cell ∨ env.kindOf x = some .free) ∧ ∃ c, env.cells.lookup x = some c ∧ h.IsCell c (some v))

abbrev Rho := List (Str × D)

def OwnsAre (C : Cx) (h : Heap) (μ : Mu) : Prop := ∀ x o, μ.lookup x = some o → ∃ a, C.own.lookup x = some a ∧ OwnRep C.p C.w h C.ex a o ∧ (∀ cls dx ds, o = .acc cls dx ds → C.ox dx)

/-- the state of a frame -/
structure FI (C : Cx) (s : Shared) (ρ : Rho) (μ : Mu) : Prop where
  ok : C.Ok
  base : Grow C.mt C.s0 s
  ns : ∃ m, s.heap.Ns C.env.locals m
  cel : ∀ x c, (x, c) ∈ C.env.cells → ∃ v, s.heap.IsCell c v
  lt : ∀ a, C.ex a → a < s.heap.objs.size
  vars : ∀ x d, ρ.lookup x = some d → ∃ v, Reads C.env s.heap x v ∧ Rep C.p C.w (vw s.heap C.ex) v d
  ownv : ∀ x a, C.own.lookup x = some a → Reads C.env s.heap x (.ref a)
  owns : OwnsAre C s.heap μ

/-- a step of an evaluation within a frame -/
structure Stp (C : Cx) (s s' : Shared) (μ' : Mu) : Prop where
  grow : Grow C.oa s s'
  owns : OwnsAre C s'.heap μ'

theorem Reads.keeps {env : Env} {h h' : Heap} {x : Str} {v : Value} (r : Reads env h x v) (hk : ∀ a o, IsFr env a → h.get? a = some o → h'.get? a = some o) : Reads env h' x v := by
  rcases r with ⟨k, m, hn, hv⟩ | ⟨k, c, hc, o, ho, hd⟩
  · exact .inl ⟨k, m, hn.at' fun o e => hk _ o (.inl rfl) e, hv⟩
  · exact .inr ⟨k, c, hc, o, hk c o (.inr ⟨x, mem_of_lookup hc⟩) ho, hd⟩

theorem FI.step {C : Cx} {s s' : Shared} {ρ : Rho} {μ μ' : Mu} (I : FI C s ρ μ) (S : Stp C s s' μ') : FI C s' ρ μ' where
  ok := I.ok
  base := by
    refine ⟨?_, Nat.le_trans I.base.size S.grow.size, fun a o n e => S.grow.keep a o (fun q => ?_) (I.base.keep a o n e)⟩
    · rw [S.grow.same, I.base.same]
    · rcases I.ok.oge a q with h | h
      · exact absurd (Heap.lt_size e) (Nat.not_lt.mpr h)
      · exact n h
  ns := by
    obtain ⟨m, hm⟩ := I.ns
    exact ⟨m, hm.at' fun o e => S.grow.keep _ o (I.ok.noa (.inl rfl)) e⟩
  cel := fun x c h => by
    obtain ⟨v, o, e, r⟩ := I.cel x c h
    exact ⟨v, o, S.grow.keep c o (I.ok.noa (.inr ⟨x, h⟩)) e, r⟩
  lt := fun a h => Nat.lt_of_lt_of_le (I.lt a h) S.grow.size
  vars := fun x d h => by
    obtain ⟨v, r, q⟩ := I.vars x d h
    exact ⟨v, r.keeps fun a o f e => S.grow.keep a o (I.ok.noa f) e, q.grow S.grow (fun a h => .inr (.inr h)) fun a h => .inl h⟩
  ownv := fun x a h => (I.ownv x a h).keeps fun a o f e => S.grow.keep a o (I.ok.noa f) e
  owns := S.owns

theorem OwnRep.kept {p : Program} {w : World} {X : Addr → Prop} {h h' : Heap} {a : Addr} {o : Own} (r : OwnRep p w h X a o) (g : ∀ b o, ¬ X b → h.get? b = some o → h'.get? b = some o) (ga : ∀ o, h.get? a = some o → h'.get? a = some o)
    (gd : ∀ cls dx ds, o = .acc cls dx ds → ∀ o, h.get? dx = some o → h'.get? dx = some o) : OwnRep p w h' X a o := by
  cases r with
  | lst h1 h2 => exact .lst (h1.at ga) (h2.mono fun a o ⟨e, n⟩ => ⟨g a o n e, n⟩)
  | pls h1 h2 => exact .pls (h1.at ga) (h2.mono fun a o ⟨e, n⟩ => ⟨g a o n e, n⟩)
  | dct h1 h2 h3 h4 h5 => exact .dct (ga _ h1) h2 h3 h4 (h5.mono fun a o ⟨e, n⟩ => ⟨g a o n e, n⟩)
  | acc h1 h2 h3 h4 => exact .acc (ga _ h1) (h2.at fun o e => gd _ _ _ rfl o e) h3 (h4.mono fun a o ⟨e, n⟩ => ⟨g a o n e, n⟩)

theorem FI.touch {C : Cx} {s s' : Shared} {ρ : Rho} {μ : Mu} (I : FI C s ρ μ) {Y : Addr → Prop} (g : Grow Y s s') (hx : ∀ a, Y a → C.X a) (hf : ∀ a, Y a → ¬ IsFr C.env a)
    (hs : ∀ a, Y a → C.s0.heap.objs.size ≤ a ∨ C.mt a) (ho : ∀ a, Y a → ¬ C.ox a) : FI C s' ρ μ where
  ok := I.ok
  base := by
    refine ⟨?_, Nat.le_trans I.base.size g.size, fun a o n e => g.keep a o (fun q => ?_) (I.base.keep a o n e)⟩
    · rw [g.same, I.base.same]
    · rcases hs a q with h | h
      · exact absurd (Heap.lt_size e) (Nat.not_lt.mpr h)
      · exact n h
  ns := by
    obtain ⟨m, hm⟩ := I.ns
    exact ⟨m, hm.at' fun o e => g.keep _ o (fun q => hf _ q (.inl rfl)) e⟩
  cel := fun x c h => by
    obtain ⟨v, o, e, r⟩ := I.cel x c h
    exact ⟨v, o, g.keep c o (fun q => hf c q (.inr ⟨x, h⟩)) e, r⟩
  lt := fun a h => Nat.lt_of_lt_of_le (I.lt a h) g.size
  vars := fun x d h => by
    obtain ⟨v, r, q⟩ := I.vars x d h
    exact ⟨v, r.keeps fun a o f e => g.keep a o (fun q => hf a q f) e, q.grow g (fun a h => .inl (hx a h)) fun a h => .inl h⟩
  ownv := fun x a h => (I.ownv x a h).keeps fun a o f e => g.keep a o (fun q => hf a q f) e
  owns := fun x o e => by
    obtain ⟨a, h1, h2, h3⟩ := I.owns x o e
    refine ⟨a, h1, h2.kept (fun b o n e => g.keep b o (fun q => n (.inl (hx b q))) e) (fun o e => g.keep a o (fun q => ho a q (I.ok.ownox x a (mem_of_lookup h1))) e) (fun cls dx ds q o e => g.keep dx o (fun z => ho dx z (h3 cls dx ds q)) e), h3⟩

theorem FI.sub {C : Cx} {s : Shared} {ρ ρ' : Rho} {μ : Mu} (I : FI C s ρ μ) (h : ∀ x d, ρ'.lookup x = some d → ρ.lookup x = some d) : FI C s ρ' μ :=
  ⟨I.ok, I.base, I.ns, I.cel, I.lt, fun x d e => I.vars x d (h x d e), I.ownv, I.owns⟩

theorem FI.celLt {C : Cx} {s : Shared} {ρ : Rho} {μ : Mu} (I : FI C s ρ μ) {n : Str} {a : Nat} (h : (n, a) ∈ C.env.cells) : a < s.heap.objs.size := by
  obtain ⟨_, q⟩ := I.cel n a h
  exact q.lt

theorem FI.hbk {C : Cx} {s : Shared} {ρ : Rho} {μ : Mu} (I : FI C s ρ μ) : ∀ a o, C.hb.get? a = some o → s.heap.get? a = some o :=
  fun a o e => I.base.keep a o (fun q => by rw [I.ok.mhb a q] at e; cases e) (I.ok.hb0 a o e)

abbrev Cx.M (C : Cx) : Model := model C.p C.w
abbrev NoE : Value → Shared → Prop := fun _ _ => False

structure Ev (C : Cx) (ρ : Rho) (μ : Mu) (e : Expr) (d : D) (μ' : Mu) : Prop where
  run : ∀ s, FI C s ρ μ → wpAny C.M C.A (eval e C.env) (fun v s' => Stp C s s' μ' ∧ Rep C.p C.w (vw s'.heap C.ex) v d) NoE s

structure EvT (C : Cx) (ρ : Rho) (μ : Mu) (e : Expr) (b : Bool) (μ' : Mu) : Prop where
  run : ∀ s, FI C s ρ μ → wpAny C.M C.A (isTrue e C.env (eval e C.env)) (fun b' s' => Stp C s s' μ' ∧ b' = b) NoE s

def Cx.fo (C : Cx) (a : Addr) : Prop := C.fa a ∨ C.oa a

def Out (N : Shared → Prop) (R : Value → Shared → Prop) : Flow → Shared → Prop
  | .next, s => N s
  | .ret v, s => R v s
  | _, _ => False

structure Ex (C : Cx) (ρ : Rho) (μ : Mu) (ss : List Stmt) (N : Shared → Prop) (R : Value → Shared → Prop) : Prop where
  run : ∀ s, FI C s ρ μ → wpAny C.M C.A (execs ss C.env) (fun f s' => Grow C.fo s s' ∧ Out N R f s') NoE s

end Mine
end

section
open PySem PySem.W PyProof.Rows PySem.Spec PySem.Calls
namespace Mine

section
variable {p : Program} {w : World}
theorem OwnRep.grow {X : Addr → Prop} {h h' : Heap} {a : Addr} {o : Own} (r : OwnRep p w h X a o) (g : ∀ a o, h.get? a = some o → h'.get? a = some o) : OwnRep p w h' X a o := by
  cases r with
  | lst h1 h2 => exact .lst (h1.at fun o e => g _ o e) (h2.mono fun a o ⟨e, n⟩ => ⟨g a o e, n⟩)
  | pls h1 h2 => exact .pls (h1.at fun o e => g _ o e) (h2.mono fun a o ⟨e, n⟩ => ⟨g a o e, n⟩)
  | dct h1 h2 h3 h4 h5 => exact .dct (g _ _ h1) h2 h3 h4 (h5.mono fun a o ⟨e, n⟩ => ⟨g a o e, n⟩)
  | acc h1 h2 h3 h4 => exact .acc (g _ _ h1) (h2.at fun o e => g _ o e) h3 (h4.mono fun a o ⟨e, n⟩ => ⟨g a o e, n⟩)
end

theorem OwnsAre.grow {C : Cx} {s s' : Shared} {μ : Mu} (h : OwnsAre C s.heap μ) (g : Grow Nil s s') : OwnsAre C s'.heap μ := fun x o e => by
  obtain ⟨a, h1, h2, h3⟩ := h x o e
  exact ⟨a, h1, h2.grow fun a o e => g.keep a o (fun q => q) e, h3⟩

theorem Stp.refl {C : Cx} {s : Shared} {ρ : Rho} {μ : Mu} (I : FI C s ρ μ) : Stp C s s μ := ⟨.refl s, I.owns⟩
theorem Stp.trans {C : Cx} {s s' s'' : Shared} {μ μ' : Mu} (h : Stp C s s' μ) (k : Stp C s' s'' μ') : Stp C s s'' μ' := ⟨h.grow.trans k.grow, k.owns⟩
theorem Stp.more {C : Cx} {s s' s'' : Shared} {μ : Mu} (h : Stp C s s' μ) (g : Grow Nil s' s'') : Stp C s s'' μ := ⟨h.grow.trans (g.weak fun _ q => q.elim), h.owns.grow g⟩
theorem FI.of {C : Cx} {s s' : Shared} {ρ : Rho} {μ : Mu} (I : FI C s ρ μ) (g : Grow Nil s s') : Stp C s s' μ := (Stp.refl I).more g

/-- a value stays what it is over a step -/
theorem Rep.stp {C : Cx} {s s' : Shared} {μ : Mu} {v : Value} {d : D} (r : Rep C.p C.w (vw s.heap C.ex) v d) (S : Stp C s s' μ) : Rep C.p C.w (vw s'.heap C.ex) v d :=
  r.grow S.grow (fun _ q => .inr (.inr q)) fun _ q => .inl q
theorem Rep.gn {p : Program} {w : World} {X : Addr → Prop} {s s' : Shared} {v : Value} {d : D} (r : Rep p w (vw s.heap X) v d) (g : Grow Nil s s') : Rep p w (vw s'.heap X) v d :=
  r.grow g (fun _ q => q.elim) fun _ q => .inl q
theorem Reps.gn {p : Program} {w : World} {X : Addr → Prop} {s s' : Shared} {v : List Value} {d : List D} (r : Reps p w (vw s.heap X) v d) (g : Grow Nil s s') : Reps p w (vw s'.heap X) v d :=
  r.mono fun a o ⟨e, n⟩ => ⟨g.keep a o (fun q => q) e, n⟩
theorem Reps.stp {C : Cx} {s s' : Shared} {μ : Mu} {v : List Value} {d : List D} (r : Reps C.p C.w (vw s.heap C.ex) v d) (S : Stp C s s' μ) : Reps C.p C.w (vw s'.heap C.ex) v d :=
  r.mono fun a o ⟨e, n⟩ => ⟨S.grow.keep a o (fun q => n (.inr (.inr q))) e, n⟩

/-- a tree that gives a datum and changes nothing that stood -/
def VOp (p : Program) (w : World) (A : Around) (X : Addr → Prop) (s : Shared) (t : Sem Value) (d : D) : Prop :=
  wpAny (model p w) A t (fun r s' => Grow Nil s s' ∧ Rep p w (vw s'.heap X) r d) NoE s

def Low (X : Addr → Prop) (s : Shared) : Prop := ∀ a, X a → a < s.heap.objs.size
theorem Low.grow {X : Addr → Prop} {s s' : Shared} (h : Low X s) (n : s.heap.objs.size ≤ s'.heap.objs.size) : Low X s' := fun a q => Nat.lt_of_lt_of_le (h a q) n

/-- what the rules of a value need of the world around -/
structure Rm (A : Around) (hb : Heap) (s : Shared) : Prop where
  hh : A.handled = none
  hb : ∀ a o, hb.get? a = some o → s.heap.get? a = some o
theorem Rm.grow {A : Around} {hb : Heap} {s s' : Shared} (r : Rm A hb s) (g : Grow Nil s s') : Rm A hb s' := ⟨r.hh, fun a o e => g.keep a o (fun q => q) (r.hb a o e)⟩
theorem FI.rm {C : Cx} {s : Shared} {ρ : Rho} {μ : Mu} (I : FI C s ρ μ) : Rm C.A C.hb s := ⟨I.ok.hh, I.hbk⟩

def BinD (p : Program) (w : World) (A : Around) (hb : Heap) (op : Operator) (dl dr d : D) : Prop :=
  ∀ X s v u, Rm A hb s → Low X s → Rep p w (vw s.heap X) v dl → Rep p w (vw s.heap X) u dr → VOp p w A X s (binaryOp op v u) d
def InpD (p : Program) (w : World) (A : Around) (hb : Heap) (op : Operator) (dl dr d : D) : Prop :=
  ∀ X s v u, Rm A hb s → Low X s → Rep p w (vw s.heap X) v dl → Rep p w (vw s.heap X) u dr → VOp p w A X s (inplaceOp op v u) d
def CmpD (p : Program) (w : World) (A : Around) (hb : Heap) (op : CmpOp) (dl dr : D) (b : Bool) : Prop :=
  ∀ X s v u, Rm A hb s → Low X s → Rep p w (vw s.heap X) v dl → Rep p w (vw s.heap X) u dr → VOp p w A X s (compareOp op v u) (.bool b)
def UnD (p : Program) (w : World) (A : Around) (hb : Heap) (op : UnaryOp) (dl d : D) : Prop :=
  ∀ X s v, Rm A hb s → Low X s → Rep p w (vw s.heap X) v dl → VOp p w A X s (unaryOp op v) d
def TruD (p : Program) (w : World) (A : Around) (hb : Heap) (d : D) (b : Bool) : Prop :=
  ∀ X s v, Rm A hb s → Rep p w (vw s.heap X) v d → wpAny (model p w) A (truthy v) (fun b' s' => Grow Nil s s' ∧ b' = b) NoE s
/-- an item by a subscript: the object's type is a built-in one -/
def SubD (p : Program) (w : World) (A : Around) (hb : Heap) (dl di d : D) : Prop :=
  ∀ X s v u, Rm A hb s → Low X s → Rep p w (vw s.heap X) v dl → Rep p w (vw s.heap X) u di →
    (∃ T id, typeLookup (.type T) "__getitem__" = pure (some (.builtin id)) ∧ s.TypeIs v T) ∧ VOp p w A X s (getItem v u) d

section
variable {C : Cx} {ρ : Rho} {μ μ₁ μ₂ : Mu}

theorem Ev_sub {ρ' : Rho} {e : Expr} {d : D} (h : Ev C ρ' μ e d μ₁) (hs : ∀ x d, ρ'.lookup x = some d → ρ.lookup x = some d) : Ev C ρ μ e d μ₁ := .mk fun s I => h.run s (I.sub hs)

theorem Ev_int {i : Int} {k : Nat} {pos : Pos} : Ev C ρ μ (.Constant (.int i) k pos) (.int i) μ := .mk fun s I =>
  wpAny_Constant_int ⟨I.of (.ofToks s _), .int i _⟩
theorem Ev_str {x : Str} {k : Nat} {pos : Pos} : Ev C ρ μ (.Constant (.str x) k pos) (.str x) μ := .mk fun s I =>
  wpAny_Constant_str ⟨I.of (.ofToks s _), .str x _⟩
theorem Ev_none {k : Nat} {pos : Pos} : Ev C ρ μ (.Constant .none k pos) .none μ := .mk fun s I => wpAny_Constant_none ⟨.refl I, .nn⟩
theorem Ev_bool {b : Bool} {k : Nat} {pos : Pos} : Ev C ρ μ (.Constant (.bool b) k pos) (.bool b) μ := .mk fun s I =>
  show wpAny C.M C.A (pure (Value.bool b)) _ _ s from wpAny_pure ⟨.refl I, .bool b⟩

theorem loadName_reads {s : Shared} {x : Str} {v : Value} {Q : Value → Shared → Prop} {env : Env} {M : Model} {A : Around} (r : Reads env s.heap x v) (hk : env.scope.kind = .function) (h : Q v s)
    (hn : (x == ("__classdict__" : Str)) = false) : wpAny M A (loadName env x) Q NoE s := by
  rcases r with ⟨k, m, hm, hv⟩ | ⟨k | k, c, hc, hv⟩
  · exact wpAny_loadName_local hk k hm hv h
  · exact wpAny_loadName_cell hk k hc hv h
  · exact wpAny_loadName_free hk k hc hv h hn

theorem Ev_name {x : Str} {pos : Pos} {d : D} (h : ρ.lookup x = some d) (hd : (x == ("__debug__" : Str)) = false := by decide) (hn : (x == ("__classdict__" : Str)) = false := by decide) :
    Ev C ρ μ (.Name x pos) d μ := .mk fun s I => by
  obtain ⟨v, r, q⟩ := I.vars x d h
  exact wpAny_Name (loadName_reads r I.ok.kind ⟨.refl I, q⟩ hn) hd

def GlobIs (hb : Heap) (x : Str) (v : Value) : Prop := ∃ mg, hb.Ns mainGlobals mg ∧ mg x = some v
def BuiltIs (hb : Heap) (x : Str) (v : Value) : Prop := ∃ mg mb, hb.Ns mainGlobals mg ∧ mg x = none ∧ hb.Ns builtinsNs mb ∧ mb x = some v

theorem name_glob {s : Shared} {x : Str} {pos : Pos} {v : Value} {Q : Value → Shared → Prop} (I : FI C s ρ μ) (g : GlobIs C.hb x v) (hx : C.env.kindOf x = some .globalImplicit) (h : Q v s)
    (hd : (x == ("__debug__" : Str)) = false) : wpAny C.M C.A (eval (.Name x pos) C.env) Q NoE s := by
  obtain ⟨mg, hg, hv⟩ := g
  refine wpAny_Name ?_ hd
  rw [loadName_read I.ok.kind hx]
  exact loadGlobal_global (I.ok.gl ▸ hg.keeps I.hbk) hv h
theorem name_built {s : Shared} {x : Str} {pos : Pos} {v : Value} {Q : Value → Shared → Prop} (I : FI C s ρ μ) (g : BuiltIs C.hb x v) (hx : C.env.kindOf x = some .globalImplicit) (h : Q v s)
    (hd : (x == ("__debug__" : Str)) = false) : wpAny C.M C.A (eval (.Name x pos) C.env) Q NoE s := by
  obtain ⟨mg, mb, hg, hv, hbn, hbv⟩ := g
  refine wpAny_Name ?_ hd
  rw [loadName_read I.ok.kind hx]
  exact loadGlobal_builtin (I.ok.gl ▸ hg.keeps I.hbk) hv (I.ok.bl ▸ hbn.keeps I.hbk) hbv h

/-- a name of the top that stands for plain data -/
theorem Ev_glob {x : Str} {pos : Pos} {v : Value} {d : D} (g : GlobIs C.hb x v) (r : ∀ H, Rep C.p C.w H v d) (hx : C.env.kindOf x = some .globalImplicit := by rfl)
    (hd : (x == ("__debug__" : Str)) = false := by decide) : Ev C ρ μ (.Name x pos) d μ := .mk fun s I => name_glob I g hx ⟨.refl I, r _⟩ hd

theorem Ev_bin {l r : Expr} {op : Operator} {pos : Pos} {dl dr d : D} (hl : Ev C ρ μ l dl μ₁) (hr : Ev C ρ μ₁ r dr μ₂) (b : BinD C.p C.w C.A C.hb op dl dr d) : Ev C ρ μ (.BinOp l op r pos) d μ₂ := .mk fun s I => by
  refine wpAny_BinOp (wpAny_mono (hl.run s I) (fun v s₁ h₁ => ?_) fun _ _ x => x)
  have I₁ := I.step h₁.1
  refine wpAny_mono (hr.run s₁ I₁) (fun u s₂ h₂ => ?_) fun _ _ x => x
  have I₂ := I₁.step h₂.1
  refine wpAny_mono (b _ s₂ v u I₂.rm I₂.lt (h₁.2.stp h₂.1) h₂.2) (fun r s₃ h₃ => ?_) fun _ _ x => x
  exact ⟨(h₁.1.trans h₂.1).more h₃.1, h₃.2⟩

theorem Ev_un {x : Expr} {op : UnaryOp} {pos : Pos} {dl d : D} (hl : Ev C ρ μ x dl μ₁) (b : UnD C.p C.w C.A C.hb op dl d) : Ev C ρ μ (.UnaryOp op x pos) d μ₁ := .mk fun s I => by
  refine wpAny_UnaryOp (wpAny_mono (hl.run s I) (fun v s₁ h₁ => ?_) fun _ _ x => x)
  have I₁ := I.step h₁.1
  refine wpAny_mono (b _ s₁ v I₁.rm I₁.lt h₁.2) (fun r s₃ h₃ => ?_) fun _ _ x => x
  exact ⟨h₁.1.more h₃.1, h₃.2⟩

theorem Ev_cmp {l r : Expr} {op : CmpOp} {pos : Pos} {dl dr : D} {b : Bool} (hl : Ev C ρ μ l dl μ₁) (hr : Ev C ρ μ₁ r dr μ₂) (k : CmpD C.p C.w C.A C.hb op dl dr b)
    (hm : behindInMarks op r = false := by with_unfolding_all rfl) : Ev C ρ μ (.Compare l [op] [r] pos) (.bool b) μ₂ := .mk fun s I => by
  refine wpAny_Compare1 (wpAny_mono (hl.run s I) (fun v s₁ h₁ => ?_) fun _ _ x => x) hm
  have I₁ := I.step h₁.1
  refine wpAny_mono (hr.run s₁ I₁) (fun u s₂ h₂ => ?_) fun _ _ x => x
  have I₂ := I₁.step h₂.1
  refine wpAny_mono (k _ s₂ v u I₂.rm I₂.lt (h₁.2.stp h₂.1) h₂.2) (fun r s₃ h₃ => ?_) fun _ _ x => x
  exact ⟨(h₁.1.trans h₂.1).more h₃.1, h₃.2⟩

theorem EvT_cmp {l r : Expr} {op : CmpOp} {pos : Pos} {dl dr : D} {b : Bool} (hl : Ev C ρ μ l dl μ₁) (hr : Ev C ρ μ₁ r dr μ₂) (k : CmpD C.p C.w C.A C.hb op dl dr b)
    (hm : behindInMarks op r = false := by with_unfolding_all rfl) : EvT C ρ μ (.Compare l [op] [r] pos) b μ₂ := .mk fun s I => by
  refine wpAny_isTrue_Compare1 (wpAny_mono (hl.run s I) (fun v s₁ h₁ => ?_) fun _ _ x => x) hm
  have I₁ := I.step h₁.1
  refine wpAny_mono (hr.run s₁ I₁) (fun u s₂ h₂ => ?_) fun _ _ x => x
  have I₂ := I₁.step h₂.1
  refine wpAny_mono (k _ s₂ v u I₂.rm I₂.lt (h₁.2.stp h₂.1) h₂.2) (fun r s₃ h₃ => ?_) fun _ _ x => x
  obtain ⟨g, q⟩ := h₃
  cases q
  exact wpAny_truthy_bool ⟨(h₁.1.trans h₂.1).more g, rfl⟩

theorem EvT_not {x : Expr} {pos : Pos} {b : Bool} (h : EvT C ρ μ x b μ₁) : EvT C ρ μ (.UnaryOp .Not x pos) (!b) μ₁ := .mk fun s I =>
  wpAny_isTrue_Not (wpAny_mono (h.run s I) (fun b' s₁ h₁ => ⟨h₁.1, by rw [h₁.2]⟩) fun _ _ x => x)

theorem EvT_val {e : Expr} {d : D} {b : Bool} (h : Ev C ρ μ e d μ₁) (t : TruD C.p C.w C.A C.hb d b) (he : ∀ env whole, isTrue e env whole = (do let v ← whole; standAt e.pos; holding [v] (truthy v)) := by intros; rfl) :
    EvT C ρ μ e b μ₁ := .mk fun s I => by
  refine wpAny_isTrue_value (wpAny_mono (h.run s I) (fun v s₁ h₁ => ?_) fun _ _ x => x) (he _ _)
  exact wpAny_mono (t _ s₁ v (I.step h₁.1).rm h₁.2) (fun b' s₂ h₂ => ⟨h₁.1.more h₂.1, h₂.2⟩) fun _ _ x => x

theorem EvT_and_ff {x : Expr} {rest : List Expr} {pos : Pos} (h : EvT C ρ μ x false μ₁) : EvT C ρ μ (.BoolOp .And (x :: rest) pos) false μ₁ := .mk fun s I =>
  wpAny_isTrue_BoolOp (wpAny_allTrue_And_cons (wpAny_mono (h.run s I) (fun b s₁ h₁ => by rw [h₁.2]; exact ⟨h₁.1, rfl⟩) fun _ _ x => x))
theorem EvT_or_tt {x : Expr} {rest : List Expr} {pos : Pos} (h : EvT C ρ μ x true μ₁) : EvT C ρ μ (.BoolOp .Or (x :: rest) pos) true μ₁ := .mk fun s I =>
  wpAny_isTrue_BoolOp (wpAny_allTrue_Or_cons (wpAny_mono (h.run s I) (fun b s₁ h₁ => by rw [h₁.2]; exact ⟨h₁.1, rfl⟩) fun _ _ x => x))
theorem EvT_and_tt {x : Expr} {rest : List Expr} {pos : Pos} {b : Bool} (h : EvT C ρ μ x true μ₁) (k : EvT C ρ μ₁ (.BoolOp .And rest pos) b μ₂) : EvT C ρ μ (.BoolOp .And (x :: rest) pos) b μ₂ := .mk fun s I =>
  wpAny_isTrue_BoolOp (wpAny_allTrue_And_cons (wpAny_mono (h.run s I) (fun b' s₁ h₁ => by
    rw [h₁.2]
    have := k.run s₁ (I.step h₁.1)
    rw [arm_isTrue_BoolOp] at this
    exact wpAny_mono this (fun b s₂ h₂ => ⟨h₁.1.trans h₂.1, h₂.2⟩) fun _ _ x => x) fun _ _ x => x))
theorem EvT_or_ff {x : Expr} {rest : List Expr} {pos : Pos} {b : Bool} (h : EvT C ρ μ x false μ₁) (k : EvT C ρ μ₁ (.BoolOp .Or rest pos) b μ₂) : EvT C ρ μ (.BoolOp .Or (x :: rest) pos) b μ₂ := .mk fun s I =>
  wpAny_isTrue_BoolOp (wpAny_allTrue_Or_cons (wpAny_mono (h.run s I) (fun b' s₁ h₁ => by
    rw [h₁.2]
    have := k.run s₁ (I.step h₁.1)
    rw [arm_isTrue_BoolOp] at this
    exact wpAny_mono this (fun b s₂ h₂ => ⟨h₁.1.trans h₂.1, h₂.2⟩) fun _ _ x => x) fun _ _ x => x))
theorem EvT_and_nil {pos : Pos} : EvT C ρ μ (.BoolOp .And [] pos) true μ := .mk fun s I => wpAny_isTrue_BoolOp (wpAny_allTrue_And_nil ⟨.refl I, rfl⟩)
theorem EvT_or_nil {pos : Pos} : EvT C ρ μ (.BoolOp .Or [] pos) false μ := .mk fun s I => wpAny_isTrue_BoolOp (wpAny_allTrue_Or_nil ⟨.refl I, rfl⟩)

theorem Ev_if_tt {t a b : Expr} {pos : Pos} {d : D} (h : EvT C ρ μ t true μ₁) (k : Ev C ρ μ₁ a d μ₂) : Ev C ρ μ (.IfExp t a b pos) d μ₂ := .mk fun s I =>
  wpAny_IfExp (wpAny_mono (h.run s I) (fun b' s₁ h₁ => by
    rw [h₁.2]
    exact wpAny_mono (k.run s₁ (I.step h₁.1)) (fun v s₂ h₂ => ⟨h₁.1.trans h₂.1, h₂.2⟩) fun _ _ x => x) fun _ _ x => x)
theorem Ev_if_ff {t a b : Expr} {pos : Pos} {d : D} (h : EvT C ρ μ t false μ₁) (k : Ev C ρ μ₁ b d μ₂) : Ev C ρ μ (.IfExp t a b pos) d μ₂ := .mk fun s I =>
  wpAny_IfExp (wpAny_mono (h.run s I) (fun b' s₁ h₁ => by
    rw [h₁.2]
    exact wpAny_mono (k.run s₁ (I.step h₁.1)) (fun v s₂ h₂ => ⟨h₁.1.trans h₂.1, h₂.2⟩) fun _ _ x => x) fun _ _ x => x)
theorem Ev_if {t a b : Expr} {pos : Pos} {c : Bool} {d₁ d₂ : D} (h : EvT C ρ μ t c μ₁) (k₁ : c = true → Ev C ρ μ₁ a d₁ μ₂) (k₂ : c = false → Ev C ρ μ₁ b d₂ μ₂) :
    Ev C ρ μ (.IfExp t a b pos) (if c then d₁ else d₂) μ₂ := by
  cases c with
  | true => exact Ev_if_tt h (k₁ rfl)
  | false => exact Ev_if_ff h (k₂ rfl)

/-- `x or y` -/
theorem Ev_or {x y : Expr} {pos : Pos} {d₁ d : D} {b : Bool} (h : Ev C ρ μ x d₁ μ₁) (t : TruD C.p C.w C.A C.hb d₁ b) (k₁ : b = true → d = d₁ ∧ μ₁ = μ₂) (k₂ : b = false → Ev C ρ μ₁ y d μ₂) :
    Ev C ρ μ (.BoolOp .Or [x, y] pos) d μ₂ := .mk fun s I => by
  refine wpAny_Or2 (wpAny_mono (h.run s I) (fun v s₁ h₁ => ?_) fun _ _ x => x)
  refine wpAny_mono (t _ s₁ v (I.step h₁.1).rm h₁.2) (fun b' s₂ h₂ => ?_) fun _ _ x => x
  rw [h₂.2]
  cases b with
  | true =>
    obtain ⟨rfl, rfl⟩ := k₁ rfl
    exact ⟨h₁.1.more h₂.1, h₁.2.gn h₂.1⟩
  | false =>
    have S := h₁.1.more h₂.1
    exact wpAny_mono ((k₂ rfl).run s₂ (I.step S)) (fun v s₃ h₃ => ⟨S.trans h₃.1, h₃.2⟩) fun _ _ x => x

theorem Ev_subscr {v i : Expr} {pos : Pos} {dl di d : D} (hl : Ev C ρ μ v dl μ₁) (hr : Ev C ρ μ₁ i di μ₂) (k : SubD C.p C.w C.A C.hb dl di d)
    (hs : ∀ o u, subscripted i false o u = operate [o, u] (getItem o u) := by intros; rfl) : Ev C ρ μ (.Subscript v i pos) d μ₂ := .mk fun s I => by
  rw [eval_Subscript]
  refine wpAny_bind (wpAny_mono (hl.run s I) (fun o s₁ h₁ => wpAny_bind (wpAny_holding ?_)) fun _ _ x => x)
  have I₁ := I.step h₁.1
  refine wpAny_mono (hr.run s₁ I₁) (fun u s₂ h₂ => wpAny_bind (wpAny_standAt ?_)) fun _ _ x => x
  have I₂ := I₁.step h₂.1
  obtain ⟨⟨T, id, hT, ht⟩, q⟩ := k _ s₂ o u I₂.rm I₂.lt (h₁.2.stp h₂.1) h₂.2
  refine wpAny_bind ?_
  rw [getitemInPython_of_ne ht.not_modules]
  refine wpAny_bind (wpAny_specialOf ht hT ?_)
  refine wpAny_pure (wpAny_bind ?_)
  rw [hs]
  refine wpAny_operating (wpAny_mono q (fun r s₃ h₃ => ?_) fun _ _ x => x)
  exact wpAny_bind (wpAny_letTemporaryGo (wpAny_pure ⟨(h₁.1.trans h₂.1).more h₃.1, h₃.2⟩))

/-- a cut `v[l:u]` or `v[l:u:st]`: the parts are ints or None -/
inductive Part (C : Cx) (ρ : Rho) (μ : Mu) : Option Expr → Option Int → Prop
  | none : Part C ρ μ none none
  | int {e : Expr} {i : Int} : Ev C ρ μ e (.int i) μ → Part C ρ μ (some e) (some i)
  | non {e : Expr} : Ev C ρ μ e .none μ → Part C ρ μ (some e) none

def PartV : Option Int → Value → Prop
  | none, v => v = .none
  | some i, v => ∃ t, v = .int i t

theorem Part.eval {e : Option Expr} {i : Option Int} {s : Shared} (h : Part C ρ μ e i) (I : FI C s ρ μ) :
    wpAny C.M C.A (evalPart e C.env) (fun v s' => Stp C s s' μ ∧ PartV i v) NoE s := by
  cases h with
  | none => exact wpAny_pure ⟨.refl I, rfl⟩
  | int h => exact wpAny_mono (h.run s I) (fun v s' h' => ⟨h'.1, by obtain ⟨_, q⟩ := h'; cases q; exact ⟨_, rfl⟩⟩) fun _ _ x => x
  | non h => exact wpAny_mono (h.run s I) (fun v s' h' => ⟨h'.1, by obtain ⟨_, q⟩ := h'; cases q; rfl⟩) fun _ _ x => x

/-- an item by a slice -/
def SliD (p : Program) (w : World) (A : Around) (hb : Heap) (dl : D) (lo hi st : Option Int) (d : D) : Prop :=
  ∀ X s v a l u t, Rm A hb s → Low X s → Rep p w (vw s.heap X) v dl → PartV lo l → PartV hi u → PartV st t →
    s.heap.get? a = some { cls := .type "slice", data := .fields #[l, u, t] } →
    (∃ T id, typeLookup (.type T) "__getitem__" = pure (some (.builtin id)) ∧ s.TypeIs v T) ∧ VOp p w A X s (getItem v (.ref a)) d

theorem Ev_slice {v : Expr} {el eu es : Option Expr} {pos sp : Pos} {dl d : D} {lo hi st : Option Int} (hl : Ev C ρ μ v dl μ₁) (h1 : Part C ρ μ₁ el lo) (h2 : Part C ρ μ₁ eu hi) (h3 : Part C ρ μ₁ es st)
    (k : SliD C.p C.w C.A C.hb dl lo hi st d) : Ev C ρ μ (.Subscript v (.Slice el eu es sp) pos) d μ₁ := .mk fun s I => by
  rw [eval_Subscript]
  refine wpAny_bind (wpAny_mono (hl.run s I) (fun o s₁ h₁ => wpAny_bind (wpAny_holding ?_)) fun _ _ x => x)
  have I₁ := I.step h₁.1
  refine wpAny_Slice (wpAny_mono (h1.eval I₁) (fun l s₂ q₂ => ?_) fun _ _ x => x)
  have I₂ := I₁.step q₂.1
  refine wpAny_mono (h2.eval I₂) (fun u s₃ q₃ => ?_) fun _ _ x => x
  have I₃ := I₂.step q₃.1
  refine wpAny_mono (h3.eval I₃) (fun t s₄ q₄ => ?_) fun _ _ x => x
  have I₄ := I₃.step q₄.1
  have g : Grow Nil s₄ { s₄ with heap := s₄.heap.push { cls := .type "slice", data := .fields #[l, u, t] } } := .ofPush s₄ _ _
  have S := ((q₂.1.trans q₃.1).trans q₄.1).more g
  have I₅ := I₁.step S
  refine wpAny_bind (wpAny_standAt ?_)
  obtain ⟨⟨T, id, hT, ht⟩, q⟩ := k C.ex _ o s₄.heap.objs.size l u t I₅.rm I₅.lt (h₁.2.stp S) q₂.2 q₃.2 q₄.2 (Heap.get?_push_size _ rfl)
  refine wpAny_bind ?_
  rw [getitemInPython_of_ne ht.not_modules]
  refine wpAny_bind (wpAny_specialOf ht hT ?_)
  refine wpAny_pure (wpAny_bind ?_)
  have fin : wpAny C.M C.A (getItem o (.ref s₄.heap.objs.size)) (fun r s₃ => wpAny C.M C.A (letTemporaryGo v o r >>= fun _ => pure r) (fun v s' => Stp C s s' μ₁ ∧ Rep C.p C.w (vw s'.heap C.ex) v d) NoE s₃) NoE
      { s₄ with heap := s₄.heap.push { cls := .type "slice", data := .fields #[l, u, t] } } :=
    wpAny_mono q (fun r s₅ h₅ => wpAny_bind (wpAny_letTemporaryGo (wpAny_pure ⟨(h₁.1.trans S).more h₅.1, h₅.2⟩))) fun _ _ x => x
  cases es with
  | none => exact wpAny_operating fin
  | some e => exact wpAny_operating fin
end
end Mine
end

section
open PySem PySem.W PyProof.Rows PySem.Spec PySem.Calls
set_option linter.unusedVariables false
namespace Mine

/-- an argument of a call: plain data, or an object that the caller owns -/
inductive Arg where
  | im (d : D)
  | ow (a : Addr)
def ArgIs (C : Cx) (h : Heap) (v : Value) : Arg → Prop
  | .im d => Rep C.p C.w (vw h C.ex) v d
  | .ow a => v = .ref a
def ArgsAre (C : Cx) (h : Heap) : List Value → List Arg → Prop
  | [], [] => True
  | v :: vs, a :: as => ArgIs C h v a ∧ ArgsAre C h vs as
  | _, _ => False

section
variable {C : Cx} {ρ : Rho} {μ μ₁ μ₂ : Mu}

theorem ArgIs.stp {s s' : Shared} {v : Value} {a : Arg} (h : ArgIs C s.heap v a) (S : Stp C s s' μ) : ArgIs C s'.heap v a := by
  cases a with
  | im d => exact Rep.stp (C := C) h S
  | ow a => exact h
theorem ArgsAre.stp {s s' : Shared} (S : Stp C s s' μ) : ∀ {vs : List Value} {as : List Arg}, ArgsAre C s.heap vs as → ArgsAre C s'.heap vs as
  | [], [], _ => trivial
  | _ :: _, _ :: _, h => ⟨h.1.stp S, ArgsAre.stp S h.2⟩

structure EvA (C : Cx) (ρ : Rho) (μ : Mu) (e : Expr) (a : Arg) (μ' : Mu) : Prop where
  run : ∀ s, FI C s ρ μ → wpAny C.M C.A (eval e C.env) (fun v s' => Stp C s s' μ' ∧ ArgIs C s'.heap v a) NoE s
theorem EvA_im {e : Expr} {d : D} (h : Ev C ρ μ e d μ₁) : EvA C ρ μ e (.im d) μ₁ := ⟨h.run⟩
theorem EvA_ow {x : Str} {pos : Pos} {a : Addr} (h : C.own.lookup x = some a) (hd : (x == ("__debug__" : Str)) = false := by decide) (hn : (x == ("__classdict__" : Str)) = false := by decide) :
    EvA C ρ μ (.Name x pos) (.ow a) μ := .mk fun s I => wpAny_Name (loadName_reads (I.ownv x a h) I.ok.kind ⟨.refl I, rfl⟩ hn) hd

structure EvAs (C : Cx) (ρ : Rho) (μ : Mu) (es : List Expr) (as : List Arg) (μ' : Mu) : Prop where
  run : ∀ (pos : Pos) s, FI C s ρ μ → wpAny C.M C.A (spliced (backTo pos (starEach es C.env))) (fun vs s' => Stp C s s' μ' ∧ ArgsAre C s'.heap vs as) NoE s
theorem EvAs_nil : EvAs C ρ μ [] [] μ := .mk fun pos s I => wpAny_items_nil ⟨.refl I, trivial⟩
theorem EvAs_cons {e : Expr} {es : List Expr} {a : Arg} {as : List Arg} (h : EvA C ρ μ e a μ₁) (k : EvAs C ρ μ₁ es as μ₂) (he : ∀ env, starEach (e :: es) env = (false, eval e env) :: starEach es env := by intros; rfl) :
    EvAs C ρ μ (e :: es) (a :: as) μ₂ := .mk fun pos s I =>
  wpAny_items_cons (wpAny_mono (h.run s I) (fun v s₁ h₁ => wpAny_mono (k.run pos s₁ (I.step h₁.1)) (fun vs s₂ h₂ => ⟨h₁.1.trans h₂.1, h₁.2.stp h₂.1, h₂.2⟩) fun _ _ x => x) fun _ _ x => x) (he _)

/-- a list of expressions, all plain -/
structure Evs (C : Cx) (ρ : Rho) (μ : Mu) (es : List Expr) (ds : List D) (μ' : Mu) : Prop where
  run : ∀ (pos : Pos) s, FI C s ρ μ → wpAny C.M C.A (spliced (backTo pos (starEach es C.env))) (fun vs s' => Stp C s s' μ' ∧ Reps C.p C.w (vw s'.heap C.ex) vs ds) NoE s
theorem Evs_nil : Evs C ρ μ [] [] μ := .mk fun pos s I => wpAny_items_nil ⟨.refl I, .nil⟩
theorem Evs_cons {e : Expr} {es : List Expr} {d : D} {ds : List D} (h : Ev C ρ μ e d μ₁) (k : Evs C ρ μ₁ es ds μ₂) (he : ∀ env, starEach (e :: es) env = (false, eval e env) :: starEach es env := by intros; rfl) :
    Evs C ρ μ (e :: es) (d :: ds) μ₂ := .mk fun pos s I =>
  wpAny_items_cons (wpAny_mono (h.run s I) (fun v s₁ h₁ => wpAny_mono (k.run pos s₁ (I.step h₁.1)) (fun vs s₂ h₂ => ⟨h₁.1.trans h₂.1, .cons (h₁.2.stp h₂.1) h₂.2⟩) fun _ _ x => x) fun _ _ x => x) (he _)

theorem new_seq {p : Program} {w : World} {X : Addr → Prop} {s : Shared} {vs : List Value} {ds : List D} (low : Low X s) (r : Reps p w (vw s.heap X) vs ds) (T : String) :
    Grow Nil s { s with heap := s.heap.push { cls := .type T, data := .seq vs.toArray } } ∧
    (vw (s.heap.push { cls := .type T, data := .seq vs.toArray }) X) s.heap.objs.size { cls := .type T, data := .seq vs.toArray } ∧
    Reps p w (vw (s.heap.push { cls := .type T, data := .seq vs.toArray }) X) vs ds :=
  ⟨.ofPush s _ _, ⟨Heap.get?_push_size _ rfl, fun q => Nat.lt_irrefl _ (low _ q)⟩, r.gn (.ofPush s _ s.toks)⟩

theorem Ev_list {es : List Expr} {pos : Pos} {ds : List D} (h : Evs C ρ μ es ds μ₁) (hz : ds.length ≤ sizeLine := by decide) : Ev C ρ μ (.List es pos) (.lst ds) μ₁ := .mk fun s I =>
  wpAny_List (wpAny_mono (h.run pos s I) (fun vs s₁ h₁ => by
    obtain ⟨g, o, r⟩ := new_seq (I.step h₁.1).lt h₁.2 "list"
    exact ⟨by rw [h₁.2.length]; exact hz, h₁.1.more g, .lst o rfl rfl r⟩) fun _ _ x => x)
theorem Ev_tuple {es : List Expr} {k : Nat} {pos : Pos} {ds : List D} (h : Evs C ρ μ es ds μ₁) (hz : ds.length ≤ sizeLine := by decide) : Ev C ρ μ (.Tuple es k pos) (.tup ds) μ₁ := .mk fun s I =>
  wpAny_Tuple (wpAny_mono (h.run pos s I) (fun vs s₁ h₁ => by
    obtain ⟨g, o, r⟩ := new_seq (I.step h₁.1).lt h₁.2 "tuple"
    exact ⟨by rw [h₁.2.length]; exact hz, h₁.1.more g, .tup o rfl rfl r⟩) fun _ _ x => x)

/-- a call, its arguments at hand -/
def CallP (C : Cx) (f : Value) (as : List Arg) (μ : Mu) (d : D) (μ' : Mu) : Prop :=
  ∀ s vs ρ, FI C s ρ μ → ArgsAre C s.heap vs as → wpAny C.M C.A (call f vs) (fun v s' => Stp C s s' μ' ∧ Rep C.p C.w (vw s'.heap C.ex) v d) NoE s
/-- a call that changes nothing that stood -/
def CallD (p : Program) (w : World) (A : Around) (hb : Heap) (f : Value) (ds : List D) (d : D) : Prop :=
  ∀ X s vs, Rm A hb s → Low X s → Reps p w (vw s.heap X) vs ds → VOp p w A X s (call f vs) d

theorem Ev_call_def {x : Str} {np pos : Pos} {e : Expr} {es : List Expr} {as : List Arg} {a : Addr} {o : Obj} {fd : FuncData} {d : D} (g : GlobIs C.hb x (.ref a)) (ho : C.hb.get? a = some o) (hd : o.data = .func fd)
    (h : EvAs C ρ μ (e :: es) as μ₁) (k : CallP C (.ref a) as μ₁ d μ₂) (hx : C.env.kindOf x = some .globalImplicit := by rfl)
    (he : ∀ env, starEach (e :: es) env = (false, eval e env) :: starEach es env := by intros; rfl)
    (hdb : (x == ("__debug__" : Str)) = false := by decide) : Ev C ρ μ (.Call (.Name x np) (e :: es) [] pos) d μ₂ := .mk fun s I =>
  wpAny_Call_NameR (name_glob I g hx (callWith_def (o := o) hd (wpAny_mono (h.run pos s I) (fun vs s₁ h₁ =>
    ⟨(I.step h₁.1).hbk _ _ ho, wpAny_mono (k s₁ vs ρ (I.step h₁.1) h₁.2) (fun v s₂ h₂ => ⟨h₁.1.trans h₂.1, h₂.2⟩) fun _ _ x => x⟩) fun _ _ x => x) (he _)) hdb)

theorem Ev_call_bi {x : Str} {np pos : Pos} {e : Expr} {es : List Expr} {id : String} {ds : List D} {d : D} (g : BuiltIs C.hb x (.builtin id)) (h : Evs C ρ μ (e :: es) ds μ₁) (k : CallD C.p C.w C.A C.hb (.builtin id) ds d)
    (hx : C.env.kindOf x = some .globalImplicit := by rfl) (he : ∀ env, starEach (e :: es) env = (false, eval e env) :: starEach es env := by intros; rfl)
    (hpl : ∀ env, (backTo pos (starEach es env)).any (·.1) = false := by intros; rfl)
    (hdb : (x == ("__debug__" : Str)) = false := by decide) : Ev C ρ μ (.Call (.Name x np) (e :: es) [] pos) d μ₁ := .mk fun s I =>
  wpAny_Call_NameR (name_built I g hx (callWith_builtin1 (wpAny_mono (h.run pos s I) (fun vs s₁ h₁ =>
    wpAny_mono (k _ s₁ vs (I.step h₁.1).rm (I.step h₁.1).lt h₁.2) (fun v s₂ h₂ => ⟨h₁.1.more h₂.1, h₂.2⟩) fun _ _ x => x) fun _ _ x => x) (he _) (hpl _)) hdb)
theorem Ev_call_ty {x : Str} {np pos : Pos} {e : Expr} {es : List Expr} {id : String} {ds : List D} {d : D} (g : BuiltIs C.hb x (.type id)) (h : Evs C ρ μ (e :: es) ds μ₁) (k : CallD C.p C.w C.A C.hb (.type id) ds d)
    (hx : C.env.kindOf x = some .globalImplicit := by rfl) (he : ∀ env, starEach (e :: es) env = (false, eval e env) :: starEach es env := by intros; rfl)
    (hpl : ∀ env, (backTo pos (starEach es env)).any (·.1) = false := by intros; rfl)
    (hdb : (x == ("__debug__" : Str)) = false := by decide) : Ev C ρ μ (.Call (.Name x np) (e :: es) [] pos) d μ₁ := .mk fun s I =>
  wpAny_Call_NameR (name_built I g hx (PyProof.Rows.callWith_type1 (wpAny_mono (h.run pos s I) (fun vs s₁ h₁ =>
    wpAny_mono (k _ s₁ vs (I.step h₁.1).rm (I.step h₁.1).lt h₁.2) (fun v s₂ h₂ => ⟨h₁.1.more h₂.1, h₂.2⟩) fun _ _ x => x) fun _ _ x => x) (he _) (hpl _)) hdb)
end
end Mine
end

section
open PySem PySem.W PyProof.Rows PySem.Spec PySem.Calls
set_option linter.unusedVariables false
namespace Mine

/-- an iterator that hands on n values, under a loop's target -/
structure Wk (p : Program) (w : World) (A : Around) (target : Expr) (I : Addr) (fp wr : Addr → Prop) (n : Nat) (P : Nat → Value → Shared → Shared → Prop) (St : Nat → Heap → Prop) : Prop where
  sub : ∀ b, wr b → fp b
  frame : ∀ i h h', St i h → (∀ b, fp b → ∀ o, h.get? b = some o → h'.get? b = some o) → St i h'
  item : ∀ i (s : Shared), i < n → St i s.heap → wpAny (model p w) A (pyNext (.ref I)) (fun r s₁ => ∃ v, r = some v ∧
    wpAny (model p w) A (letOwnedTupleGo target (.ref I) v) (fun _ s₂ => Grow wr s s₂ ∧ St (i + 1) s₂.heap ∧ P i v s s₂) NoE s₁) NoE s
  done : ∀ (s : Shared), St n s.heap → wpAny (model p w) A (pyNext (.ref I)) (fun r s₁ => r = none ∧ Grow wr s s₁) NoE s
  self : ∀ i (s : Shared) (Q : Value → Shared → Prop) (E : Value → Shared → Prop), St i s.heap → Q (.ref I) s → wpAny (model p w) A (pyIter (.ref I)) Q E s

/-- a datum that may be walked over: its items -/
def ItrD (p : Program) (w : World) (A : Around) (hb : Heap) (target : Expr) (dI : D) (ds : List D) : Prop :=
  ∀ X s v, Rm A hb s → Low X s → Rep p w (vw s.heap X) v dI → wpAny (model p w) A (pyIter v) (fun it s₂ => Grow Nil s s₂ ∧ ∃ I fp wr n P St, it = .ref I ∧ n = ds.length ∧ Wk p w A target I fp wr n P St ∧ St 0 s₂.heap ∧
    (∀ b, fp b → b < s₂.heap.objs.size ∧ ¬ X b) ∧ (∀ b, wr b → s.heap.objs.size ≤ b) ∧
    ∀ i u s₃ s', i < n → P i u s₃ s' → ∀ Z, Low Z s₃ → (∀ a, Z a → X a ∨ s.heap.objs.size ≤ a) → Grow X s s' → ∃ d, ds[i]? = some d ∧ Rep p w (vw s'.heap Z) u d) NoE s

section
variable {p : Program} {w : World} {A : Around}
theorem Wk.ofWalks {x : Str} {px : Pos} {I : Addr} {fp wr : List Addr} {n : Nat} {P : Nat → Value → Prop} {St : Nat → Heap → Prop} (W : Walks p w A I fp wr n P St) :
    Wk p w A (.Name x px) I (fun b => b ∈ fp) (fun b => b ∈ wr) n (fun i v _ _ => P i v) St where
  sub := fun b h => W.sub b h
  frame := fun i h h' st k => W.frame i h h' st k
  item := fun i s hi st => by
    refine wpAny_mono (wpAny_size (W.item i s (fun r s₁ => ∃ v h' tk, r = some v ∧ s₁ = { s with heap := h', toks := tk } ∧ P i v ∧ St (i + 1) h' ∧ ∀ b o, b ∉ wr → s.heap.get? b = some o → h'.get? b = some o) NoE hi st
      (fun v h' tk hP hst hk => ⟨v, h', tk, rfl, rfl, hP, hst, hk⟩))) ?_ fun _ _ q => q.2
    rintro r s₁ ⟨hz, v, h', tk, rfl, rfl, hP, hst, hk⟩
    exact ⟨v, rfl, wpAny_pure ⟨.ofKeep s h' tk hk hz, hst, hP⟩⟩
  done := fun s st => by
    refine wpAny_mono (wpAny_size (W.done s (fun r s₁ => r = none ∧ ∃ h' tk, s₁ = { s with heap := h', toks := tk } ∧ ∀ b o, b ∉ wr → s.heap.get? b = some o → h'.get? b = some o) NoE st
      (fun h' tk hk => ⟨rfl, h', tk, rfl, hk⟩))) ?_ fun _ _ q => q.2
    rintro r s₁ ⟨hz, rfl, h', tk, rfl, hk⟩
    exact ⟨rfl, .ofKeep s h' tk hk hz⟩
  self := fun i s Q E st q => W.self i s Q E st q

theorem ItrD_list {hb : Heap} {x : Str} {px : Pos} {ds : List D} : ItrD p w A hb (.Name x px) (.lst ds) ds := by
  intro X s v rm low r
  cases r with
  | @lst a o vs n _ ho hc hd hr =>
    have hl : s.heap.IsList a vs.toArray := ⟨o, ho.1, hc, n, hd⟩
    have hlen : vs.toArray.size = ds.length := by rw [List.size_toArray]; exact hr.length
    refine wpAny_pyIter_list hl ⟨.ofPush s _ _, s.heap.objs.size, _, _, _, _, _, rfl, hlen, Wk.ofWalks (Walks.list rm.hh s.heap.objs.size a (Nat.ne_of_lt (Heap.lt_size ho.1)) vs.toArray), ?_, ?_, ?_, ?_⟩
    · exact ⟨⟨_, Heap.get?_push_size _ rfl, rfl, rfl⟩, hl.push _⟩
    · intro b hb
      simp at hb
      rcases hb with rfl | rfl
      · exact ⟨by simp, fun q => Nat.lt_irrefl _ (low _ q)⟩
      · exact ⟨Nat.lt_of_lt_of_le (Heap.lt_size ho.1) (by simp), ho.2⟩
    · intro b hb; simp at hb; rw [hb]; exact Nat.le_refl _
    · intro i u s₃ s' _ hu Z lz hz g
      obtain ⟨d, hd', rd⟩ := hr.get' (k := i) (v := u) (by simpa using hu)
      exact ⟨d, hd', rd.grow g (fun _ q => q) fun a q => (hz a q).imp id none_of_ge⟩


/-- the ints of a range by ones -/
def rangeD (a : Int) (n : Nat) : List D := (List.range n).map fun (i : Nat) => D.int (a + i)
theorem rangeD_len {a : Int} {n : Nat} : (rangeD a n).length = n := by simp [rangeD]
theorem rangeD_get {a : Int} {n i : Nat} (h : i < n) : (rangeD a n)[i]? = some (.int (a + i)) := by simp [rangeD, h]

theorem ItrD_range {hb : Heap} {x : Str} {px : Pos} {a b : Int} {n : Nat} (hn : n = (b - a).toNat) (hsm : Builtin.Range.small a b 1 = true) (hsz : Builtin.Range.rangeSize a b 1 = n) :
    ItrD p w A hb (.Name x px) (.rng a b 1) (rangeD a n) := by
  intro X s v rm low r
  cases r with
  | @rng y a b c t u v ho =>
    refine wpAny_pyIter_range ho.1 hsm ⟨.ofPush s _ _, s.heap.objs.size, _, _, _, _, _, rfl, (rangeD_len (a := a) (n := n)).symm, Wk.ofWalks (Walks.range rm.hh s.heap.objs.size a 1 n), ?_, ?_, ?_, ?_⟩
    · have : IsRangeIter (s.heap.push { cls := .type "range_iterator", data := .fields #[rawInt a, rawInt (Builtin.Range.rangeSize a b 1), rawInt 1] }) s.heap.objs.size a (Builtin.Range.rangeSize a b 1) 1 := Heap.get?_push_size _ rfl
      rw [hsz] at this ⊢
      simpa using this
    · intro b hb
      simp at hb
      rw [hb]
      exact ⟨by simp, fun q => Nat.lt_irrefl _ (low _ q)⟩
    · intro b hb; simp at hb; rw [hb]; exact Nat.le_refl _
    · rintro i u s₃ s' hi hu Z lz hz g
      obtain ⟨t, rfl⟩ := hu
      refine ⟨_, rangeD_get hi, ?_⟩
      rw [Int.mul_one]
      exact .int _ _
end
end Mine
end

section
open PySem PySem.W PyProof.Rows PySem.Spec PySem.Calls
set_option linter.unusedVariables false
namespace Mine

section
variable {M : Model} {A : Around} {E : Value → Shared → Prop} {s : Shared}
theorem cellsFrom_app : ∀ (names : List (Str × NameKind)) (n : Nat) (acc : List (Str × Addr)), cellsFrom n names acc = cellsFrom n names [] ++ acc
  | [], n, acc => rfl
  | (x, k) :: r, n, acc => by
    simp only [cellsFrom]
    split
    · rw [cellsFrom_app r (n + 1) ((x, n) :: acc), cellsFrom_app r (n + 1) [(x, n)], List.append_assoc]; rfl
    · exact cellsFrom_app r n acc

theorem new_comp_env {scope : Scope} {globals : Addr} {cl : List (Str × Addr)} {qual : Str} {func : Option Addr} {code : Value} {outer : Env} {builtins : Addr} {Q : Env → Shared → Prop}
    (hQ : Q (newEnv scope s.heap.objs.size globals (cellsFrom (s.heap.objs.size + 1) scope.names cl) qual func code (some outer) builtins) { s with heap := pushCells (s.heap.push { cls := .type "dict", data := .dict #[] }) scope.names }) :
    wpAny M A (newFunctionEnv scope globals cl [] qual func code (some outer) builtins) Q E s := by
  simp only [newFunctionEnv, Option.isSome_some, if_true]
  refine wpAny_bind (wpAny_alloc ?_)
  refine wpAny_bind (wpAny_layCells _ (fun name kind cells => rfl) scope.names cl _ _ ?_)
  simp only [List.forIn_nil]
  refine wpAny_bind (wpAny_pure (wpAny_pure ?_))
  have e : (s.heap.push { cls := .type "dict", data := .dict #[] }).objs.size = s.heap.objs.size + 1 := Heap.size_push ..
  rw [e]
  exact hQ
end

theorem pushCells_size : ∀ (names : List (Str × NameKind)) (h : Heap), h.objs.size ≤ (pushCells h names).objs.size
  | [], h => Nat.le_refl _
  | (x, k) :: r, h => by
    simp only [pushCells]
    split
    · exact Nat.le_trans (by simp) (pushCells_size r _)
    · exact pushCells_size r h

section
variable {p : Program} {w : World} {A : Around} {R : Result → Shared → Prop} {s : Shared}
theorem compTurn_my (elt target iter : Expr) (scope : Scope) (pos : Pos) (it acc : Value) (env : Env) :
    compTurn (.ListComp elt [⟨target, iter, [], 0⟩] scope pos) 0 it acc env = (standAt iter.pos >>= fun _ => pyNext it >>= fun r => match r with
      | none => pure (.done .next)
      | some v => letOwnedTupleGo target it v >>= fun _ => assign target env v >>= fun _ =>
        (eval elt env >>= fun x => call (.builtin "list.append") [acc, x] >>= fun _ => pure ()) >>= fun _ =>
          again (.compLoop (.ListComp elt [⟨target, iter, [], 0⟩] scope pos) 0 it acc env)) := by rfl

theorem compLoop_my {elt target iter : Expr} {scope : Scope} {pos : Pos} {it acc : Value} {env : Env} (I : Nat → Shared → Prop)
    (turn : ∀ n s, I n s → wpAny (model p w) A (pyNext it) (fun r s₁ => match r with
      | none => R (.ok .next) s₁
      | some v => wpAny (model p w) A (letOwnedTupleGo target it v) (fun _ s₂ => wpAny (model p w) A (assign target env v) (fun _ s₃ => wpAny (model p w) A (eval elt env) (fun x s₄ =>
          wpAny (model p w) A (call (.builtin "list.append") [acc, x]) (fun _ s₅ => ∃ m, m < n ∧ I m s₅) NoE s₄) NoE s₃) NoE s₂) NoE s₁) NoE s)
    (n : Nat) (h : I n s) : codeAny (model p w) A (.compLoop (.ListComp elt [⟨target, iter, [], 0⟩] scope pos) 0 it acc env) R s := by
  refine codeAny_loop rfl I (fun n s hI => ?_) n h
  show wpAny _ _ ((compTurn (.ListComp elt [⟨target, iter, [], 0⟩] scope pos) 0 it acc env).onRaise (fun x => do noteFrame x env; theTreesLotGoes x)) _ _ s
  refine wpAny_noted (wpAny_mono (E := NoE) ?_ (fun _ _ q => q) fun _ _ q => q.elim)
  rw [compTurn_my]
  refine wpAny_bind (wpAny_standAt (wpAny_bind (wpAny_mono (turn n s hI) (fun r s₁ h₁ => ?_) fun _ _ h' => h')))
  cases r with
  | none => exact wpAny_pure h₁
  | some v =>
    exact wpAny_bind (wpAny_mono h₁ (fun _ s₂ h₂ => wpAny_bind (wpAny_mono h₂ (fun _ s₃ h₃ => wpAny_bind (wpAny_bind (wpAny_mono h₃ (fun x s₄ h₄ => wpAny_bind (wpAny_mono h₄
      (fun _ s₅ h₅ => wpAny_pure (wpAny_pure ⟨rfl, h₅⟩)) fun _ _ h' => h')) fun _ _ h' => h'))) fun _ _ h' => h')) fun _ _ h' => h')
end

/-- what names an inner block sees of an outer one's -/
def seen (scope : Scope) (x : Str) : Bool := scope.names.lookup x == some NameKind.free
def capR {α : Type} (scope : Scope) (ρ : List (Str × α)) : List (Str × α) := ρ.filter fun xd => seen scope xd.1
theorem capR_lookup {α : Type} {scope : Scope} {x : Str} {d : α} : ∀ {ρ : List (Str × α)}, (capR scope ρ).lookup x = some d → ρ.lookup x = some d ∧ seen scope x = true
  | [], h => by simp [capR] at h
  | (y, e) :: r, h => by
    unfold capR at h
    rw [List.filter_cons] at h
    by_cases hy : seen scope y = true
    · rw [if_pos (by simpa using hy)] at h
      rw [List.lookup_cons] at h ⊢
      by_cases hxy : (x == y) = true
      · rw [hxy] at h ⊢
        exact ⟨h, by have := eq_of_beq hxy; rw [this]; exact hy⟩
      · simp only [hxy] at h ⊢
        exact capR_lookup h
    · rw [if_neg (by simpa using hy)] at h
      obtain ⟨h1, h2⟩ := capR_lookup (ρ := r) h
      refine ⟨?_, h2⟩
      rw [List.lookup_cons]
      by_cases hxy : (x == y) = true
      · exact absurd (by have := eq_of_beq hxy; rw [← this]; exact h2) hy
      · simp only [hxy]; exact h1

/-- the cells that an inner block is handed -/
def closL (names : List (Str × NameKind)) (cells : List (Str × Addr)) : List (Str × Addr) :=
  names.foldl (fun acc x => if x.2 == .free then (x.1, (cells.lookup x.1).getD 0) :: acc else acc) []

theorem closureFor_is {scope : Scope} {env : Env} (h : ∀ x ∈ scope.names, x.2 = .free → (env.cells.lookup x.1).isSome = true) : closureFor scope env = pure (closL scope.names env.cells) := by
  have go : ∀ (names : List (Str × NameKind)) (acc : List (Str × Addr)), (∀ x ∈ names, x.2 = .free → (env.cells.lookup x.1).isSome = true) →
      (forIn names acc (fun (x : Str × NameKind) (r : List (Str × Addr)) => (do
        if x.2 == .free then pure (ForInStep.yield ((x.1, ← cellOf env x.1) :: r)) else pure (ForInStep.yield r) : Sem _))) =
      (pure (names.foldl (fun acc x => if x.2 == .free then (x.1, (env.cells.lookup x.1).getD 0) :: acc else acc) acc) : Sem _) := by
    intro names
    induction names with
    | nil => intro acc _; rfl
    | cons x r ih =>
      intro acc hh
      rw [List.forIn_cons, List.foldl_cons]
      by_cases hk : x.2 = .free
      · have : (x.2 == NameKind.free) = true := by simp [hk]
        simp only [this, if_true]
        have hs := hh x List.mem_cons_self hk
        obtain ⟨c, hc⟩ := Option.isSome_iff_exists.mp hs
        have : cellOf env x.1 = pure c := by unfold cellOf; rw [hc]
        rw [this, hc]
        exact ih _ fun y hy => hh y (List.mem_cons_of_mem _ hy)
      · have : (x.2 == NameKind.free) = false := by simpa using hk
        simp only [this, Bool.false_eq_true, if_false]
        exact ih _ fun y hy => hh y (List.mem_cons_of_mem _ hy)
  have := go scope.names [] h
  unfold closureFor closL
  exact congrArg (fun (t : Sem (List (Str × Addr))) => t >>= fun s => pure s) this
end Mine
end

section
open PySem PySem.W PyProof.Rows PySem.Spec PySem.Calls
set_option linter.unusedVariables false
namespace Mine

/-- a name may be stored -/
def StoreOk (C : Cx) (x : Str) : Prop :=
  (C.env.kindOf x = some .local ∨ (C.env.kindOf x = some .cell ∧ ∃ c, C.env.cells.lookup x = some c ∧ C.fa c)) ∧ C.own.lookup x = none

def delR (x : Str) (ρ : Rho) : Rho := ρ.filter fun b => !(b.1 == x)
theorem delR_lookup {x y : Str} {d : D} : ∀ {ρ : Rho}, (delR x ρ).lookup y = some d → y ≠ x ∧ ρ.lookup y = some d
  | [], h => by simp [delR] at h
  | (z, e) :: r, h => by
    unfold delR at h
    rw [List.filter_cons] at h
    by_cases hz : (z == x) = true
    · rw [if_neg (by simp [hz])] at h
      obtain ⟨h1, h2⟩ := delR_lookup (ρ := r) h
      refine ⟨h1, ?_⟩
      rw [List.lookup_cons]
      have : (y == z) = false := beq_eq_false_iff_ne.mpr fun q => h1 (q.trans (eq_of_beq hz))
      simp only [this]; exact h2
    · rw [if_pos (by simp [hz])] at h
      rw [List.lookup_cons] at h ⊢
      by_cases hy : (y == z) = true
      · rw [hy] at h ⊢
        exact ⟨fun q => hz (by rw [← eq_of_beq hy, q]; exact beq_self_eq_true _), h⟩
      · simp only [hy] at h ⊢
        exact delR_lookup h
theorem delR_keeps {x y : Str} {d : D} (hne : y ≠ x) : ∀ {ρ : Rho}, ρ.lookup y = some d → (delR x ρ).lookup y = some d
  | [], h => by simp at h
  | (z, e) :: r, h => by
    unfold delR
    rw [List.filter_cons]
    rw [List.lookup_cons] at h
    by_cases hy : (y == z) = true
    · rw [hy] at h
      have : (z == x) = false := beq_eq_false_iff_ne.mpr fun q => hne ((eq_of_beq hy).trans q)
      rw [if_pos (by simp [this]), List.lookup_cons, hy]; exact h
    · simp only [hy] at h
      split
      · rw [List.lookup_cons]; simp only [hy]; exact delR_keeps hne h
      · exact delR_keeps hne h

theorem FI.addVar {C : Cx} {ρ : Rho} {μ : Mu} {s : Shared} {x : Str} {v : Value} {d : D} (I : FI C s (delR x ρ) μ) (hr : Reads C.env s.heap x v) (r : Rep C.p C.w (vw s.heap C.ex) v d) : FI C s ((x, d) :: ρ) μ :=
  ⟨I.ok, I.base, I.ns, I.cel, I.lt, fun y e h => by
    rw [List.lookup_cons] at h
    by_cases hy : (y == x) = true
    · rw [hy] at h; cases h
      have := eq_of_beq hy
      subst this
      exact ⟨v, hr, r⟩
    · simp only [hy] at h
      exact I.vars y e (delR_keeps (fun q => hy (by rw [q]; exact beq_self_eq_true _)) h), I.ownv, I.owns⟩

section
variable {C : Cx} {ρ : Rho} {μ μ₁ μ₂ : Mu} {s : Shared}

theorem store_raw {x : Str} {v : Value} (I : FI C s ρ μ) (ok : StoreOk C x) :
    wpAny C.M C.A (storeName C.env x v) (fun _ s' => Grow C.fa s s' ∧ FI C s' (delR x ρ) μ ∧ Reads C.env s'.heap x v ∧ ∀ y u, y ≠ x → Reads C.env s.heap y u → Reads C.env s'.heap y u) NoE s := by
  obtain ⟨k, hown⟩ := ok
  have hp : (C.env.scope.kind == .class || (C.env.scope.kind == .module && C.env.locals != C.env.globals)) = false := by rw [I.ok.kind]; rfl
  -- the change is at one address of the frame's
  have core : ∀ (b : Addr) (h' : Heap) (tk : Nat), C.fa b → Heap.SameBut b s.heap h' → (∃ m, h'.Ns C.env.locals m) → (∀ x c, (x, c) ∈ C.env.cells → ∃ v, h'.IsCell c v) → Reads C.env h' x v →
      (∀ y u, y ≠ x → Reads C.env s.heap y u → Reads C.env h' y u) →
      Grow C.fa s { s with heap := h', toks := tk } ∧ FI C { s with heap := h', toks := tk } (delR x ρ) μ ∧ Reads C.env h' x v ∧ ∀ y u, y ≠ x → Reads C.env s.heap y u → Reads C.env h' y u := by
    intro b h' tk hb hs hns hcel hr hother
    have g : Grow C.fa s { s with heap := h', toks := tk } := ⟨rfl, by rw [hs.1]; exact Nat.le_refl _, fun a o n e => (hs.2 a fun q => n (q ▸ hb)).trans e⟩
    have kp : ∀ a o, ¬ C.ex a → s.heap.get? a = some o → h'.get? a = some o := fun a o n e => (hs.2 a fun q => n (q ▸ .inr (.inl hb))).trans e
    refine ⟨g, ?_, hr, hother⟩
    refine ⟨I.ok, ?_, hns, hcel, fun a h => Nat.lt_of_lt_of_le (I.lt a h) g.size, ?_, ?_, ?_⟩
    · refine ⟨?_, Nat.le_trans I.base.size g.size, fun a o n e => g.keep a o (fun q => ?_) (I.base.keep a o n e)⟩
      · rw [g.same, I.base.same]
      · rcases I.ok.fge a q with h | h
        · exact absurd (Heap.lt_size e) (Nat.not_lt.mpr h)
        · exact n h
    · intro y e hy
      obtain ⟨h1, h2⟩ := delR_lookup hy
      obtain ⟨u, ru, q⟩ := I.vars y e h2
      exact ⟨u, hother y u h1 ru, q.at' kp fun a q => .inl q⟩
    · intro y a hy
      refine hother y _ (fun z => ?_) (I.ownv y a hy)
      rw [z, hown] at hy; cases hy
    · intro y o hy
      obtain ⟨a, h1, h2, h3⟩ := I.owns y o hy
      have ne : ∀ a, C.ox a → a ≠ b := fun a q z => I.ok.oxf a q (z ▸ hb)
      exact ⟨a, h1, h2.kept kp (fun o e => (hs.2 a (ne a (I.ok.ownox y a (mem_of_lookup h1)))).trans e) (fun cls dx ds q o e => (hs.2 dx (ne dx (h3 cls dx ds q))).trans e), h3⟩
  rcases k with k | ⟨k, c, hc, hcf⟩
  · obtain ⟨m, hm⟩ := I.ns
    refine wpAny_storeName_local k hm (fun h' hn hs => ?_) hp
    have nl : ∀ n c, (n, c) ∈ C.env.cells → c ≠ C.env.locals := fun n c h z => I.ok.loc n (z ▸ h)
    refine core C.env.locals h' _ I.ok.floc hs ⟨_, hn⟩ (fun y c h => ?_) (.inl ⟨k, _, hn, by simp⟩) fun y u hne hr => ?_
    · obtain ⟨u, hu⟩ := I.cel y c h
      exact ⟨u, hu.sameBut hs (nl y c h)⟩
    · rcases hr with ⟨k', m', hm', hv⟩ | ⟨k', c, hc, hv⟩
      · refine .inl ⟨k', _, hn, ?_⟩
        simp only [hne, if_false]
        obtain ⟨o1, es1, ep1, e1, d1, _, f1⟩ := hm
        obtain ⟨o2, es2, ep2, e2, d2, _, f2⟩ := hm'
        rw [e1] at e2; cases e2
        rw [d1] at d2; cases d2
        rw [← f1 y, f2 y]; exact hv
      · exact .inr ⟨k', c, hc, hv.sameBut hs (nl y c (mem_of_lookup hc))⟩
  · obtain ⟨v₀, hv₀⟩ := I.cel x c (mem_of_lookup hc)
    refine wpAny_storeName_cell I.ok.kind k hc hv₀ fun h' hn hs => ?_
    obtain ⟨m, hm⟩ := I.ns
    have nl : C.env.locals ≠ c := fun z => I.ok.loc x (z ▸ mem_of_lookup hc)
    have := core c h' s.toks hcf hs ⟨m, hm.sameBut hs nl⟩ (fun y c' h => ?_) (.inr ⟨.inl k, c, hc, hn⟩) fun y u hne hr => ?_
    · exact this
    · by_cases z : c' = c
      · exact ⟨_, z ▸ hn⟩
      · obtain ⟨u, hu⟩ := I.cel y c' h
        exact ⟨u, hu.sameBut hs z⟩
    · rcases hr with ⟨k', m', hm', hv⟩ | ⟨k', c', hc', hv⟩
      · exact .inl ⟨k', m', hm'.sameBut hs nl, hv⟩
      · exact .inr ⟨k', c', hc', hv.sameBut hs fun z => hne (I.ok.apart y x c (z ▸ hc') hc)⟩

theorem store_name {x : Str} {v : Value} {d : D} (I : FI C s ρ μ) (r : Rep C.p C.w (vw s.heap C.ex) v d) (ok : StoreOk C x) :
    wpAny C.M C.A (storeName C.env x v) (fun _ s' => Grow C.fa s s' ∧ FI C s' ((x, d) :: ρ) μ) NoE s :=
  wpAny_mono (store_raw I ok) (fun _ s' h => ⟨h.1, h.2.1.addVar h.2.2.1 (r.grow h.1 (fun _ q => .inr (.inl q)) fun _ q => .inl q)⟩) fun _ _ q => q

/-- a loop's target: a name, or two names for a pair -/
inductive Tgt : Expr → D → Rho → Prop
  | name {x : Str} {px : Pos} {d : D} : Tgt (.Name x px) d [(x, d)]
  | pair {x y : Str} {px py pos : Pos} {k : Nat} {d e : D} : Tgt (.Tuple [.Name x px, .Name y py] k pos) (.tup [d, e]) [(y, e), (x, d)]

theorem FI.growT {s' : Shared} (I : FI C s ρ μ) (g : Grow Nil s s') : FI C s' ρ μ := I.step (I.of g)

theorem assign_tgt {t : Expr} {v : Value} {d : D} {bs : Rho} (I : FI C s ρ μ) (r : Rep C.p C.w (vw s.heap C.ex) v d) (T : Tgt t d bs) (ok : ∀ b ∈ bs, StoreOk C b.1) :
    wpAny C.M C.A (assign t C.env v) (fun _ s' => Grow C.fa s s' ∧ FI C s' (bs ++ ρ) μ) NoE s := by
  cases T with
  | name => exact wpAny_assign_Name (store_name I r (ok _ (.head _)))
  | @pair x y px py pos k d e =>
    cases r with
    | @tup a o vs n _ ho hc hd hr =>
      cases hr with
      | @cons v₁ vs _ _ r₁ hr =>
        cases hr with
        | @cons v₂ vs _ _ r₂ hr =>
          cases hr
          have ht : s.heap.IsTuple a #[v₁, v₂] := ⟨o, ho.1, hc, n, hd⟩
          show wpAny C.M C.A (do standAt pos; unpack (.ref a) (assignEach [.Name x px, .Name y py] C.env)) _ _ s
          refine wpAny_bind (wpAny_standAt ?_)
          show wpAny C.M C.A (do assignInOrder [assign (.Name x px) C.env, assign (.Name y py) C.env] (← holding [.ref a] (unpackItems (.ref a) 2 none))) _ _ s
          have u : wpAny C.M C.A (unpackItems (.ref a) 2 none) (fun its s₁ => its = [v₁, v₂] ∧ ∃ h', s₁ = { s with heap := h' } ∧ Heap.ExtBut s.heap.objs.size s.heap h') NoE s :=
            wpAny_unpackItems_tuple (items := #[v₁, v₂]) I.ok.hh ht fun h' he => ⟨rfl, h', rfl, he⟩
          refine wpAny_bind (wpAny_holding (wpAny_mono (wpAny_size u) (fun its s₁ hq => ?_) fun _ _ q => q.2))
          obtain ⟨hz, e₁, h', e₂, he⟩ := hq
          subst e₁ e₂
          have g : Grow Nil s { s with heap := h' } := ⟨rfl, hz, fun b o _ e => he b o (Nat.ne_of_lt (Heap.lt_size e)) e⟩
          have I₁ := I.growT g
          refine wpAny_assignInOrder_more (wpAny_assign_Name (wpAny_mono (store_name I₁ (r₁.gn g) (ok _ (.tail _ (.head _)))) (fun _ s₂ h₂ => ?_) fun _ _ q => q))
          refine wpAny_assignInOrder_more (wpAny_assign_Name (wpAny_mono (store_name h₂.2 ((r₂.gn g).grow h₂.1 (fun _ q => .inr (.inl q)) fun _ q => .inl q) (ok _ (.head _))) (fun _ s₃ h₃ => ?_) fun _ _ q => q))
          exact wpAny_assignInOrder_none ⟨(g.weak fun _ q => q.elim).trans (h₂.1.trans h₃.1), h₃.2⟩
end
end Mine
end

section
open PySem PySem.W PyProof.Rows PySem.Spec PySem.Calls
set_option linter.unusedVariables false
namespace Mine

def IterAt (C : Cx) (target : Expr) (ds : List D) (sb : Shared) (it : Value) (s₂ : Shared) : Prop :=
  ∃ I fp wr n P St, it = .ref I ∧ n = ds.length ∧ Wk C.p C.w C.A target I fp wr n P St ∧ St 0 s₂.heap ∧ (∀ b, fp b → b < s₂.heap.objs.size ∧ ¬ C.ex b) ∧ (∀ b, wr b → sb.heap.objs.size ≤ b) ∧
    ∀ i u s₃ s', i < n → P i u s₃ s' → ∀ Z, Low Z s₃ → (∀ a, Z a → C.ex a ∨ sb.heap.objs.size ≤ a) → Grow C.ex sb s' → ∃ d, ds[i]? = some d ∧ Rep C.p C.w (vw s'.heap Z) u d

/-- an expression that is walked over -/
structure EvI (C : Cx) (ρ : Rho) (μ : Mu) (iter target : Expr) (ds : List D) (μ' : Mu) : Prop where
  run : ∀ s, FI C s ρ μ → wpAny C.M C.A (eval iter C.env) (fun v s₁ => wpAny C.M C.A (pyIter v) (fun it s₂ => ∃ sb, Stp C s sb μ' ∧ Grow Nil sb s₂ ∧ IterAt C target ds sb it s₂) NoE s₁) NoE s

section
variable {C : Cx} {ρ : Rho} {μ μ₁ μ₂ : Mu}
theorem EvI_of {iter target : Expr} {dI : D} {ds : List D} (h : Ev C ρ μ iter dI μ₁) (k : ItrD C.p C.w C.A C.hb target dI ds) : EvI C ρ μ iter target ds μ₁ := .mk fun s I =>
  wpAny_mono (h.run s I) (fun v s₁ h₁ => by
    have I₁ := I.step h₁.1
    refine wpAny_mono (k C.ex s₁ v I₁.rm I₁.lt h₁.2) (fun it s₂ h₂ => ⟨s₁, h₁.1, h₂.1, ?_⟩) fun _ _ x => x
    obtain ⟨_, I', fp, wr, n, P, St, e1, e2, W, st, f1, f2, f3⟩ := h₂
    exact ⟨I', fp, wr, n, P, St, e1, e2, W, st, f1, f2, f3⟩) fun _ _ x => x
end

/-- the environment of a comprehension -/
def compEnvX (scope : Scope) (L : Addr) (env : Env) : Env :=
  { scope := relabel scope env, locals := L, globals := env.globals, cells := cellsFrom (L + 1) scope.names (closL scope.names env.cells), qual := env.qual, func := none, code := env.code, frame := env.frame, builtins := env.builtins }

def cpFa (scope : Scope) (L : Addr) (a : Addr) : Prop := a = L ∨ ∃ n, (n, a) ∈ cellsFrom (L + 1) scope.names []

/-- the context of a comprehension -/
def cpCx (C : Cx) (scope : Scope) (L : Addr) (s0 : Shared) (X : Addr → Prop) : Cx :=
  { p := C.p, w := C.w, A := C.A, env := compEnvX scope L C.env, s0 := s0, mt := Nil, X := X, own := capR scope C.own, oa := Nil, ox := C.ox, fa := cpFa scope L, hb := C.hb }

structure CompOk (scope : Scope) (env : Env) : Prop where
  kind : scope.kind = .function
  nodup : (scope.names.map (·.1)).Nodup
  free : ∀ x ∈ scope.names, x.2 = .free → (env.cells.lookup x.1).isSome = true ∧ (env.kindOf x.1 = some .cell ∨ env.kindOf x.1 = some .free)

theorem lookup_of_mem {α : Type} : ∀ {l : List (Str × α)} {x : Str} {k : α}, (l.map (·.1)).Nodup → (x, k) ∈ l → l.lookup x = some k
  | [], _, _, _, h => by cases h
  | (y, e) :: r, x, k, hn, h => by
    rw [List.map_cons, List.nodup_cons] at hn
    rw [List.lookup_cons]
    rcases List.mem_cons.mp h with h | h
    · cases h; simp
    · have : ¬ x = y := fun q => hn.1 (q ▸ List.mem_map.mpr ⟨_, h, rfl⟩)
      simp only [beq_eq_false_iff_ne.mpr this]
      exact lookup_of_mem hn.2 h

theorem cellsFrom_mem : ∀ {names : List (Str × NameKind)} {n : Nat} {x : Str} {c : Nat}, (x, c) ∈ cellsFrom n names [] → (x, NameKind.cell) ∈ names ∧ n ≤ c ∧ c < n + names.length
  | [], _, _, _, h => by cases h
  | (y, k) :: r, n, x, c, h => by
    simp only [cellsFrom] at h
    by_cases hk : (k == .cell) = true
    · rw [if_pos hk, cellsFrom_app] at h
      have e : k = .cell := by simpa using hk
      subst e
      rcases List.mem_append.mp h with h | h
      · obtain ⟨a, b, d⟩ := cellsFrom_mem h
        exact ⟨.tail _ a, by lia, by simp only [List.length_cons]; lia⟩
      · rw [List.mem_singleton] at h
        cases h
        exact ⟨.head _, Nat.le_refl _, by simp⟩
    · rw [if_neg hk] at h
      obtain ⟨a, b, d⟩ := cellsFrom_mem h
      exact ⟨.tail _ a, b, by simp only [List.length_cons]; lia⟩

theorem cellsFrom_inj : ∀ {names : List (Str × NameKind)} {n : Nat} {x y : Str} {c : Nat}, (x, c) ∈ cellsFrom n names [] → (y, c) ∈ cellsFrom n names [] → x = y
  | [], _, _, _, _, h, _ => by cases h
  | (z, k) :: r, n, x, y, c, h, h' => by
    simp only [cellsFrom] at h h'
    by_cases hk : (k == .cell) = true
    · rw [if_pos hk, cellsFrom_app] at h h'
      rcases List.mem_append.mp h with h | h <;> rcases List.mem_append.mp h' with h' | h'
      · exact cellsFrom_inj h h'
      · rw [List.mem_singleton] at h'; cases h'
        have := (cellsFrom_mem h).2.1; lia
      · rw [List.mem_singleton] at h; cases h
        have := (cellsFrom_mem h').2.1; lia
      · rw [List.mem_singleton] at h h'; cases h; cases h'; rfl
    · rw [if_neg hk] at h h'
      exact cellsFrom_inj h h'

theorem closL_go (cells : List (Str × Addr)) : ∀ (names : List (Str × NameKind)) (acc : List (Str × Addr)) (x : Str) (c : Addr),
    (x, c) ∈ names.foldl (fun acc x => if x.2 == .free then (x.1, (cells.lookup x.1).getD 0) :: acc else acc) acc → ((x, NameKind.free) ∈ names ∧ c = (cells.lookup x).getD 0) ∨ (x, c) ∈ acc
  | [], acc, x, c, h => .inr h
  | (y, k) :: r, acc, x, c, h => by
    rw [List.foldl_cons] at h
    rcases closL_go cells r _ x c h with h | h
    · exact .inl ⟨.tail _ h.1, h.2⟩
    · by_cases hk : (k == .free) = true
      · rw [if_pos hk] at h
        rcases List.mem_cons.mp h with h | h
        · cases h
          have e : k = .free := by simpa using hk
          exact .inl ⟨e ▸ .head _, rfl⟩
        · exact .inr h
      · rw [if_neg hk] at h; exact .inr h
theorem closL_mem {names : List (Str × NameKind)} {cells : List (Str × Addr)} {x : Str} {c : Addr} (h : (x, c) ∈ closL names cells) : (x, NameKind.free) ∈ names ∧ c = (cells.lookup x).getD 0 := by
  rcases closL_go cells names [] x c h with h | h
  · exact h
  · cases h
theorem closL_has (cells : List (Str × Addr)) : ∀ (names : List (Str × NameKind)) (acc : List (Str × Addr)) (x : Str), ((x, NameKind.free) ∈ names ∨ ∃ c, (x, c) ∈ acc) →
    ∃ c, (x, c) ∈ names.foldl (fun acc x => if x.2 == .free then (x.1, (cells.lookup x.1).getD 0) :: acc else acc) acc
  | [], acc, x, h => by
    rcases h with h | h
    · cases h
    · exact h
  | (y, k) :: r, acc, x, h => by
    rw [List.foldl_cons]
    refine closL_has cells r _ x ?_
    rcases h with h | ⟨c, h⟩
    · rcases List.mem_cons.mp h with h | h
      · cases h; exact .inr ⟨_, by rw [if_pos (by rfl)]; exact .head _⟩
      · exact .inl h
    · refine .inr ⟨c, ?_⟩
      split
      · exact .tail _ h
      · exact h

theorem lookup_some_of_mem {α : Type} : ∀ {l : List (Str × α)} {x : Str} {c : α}, (x, c) ∈ l → ∃ d, l.lookup x = some d
  | (y, e) :: r, x, c, h => by
    rw [List.lookup_cons]
    by_cases q : (x == y) = true
    · rw [q]; exact ⟨_, rfl⟩
    · simp only [q]
      rcases List.mem_cons.mp h with h | h
      · cases h; simp at q
      · exact lookup_some_of_mem h
theorem lookup_none_of {α : Type} : ∀ {l : List (Str × α)} {x : Str}, (∀ c, (x, c) ∉ l) → l.lookup x = none
  | [], _, _ => rfl
  | (y, e) :: r, x, h => by
    rw [List.lookup_cons]
    by_cases q : (x == y) = true
    · have := eq_of_beq q; subst this; exact absurd (.head _) (h e)
    · simp only [q]; exact lookup_none_of fun c hc => h c (.tail _ hc)

theorem closL_lookup {names : List (Str × NameKind)} {cells : List (Str × Addr)} {x : Str} {c : Addr} (h : (x, NameKind.free) ∈ names) (hc : cells.lookup x = some c) : (closL names cells).lookup x = some c := by
  obtain ⟨c', h'⟩ := closL_has cells names [] x (.inl h)
  obtain ⟨d, hd⟩ := lookup_some_of_mem h'
  have hd' : (closL names cells).lookup x = some d := hd
  obtain ⟨_, e⟩ := closL_mem (mem_of_lookup hd')
  rw [hd', e, hc]; rfl

theorem seen_mem {scope : Scope} {x : Str} (h : seen scope x = true) : (x, NameKind.free) ∈ scope.names := mem_of_lookup (by simpa [seen] using h)

theorem lookup_ite {α : Type} {x n : Str} {a b : α} {l : List (Str × α)} (c : Bool) : List.lookup x ((if c = true then (n, a) else (n, b)) :: l) = if (x == n) = true then some (if c = true then a else b) else l.lookup x := by
  cases c <;> (simp only [if_true, Bool.false_eq_true, if_false, List.lookup_cons]; cases (x == n) <;> rfl)

theorem relabel_free {env : Env} {x : Str} (hk : env.scope.kind = .function) : ∀ {names : List (Str × NameKind)}, names.lookup x = some .free → (env.kindOf x = some .cell ∨ env.kindOf x = some .free) →
    (names.map fun (n, k) => if (k == NameKind.free && env.scope.kind == .function && env.kindOf n == some .cell) then (n, NameKind.cell) else (n, k)).lookup x = env.kindOf x
  | [], h, _ => by simp at h
  | (n, k) :: r, h, ho => by
    have ih := fun h => relabel_free (x := x) hk (names := r) h ho
    show List.lookup x ((if (k == NameKind.free && env.scope.kind == .function && env.kindOf n == some .cell) = true then (n, NameKind.cell) else (n, k)) :: _) = _
    rw [lookup_ite]
    rw [List.lookup_cons] at h
    by_cases q : (x == n) = true
    · have := eq_of_beq q; subst this
      rw [q] at h; cases h
      rw [if_pos q, hk]
      rcases ho with ho | ho
      · simp [ho]
      · simp [ho]
    · simp only [q] at h
      rw [if_neg q]; exact ih h

theorem relabel_other {env : Env} {x : Str} {k : NameKind} (hne : k ≠ .free) : ∀ {names : List (Str × NameKind)}, names.lookup x = some k →
    (names.map fun (n, k) => if (k == NameKind.free && env.scope.kind == .function && env.kindOf n == some .cell) then (n, NameKind.cell) else (n, k)).lookup x = some k
  | [], h => by simp at h
  | (n, j) :: r, h => by
    have ih := fun h => relabel_other (env := env) (x := x) hne (names := r) h
    show List.lookup x ((if (j == NameKind.free && env.scope.kind == .function && env.kindOf n == some .cell) = true then (n, NameKind.cell) else (n, j)) :: _) = _
    rw [lookup_ite]
    rw [List.lookup_cons] at h
    by_cases q : (x == n) = true
    · have := eq_of_beq q; subst this
      rw [q] at h; cases h
      have : (k == NameKind.free) = false := by simpa using hne
      rw [if_pos q]; simp [this]
    · simp only [q] at h
      rw [if_neg q]; exact ih h
end Mine
end

section
open PySem PySem.W PyProof.Rows PySem.Spec PySem.Calls
set_option linter.unusedVariables false
namespace Mine

theorem pushCells_at : ∀ (names : List (Str × NameKind)) (h : Heap) (x : Str) (c : Addr), (x, c) ∈ cellsFrom h.objs.size names [] → (pushCells h names).IsCell c none := fun names h x c hm =>
  ((cellsFrom_ok names h 0 [] ⟨(fun _ _ q => by cases q), .nil⟩ (Nat.zero_le _)).empty x c hm).1

section
variable {C : Cx} {ρ : Rho} {μ : Mu}

/-- the context of a comprehension holds when its block begins -/
theorem comp_enter {scope : Scope} {sb s₂ s₄ : Shared} {wr : Addr → Prop} (I : FI C sb ρ μ) (g : Grow Nil sb s₂) (hsc : CompOk scope C.env)
    (hwr : ∀ b, wr b → sb.heap.objs.size ≤ b ∧ b < s₂.heap.objs.size)
    (e4 : s₄ = { s₂ with heap := pushCells ((s₂.heap.push { cls := .type "list", data := .seq ([] : List Value).toArray }).push { cls := .type "dict", data := .dict #[] }) scope.names, toks := s₄.toks }) :
    FI (cpCx C scope (s₂.heap.objs.size + 1) sb (fun a => C.ex a ∨ wr a ∨ a = s₂.heap.objs.size)) s₄ (capR scope ρ) (capR scope μ) ∧ s₄.heap.PlainList s₂.heap.objs.size #[] ∧ Grow Nil s₂ s₄ := by
  have hL : ((s₂.heap.push { cls := .type "list", data := .seq ([] : List Value).toArray }).push { cls := .type "dict", data := .dict #[] }).objs.size = s₂.heap.objs.size + 2 := by simp [Heap.size_push]
  generalize hH : (s₂.heap.push { cls := .type "list", data := .seq ([] : List Value).toArray }).push { cls := .type "dict", data := .dict #[] } = H at e4 hL
  have e4' : s₄.heap = pushCells H scope.names := by rw [e4]
  have kH : ∀ a o, s₂.heap.get? a = some o → H.get? a = some o := fun a o e => hH ▸ Heap.get?_push_of_some _ (Heap.get?_push_of_some _ e)
  have kp : ∀ a o, H.get? a = some o → s₄.heap.get? a = some o := fun a o e => e4' ▸ pushCells_keeps _ _ _ _ e
  have g24 : Grow Nil s₂ s₄ := ⟨by rw [e4], by rw [e4']; have := pushCells_size scope.names H; lia, fun a o _ e => kp a o (kH a o e)⟩
  have gb : Grow Nil sb s₄ := g.trans g24
  have I₂ := I.growT g
  have low : ∀ (a : Nat), C.ex a → a < sb.heap.objs.size := I.lt
  have hwr' : ∀ (b : Nat), wr b → sb.heap.objs.size ≤ b ∧ b < s₂.heap.objs.size := hwr
  have szb : sb.heap.objs.size ≤ s₂.heap.objs.size := g.size
  have cellsLt : ∀ n (a : Nat), (n, a) ∈ C.env.cells → a < sb.heap.objs.size := fun n a h => I.celLt h
  have clo : ∀ n a, (n, a) ∈ closL scope.names C.env.cells → (n, a) ∈ C.env.cells ∧ (n, NameKind.free) ∈ scope.names := fun n a h => by
    obtain ⟨h1, h2⟩ := closL_mem h
    obtain ⟨h3, _⟩ := hsc.free _ h1 rfl
    obtain ⟨c, hc⟩ := Option.isSome_iff_exists.mp h3
    rw [hc] at h2
    exact ⟨by rw [h2]; exact mem_of_lookup hc, h1⟩
  have cells : ∀ n a, (n, a) ∈ (compEnvX scope (s₂.heap.objs.size + 1) C.env).cells → ((n, a) ∈ cellsFrom (s₂.heap.objs.size + 1 + 1) scope.names [] ∨ ((n, a) ∈ C.env.cells ∧ (n, NameKind.free) ∈ scope.names)) := fun n a h => by
    have h' : (n, a) ∈ cellsFrom (s₂.heap.objs.size + 1 + 1) scope.names (closL scope.names C.env.cells) := h
    rw [cellsFrom_app] at h'
    exact (List.mem_append.mp h').imp id (clo n a)
  have own1 : ∀ n (a : Nat), (n, a) ∈ cellsFrom (s₂.heap.objs.size + 1 + 1) scope.names [] → s₂.heap.objs.size + 2 ≤ a := fun n a h => (cellsFrom_mem h).2.1
  have ownCell : ∀ n a, (n, a) ∈ cellsFrom (s₂.heap.objs.size + 1 + 1) scope.names [] → s₄.heap.IsCell a none := fun n a h => by
    rw [e4']; exact pushCells_at _ _ n a (by rw [hL]; exact h)
  have fge : ∀ (a : Nat), cpFa scope (s₂.heap.objs.size + 1) a → s₂.heap.objs.size + 1 ≤ a := fun a h => by
    rcases h with rfl | ⟨n, h⟩
    · exact Nat.le_refl _
    · have := own1 n a h; lia
  have fLt : ∀ (a : Nat), cpFa scope (s₂.heap.objs.size + 1) a → a < s₄.heap.objs.size := fun a h => by
    rcases h with rfl | ⟨n, h⟩
    · have := pushCells_size scope.names H
      rw [e4']
      show s₂.heap.objs.size + 1 < _
      lia
    · exact (ownCell n a h).lt
  have frOld : ∀ x v, seen scope x = true → Reads C.env sb.heap x v → Reads (compEnvX scope (s₂.heap.objs.size + 1) C.env) s₄.heap x v := fun x v hs hr => by
    have hm := seen_mem hs
    obtain ⟨h1, h2⟩ := hsc.free _ hm rfl
    have hk : (compEnvX scope (s₂.heap.objs.size + 1) C.env).kindOf x = C.env.kindOf x := relabel_free I.ok.kind (by simpa [seen] using hs) h2
    rcases hr with ⟨k, _⟩ | ⟨k, c, hc, o, ho, hd⟩
    · rw [k] at h2; rcases h2 with h2 | h2 <;> cases h2
    · refine .inr ⟨by rw [hk]; exact k, c, ?_, o, gb.keep c o (fun q => q) ho, hd⟩
      show List.lookup x (cellsFrom (s₂.heap.objs.size + 1 + 1) scope.names (closL scope.names C.env.cells)) = some c
      rw [cellsFrom_app, List.lookup_append, lookup_none_of (fun c' h' => ?_), Option.none_or]
      · exact closL_lookup hm hc
      · have h3 := lookup_of_mem hsc.nodup (cellsFrom_mem h').1
        have h4 := lookup_of_mem hsc.nodup hm
        rw [h3] at h4; cases h4
  have hZ : ∀ a, (cpCx C scope (s₂.heap.objs.size + 1) sb (fun a => C.ex a ∨ wr a ∨ a = s₂.heap.objs.size)).ex a → C.ex a ∨ sb.heap.objs.size ≤ a := fun a h => by
    rcases h with (h | h | h) | h | h
    · exact .inl h
    · exact .inr (hwr a h).1
    · exact .inr (h ▸ szb)
    · have := fge a h; exact .inr (by lia)
    · exact h.elim
  refine ⟨⟨⟨hsc.kind, I.ok.hh, I.ok.gl, I.ok.bl, .inl rfl, fun _ _ q => q, fun a h => .inl ?_, fun _ q => q.elim, fun _ _ _ q => q, ?_, ?_, ?_, ?_, ?_, ?_, ?_, fun _ q => q.elim, I.ok.ohb⟩, gb, ?_, ?_, ?_, ?_, ?_, ?_⟩, ?_, g24⟩
  · have := fge a h
    show sb.heap.objs.size ≤ a
    lia
  · intro n a h
    rcases cells n a h with h | h
    · intro q
      have h1 := own1 n a h
      have h2 := low a ((I.ok.oxe a q).elim .inl fun z => .inr (.inr z))
      lia
    · exact I.ok.cnx n a h.1
  · intro x y c hx hy
    have hx' := cells x c (mem_of_lookup hx)
    have hy' := cells y c (mem_of_lookup hy)
    rcases hx' with hx' | hx' <;> rcases hy' with hy' | hy'
    · exact cellsFrom_inj hx' hy'
    · have h1 := own1 x c hx'
      have h2 := cellsLt y c hy'.1
      lia
    · have h1 := own1 y c hy'
      have h2 := cellsLt x c hx'.1
      lia
    · obtain ⟨c1, e1⟩ := Option.isSome_iff_exists.mp (hsc.free _ hx'.2 rfl).1
      obtain ⟨c2, e2⟩ := Option.isSome_iff_exists.mp (hsc.free _ hy'.2 rfl).1
      have f : ∀ z c', (z, NameKind.free) ∈ scope.names → (compEnvX scope (s₂.heap.objs.size + 1) C.env).cells.lookup z = some c → C.env.cells.lookup z = some c' → c' = c := fun z c' hz hl hc' => by
        have hl' : List.lookup z (cellsFrom (s₂.heap.objs.size + 1 + 1) scope.names (closL scope.names C.env.cells)) = some c := hl
        rw [cellsFrom_app, List.lookup_append, lookup_none_of (fun c'' h' => ?_), Option.none_or, closL_lookup hz hc'] at hl'
        · exact Option.some.inj hl'
        · have h3 := lookup_of_mem hsc.nodup (cellsFrom_mem h').1
          have h4 := lookup_of_mem hsc.nodup hz
          rw [h3] at h4; cases h4
      exact I.ok.apart x y c (f x c1 hx'.2 hx e1 ▸ e1) (f y c2 hy'.2 hy e2 ▸ e2)
  · intro n h
    rcases cells n _ h with h | h
    · have := own1 n _ h
      have e : (cpCx C scope (s₂.heap.objs.size + 1) sb (fun a => C.ex a ∨ wr a ∨ a = s₂.heap.objs.size)).env.locals = s₂.heap.objs.size + 1 := rfl
      have t2 : s₂.heap.objs.size + 2 ≤ s₂.heap.objs.size + 1 := this
      lia
    · have h2 := cellsLt n _ h.1
      have e : (cpCx C scope (s₂.heap.objs.size + 1) sb (fun a => C.ex a ∨ wr a ∨ a = s₂.heap.objs.size)).env.locals = s₂.heap.objs.size + 1 := rfl
      have t2 : s₂.heap.objs.size + 1 < sb.heap.objs.size := h2
      lia
  · intro x a h
    exact I.ok.ownox x a (List.mem_filter.mp h).1
  · intro a h
    exact .inl (.inl ((I.ok.oxe a h).elim .inl fun z => .inr (.inr z)))
  · intro a h q
    have h1 := fge a q
    have h2 := low a ((I.ok.oxe a h).elim .inl fun z => .inr (.inr z))
    lia
  · exact I.hbk
  · -- the names' dict
    refine ⟨fun _ => none, ?_⟩
    have h1 : (s₂.heap.push { cls := .type "list", data := .seq ([] : List Value).toArray }).objs.size = s₂.heap.objs.size + 1 := Heap.size_push ..
    have h2 := Heap.Ns.new (s₂.heap.push { cls := .type "list", data := .seq ([] : List Value).toArray }) (.type "dict")
    rw [h1] at h2
    exact (hH ▸ h2).keeps kp
  · intro x c h
    rcases cells x c h with h | h
    · exact ⟨none, ownCell x c h⟩
    · obtain ⟨v, o, e, r⟩ := I.cel x c h.1
      exact ⟨v, o, gb.keep c o (fun q => q) e, r⟩
  · intro a h
    rcases h with (h | h | h) | h | h
    · exact Nat.lt_of_lt_of_le (low a h) gb.size
    · exact Nat.lt_of_lt_of_le (hwr a h).2 g24.size
    · have := pushCells_size scope.names H
      rw [h, e4']
      show s₂.heap.objs.size < _
      lia
    · exact fLt a h
    · exact h.elim
  · intro x d h
    obtain ⟨h1, h2⟩ := capR_lookup h
    obtain ⟨v, hr, r⟩ := I.vars x d h1
    exact ⟨v, frOld x v h2 hr, r.grow gb (fun _ q => q.elim) fun a q => (hZ a q).imp id none_of_ge⟩
  · intro x a h
    obtain ⟨h1, h2⟩ := capR_lookup h
    exact frOld x _ h2 (I.ownv x a h1)
  · intro x o h
    obtain ⟨h1, h2⟩ := capR_lookup h
    obtain ⟨a, ha, r, q⟩ := I.owns x o h1
    refine ⟨a, ?_, ?_, q⟩
    · show List.lookup x (capR scope C.own) = some a
      have : ∀ {l : List (Str × Addr)}, l.lookup x = some a → (capR scope l).lookup x = some a := by
        intro l
        induction l with
        | nil => intro h; simp at h
        | cons y r ih =>
          intro h
          unfold capR
          rw [List.lookup_cons] at h
          rw [List.filter_cons]
          by_cases q : (x == y.1) = true
          · have e := eq_of_beq q
            rw [q] at h; cases h
            rw [if_pos (by rw [← e]; exact h2), List.lookup_cons, q]
          · simp only [q] at h
            split
            · rw [List.lookup_cons]; simp only [q]; exact ih h
            · exact ih h
      exact this ha
    · cases r with
      | lst k1 k2 => exact .lst (k1.at fun o e => gb.keep _ o (fun q => q) e) (k2.at' (fun a o _ e => gb.keep a o (fun q => q) e) fun a q => (hZ a q).imp id none_of_ge)
      | pls k1 k2 => exact .pls (k1.at fun o e => gb.keep _ o (fun q => q) e) (k2.at' (fun a o _ e => gb.keep a o (fun q => q) e) fun a q => (hZ a q).imp id none_of_ge)
      | dct k1 k2 k3 k4 k5 => exact .dct (gb.keep _ _ (fun q => q) k1) k2 k3 k4 (k5.at' (fun a o _ e => gb.keep a o (fun q => q) e) fun a q => (hZ a q).imp id none_of_ge)
      | acc k1 k2 k3 k4 => exact .acc (gb.keep _ _ (fun q => q) k1) (k2.at fun o e => gb.keep _ o (fun q => q) e) k3 (k4.at' (fun a o _ e => gb.keep a o (fun q => q) e) fun a q => (hZ a q).imp id none_of_ge)
  · refine ⟨_, kp _ _ (hH ▸ Heap.get?_push_of_some _ (Heap.get?_push_size _ rfl))⟩
end
end Mine
end

section
open PySem PySem.W PyProof.Rows PySem.Spec PySem.Calls
set_option linter.unusedVariables false
namespace Mine

theorem wkr_none {α β : Type} {xs : List α} {f : α → β} {i : Nat} {x : α} (h : xs[i]? = some x) : (xs.take (i + 1)).map f = (xs.take i).map f ++ [f x] := by
  rw [List.take_add_one, h]; simp

section
variable {C : Cx} {ρ : Rho} {μ : Mu}

theorem comp_core {α : Type} {elt iter target : Expr} {scope : Scope} {pos : Pos} (xs : List α) (g f : α → D) {sb s₂ : Shared} {it : Value} {RR : Value → Addr → Result → Shared → Prop} (bs : α → Rho)
    (I : FI C sb ρ μ) (gb : Grow Nil sb s₂) (hit : IterAt C target (xs.map g) sb it s₂) (hsc : CompOk scope C.env)
    (hT : ∀ x ∈ xs, Tgt target (g x) (bs x))
    (hS : ∀ L s0 X, ∀ x ∈ xs, ∀ b ∈ bs x, StoreOk (cpCx C scope L s0 X) b.1 ∧ seen scope b.1 = false)
    (hE : ∀ L s0 X, ∀ x ∈ xs, Ev (cpCx C scope L s0 X) (bs x ++ capR scope ρ) (capR scope μ) elt (f x) (capR scope μ))
    (hz : xs.length ≤ sizeLine)
    (hRR : ∀ D L s' (ys : List Value), Grow Nil sb s' → sb.heap.objs.size ≤ D → sb.heap.objs.size ≤ L → D ≠ L → (∃ m, s'.heap.Ns L m) → D < s'.heap.objs.size → s'.heap.IsList D ys.toArray → Reps C.p C.w (vw s'.heap (fun a => C.ex a ∨ a = L)) ys (xs.map f) → RR (.ref D) L (.ok .next) s') :
    wpAny C.M C.A (newList []) (fun acc s₃ => wpAny C.M C.A (newFunctionEnv scope C.env.globals (closL scope.names C.env.cells) [] C.env.qual none .none (some C.env)) (fun cenv s₄ =>
      codeAny C.M C.A (.compStart (.ListComp elt [⟨target, iter, [], 0⟩] scope pos) 0 it acc { cenv with scope := relabel scope C.env }) (RR acc cenv.locals) s₄) NoE s₃) NoE s₂ := by
  obtain ⟨J, fp, wr, n, P, St, rfl, hn, W, st0, hfp, hwr, hP⟩ := hit
  have hn' : n = xs.length := by rw [hn, List.length_map]
  refine wpAny_newObj_type (new_comp_env ?_)
  have hL : (s₂.heap.push { cls := .type "list", data := .seq ([] : List Value).toArray }).objs.size = s₂.heap.objs.size + 1 := Heap.size_push ..
  dsimp only
  rw [hL]
  generalize e4 : ({ s₂ with heap := pushCells ((s₂.heap.push { cls := .type "list", data := .seq ([] : List Value).toArray }).push { cls := .type "dict", data := .dict #[] }) scope.names } : Shared) = s₄
  obtain ⟨I₄, acc₄, g24⟩ := comp_enter (s₄ := s₄) (wr := wr) I gb hsc (fun b hb => ⟨hwr b hb, (hfp b (W.sub b hb)).1⟩) (by rw [← e4])
  show codeAny C.M C.A (.compStart _ 0 (.ref J) (.ref s₂.heap.objs.size) (compEnvX scope (s₂.heap.objs.size + 1) C.env)) (RR (.ref s₂.heap.objs.size) (s₂.heap.objs.size + 1)) s₄
  generalize hCc : cpCx C scope (s₂.heap.objs.size + 1) sb (fun a => C.ex a ∨ wr a ∨ a = s₂.heap.objs.size) = Cc at I₄
  have hp : Cc.p = C.p := by rw [← hCc]; rfl
  have hw : Cc.w = C.w := by rw [← hCc]; rfl
  have hA : Cc.A = C.A := by rw [← hCc]; rfl
  have henv : Cc.env = compEnvX scope (s₂.heap.objs.size + 1) C.env := by rw [← hCc]; rfl
  have hs0 : Cc.s0 = sb := by rw [← hCc]; rfl
  have hmt : ∀ a, ¬ Cc.mt a := by rw [← hCc]; exact fun a q => q
  have hoa : ∀ a, ¬ Cc.oa a := by rw [← hCc]; exact fun a q => q
  have hX : ∀ a, Cc.X a ↔ (C.ex a ∨ wr a ∨ a = s₂.heap.objs.size) := by rw [← hCc]; exact fun a => Iff.rfl
  have hfa : Cc.fa = cpFa scope (s₂.heap.objs.size + 1) := by rw [← hCc]; rfl
  have hox : Cc.ox = C.ox := by rw [← hCc]; rfl
  have szb : sb.heap.objs.size ≤ s₂.heap.objs.size := gb.size
  have low : ∀ (a : Nat), C.ex a → a < sb.heap.objs.size := I.lt
  have hwr' : ∀ (b : Nat), wr b → sb.heap.objs.size ≤ b ∧ b < s₂.heap.objs.size := fun b hb => ⟨hwr b hb, (hfp b (W.sub b hb)).1⟩
  have hfp' : ∀ (b : Nat), fp b → b < s₂.heap.objs.size ∧ ¬ C.ex b := hfp
  have fge : ∀ (a : Nat), Cc.fa a → s₂.heap.objs.size + 1 ≤ a := fun a h => by
    rw [hfa] at h
    rcases h with h | ⟨n, h⟩
    · exact Nat.le_of_eq h.symm
    · have := (cellsFrom_mem h).2.1; lia
  -- what lies outside of the block's frame
  have out : ∀ (a : Nat), sb.heap.objs.size ≤ a → a ≤ s₂.heap.objs.size → ¬ IsFr Cc.env a := fun a h1 h2 q => by
    rcases q with q | ⟨n, q⟩
    · rw [henv] at q
      have : a = s₂.heap.objs.size + 1 := q
      lia
    · rw [henv] at q
      have q' : (n, a) ∈ cellsFrom (s₂.heap.objs.size + 1 + 1) scope.names (closL scope.names C.env.cells) := q
      rw [cellsFrom_app] at q'
      rcases List.mem_append.mp q' with q' | q'
      · have := (cellsFrom_mem q').2.1; lia
      · obtain ⟨h1', h2'⟩ := closL_mem q'
        obtain ⟨c, hc⟩ := Option.isSome_iff_exists.mp (hsc.free _ h1' rfl).1
        rw [hc] at h2'
        have h3 : (n, c) ∈ C.env.cells := mem_of_lookup hc
        have h5 : a = c := h2'
        rw [← h5] at h3
        have h4 := I.celLt h3
        lia
  have hD : s₂.heap.objs.size < s₄.heap.objs.size := by obtain ⟨_, e⟩ := acc₄; exact Heap.lt_size e
  have Dox : ∀ (a : Nat), sb.heap.objs.size ≤ a → ¬ Cc.ox a := fun a h q => by
    rw [hox] at q
    have := low a ((I.ok.oxe a q).elim .inl fun z => .inr (.inr z))
    lia
  have hDf : ¬ fp s₂.heap.objs.size := fun q => Nat.lt_irrefl _ (hfp _ q).1
  have exZ : ∀ a, Cc.ex a → C.ex a ∨ sb.heap.objs.size ≤ a := fun a h => by
    rcases h with h | h | h
    · rcases (hX a).mp h with h | h | h
      · exact .inl h
      · exact .inr (hwr a h)
      · exact .inr (h ▸ szb)
    · have := fge a h
      exact .inr (Nat.le_trans szb (Nat.le_trans (Nat.le_succ _) this))
    · exact absurd h (hoa a)
  have exC : ∀ a, C.ex a → Cc.ex a := fun a h => .inl ((hX a).mpr (.inl h))
  have loop : codeAny C.M C.A (.compLoop (.ListComp elt [⟨target, iter, [], 0⟩] scope pos) 0 (.ref J) (.ref s₂.heap.objs.size) (compEnvX scope (s₂.heap.objs.size + 1) C.env)) (RR (.ref s₂.heap.objs.size) (s₂.heap.objs.size + 1)) s₄ := by
    refine compLoop_my (fun k s' => ∃ i ys, k = n + 1 - i ∧ i ≤ n ∧ St i s'.heap ∧ FI Cc s' (capR scope ρ) (capR scope μ) ∧ s'.heap.IsList s₂.heap.objs.size (ys : List Value).toArray ∧ Reps C.p C.w (vw s'.heap Cc.ex) ys ((xs.take i).map f)) ?_ (n + 1)
      ⟨0, [], rfl, Nat.zero_le _, W.frame 0 _ _ st0 (fun b hb o e => g24.keep b o (fun q => q) e), I₄, acc₄.isList, by rw [List.take_zero]; exact .nil⟩
    rintro k s' ⟨i, ys, rfl, hi, st, Ic, hl, hr⟩
    by_cases hlt : i < n
    · have hx : i < xs.length := hn' ▸ hlt
      refine wpAny_mono (W.item i s' hlt st) (fun r s₁ h₁ => ?_) fun _ _ q => q
      obtain ⟨v, rfl, h₁⟩ := h₁
      refine wpAny_mono h₁ (fun _ s₅ h₅ => ?_) fun _ _ q => q
      obtain ⟨gw, st₅, hp₅⟩ := h₅
      have I₅ : FI Cc s₅ (capR scope ρ) (capR scope μ) := Ic.touch gw (fun a q => (hX a).mpr (.inr (.inl q))) (fun a q => out a (hwr' a q).1 (Nat.le_of_lt (hwr' a q).2)) (fun a q => .inl (hs0 ▸ hwr a q)) (fun a q => Dox a (hwr' a q).1)
      obtain ⟨d, hd, rd⟩ := hP i v s' s₅ hlt hp₅ Cc.ex Ic.lt exZ (by
        have := I₅.base
        rw [hs0] at this
        exact this.weak fun a q => absurd q (hmt a))
      rw [List.getElem?_map, List.getElem?_eq_getElem hx] at hd
      have hd' : g xs[i] = d := by simpa using hd
      subst hd'
      have hmem := List.getElem_mem hx
      have l₅ : s₅.heap.IsList s₂.heap.objs.size ys.toArray := by
        obtain ⟨o, ho, r⟩ := hl
        exact ⟨o, gw.keep _ o (fun q => Nat.lt_irrefl _ (hwr' _ q).2) ho, r⟩
      have r₅ : Reps C.p C.w (vw s₅.heap Cc.ex) ys ((xs.take i).map f) := hr.mono fun a o ⟨e, z⟩ => ⟨gw.keep a o (fun q => z (.inl ((hX a).mpr (.inr (.inl q))))) e, z⟩
      have asg := assign_tgt (C := Cc) I₅ (by rw [hp, hw]; exact rd) (hT _ hmem) (fun b hb => by rw [← hCc]; exact (hS _ _ _ _ hmem b hb).1)
      rw [henv] at asg
      have hM : Cc.M = C.M := by unfold Cx.M; rw [hp, hw]
      rw [hM, hA] at asg
      refine wpAny_mono asg (fun _ s₆ h₆ => ?_) fun _ _ q => q
      obtain ⟨g₆, I₆⟩ := h₆
      have e₆ := hE (s₂.heap.objs.size + 1) sb (fun a => C.ex a ∨ wr a ∨ a = s₂.heap.objs.size) _ hmem
      rw [hCc] at e₆
      have w₆ := e₆.run s₆ I₆
      rw [hM, hA, henv, hp, hw] at w₆
      refine wpAny_mono w₆ (fun y s₇ h₇ => ?_) fun _ _ q => q
      obtain ⟨S₇, ry⟩ := h₇
      have I₇ := I₆.step S₇
      have g57 : ∀ a o, ¬ Cc.fa a → s₅.heap.get? a = some o → s₇.heap.get? a = some o := fun a o z e => S₇.grow.keep a o (hoa a) (g₆.keep a o z e)
      have l₇ : s₇.heap.IsList s₂.heap.objs.size ys.toArray := by
        obtain ⟨o, ho, r⟩ := l₅
        exact ⟨o, g57 _ o (fun q => by have := fge _ q; lia) ho, r⟩
      have r₇ : Reps C.p C.w (vw s₇.heap Cc.ex) ys ((xs.take i).map f) := r₅.mono fun a o ⟨e, z⟩ => ⟨g57 a o (fun q => z (.inr (.inl q))) e, z⟩
      have hys : ys.length = i := by rw [r₇.length, List.length_map, List.length_take]; lia
      refine wpAny_mono (wpAny_size (wpAny_list_append (Q := fun _ s₈ => ∃ h', s₈ = { s₇ with heap := h' } ∧ h'.IsList s₂.heap.objs.size (ys.toArray.push y) ∧ Heap.SameBut s₂.heap.objs.size s₇.heap h') l₇ (fun h' hl' hs' => ⟨h', rfl, hl', hs'⟩) (by rw [List.size_toArray, hys]; lia))) (fun _ s₈ h₈ => ?_) fun _ _ q => q.2
      obtain ⟨hz8, h', rfl, hl', hs'⟩ := h₈
      have g₈ : Grow (fun a => a = s₂.heap.objs.size) s₇ { s₇ with heap := h' } := ⟨rfl, hz8, fun a o z e => (hs'.2 a z).trans e⟩
      have I₈ : FI Cc { s₇ with heap := h' } (bs xs[i] ++ capR scope ρ) (capR scope μ) := I₇.touch g₈ (fun a q => (hX a).mpr (.inr (.inr q))) (fun a q => out a (q ▸ szb) (Nat.le_of_eq q)) (fun a q => .inl (hs0 ▸ q ▸ szb)) (fun a q => Dox a (q ▸ szb))
      refine ⟨n + 1 - (i + 1), by lia, i + 1, ys ++ [y], rfl, hlt, ?_, ?_, ?_, ?_⟩
      · refine W.frame _ _ _ st₅ fun (b : Nat) hb o e => ?_
        have hbf := hfp b hb
        have hb1 : ¬ Cc.fa b := fun q => by
          have h1 := fge b q
          have h2 := (hfp' b hb).1
          lia
        exact (hs'.2 b (fun q => hDf (q ▸ hb))).trans (g57 b o hb1 e)
      · refine I₈.sub fun x d hx' => ?_
        obtain ⟨_, hsn⟩ := capR_lookup hx'
        have : ∀ (l : Rho), (∀ b ∈ l, seen scope b.1 = false) → (l ++ capR scope ρ).lookup x = some d := by
          intro l
          induction l with
          | nil => intro _; exact hx'
          | cons b r ih =>
            intro hb
            rw [List.cons_append, List.lookup_cons]
            have : (x == b.1) = false := by
              refine beq_eq_false_iff_ne.mpr fun q => ?_
              have := hb b (.head _)
              rw [← q, hsn] at this; cases this
            simp only [this]
            exact ih fun c hc => hb c (.tail _ hc)
        exact this _ fun b hb => (hS 0 sb (fun _ => False) _ hmem b hb).2
      · have : (ys ++ [y]).toArray = ys.toArray.push y := by simp
        rw [this]; exact hl'
      · rw [wkr_none (List.getElem?_eq_getElem hx)]
        have k8 : ∀ a o, ¬ Cc.ex a → s₇.heap.get? a = some o → h'.get? a = some o := fun a o z e => (hs'.2 a (fun q => z (.inl ((hX a).mpr (.inr (.inr q)))))).trans e
        refine (r₇.mono fun a o ⟨e, z⟩ => ⟨k8 a o z e, z⟩).append (.cons (ry.mono fun a o ⟨e, z⟩ => ⟨k8 a o z e, z⟩) .nil)
    · have hin : i = n := by lia
      subst hin
      refine wpAny_mono (W.done s' st) (fun r s₁ h₁ => ?_) fun _ _ q => q
      obtain ⟨rfl, gw⟩ := h₁
      have I₁ : FI Cc s₁ (capR scope ρ) (capR scope μ) := Ic.touch gw (fun a q => (hX a).mpr (.inr (.inl q))) (fun a q => out a (hwr' a q).1 (Nat.le_of_lt (hwr' a q).2)) (fun a q => .inl (hs0 ▸ hwr a q)) (fun a q => Dox a (hwr' a q).1)
      have l₁ : s₁.heap.IsList s₂.heap.objs.size ys.toArray := by
        obtain ⟨o, ho, r⟩ := hl
        exact ⟨o, gw.keep _ o (fun q => Nat.lt_irrefl _ (hwr' _ q).2) ho, r⟩
      rw [hn', List.take_length] at hr
      have base := I₁.base
      rw [hs0] at base
      refine hRR s₂.heap.objs.size (s₂.heap.objs.size + 1) s₁ ys (base.weak fun a q => absurd q (hmt a)) szb (Nat.le_succ_of_le szb) (Nat.ne_of_lt (Nat.lt_succ_self _)) ?_ ?_ l₁ ?_
      · have := I₁.ns; rw [henv] at this; exact this
      · obtain ⟨o, ho, _⟩ := l₁; exact Heap.lt_size ho
      · refine hr.mono fun a o ⟨e, z⟩ => ⟨gw.keep a o (fun q => z (.inl ((hX a).mpr (.inr (.inl q))))) e, fun q => ?_⟩
        rcases q with q | q
        · exact z (exC a q)
        · exact z (.inr (.inl (by rw [hfa]; exact .inl q)))
  exact codeAny_compStart_list loop (W.self 0 _ _ _ (W.frame 0 _ _ st0 (fun b hb o e => g24.keep b o (fun q => q) e)) loop)
end
end Mine
end

section
open PySem PySem.W PyProof.Rows PySem.Spec PySem.Calls
set_option linter.unusedVariables false
namespace Mine

/-- the same context, more excluded -/
def wX (C : Cx) (X : Addr → Prop) : Cx := { C with X := X }

section
variable {C : Cx} {ρ : Rho} {μ μ₁ μ₂ : Mu}

theorem FI.addX {sb s' : Shared} {Y : Addr → Prop} (I : FI C sb ρ μ) (g : Grow Nil sb s') (hY : ∀ a, Y a → sb.heap.objs.size ≤ a ∧ a < s'.heap.objs.size) : FI (wX C fun a => C.X a ∨ Y a) s' ρ μ := by
  have I' := I.growT g
  have hZ : ∀ a, (wX C fun a => C.X a ∨ Y a).ex a → C.ex a ∨ sb.heap.get? a = none := fun a h => by
    rcases h with (h | h) | h | h
    · exact .inl (.inl h)
    · exact .inr (none_of_ge (hY a h).1)
    · exact .inl (.inr (.inl h))
    · exact .inl (.inr (.inr h))
  refine ⟨⟨I.ok.kind, I.ok.hh, I.ok.gl, I.ok.bl, I.ok.floc, I.ok.fo, I.ok.fge, I.ok.oge, I.ok.cno, I.ok.cnx, I.ok.apart, I.ok.loc, I.ok.ownox, fun a h => (I.ok.oxe a h).imp .inl id, I.ok.oxf, I.ok.hb0, I.ok.mhb, I.ok.ohb⟩,
    I'.base, I'.ns, I'.cel, ?_, ?_, I'.ownv, ?_⟩
  · intro a h
    rcases h with (h | h) | h | h
    · exact I'.lt a (.inl h)
    · exact (hY a h).2
    · exact I'.lt a (.inr (.inl h))
    · exact I'.lt a (.inr (.inr h))
  · intro x d h
    obtain ⟨v, r, q⟩ := I.vars x d h
    exact ⟨v, r.keeps fun a o f e => g.keep a o (fun q => q) e, q.grow g (fun _ q => q.elim) hZ⟩
  · intro x o h
    obtain ⟨a, h1, h2, h3⟩ := I.owns x o h
    refine ⟨a, h1, ?_, h3⟩
    cases h2 with
    | lst k1 k2 => exact .lst (k1.at fun o e => g.keep _ o (fun q => q) e) (k2.at' (fun a o _ e => g.keep a o (fun q => q) e) hZ)
    | pls k1 k2 => exact .pls (k1.at fun o e => g.keep _ o (fun q => q) e) (k2.at' (fun a o _ e => g.keep a o (fun q => q) e) hZ)
    | dct k1 k2 k3 k4 k5 => exact .dct (g.keep _ _ (fun q => q) k1) k2 k3 k4 (k5.at' (fun a o _ e => g.keep a o (fun q => q) e) hZ)
    | acc k1 k2 k3 k4 => exact .acc (g.keep _ _ (fun q => q) k1) (k2.at fun o e => g.keep _ o (fun q => q) e) k3 (k4.at' (fun a o _ e => g.keep a o (fun q => q) e) hZ)

theorem OwnRep.less {p : Program} {w : World} {X Z : Addr → Prop} {h : Heap} {a : Addr} {o : Own} (r : OwnRep p w h X a o) (hz : ∀ a, Z a → X a) : OwnRep p w h Z a o := by
  cases r with
  | lst k1 k2 => exact .lst k1 (k2.mono fun a o ⟨e, n⟩ => ⟨e, fun q => n (hz a q)⟩)
  | pls k1 k2 => exact .pls k1 (k2.mono fun a o ⟨e, n⟩ => ⟨e, fun q => n (hz a q)⟩)
  | dct k1 k2 k3 k4 k5 => exact .dct k1 k2 k3 k4 (k5.mono fun a o ⟨e, n⟩ => ⟨e, fun q => n (hz a q)⟩)
  | acc k1 k2 k3 k4 => exact .acc k1 k2 k3 (k4.mono fun a o ⟨e, n⟩ => ⟨e, fun q => n (hz a q)⟩)
theorem Rep.less {p : Program} {w : World} {X Z : Addr → Prop} {h : Heap} {v : Value} {d : D} (r : Rep p w (vw h X) v d) (hz : ∀ a, Z a → X a) : Rep p w (vw h Z) v d :=
  r.mono fun a o ⟨e, n⟩ => ⟨e, fun q => n (hz a q)⟩

theorem FI.dropX {s' : Shared} {X : Addr → Prop} (I : FI (wX C X) s' ρ μ) (ok : C.Ok) (hX : ∀ a, C.X a → X a) : FI C s' ρ μ := by
  have hZ : ∀ a, C.ex a → (wX C X).ex a := fun a h => by
    rcases h with h | h | h
    · exact .inl (hX a h)
    · exact .inr (.inl h)
    · exact .inr (.inr h)
  refine ⟨ok, I.base, I.ns, I.cel, fun a h => I.lt a (hZ a h), fun x d h => ?_, I.ownv, fun x o h => ?_⟩
  · obtain ⟨v, r, q⟩ := I.vars x d h
    exact ⟨v, r, q.less hZ⟩
  · obtain ⟨a, h1, h2, h3⟩ := I.owns x o h
    exact ⟨a, h1, h2.less hZ, h3⟩

theorem hnames_of {scope : Scope} (h : (scope.names.map (·.1)).Nodup) : ∀ x ∈ scope.names, x.2 = .local → scope.names.lookup x.1 = some .local := fun x hx e => by
  have := lookup_of_mem h (x := x.1) (k := x.2) hx
  rw [this, e]

theorem Ev_comp {α : Type} {elt iter target : Expr} {scope : Scope} {pos : Pos} (xs : List α) (g f : α → D) (bs : α → Rho)
    (hi : EvI C ρ μ iter target (xs.map g) μ) (hsc : CompOk scope C.env) (hT : ∀ x ∈ xs, Tgt target (g x) (bs x))
    (hS : ∀ L s0 X, ∀ x ∈ xs, ∀ b ∈ bs x, StoreOk (cpCx C scope L s0 X) b.1 ∧ seen scope b.1 = false)
    (hE : ∀ L s0 X, ∀ x ∈ xs, Ev (cpCx C scope L s0 X) (bs x ++ capR scope ρ) (capR scope μ) elt (f x) (capR scope μ))
    (hz : xs.length ≤ sizeLine) (hs : ∀ env x, foldedSetIterable iter env x = pure x := by intro _ _; rfl) :
    Ev C ρ μ (.ListComp elt [⟨target, iter, [], 0⟩] scope pos) (.lst (xs.map f)) μ := .mk fun s I => by
  rw [eval_ListComp]
  refine wpAny_comprehension_free (use := none) rfl (hs _) (closureFor_is fun x hx e => (hsc.free x hx e).1) hsc.kind (hnames_of hsc.nodup)
    (wpAny_mono (hi.run s I) (fun xv s₁ h₁ => wpAny_mono h₁ (fun it s₂ h₂ => ?_) fun _ _ e => e) fun _ _ e => e)
  obtain ⟨sb, S, gb, hit⟩ := h₂
  have Ib := I.step S
  refine comp_core xs g f bs Ib gb hit hsc hT hS hE hz ?_
  intro D L s' ys gg hD hL hDL hns hDs hl hr
  obtain ⟨m, hm⟩ := hns
  refine ⟨m, hm, fun h' hs' => ?_⟩
  have g' : Grow Nil sb { s' with heap := h' } := ⟨by rw [gg.same], by show _ ≤ h'.objs.size; rw [hs'.1]; exact gg.size, fun a o _ e => by
    refine (hs'.2 a fun q => ?_).trans (gg.keep a o (fun q => q) e)
    have := Heap.lt_size e
    rw [q] at this
    exact Nat.lt_irrefl _ (Nat.lt_of_lt_of_le this hL)⟩
  refine ⟨S.more g', ?_⟩
  obtain ⟨o, ho, hc, n, hd⟩ := hl
  exact .lst ⟨(hs'.2 D hDL).trans ho, fun q => Nat.lt_irrefl _ (Nat.lt_of_lt_of_le (Ib.lt D q) hD)⟩ hc hd (hr.mono fun a o ⟨e, z⟩ => ⟨(hs'.2 a fun q => z (.inr q)).trans e, fun q => z (.inl q)⟩)
end

section
variable {p : Program} {w : World} {A : Around} {R : Result → Shared → Prop}

theorem forLoop_my {target : Expr} {body : List Stmt} {it : Value} {env : Env} (I : Nat → Shared → Prop)
    (turn : ∀ n s, I n s → wpAny (model p w) A (pyNext it) (fun r s₁ => match r with
      | none => R (.ok .next) s₁
      | some v => wpAny (model p w) A (letOwnedTupleGo target it v) (fun _ s₂ => wpAny (model p w) A (assign target env v) (fun _ s₃ => wpAny (model p w) A (execs body env) (fun f s₄ => match f with
          | .next | .cont => ∃ m, m < n ∧ I m s₄
          | .brk => R (.ok .next) s₄
          | .ret v => R (.ok (.ret v)) s₄) NoE s₃) NoE s₂) NoE s₁) NoE s) :
    ∀ (n : Nat) (s : Shared), I n s → codeAny (model p w) A (.forLoop target it body [] env) R s := by
  intro n
  induction n using Nat.strongRecOn with
  | ind n ih =>
    intro s h
    refine codeAny_of_tree ?_
    show wpAny _ _ ((forTurn target it body [] env).onRaise (fun x => do noteFrame x env; theTreesLotGoes x)) _ _ s
    refine wpAny_noted (wpAny_mono (E := NoE) ?_ (fun _ _ q => q) fun _ _ q => q.elim)
    unfold forTurn
    refine wpAny_bind (wpAny_standAt (wpAny_bind (wpAny_onRaise (wpAny_mono (turn n s h) (fun r s₁ h₁ => ?_) fun _ _ q => q.elim))))
    cases r with
    | none =>
      refine wpAny_pure ⟨rfl, codeAny_of_tree ?_⟩
      show wpAny _ _ (do return Fin.done (← (execs [] env).onRaise (fun x => do noteFrame x env; theTreesLotGoes x))) _ _ s₁
      exact wpAny_bind (wpAny_onRaise (wpAny_execs_nil (wpAny_pure h₁)))
    | some v =>
      refine wpAny_bind (wpAny_mono h₁ (fun _ s₂ h₂ => wpAny_bind (wpAny_mono h₂ (fun _ s₃ h₃ => wpAny_bind (wpAny_mono h₃ (fun f s₄ h₄ => ?_) fun _ _ q => q)) fun _ _ q => q)) fun _ _ q => q)
      cases f with
      | next => obtain ⟨m, hm, hI⟩ := h₄; exact wpAny_pure ⟨rfl, ih m hm s₄ hI⟩
      | cont => obtain ⟨m, hm, hI⟩ := h₄; exact wpAny_pure ⟨rfl, ih m hm s₄ hI⟩
      | brk => exact wpAny_pure h₄
      | ret v => exact wpAny_pure h₄
end
end Mine
end

section
open PySem PySem.W PyProof.Rows PySem.Spec PySem.Calls
set_option linter.unusedVariables false
namespace Mine

section
variable {C : Cx} {ρ : Rho} {μ μ₁ μ₂ : Mu} {N : Shared → Prop} {R : Value → Shared → Prop} {rest : List Stmt}

theorem Grow.ofOa {s s' : Shared} (h : Grow C.oa s s') : Grow C.fo s s' := h.weak fun _ q => .inr q
theorem Grow.ofFa {s s' : Shared} (h : Grow C.fa s s') : Grow C.fo s s' := h.weak fun _ q => .inl q

theorem Ex_nil (h : ∀ s, FI C s ρ μ → N s) : Ex C ρ μ [] N R := .mk fun s I => wpAny_execs_nil ⟨.refl s, h s I⟩

/-- a statement that goes on -/
theorem Ex_cons {st : Stmt} (h : ∀ s, FI C s ρ μ → wpAny C.M C.A (exec st C.env) (fun f s' => Grow C.fo s s' ∧ match f with
    | .next => wpAny C.M C.A (execs rest C.env) (fun f s'' => Grow C.fo s' s'' ∧ Out N R f s'') NoE s'
    | f => Out N R f s') NoE s) : Ex C ρ μ (st :: rest) N R := .mk fun s I =>
  wpAny_execs_cons (wpAny_mono (h s I) (fun f s' h' => by
    cases f with
    | next => exact wpAny_mono h'.2 (fun f s'' q => ⟨h'.1.trans q.1, q.2⟩) fun _ _ x => x
    | brk => exact h'
    | cont => exact h'
    | ret v => exact h') fun _ _ x => x)

theorem Ex_ret {e : Expr} {pos : Pos} {d : D} (h : Ev C ρ μ e d μ₁) (hR : ∀ s v, FI C s ρ μ₁ → Rep C.p C.w (vw s.heap C.ex) v d → R v s) : Ex C ρ μ (.Return (some e) pos :: rest) N R :=
  Ex_cons fun s I => wpAny_Return_some (wpAny_mono (h.run s I) (fun v s' h' => ⟨h'.1.grow.ofOa, hR s' v (I.step h'.1) h'.2⟩) fun _ _ x => x)

theorem Ex_assign {x : Str} {px pos : Pos} {e : Expr} {d : D} (h : Ev C ρ μ e d μ₁) (ok : StoreOk C x) (k : Ex C ((x, d) :: ρ) μ₁ rest N R)
    (hs : swapsWith e (some (.Name x px)) pos.line C.env = pure false := by rfl) : Ex C ρ μ (.Assign [.Name x px] e pos :: rest) N R :=
  Ex_cons fun s I => wpAny_Assign_Name (wpAny_mono (h.run s I) (fun v s₁ h₁ => by
    have I₁ := I.step h₁.1
    exact wpAny_mono (store_name I₁ h₁.2 ok) (fun _ s₂ h₂ => ⟨h₁.1.grow.ofOa.trans h₂.1.ofFa, k.run s₂ h₂.2⟩) fun _ _ x => x) fun _ _ x => x) hs

theorem Ex_assign2 {x y : Str} {px py pos : Pos} {e : Expr} {d : D} (h : Ev C ρ μ e d μ₁) (okx : StoreOk C x) (oky : StoreOk C y) (k : Ex C ((y, d) :: (x, d) :: ρ) μ₁ rest N R)
    (hw : swappedStores [.Name x px, .Name y py] e C.env = pure none := by rfl) : Ex C ρ μ (.Assign [.Name x px, .Name y py] e pos :: rest) N R :=
  Ex_cons fun s I => wpAny_Assign_two (wpAny_mono (h.run s I) (fun v s₁ h₁ => by
    have I₁ := I.step h₁.1
    refine wpAny_assign_Name (wpAny_mono (store_name I₁ h₁.2 okx) (fun _ s₂ h₂ => ?_) fun _ _ x => x)
    refine wpAny_assign_Name (wpAny_mono (store_name h₂.2 (h₁.2.grow h₂.1 (fun _ q => .inr (.inl q)) fun _ q => .inl q) oky) (fun _ s₃ h₃ => ?_) fun _ _ x => x)
    exact ⟨h₁.1.grow.ofOa.trans (h₂.1.ofFa.trans h₃.1.ofFa), k.run s₃ h₃.2⟩) fun _ _ x => x) rfl hw

theorem Ex_aug {x : Str} {px pos : Pos} {e : Expr} {op : Operator} {d₀ d₁ d : D} (h0 : ρ.lookup x = some d₀) (h : Ev C ρ μ e d₁ μ₁) (b : InpD C.p C.w C.A C.hb op d₀ d₁ d) (ok : StoreOk C x)
    (k : Ex C ((x, d) :: ρ) μ₁ rest N R) (hn : (x == ("__classdict__" : Str)) = false := by decide) : Ex C ρ μ (.AugAssign (.Name x px) op e pos :: rest) N R :=
  Ex_cons fun s I => wpAny_AugAssign_Name (by
    obtain ⟨v, r, q⟩ := I.vars x d₀ h0
    refine loadName_reads r I.ok.kind ?_ hn
    refine wpAny_mono (h.run s I) (fun u s₁ h₁ => ?_) fun _ _ x => x
    have I₁ := I.step h₁.1
    refine wpAny_mono (b _ s₁ v u I₁.rm I₁.lt (q.stp h₁.1) h₁.2) (fun r s₂ h₂ => ?_) fun _ _ x => x
    have S₂ := h₁.1.more h₂.1
    exact wpAny_mono (store_name (I.step S₂) h₂.2 ok) (fun _ s₃ h₃ => ⟨S₂.grow.ofOa.trans h₃.1.ofFa, k.run s₃ h₃.2⟩) fun _ _ x => x)

theorem wp_execs_append (M : Model) (Γ : PySem.Ctx) (env : Env) (rest : List Stmt) (Q : Flow → Pos → Shared → Prop) (E : Value → Pos → Shared → Prop) : ∀ (l : List Stmt) (p : Pos) (s : Shared),
    Sem.wp M Γ (execs (l ++ rest) env) Q E p s = Sem.wp M Γ (execs l env) (fun f p' s' => Sem.wp M Γ (match f with | .next => execs rest env | f => pure f) Q E p' s') E p s
  | [], p, s => by rw [execs_nil, Sem.wp_pure', List.nil_append]
  | st :: l, p, s => by
    rw [List.cons_append, execs_cons, execs_cons, Sem.wp_bind', Sem.wp_bind']
    congr 1
    funext f p' s'
    cases f with
    | next => exact wp_execs_append M Γ env rest Q E l p' s'
    | brk => rw [Sem.wp_pure', Sem.wp_pure', Sem.wp_pure']
    | cont => rw [Sem.wp_pure', Sem.wp_pure', Sem.wp_pure']
    | ret v => rw [Sem.wp_pure', Sem.wp_pure', Sem.wp_pure']

theorem Ex_if {t : Expr} {a b : List Stmt} {pos : Pos} {c : Bool} (h : EvT C ρ μ t c μ₁) (k₁ : c = true → Ex C ρ μ₁ (a ++ rest) N R) (k₂ : c = false → Ex C ρ μ₁ (b ++ rest) N R) : Ex C ρ μ (.If t a b pos :: rest) N R := .mk fun s I Γ p hΓ => by
  rw [execs_cons, Sem.wp_bind', exec_If, Sem.wp_bind', Sem.wp_cmd_standAt, Sem.wp_bind']
  refine Sem.wp_mono _ _ _ (fun b' p₁ s₁ h₁ => ?_) (fun _ _ _ x => x) _ _ (h.run s I Γ _ hΓ)
  obtain ⟨S, e⟩ := h₁
  subst e
  have I₁ := I.step S
  have fin : ∀ l, Ex C ρ μ₁ (l ++ rest) N R → Sem.wp C.M Γ (execs l C.env) (fun f p' s' => Sem.wp C.M Γ (match f with | .next => execs rest C.env | f => pure f) (fun f _ s' => Grow C.fo s s' ∧ Out N R f s') (fun e _ s' => NoE e s') p' s') (fun e _ s' => NoE e s') p₁ s₁ := fun l k => by
    rw [← wp_execs_append]
    exact Sem.wp_mono _ _ _ (fun f _ s' q => ⟨S.grow.ofOa.trans q.1, q.2⟩) (fun _ _ _ x => x) _ _ (k.run s₁ I₁ Γ p₁ hΓ)
  cases b' with
  | true => exact fin a (k₁ rfl)
  | false => exact fin b (k₂ rfl)
theorem Ex_if_tt {t : Expr} {a b : List Stmt} {pos : Pos} (h : EvT C ρ μ t true μ₁) (k₁ : Ex C ρ μ₁ (a ++ rest) N R) : Ex C ρ μ (.If t a b pos :: rest) N R := Ex_if h (fun _ => k₁) fun q => nomatch q
theorem Ex_if_ff {t : Expr} {a b : List Stmt} {pos : Pos} (h : EvT C ρ μ t false μ₁) (k₂ : Ex C ρ μ₁ (b ++ rest) N R) : Ex C ρ μ (.If t a b pos :: rest) N R := Ex_if h (fun q => nomatch q) fun _ => k₂

theorem Ex_sub {ρ' : Rho} {ss : List Stmt} (h : Ex C ρ' μ ss N R) (hs : ∀ x d, ρ'.lookup x = some d → ρ.lookup x = some d) : Ex C ρ μ ss N R := .mk fun s I => h.run s (I.sub hs)

theorem Ex_for {α σ : Type} {target iter : Expr} {body : List Stmt} {pos : Pos} (xs : List α) (g : α → D) (bs : α → Rho) (P : Nat → σ → Prop) (ρf : σ → Rho) (μf : σ → Mu)
    (hi : EvI C ρ μ iter target (xs.map g) μ₁) (hT : ∀ x ∈ xs, Tgt target (g x) (bs x)) (hS : ∀ x ∈ xs, ∀ b ∈ bs x, StoreOk C b.1)
    (h0 : ∃ st, P 0 st ∧ (∀ x d, (ρf st).lookup x = some d → ρ.lookup x = some d) ∧ μf st = μ₁)
    (turn : ∀ X, (∀ a, C.X a → X a) → ∀ i x st, xs[i]? = some x → P i st → Ex (wX C X) (bs x ++ ρf st) (μf st) body (fun s => ∃ st', P (i + 1) st' ∧ FI (wX C X) s (ρf st') (μf st')) R)
    (done : ∀ st, P xs.length st → Ex C (ρf st) (μf st) rest N R) (hs : ∀ env x, foldedSetIterable iter env x = pure x := by intro _ _; rfl) :
    Ex C ρ μ (.For target iter body [] pos :: rest) N R := Ex_cons fun s I => by
  refine wpAny_For (wpAny_mono (hi.run s I) (fun xv s₁ h₁ => wpAny_mono h₁ (fun it s₂ h₂ => ?_) fun _ _ e => e) fun _ _ e => e) (hs _)
  obtain ⟨sb, S, gb, J, fp, wr, n, Q, St, rfl, hn, W, st0, hfp, hwr, hP⟩ := h₂
  have hn' : n = xs.length := by rw [hn, List.length_map]
  have Ib := I.step S
  obtain ⟨σ₀, p0, sub0, hμ0⟩ := h0
  have low : ∀ (a : Nat), C.ex a → a < sb.heap.objs.size := Ib.lt
  have szb : sb.heap.objs.size ≤ s₂.heap.objs.size := gb.size
  have hwr' : ∀ (b : Nat), wr b → sb.heap.objs.size ≤ b ∧ b < s₂.heap.objs.size := fun b hb => ⟨hwr b hb, (hfp b (W.sub b hb)).1⟩
  have I₂ : FI (wX C fun a => C.X a ∨ wr a) s₂ (ρf σ₀) (μf σ₀) := (hμ0 ▸ Ib.sub sub0).addX gb hwr'
  have notFr : ∀ (a : Nat), sb.heap.objs.size ≤ a → ¬ IsFr C.env a := fun a h q => by
    rcases q with q | ⟨n, q⟩
    · have := low a (q ▸ .inr (.inl Ib.ok.floc)); lia
    · have := Ib.celLt q; lia
  have notOx : ∀ (a : Nat), sb.heap.objs.size ≤ a → ¬ C.ox a := fun a h q => by
    have := low a ((Ib.ok.oxe a q).elim .inl fun z => .inr (.inr z)); lia
  have exZ : ∀ a, (wX C fun a => C.X a ∨ wr a).ex a → C.ex a ∨ sb.heap.objs.size ≤ a := fun a h => by
    rcases h with (h | h) | h | h
    · exact .inl (.inl h)
    · exact .inr (hwr a h)
    · exact .inl (.inr (.inl h))
    · exact .inl (.inr (.inr h))
  have foex : ∀ a, C.fo a → C.ex a := fun a h => h.elim (fun q => .inr (.inl q)) fun q => .inr (.inr q)
  have base0 : (C.s0.heap.objs.size : Nat) ≤ sb.heap.objs.size := Ib.base.size
  have loop := forLoop_my (p := C.p) (w := C.w) (A := C.A) (target := target) (body := body) (it := .ref J) (env := C.env)
    (R := fun r s' => match r with
      | .ok f => (Grow C.fo s s' ∧ (match f with
          | .next => wpAny C.M C.A (execs rest C.env) (fun f s'' => Grow C.fo s' s'' ∧ Out N R f s'') NoE s'
          | f => Out N R f s'))
      | .error e => cameBackBy C.M C.A C.env NoE e s')
    (fun k s' => ∃ i st, k = n + 1 - i ∧ i ≤ n ∧ St i s'.heap ∧ P i st ∧ FI (wX C fun a => C.X a ∨ wr a) s' (ρf st) (μf st) ∧ Grow C.fo sb s') ?_ (n + 1) s₂
    ⟨0, σ₀, rfl, Nat.zero_le _, st0, p0, I₂, gb.weak fun _ q => q.elim⟩
  · exact loop
  rintro k s' ⟨i, st, rfl, hi', hst, hp, I', gs⟩
  by_cases hlt : i < n
  · have hx : i < xs.length := hn' ▸ hlt
    refine wpAny_mono (W.item i s' hlt hst) (fun r s₃ h₃ => ?_) fun _ _ q => q
    obtain ⟨v, rfl, h₃⟩ := h₃
    refine wpAny_mono h₃ (fun _ s₄ h₄ => ?_) fun _ _ q => q
    obtain ⟨gw, st₄, hp₄⟩ := h₄
    have I₄ : FI (wX C fun a => C.X a ∨ wr a) s₄ (ρf st) (μf st) := I'.touch gw (fun a q => .inr q) (fun a q => notFr a (hwr' a q).1) (fun a q => .inl (Nat.le_trans base0 (hwr' a q).1)) (fun a q => notOx a (hwr' a q).1)
    have gs₄ : Grow C.fo sb s₄ := ⟨by rw [gw.same, gs.same], Nat.le_trans gs.size gw.size, fun a o z e => gw.keep a o (fun q => by
      have h1 := (hwr' a q).1
      have h2 : @LT.lt Nat _ a sb.heap.objs.size := Heap.lt_size e
      lia) (gs.keep a o z e)⟩
    obtain ⟨d, hd, rd⟩ := hP i v s' s₄ hlt hp₄ _ I'.lt exZ (gs₄.weak foex)
    rw [List.getElem?_map, List.getElem?_eq_getElem hx] at hd
    have hd' : g xs[i] = d := by simpa using hd
    subst hd'
    have hmem := List.getElem_mem hx
    have ok : ∀ b ∈ bs xs[i], StoreOk (wX C fun a => C.X a ∨ wr a) b.1 := fun b hb => hS _ hmem b hb
    have asg := assign_tgt (C := wX C fun a => C.X a ∨ wr a) I₄ rd (hT _ hmem) ok
    refine wpAny_mono asg (fun _ s₅ h₅ => ?_) fun _ _ q => q
    have tn := (turn (fun a => C.X a ∨ wr a) (fun _ q => .inl q) i _ st (List.getElem?_eq_getElem hx) hp).run s₅ h₅.2
    refine wpAny_mono tn (fun f s₆ h₆ => ?_) fun _ _ q => q
    have g45 : Grow C.fo s₄ s₅ := Grow.ofFa (C := C) h₅.1
    have g46 : Grow C.fo s₄ s₆ := g45.trans h₆.1
    have gs₆ : Grow C.fo sb s₆ := gs₄.trans g46
    have gS : Grow C.fo s s₆ := S.grow.ofOa.trans gs₆
    cases f with
    | next =>
      obtain ⟨st', p', I₆⟩ := h₆.2
      refine ⟨n + 1 - (i + 1), by lia, i + 1, st', rfl, hlt, ?_, p', I₆, gs₆⟩
      exact W.frame _ _ _ st₄ fun b hb o e => g46.keep b o (fun q => (hfp b hb).2 (foex b q)) e
    | brk => exact h₆.2.elim
    | cont => exact h₆.2.elim
    | ret v => exact ⟨gS, h₆.2⟩
  · have hin : i = n := by lia
    subst hin
    refine wpAny_mono (W.done s' hst) (fun r s₃ h₃ => ?_) fun _ _ q => q
    obtain ⟨rfl, gw⟩ := h₃
    have I₃ : FI (wX C fun a => C.X a ∨ wr a) s₃ (ρf st) (μf st) := I'.touch gw (fun a q => .inr q) (fun a q => notFr a (hwr' a q).1) (fun a q => .inl (Nat.le_trans base0 (hwr' a q).1)) (fun a q => notOx a (hwr' a q).1)
    have gs₃ : Grow C.fo sb s₃ := ⟨by rw [gw.same, gs.same], Nat.le_trans gs.size gw.size, fun a o z e => gw.keep a o (fun q => by
      have h1 := (hwr' a q).1
      have h2 : @LT.lt Nat _ a sb.heap.objs.size := Heap.lt_size e
      lia) (gs.keep a o z e)⟩
    exact ⟨S.grow.ofOa.trans gs₃, (done st (hn' ▸ hp)).run s₃ (I₃.dropX Ib.ok fun _ q => .inl q)⟩
end
end Mine
end

section
open PySem PySem.W PyProof.Rows PySem.Spec PySem.Calls
set_option linter.unusedVariables false
namespace Mine

section
variable {C : Cx} {ρ : Rho} {μ μ₁ μ₂ : Mu} {N : Shared → Prop} {R : Value → Shared → Prop} {rest : List Stmt}

theorem FI.notFr {sb : Shared} (I : FI C sb ρ μ) {a : Nat} (h : sb.heap.objs.size ≤ a) : ¬ IsFr C.env a := fun q => by
  have low : ∀ (a : Nat), C.ex a → a < sb.heap.objs.size := I.lt
  rcases q with q | ⟨n, q⟩
  · have := low a (q ▸ .inr (.inl I.ok.floc)); lia
  · have := I.celLt q; lia
theorem FI.notOx {sb : Shared} (I : FI C sb ρ μ) {a : Nat} (h : sb.heap.objs.size ≤ a) : ¬ C.ox a := fun q => by
  have low : ∀ (a : Nat), C.ex a → a < sb.heap.objs.size := I.lt
  have := low a ((I.ok.oxe a q).elim .inl fun z => .inr (.inr z)); lia
theorem FI.notEx {sb : Shared} (I : FI C sb ρ μ) {a : Nat} (h : sb.heap.objs.size ≤ a) : ¬ C.ex a := fun q => by
  have low : ∀ (a : Nat), C.ex a → a < sb.heap.objs.size := I.lt
  have := low a q; lia

theorem Ex_while {σ : Type} {test : Expr} {body : List Stmt} {pos : Pos} (P : σ → Prop) (meas : σ → Nat) (ρf : σ → Rho) (μf : σ → Mu)
    (h0 : ∃ st, P st ∧ (∀ x d, (ρf st).lookup x = some d → ρ.lookup x = some d) ∧ μf st = μ)
    (turn : ∀ st, P st → ∃ c, EvT C (ρf st) (μf st) test c (μf st) ∧ (c = true → Ex C (ρf st) (μf st) body (fun s => ∃ st', P st' ∧ meas st' < meas st ∧ FI C s (ρf st') (μf st')) R) ∧ (c = false → Ex C (ρf st) (μf st) rest N R)) :
    Ex C ρ μ (.While test body [] pos :: rest) N R := Ex_cons fun s I => by
  obtain ⟨σ₀, p0, sub0, rfl⟩ := h0
  refine wpAny_While (codeAny_whileLoop (R := fun r s' => match r with
      | .ok f => (Grow C.fo s s' ∧ (match f with
          | .next => wpAny C.M C.A (execs rest C.env) (fun f s'' => Grow C.fo s' s'' ∧ Out N R f s'') NoE s'
          | f => Out N R f s'))
      | .error e => cameBackBy C.M C.A C.env NoE e s') (fun k s' => ∃ st, P st ∧ meas st < k ∧ FI C s' (ρf st) (μf st) ∧ Grow C.fo s s') ?_ (meas σ₀ + 1) ⟨σ₀, p0, Nat.lt_succ_self _, I.sub sub0, .refl s⟩)
  rintro k s' ⟨st, hp, hm, I', gs⟩
  obtain ⟨c, ht, h1, h2⟩ := turn st hp
  refine wpAny_mono (ht.run s' I') (fun b s₁ hb => ?_) fun _ _ q => q.elim
  obtain ⟨S, rfl⟩ := hb
  have I₁ := I'.step S
  have gs₁ : Grow C.fo s s₁ := gs.trans S.grow.ofOa
  cases b with
  | true =>
    simp only [if_true]
    refine wpAny_mono ((h1 rfl).run s₁ I₁) (fun f s₂ h₂ => ?_) fun _ _ q => q.elim
    cases f with
    | next =>
      obtain ⟨st', p', m', I₂⟩ := h₂.2
      exact ⟨meas st' + 1, by lia, st', p', Nat.lt_succ_self _, I₂, gs₁.trans h₂.1⟩
    | brk => exact h₂.2.elim
    | cont => exact h₂.2.elim
    | ret v => exact ⟨gs₁.trans h₂.1, h₂.2⟩
  | false =>
    simp only [Bool.false_eq_true, if_false]
    exact wpAny_execs_nil ⟨gs₁, (h2 rfl).run s₁ I₁⟩

/-- a call for what it does alone -/
theorem Ex_expr {e : Expr} {pos : Pos} (h : Ev C ρ μ e .none μ₁) (k : Ex C ρ μ₁ rest N R) (hi : interactive C.env = false := by rfl) (hs : swapsWith e none pos.line C.env = pure false := by rfl) :
    Ex C ρ μ (.Expr e pos :: rest) N R := Ex_cons fun s I =>
  wpAny_Expr (wpAny_mono (h.run s I) (fun v s' h' => by
    obtain ⟨S, r⟩ := h'
    cases r
    exact ⟨S.grow.ofOa, k.run s' (I.step S)⟩) fun _ _ x => x) hi hs

theorem Ex_assign_comp {α : Type} {elt iter target : Expr} {scope : Scope} {y : Str} {py pos spos : Pos} (xs : List α) (g f : α → D) (bs : α → Rho)
    (hi : EvI C ρ μ iter target (xs.map g) μ) (hsc : CompOk scope C.env) (hT : ∀ x ∈ xs, Tgt target (g x) (bs x))
    (hS : ∀ L s0 X, ∀ x ∈ xs, ∀ b ∈ bs x, StoreOk (cpCx C scope L s0 X) b.1 ∧ seen scope b.1 = false)
    (hE : ∀ L s0 X, ∀ x ∈ xs, Ev (cpCx C scope L s0 X) (bs x ++ capR scope ρ) (capR scope μ) elt (f x) (capR scope μ))
    (hz : xs.length ≤ sizeLine) (ok : StoreOk C y) (k : Ex C ((y, .lst (xs.map f)) :: ρ) μ rest N R)
    (hsw : swapsWith (.ListComp elt [⟨target, iter, [], 0⟩] scope pos) (some (.Name y py)) spos.line C.env = pure true := by rfl)
    (hs : ∀ env x, foldedSetIterable iter env x = pure x := by intro _ _; rfl) :
    Ex C ρ μ (.Assign [.Name y py] (.ListComp elt [⟨target, iter, [], 0⟩] scope pos) spos :: rest) N R := Ex_cons fun s I => by
  rw [exec_Assign_Name_used _ _ _ _ hsw]
  refine wpAny_bind (wpAny_standAt (wpAny_bind ?_))
  show wpAny _ C.A (do let _ ← comprehension (.ListComp elt [⟨target, iter, [], 0⟩] scope pos) scope C.env _ (newList []) false (eval iter C.env) (some (assign (.Name y py) C.env))) _ _ s
  refine wpAny_bind (wpAny_mono (wpAny_comprehension_free (use := some (assign (.Name y py) C.env))
    (Q := fun _ s' => Grow C.fo s s' ∧ wpAny C.M C.A (execs rest C.env) (fun f s'' => Grow C.fo s' s'' ∧ Out N R f s'') NoE s') rfl (hs _) (closureFor_is fun x hx e => (hsc.free x hx e).1) hsc.kind (hnames_of hsc.nodup)
    (wpAny_mono (hi.run s I) (fun xv s₁ h₁ => wpAny_mono h₁ (fun it s₂ h₂ => ?_) fun _ _ e => e) fun _ _ e => e)) (fun _ s' hq => wpAny_pure (wpAny_pure hq)) fun _ _ e => e)
  obtain ⟨sb, S, gb, hit⟩ := h₂
  have Ib := I.step S
  refine comp_core xs g f bs Ib gb hit hsc hT hS hE hz ?_
  intro D L s' ys gg hD hL hDL hns hDs hl hr
  show wpAny C.M C.A (assign (.Name y py) C.env (.ref D)) _ _ s'
  obtain ⟨m, hm⟩ := hns
  have hLs : L < s'.heap.objs.size := hm.lt
  have I1 : FI (wX C fun a => C.X a ∨ a = L) s' ρ μ := Ib.addX gg fun a q => q ▸ ⟨hL, hLs⟩
  have nfaL : ¬ C.fa L := fun q => Ib.notEx hL (.inr (.inl q))
  obtain ⟨o, ho, hc, n, hd⟩ := hl
  have r1 : Rep C.p C.w (vw s'.heap (wX C fun a => C.X a ∨ a = L).ex) (.ref D) (.lst (xs.map f)) := by
    refine .lst ⟨ho, fun q => ?_⟩ hc hd (hr.mono fun a o ⟨e, z⟩ => ⟨e, fun q => ?_⟩)
    · rcases q with (q | q) | q | q
      · exact Ib.notEx hD (.inl q)
      · exact hDL q
      · exact Ib.notEx hD (.inr (.inl q))
      · exact Ib.notEx hD (.inr (.inr q))
    · rcases q with (q | q) | q | q
      · exact z (.inl (.inl q))
      · exact z (.inr q)
      · exact z (.inl (.inr (.inl q)))
      · exact z (.inl (.inr (.inr q)))
  have ok1 : StoreOk (wX C fun a => C.X a ∨ a = L) y := ok
  refine wpAny_assign_Name ?_
  have st := store_name I1 r1 ok1
  refine wpAny_mono st (fun _ s₃ h₃ => ?_) fun _ _ x => x
  obtain ⟨g₃, I₃⟩ := h₃
  refine ⟨m, hm.at' fun o e => g₃.keep _ o nfaL e, fun h' hs' => ?_⟩
  have g₄ : Grow (fun a => a = L) s₃ { s₃ with heap := h' } := ⟨rfl, by show _ ≤ h'.objs.size; rw [hs'.1]; exact Nat.le_refl _, fun a o z e => (hs'.2 a z).trans e⟩
  have I₄ := I₃.touch g₄ (fun a q => .inr q) (fun a q => by subst q; exact Ib.notFr hL) (fun a q => by subst q; exact .inl (Nat.le_trans Ib.base.size hL)) (fun a q => by subst q; exact Ib.notOx hL)
  have I₅ : FI C { s₃ with heap := h' } ((y, .lst (xs.map f)) :: ρ) μ := I₄.dropX Ib.ok fun _ q => .inl q
  refine ⟨?_, k.run _ I₅⟩
  refine S.grow.ofOa.trans ⟨by rw [g₃.same, gg.same], Nat.le_trans gg.size (Nat.le_trans g₃.size g₄.size), fun a o z e => ?_⟩
  exact g₄.keep a o (fun q => by
    have h1 : @LT.lt Nat _ a sb.heap.objs.size := Heap.lt_size e
    have h2 : @LE.le Nat _ sb.heap.objs.size L := hL
    have h3 : @Eq Nat a L := q
    lia) (g₃.keep a o (fun q => z (.inl q)) (gg.keep a o (fun q => q) e))

/-- storing in order -/
inductive Sts (C : Cx) : List (Value → Sem Unit) → List Str → Prop
  | nil : Sts C [] []
  | cons {t : Value → Sem Unit} {ts : List (Value → Sem Unit)} {x : Str} {xs : List Str} (h : ∀ (s : Shared) v (Q : Unit → Shared → Prop), wpAny C.M C.A (storeName C.env x v) Q NoE s → wpAny C.M C.A (t v) Q NoE s) (r : Sts C ts xs) : Sts C (t :: ts) (x :: xs)
theorem Sts.asg {x : Str} {px : Pos} {ts : List (Value → Sem Unit)} {xs : List Str} (r : Sts C ts xs) : Sts C (assign (.Name x px) C.env :: ts) (x :: xs) := .cons (fun s v Q h => wpAny_assign_Name h) r
theorem Sts.bnd {x : Str} {ts : List (Value → Sem Unit)} {xs : List Str} (r : Sts C ts xs) : Sts C (bindName C.env x :: ts) (x :: xs) := .cons (fun s v Q h => wpAny_bindName h) r

def zipR : List Str → List D → Rho → Rho
  | x :: xs, d :: ds, ρ => zipR xs ds ((x, d) :: ρ)
  | _, _, ρ => ρ
theorem stores_im : ∀ {ts : List (Value → Sem Unit)} {xs : List Str} {vs : List Value} {ds : List D} {ρ : Rho} {s : Shared}, Sts C ts xs → xs.length = vs.length → FI C s ρ μ → Reps C.p C.w (vw s.heap C.ex) vs ds → (∀ x ∈ xs, StoreOk C x) →
    wpAny C.M C.A (assignInOrder ts vs) (fun _ s' => Grow C.fa s s' ∧ FI C s' (zipR xs ds ρ) μ) NoE s
  | _, _, [], _, ρ, s, .nil, _, I, .nil, _ => wpAny_assignInOrder_none ⟨.refl s, I⟩
  | _, _, v :: vs, _, ρ, s, .cons h r, hl, I, .cons q qs, ok => by
    refine wpAny_assignInOrder_more (h _ _ _ (wpAny_mono (store_name I q (ok _ (.head _))) (fun _ s₁ h₁ => ?_) fun _ _ x => x))
    have qs' : Reps C.p C.w (vw s₁.heap C.ex) vs _ := qs.mono fun a o ⟨e, n⟩ => ⟨h₁.1.keep a o (fun q => n (.inr (.inl q))) e, n⟩
    exact wpAny_mono (stores_im r (by simpa using hl) h₁.2 qs' fun x hx => ok x (.tail _ hx)) (fun _ s₂ h₂ => ⟨h₁.1.trans h₂.1, h₂.2⟩) fun _ _ x => x
end
end Mine
end

section
open PySem PySem.W PyProof.Rows PySem.Spec PySem.Calls
set_option linter.unusedVariables false
namespace Mine

section
variable {C : Cx} {ρ : Rho} {μ μ₁ μ₂ : Mu} {N : Shared → Prop} {R : Value → Shared → Prop} {rest : List Stmt}

theorem unpack_items {s : Shared} {t : Addr} {vs : List Value} {n : Nat} (hh : C.A.handled = none) (hn : n = vs.length) (ht : s.heap.IsTuple t vs.toArray) :
    wpAny C.M C.A (unpackItems (.ref t) n none) (fun its s₁ => its = vs ∧ Grow Nil s s₁) NoE s := by
  subst hn
  have u : wpAny C.M C.A (unpackItems (.ref t) vs.toArray.size none) (fun its s₁ => its = vs ∧ ∃ h', s₁ = { s with heap := h' } ∧ Heap.ExtBut s.heap.objs.size s.heap h') NoE s :=
    wpAny_unpackItems_tuple hh ht fun h' he => ⟨rfl, h', rfl, he⟩
  rw [List.size_toArray] at u
  refine wpAny_mono (wpAny_size u) (fun its s₁ hq => ?_) fun _ _ q => q.2
  obtain ⟨hz, e₁, h', e₂, he⟩ := hq
  subst e₂
  exact ⟨e₁, rfl, hz, fun b o _ e => he b o (Nat.ne_of_lt (Heap.lt_size e)) e⟩

def nameOf : Expr → Option Str
  | .Name x _ => some x
  | _ => none
theorem nameOf_inv {e : Expr} {x : Str} (h : nameOf e = some x) : ∃ px, e = .Name x px := by
  cases e
  case Name y px => exact ⟨px, by rw [Option.some.inj h]⟩
  all_goals cases h
def namesE : List Expr → Option (List Str)
  | [] => some []
  | e :: r => (nameOf e).bind fun x => (namesE r).map (x :: ·)
theorem namesE_sts {ts : List Expr} : ∀ {xs : List Str}, namesE ts = some xs → Sts C ((assignEach ts C.env).map (·.2)) xs ∧ (assignEach ts C.env).findIdx? (·.1) = none ∧ (assignEach ts C.env).length = xs.length := by
  induction ts with
  | nil =>
    intro xs h
    cases h
    exact ⟨.nil, rfl, rfl⟩
  | cons e r ih =>
    intro xs h
    obtain ⟨x, hx, h⟩ := Option.bind_eq_some_iff.mp h
    obtain ⟨ys, h1, rfl⟩ := Option.map_eq_some_iff.mp h
    obtain ⟨px, rfl⟩ := nameOf_inv hx
    obtain ⟨a, b, c⟩ := ih h1
    have e : assignEach (.Name x px :: r) C.env = (false, assign (.Name x px) C.env) :: assignEach r C.env := rfl
    rw [e]
    refine ⟨.asg a, ?_, by rw [List.length_cons, List.length_cons, c]⟩
    rw [List.findIdx?_cons]
    simp [b]
theorem bnd_sts : ∀ (xs : List Str), Sts C (xs.map fun n => bindName C.env n) xs
  | [] => .nil
  | x :: xs => .bnd (bnd_sts xs)

theorem Rep.tup_inv {p : Program} {w : World} {X : Addr → Prop} {h : Heap} {v : Value} {ds : List D} (r : Rep p w (vw h X) v (.tup ds)) : ∃ a vs, v = .ref a ∧ h.IsTuple a (vs : List Value).toArray ∧ Reps p w (vw h X) vs ds := by
  cases r with
  | @tup a o vs n _ ho hc hd hr => exact ⟨a, vs, rfl, ⟨o, ho.1, hc, n, hd⟩, hr⟩

/-- names that take a pair's parts -/
theorem Ex_tup {ts : List Expr} {k : Nat} {tpos pos : Pos} {value : Expr} {ds : List D} {xs : List Str} (h : Ev C ρ μ value (.tup ds) μ₁) (hx : namesE ts = some xs) (hl : xs.length = ds.length) (ok : ∀ x ∈ xs, StoreOk C x)
    (kk : Ex C (zipR xs ds ρ) μ₁ rest N R) (hs : swapsWithSole [.Tuple ts k tpos] value pos.line C.env = pure false := by rfl) (hw : swappedStores [.Tuple ts k tpos] value C.env = pure none := by rfl) :
    Ex C ρ μ (.Assign [.Tuple ts k tpos] value pos :: rest) N R := Ex_cons fun s I =>
  Assign_Tuple (wpAny_mono (h.run s I) (fun v s₁ h₁ => by
    obtain ⟨S, r⟩ := h₁
    have I₁ := I.step S
    obtain ⟨a, vs, rfl, ht, hr⟩ := r.tup_inv
    obtain ⟨h1, h2, h3⟩ := namesE_sts (C := C) hx
    have hvl : xs.length = vs.length := by rw [hl, hr.length]
    show wpAny C.M C.A (do standAt tpos; unpack (.ref a) (assignEach ts C.env)) _ _ s₁
    refine wpAny_bind (wpAny_standAt ?_)
    unfold unpack
    rw [h2]
    refine wpAny_bind (wpAny_holding (wpAny_mono (unpack_items I.ok.hh (by rw [h3, hvl]) ht) (fun its s₂ h₂ => ?_) fun _ _ q => q))
    obtain ⟨rfl, g⟩ := h₂
    have I₂ := I₁.growT g
    exact wpAny_mono (stores_im h1 hvl I₂ (hr.gn g) ok) (fun _ s₃ h₃ => ⟨S.grow.ofOa.trans ((g.weak fun _ q => q.elim).trans h₃.1.ofFa), kk.run s₃ h₃.2⟩) fun _ _ q => q) fun _ _ q => q) hs hw

theorem Ex_tup_sw {ts : List Expr} {k : Nat} {tpos pos : Pos} {value : Expr} {ds : List D} {xs : List Str} (h : Ev C ρ μ value (.tup ds) μ₁) (hl : xs.length = ds.length) (ok : ∀ x ∈ xs, StoreOk C x)
    (kk : Ex C (zipR xs.reverse ds.reverse ρ) μ₁ rest N R) (hs : swapsWithSole [.Tuple ts k tpos] value pos.line C.env = pure false := by rfl)
    (hw : swappedStores [.Tuple ts k tpos] value C.env = pure (some xs) := by rfl) :
    Ex C ρ μ (.Assign [.Tuple ts k tpos] value pos :: rest) N R := Ex_cons fun s I =>
  Assign_Tuple_swapped (wpAny_mono (h.run s I) (fun v s₁ h₁ => by
    obtain ⟨S, r⟩ := h₁
    have I₁ := I.step S
    obtain ⟨a, vs, rfl, ht, hr⟩ := r.tup_inv
    have hvl : xs.length = vs.length := by rw [hl, hr.length]
    refine wpAny_mono (unpack_items I.ok.hh hvl ht) (fun its s₂ h₂ => ?_) fun _ _ q => q
    obtain ⟨rfl, g⟩ := h₂
    have I₂ := I₁.growT g
    have rr : ∀ {vs : List Value} {ds : List D}, Reps C.p C.w (vw s₂.heap C.ex) vs ds → Reps C.p C.w (vw s₂.heap C.ex) vs.reverse ds.reverse := by
      intro vs
      induction vs with
      | nil => intro ds h; cases h; exact .nil
      | cons v vs ih =>
        intro ds h
        cases h with
        | cons h r =>
          rw [List.reverse_cons, List.reverse_cons]
          exact (ih r).append (.cons h .nil)
    exact wpAny_mono (stores_im (bnd_sts xs.reverse) (by simpa using hvl) I₂ (rr (hr.gn g)) fun x hx => ok x (List.mem_reverse.mp hx)) (fun _ s₃ h₃ => ⟨S.grow.ofOa.trans ((g.weak fun _ q => q.elim).trans h₃.1.ofFa), kk.run s₃ h₃.2⟩) fun _ _ q => q) fun _ _ q => q) hs hw

/-- what a making statement makes -/
inductive RK where
  | fl (d : D)
  | ow (a : Addr) (o : Own)

def RK.adr : RK → List Addr
  | .fl _ => []
  | .ow a (.acc _ dx _) => [a, dx]
  | .ow a _ => [a]
def adrs (rs : List RK) : List Addr := rs.flatMap RK.adr

def RKIs (p : Program) (w : World) (h : Heap) (v : Value) : RK → Prop
  | .fl d => ∀ H, Rep p w H v d
  | .ow a o => v = .ref a ∧ ∀ X, OwnRep p w h X a o
inductive RKs (p : Program) (w : World) (h : Heap) : List Value → List RK → Prop
  | nil : RKs p w h [] []
  | cons {v : Value} {vs : List Value} {r : RK} {rs : List RK} : RKIs p w h v r → RKs p w h vs rs → RKs p w h (v :: vs) (r :: rs)

def delAll : List Str → Rho → Rho
  | [], ρ => ρ
  | x :: xs, ρ => delAll xs (delR x ρ)
theorem delAll_lookup {y : Str} {d : D} : ∀ {xs : List Str} {ρ : Rho}, (delAll xs ρ).lookup y = some d → y ∉ xs ∧ ρ.lookup y = some d
  | [], ρ, h => ⟨List.not_mem_nil, h⟩
  | x :: xs, ρ, h => by
    obtain ⟨h1, h2⟩ := delAll_lookup (xs := xs) h
    obtain ⟨h3, h4⟩ := delR_lookup h2
    exact ⟨fun q => (List.mem_cons.mp q).elim h3 h1, h4⟩

theorem stores_raw : ∀ {ts : List (Value → Sem Unit)} {xs : List Str} {vs : List Value} {ρ : Rho} {s : Shared}, Sts C ts xs → xs.length = vs.length → xs.Nodup → FI C s ρ μ → (∀ x ∈ xs, StoreOk C x) →
    wpAny C.M C.A (assignInOrder ts vs) (fun _ s' => Grow C.fa s s' ∧ FI C s' (delAll xs ρ) μ ∧ (∀ (i : Nat) (x : Str) (v : Value), xs[i]? = some x → vs[i]? = some v → Reads C.env s'.heap x v) ∧ ∀ y u, y ∉ xs → Reads C.env s.heap y u → Reads C.env s'.heap y u) NoE s
  | _, _, [], ρ, s, .nil, _, _, I, _ => wpAny_assignInOrder_none ⟨.refl s, I, by simp, fun _ _ _ r => r⟩
  | _, _, v :: vs, ρ, s, .cons (x := x) (xs := xs) h r, hl, hn, I, ok => by
    rw [List.nodup_cons] at hn
    refine wpAny_assignInOrder_more (h _ _ _ (wpAny_mono (store_raw (v := v) I (ok _ (.head _))) (fun _ s₁ h₁ => ?_) fun _ _ x => x))
    obtain ⟨g₁, I₁, r₁, o₁⟩ := h₁
    refine wpAny_mono (stores_raw r (by simpa using hl) hn.2 I₁ fun x hx => ok x (.tail _ hx)) (fun _ s₂ h₂ => ?_) fun _ _ x => x
    obtain ⟨g₂, I₂, r₂, o₂⟩ := h₂
    refine ⟨g₁.trans g₂, I₂, ?_, fun y u hy hr => ?_⟩
    · intro i y u hy hu
      cases i with
      | zero =>
        simp at hy hu
        subst hy hu
        exact o₂ _ _ hn.1 r₁
      | succ i => exact r₂ i y u (by simpa using hy) (by simpa using hu)
    · rw [List.mem_cons, not_or] at hy
      exact o₂ y u hy.2 (o₁ y u hy.1 hr)
end

def mkOwn : List Str → List RK → List (Str × Addr)
  | x :: xs, .ow a _ :: rs => (x, a) :: mkOwn xs rs
  | _ :: xs, _ :: rs => mkOwn xs rs
  | _, _ => []
def mkMu : List Str → List RK → Mu
  | x :: xs, .ow _ o :: rs => (x, o) :: mkMu xs rs
  | _ :: xs, _ :: rs => mkMu xs rs
  | _, _ => []
def mkFl : List Str → List RK → Rho
  | x :: xs, .fl d :: rs => (x, d) :: mkFl xs rs
  | _ :: xs, _ :: rs => mkFl xs rs
  | _, _ => []

def mkC (C : Cx) (xs : List Str) (rs : List RK) : Cx := { C with own := mkOwn xs rs ++ C.own, oa := fun b => C.oa b ∨ b ∈ adrs rs, ox := fun b => C.ox b ∨ b ∈ adrs rs }

theorem mkFl_lookup {p : Program} {w : World} {h : Heap} {x : Str} {d : D} : ∀ {xs : List Str} {vs : List Value} {rs : List RK}, RKs p w h vs rs → (mkFl xs rs).lookup x = some d → ∃ (i : Nat) (v : Value), xs[i]? = some x ∧ vs[i]? = some v ∧ ∀ H, Rep p w H v d
  | [], _, _, _, e => by simp [mkFl] at e
  | y :: xs, _, [], _, e => by simp [mkFl] at e
  | y :: xs, _, .fl d' :: rs, .cons (v := v) k r, e => by
    simp only [mkFl] at e
    rw [List.lookup_cons] at e
    by_cases q : (x == y) = true
    · rw [q] at e; cases e
      exact ⟨0, v, by rw [eq_of_beq q]; rfl, rfl, k⟩
    · simp only [q] at e
      obtain ⟨i, v, h1, h2, h3⟩ := mkFl_lookup r e
      exact ⟨i + 1, v, by simpa using h1, by simpa using h2, h3⟩
  | y :: xs, _, .ow a o :: rs, .cons k r, e => by
    simp only [mkFl] at e
    obtain ⟨i, v, h1, h2, h3⟩ := mkFl_lookup r e
    exact ⟨i + 1, v, by simpa using h1, by simpa using h2, h3⟩
theorem mkOwn_lookup {p : Program} {w : World} {h : Heap} {x : Str} {a : Addr} : ∀ {xs : List Str} {vs : List Value} {rs : List RK}, RKs p w h vs rs → (mkOwn xs rs).lookup x = some a → ∃ (i : Nat), xs[i]? = some x ∧ vs[i]? = some (.ref a)
  | [], _, _, _, e => by simp [mkOwn] at e
  | y :: xs, _, [], _, e => by simp [mkOwn] at e
  | y :: xs, _, .fl d' :: rs, .cons k r, e => by
    simp only [mkOwn] at e
    obtain ⟨i, h1, h2⟩ := mkOwn_lookup r e
    exact ⟨i + 1, by simpa using h1, by simpa using h2⟩
  | y :: xs, _, .ow b o :: rs, .cons k r, e => by
    simp only [mkOwn] at e
    rw [List.lookup_cons] at e
    by_cases q : (x == y) = true
    · rw [q] at e; cases e
      exact ⟨0, by rw [eq_of_beq q]; rfl, by rw [k.1]; rfl⟩
    · simp only [q] at e
      obtain ⟨i, h1, h2⟩ := mkOwn_lookup r e
      exact ⟨i + 1, by simpa using h1, by simpa using h2⟩
theorem mkMu_lookup {p : Program} {w : World} {h : Heap} {x : Str} {o : Own} : ∀ {xs : List Str} {vs : List Value} {rs : List RK}, RKs p w h vs rs → (mkMu xs rs).lookup x = some o →
    ∃ a, (mkOwn xs rs).lookup x = some a ∧ (∀ X, OwnRep p w h X a o) ∧ ∀ cls dx ds, o = .acc cls dx ds → dx ∈ adrs rs
  | [], _, _, _, e => by simp [mkMu] at e
  | y :: xs, _, [], _, e => by simp [mkMu] at e
  | y :: xs, _, .fl d' :: rs, .cons k r, e => by
    simp only [mkMu] at e
    obtain ⟨a, h1, h2, h3⟩ := mkMu_lookup r e
    exact ⟨a, h1, h2, fun cls dx ds q => by simpa [adrs, RK.adr] using h3 cls dx ds q⟩
  | y :: xs, _, .ow b o' :: rs, .cons k r, e => by
    simp only [mkMu] at e
    rw [List.lookup_cons] at e
    by_cases q : (x == y) = true
    · rw [q] at e; cases e
      refine ⟨b, by simp only [mkOwn]; rw [List.lookup_cons, q], k.2, fun cls dx ds q => ?_⟩
      subst q
      simp [adrs, RK.adr]
    · simp only [q] at e
      obtain ⟨a, h1, h2, h3⟩ := mkMu_lookup r e
      refine ⟨a, by simp only [mkOwn]; rw [List.lookup_cons]; simp only [q]; exact h1, h2, fun cls dx ds q => ?_⟩
      have := h3 cls dx ds q
      simp only [adrs, List.flatMap_cons, List.mem_append]
      exact .inr this
theorem mkOwn_mem {x : Str} {a : Addr} : ∀ {xs : List Str} {rs : List RK}, (x, a) ∈ mkOwn xs rs → x ∈ xs ∧ a ∈ adrs rs
  | [], _, e => by simp [mkOwn] at e
  | y :: xs, [], e => by simp [mkOwn] at e
  | y :: xs, .fl d' :: rs, e => by
    simp only [mkOwn] at e
    obtain ⟨h1, h2⟩ := mkOwn_mem e
    exact ⟨.tail _ h1, by simpa [adrs, RK.adr] using h2⟩
  | y :: xs, .ow b o :: rs, e => by
    simp only [mkOwn] at e
    simp only [adrs, List.flatMap_cons, List.mem_append]
    rcases List.mem_cons.mp e with e | e
    · cases e
      exact ⟨.head _, .inl (by cases o <;> simp [RK.adr])⟩
    · obtain ⟨h1, h2⟩ := mkOwn_mem e
      exact ⟨.tail _ h1, .inr h2⟩

section
variable {C : Cx} {ρ : Rho} {μ μ₁ μ₂ : Mu} {N : Shared → Prop} {R : Value → Shared → Prop} {rest : List Stmt}

theorem FI.made {xs : List Str} {rs : List RK} {vs : List Value} {s : Shared} (ok : C.Ok) (I : FI (wX C fun a => C.X a ∨ a ∈ adrs rs) s (delAll xs ρ) μ) (hr : RKs C.p C.w s.heap vs rs)
    (hreads : ∀ (i : Nat) (x : Str) (v : Value), xs[i]? = some x → vs[i]? = some v → Reads C.env s.heap x v) (hown : ∀ x ∈ xs, C.own.lookup x = none)
    (hge : ∀ a, a ∈ adrs rs → C.s0.heap.objs.size ≤ a) (hfa : ∀ a, a ∈ adrs rs → ¬ C.fa a) (hcl : ∀ n a, a ∈ adrs rs → (n, a) ∉ C.env.cells) :
    FI (mkC C xs rs) s (mkFl xs rs ++ delAll xs ρ) (mkMu xs rs ++ μ) := by
  have e1 : ∀ a, (mkC C xs rs).ex a → (wX C fun a => C.X a ∨ a ∈ adrs rs).ex a := fun a h => by
    rcases h with h | h | h | h
    · exact .inl (.inl h)
    · exact .inr (.inl h)
    · exact .inr (.inr h)
    · exact .inl (.inr h)
  refine ⟨⟨ok.kind, ok.hh, ok.gl, ok.bl, ok.floc, fun a h q => q.elim (ok.fo a h) fun q => hfa a q h, ok.fge, fun a h => h.elim (ok.oge a) fun q => .inl (hge a q), fun n a h q => q.elim (ok.cno n a h) fun q => hcl n a q h,
    fun n a h q => q.elim (ok.cnx n a h) fun q => hcl n a q h, ok.apart, ok.loc, fun x a h => ?_, fun a h => ?_, fun a h => h.elim (ok.oxf a) (hfa a), ok.hb0, ok.mhb, fun a h => h.elim (ok.ohb a) fun q => ?_⟩, I.base, I.ns, I.cel, fun a h => I.lt a (e1 a h), ?_, ?_, ?_⟩
  · rcases List.mem_append.mp h with h | h
    · exact .inr (mkOwn_mem h).2
    · exact .inl (ok.ownox x a h)
  · rcases h with h | h
    · exact (ok.oxe a h).imp id .inl
    · exact .inr (.inr h)
  · show C.hb.get? a = none
    cases e : C.hb.get? a with
    | none => rfl
    | some o => exact absurd (Heap.lt_size (ok.hb0 a o e)) (Nat.not_lt.mpr (hge a q))
  · intro x d h
    rw [List.lookup_append] at h
    cases hf : (mkFl xs rs).lookup x with
    | some d' =>
      rw [hf] at h; cases h
      obtain ⟨i, v, h1, h2, h3⟩ := mkFl_lookup hr hf
      exact ⟨v, hreads i x v h1 h2, h3 _⟩
    | none =>
      rw [hf, Option.none_or] at h
      obtain ⟨v, r, q⟩ := I.vars x d h
      exact ⟨v, r, q.less e1⟩
  · intro x a h
    have h' : (mkOwn xs rs ++ C.own).lookup x = some a := h
    rw [List.lookup_append] at h'
    cases hf : (mkOwn xs rs).lookup x with
    | some d' =>
      rw [hf] at h'; cases h'
      obtain ⟨i, h1, h2⟩ := mkOwn_lookup hr hf
      exact hreads i x _ h1 h2
    | none =>
      rw [hf, Option.none_or] at h'
      exact I.ownv x a h'
  · intro x o h
    rw [List.lookup_append] at h
    cases hf : (mkMu xs rs).lookup x with
    | some o' =>
      rw [hf] at h; cases h
      obtain ⟨a, h1, h2, h3⟩ := mkMu_lookup hr hf
      refine ⟨a, ?_, h2 _, fun cls dx ds q => .inr (h3 cls dx ds q)⟩
      show (mkOwn xs rs ++ C.own).lookup x = some a
      rw [List.lookup_append, h1]; rfl
    | none =>
      rw [hf, Option.none_or] at h
      obtain ⟨a, h1, h2, h3⟩ := I.owns x o h
      refine ⟨a, ?_, h2.less e1, fun cls dx ds q => .inl (h3 cls dx ds q)⟩
      show (mkOwn xs rs ++ C.own).lookup x = some a
      have h1' : C.own.lookup x = some a := h1
      rw [List.lookup_append, lookup_none_of (fun c hc => ?_), Option.none_or]
      · exact h1
      · have := hown x (mkOwn_mem hc).1
        rw [h1'] at this; cases this

theorem RKs.keeps {p : Program} {w : World} {h h' : Heap} {vs : List Value} {rs : List RK} (r : RKs p w h vs rs) (k : ∀ a, a ∈ adrs rs → ∀ o, h.get? a = some o → h'.get? a = some o) : RKs p w h' vs rs := by
  induction r with
  | nil => exact .nil
  | @cons v vs r rs hk hr ih =>
    refine .cons ?_ (ih fun a ha o e => k a (by simp only [adrs, List.flatMap_cons, List.mem_append]; exact .inr ha) o e)
    cases r with
    | fl d => exact hk
    | ow a o =>
      refine ⟨hk.1, fun X => ?_⟩
      have h1 : ∀ b, b ∈ RK.adr (.ow a o) → ∀ o, h.get? b = some o → h'.get? b = some o := fun b hb o e => k b (by simp only [adrs, List.flatMap_cons, List.mem_append]; exact .inl hb) o e
      -- the contents are in every view, the empty one too
      have h2 := hk.2 (fun _ => True)
      cases h2 with
      | lst k1 k2 => exact .lst (k1.at fun o e => h1 _ (by simp [RK.adr]) o e) (k2.mono fun a o ⟨_, n⟩ => absurd trivial n)
      | pls k1 k2 => exact .pls (k1.at fun o e => h1 _ (by simp [RK.adr]) o e) (k2.mono fun a o ⟨_, n⟩ => absurd trivial n)
      | dct k1 k2 k3 k4 k5 => exact .dct (h1 _ (by simp [RK.adr]) _ k1) k2 k3 k4 (k5.mono fun a o ⟨_, n⟩ => absurd trivial n)
      | acc k1 k2 k3 k4 => exact .acc (h1 _ (by simp [RK.adr]) _ k1) (k2.at fun o e => h1 _ (by simp [RK.adr]) o e) k3 (k4.mono fun a o ⟨_, n⟩ => absurd trivial n)

/-- a statement that makes objects of its own -/
structure Mks (C : Cx) (ρ : Rho) (μ : Mu) (es : List Expr) (Sh : List RK → Prop) : Prop where
  run : ∀ (pos : Pos) s, FI C s ρ μ → wpAny C.M C.A (spliced (backTo pos (starEach es C.env))) (fun vs s' => Grow Nil s s' ∧ ∃ rs, Sh rs ∧ RKs C.p C.w s'.heap vs rs ∧ (∀ a, a ∈ adrs rs → s.heap.objs.size ≤ a ∧ a < s'.heap.objs.size) ∧ (adrs rs).Nodup ∧ vs.length = rs.length) NoE s

theorem make_core {xs : List Str} {rs : List RK} {vs : List Value} {s s₃ : Shared} {ts : List (Value → Sem Unit)} {xs' : List Str} {vs' : List Value} (I : FI C s ρ μ) (g : Grow Nil s s₃) (hr : RKs C.p C.w s₃.heap vs rs)
    (ha : ∀ a, a ∈ adrs rs → s.heap.objs.size ≤ a ∧ a < s₃.heap.objs.size) (hsts : Sts C ts xs') (hl : xs'.length = vs'.length) (hn : xs'.Nodup) (ok : ∀ x ∈ xs', StoreOk C x) (hmem : ∀ x, x ∈ xs ↔ x ∈ xs')
    (hidx : ∀ (i : Nat) (x : Str) (v : Value), xs[i]? = some x → vs[i]? = some v → ∃ (j : Nat), xs'[j]? = some x ∧ vs'[j]? = some v)
    (k : Ex (mkC C xs rs) (mkFl xs rs ++ delAll xs ρ) (mkMu xs rs ++ μ) rest N R) :
    wpAny C.M C.A (assignInOrder ts vs') (fun _ s' => wpAny C.M C.A (execs rest C.env) (fun f s'' => Grow C.fo s s'' ∧ Out N R f s'') NoE s') NoE s₃ := by
  have I₁ : FI (wX C fun a => C.X a ∨ a ∈ adrs rs) s₃ ρ μ := I.addX g ha
  have sts1 : Sts (wX C fun a => C.X a ∨ a ∈ adrs rs) ts xs' := by
    clear hidx hmem ok hn hl
    induction hsts with
    | nil => exact .nil
    | cons h r ih => exact .cons h ih
  have ha' : ∀ (a : Nat), a ∈ adrs rs → s.heap.objs.size ≤ a ∧ a < s₃.heap.objs.size := ha
  have := stores_raw sts1 hl hn I₁ (fun x hx => ok x hx)
  refine wpAny_mono this (fun _ s₄ h₄ => ?_) fun _ _ q => q
  obtain ⟨g₄, I₄, r₄, o₄⟩ := h₄
  have nfa : ∀ a, a ∈ adrs rs → ¬ C.fa a := fun a h q => I.notEx (ha' a h).1 (.inr (.inl q))
  have ncl : ∀ n a, a ∈ adrs rs → (n, a) ∉ C.env.cells := fun n a h q => I.notFr (ha' a h).1 (.inr ⟨n, q⟩)
  have I₅ : FI (mkC C xs rs) s₄ (mkFl xs rs ++ delAll xs ρ) (mkMu xs rs ++ μ) := by
    refine FI.made I.ok (I₄.sub fun x d h => ?_) (hr.keeps fun a h o e => g₄.keep a o (nfa a h) e) (fun i x v h1 h2 => ?_) (fun x hx => (ok x ((hmem x).mp hx)).2) (fun a h => Nat.le_trans I.base.size (ha a h).1) nfa ncl
    · obtain ⟨h1, h2⟩ := delAll_lookup h
      have : ∀ {l : List Str} {ρ : Rho}, x ∉ l → ρ.lookup x = some d → (delAll l ρ).lookup x = some d := by
        intro l
        induction l with
        | nil => intro ρ _ h; exact h
        | cons y l ih =>
          intro ρ h1 h2
          rw [List.mem_cons, not_or] at h1
          exact ih h1.2 (delR_keeps h1.1 h2)
      exact this (fun q => h1 ((hmem x).mpr q)) h2
    · obtain ⟨j, h3, h4⟩ := hidx i x v h1 h2
      exact r₄ j x v h3 h4
  have g04 : Grow C.fo s s₄ := (g.weak fun _ q => q.elim).trans (Grow.ofFa (C := C) g₄)
  refine wpAny_mono (k.run s₄ I₅) (fun f s₅ h₅ => ⟨?_, h₅.2⟩) fun _ _ q => q
  refine ⟨by rw [h₅.1.same, g04.same], Nat.le_trans g04.size h₅.1.size, fun a o z e => h₅.1.keep a o (fun q => ?_) (g04.keep a o z e)⟩
  rcases q with q | q | q
  · exact z (.inl q)
  · exact z (.inr q)
  · have h1 := (ha' a q).1
    have h2 : @LT.lt Nat _ a s.heap.objs.size := Heap.lt_size e
    lia

theorem Ex_cons0 {st : Stmt} (h : ∀ s, FI C s ρ μ → wpAny C.M C.A (exec st C.env) (fun f s' => match f with
    | .next => wpAny C.M C.A (execs rest C.env) (fun f s'' => Grow C.fo s s'' ∧ Out N R f s'') NoE s'
    | f => Grow C.fo s s' ∧ Out N R f s') NoE s) : Ex C ρ μ (st :: rest) N R := .mk fun s I =>
  wpAny_execs_cons (wpAny_mono (h s I) (fun f s' h' => by cases f <;> exact h') fun _ _ x => x)

end
end Mine
end

section
open PySem PySem.W PyProof.Rows PySem.Spec PySem.Calls
set_option linter.unusedVariables false
namespace Mine

/-- the environment of a call -/
def fnEnv (fd : FuncData) (a L : Addr) : Env := newEnv fd.scope L fd.globals (cellsFrom (L + 1) fd.scope.names fd.closure) (fd.qualname ++ ".<locals>.") (some a) fd.code none fd.builtins
/-- the context of a call -/
def fnCx (p : Program) (w : World) (A : Around) (fd : FuncData) (a L : Addr) (s0 : Shared) (mt X : Addr → Prop) (own : List (Str × Addr)) (ox : Addr → Prop) (hb : Heap) : Cx :=
  { p := p, w := w, A := A.deeper (fnEnv fd a L), env := fnEnv fd a L, s0 := s0, mt := mt, X := X, own := own, oa := mt, ox := ox, fa := cpFa fd.scope L, hb := hb }

structure FdOk (fd : FuncData) (body : List Stmt) (h : Heap) : Prop where
  co : fd.scope.isCoroutine = false
  gen : fd.scope.isGenerator = false
  kind : fd.scope.kind = .function
  body : fd.body = .stmts body
  gl : fd.globals = mainGlobals
  bl : fd.builtins = builtinsNs
  code : h.CodeRec fd.code fd.qualname
  clc : ∀ n c, (n, c) ∈ fd.closure → ∃ v, h.IsCell c v
  cli : ∀ x y c, (x, c) ∈ fd.closure → (y, c) ∈ fd.closure → x = y

section
variable {M : Model} {A : Around} {s : Shared}
theorem new_fn_env {scope : Scope} {globals : Addr} {cl : List (Str × Addr)} {binds : List (Str × Value)} {qual : Str} {func : Option Addr} {code : Value} {builtins : Addr} {Q : Env → Shared → Prop}
    (hQ : wpAny M A (forIn binds PUnit.unit fun (x : Str × Value) (_ : PUnit) => (do storeName (newEnv scope s.heap.objs.size globals (cellsFrom (s.heap.objs.size + 1) scope.names cl) qual func code none builtins) x.1 x.2; pure (ForInStep.yield PUnit.unit) : Sem (ForInStep PUnit)))
      (fun _ s₁ => Q (newEnv scope s.heap.objs.size globals (cellsFrom (s.heap.objs.size + 1) scope.names cl) qual func code none builtins) s₁) NoE
      { s with heap := pushCells (s.heap.push { cls := .type "frame", data := .dict #[] }) scope.names }) :
    wpAny M A (newFunctionEnv scope globals cl binds qual func code none builtins) Q NoE s := by
  simp only [newFunctionEnv, Option.isSome_none, Bool.false_eq_true, if_false]
  refine wpAny_bind (wpAny_alloc ?_)
  refine wpAny_bind (wpAny_layCells _ (fun name kind cells => rfl) scope.names cl _ _ ?_)
  have e : (s.heap.push { cls := .type "frame", data := .dict #[] }).objs.size = s.heap.objs.size + 1 := Heap.size_push ..
  rw [e]
  exact wpAny_bind (wpAny_mono hQ (fun _ s₁ h₁ => wpAny_pure h₁) fun _ _ q => q)
end

section
variable {C : Cx} {ρ : Rho} {μ : Mu}
theorem stores_forIn : ∀ {xs : List Str} {vs : List Value} {ρ : Rho} {s : Shared}, xs.length = vs.length → xs.Nodup → FI C s ρ μ → (∀ x ∈ xs, StoreOk C x) →
    wpAny C.M C.A (forIn (xs.zip vs) PUnit.unit fun (x : Str × Value) (_ : PUnit) => (do storeName C.env x.1 x.2; pure (ForInStep.yield PUnit.unit) : Sem (ForInStep PUnit)))
      (fun _ s' => Grow C.fa s s' ∧ FI C s' (delAll xs ρ) μ ∧ (∀ (i : Nat) (x : Str) (v : Value), xs[i]? = some x → vs[i]? = some v → Reads C.env s'.heap x v) ∧ ∀ y u, y ∉ xs → Reads C.env s.heap y u → Reads C.env s'.heap y u) NoE s
  | [], vs, ρ, s, hl, _, I, _ => by
    rw [List.zip_nil_left, List.forIn_nil]
    exact wpAny_pure ⟨.refl s, I, by simp, fun _ _ _ r => r⟩
  | x :: xs, [], ρ, s, hl, _, I, _ => by simp at hl
  | x :: xs, v :: vs, ρ, s, hl, hn, I, ok => by
    rw [List.nodup_cons] at hn
    rw [List.zip_cons_cons, List.forIn_cons]
    refine wpAny_bind (wpAny_bind (wpAny_mono (store_raw (v := v) I (ok _ (.head _))) (fun _ s₁ h₁ => wpAny_pure ?_) fun _ _ x => x))
    obtain ⟨g₁, I₁, r₁, o₁⟩ := h₁
    refine wpAny_mono (stores_forIn (xs := xs) (vs := vs) (by simpa using hl) hn.2 I₁ fun x hx => ok x (.tail _ hx)) (fun _ s₂ h₂ => ?_) fun _ _ x => x
    obtain ⟨g₂, I₂, r₂, o₂⟩ := h₂
    refine ⟨g₁.trans g₂, I₂, ?_, fun y u hy hr => ?_⟩
    · intro i y u hy hu
      cases i with
      | zero =>
        simp at hy hu
        subst hy hu
        exact o₂ _ _ hn.1 r₁
      | succ i => exact r₂ i y u (by simpa using hy) (by simpa using hu)
    · rw [List.mem_cons, not_or] at hy
      exact o₂ y u hy.2 (o₁ y u hy.1 hr)
end

/-- the arguments' data under the parameters' names -/
def argRho : List Str → List Arg → Rho
  | x :: xs, .im d :: as => (x, d) :: argRho xs as
  | _ :: xs, _ :: as => argRho xs as
  | _, _ => []
def argOwn : List Str → List Arg → List (Str × Addr)
  | x :: xs, .ow a :: as => (x, a) :: argOwn xs as
  | _ :: xs, _ :: as => argOwn xs as
  | _, _ => []

theorem argRho_lookup {C : Cx} {h : Heap} {x : Str} {d : D} : ∀ {xs : List Str} {vs : List Value} {as : List Arg}, ArgsAre C h vs as → (argRho xs as).lookup x = some d → ∃ (i : Nat) (v : Value), xs[i]? = some x ∧ vs[i]? = some v ∧ Rep C.p C.w (vw h C.ex) v d
  | [], _, _, _, e => by simp [argRho] at e
  | y :: xs, [], [], _, e => by simp [argRho] at e
  | y :: xs, v :: vs, .im d' :: rs, k, e => by
    simp only [argRho] at e
    rw [List.lookup_cons] at e
    by_cases q : (x == y) = true
    · rw [q] at e; cases e
      exact ⟨0, v, by rw [eq_of_beq q]; rfl, rfl, k.1⟩
    · simp only [q] at e
      obtain ⟨i, v, h1, h2, h3⟩ := argRho_lookup k.2 e
      exact ⟨i + 1, v, by simpa using h1, by simpa using h2, h3⟩
  | y :: xs, v :: vs, .ow a :: rs, k, e => by
    simp only [argRho] at e
    obtain ⟨i, v, h1, h2, h3⟩ := argRho_lookup k.2 e
    exact ⟨i + 1, v, by simpa using h1, by simpa using h2, h3⟩
theorem argOwn_mem {C : Cx} {h : Heap} {x : Str} {a : Addr} : ∀ {xs : List Str} {vs : List Value} {as : List Arg}, ArgsAre C h vs as → (x, a) ∈ argOwn xs as → ∃ (i : Nat), xs[i]? = some x ∧ vs[i]? = some (.ref a) ∧ as[i]? = some (.ow a)
  | [], _, _, _, e => by simp [argOwn] at e
  | y :: xs, [], [], _, e => by simp [argOwn] at e
  | y :: xs, v :: vs, .im d' :: rs, k, e => by
    simp only [argOwn] at e
    obtain ⟨i, h1, h2, h3⟩ := argOwn_mem k.2 e
    exact ⟨i + 1, by simpa using h1, by simpa using h2, by simpa using h3⟩
  | y :: xs, v :: vs, .ow b :: rs, k, e => by
    simp only [argOwn] at e
    rcases List.mem_cons.mp e with e | e
    · cases e
      exact ⟨0, rfl, by rw [k.1]; rfl, rfl⟩
    · obtain ⟨i, h1, h2, h3⟩ := argOwn_mem k.2 e
      exact ⟨i + 1, by simpa using h1, by simpa using h2, by simpa using h3⟩

/-- what a call hands back -/
structure RetP (s0 : Shared) (mt X : Addr → Prop) (p : Program) (w : World) (d : D) (ows : List (Addr × Own)) (v : Value) (s : Shared) : Prop where
  grow : Grow mt s0 s
  rep : Rep p w (vw s.heap X) v d
  owns : ∀ a o, (a, o) ∈ ows → OwnRep p w s.heap X a o

section
variable {C : Cx} {ρ : Rho} {μ : Mu}

theorem FI.hbNone {s : Shared} (I : FI C s ρ μ) {a : Addr} (h : C.oa a) : C.hb.get? a = none := by
  rcases I.ok.oge a h with h | h
  · cases e : C.hb.get? a with
    | none => rfl
    | some o => exact absurd (Heap.lt_size (I.ok.hb0 a o e)) (Nat.not_lt.mpr h)
  · exact I.ok.mhb a h

theorem call_fn {s : Shared} {a : Addr} {o : Obj} {fd : FuncData} {body : List Stmt} {vals vs : List Value} {xs : List Str} {as : List Arg} {mt : Addr → Prop} {μ₀ : Mu} {Q : Value → Shared → Prop}
    (I : FI C s ρ μ) (ho : C.hb.get? a = some o) (hd : o.data = .func fd) (ok : FdOk fd body C.hb) (hlim : C.hb.NoLimit) (hroom : C.A.depth < recursionLimit)
    (hbind : ∀ (h : Heap), (∀ a o, s.heap.get? a = some o → h.get? a = some o) → wpAny C.M C.A.in1 (bindArgs fd ⟨vals, []⟩) (fun b s₁ => b = xs.zip vs ∧ s₁ = { s with heap := h }) NoE { s with heap := h })
    (hargs : ArgsAre C s.heap vs as) (hl : xs.length = vs.length) (hn : xs.Nodup)
    (hst : ∀ x ∈ xs, fd.scope.names.lookup x = some .local ∨ (fd.scope.names.lookup x = some .cell ∧ ((cellsFrom 0 fd.scope.names []).lookup x).isSome = true))
    (hox : ∀ (i : Nat) a, as[i]? = some (.ow a) → C.ox a) (hmt : ∀ a, mt a → C.oa a)
    (hμ : ∀ x o, μ₀.lookup x = some o → ∃ a, (argOwn xs as).lookup x = some a ∧ OwnRep C.p C.w s.heap C.ex a o ∧ ∀ cls dx ds, o = .acc cls dx ds → C.ox dx)
    (k : ∀ L, Ex (fnCx C.p C.w C.A fd a L s mt C.ex (argOwn xs as) C.ox C.hb) (argRho xs as) μ₀ body (fun s' => Q .none s') Q) : wpAny C.M C.A (call (.ref a) vals) Q NoE s := by
  refine wpAny_call (codeAny_call_function hroom (I.hbk _ _ ho) hd ok.co ok.gen ok.body (ok.code.keeps I.hbk) ?_)
  refine wpAny_mono (hbind s.heap fun _ _ e => e) (fun b s₁ h₁ => ?_) fun _ _ q => q.elim
  obtain ⟨rfl, rfl⟩ := h₁
  have low : ∀ (a : Nat), C.ex a → a < s.heap.objs.size := I.lt
  generalize hH : s.heap.push { cls := .type "frame", data := .dict #[] } = H
  have hL : H.objs.size = s.heap.objs.size + 1 := by rw [← hH]; simp [Heap.size_push]
  have kH : ∀ a o, s.heap.get? a = some o → H.get? a = some o := fun a o e => hH ▸ Heap.get?_push_of_some _ e
  have kp : ∀ a o, H.get? a = some o → (pushCells H fd.scope.names).get? a = some o := fun a o e => pushCells_keeps _ _ _ _ e
  have szc := pushCells_size fd.scope.names H
  -- the frame, before its names are stored
  let C1 : Cx := { fnCx C.p C.w C.A fd a s.heap.objs.size s mt C.ex [] Nil C.hb with oa := Nil, A := C.A.in1 }
  have fge : ∀ (b : Nat), cpFa fd.scope s.heap.objs.size b → s.heap.objs.size ≤ b := fun b h => by
    rcases h with h | ⟨n, h⟩
    · exact Nat.le_of_eq h.symm
    · have := (cellsFrom_mem h).2.1; lia
  have ownCell : ∀ n c, (n, c) ∈ cellsFrom (s.heap.objs.size + 1) fd.scope.names [] → (pushCells H fd.scope.names).IsCell c none := fun n c h => pushCells_at _ _ n c (by rw [hL]; exact h)
  have cells : ∀ n c, (n, c) ∈ (fnEnv fd a s.heap.objs.size).cells → (n, c) ∈ cellsFrom (s.heap.objs.size + 1) fd.scope.names [] ∨ (n, c) ∈ fd.closure := fun n c h => by
    have h' : (n, c) ∈ cellsFrom (s.heap.objs.size + 1) fd.scope.names fd.closure := h
    rw [cellsFrom_app] at h'
    exact List.mem_append.mp h'
  have clLt : ∀ n (c : Nat), (n, c) ∈ fd.closure → c < s.heap.objs.size := fun n c h => by
    obtain ⟨v, q⟩ := ok.clc n c h
    exact (q.keeps I.hbk).lt
  have I1 : FI C1 { s with heap := pushCells H fd.scope.names } [] [] := by
    refine ⟨⟨ok.kind, I.ok.hh, ok.gl, ok.bl, .inl rfl, fun _ _ q => q, fun b h => .inl (fge b h), fun _ q => q.elim, fun _ _ _ q => q, fun _ _ _ q => q, ?_, ?_, (fun x a h => by cases h), fun _ q => q.elim, fun _ q => q.elim, I.hbk, fun b h => I.hbNone (hmt b h), fun _ q => q.elim⟩,
      ⟨rfl, by show s.heap.objs.size ≤ _; simp only; lia, fun b o _ e => kp b o (kH b o e)⟩, ?_, ?_, ?_, (fun x d h => by simp at h), (fun x a h => by simp [C1, fnCx] at h), (fun x o h => by simp at h)⟩
    · intro x y c hx hy
      rcases cells x c (mem_of_lookup hx) with hx' | hx' <;> rcases cells y c (mem_of_lookup hy) with hy' | hy'
      · exact cellsFrom_inj hx' hy'
      · have h1 := (cellsFrom_mem hx').2.1; have h2 := clLt y c hy'; lia
      · have h1 := (cellsFrom_mem hy').2.1; have h2 := clLt x c hx'; lia
      · exact ok.cli x y c hx' hy'
    · intro n h
      have e : C1.env.locals = s.heap.objs.size := rfl
      rw [e] at h
      rcases cells n _ h with h | h
      · have := (cellsFrom_mem h).2.1; lia
      · have := clLt n _ h; lia
    · exact ⟨fun _ => none, ((hH ▸ Heap.Ns.new s.heap (.type "frame")) : H.Ns s.heap.objs.size _).keeps kp⟩
    · intro n c h
      rcases cells n c h with h | h
      · exact ⟨none, ownCell n c h⟩
      · obtain ⟨v, q⟩ := ok.clc n c h
        exact ⟨v, (q.keeps I.hbk).keeps fun b o e => kp b o (kH b o e)⟩
    · intro b h
      rcases h with h | (h | ⟨n, h⟩) | h
      · have := low b h
        show @LT.lt Nat _ b (pushCells H fd.scope.names).objs.size
        have h3 : @LT.lt Nat _ b s.heap.objs.size := this
        lia
      · rw [h]
        show s.heap.objs.size < (pushCells H fd.scope.names).objs.size
        lia
      · exact (ownCell n b h).lt
      · exact h.elim
  have stOk : ∀ x ∈ xs, StoreOk C1 x := fun x hx => by
    refine ⟨?_, rfl⟩
    rcases hst x hx with h | ⟨h, hc⟩
    · exact .inl h
    · refine .inr ⟨h, ?_⟩
      obtain ⟨c0, hc0⟩ := Option.isSome_iff_exists.mp hc
      have hm := (cellsFrom_mem (mem_of_lookup hc0)).1
      have has : ∀ (names : List (Str × NameKind)) (n : Nat), (x, NameKind.cell) ∈ names → ∃ c, (x, c) ∈ cellsFrom n names [] := by
        intro names
        induction names with
        | nil => intro n h; cases h
        | cons y r ih =>
          intro n h
          obtain ⟨y, k⟩ := y
          simp only [cellsFrom]
          rcases List.mem_cons.mp h with h | h
          · cases h
            rw [if_pos (by rfl), cellsFrom_app]
            exact ⟨n, List.mem_append.mpr (.inr (.head _))⟩
          · split
            · rw [cellsFrom_app]
              obtain ⟨c, hc⟩ := ih (n + 1) h
              exact ⟨c, List.mem_append.mpr (.inl hc)⟩
            · exact ih n h
      obtain ⟨c, hc⟩ := has fd.scope.names (s.heap.objs.size + 1) hm
      obtain ⟨c', hc'⟩ := lookup_some_of_mem hc
      refine ⟨c', ?_, .inr ⟨x, mem_of_lookup hc'⟩⟩
      show List.lookup x (cellsFrom (s.heap.objs.size + 1) fd.scope.names fd.closure) = some c'
      rw [cellsFrom_app, List.lookup_append, hc']; rfl
  have lim : ∀ (h' : Heap), (∀ b o, s.heap.get? b = some o → h'.get? b = some o) → h'.NoLimit := fun h' hk => (hlim.keeps I.hbk).keeps hk
  have sts := stores_forIn (C := C1) hl hn I1 stOk
  refine wpAny_mono (new_fn_env (Q := fun env s₂ => s₂.heap.NoLimit ∧ codeAny (model C.p C.w) C.A (.func body env) (fun r s' => match r with | .ok (.ret v) => Q v s' | .ok _ => False | .error e => NoE e s') s₂) (hH ▸ ?_)) (fun env s₂ h₂ => h₂) fun _ _ q => q.elim
  refine wpAny_mono sts (fun _ s₃ h₃ => ?_) fun _ _ q => q
  obtain ⟨g₃, I₃, r₃, _⟩ := h₃
  have gH : Grow Nil s { s with heap := pushCells H fd.scope.names } := ⟨rfl, by show s.heap.objs.size ≤ (pushCells H fd.scope.names).objs.size; lia, fun b o _ e => kp b o (kH b o e)⟩
  have g03 : Grow Nil s s₃ := ⟨by rw [g₃.same], Nat.le_trans gH.size g₃.size, fun b o _ e => g₃.keep b o (fun q => by
    have h1 := fge b q
    have h2 : @LT.lt Nat _ b s.heap.objs.size := Heap.lt_size e
    lia) (gH.keep b o (fun q => q) e)⟩
  refine ⟨lim _ fun b o e => g03.keep b o (fun q => q) e, ?_⟩
  refine codeAny_func ?_
  have hZ : ∀ b, (fnCx C.p C.w C.A fd a s.heap.objs.size s mt C.ex (argOwn xs as) C.ox C.hb).ex b → C.ex b ∨ s.heap.get? b = none := fun b h => by
    rcases h with h | h | h
    · exact .inl h
    · exact .inr (none_of_ge (fge b h))
    · exact .inl (.inr (.inr (hmt b h)))
  have oxex : ∀ b, C.ox b → C.ex b := fun b h => (I.ok.oxe b h).elim .inl fun q => .inr (.inr q)
  have I₄ : FI (fnCx C.p C.w C.A fd a s.heap.objs.size s mt C.ex (argOwn xs as) C.ox C.hb) s₃ (argRho xs as) μ₀ := by
    refine ⟨⟨ok.kind, I.ok.hh, ok.gl, ok.bl, .inl rfl, fun b h q => ?_, fun b h => .inl (fge b h), fun b q => .inr q, fun n b h q => ?_, fun n b h q => ?_, I₃.ok.apart, I₃.ok.loc, fun x b h => ?_, fun b h => .inl (oxex b h), fun b h q => ?_, I.hbk, fun b h => I.hbNone (hmt b h), I.ok.ohb⟩,
      g03.weak fun _ q => q.elim, I₃.ns, I₃.cel, fun b h => ?_, fun x d h => ?_, fun x b h => ?_, fun x o h => ?_⟩
    · have h1 := fge b h
      have h2 := low b (.inr (.inr (hmt b q)))
      lia
    · rcases cells n b h with h | h
      · have h1 := (cellsFrom_mem h).2.1
        have h2 := low b (.inr (.inr (hmt b q)))
        lia
      · have h3 := I.hbNone (hmt b q)
        obtain ⟨v, o, h4, _⟩ := ok.clc n b h
        rw [h3] at h4; cases h4
    · rcases cells n b h with h | h
      · have h1 := (cellsFrom_mem h).2.1
        have h2 := low b (oxex b q)
        lia
      · have h3 := I.ok.ohb b q
        obtain ⟨v, o, h4, _⟩ := ok.clc n b h
        rw [h3] at h4; cases h4
    · obtain ⟨i, h1, h2, h3⟩ := argOwn_mem hargs h
      exact hox i b h3
    · have h1 := fge b q
      have h2 := low b (oxex b h)
      lia
    · rcases h with h | h | h
      · exact Nat.lt_of_lt_of_le (low b h) g03.size
      · exact I₃.lt b (.inr (.inl h))
      · exact Nat.lt_of_lt_of_le (low b (.inr (.inr (hmt b h)))) g03.size
    · obtain ⟨i, v, h1, h2, h3⟩ := argRho_lookup hargs h
      exact ⟨v, r₃ i x v h1 h2, h3.grow g03 (fun _ q => q.elim) hZ⟩
    · obtain ⟨i, h1, h2, h3⟩ := argOwn_mem hargs (mem_of_lookup h)
      exact r₃ i x _ h1 h2
    · obtain ⟨b, h1, h2, h3⟩ := hμ x o h
      refine ⟨b, h1, ?_, h3⟩
      cases h2 with
      | lst k1 k2 => exact .lst (k1.at fun o e => g03.keep _ o (fun q => q) e) (k2.at' (fun a o _ e => g03.keep a o (fun q => q) e) hZ)
      | pls k1 k2 => exact .pls (k1.at fun o e => g03.keep _ o (fun q => q) e) (k2.at' (fun a o _ e => g03.keep a o (fun q => q) e) hZ)
      | dct k1 k2 k3 k4 k5 => exact .dct (g03.keep _ _ (fun q => q) k1) k2 k3 k4 (k5.at' (fun a o _ e => g03.keep a o (fun q => q) e) hZ)
      | acc k1 k2 k3 k4 => exact .acc (g03.keep _ _ (fun q => q) k1) (k2.at fun o e => g03.keep _ o (fun q => q) e) k3 (k4.at' (fun a o _ e => g03.keep a o (fun q => q) e) hZ)
  refine wpAny_mono ((k s.heap.objs.size).run s₃ I₄) (fun f s' h' => ?_) fun _ _ q => q.elim
  cases f with
  | next => exact h'.2
  | brk => exact h'.2.elim
  | cont => exact h'.2.elim
  | ret v => exact h'.2
end
end Mine
end

section
open PySem PySem.W PyProof.Rows PySem.Spec PySem.Calls
set_option linter.unusedVariables false
namespace Mine

section
variable {p : Program} {w : World} {A : Around} {hb : Heap}

theorem vop_val {X : Addr → Prop} {s s' : Shared} {v : Value} {d : D} (g : Grow Nil s s') (r : Rep p w (vw s'.heap X) v d) : Grow Nil s s' ∧ Rep p w (vw s'.heap X) v d := ⟨g, r⟩

theorem bin_add {a b : Int} : BinD p w A hb .Add (.int a) (.int b) (.int (a + b)) := fun X s v u rm low r q => by
  cases r; cases q
  exact PyProof.Rows.add_int ⟨.ofToks s _, .int _ _⟩
theorem inp_add {a b : Int} : InpD p w A hb .Add (.int a) (.int b) (.int (a + b)) := fun X s v u rm low r q => by
  cases r; cases q
  exact P.iadd_int ⟨.ofToks s _, .int _ _⟩
theorem inp_sub {a b : Int} : InpD p w A hb .Sub (.int a) (.int b) (.int (a - b)) := fun X s v u rm low r q => by
  cases r; cases q
  exact P.isub_int ⟨.ofToks s _, .int _ _⟩
theorem bin_sub {a b : Int} : BinD p w A hb .Sub (.int a) (.int b) (.int (a - b)) := fun X s v u rm low r q => by
  cases r; cases q
  exact P.sub_int ⟨.ofToks s _, .int _ _⟩
theorem bin_mul {a b : Int} (h : IntMulOk a b) : BinD p w A hb .Mult (.int a) (.int b) (.int (a * b)) := fun X s v u rm low r q => by
  cases r; cases q
  exact P.mul_int ⟨.ofToks s _, .int _ _⟩ h
theorem bin_fdiv {a b : Int} (h0 : b ≠ 0) (h1 : b.natAbs < 1073741824) : BinD p w A hb .FloorDiv (.int a) (.int b) (.int (a.fdiv b)) := fun X s v u rm low r q => by
  cases r; cases q
  exact floordiv_int h0 ⟨.ofToks s _, .int _ _⟩ (.inl (PyProof.noPylong_small h1))
theorem bin_mod {a b : Int} (h0 : b ≠ 0) : BinD p w A hb .Mod (.int a) (.int b) (.int (a.fmod b)) := fun X s v u rm low r q => by
  cases r; cases q
  exact PyProof.Rows.mod_int h0 ⟨.ofToks s _, .int _ _⟩
theorem bin_pow {a b : Int} (h0 : 0 ≤ b) (h1 : (Builtin.Int.intBits a : Int) * b ≤ 2 ^ 27) : BinD p w A hb .Pow (.int a) (.int b) (.int (a ^ b.toNat)) := fun X s v u rm low r q => by
  cases r; cases q
  exact pow_int h0 h1 ⟨.ofToks s _, .int _ _⟩
theorem bin_addstr {x y : Str} (h : x.length + y.length ≤ sizeLine) : BinD p w A hb .Add (.str x) (.str y) (.str (x ++ y)) := fun X s v u rm low r q => by
  cases r; cases q
  exact PyProof.Rows.add_str (fun t' tk => ⟨.ofToks s _, .str _ _⟩) h
theorem bin_addlist {ds es : List D} (h : ds.length + es.length ≤ sizeLine) : BinD p w A hb .Add (.lst ds) (.lst es) (.lst (ds ++ es)) := fun X s v u rm low r q => by
  cases r with
  | @lst a o vs n _ ho hc hd hr =>
    cases q with
    | @lst b o2 ws n2 _ ho2 hc2 hd2 hr2 =>
      obtain ⟨cls, dd, data, sl⟩ := o
      obtain ⟨cls2, dd2, data2, sl2⟩ := o2
      simp only at hc hd hc2 hd2
      subst hc hd hc2 hd2
      have e : vs.toArray ++ ws.toArray = (vs ++ ws).toArray := by simp
      refine concat_meets ⟨_, ho.1, rfl⟩ ⟨_, ho2.1, rfl⟩ noFill_list_add seq_list_add PySem.F.slot_list_add PySem.F.entry_list_add (PySem.F.args_list_add_2 _ _)
        (list_addW a b vs.toArray ws.toArray n n2 dd dd2 sl sl2 (by simpa [hr.length, hr2.length] using h)) ⟨ho.1, ho2.1, ?_⟩
      rw [e]
      obtain ⟨g, o, r⟩ := new_seq low (hr.append hr2) "list"
      exact ⟨g, .lst o rfl rfl r⟩

theorem un_neg {a : Int} : UnD p w A hb .USub (.int a) (.int (-a)) := fun X s v rm low r => by
  cases r
  exact PyProof.Rows.neg_int ⟨.ofToks s _, .int _ _⟩

theorem cmp_eq_int {a b : Int} : CmpD p w A hb .Eq (.int a) (.int b) (a == b) := fun X s v u rm low r q => by
  cases r; cases q
  exact PyProof.Rows.eq_int ⟨.refl s, .bool _⟩
theorem cmp_ne_int {a b : Int} : CmpD p w A hb .NotEq (.int a) (.int b) (a != b) := fun X s v u rm low r q => by
  cases r; cases q
  exact P.ne_int ⟨.refl s, .bool _⟩
theorem cmp_lt_int {a b : Int} : CmpD p w A hb .Lt (.int a) (.int b) (decide (a < b)) := fun X s v u rm low r q => by
  cases r; cases q
  exact P.lt_int ⟨.refl s, .bool _⟩
theorem cmp_le_int {a b : Int} : CmpD p w A hb .LtE (.int a) (.int b) (decide (a ≤ b)) := fun X s v u rm low r q => by
  cases r; cases q
  exact P.le_int ⟨.refl s, .bool _⟩
theorem cmp_gt_int {a b : Int} : CmpD p w A hb .Gt (.int a) (.int b) (decide (a > b)) := fun X s v u rm low r q => by
  cases r; cases q
  exact P.gt_int ⟨.refl s, .bool _⟩
theorem cmp_ge_int {a b : Int} : CmpD p w A hb .GtE (.int a) (.int b) (decide (a ≥ b)) := fun X s v u rm low r q => by
  cases r; cases q
  exact P.ge_int ⟨.refl s, .bool _⟩
theorem cmp_eq_str {x y : Str} : CmpD p w A hb .Eq (.str x) (.str y) (x == y) := fun X s v u rm low r q => by
  cases r; cases q
  exact PyProof.Rows.eq_str ⟨.refl s, .bool _⟩
theorem cmp_is_none {d : D} (h : ∀ H v, Rep p w H v d → (v == Value.none) = false) : CmpD p w A hb .Is d .none false := fun X s v u rm low r q => by
  cases q
  refine is_none ?_
  rw [h _ v r]
  exact ⟨.refl s, .bool _⟩

theorem tru_int {a : Int} : TruD p w A hb (.int a) (a != 0) := fun X s v rm r => by
  cases r
  exact PyProof.Rows.truthy_int ⟨.refl s, rfl⟩
theorem tru_str {x : Str} (h : (x.length : Int) < 2 ^ 63) : TruD p w A hb (.str x) ((x.length : Int) != 0) := fun X s v rm r => by
  cases r
  exact P.truthy_str (by lia) ⟨.ofToks s _, rfl⟩
theorem tru_list {ds : List D} (h : (ds.length : Int) < 2 ^ 63) : TruD p w A hb (.lst ds) (!ds.isEmpty) := fun X s v rm r => by
  cases r with
  | @lst a o vs n _ ho hc hd hr =>
    refine wpAny_truthy_list ⟨o, ho.1, hc, n, hd⟩ (by rw [List.size_toArray, hr.length]; exact h) ⟨.ofToks s _, ?_⟩
    have := hr.length
    cases vs <;> cases ds <;> simp at this ⊢

theorem sub_list {ds : List D} {k : Int} {d : D} (h0 : 0 ≤ k) (h1 : k < 2 ^ 63) (hd : ds[k.toNat]? = some d) : SubD p w A hb (.lst ds) (.int k) d := fun X s v u rm low r q => by
  cases q
  cases r with
  | @lst a o vs n _ ho hc hdt hr =>
    have hl : s.heap.IsList a vs.toArray := ⟨o, ho.1, hc, n, hdt⟩
    obtain ⟨x, hx, rx⟩ := hr.get hd
    exact ⟨⟨"list", _, list_getitem_lookup, hl.typeIs⟩, wpAny_getItem_list hl h0 h1 (by simpa using hx) ⟨.refl s, rx⟩⟩

theorem str_getitem_lookup : typeLookup (.type "str") "__getitem__" = pure (some (.builtin "str.__getitem__")) := PySem.F.slot_str_getitem.lookup
theorem sub_str {x : Str} {i : Int} {c : Nat} (h0 : -(2 ^ 63 : Int) ≤ i) (h1 : i < 2 ^ 63) (hc : (seqIndex? i x.length).bind (x.cps[·]?) = some c) : SubD p w A hb (.str x) (.int i) (.str ⟨#[c]⟩) := fun X s v u rm low r q => by
  cases r; cases q
  refine ⟨⟨"str", _, str_getitem_lookup, typeIs_str _ _ _⟩, P.getItem_str ?_ hc ⟨.ofToks s _, .str _ _⟩⟩
  have : ¬ i < -(2 ^ 63 : Int) := by lia
  have h2 : ¬ i ≥ 2 ^ 63 := by lia
  simp only [this, h2, decide_false, Bool.or_false]
end
end Mine
end

section
open PySem PySem.W PyProof.Rows PySem.Spec PySem.Calls
set_option linter.unusedVariables false
namespace Mine

/-- a text by its signs -/
def mk (l : List Nat) : Str := ⟨l.toArray⟩
theorem mk_len (l : List Nat) : (mk l).length = l.length := by show l.toArray.size = l.length; simp
theorem mk_app (l m : List Nat) : mk l ++ mk m = mk (l ++ m) := Str.ext' (by rw [Str.cps_append]; simp [mk])
theorem mk_beq (l m : List Nat) : (mk l == mk m) = (l == m) := by
  by_cases h : l = m
  · subst h; simp
  · have : mk l ≠ mk m := fun e => h (by have := congrArg (fun s : Str => s.cps.toList) e; simpa [mk] using this)
    rw [beq_eq_false_iff_ne.mpr this, beq_eq_false_iff_ne.mpr h]

section
variable {p : Program} {w : World} {A : Around} {hb : Heap}

theorem pick_len {α : Type} (xs : Array α) (a k : Nat) (h : a + k ≤ xs.size) : (((List.range k).map (a + ·)).filterMap (xs[·]?)).length = k := by
  rw [pick_run, List.length_take, List.length_drop, Array.length_toList]; lia

theorem isSlice_of {s : Shared} {a : Addr} {l u t : Value} {lo hi : Option Int} (h : s.heap.get? a = some { cls := .type "slice", data := .fields #[l, u, t] }) (hl : PartV lo l) (hu : PartV hi u) (ht : t = .none) :
    ∃ l' u', s.heap.IsSlice a l' u' none ∧ l'.map (·.1) = lo ∧ u'.map (·.1) = hi := by
  subst ht
  cases lo with
  | none =>
    cases hi with
    | none => exact ⟨none, none, ⟨_, h, rfl, by rw [show l = Value.none from hl, show u = Value.none from hu]; rfl⟩, rfl, rfl⟩
    | some j =>
      obtain ⟨tj, rfl⟩ := hu
      exact ⟨none, some (j, tj), ⟨_, h, rfl, by rw [show l = Value.none from hl]; rfl⟩, rfl, rfl⟩
  | some i =>
    obtain ⟨ti, rfl⟩ := hl
    cases hi with
    | none => exact ⟨some (i, ti), none, ⟨_, h, rfl, by rw [show u = Value.none from hu]; rfl⟩, rfl, rfl⟩
    | some j =>
      obtain ⟨tj, rfl⟩ := hu
      exact ⟨some (i, ti), some (j, tj), ⟨_, h, rfl, rfl⟩, rfl, rfl⟩

theorem sli_str {l m : List Nat} {lo hi : Option Int} {a k : Nat} (hz : l.length ≤ sizeLine) (h : PySem.Builtin.Str.strSliceIndices lo hi 1 l.length = (List.range k).map (a + ·)) (hak : a + k ≤ l.length) (hm : m = (l.drop a).take k) :
    SliD p w A hb (.str (mk l)) lo hi none (.str (mk m)) := fun X s v b lv u t rm low r hl hu ht hs => by
  cases r
  refine ⟨⟨"str", _, str_getitem_lookup, typeIs_str _ _ _⟩, ?_⟩
  obtain ⟨l', u', hsl, e1, e2⟩ := isSlice_of hs hl hu ht
  refine wpAny_getItem_str_slice hsl rfl ?_
  have hp : slicePicked (mk l) l' u' none = (List.range k).map (a + ·) := by
    unfold slicePicked
    rw [e1, e2, mk_len]; exact h
  have hlen : (slicePicked (mk l) l' u' none).length = k := by rw [hp]; simp
  have hpick : ((slicePicked (mk l) l' u' none).filterMap ((mk l).cps[·]?)) = m := by
    rw [hp, hm]
    have := pick_run (mk l).cps a k
    rw [show (mk l).cps.toList = l from by simp [mk]] at this
    exact this
  unfold sliceMade
  by_cases hc : k = l.length
  · have : (((Option.map (fun (x : Int × Tok) => x.1) none).getD 1 == 1) && ((slicePicked (mk l) l' u' none).length == (mk l).length)) = true := by rw [hlen, mk_len, hc]; simp
    rw [if_pos this]
    have hma : m = l := by
      have ha : a = 0 := by lia
      rw [hm, ha, hc]; simp
    subst hma
    exact ⟨.refl s, .str _ _⟩
  · have : ¬ ((((Option.map (fun (x : Int × Tok) => x.1) none).getD 1 == 1) && ((slicePicked (mk l) l' u' none).length == (mk l).length)) = true) := by rw [hlen, mk_len]; simp [hc]
    rw [if_neg this, hpick]
    refine ⟨?_, .ofToks s _, .str _ _⟩
    have hml : m.length ≤ l.length := by rw [hm, List.length_take, List.length_drop]; lia
    show m.toArray.size ≤ sizeLine
    rw [List.size_toArray]; lia

theorem sli_str_from {l : List Nat} {a : Nat} (hz : l.length ≤ sizeLine) : SliD p w A hb (.str (mk l)) (some (a : Int)) none none (.str (mk (l.drop a))) := by
  refine sli_str (a := min a l.length) (k := l.length - min a l.length) hz ?_ (by lia) ?_
  · unfold PySem.Builtin.Str.strSliceIndices
    simp only
    have h1 : ¬ ((a : Int) < 0) := by lia
    rw [if_neg h1]
    have h2 : max 0 (min (a : Int) (l.length : Int)) = ((min a l.length : Nat) : Int) := by lia
    simp only [show ((1 : Int) > 0) = True from by simp, if_true, h2]
    exact sliceRange_one _ _
  · by_cases h : a ≤ l.length
    · rw [Nat.min_eq_left h, ← List.length_drop, List.take_length]
    · have : l.length ≤ a := by lia
      rw [Nat.min_eq_right this, List.drop_length, List.drop_eq_nil_of_le this]; simp
theorem sli_str_neg {l : List Nat} {k : Nat} (hz : l.length ≤ sizeLine) (hk : 1 ≤ k) : SliD p w A hb (.str (mk l)) none (some (-(k : Int))) none (.str (mk (l.take (l.length - k)))) := by
  refine sli_str (a := 0) (k := l.length - k) hz ?_ (by lia) (by simp)
  unfold PySem.Builtin.Str.strSliceIndices
  simp only
  have h1 : (-(k : Int) < 0) := by lia
  rw [if_pos h1]
  have h2 : max 0 (min (-(k : Int) + (l.length : Int)) (l.length : Int)) = ((l.length - k : Nat) : Int) := by lia
  simp only [show ((1 : Int) > 0) = True from by simp, if_true, h2]
  exact sliceRange_one 0 _
theorem sli_str_all {l : List Nat} (hz : l.length ≤ sizeLine) : SliD p w A hb (.str (mk l)) none none none (.str (mk l)) := by
  refine sli_str (a := 0) (k := l.length) hz ?_ (by lia) (by simp)
  unfold PySem.Builtin.Str.strSliceIndices
  simp only [show ((1 : Int) > 0) = True from by simp, if_true]
  exact sliceRange_one 0 _

theorem isSliceOf_of {s : Shared} {a : Addr} {l u t : Value} (h : s.heap.get? a = some { cls := .type "slice", data := .fields #[l, u, t] }) : s.heap.IsSliceOf a l u t := ⟨_, h, rfl, rfl⟩
theorem isPart_of {o : Option Int} {v : Value} (h : PartV o v) : IsPart v o := by
  cases o with
  | none => rw [show v = Value.none from h]; exact .none
  | some i => obtain ⟨t, rfl⟩ := h; exact .int i t

theorem sli_list {ds es : List D} {lo hi st : Option Int} (h0 : st ≠ some 0) (hz : ds.length ≤ sizeLine) (h : ∀ (α : Type) (f : D → α), True) (idx : List Nat) (hi' : sliceRange (sliceBounds lo hi st ds.length).1 (sliceBounds lo hi st ds.length).2.1 (sliceBounds lo hi st ds.length).2.2 = idx)
    (he : idx.filterMap (ds[·]?) = es) : SliD p w A hb (.lst ds) lo hi st (.lst es) := fun X s v b lv u t rm low r hl hu ht hs => by
  cases r with
  | @lst a o vs n _ ho hc hd hr =>
    have hls : s.heap.IsList a vs.toArray := ⟨o, ho.1, hc, n, hd⟩
    refine ⟨⟨"list", _, list_getitem_lookup, hls.typeIs⟩, ?_⟩
    refine wpAny_getItem_list_slice hls (isSliceOf_of hs) (isPart_of hl) (isPart_of hu) (isPart_of ht) h0 ?_ (by rw [List.size_toArray, hr.length]; exact hz)
    have e1 : slicePick vs.toArray lo hi st = (idx.filterMap (vs[·]?)).toArray := by
      unfold slicePick
      rw [show vs.toArray.size = ds.length from by rw [List.size_toArray]; exact hr.length, hi']
      simp
    have rr : Reps p w (vw s.heap X) (idx.filterMap (vs[·]?)) es := by
      rw [← he]
      clear he hi' e1
      induction idx with
      | nil => exact .nil
      | cons i r ih =>
        rw [List.filterMap_cons, List.filterMap_cons]
        cases hv : vs[i]? with
        | none =>
          have : ds[i]? = none := by
            rw [List.getElem?_eq_none_iff] at hv ⊢
            have := hr.length; lia
          rw [this]; exact ih
        | some x =>
          obtain ⟨d, hd', rd⟩ := hr.get' hv
          rw [hd']; exact .cons rd ih
    rw [e1]
    obtain ⟨g, o, r⟩ := new_seq low rr "list"
    exact ⟨g, .lst o rfl rfl r⟩

theorem pick_runL {α : Type} (xs : List α) (a k : Nat) : ((List.range k).map (a + ·)).filterMap (xs[·]?) = (xs.drop a).take k := by
  have := pick_run xs.toArray a k
  simpa using this

theorem sli_run {ds : List D} {a b : Nat} (hz : ds.length ≤ sizeLine) (hab : a ≤ b) (hb' : b ≤ ds.length) : SliD p w A hb (.lst ds) (some (a : Int)) (some (b : Int)) none (.lst ((ds.drop a).take (b - a))) := by
  refine sli_list (by simp) hz (fun _ _ => trivial) ((List.range (b - a)).map (a + ·)) ?_ (pick_runL _ _ _)
  unfold sliceBounds
  have h1 : ¬ ((a : Int) < 0) := by lia
  have h2 : ¬ ((b : Int) < 0) := by lia
  simp only [h1, h2, if_false, Option.getD_none, show ((1 : Int) > 0) = True from by simp, if_true]
  have h3 : max 0 (min (a : Int) (ds.length : Int)) = (a : Int) := by lia
  have h4 : max 0 (min (b : Int) (ds.length : Int)) = (b : Int) := by lia
  rw [h3, h4]
  exact sliceRange_one a b

theorem sli_rev {ds : List D} (hz : ds.length ≤ sizeLine) : SliD p w A hb (.lst ds) none none (some (-1)) (.lst ds.reverse) := by
  refine sli_list (by simp) hz (fun _ _ => trivial) ((List.range ds.length).map fun k => ds.length - 1 - k) ?_ ?_
  · unfold sliceBounds sliceRange
    simp only [Option.getD_some, show ¬ ((-1 : Int) > 0) from by lia, if_false]
    have h1 : (if ((ds.length : Int) - 1) > -1 then ((ds.length : Int) - 1 - -1 - -1 - 1) / (- -1) else 0).toNat = ds.length := by
      rw [show (- -1 : Int) = 1 from rfl, Int.ediv_one]
      split <;> lia
    rw [h1]
    refine List.map_congr_left fun k hk => ?_
    have := List.mem_range.mp hk
    lia
  · apply List.ext_getElem?
    intro i
    have key : ∀ n, n ≤ ds.length → ((List.range n).map fun k => ds.length - 1 - k).filterMap (ds[·]?) = ds.reverse.take n := by
      intro n
      induction n with
      | zero => intro _; simp
      | succ n ih =>
        intro hn
        rw [List.range_succ, List.map_append, List.filterMap_append, ih (by lia), List.take_add_one]
        congr 1
        have h1 : ds[ds.length - 1 - n]? = some (ds[ds.length - 1 - n]'(by lia)) := List.getElem?_eq_getElem (by lia)
        have h2 : ds.reverse[n]? = ds[ds.length - 1 - n]? := List.getElem?_reverse (by lia)
        rw [h2, h1]
        simp [h1]
    rw [key _ (Nat.le_refl _), List.take_of_length_le (by simp)]
end
end Mine
end

section
open PySem PySem.W PyProof.Rows PySem.Spec PySem.Calls
set_option linter.unusedVariables false
namespace Mine

theorem reps_ints {p : Program} {w : World} {H : HV} : ∀ {vs : List Value} {ns : List Int}, Reps p w H vs (ns.map D.int) → IntsAre vs ns
  | [], [], _ => .nil
  | v :: vs, n :: ns, h => by
    cases h with
    | cons h r =>
      cases h
      exact .cons n _ (reps_ints r)

/-- the least of a list -/
def minL : List Int → Int
  | [] => 0
  | x :: r => r.foldl min x
theorem foldl_min_le : ∀ (r : List Int) (x : Int), r.foldl min x ≤ x ∧ ∀ a ∈ r, r.foldl min x ≤ a
  | [], x => ⟨Int.le_refl _, fun a h => nomatch h⟩
  | y :: r, x => by
    rw [List.foldl_cons]
    obtain ⟨h1, h2⟩ := foldl_min_le r (min x y)
    exact ⟨by lia, fun a h => (List.mem_cons.mp h).elim (fun e => by subst e; lia) (h2 a)⟩
theorem foldl_min_mem : ∀ (r : List Int) (x : Int), r.foldl min x = x ∨ r.foldl min x ∈ r
  | [], x => .inl rfl
  | y :: r, x => by
    rw [List.foldl_cons]
    rcases foldl_min_mem r (min x y) with h | h
    · rw [h]
      rcases Int.le_total x y with q | q
      · exact .inl (by lia)
      · exact .inr (List.mem_cons.mpr (.inl (by lia)))
    · exact .inr (.tail _ h)
theorem minL_le {l : List Int} {a : Int} (h : a ∈ l) : minL l ≤ a := by
  cases l with
  | nil => cases h
  | cons x r => exact (List.mem_cons.mp h).elim (fun e => by subst e; exact (foldl_min_le r a).1) ((foldl_min_le r x).2 a)
theorem minL_mem {l : List Int} (h : l ≠ []) : minL l ∈ l := by
  cases l with
  | nil => exact absurd rfl h
  | cons x r => exact (foldl_min_mem r x).elim (fun e => by show r.foldl min x ∈ x :: r; rw [e]; exact .head _) fun e => .tail _ e
theorem minL_uniq {l : List Int} {m : Int} (h : m ∈ l) (hl : ∀ a ∈ l, m ≤ a) : minL l = m := by
  have h1 := minL_le h
  have h2 := hl _ (minL_mem (List.ne_nil_of_mem h))
  lia

section
variable {p : Program} {w : World} {A : Around} {hb : Heap}

theorem Reps.one {H : HV} {vs : List Value} {d : D} (r : Reps p w H vs [d]) : ∃ v, vs = [v] ∧ Rep p w H v d := by
  cases r with | cons h r => cases r; exact ⟨_, rfl, h⟩
theorem Reps.two {H : HV} {vs : List Value} {d e : D} (r : Reps p w H vs [d, e]) : ∃ v u, vs = [v, u] ∧ Rep p w H v d ∧ Rep p w H u e := by
  cases r with | cons h r => cases r with | cons h' r => cases r; exact ⟨_, _, rfl, h, h'⟩
theorem Reps.three {H : HV} {vs : List Value} {d e f : D} (r : Reps p w H vs [d, e, f]) : ∃ v u t, vs = [v, u, t] ∧ Rep p w H v d ∧ Rep p w H u e ∧ Rep p w H t f := by
  cases r with | cons h r => cases r with | cons h' r => cases r with | cons h'' r => cases r; exact ⟨_, _, _, rfl, h, h', h''⟩
theorem Rep.lst_inv {X : Addr → Prop} {h : Heap} {v : Value} {ds : List D} (r : Rep p w (vw h X) v (.lst ds)) : ∃ a vs, v = .ref a ∧ h.IsList a (vs : List Value).toArray ∧ Reps p w (vw h X) vs ds ∧ ¬ X a := by
  cases r with
  | @lst a o vs n _ ho hc hd hr => exact ⟨a, vs, rfl, ⟨o, ho.1, hc, n, hd⟩, hr, ho.2⟩
theorem Rep.int_inv {H : HV} {v : Value} {i : Int} (r : Rep p w H v (.int i)) : ∃ t, v = .int i t := by cases r; exact ⟨_, rfl⟩
theorem Rep.str_inv {H : HV} {v : Value} {x : Str} (r : Rep p w H v (.str x)) : ∃ t, v = .str x t := by cases r; exact ⟨_, rfl⟩

theorem call_len_d {ds : List D} (h : (ds.length : Int) < 2 ^ 63) : CallD p w A hb (.builtin "len") [.lst ds] (.int ds.length) := fun X s vs rm low r => by
  obtain ⟨v, rfl, r1⟩ := r.one
  obtain ⟨a, us, rfl, hl, hr, _⟩ := r1.lst_inv
  refine call_len_list hl (by rw [List.size_toArray, hr.length]; exact h) ⟨.ofToks s _, ?_⟩
  rw [List.size_toArray, hr.length]; exact .int _ _
theorem call_len_s {x : Str} (h : (x.length : Int) < 2 ^ 63) : CallD p w A hb (.builtin "len") [.str x] (.int x.length) := fun X s vs rm low r => by
  obtain ⟨v, rfl, r1⟩ := r.one
  obtain ⟨t, rfl⟩ := r1.str_inv
  exact P.len_str (by lia) ⟨.ofToks s _, .int _ _⟩
theorem call_range1_d {n : Int} : CallD p w A hb (.type "range") [.int n] (.rng 0 n 1) := fun X s vs rm low r => by
  obtain ⟨v, rfl, r1⟩ := r.one
  obtain ⟨t, rfl⟩ := r1.int_inv
  exact call_range_1 ⟨.ofPush s _ _, .rng ⟨Heap.get?_push_size _ rfl, fun q => Nat.lt_irrefl _ (low _ q)⟩⟩
theorem call_range3_d {a b c : Int} (hc : c ≠ 0) (hs : c.natAbs < 1073741824) : CallD p w A hb (.type "range") [.int a, .int b, .int c] (.rng a b c) := fun X s vs rm low r => by
  obtain ⟨v, u, t, rfl, r1, q, z⟩ := r.three
  obtain ⟨_, rfl⟩ := r1.int_inv
  obtain ⟨_, rfl⟩ := q.int_inv
  obtain ⟨_, rfl⟩ := z.int_inv
  exact call_range_3 hc ⟨.ofPush s _ _, .rng ⟨Heap.get?_push_size _ rfl, fun q => Nat.lt_irrefl _ (low _ q)⟩⟩ (.inl (PyProof.noPylong_small hs))
theorem call_min2_d {a b : Int} : CallD p w A hb (.builtin "min") [.int a, .int b] (.int (min a b)) := fun X s vs rm low r => by
  obtain ⟨v, u, rfl, r1, q⟩ := r.two
  obtain ⟨t, rfl⟩ := r1.int_inv
  obtain ⟨t', rfl⟩ := q.int_inv
  have := min_two_ints (prog := p) (w := w) (A := A) (E := NoE) (s := s) (a := a) (b := b) (t := t) (u := t') (Q := fun r s' => (∃ t, r = .int (min a b) t) ∧ ∃ h' tk, s' = { s with heap := h', toks := tk } ∧ ∀ c o, s.heap.get? c = some o → h'.get? c = some o) rm.hh
    (fun h' tk hk => ⟨by
      by_cases c : b < a
      · rw [if_pos c]; exact ⟨t', by rw [show min a b = b from by lia]⟩
      · rw [if_neg c]; exact ⟨t, by rw [show min a b = a from by lia]⟩, h', tk, rfl, hk⟩)
  refine wpAny_mono (wpAny_size this) (fun r s' h => ?_) fun _ _ q => q.2
  obtain ⟨hz, ⟨t, rfl⟩, h', tk, rfl, hk⟩ := h
  exact ⟨.ofKeep s h' tk (fun a o _ e => hk a o e) hz, .int _ _⟩
theorem call_minl_d {ns : List Int} (hne : ns ≠ []) : CallD p w A hb (.builtin "min") [.lst (ns.map D.int)] (.int (minL ns)) := fun X s vs rm low r => by
  obtain ⟨v, rfl, r1⟩ := r.one
  obtain ⟨a, us, rfl, hl, hr, _⟩ := r1.lst_inv
  have hi := reps_ints hr
  obtain ⟨xs, e⟩ := hi.allInts.items
  have hns : ns = xs.toList.map (·.1) := by rw [← hi.numsOf, ← nums_intItems, ← e]
  have hsz : 0 < xs.size := by
    have : ns.length ≠ 0 := fun q => hne (List.length_eq_zero_iff.mp q)
    rw [hns, List.length_map, Array.length_toList] at this; lia
  rw [e] at hl
  have := min_intList (prog := p) (w := w) (A := A) (E := NoE) (s := s) (Q := fun r s' => (∃ t, r = .int (minL ns) t) ∧ ∃ h' tk, s' = { s with heap := h', toks := tk } ∧ ∀ c o, s.heap.get? c = some o → h'.get? c = some o) rm.hh hl hsz
    (fun v h' tk hv hk => ⟨by
      obtain ⟨t, rfl⟩ := intItems_at hv
      obtain ⟨h1, h2⟩ := argBest_lt (numAt xs) (xs.size - 1)
      refine ⟨t, ?_⟩
      congr 1
      refine (minL_uniq ?_ fun a ha => ?_).symm
      · rw [hns, numAt_eq]; exact getD_mem (by rw [List.length_map, Array.length_toList]; lia)
      · rw [hns] at ha
        obtain ⟨j, hj, rfl⟩ := mem_getD ha
        rw [List.length_map, Array.length_toList] at hj
        rw [← numAt_eq]; exact h2 j (by lia), h', tk, rfl, hk⟩)
  refine wpAny_mono (wpAny_size this) (fun r s' h => ?_) fun _ _ q => q.2
  obtain ⟨hz, ⟨t, rfl⟩, h', tk, rfl, hk⟩ := h
  exact ⟨.ofKeep s h' tk (fun a o _ e => hk a o e) hz, .int _ _⟩
theorem call_sum_d {ns : List Int} : CallD p w A hb (.builtin "sum") [.lst (ns.map D.int)] (.int ns.sum) := fun X s vs rm low r => by
  obtain ⟨v, rfl, r1⟩ := r.one
  obtain ⟨a, us, rfl, hl, hr, _⟩ := r1.lst_inv
  have hi := reps_ints hr
  obtain ⟨xs, e⟩ := hi.allInts.items
  have hns : ns = xs.toList.map (·.1) := by rw [← hi.numsOf, ← nums_intItems, ← e]
  rw [e] at hl
  have := sum_intListG (prog := p) (w := w) (A := A) (E := NoE) (s := s) (Q := fun r s' => (∃ t, r = .int ns.sum t) ∧ ∃ h' tk, s' = { s with heap := h', toks := tk } ∧ ∀ c o, s.heap.get? c = some o → h'.get? c = some o) rm.hh hl
    (fun h' tk t' hk => ⟨⟨t', by
      congr 1
      rw [preSum_eq, List.take_of_length_le (by simp)]
      exact congrArg List.sum hns.symm⟩, h', tk, rfl, hk⟩)
  refine wpAny_mono (wpAny_size this) (fun r s' h => ?_) fun _ _ q => q.2
  obtain ⟨hz, ⟨t, rfl⟩, h', tk, rfl, hk⟩ := h
  exact ⟨.ofKeep s h' tk (fun a o _ e => hk a o e) hz, .int _ _⟩
theorem call_chr_d {i : Int} (h0 : 0 ≤ i) (h1 : i ≤ 0x10FFFF) : CallD p w A hb (.builtin "chr") [.int i] (.str (mk [i.toNat])) := fun X s vs rm low r => by
  obtain ⟨v, rfl, r1⟩ := r.one
  obtain ⟨t, rfl⟩ := r1.int_inv
  refine P.chr_of_int ?_ ⟨.ofToks s _, .str _ _⟩
  have a : ¬ i < 0 := by lia
  have b : ¬ i > 0x10FFFF := by lia
  simp only [a, b, decide_false, Bool.or_false]
theorem call_int_d {x : Str} {n : Int} (h : PySem.intText? x = some n) (hl : x.length ≤ 640) : CallD p w A hb (.type "int") [.str x] (.int n) := fun X s vs rm low r => by
  obtain ⟨v, rfl, r1⟩ := r.one
  obtain ⟨t, rfl⟩ := r1.str_inv
  exact KIN.call_text h hl ⟨.ofToks s _, .int _ _⟩
end
end Mine
end

section
open PySem PySem.W PyProof.Rows PySem.Spec PySem.Calls
namespace Mine
section
variable {C : Cx} {ρ : Rho} {μ μ₁ μ₂ : Mu} {N : Shared → Prop} {R : Value → Shared → Prop} {rest : List Stmt}

/-- the other owned objects are not in Y -/
def Sep (C : Cx) (μ : Mu) (x : Str) (Y : Addr → Prop) : Prop :=
  (∀ b, Y b → C.oa b) ∧ (∀ y b, (y == x) = false → C.own.lookup y = some b → ¬ Y b) ∧ ∀ y cls dx ds, (y == x) = false → μ.lookup y = some (.acc cls dx ds) → ¬ Y dx

theorem FI.setOwn {s s' : Shared} {x : Str} {a : Addr} {o' : Own} {Y : Addr → Prop} (I : FI C s ρ μ) (hx : C.own.lookup x = some a) (g : Grow Y s s') (sep : Sep C μ x Y)
    (r : OwnRep C.p C.w s'.heap C.ex a o') (hd : ∀ cls dx ds, o' = .acc cls dx ds → C.ox dx) : Stp C s s' ((x, o') :: μ) where
  grow := g.weak sep.1
  owns := fun y o e => by
    rw [List.lookup_cons] at e
    by_cases q : (y == x) = true
    · rw [q] at e; cases e
      rw [eq_of_beq q]
      exact ⟨a, hx, r, hd⟩
    · have q' : (y == x) = false := by simpa using q
      rw [q'] at e
      obtain ⟨b, h1, h2, h3⟩ := I.owns y o e
      refine ⟨b, h1, h2.kept (fun c o n e => g.keep c o (fun z => n (.inr (.inr (sep.1 c z)))) e) (fun o e => g.keep b o (sep.2.1 y b q' h1) e) (fun cls dx ds z ob e' => g.keep dx ob (sep.2.2 y cls dx ds q' (z ▸ e)) e'), h3⟩

theorem RepE.names {p : Program} {w : World} {H : HV} {kvs : List (Str × Value)} {es : List (Str × D)} (h : RepE p w H kvs es) : kvs.map (·.1) = es.map (·.1) := by
  induction kvs generalizing es with
  | nil => cases h; rfl
  | cons v vs ih => cases h with | cons _ r => simp [ih r]
theorem RepE.append {p : Program} {w : World} {H : HV} {vs us : List (Str × Value)} {ds es : List (Str × D)} (h : RepE p w H vs ds) (k : RepE p w H us es) : RepE p w H (vs ++ us) (ds ++ es) := by
  induction vs generalizing ds with
  | nil => cases h; exact k
  | cons v vs ih => cases h with | cons h r => exact .cons h (ih r)
theorem RepE.at_ {p : Program} {w : World} {H : HV} {kvs : List (Str × Value)} {es : List (Str × D)} (h : RepE p w H kvs es) (k : Str) :
    (es.lookup k = none ∧ valueAt kvs k = none) ∨ ∃ d v, es.lookup k = some d ∧ valueAt kvs k = some v ∧ Rep p w H v d := by
  induction kvs generalizing es with
  | nil => cases h; exact .inl ⟨rfl, rfl⟩
  | cons v vs ih =>
    cases h with
    | @cons k' v _ d _ h r =>
      by_cases q : k' = k
      · subst q
        exact .inr ⟨d, v, by rw [List.lookup_cons]; simp, by simp [valueAt], h⟩
      · have q2 : (k == k') = false := by
          rw [beq_eq_false_iff_ne]; exact Ne.symm q
        rw [List.lookup_cons, q2]
        have : valueAt ((k', v) :: vs) k = valueAt vs k := by simp [valueAt, q]
        rw [this]
        exact ih r
theorem RepE.stored {p : Program} {w : World} {H : HV} {kvs : List (Str × Value)} {es : List (Str × D)} (h : RepE p w H kvs es) {k : Str} (hk : es.lookup k = none) (v : Value) : stored kvs k v = kvs ++ [(k, v)] := by
  unfold PySem.stored
  rw [if_neg]
  intro q
  rw [List.any_eq_true] at q
  obtain ⟨⟨k', v'⟩, hm, hq⟩ := q
  have hq' : k' = k := by simpa using hq
  subst hq'
  have : k' ∈ es.map (·.1) := by rw [← h.names]; exact List.mem_map.mpr ⟨_, hm, rfl⟩
  obtain ⟨⟨k2, d2⟩, hm2, e2⟩ := List.mem_map.mp this
  have e2' : k2 = k' := e2
  subst e2'
  rw [List.lookup_eq_none_iff] at hk
  have := hk _ hm2
  simp at this

theorem Reps.set {p : Program} {w : World} {H : HV} {vs : List Value} {ds : List D} (h : Reps p w H vs ds) (k : Nat) {v : Value} {d : D} (r : Rep p w H v d) : Reps p w H (vs.set k v) (ds.set k d) := by
  induction vs generalizing ds k with
  | nil => cases h; exact .nil
  | cons u us ih =>
    cases h with
    | cons h' r' =>
      cases k with
      | zero => exact .cons r r'
      | succ k => exact .cons h' (ih r' k)

theorem growBut {s : Shared} {a : Addr} {h' : Heap} {t : Nat} (hb : Heap.SameBut a s.heap h') : Grow (fun b => b = a) s { s with heap := h', toks := t } :=
  .ofKeep s h' t (fun b o n e => (hb.2 b n).trans e) (Nat.le_of_eq hb.1.symm)

theorem FI.own_name {s : Shared} (I : FI C s ρ μ) {x : Str} {xp : Pos} {a : Addr} {Q : Value → Shared → Prop} (hx : C.own.lookup x = some a) (h : Q (.ref a) s)
    (hd : (x == ("__debug__" : Str)) = false) (hn : (x == ("__classdict__" : Str)) = false) : wpAny C.M C.A (eval (.Name x xp) C.env) Q NoE s :=
  wpAny_Name (loadName_reads (I.ownv x a hx) I.ok.kind h hn) hd

theorem Ex_setitem_lst {x : Str} {xp sp pos : Pos} {i e : Expr} {a : Addr} {ds : List D} {k : Int} {d : D} (he : Ev C ρ μ e d μ) (hi : Ev C ρ μ i (.int k) μ) (hμ : μ.lookup x = some (.lst ds)) (hox : C.own.lookup x = some a)
    (sep : Sep C μ x (fun b => b = a)) (h0 : 0 ≤ k) (h1 : k < 2 ^ 63) (hk : k < ds.length) (kk : Ex C ρ ((x, .lst (ds.set k.toNat d)) :: μ) rest N R)
    (hs : swapsWith e (some (.Subscript (.Name x xp) i sp)) pos.line C.env = pure false := by rfl)
    (hd : (x == ("__debug__" : Str)) = false := by decide) (hn : (x == ("__classdict__" : Str)) = false := by decide) :
    Ex C ρ μ (.Assign [.Subscript (.Name x xp) i sp] e pos :: rest) N R := Ex_cons fun s I =>
  wpAny_Assign_Subscript (wpAny_mono (he.run s I) (fun v s₁ h₁ => by
    have I₁ := I.step h₁.1
    refine I₁.own_name hox ?_ hd hn
    refine wpAny_mono (hi.run s₁ I₁) (fun u s₂ h₂ => ?_) fun _ _ q => q
    have I₂ := I₁.step h₂.1
    obtain ⟨b, e1, r, _⟩ := I₂.owns x _ hμ
    rw [hox] at e1; cases e1
    have hu := h₂.2
    cases hu with
    | int _ t =>
    cases r with
    | @lst vs _ hl hr =>
    refine wpAny_setItem_list hl h0 h1 (by have := hr.length; simpa [this] using hk) (fun h' hl' hb => ?_)
    have gg : Grow (fun b => b = a) s₂ { s₂ with heap := h' } := growBut (t := s₂.toks) hb
    have kp : ∀ b o, ¬ C.ex b → s₂.heap.get? b = some o → h'.get? b = some o := fun b o n q => gg.keep b o (fun z => n (.inr (.inr (sep.1 b z)))) q
    have S := I₂.setOwn (x := x) (o' := .lst (ds.set k.toNat d)) hox gg sep (.lst (vs := vs.set k.toNat v) (by simpa using hl') ((hr.set k.toNat (h₁.2.stp h₂.1)).mono fun b o q => ⟨kp b o q.2 q.1, q.2⟩)) (by simp)
    exact ⟨((h₁.1.grow.trans h₂.1.grow).trans S.grow).ofOa, kk.run _ (I₂.step S)⟩) fun _ _ q => q) hs

theorem Ex_setitem_dct {x : Str} {xp sp pos : Pos} {i e : Expr} {a : Addr} {es : List (Str × D)} {k : Str} {d : D} (he : Ev C ρ μ e d μ) (hi : Ev C ρ μ i (.str k) μ) (hμ : μ.lookup x = some (.dct es)) (hox : C.own.lookup x = some a)
    (sep : Sep C μ x (fun b => b = a)) (hk : es.lookup k = none) (hz : es.length ≤ sizeLine) (kk : Ex C ρ ((x, .dct (es ++ [(k, d)])) :: μ) rest N R)
    (hs : swapsWith e (some (.Subscript (.Name x xp) i sp)) pos.line C.env = pure false := by rfl)
    (hd : (x == ("__debug__" : Str)) = false := by decide) (hn : (x == ("__classdict__" : Str)) = false := by decide) :
    Ex C ρ μ (.Assign [.Subscript (.Name x xp) i sp] e pos :: rest) N R := Ex_cons fun s I =>
  wpAny_Assign_Subscript (wpAny_mono (he.run s I) (fun v s₁ h₁ => by
    have I₁ := I.step h₁.1
    refine I₁.own_name hox ?_ hd hn
    refine wpAny_mono (hi.run s₁ I₁) (fun u s₂ h₂ => ?_) fun _ _ q => q
    have I₂ := I₁.step h₂.1
    obtain ⟨b, e1, r, _⟩ := I₂.owns x _ hμ
    rw [hox] at e1; cases e1
    have hu := h₂.2
    cases hu with
    | str _ t =>
    cases r with
    | @dct o kvs _ ho hdo hdn hsys hr =>
    refine wpAny_setItem_pairs (knd := strKind C.p C.w) (strKind_is _ _ _ _) (Heap.dictOf_iff.mpr ⟨o, ho, hdo⟩) (fun h' hl' hb => ?_) (by
      have : kvs.length = es.length := by simpa using congrArg List.length hr.names
      lia)
    rw [hr.stored hk] at hl'
    have gg : Grow (fun b => b = a) s₂ { s₂ with heap := h', toks := s₂.toks + 1 } := growBut hb
    have kp : ∀ b o, ¬ C.ex b → s₂.heap.get? b = some o → h'.get? b = some o := fun b o n q => gg.keep b o (fun z => n (.inr (.inr (sep.1 b z)))) q
    obtain ⟨o', ho', hdo'⟩ := Heap.dictOf_iff.mp hl'
    obtain ⟨o2, ho2, hn2⟩ := hl'.mapOf.noDict a rfl
    rw [ho'] at ho2; cases ho2
    have S := I₂.setOwn (x := x) (o' := .dct (es ++ [(k, d)])) hox gg sep (.dct ho' hdo' hn2 hsys ((hr.append (.cons (h₁.2.stp h₂.1) .nil)).mono fun b o q => ⟨kp b o q.2 q.1, q.2⟩)) (by simp)
    exact ⟨((h₁.1.grow.trans h₂.1.grow).trans S.grow).ofOa, kk.run _ (I₂.step S)⟩) fun _ _ q => q) hs

theorem Ev_append {x : Str} {xp ap pos : Pos} {e : Expr} {a : Addr} {ds : List D} {d : D} (he : Ev C ρ μ e d μ) (hμ : μ.lookup x = some (.pls ds)) (hox : C.own.lookup x = some a)
    (sep : Sep C μ x (fun b => b = a)) (hz : ds.length ≤ sizeLine) (hbase : ∀ env, attributeBase (.Name x xp) "append" env (eval (.Name x xp) env) = eval (.Name x xp) env := by intros; rfl)
    (hst : ∀ env, starEach [e] env = [(false, eval e env)] := by intros; rfl) (hline : (ap.endLine == pos.line) = true := by decide)
    (hd : (x == ("__debug__" : Str)) = false := by decide) (hn : (x == ("__classdict__" : Str)) = false := by decide) :
    Ev C ρ μ (.Call (.Attribute (.Name x xp) "append" ap) [e] [] pos) .none ((x, .pls (ds ++ [d])) :: μ) := .mk fun s I => by
  refine Call_method1 (hbase _) (hst _) hline (I.own_name hox ?_ hd hn)
  obtain ⟨b, e1, r, _⟩ := I.owns x _ hμ
  rw [hox] at e1; cases e1
  cases r with
  | @pls vs _ hl hr =>
  obtain ⟨n, ho⟩ := id hl
  refine ⟨"list", "list.append", F.plainAttrs_list, F.slot_list_append, F.type_list_append, ⟨_, ho, rfl⟩, fun a' q => by cases q; exact ⟨_, ho, rfl⟩, ?_⟩
  refine callWith_builtin rfl (evalArgs_plain (Calls.spliced_cons (wpAny_mono (he.run s I) (fun v s₁ h₁ => Calls.spliced_nil ?_) fun _ _ q => q)))
  have I₁ := I.step h₁.1
  obtain ⟨b, e1, r, _⟩ := I₁.owns x _ hμ
  rw [hox] at e1; cases e1
  cases r with
  | @pls vs _ hl hr =>
  refine wpAny_list_append_plain hl (fun h' hl' hb => ?_) (by have := hr.length; simpa [this] using hz)
  have gg : Grow (fun b => b = a) s₁ { s₁ with heap := h' } := growBut (t := s₁.toks) hb
  have kp : ∀ b o, ¬ C.ex b → s₁.heap.get? b = some o → h'.get? b = some o := fun b o n q => gg.keep b o (fun z => n (.inr (.inr (sep.1 b z)))) q
  have S := I₁.setOwn (x := x) (o' := .pls (ds ++ [d])) hox gg sep (.pls (vs := vs ++ [v]) (by simpa using hl') ((hr.append (.cons h₁.2 .nil)).mono fun b o q => ⟨kp b o q.2 q.1, q.2⟩)) (by simp)
  exact ⟨h₁.1.trans S, .nn⟩
end
end Mine
end

section
open PySem PySem.W PyProof.Rows PySem.Spec PySem.Calls
namespace Mine
section
variable {C : Cx} {ρ : Rho} {μ μ₁ μ₂ : Mu} {N : Shared → Prop} {R : Value → Shared → Prop} {rest : List Stmt}

/-- an expression that stands for an object -/
def EvO (C : Cx) (μ : Mu) (e : Expr) (o : Own) : Prop :=
  ∃ a, (∀ s ρ, FI C s ρ μ → ∀ Q : Value → Shared → Prop, Q (.ref a) s → wpAny C.M C.A (eval e C.env) Q NoE s) ∧ ∀ s ρ, FI C s ρ μ → OwnRep C.p C.w s.heap C.ex a o

theorem EvO_own {x : Str} {xp : Pos} {o : Own} (hμ : μ.lookup x = some o) (hd : (x == ("__debug__" : Str)) = false := by decide) (hn : (x == ("__classdict__" : Str)) = false := by decide) (hox : (C.own.lookup x).isSome = true) : EvO C μ (.Name x xp) o := by
  obtain ⟨a, ha⟩ := Option.isSome_iff_exists.mp hox
  refine ⟨a, fun s ρ I Q h => I.own_name ha h hd hn, fun s ρ I => ?_⟩
  obtain ⟨b, h1, h2, _⟩ := I.owns x o hμ
  rw [ha] at h1; cases h1
  exact h2

/-- a dict of the top -/
structure TopD (p : Program) (w : World) (hb : Heap) (x : Str) (es : List (Str × D)) : Prop where
  at_ : ∃ a o kvs, GlobIs hb x (.ref a) ∧ hb.get? a = some o ∧ o.IsDictOf (PySem.strKind p w) kvs ∧ o.dict = none ∧ (a == sysModules) = false ∧ RepE p w (fun _ _ => False) kvs es

theorem EvO_top {x : Str} {xp : Pos} {es : List (Str × D)} (h : TopD C.p C.w C.hb x es) (hx : C.env.kindOf x = some .globalImplicit := by rfl) (hd : (x == ("__debug__" : Str)) = false := by decide) : EvO C μ (.Name x xp) (.dct es) := by
  obtain ⟨a, o, kvs, g, ho, hdo, hn, hs, hr⟩ := h.at_
  exact ⟨a, fun s ρ I Q h => name_glob I g hx h hd, fun s ρ I => .dct (I.hbk _ _ ho) hdo hn hs (hr.mono fun _ _ q => q.elim)⟩

def SubO (p : Program) (w : World) (A : Around) (hb : Heap) (o : Own) (di d : D) : Prop :=
  ∀ X s a u, Rm A hb s → Low X s → OwnRep p w s.heap X a o → Rep p w (vw s.heap X) u di →
    (∃ T id, typeLookup (.type T) "__getitem__" = pure (some (.builtin id)) ∧ s.TypeIs (.ref a) T) ∧ VOp p w A X s (getItem (.ref a) u) d

theorem Ev_subscr_o {v i : Expr} {pos : Pos} {o : Own} {di d : D} (hl : EvO C μ v o) (hr : Ev C ρ μ i di μ) (k : SubO C.p C.w C.A C.hb o di d)
    (hs : ∀ o u, subscripted i false o u = operate [o, u] (getItem o u) := by intros; rfl) : Ev C ρ μ (.Subscript v i pos) d μ := .mk fun s I => by
  obtain ⟨a, h1, h2⟩ := hl
  rw [eval_Subscript]
  refine wpAny_bind (h1 s ρ I _ (wpAny_bind (wpAny_holding ?_)))
  refine wpAny_mono (hr.run s I) (fun u s₂ h₂ => wpAny_bind (wpAny_standAt ?_)) fun _ _ x => x
  have I₂ := I.step h₂.1
  obtain ⟨⟨T, id, hT, ht⟩, q⟩ := k _ s₂ a u I₂.rm I₂.lt (h2 s₂ ρ I₂) h₂.2
  refine wpAny_bind ?_
  rw [getitemInPython_of_ne ht.not_modules]
  refine wpAny_bind (wpAny_specialOf ht hT ?_)
  refine wpAny_pure (wpAny_bind ?_)
  rw [hs]
  refine wpAny_operating (wpAny_mono q (fun r s₃ h₃ => ?_) fun _ _ x => x)
  exact wpAny_bind (wpAny_letTemporaryGo (wpAny_pure ⟨h₂.1.more h₃.1, h₃.2⟩))

theorem subO_lst {p : Program} {w : World} {A : Around} {hb : Heap} {ds : List D} {k : Int} {d : D} (h0 : 0 ≤ k) (h1 : k < 2 ^ 63) (hd : ds[k.toNat]? = some d) : SubO p w A hb (.lst ds) (.int k) d := fun X s a u rm low r q => by
  cases q
  cases r with
  | @lst vs _ hl hr =>
    obtain ⟨x, hx, rx⟩ := hr.get hd
    exact ⟨⟨"list", _, list_getitem_lookup, hl.typeIs⟩, wpAny_getItem_list hl h0 h1 (by simpa using hx) ⟨.refl s, rx⟩⟩
theorem subO_dct {p : Program} {w : World} {A : Around} {hb : Heap} {es : List (Str × D)} {k : Str} {d : D} (hd : es.lookup k = some d) : SubO p w A hb (.dct es) (.str k) d := fun X s a u rm low r q => by
  cases q
  cases r with
  | @dct o kvs _ ho hdo hdn hsys hr =>
    have hD := Heap.dictOf_iff.mpr ⟨o, ho, hdo⟩
    rcases hr.at_ k with ⟨q, _⟩ | ⟨d', v, q1, q2, q3⟩
    · rw [hd] at q; cases q
    · rw [hd] at q1; cases q1
      exact ⟨⟨"dict", _, slot_dict_getitem.lookup, hD.typeIs⟩, wpAny_getItem_of (knd := strKind p w) (strKind_is _ _ _ _) hD.mapOf q2 ⟨.ofToks s _, q3⟩⟩

/-- an immutable dict's item, and its key -/
theorem sub_dct {p : Program} {w : World} {A : Around} {hb : Heap} {es : List (Str × D)} {k : Str} {d : D} (hd : es.lookup k = some d) : SubD p w A hb (.dct es) (.str k) d := fun X s v u rm low r q => by
  cases q
  cases r with
  | @dct a o kvs _ ho hdo hsys hr =>
    have hD := Heap.dictOf_iff.mpr ⟨o, ho.1, hdo⟩
    rcases hr.at_ k with ⟨q, _⟩ | ⟨d', v, q1, q2, q3⟩
    · rw [hd] at q; cases q
    · rw [hd] at q1; cases q1
      exact ⟨⟨"dict", _, slot_dict_getitem.lookup, hD.typeIs⟩, wpAny_getItem_of (knd := strKind p w) (strKind_is _ _ _ _) hD.mapOf q2 ⟨.ofToks s _, q3⟩⟩

theorem EvT_in_o {l e : Expr} {pos : Pos} {es : List (Str × D)} {k : Str} (hl : Ev C ρ μ l (.str k) μ) (ho : EvO C μ e (.dct es))
    (hm : behindInMarks .In e = false := by with_unfolding_all rfl) : EvT C ρ μ (.Compare l [.In] [e] pos) (es.lookup k).isSome μ := .mk fun s I => by
  obtain ⟨a, h1, h2⟩ := ho
  refine wpAny_isTrue_Compare1 (wpAny_mono (hl.run s I) (fun v s₁ h₁ => ?_) fun _ _ x => x) hm
  have I₁ := I.step h₁.1
  refine h1 s₁ ρ I₁ _ ?_
  have hv := h₁.2
  cases hv with
  | str _ t =>
  have r := h2 s₁ ρ I₁
  cases r with
  | @dct o kvs _ ho hdo hdn hsys hr =>
  refine wpAny_in_of (knd := strKind C.p C.w) (strKind_is _ _ _ _) hsys (Heap.dictOf_iff.mpr ⟨o, ho, hdo⟩).mapOf ?_
  refine wpAny_truthy_bool ⟨h₁.1.more (.ofToks s₁ _), ?_⟩
  rcases hr.at_ k with ⟨q1, q2⟩ | ⟨d', v, q1, q2, q3⟩ <;> rw [q1, q2] <;> rfl

theorem Ev_get2_o {o k d : Expr} {ap pos : Pos} {es : List (Str × D)} {x : Str} {dd : D} (ho : EvO C μ o (.dct es)) (hk : Ev C ρ μ k (.str x) μ) (hd : Ev C ρ μ d dd μ)
    (hbase : ∀ env, attributeBase o "get" env (eval o env) = eval o env := by intros; rfl)
    (hst : ∀ env, starEach [k, d] env = [(false, eval k env), (false, eval d env)] := by intros; rfl) (hline : (ap.endLine == pos.line) = true := by decide) :
    Ev C ρ μ (.Call (.Attribute o "get" ap) [k, d] [] pos) ((es.lookup x).getD dd) μ := .mk fun s I => by
  obtain ⟨a, h1, h2⟩ := ho
  refine Call_method2 (hbase _) (hst _) hline (h1 s ρ I _ ?_)
  have r := h2 s ρ I
  cases r with
  | @dct ob kvs _ ho hdo hdn hsys hr =>
  have hD := Heap.dictOf_iff.mpr ⟨ob, ho, hdo⟩
  refine ⟨"dict", "dict.get", F.plainAttrs_dict, F.slot_dict_get, F.type_dict_get, hD.typeIs, hD.mapOf.noDict, ?_⟩
  refine wpAny_dict_get2 (knd := strKind C.p C.w) hsys (wpAny_mono (hk.run s I) (fun key s₁ h₁ => wpAny_mono (hd.run s₁ (I.step h₁.1)) (fun dv s₂ h₂ => ?_) fun _ _ q => q) fun _ _ q => q)
  have I₂ := (I.step h₁.1).step h₂.1
  have hv := h₁.2
  cases hv with
  | str _ t =>
  have r := h2 s₂ ρ I₂
  cases r with
  | @dct ob kvs _ ho hdo hdn hsys hr =>
  refine ⟨x, valueAt kvs, strKind_is _ _ _ _, (Heap.dictOf_iff.mpr ⟨ob, ho, hdo⟩).mapOf, (h₁.1.trans h₂.1).more (.ofToks s₂ _), ?_⟩
  rcases hr.at_ x with ⟨q1, q2⟩ | ⟨d', v, q1, q2, q3⟩ <;> rw [q1, q2]
  · exact h₂.2
  · exact q3

def CallO (p : Program) (w : World) (A : Around) (hb : Heap) (f : Value) (o : Own) (d : D) : Prop :=
  ∀ X s a, Rm A hb s → Low X s → OwnRep p w s.heap X a o → VOp p w A X s (call f [.ref a]) d
theorem Ev_call_bi_o {x : Str} {np pos : Pos} {e : Expr} {id : String} {o : Own} {d : D} (g : BuiltIs C.hb x (.builtin id)) (h : EvO C μ e o) (k : CallO C.p C.w C.A C.hb (.builtin id) o d)
    (hx : C.env.kindOf x = some .globalImplicit := by rfl) (he : ∀ env, starEach [e] env = (false, eval e env) :: starEach [] env := by intros; rfl)
    (hpl : ∀ env, (backTo pos (starEach [] env)).any (·.1) = false := by intros; rfl)
    (hdb : (x == ("__debug__" : Str)) = false := by decide) : Ev C ρ μ (.Call (.Name x np) [e] [] pos) d μ := .mk fun s I => by
  obtain ⟨a, h1, h2⟩ := h
  refine wpAny_Call_NameR (name_built I g hx (callWith_builtin1 ?_ (he _) (hpl _)) hdb)
  refine wpAny_items_cons (h1 s ρ I _ (wpAny_items_nil ?_)) (he _)
  exact wpAny_mono (k _ s a I.rm I.lt (h2 s ρ I)) (fun v s₂ h₂ => ⟨(Stp.refl I).more h₂.1, h₂.2⟩) fun _ _ x => x

theorem callO_len {p : Program} {w : World} {A : Around} {hb : Heap} {es : List (Str × D)} (h : (es.length : Int) < 2 ^ 63) : CallO p w A hb (.builtin "len") (.dct es) (.int es.length) := fun X s a rm low r => by
  cases r with
  | @dct o kvs _ ho hdo hdn hsys hr =>
  have e : kvs.length = es.length := by simpa using congrArg List.length hr.names
  refine call_len_dict (knd := strKind p w) hsys (Heap.dictOf_iff.mpr ⟨o, ho, hdo⟩) (by rw [e]; exact h) ?_
  rw [e]
  exact ⟨.ofToks s _, .int _ _⟩
end
end Mine
end

section
open PySem PySem.W PyProof.Rows PySem.Spec PySem.Calls PySem.Builtin PySem.Builtin.Str
namespace Mine

theorem reps_strs {p : Program} {w : World} {H : HV} : ∀ (l : List (Str × Tok)), Reps p w H (strValues l) ((l.map (·.1)).map .str)
  | [] => .nil
  | (x, t) :: r => .cons (.str x t) (reps_strs r)
theorem strs_reps {p : Program} {w : World} {H : HV} : ∀ {vs : List Value} {ts : List Str}, Reps p w H vs (ts.map .str) → ∃ l, vs = strValues l ∧ l.map (·.1) = ts
  | [], [], _ => ⟨[], rfl, rfl⟩
  | [], t :: ts, h => by cases h
  | v :: vs, [], h => by cases h
  | v :: vs, t :: ts, h => by
    cases h with
    | cons h r =>
      cases h with
      | str x k =>
        obtain ⟨l, rfl, rfl⟩ := strs_reps r
        exact ⟨(t, k) :: l, rfl, rfl⟩
theorem StrsAre_of_get : ∀ {vs : List Value} {ss : List Str}, vs.length = ss.length → (∀ (j : Nat) (v : Value) (x : Str), vs[j]? = some v → ss[j]? = some x → ∃ t, v = .str x t) → StrsAre vs ss
  | [], [], _, _ => .nil
  | [], _ :: _, h, _ => by simp at h
  | _ :: _, [], h, _ => by simp at h
  | v :: vs, x :: ss, h, k => by
    obtain ⟨t, rfl⟩ := k 0 v x rfl rfl
    exact .cons x t (StrsAre_of_get (by simpa using h) fun j v y h1 h2 => k (j + 1) v y (by simpa using h1) (by simpa using h2))
theorem reps_StrsAre {p : Program} {w : World} {H : HV} : ∀ {vs : List Value} {ss : List Str}, StrsAre vs ss → Reps p w H vs (ss.map .str)
  | _, _, .nil => .nil
  | _, _, .cons x t h => .cons (.str x t) (reps_StrsAre h)

section
variable {C : Cx} {ρ : Rho} {μ μ₁ μ₂ : Mu} {N : Shared → Prop} {R : Value → Shared → Prop} {rest : List Stmt}

theorem Ev_lower {o : Expr} {ap pos : Pos} {x : Str} (h : Ev C ρ μ o (.str x) μ₁) (hfit : tooLong (Txt.lower x).length = false)
    (hbase : ∀ env, attributeBase o "lower" env (eval o env) = eval o env := by intros; rfl) (hline : (ap.endLine == pos.line) = true := by decide) :
    Ev C ρ μ (.Call (.Attribute o "lower" ap) [] [] pos) (.str (Txt.lower x)) μ₁ := .mk fun s I =>
  Call_method0 (hbase _) hline (wpAny_mono (h.run s I) (fun v s₁ h₁ => by
    have hv := h₁.2
    cases hv with
    | str _ t => exact SB.lower hfit ⟨h₁.1.more (.ofToks s₁ _), .str _ _⟩) fun _ _ q => q)

theorem Ev_split {o : Expr} {ap pos : Pos} {x : Str} {ws : List Str} (h : Ev C ρ μ o (.str x) μ₁) (hw : PySem.wordsOf x = ws) (h1 : (spaceWords x (x.length + 1) == [(0, x.length)]) = false)
    (hx : x.length ≤ sizeLine) (hn : (spaceWords x (x.length + 1)).length ≤ sizeLine)
    (hbase : ∀ env, attributeBase o "split" env (eval o env) = eval o env := by intros; rfl) (hline : (ap.endLine == pos.line) = true := by decide) :
    Ev C ρ μ (.Call (.Attribute o "split" ap) [] [] pos) (.lst (ws.map .str)) μ₁ := .mk fun s I =>
  Call_method0 (hbase _) hline (wpAny_mono (h.run s I) (fun v s₁ h₁ => by
    have hv := h₁.2
    cases hv with
    | str _ t =>
    refine ⟨"str", _, F.plainAttrs_str, F.slot_str_split, F.type_str_split, typeIs_str _ _ _, (fun _ e => nomatch e),
      method0_meets F.slot_str_split F.entry_str_split (typeIs_str _ _ _) (F.args_str_split_1 _) (meets_str_split_space x t hx hn) ?_⟩
    simp only [h1, Bool.false_eq_true, if_false]
    rw [strsFrom_eq, hw]
    have e : (numbered s₁.toks ws).map (·.1) = ws := numbered_texts _ _
    obtain ⟨g, o, r⟩ := new_seq (I.step h₁.1).lt (p := C.p) (w := C.w) (reps_strs (numbered s₁.toks ws)) "list"
    rw [e] at r
    exact ⟨h₁.1.more (.ofPush s₁ _ _), .lst o rfl rfl r⟩) fun _ _ q => q)

theorem Ev_join {o e : Expr} {ap pos : Pos} {x : Str} {ts : List Str} (h : Ev C ρ μ o (.str x) μ₁) (he : Ev C ρ μ₁ e (.lst (ts.map .str)) μ₂) (hok : JoinOk x ts = true)
    (hbase : ∀ env, attributeBase o "join" env (eval o env) = eval o env := by intros; rfl) (hst : ∀ env, starEach [e] env = [(false, eval e env)] := by intros; rfl) (hline : (ap.endLine == pos.line) = true := by decide) :
    Ev C ρ μ (.Call (.Attribute o "join" ap) [e] [] pos) (.str (Txt.join x ts)) μ₂ := .mk fun s I =>
  Call_method1 (hbase _) (hst _) hline (wpAny_mono (h.run s I) (fun v s₁ h₁ => by
    have hv := h₁.2
    cases hv with
    | str _ t =>
    refine SB.join (wpAny_mono (he.run s₁ (I.step h₁.1)) (fun u s₂ h₂ => ?_) fun _ _ q => q)
    obtain ⟨a, us, e1, hl, hr, _⟩ := h₂.2.lst_inv
    obtain ⟨l, rfl, hl2⟩ := strs_reps hr
    exact ⟨a, l, e1, hl, ts, hl2, hok, fun t' k => ⟨(h₁.1.trans h₂.1).more (.ofToks s₂ _), .str _ _⟩⟩) fun _ _ q => q)

set_option maxHeartbeats 1000000 in
theorem callO_sorted {p : Program} {w : World} {A : Around} {hb : Heap} {es : List (Str × D)} {ss : List Str} (hz : es.length < 64) (hs : ∀ ss' : List Str, ss'.Perm (es.map (·.1)) → sortedS ss' = true → ss' = ss) :
    CallO p w A hb (.builtin "sorted") (.dct es) (.lst (ss.map .str)) := fun X s a rm low r => by
  cases r with
  | @dct o kvs _ ho hdo hdn hsys hr =>
  have e : kvs.length = es.length := by simpa using congrArg List.length hr.names
  have hD := Heap.dictOf_iff.mpr ⟨o, ho, hdo⟩
  obtain ⟨ep, hat⟩ := hD.dictAt
  have main : wpAny (model p w) A (call (.builtin "sorted") [.ref a]) (fun v s' => s' = { s with heap := s'.heap, toks := s'.toks } ∧ (∀ b o, s.heap.get? b = some o → s'.heap.get? b = some o) ∧ Rep p w (vw s'.heap X) v (.lst (ss.map .str))) NoE s := by
    refine call_function_entry kind_sorted plain_sorted entry_sorted (args_sorted1 _) ?_
    unfold Builtin.«sorted»
    refine wpAny_bind (m := checkCount "sorted" 1 1 _) (wpAny_pure ?_)
    refine wpAny_bind (wpAny_mono (wpAny_size (kdu_collect (A := A.in1) (kdl_dict (knd := PySem.strKind p w) (kvs := kvs) (ep := ep) hsys) rm.hh hat (kdl_size (by lia)) (R := fun l s' => ∃ (h' : Heap) (tk : Nat) (acc : Array Value), l = acc.toList ∧ s' = { s with heap := h', toks := tk } ∧ (∀ b o, s.heap.get? b = some o → h'.get? b = some o) ∧ ItemsOf _ acc kvs.length) fun h' tk acc hk hacc => ⟨h', tk, acc, rfl, rfl, hk, hacc⟩)) (fun l s' hh => ?_) fun _ _ q => q.2)
    obtain ⟨hsz0, h', tk, acc, rfl, rfl, hk, hacc⟩ := hh
    have hsz : s.heap.objs.size ≤ h'.objs.size := hsz0
    have hl : acc.toList.length = kvs.length := by rw [Array.length_toList]; exact hacc.1
    have hS : StrsAre acc.toList (kvs.map (·.1)) := by
      refine StrsAre_of_get (by simpa using hl) fun j v x h1 h2 => ?_
      obtain ⟨k, y, h3, h4⟩ := hacc.2 j v (by simpa using h1)
      rw [List.getElem?_map, h3] at h2
      have h2' : k = x := by simpa using h2
      subst h2'
      cases v <;> simp [PySem.strKind, Value.isStrOf] at h4
      rename_i y' t'
      subst h4
      exact ⟨t', rfl⟩
    refine wpAny_bind (wpAny_newList ?_ (kdl_size (by lia)))
    have hoL : (h'.push { cls := .type "list", data := .seq acc.toList.toArray }).get? h'.objs.size = some (seqObj "list" acc.toList.toArray 0) := Heap.get?_push_size _ rfl
    refine wpAny_bind (wpAny_holding (wpAny_call_entry slot_list_sort ⟨_, hoL, rfl⟩ entry_list_sort (list_sort_treeK strKind_oneLt hoL hS.keysOf (fun v₁ v₂ rest e => keyKind_strs (by rw [← e]; exact hS)) (by lia) fun st' a1 a2 => ⟨_, rfl, ?_⟩) (args_list_sort _)))
    obtain ⟨ss', b1, b2, b3⟩ := sorted_out_str hS a1 a2
    rw [hr.names] at b2
    have hss := hs ss' b2 b3
    subst hss
    obtain ⟨ee, hee⟩ := sortedHeap_at (out := (arrOf st').map (·.2)) hoL
    refine wpAny_pure ⟨_, rfl, rfl, fun b o q => ?_, ?_⟩
    · have h1 := hk b o q
      have h2 : @LT.lt Nat _ b h'.objs.size := Heap.lt_size h1
      dsimp only
      rw [sortedHeap_old (Nat.ne_of_lt h2) (by rw [size_push']; exact Nat.lt_succ_of_lt h2)]
      exact Heap.get?_push_of_some _ h1
    · refine .lst (a := h'.objs.size) (vs := ((arrOf st').map (·.2)).toList) (n := ee) ⟨hee, fun q => ?_⟩ rfl (by show Data.seq _ _ = Data.seq _ _; rw [Array.toArray_toList]) (reps_StrsAre b1)
      have h1 : @LT.lt Nat _ h'.objs.size s.heap.objs.size := low _ q
      exact absurd h1 (Nat.not_lt.mpr hsz)
  exact wpAny_mono (wpAny_size main) (fun v s' h => ⟨⟨h.2.1, h.1, fun b o _ q => h.2.2.1 b o q⟩, h.2.2.2⟩) fun _ _ q => q.2
end
end Mine
end

section
open PySem PySem.W PyProof.Rows PySem.Spec PySem.Calls
namespace Mine
section
variable {C : Cx} {ρ : Rho} {μ μ₁ μ₂ : Mu} {N : Shared → Prop} {R : Value → Shared → Prop} {rest : List Stmt}

/-- one expression that makes an object of its own, or flat data -/
structure Mk1 (C : Cx) (ρ : Rho) (μ : Mu) (e : Expr) (Sh : RK → Prop) : Prop where
  run : ∀ s, FI C s ρ μ → wpAny C.M C.A (eval e C.env) (fun v s' => Grow Nil s s' ∧ ∃ r, Sh r ∧ RKIs C.p C.w s'.heap v r ∧ (∀ a, a ∈ RK.adr r → s.heap.objs.size ≤ a ∧ a < s'.heap.objs.size) ∧ (RK.adr r).Nodup) NoE s

theorem RKIs.keeps {p : Program} {w : World} {h h' : Heap} {v : Value} {r : RK} (x : RKIs p w h v r) (k : ∀ a o, h.get? a = some o → h'.get? a = some o) : RKIs p w h' v r := by
  have := RKs.keeps (RKs.cons x .nil) (h' := h') (fun a _ o e => k a o e)
  cases this with | cons a _ => exact a

theorem Mks_nil : Mks C ρ μ [] (fun rs => rs = []) := .mk fun pos s I => wpAny_items_nil ⟨.refl s, [], rfl, .nil, by simp [adrs], by simp [adrs], rfl⟩
theorem Mks_cons {e : Expr} {es : List Expr} {Sh : RK → Prop} {Sh2 : List RK → Prop} (h : Mk1 C ρ μ e Sh) (k : Mks C ρ μ es Sh2) (he : ∀ env, starEach (e :: es) env = (false, eval e env) :: starEach es env := by intros; rfl) :
    Mks C ρ μ (e :: es) (fun rs => ∃ r rs', rs = r :: rs' ∧ Sh r ∧ Sh2 rs') := .mk fun pos s I =>
  wpAny_items_cons (wpAny_mono (h.run s I) (fun v s₁ h₁ => by
    obtain ⟨g, r, hs, hr, ha, hn⟩ := h₁
    refine wpAny_mono (k.run pos s₁ (I.growT g)) (fun vs s₂ h₂ => ?_) fun _ _ x => x
    obtain ⟨g2, rs, hs2, hr2, ha2, hn2, hl⟩ := h₂
    refine ⟨g.trans g2, r :: rs, ⟨r, rs, rfl, hs, hs2⟩, .cons (hr.keeps fun a o e => g2.keep a o (fun q => q) e) hr2, ?_, ?_, by simp [hl]⟩
    · intro a h
      simp only [adrs, List.flatMap_cons, List.mem_append] at h
      rcases h with h | h
      · exact ⟨(ha a h).1, Nat.lt_of_lt_of_le (ha a h).2 g2.size⟩
      · exact ⟨Nat.le_trans g.size (ha2 a h).1, (ha2 a h).2⟩
    · simp only [adrs, List.flatMap_cons]
      refine List.nodup_append.mpr ⟨hn, hn2, fun a h b h' e => ?_⟩
      subst e
      exact absurd (ha a h).2 (Nat.not_lt.mpr (ha2 a h').1)) fun _ _ x => x) (he _)

/-- data without an address -/
def D.flat : D → Bool
  | .none | .bool _ | .int _ | .str _ => true
  | _ => false
theorem Rep.flat {p : Program} {w : World} {H H' : HV} {v : Value} {d : D} (r : Rep p w H v d) (h : d.flat = true) : Rep p w H' v d := by
  cases r <;> first | (exfalso; simp [D.flat] at h; done) | constructor

theorem Mk1_fl {e : Expr} {d : D} (h : Ev C ρ μ e d μ) (hoa : ∀ a, ¬ C.oa a) (hf : d.flat = true := by rfl) : Mk1 C ρ μ e (fun r => r = .fl d) := .mk fun s I =>
  wpAny_mono (h.run s I) (fun v s' h' => ⟨h'.1.grow.weak fun a q => (hoa a q).elim, _, rfl, fun H => h'.2.flat hf, by simp [RK.adr], by simp [RK.adr]⟩) fun _ _ q => q
theorem Mk1_list0 {pos : Pos} : Mk1 C ρ μ (.List [] pos) (fun r => ∃ a, r = .ow a (.pls [])) := .mk fun s I =>
  wpAny_List (wpAny_items_nil ⟨by decide, .ofPush s _ _, _, ⟨_, rfl⟩, ⟨rfl, fun X => .pls (vs := []) ⟨0, Heap.get?_push_size _ rfl⟩ .nil⟩, by simp [RK.adr], by simp [RK.adr]⟩)
theorem Mk1_dict0 {pos : Pos} (hsys : ∃ b o, sysModules ≤ b ∧ C.hb.get? b = some o) : Mk1 C ρ μ (.Dict [] [] pos) (fun r => ∃ a, r = .ow a (.dct [])) := .mk fun s I => by
  refine wpAny_Dict_empty ⟨.ofPush s _ s.toks, _, ⟨_, rfl⟩, ⟨rfl, fun X => ?_⟩, by simp [RK.adr], by simp [RK.adr]⟩
  obtain ⟨o, ho, hdo⟩ := Heap.dictOf_iff.mp (Heap.DictOf.new (knd := strKind C.p C.w) s.heap)
  have e : o.dict = none := by rw [Heap.get?_push_size _ rfl] at ho; cases ho; rfl
  refine .dct ho hdo e ?_ .nil
  obtain ⟨b, ob, h1, h2⟩ := hsys
  have h3 : @LT.lt Nat _ b s.heap.objs.size := Heap.lt_size (I.hbk _ _ h2)
  rw [beq_eq_false_iff_ne]
  intro q
  rw [← q] at h1
  exact absurd h1 (Nat.not_le.mpr h3)

theorem Mk1_range {np pos : Pos} {e : Expr} {a b c : Int} {n : Nat} (g : BuiltIs C.hb "list" (.type "list")) (h : Ev C ρ μ e (.rng a b c) μ) (hoa : ∀ a, ¬ C.oa a)
    (hsmall : Builtin.Range.small a b c = true) (hn : Builtin.Range.rangeSize a b c = n) (hlen : n ≤ 2 ^ 24)
    (hx : C.env.kindOf "list" = some .globalImplicit := by rfl) (he : ∀ env, starEach [e] env = (false, eval e env) :: starEach [] env := by intros; rfl)
    (hpl : ∀ env, (backTo pos (starEach [] env)).any (·.1) = false := by intros; rfl) :
    Mk1 C ρ μ (.Call (.Name "list" np) [e] [] pos) (fun r => ∃ ad, r = .ow ad (.lst ((List.range n).map fun (i : Nat) => D.int (a + i * c)))) := .mk fun s I => by
  refine wpAny_Call_NameR (name_built I g hx (PyProof.Rows.callWith_type1 ?_ (he _) (hpl _)) (by decide))
  refine wpAny_items_cons (wpAny_mono (h.run s I) (fun v s₁ h₁ => wpAny_items_nil ?_) fun _ _ q => q) (he _)
  have hv := h₁.2
  cases hv with
  | rng ho =>
  have g0 : Grow Nil s s₁ := h₁.1.grow.weak fun a q => (hoa a q).elim
  refine wpAny_mono (wpAny_size (call_list_range I.ok.hh ho.1 hsmall hn hlen (Q := fun v s' => s' = { s₁ with heap := s'.heap, toks := s'.toks } ∧ (∀ b o, s₁.heap.get? b = some o → s'.heap.get? b = some o) ∧ v = .ref s₁.heap.objs.size ∧
    ∃ acc c', s'.heap.get? s₁.heap.objs.size = some { cls := .type "list", dict := none, data := .seq acc c', slots := #[] } ∧ ItemsOf (fun i v => ∃ t, v = .int (a + i * c) t) acc n)
    fun h' tk acc c' k1 k2 k3 => ⟨rfl, k1, rfl, acc, c', k2, k3⟩)) (fun v s' h => ?_) fun _ _ q => q.2
  obtain ⟨z, e1, kp, rfl, acc, c', ho2, hit⟩ := h
  have gg : Grow Nil s s' := g0.trans ⟨e1, z, fun b o _ q => kp b o q⟩
  refine ⟨gg, _, ⟨_, rfl⟩, ⟨rfl, fun X => ?_⟩, ?_, by simp [RK.adr]⟩
  · refine .lst (vs := acc.toList) ⟨_, ho2, rfl, c', by simp⟩ (Reps.of_get (by rw [Array.length_toList, hit.1]; simp) fun k v d h1 h2 => ?_)
    obtain ⟨t, rfl⟩ := hit.2 k v (by simpa using h1)
    have hk : k < n := by
      have := (List.getElem?_eq_some_iff.mp h2).1
      simpa using this
    simp [hk] at h2
    rw [← h2]
    exact .int _ _
  · intro b hb
    simp [RK.adr] at hb
    rw [hb]
    exact ⟨g0.size, Heap.lt_size ho2⟩

theorem Ex_make1 {x : Str} {px pos : Pos} {e : Expr} {Sh : RK → Prop} (h : Mk1 C ρ μ e Sh) (ok : StoreOk C x)
    (kk : ∀ r, Sh r → (RK.adr r).Nodup → (∀ a, a ∈ RK.adr r → ¬ C.ox a) → Ex (mkC C [x] [r]) (mkFl [x] [r] ++ delR x ρ) (mkMu [x] [r] ++ μ) rest N R)
    (hs : swapsWith e (some (.Name x px)) pos.line C.env = pure false := by rfl) : Ex C ρ μ (.Assign [.Name x px] e pos :: rest) N R := Ex_cons0 fun s I =>
  wpAny_Assign_Name (wpAny_mono (h.run s I) (fun v s₃ h₁ => by
    obtain ⟨g, r, hsh, hr, ha, hnd⟩ := h₁
    have ea : adrs [r] = RK.adr r := by simp [adrs]
    have I₁ : FI (wX C fun a => C.X a ∨ a ∈ adrs [r]) s₃ ρ μ := I.addX g (by rw [ea]; exact ha)
    have ha' : ∀ (a : Nat), a ∈ adrs [r] → s.heap.objs.size ≤ a ∧ a < s₃.heap.objs.size := by rw [ea]; exact ha
    have sr := store_raw (C := wX C fun a => C.X a ∨ a ∈ adrs [r]) (v := v) I₁ ok
    refine wpAny_mono sr (fun _ s₄ h₄ => ?_) fun _ _ q => q
    obtain ⟨g₄, I₄, r₄, o₄⟩ := h₄
    have nfa : ∀ a, a ∈ adrs [r] → ¬ C.fa a := fun a h q => I.notEx (ha' a h).1 (.inr (.inl q))
    have ncl : ∀ n a, a ∈ adrs [r] → (n, a) ∉ C.env.cells := fun n a h q => I.notFr (ha' a h).1 (.inr ⟨n, q⟩)
    have I₅ : FI (mkC C [x] [r]) s₄ (mkFl [x] [r] ++ delR x ρ) (mkMu [x] [r] ++ μ) := by
      refine FI.made (xs := [x]) (vs := [v]) I.ok I₄ ((RKs.cons hr .nil).keeps fun a h o e => g₄.keep a o (nfa a h) e) (fun i y u h1 h2 => ?_) (fun y hy => by rw [List.mem_singleton.mp hy]; exact ok.2) (fun a h => Nat.le_trans I.base.size (ha' a h).1) nfa ncl
      cases i with
      | zero => simp at h1 h2; subst h1 h2; exact r₄
      | succ i => simp at h1
    have g04 : Grow C.fo s s₄ := (g.weak fun _ q => q.elim).trans (Grow.ofFa (C := C) g₄)
    refine wpAny_mono ((kk r hsh hnd (fun a h q => I.notEx (ha a h).1 ((I.ok.oxe a q).elim .inl fun z => .inr (.inr z)))).run s₄ I₅) (fun f s₅ h₅ => ⟨?_, h₅.2⟩) fun _ _ q => q
    refine ⟨by rw [h₅.1.same, g04.same], Nat.le_trans g04.size h₅.1.size, fun a o z e => h₅.1.keep a o (fun q => ?_) (g04.keep a o z e)⟩
    rcases q with q | q | q
    · exact z (.inl q)
    · exact z (.inr q)
    · have h1 := (ha' a q).1
      have h2 : @LT.lt Nat _ a s.heap.objs.size := Heap.lt_size e
      lia) fun _ _ q => q) hs
end
end Mine
end

section
open PySem PySem.W PyProof.Rows PySem.Spec PySem.Calls
namespace Mine
section
variable {p : Program} {w : World} {A : Around} {hb : Heap}

theorem tup_getitem_lookup : typeLookup (.type "tuple") "__getitem__" = pure (some (.builtin "tuple.__getitem__")) := slot_tuple_getitem.lookup
theorem sub_tup {ds : List D} {k : Int} {j : Nat} {d : D} (hlo : -(2 ^ 63) ≤ k) (hhi : k < 2 ^ 63) (hj : seqIndex? k ds.length = some j) (hd : ds[j]? = some d) : SubD p w A hb (.tup ds) (.int k) d := fun X s v u rm low r q => by
  cases q
  cases r with
  | @tup a o vs n _ ho hc hdt hr =>
    have hl : IsTup s.heap a vs.toArray := ⟨o, ho.1, hc, n, hdt⟩
    obtain ⟨x, hx, rx⟩ := hr.get hd
    refine ⟨⟨"tuple", _, tup_getitem_lookup, hl.typeIs⟩, PyProof.Rows.getItem_tuple hl hlo hhi (j := j) (by rw [List.size_toArray, hr.length]; exact hj) (by simpa using hx) ⟨.refl s, rx⟩⟩

theorem cmp_ne_tup_strs {x y : List Str} (hu : A.units < cLine) (hl : x.length = y.length) : CmpD p w A hb .NotEq (.tup (x.map .str)) (.tup (y.map .str)) (!((List.range x.length).all fun i => x[i]? == y[i]?)) := fun X s v u rm low r q => by
  cases r with
  | @tup a o vs n _ ho hc hdt hr =>
  cases q with
  | @tup a2 o2 vs2 n2 _ ho2 hc2 hdt2 hr2 =>
  have l1 : vs.length = x.length := by simpa using hr.length
  have l2 : vs2.length = y.length := by simpa using hr2.length
  have key := SeqAt.RcNeAt.tuples (A := A) (s := s) (l := a) (b := a2) (items := vs.toArray) (items2 := vs2.toArray) (e := fun i => x[i]? == y[i]?) ⟨o, ho.1, hc, n, hdt⟩ ⟨o2, ho2.1, hc2, n2, hdt2⟩ hu (fun j h1 h2 => by
    have h1' : j < vs.length := by simpa using h1
    have h2' : j < vs2.length := by simpa using h2
    have hx : x[j]? = some (x[j]'(l1 ▸ h1')) := List.getElem?_eq_getElem _
    have hy : y[j]? = some (y[j]'(l2 ▸ h2')) := List.getElem?_eq_getElem _
    obtain ⟨v1, e1, r1⟩ := hr.get (k := j) (d := .str (x[j]'(l1 ▸ h1'))) (by rw [List.getElem?_map, hx]; rfl)
    obtain ⟨v2, e2, r2⟩ := hr2.get (k := j) (d := .str (y[j]'(l2 ▸ h2'))) (by rw [List.getElem?_map, hy]; rfl)
    obtain ⟨t1, rfl⟩ := r1.str_inv
    obtain ⟨t2, rfl⟩ := r2.str_inv
    have g1 : vs.toArray[j] = .str (x[j]'(l1 ▸ h1')) t1 := by
      have := List.getElem?_eq_getElem h1'
      rw [e1] at this; simpa using (Option.some.inj this).symm
    have g2 : vs2.toArray[j] = .str (y[j]'(l2 ▸ h2')) t2 := by
      have := List.getElem?_eq_getElem h2'
      rw [e2] at this; simpa using (Option.some.inj this).symm
    rw [g1, g2, hx, hy]
    exact SeqAt.EqAt.str_str _ _ _ _)
  refine key p w NoE (fun r s' => Grow Nil s s' ∧ Rep p w (vw s'.heap X) r _) ⟨.refl s, ?_⟩
  have e : (!((List.range (min vs.toArray.size vs2.toArray.size)).all (fun i => x[i]? == y[i]?) && vs.toArray.size == vs2.toArray.size)) = !((List.range x.length).all fun i => x[i]? == y[i]?) := by
    rw [List.size_toArray, List.size_toArray, l1, l2, ← hl, Nat.min_self]
    simp
  rw [e]
  exact .bool _

theorem Wk.ofWalksT {elts : List Expr} {k : Nat} {pos : Pos} {I : Addr} {fp wr : List Addr} {n : Nat} {Pt : Nat → Array Value → Prop} {St : Nat → Heap → Prop} {Mid : Nat → Addr → Heap → Prop} (W : WalksT p w A I fp wr n Pt St Mid) :
    Wk p w A (.Tuple elts k pos) I (fun b => b ∈ fp) (fun b => b ∈ wr) n (fun i v s s₂ => ∃ T vals, v = .ref T ∧ Pt i vals ∧ s.heap.objs.size ≤ T ∧ s₂.heap.IsTuple T vals) St where
  sub := fun b h => W.sub b h
  frame := fun i h h' st k => W.frame i h h' st k
  item := fun i s hi st => by
    refine wpAny_mono (wpAny_size (W.item i s (fun r s₁ => ∃ T vals h' tk, r = some (.ref T) ∧ s₁ = { s with heap := h', toks := tk } ∧ Pt i vals ∧ s.heap.objs.size ≤ T ∧ h'.IsTuple T vals ∧ Mid i T h' ∧ ∀ b o, b ∉ wr → s.heap.get? b = some o → h'.get? b = some o) NoE hi st
      (fun T vals h' tk hP hT hI hM hk => ⟨T, vals, h', tk, rfl, rfl, hP, hT, hI, hM, hk⟩))) ?_ fun _ _ q => q.2
    rintro r s₁ ⟨hz, T, vals, h', tk, rfl, rfl, hP, hT, hI, hM, hk⟩
    refine ⟨_, rfl, ?_⟩
    refine wpAny_mono (wpAny_size (W.go elts k pos i T { s with heap := h', toks := tk } (fun _ s₂ => ∃ h2, s₂ = { s with heap := h2, toks := tk } ∧ St (i + 1) h2 ∧ ∀ b o, b ∉ wr → h'.get? b = some o → h2.get? b = some o) NoE hM
      (fun h2 hs hk2 => ⟨h2, rfl, hs, hk2⟩))) ?_ fun _ _ q => q.2
    rintro _ s₂ ⟨hz2, h2, rfl, hst, hk2⟩
    refine ⟨.ofKeep s h2 tk (fun b o n e => hk2 b o n (hk b o n e)) (Nat.le_trans hz hz2), hst, T, vals, rfl, hP, hT, ?_⟩
    obtain ⟨o, ho, r⟩ := hI
    exact ⟨o, hk2 T o (W.apart i T h' hM) ho, r⟩
  done := fun s st => by
    refine wpAny_mono (wpAny_size (W.done s (fun r s₁ => r = none ∧ ∃ h' tk, s₁ = { s with heap := h', toks := tk } ∧ ∀ b o, b ∉ wr → s.heap.get? b = some o → h'.get? b = some o) NoE st
      (fun h' tk hk => ⟨rfl, h', tk, rfl, hk⟩))) ?_ fun _ _ q => q.2
    rintro r s₁ ⟨hz, rfl, h', tk, rfl, hk⟩
    exact ⟨rfl, .ofKeep s h' tk hk hz⟩
  self := fun i s Q E st q => W.self i s Q E st q
end

section
variable {C : Cx} {ρ : Rho} {μ μ₁ μ₂ : Mu} {N : Shared → Prop} {R : Value → Shared → Prop} {rest : List Stmt}
def pairs (a b : List D) : List D := (a.zip b).map fun x => D.tup [x.1, x.2]

theorem EvI_zip {np pos tp : Pos} {e1 e2 : Expr} {elts : List Expr} {k : Nat} {d1 d2 : List D} (g : BuiltIs C.hb "zip" (.type "zip")) (h : Evs C ρ μ [e1, e2] [.lst d1, .lst d2] μ₁)
    (hx : C.env.kindOf "zip" = some .globalImplicit := by rfl) (he : ∀ env, starEach [e1, e2] env = (false, eval e1 env) :: starEach [e2] env := by intros; rfl)
    (hpl : ∀ env, (backTo pos (starEach [e2] env)).any (·.1) = false := by intros; rfl) :
    EvI C ρ μ (.Call (.Name "zip" np) [e1, e2] [] pos) (.Tuple elts k tp) (pairs d1 d2) μ₁ := .mk fun s I => by
  refine wpAny_Call_NameR (name_built I g hx (PyProof.Rows.callWith_type1 (wpAny_mono (h.run pos s I) (fun vs s₁ h₁ => ?_) fun _ _ q => q) (he _) (hpl _)) (by decide))
  have I₁ := I.step h₁.1
  obtain ⟨v, u, rfl, r1, r2⟩ := h₁.2.two
  obtain ⟨l1, us1, rfl, hl1, hr1, n1⟩ := r1.lst_inv
  obtain ⟨l2, us2, rfl, hl2, hr2, n2⟩ := r2.lst_inv
  refine call_zip_2 hl1 hl2 fun h' hz hti hto hi1 hi2 hsz hk => ?_
  refine wpAny_pyIter_zip hz ⟨s₁, h₁.1, ⟨rfl, by show _ ≤ h'.objs.size; lia, fun b o _ e => hk b o e⟩, ?_⟩
  have b1 : @LT.lt Nat _ l1 s₁.heap.objs.size := Heap.lt_size hl1.choose_spec.1
  have b2 : @LT.lt Nat _ l2 s₁.heap.objs.size := Heap.lt_size hl2.choose_spec.1
  have ap : ZipApart (s₁.heap.objs.size + 4) (s₁.heap.objs.size + 2) (s₁.heap.objs.size + 3) s₁.heap.objs.size (s₁.heap.objs.size + 1) l1 l2 := by
    constructor <;> (intro (q : @Eq Nat _ _); lia)
  have nx : ∀ (b : Nat), s₁.heap.objs.size ≤ b → ¬ C.ex b := fun b h => I₁.notEx h
  refine ⟨_, _, _, _, _, _, rfl, ?_, Wk.ofWalksT (WalksT.zip2 I.ok.hh _ _ _ _ _ l1 l2 ap us1.toArray us2.toArray), ?_, ?_, ?_, ?_⟩
  · simp only [List.size_toArray, pairs, List.length_map, List.length_zip]
    rw [hr1.length, hr2.length]
  · exact ⟨hz, hti, ⟨_, _, hto⟩, hi1, hi2, hl1.at fun o e => hk _ o e, hl2.at fun o e => hk _ o e⟩
  · intro b hb
    show b < h'.objs.size ∧ _
    have e : h'.objs.size = s₁.heap.objs.size + 5 := hsz
    simp only [List.mem_cons, List.not_mem_nil, or_false] at hb
    rcases hb with rfl | rfl | rfl | rfl | rfl | rfl | rfl
    · exact ⟨by rw [e]; exact Nat.lt_succ_self _, nx _ (Nat.le_add_right _ _)⟩
    · exact ⟨by rw [e]; exact Nat.add_lt_add_left (by decide) _, nx _ (Nat.le_add_right _ _)⟩
    · exact ⟨by rw [e]; exact Nat.add_lt_add_left (by decide) _, nx _ (Nat.le_add_right _ _)⟩
    · exact ⟨by rw [e]; exact Nat.lt_add_of_pos_right (by decide), nx _ (Nat.le_refl _)⟩
    · exact ⟨by rw [e]; exact Nat.add_lt_add_left (by decide) _, nx _ (Nat.le_add_right _ _)⟩
    · exact ⟨by rw [e]; exact Nat.lt_of_lt_of_le b1 (Nat.le_add_right _ _), n1⟩
    · exact ⟨by rw [e]; exact Nat.lt_of_lt_of_le b2 (Nat.le_add_right _ _), n2⟩
  · intro b hb
    simp only [List.mem_cons, List.not_mem_nil, or_false] at hb
    rcases hb with rfl | rfl | rfl | rfl
    · exact Nat.le_add_right _ _
    · exact Nat.le_add_right _ _
    · exact Nat.le_refl _
    · exact Nat.le_add_right _ _
  · rintro i u s₃ s' hi ⟨T, vals, rfl, ⟨x, y, hx1, hy1, rfl⟩, hT, hIT⟩ Z lowZ hZ gr
    obtain ⟨a, ha, ra⟩ := hr1.get' (by simpa using hx1)
    obtain ⟨b, hb, rb⟩ := hr2.get' (by simpa using hy1)
    refine ⟨.tup [a, b], ?_, ?_⟩
    · simp only [pairs, List.getElem?_map]
      have : (d1.zip d2)[i]? = some (a, b) := by rw [List.getElem?_zip_eq_some]; exact ⟨ha, hb⟩
      rw [this]; rfl
    · obtain ⟨o, ho, hc, n, hd⟩ := hIT
      have hz' : ∀ a, Z a → C.ex a ∨ s₁.heap.get? a = none := fun a q => (hZ a q).imp id none_of_ge
      refine .tup (vs := [x, y]) ⟨ho, fun q => absurd (lowZ T q) (Nat.not_lt.mpr hT)⟩ hc hd (.cons (ra.at' (fun a o n e => gr.keep a o n e) hz') (.cons (rb.at' (fun a o n e => gr.keep a o n e) hz') .nil))
end
end Mine
end

section
open PySem PySem.W PyProof.Rows PySem.Spec PySem.Calls
set_option maxRecDepth 100000
namespace Mine

theorem mroL : mroOf (.type "list") = pure [.type "list", .type "object"] := by rw [mroOf_type]; kernel_rfl

/-- the class made from list -/
structure SubL (h : Heap) (K N : Addr) (mN : Str → Option Value) : Prop where
  obj : ∃ nm q bs sn sub col dd k0 k1 k2 k3 k5, h.get? K = some (excClassObj nm q K N bs [.type "list", .type "object"] true sn sub false col dd k0 k1 k2 k3 k5 "list.__new__")
  ns : h.Ns N mN
  nga : mN "__getattribute__" = none
  ngt : mN "__getattr__" = none
  nsa : mN "__setattr__" = none
  nis : mN "_initial_size" = none

theorem SubL.keeps {h h' : Heap} {K N : Addr} {mN : Str → Option Value} (x : SubL h K N mN) (k : ∀ a o, h.get? a = some o → h'.get? a = some o) : SubL h' K N mN := by
  obtain ⟨nm, q, bs, sn, sub, col, dd, k0, k1, k2, k3, k5, e⟩ := x.obj
  exact ⟨⟨nm, q, bs, sn, sub, col, dd, k0, k1, k2, k3, k5, k _ _ e⟩, x.ns.keeps k, x.nga, x.ngt, x.nsa, x.nis⟩

section
variable {prog : Program} {w : World} {A : Around} {E : Value → Shared → Prop} {h : Heap} {g : Array GenState} {d : Drawn} {t : Nat} {os : OsState}
variable {nm q : Str} {C N x : Addr} {bs : List Value} {sn : List Str} {sub : List Value} {ab : Bool} {col : Option Bool} {dd : Option Addr} {k0 k1 k2 k3 k5 : Option Value} {newId : String}
  {mN mA : Str → Option Value} {name : Str} {v : Value}

theorem getMethod_bi {pl : Sem Bool} {id : String} {Q : Value × List Value → Shared → Prop}
    (hC : h.get? C = some (excClassObj nm q C N bs [.type "list", .type "object"] true sn sub ab col dd k0 k1 k2 k3 k5 newId)) (hn : h.Ns N mN) (hng : mN "__getattribute__" = none) (hnh : mN "__getattr__" = none)
    (hf : mN name = none) (hB : typeLookup (.type "list") name = pure (some (.builtin id))) (hty : typeOf (.builtin id) = pure (.type "method_descriptor"))
    (I : h.Inst x C mA) (hsh : mA name = none) (hq : Q (.builtin id, [.ref x]) ⟨h, g, d, t, os⟩) :
    wpAny (model prog w) A (getMethod (.ref x) name pl) Q E ⟨h, g, d, t, os⟩ := by
  obtain ⟨o, hx, hc, hnc, hd⟩ := I
  obtain ⟨ga, lga, hcan⟩ := F.plainAttrs_list.ga
  have lgt := F.plainAttrs_list.noGetattr
  unfold getMethod specialOf
  repeat (first | (with_reducible refine wpAny_loadPart_at hx ?_; rw [hc]) | (with_reducible refine wpAny_typeLookup_exc hC hn mroL lga ?_; rw [hng]) | (with_reducible refine wpAny_typeLookup_exc hC hn mroL lgt ?_; rw [hnh]) | (with_reducible refine wpAny_typeLookup_exc hC hn mroL hB ?_; rw [hf]) | rw [hty] | simp only [hcan, Bool.false_eq_true, if_false] | wp_step)
  rcases hd with ⟨hdn, _⟩ | ⟨dx, hdx, _, hns⟩
  · rw [hdn]
    repeat wp_step
    exact hq
  · rw [hdx]
    repeat (first | (with_reducible refine wpAny_nsGet hns.ns ?_; rw [hsh]) | wp_step)
    exact hq

theorem getMethod_fn {pl : Sem Bool} {f : Addr} {of : Obj} {Q : Value × List Value → Shared → Prop} {y : Option Value}
    (hC : h.get? C = some (excClassObj nm q C N bs [.type "list", .type "object"] true sn sub ab col dd k0 k1 k2 k3 k5 newId)) (hn : h.Ns N mN) (hng : mN "__getattribute__" = none) (hnh : mN "__getattr__" = none)
    (hf : mN name = some (.ref f)) (hfo : h.get? f = some of) (hfc : of.cls = .type "function") (hB : typeLookup (.type "list") name = pure y)
    (I : h.Inst x C mA) (hsh : mA name = none) (hq : Q (.ref f, [.ref x]) ⟨h, g, d, t, os⟩) :
    wpAny (model prog w) A (getMethod (.ref x) name pl) Q E ⟨h, g, d, t, os⟩ := by
  obtain ⟨o, hx, hc, hnc, hd⟩ := I
  obtain ⟨ga, lga, hcan⟩ := F.plainAttrs_list.ga
  have lgt := F.plainAttrs_list.noGetattr
  unfold getMethod specialOf
  repeat (first | (with_reducible refine wpAny_loadPart_at hx ?_; rw [hc]) | (with_reducible refine wpAny_typeLookup_exc hC hn mroL lga ?_; rw [hng]) | (with_reducible refine wpAny_typeLookup_exc hC hn mroL lgt ?_; rw [hnh]) | (with_reducible refine wpAny_typeLookup_exc hC hn mroL hB ?_; rw [hf]) | (with_reducible refine wpAny_typeOf (T := "function") ⟨_, hfo, hfc⟩ ?_) | simp only [hcan, Bool.false_eq_true, if_false] | wp_step)
  rcases hd with ⟨hdn, _⟩ | ⟨dx, hdx, _, hns⟩
  · rw [hdn]
    repeat wp_step
    exact hq
  · rw [hdx]
    repeat (first | (with_reducible refine wpAny_nsGet hns.ns ?_; rw [hsh]) | wp_step)
    exact hq

/-- a built-in of list, on an object of the class -/
theorem check_bi {M : Model} {id n : String} {o : Obj} {rest : List Value} {Q : Unit → Shared → Prop} (hk : builtinKind id = some .method ∨ builtinKind id = some .slot) (hs : splitId id = some ("list", n))
    (hC : h.get? C = some (excClassObj nm q C N bs [.type "list", .type "object"] true sn sub ab col dd k0 k1 k2 k3 k5 newId)) (hx : h.get? x = some o) (hc : o.cls = .ref C)
    (ha : argsOk id ⟨.ref x :: rest, []⟩) (hq : Q () ⟨h, g, d, t, os⟩) :
    wpAny M A (checkBuiltinCall id ⟨.ref x :: rest, []⟩) Q E ⟨h, g, d, t, os⟩ := by
  have hcB : (Value.ref C :: [Value.type "list", .type "object"]).contains (.type "list") = true := by simp
  rcases hk with hk | hk <;> simp only [checkBuiltinCall, hk, hs]
  all_goals
    refine wpAny_bind ?_
    unfold isInstance
    repeat (first | (with_reducible refine wpAny_loadPart_at hx ?_; rw [hc]) | (with_reducible refine wpAny_isSubtype_exc hC ?_; rw [hcB]) | wp_step)
    cases hsig : Manifest.signature? id with
    | none => exact wpAny_pure hq
    | some sig =>
      simp only [argsOk, hsig] at ha
      have h2 : Bind.checkArgs id sig ⟨.ref x :: rest, []⟩ = pure () := ha
      show wpAny M A (Bind.checkArgs id sig ⟨.ref x :: rest, []⟩) Q E _
      rw [h2]; exact wpAny_pure hq

theorem call_bi {id n : String} {B : Builtin} {o : Obj} {rest : List Value} {Q : Value → Shared → Prop} (hp : plainId id = true) (hb : entryFor table id = some B) (hk : builtinKind id = some .method ∨ builtinKind id = some .slot) (hs : splitId id = some ("list", n))
    (hC : h.get? C = some (excClassObj nm q C N bs [.type "list", .type "object"] true sn sub ab col dd k0 k1 k2 k3 k5 newId)) (hx : h.get? x = some o) (hc : o.cls = .ref C)
    (ha : argsOk id ⟨.ref x :: rest, []⟩) (hq : wpAny (model prog w) A.in1 (B ⟨.ref x :: rest, []⟩) (fun fin s' => ∃ v, fin = .done (.ret v) ∧ Q v s') E ⟨h, g, d, t, os⟩) :
    wpAny (model prog w) A (call (.builtin id) (.ref x :: rest)) Q E ⟨h, g, d, t, os⟩ := by
  refine wpAny_call (codeAny_call_builtin hp hb (check_bi hk hs hC hx hc ha ?_))
  refine wpAny_mono hq (fun fin s' hf => ?_) fun _ _ z => z
  obtain ⟨v, rfl, hv⟩ := hf
  exact hv
end
end Mine
end

section
open PySem PySem.W PyProof.Rows PySem.Spec PySem.Calls
set_option maxRecDepth 100000
namespace Mine
section
variable {prog : Program} {w : World} {A : Around} {E : Value → Shared → Prop} {h : Heap} {g : Array GenState} {d : Drawn} {t : Nat} {os : OsState}
variable {nm q : Str} {C N x : Addr} {bs : List Value} {sn : List Str} {sub : List Value} {ab : Bool} {col : Option Bool} {dd : Option Addr} {k0 k1 k2 k3 k5 : Option Value} {newId : String}
  {mN mA : Str → Option Value} {name : Str} {v : Value}

theorem seqKey_sub {M : Model} {o : Obj} {k : Value} {Q : Value → Shared → Prop}
    (hC : h.get? C = some (excClassObj nm q C N bs [.type "list", .type "object"] true sn sub ab col dd k0 k1 k2 k3 k5 newId)) (hx : h.get? x = some o) (hc : o.cls = .ref C) (hq : Q k ⟨h, g, d, t, os⟩) :
    wpAny M A (sequenceKey (.ref x) k name) Q E ⟨h, g, d, t, os⟩ := by
  unfold sequenceKey seqItemTypes
  have e : ∀ T : String, T ≠ "list" → T ≠ "object" → (Value.ref C :: [Value.type "list", .type "object"]).contains (.type T) = false := by
    intro T h1 h2
    simp [h1, h2]
  repeat (first | (with_reducible refine wpAny_loadPart_at hx ?_; rw [hc]) | (with_reducible refine wpAny_isSubtype_exc hC ?_; rw [e _ (by decide) (by decide)]) | simp only [List.anyM] | wp_step)
  exact hq

theorem find_sub {M : Model} {o : Obj} {y : Option Value} {Q : Option Value → Shared → Prop}
    (hC : h.get? C = some (excClassObj nm q C N bs [.type "list", .type "object"] true sn sub ab col dd k0 k1 k2 k3 k5 newId)) (hn : h.Ns N mN) (hf : mN name = none) (hB : typeLookup (.type "list") name = pure y)
    (hx : h.get? x = some o) (hc : o.cls = .ref C) (hq : Q y ⟨h, g, d, t, os⟩) : wpAny M A (specialOf (.ref x) name) Q E ⟨h, g, d, t, os⟩ := by
  unfold specialOf
  repeat (first | (with_reducible refine wpAny_loadPart_at hx ?_; rw [hc]) | (with_reducible refine wpAny_typeLookup_exc hC hn mroL hB ?_; rw [hf]) | wp_step)
  exact hq

abbrev AccO (C dx : Addr) (vs : Array Value) (n : Nat) : Obj := { cls := .ref C, dict := some dx, data := .seq vs n }

theorem acc_upd {C dx : Addr} {vs : Array Value} {n : Nat} (hx : h.get? x = some (AccO C dx vs n)) (f : Array Value → Array Value) :
    ∃ n', (h.update x (Obj.mapSeq f)).get? x = some (AccO C dx (f vs) n') := by
  refine ⟨if (f vs).size == vs.size then n else n + 1, ?_⟩
  rw [Heap.get?_update_self _ hx rfl]
  simp [Obj.mapSeq]

section
variable {dx : Addr} {vs : Array Value} {n : Nat}

theorem acc_getslice {sl : Addr} {vl vu vt : Value} {lo hi st : Option Int} {Q : Value → Shared → Prop}
    (hC : h.get? C = some (excClassObj nm q C N bs [.type "list", .type "object"] true sn sub ab col dd k0 k1 k2 k3 k5 newId)) (hn : h.Ns N mN) (hf : mN "__getitem__" = none)
    (hx : h.get? x = some (AccO C dx vs n)) (hs : h.IsSliceOf sl vl vu vt) (pl : IsPart vl lo) (pu : IsPart vu hi) (ps : IsPart vt st) (h0 : st ≠ some 0)
    (hq : Q (.ref h.objs.size) ⟨h.push { cls := .type "list", data := .seq (slicePick vs lo hi st) }, g, d, t, os⟩)
    (hsz : vs.size ≤ sizeLine) : wpAny (model prog w) A (getItem (.ref x) (.ref sl)) Q E ⟨h, g, d, t, os⟩ := by
  obtain ⟨osl, hos, hcs, hds⟩ := id hs
  have hTs : (⟨h, g, d, t, os⟩ : Shared).TypeIs (.ref sl) "slice" := ⟨osl, hos, hcs⟩
  unfold getItem
  try with_reducible refine wpAny_holding ?_
  refine wpAny_bind (seqKey_sub hC hx rfl ?_)
  unfold callSpecial?
  refine wpAny_bind (wpAny_bind (find_sub hC hn hf PySem.slot_list_getitem.lookup hx rfl ?_))
  refine wpAny_holding (wpAny_bind (wpAny_of_eq (PySem.slot_list_getitem.bind _) (wpAny_bind ?_)))
  refine call_bi (n := "__getitem__") PySem.slot_list_getitem.plain PySem.entry_list_getitem (by first | exact .inl (by decide +kernel) | exact .inr (by decide +kernel)) (by decide +kernel) hC hx rfl (PySem.args_list_getitem _ _) ?_
  show wpAny _ _ (Builtin.List.listSubscript? (.ref sl) >>= _) _ _ _
  refine wpAny_bind ?_
  unfold Builtin.List.listSubscript?
  refine wpAny_bind (wpAny_specialOf hTs slice_no_index ?_)
  simp only [Option.isNone_none, if_true]
  refine wpAny_pure ?_
  show wpAny _ _ (typeOf (.ref sl) >>= _) _ _ _
  refine wpAny_bind (wpAny_typeOf hTs ?_)
  rw [if_neg (by decide)]
  rw [listSliceParts_eq]
  have hstep : ¬ ((rawPart st == rawInt 0) = true) := by
    cases st with
    | none => exact Bool.false_ne_true
    | some c =>
      intro hh
      have : c = 0 := by simpa [rawPart, rawInt] using hh
      exact h0 (by rw [this])
  refine wpAny_bind (wpAny_bind (wpAny_field hos hds (x := vt) rfl (wpAny_bind (wpAny_listPart ps ?_))))
  rw [if_neg hstep]
  refine wpAny_bind (wpAny_field hos hds (x := vl) rfl (wpAny_bind (wpAny_listPart pl ?_)))
  refine wpAny_bind (wpAny_field hos hds (x := vu) rfl (wpAny_bind (wpAny_listPart pu (wpAny_pure ?_))))
  refine wpAny_bind (m := Builtin.List.listItems (.ref x)) ?_
  unfold Builtin.List.listItems
  refine wpAny_bind (wpAny_seqItems hx rfl (wpAny_pure ?_))
  refine wpAny_bind (wpAny_of_eq (sliceIndices_raw lo hi st vs.size h0) ?_)
  exact wpAny_bind (wpAny_newObj_type (wpAny_pure ⟨_, rfl, wpAny_pure (wpAny_pure hq)⟩) (Nat.le_trans (slicePick_size_le vs lo hi st) hsz))

theorem acc_setslice {sl u : Addr} {vl : Value} {lo : Option Int} {us : Array Value} {m : Nat} {ou : Obj} {Q : Unit → Shared → Prop}
    (hC : h.get? C = some (excClassObj nm q C N bs [.type "list", .type "object"] true sn sub ab col dd k0 k1 k2 k3 k5 newId)) (hn : h.Ns N mN) (hf : mN "__setitem__" = none)
    (hx : h.get? x = some (AccO C dx vs n)) (hs : h.IsSliceOf sl vl .none .none) (pl : IsPart vl lo) (hlo : lo = none ∨ lo = some 0)
    (hu : h.get? u = some ou) (huc : ou.cls = .type "list") (hud : ou.data = .seq us m)
    (hq : ∀ h' n', h'.get? x = some (AccO C dx us n') → Heap.SameBut x h h' → Q () ⟨h', g, d, t, os⟩)
    (hsz : vs.size + us.size ≤ sizeLine) : wpAny (model prog w) A (setItem (.ref x) (.ref sl) (.ref u)) Q E ⟨h, g, d, t, os⟩ := by
  obtain ⟨osl, hos, hcs, hds⟩ := id hs
  have hTs : (⟨h, g, d, t, os⟩ : Shared).TypeIs (.ref sl) "slice" := ⟨osl, hos, hcs⟩
  have hTu : (⟨h, g, d, t, os⟩ : Shared).TypeIs (.ref u) "list" := ⟨ou, hu, huc⟩
  unfold setItem
  try with_reducible refine wpAny_holding ?_
  refine wpAny_bind (seqKey_sub hC hx rfl ?_)
  unfold callSpecial?
  refine wpAny_bind (wpAny_bind (find_sub hC hn hf PySem.slot_list_setitem.lookup hx rfl ?_))
  refine wpAny_holding (wpAny_bind (wpAny_of_eq (PySem.slot_list_setitem.bind _) (wpAny_bind ?_)))
  refine call_bi (n := "__setitem__") PySem.slot_list_setitem.plain PySem.entry_list_setitem (by first | exact .inl (by decide +kernel) | exact .inr (by decide +kernel)) (by decide +kernel) hC hx rfl (PySem.args_list_setitem _ _ _) ?_
  show wpAny _ _ (Builtin.List.listSubscript? (.ref sl) >>= _) _ _ _
  refine wpAny_bind ?_
  unfold Builtin.List.listSubscript?
  refine wpAny_bind (wpAny_specialOf hTs slice_no_index ?_)
  simp only [Option.isNone_none, if_true]
  refine wpAny_pure ?_
  show wpAny _ _ (typeOf (.ref sl) >>= _) _ _ _
  refine wpAny_bind (wpAny_typeOf hTs ?_)
  rw [if_neg (by decide)]
  rw [listSliceParts_eq]
  refine wpAny_bind (wpAny_bind (wpAny_field hos hds (x := .none) rfl (wpAny_bind (wpAny_listPart .none ?_))))
  rw [if_neg (by decide)]
  refine wpAny_bind (wpAny_field hos hds (x := vl) rfl (wpAny_bind (wpAny_listPart pl ?_)))
  refine wpAny_bind (wpAny_field hos hds (x := .none) rfl (wpAny_bind (wpAny_listPart .none (wpAny_pure ?_))))
  have hxu : Builtin.List.listSameRef (.ref x) (.ref u) = false := by
    show (x == u) = false
    rw [beq_eq_false_iff_ne]
    rintro rfl
    rw [hx] at hu
    cases hu
    cases huc
  rw [hxu]
  simp only [Bool.false_eq_true, if_false]
  refine wpAny_bind ?_
  unfold Builtin.List.listAllItems
  refine wpAny_bind (wpAny_typeOf hTu ?_)
  simp only [beq_self_eq_true, Bool.true_or, if_true]
  unfold Builtin.List.listItems
  refine wpAny_bind (wpAny_seqItems hu hud (wpAny_pure ?_))
  refine wpAny_bind (wpAny_bind (wpAny_seqItems hx rfl (wpAny_pure ?_)))
  refine wpAny_bind (wpAny_of_eq (sliceIndices_raw lo none none vs.size (by simp)) ?_)
  have hb : sliceBounds lo none none vs.size = (0, (vs.size : Int), 1) := by
    rcases hlo with rfl | rfl
    · simp [sliceBounds]
    · simp [sliceBounds]
      lia
  rw [hb]
  show wpAny _ _ (do
    rule "list.__setitem__.slice"
    if Builtin.List.listTooLong (vs.size + us.size) then unsupported "list.__setitem__:memory"
    Builtin.List.listUpdate (.ref x) fun xs => xs.extract 0 (0 : Int).toNat ++ us ++ xs.extract (max (0 : Int) (vs.size : Int)).toNat xs.size
    letGo (vs.extract (0 : Int).toNat (max (0 : Int) (vs.size : Int)).toNat).toList.reverse
    return ← ret .none) _ _ _
  refine wpAny_bind (wpAny_rule ?_)
  rw [if_neg (by simp [Builtin.List.listTooLong]; lia)]
  refine wpAny_bind ?_
  unfold Builtin.List.listUpdate
  have em : (max (0 : Int) (vs.size : Int)).toNat = vs.size := by lia
  obtain ⟨n', hn'⟩ := acc_upd hx (fun xs : Array Value => xs.extract 0 (0 : Int).toNat ++ us ++ xs.extract (max (0 : Int) (vs.size : Int)).toNat xs.size)
  have hn2 : (h.update x (Obj.mapSeq fun xs : Array Value => xs.extract 0 (0 : Int).toNat ++ us ++ xs.extract (max (0 : Int) (vs.size : Int)).toNat xs.size)).get? x = some (AccO C dx us n') := by
    rw [hn']; simp [em]
  refine wpAny_updateSeq hx rfl ?_ (by lia) (by simp [em]; lia)
  refine wpAny_bind (wpAny_letGo ?_)
  exact wpAny_pure ⟨_, rfl, wpAny_pure (wpAny_pure (hq _ n' hn2 (Heap.SameBut.update ..)))⟩
end
end
end Mine
end

section
open PySem PySem.W PyProof.Rows PySem.Spec PySem.Calls
set_option maxRecDepth 100000
namespace Mine
/-- facts of a built-in of list that is bound through super() -/
structure SupF (id : String) (name : Str) (dt bt : String) : Prop where
  ty : typeOf (.builtin id) = pure (.type dt)
  getl : typeLookup (.type dt) "__get__" = pure (some (.builtin (dt ++ ".__get__")))
  own : ∀ (K : Frag), alongIn K name [.type "list", .type "object"] = some (some (.builtin id))

theorem slot_md_get : Slot "method_descriptor" "__get__" "method_descriptor.__get__" := .of (owner := "method_descriptor") (n := "__get__") (by rw [typeLookup_type, builtinLookup_eq_fast]; kernel_rfl) (by decide +kernel) (by decide +kernel) (by decide +kernel)
  (by first | exact .inl (by decide +kernel) | exact .inr (by decide +kernel)) (by rw [isSubtype_type]; kernel_rfl)
theorem entry_md_get : entryFor table "method_descriptor.__get__" = some Builtin.«method_descriptor.__get__» := entryFor_of_tree (by kernel_rfl)
theorem args_md_get (a b c : Value) : argsOk "method_descriptor.__get__" ⟨[a, b, c], []⟩ := by unfold argsOk; kernel_rfl
theorem slot_wd_get : Slot "wrapper_descriptor" "__get__" "wrapper_descriptor.__get__" := .of (owner := "wrapper_descriptor") (n := "__get__") (by rw [typeLookup_type, builtinLookup_eq_fast]; kernel_rfl) (by decide +kernel) (by decide +kernel) (by decide +kernel)
  (by first | exact .inl (by decide +kernel) | exact .inr (by decide +kernel)) (by rw [isSubtype_type]; kernel_rfl)
theorem entry_wd_get : entryFor table "wrapper_descriptor.__get__" = some Builtin.«wrapper_descriptor.__get__» := entryFor_of_tree (by kernel_rfl)
theorem args_wd_get (a b c : Value) : argsOk "wrapper_descriptor.__get__" ⟨[a, b, c], []⟩ := by unfold argsOk; kernel_rfl

theorem along_pop (K : Frag) : alongIn K "pop" [.type "list", .type "object"] = some (some (.builtin "list.pop")) := by kernel_rfl
theorem along_len (K : Frag) : alongIn K "__len__" [.type "list", .type "object"] = some (some (.builtin "list.__len__")) := by kernel_rfl
theorem along_init (K : Frag) : alongIn K "__init__" [.type "list", .type "object"] = some (some (.builtin "list.__init__")) := by kernel_rfl
theorem ty_pop : typeOf (.builtin "list.pop") = pure (.type "method_descriptor") := by kernel_rfl
theorem ty_len : typeOf (.builtin "list.__len__") = pure (.type "wrapper_descriptor") := by kernel_rfl
theorem ty_init : typeOf (.builtin "list.__init__") = pure (.type "wrapper_descriptor") := by kernel_rfl

section
variable {prog : Program} {w : World} {A : Around} {E : Value → Shared → Prop} {h : Heap} {g : Array GenState} {d : Drawn} {t : Nat} {os : OsState}
variable {nm q : Str} {C N x : Addr} {bs : List Value} {sn : List Str} {sub : List Value} {ab : Bool} {col : Option Bool} {dd : Option Addr} {k0 k1 k2 k3 k5 : Option Value} {newId : String}
  {mN mA : Str → Option Value} {name : Str} {v : Value}

theorem call_wd_get {id : String} {o : Obj} {Q : Value → Shared → Prop} (hty : typeOf (.builtin id) = pure (.type "wrapper_descriptor")) (hcut : (".".intercalate (id.cutAt '.').dropLast) = "list")
    (hC : h.get? C = some (excClassObj nm q C N bs [.type "list", .type "object"] true sn sub ab col dd k0 k1 k2 k3 k5 newId)) (hx : h.get? x = some o) (hc : o.cls = .ref C)
    (hq : Q (.ref h.objs.size) ⟨h.push { cls := .type "method-wrapper", data := .fields #[.builtin id, .ref x] }, g, d, t, os⟩) :
    wpAny (model prog w) A (call (.builtin "wrapper_descriptor.__get__") [.builtin id, .ref x, .ref C]) Q E ⟨h, g, d, t, os⟩ := by
  have hcB : (Value.ref C :: [Value.type "list", .type "object"]).contains (.type "list") = true := by simp
  have hT : (⟨h, g, d, t, os⟩ : Shared).TypeIs (.builtin id) "wrapper_descriptor" := hty
  refine wpAny_call_entry slot_wd_get hT entry_wd_get ?_ (args_wd_get _ _ _)
  unfold Builtin.«wrapper_descriptor.__get__»
  repeat (first | (with_reducible refine wpAny_loadPart_at hx ?_; rw [hc]) | (rw [hcut]; refine wpAny_isSubtype_exc hC ?_; rw [hcB]) | wp_step)
  exact ⟨_, rfl, hq⟩

theorem call_md_get {id : String} {o : Obj} {Q : Value → Shared → Prop} (hty : typeOf (.builtin id) = pure (.type "method_descriptor")) (hcut : (".".intercalate (id.cutAt '.').dropLast) = "list") (hti : Manifest.toldItsClass.contains id = false)
    (hC : h.get? C = some (excClassObj nm q C N bs [.type "list", .type "object"] true sn sub ab col dd k0 k1 k2 k3 k5 newId)) (hx : h.get? x = some o) (hc : o.cls = .ref C)
    (hq : Q (.ref h.objs.size) ⟨h.push { cls := .type "builtin_function_or_method", data := .fields #[.builtin id, .ref x] }, g, d, t, os⟩) :
    wpAny (model prog w) A (call (.builtin "method_descriptor.__get__") [.builtin id, .ref x, .ref C]) Q E ⟨h, g, d, t, os⟩ := by
  have hcB : (Value.ref C :: [Value.type "list", .type "object"]).contains (.type "list") = true := by simp
  have hT : (⟨h, g, d, t, os⟩ : Shared).TypeIs (.builtin id) "method_descriptor" := hty
  refine wpAny_call_entry slot_md_get hT entry_md_get ?_ (args_md_get _ _ _)
  unfold Builtin.«method_descriptor.__get__»
  repeat (first | simp only [hti, Bool.false_eq_true, if_false] | (with_reducible refine wpAny_loadPart_at hx ?_; rw [hc]) | (rw [hcut]; refine wpAny_isSubtype_exc hC ?_; rw [hcB]) | wp_step)
  exact ⟨_, rfl, hq⟩

/-- the object that super().name hands over -/
theorem super_ga {so D : Addr} {l₀ l : List Value} {K : Frag} {id dt bt : String} {tk : Tok} {Q : Fin → Shared → Prop}
    (hso : h.get? so = some { cls := .type "super", dict := none, data := .fields #[.ref D, .ref x, .ref C], slots := #[] }) (hno : Looks (model prog w) h (opaqueClassAbove (.ref C)) none)
    (hCm : Looks (model prog w) h (mroOf (.ref C)) l₀) (hl : (l₀.dropWhile (· != .ref D)).drop 1 = l) (X : K.In h)
    (hf : alongIn K name l = some (some (.builtin id))) (hty : typeOf (.builtin id) = pure (.type dt)) (hlk : typeLookup (.type dt) "__get__" = pure (some (.builtin (dt ++ ".__get__")))) (hxC : x ≠ C) (hn : (name == ("__class__" : Str)) = false)
    (hget : ∀ Q' : Value → Shared → Prop, Q' (.ref h.objs.size) ⟨h.push { cls := .type bt, data := .fields #[.builtin id, .ref x] }, g, d, t, os⟩ → wpAny (model prog w) A (call (.builtin (dt ++ ".__get__")) [.builtin id, .ref x, .ref C]) Q' E ⟨h, g, d, t, os⟩)
    (hq : Q (.done (.ret (.ref h.objs.size))) ⟨h.push { cls := .type bt, data := .fields #[.builtin id, .ref x] }, g, d, t, os⟩) :
    wpAny (model prog w) A (Builtin.«super.__getattribute__» ⟨[.ref so, .str name tk], []⟩) Q E ⟨h, g, d, t, os⟩ := by
  have hne : (Value.ref x == Value.ref C) = false := by simp [hxC]
  have hTf : (⟨h, g, d, t, os⟩ : Shared).TypeIs (.builtin id) dt := hty
  have hdt : ({ cls := .type "super", dict := none, data := .fields #[.ref D, .ref x, .ref C], slots := #[] } : Obj).data = .fields #[.ref D, .ref x, .ref C] := rfl
  have f0 : (#[.ref D, .ref x, .ref C] : Array Value)[0]? = some (.ref D) := rfl
  have f1 : (#[.ref D, .ref x, .ref C] : Array Value)[1]? = some (.ref x) := rfl
  have f2 : (#[.ref D, .ref x, .ref C] : Array Value)[2]? = some (.ref C) := rfl
  unfold Builtin.«super.__getattribute__»
  repeat (first
    | (with_reducible refine wpAny_field hso hdt f0 ?_) | (with_reducible refine wpAny_field hso hdt f1 ?_) | (with_reducible refine wpAny_field hso hdt f2 ?_)
    | (with_reducible refine ks_wpAny_notOpaque hno ?_)
    | (with_reducible refine Looks.at hCm ?_; rw [hl])
    | (refine ks_forIn_along X (fun _ _ => rfl) rfl ?_ hf)
    | (with_reducible refine wpAny_typeOf hTf ?_)
    | rw [hlk]
    | (refine hget _ ?_)
    | (with_reducible refine ⟨_, rfl, ?_⟩)
    | (simp only [hn, hne, Bool.or_false, Bool.false_eq_true, if_false])
    | wp_step
    | dsimp only)
  all_goals exact hq

theorem getMethod_super {so D : Addr} {l₀ l : List Value} {K : Frag} {id dt bt : String} {pl : Sem Bool} {Q : Value × List Value → Shared → Prop}
    (hso : h.get? so = some { cls := .type "super", dict := none, data := .fields #[.ref D, .ref x, .ref C], slots := #[] }) (hno : Looks (model prog w) h (opaqueClassAbove (.ref C)) none)
    (hCm : Looks (model prog w) h (mroOf (.ref C)) l₀) (hl : (l₀.dropWhile (· != .ref D)).drop 1 = l) (X : K.In h)
    (hf : alongIn K name l = some (some (.builtin id))) (hty : typeOf (.builtin id) = pure (.type dt)) (hlk : typeLookup (.type dt) "__get__" = pure (some (.builtin (dt ++ ".__get__")))) (hxC : x ≠ C) (hn : (name == ("__class__" : Str)) = false)
    (hget : ∀ (A : Around) (E : Value → Shared → Prop) (t : Nat) (Q' : Value → Shared → Prop), Q' (.ref h.objs.size) ⟨h.push { cls := .type bt, data := .fields #[.builtin id, .ref x] }, g, d, t, os⟩ → wpAny (model prog w) A (call (.builtin (dt ++ ".__get__")) [.builtin id, .ref x, .ref C]) Q' E ⟨h, g, d, t, os⟩)
    (hq : Q (.ref h.objs.size, []) ⟨h.push { cls := .type bt, data := .fields #[.builtin id, .ref x] }, g, d, t + 1, os⟩) :
    wpAny (model prog w) A (getMethod (.ref so) name pl) Q E ⟨h, g, d, t, os⟩ := by
  have hlks := PySem.F.ks_slot_super_ga.lookup
  have hcan := PySem.F.ks_canon_super_ga
  have hT : ∀ t', (⟨h, g, d, t', os⟩ : Shared).TypeIs (.ref so) "super" := fun _ => ⟨_, hso, rfl⟩
  unfold getMethod
  refine wpAny_bind (wpAny_specialOf (hT _) hlks ?_)
  show wpAny _ _ (if (Manifest.canonical "super.__getattribute__" != "object.__getattribute__") = true then _ else _) _ _ _
  rw [if_pos hcan]
  unfold getAttr getAttrBy
  refine wpAny_bind (wpAny_bind (wpAny_mkText (wpAny_holding (wpAny_bind (wpAny_typeOf (hT _) (wpAny_bind (wpAny_of_eq hlks ?_)))))))
  show wpAny _ _ (getAttrByItsOwn (.ref so) (.str name t) (.type "super") (.builtin "super.__getattribute__") true false) _ _ _
  unfold getAttrByItsOwn hookBefore callGetattribute boundAndCalled
  refine wpAny_bind (wpAny_of_eq (show (if onTheHeap (.type "super") then typeLookup (.type "super") "__getattr__" else pure none) = pure none from rfl) ?_)
  refine wpAny_bind (wpAny_attempt (wpAny_holding ?_))
  show wpAny _ _ (bindSpecial (.builtin "super.__getattribute__") (.ref so) >>= _) _ _ _
  refine wpAny_bind (wpAny_of_eq (PySem.F.ks_slot_super_ga.bind _) ?_)
  refine wpAny_mono (Q := fun v s' => v = .ref h.objs.size ∧ s' = ⟨h.push { cls := .type bt, data := .fields #[.builtin id, .ref x] }, g, d, t + 1, os⟩) (E := fun _ _ => False)
    (wpAny_call_entry PySem.F.ks_slot_super_ga (hT _) PySem.F.ks_entry_super_ga (super_ga hso hno hCm hl X hf hty hlk hxC hn (fun Q' hq' => hget _ _ _ Q' hq') ⟨_, rfl, rfl, rfl⟩) (PySem.F.ks_gaArgs_super _ _)) (fun v s' hv => ?_) fun _ _ z => z.elim
  obtain ⟨rfl, rfl⟩ := hv
  exact wpAny_pure (wpAny_pure hq)

theorem call_bound {b : Addr} {id bt : String} {args : List Value} {B : Builtin} {Q : Value → Shared → Prop} (hbt : bt = "builtin_function_or_method" ∨ bt = "method-wrapper")
    (hb : h.get? b = some { cls := .type bt, data := .fields #[.builtin id, .ref x] }) (hp : plainId id = true) (he : entryFor table id = some B)
    (hck : wpAny (model prog w) A.in1 (checkBoundCall id ⟨.ref x :: args, []⟩) (fun _ s' => s' = ⟨h, g, d, t, os⟩) NoE ⟨h, g, d, t, os⟩)
    (hq : wpAny (model prog w) A.in1 (B ⟨.ref x :: args, []⟩) (fun fin s' => ∃ v, fin = .done (.ret v) ∧ Q v s') E ⟨h, g, d, t, os⟩) :
    wpAny (model prog w) A (call (.ref b) args) Q E ⟨h, g, d, t, os⟩ := by
  refine wpAny_call (codeAny_of_tree ?_)
  show wpAny _ A.in1 (callAny (.ref b) ⟨args, []⟩) _ _ _
  unfold callAny
  refine wpAny_bind (wpAny_load hb ?_)
  have e : (Value.type bt == Value.type "method" || Value.type bt == Value.type "builtin_function_or_method" || Value.type bt == Value.type "method-wrapper") = true := by rcases hbt with rfl | rfl <;> rfl
  have e2 : (Value.type bt != Value.type "method") = true := by rcases hbt with rfl | rfl <;> rfl
  simp only [e, e2, if_true]
  refine wpAny_bind (wpAny_mono hck (fun _ s' hs => ?_) fun _ _ q => q.elim)
  subst hs
  refine wpAny_pure ⟨plainId_quiet hp _, codeAny_builtin he ?_⟩
  rw [Around.under_plainId hp _]
  refine wpAny_mono hq (fun fin s' hf => ?_) fun _ _ z => z
  obtain ⟨v, rfl, hv⟩ := hf
  exact hv
end
end Mine
end

section
open PySem PySem.W PyProof.Rows PySem.Spec PySem.Calls
set_option maxRecDepth 100000
namespace Mine
section
variable {prog : Program} {w : World} {A : Around} {E : Value → Shared → Prop} {h : Heap} {g : Array GenState} {d : Drawn} {t : Nat} {os : OsState}
variable {nm q : Str} {C N x : Addr} {bs : List Value} {sn : List Str} {sub : List Value} {ab : Bool} {col : Option Bool} {dd : Option Addr} {k0 k1 k2 k3 k5 : Option Value} {newId : String}
  {mN mA : Str → Option Value} {name : Str} {v : Value} {dx : Addr} {vs : Array Value} {n : Nat}

theorem bound_len : wpAny (model prog w) A (checkBoundCall "list.__len__" ⟨[.ref x], []⟩) (fun _ s' => s' = ⟨h, g, d, t, os⟩) NoE ⟨h, g, d, t, os⟩ :=
  wpAny_of_eq (a := ()) (by kernel_rfl) rfl
theorem bound_init : wpAny (model prog w) A (checkBoundCall "list.__init__" ⟨[.ref x], []⟩) (fun _ s' => s' = ⟨h, g, d, t, os⟩) NoE ⟨h, g, d, t, os⟩ :=
  wpAny_of_eq (a := ()) (by kernel_rfl) rfl

theorem pop_sig : ∃ sig, Manifest.signature? "list.pop" = some sig ∧ ∀ (x : Value), Bind.checkArgs "list.pop" { sig with full := s!"{("_Accumulator" : Str).toString}.{Bind.lastOf "list.pop"}" } ⟨[x], []⟩ = pure () := by
  refine ⟨⟨.positional, "list.pop", "pop", .self, [⟨"index", .posOnly, false⟩]⟩, by kernel_rfl, fun x => ?_⟩
  kernel_rfl
theorem bound_pop {o : Obj} (hC : h.get? C = some (excClassObj nm "_Accumulator" C N bs [.type "list", .type "object"] true sn sub ab col dd k0 k1 k2 k3 k5 newId)) (hx : h.get? x = some o) (hc : o.cls = .ref C) (hnc : ∀ c, o.data ≠ .cls c) :
    wpAny (model prog w) A (checkBoundCall "list.pop" ⟨[.ref x], []⟩) (fun _ s' => s' = ⟨h, g, d, t, os⟩) NoE ⟨h, g, d, t, os⟩ := by
  obtain ⟨sig, hs, hck⟩ := pop_sig
  have hk : builtinKind "list.pop" = some .method := by decide +kernel
  have hcB : (Value.ref C :: [Value.type "list", .type "object"]).contains (.type "module") = false := by simp
  have hva : Manifest.varargsMethods.contains "list.pop" = false := by decide +kernel
  unfold checkBoundCall
  simp only [hs, hk]
  unfold isInstance
  repeat (first | (with_reducible refine wpAny_loadPart_at hx ?_; rw [hc]) | (with_reducible refine wpAny_isSubtype_exc hC ?_; rw [hcB]) | (with_reducible refine ks_wpAny_isType_inst hx hnc ?_) | rw [hva] | (with_reducible refine wpAny_loadPart_at hC ?_) | rw [hck] | wp_step)
  all_goals rfl

theorem acc_append {dx : Addr} {vs : Array Value} {n : Nat} {Q : Value → Shared → Prop}
    (hC : h.get? C = some (excClassObj nm q C N bs [.type "list", .type "object"] true sn sub ab col dd k0 k1 k2 k3 k5 newId)) (hx : h.get? x = some (AccO C dx vs n))
    (hq : ∀ h' n', h'.get? x = some (AccO C dx (vs.push v) n') → Heap.SameBut x h h' → Q .none ⟨h', g, d, t, os⟩) (hsz : vs.size ≤ sizeLine) :
    wpAny (model prog w) A (call (.builtin "list.append") [.ref x, v]) Q E ⟨h, g, d, t, os⟩ := by
  refine call_bi (n := "append") PySem.F.slot_list_append.plain entry_list_append (by first | exact .inl (by decide +kernel) | exact .inr (by decide +kernel)) (by decide +kernel) hC hx rfl (args_list_append _ _) ?_
  show wpAny _ _ (updateSeq x (·.push v) >>= fun _ => ret .none) _ _ _
  obtain ⟨n', hn'⟩ := acc_upd hx (·.push v)
  refine wpAny_bind (wpAny_updateSeq hx rfl (wpAny_pure ⟨.none, rfl, hq _ n' hn' (Heap.SameBut.update ..)⟩) hsz (by simp; lia))

theorem acc_len {dx : Addr} {vs : Array Value} {n : Nat} {Q : Fin → Shared → Prop} (hx : h.get? x = some (AccO C dx vs n)) (hq : Q (.done (.ret (.int vs.size t))) ⟨h, g, d, t + 1, os⟩) :
    wpAny (model prog w) A (Builtin.«list.__len__» ⟨[.ref x], []⟩) Q E ⟨h, g, d, t, os⟩ := by
  unfold Builtin.«list.__len__»
  repeat (first | (with_reducible refine wpAny_loadPart_at hx ?_) | wp_step)
  exact hq
theorem acc_init0 {dx : Addr} {vs : Array Value} {n : Nat} {Q : Fin → Shared → Prop} (hx : h.get? x = some (AccO C dx #[] n)) (hq : ∀ h' n', h'.get? x = some (AccO C dx #[] n') → Heap.SameBut x h h' → Q (.done (.ret .none)) ⟨h', g, d, t, os⟩) :
    wpAny (model prog w) A (Builtin.«list.__init__» ⟨[.ref x], []⟩) Q E ⟨h, g, d, t, os⟩ := by
  unfold Builtin.«list.__init__» Builtin.List.listItems Builtin.List.listUpdate
  repeat (first | (with_reducible refine wpAny_loadPart_at hx ?_) | wp_step)
  obtain ⟨n', hn'⟩ := acc_upd hx (fun _ => #[])
  exact hq _ n' hn' (Heap.SameBut.update ..)
theorem acc_pop {dx : Addr} {us : List Value} {n : Nat} {Q : Fin → Shared → Prop} (hx : h.get? x = some (AccO C dx (us ++ [v]).toArray n)) (hq : ∀ h' n', h'.get? x = some (AccO C dx us.toArray n') → Heap.SameBut x h h' → Q (.done (.ret v)) ⟨h', g, d, t, os⟩)
    (hsz : us.length < sizeLine) :
    wpAny (model prog w) A (Builtin.«list.pop» ⟨[.ref x], []⟩) Q E ⟨h, g, d, t, os⟩ := by
  unfold Builtin.«list.pop» Builtin.List.listItems Builtin.List.listUpdate
  repeat (first | (with_reducible refine wpAny_loadPart_at hx ?_) | wp_step)
  have e : ((seqIndex? (-1) (us ++ [v]).toArray.size).bind fun k => Option.map (fun x => (k, x)) (us ++ [v]).toArray[k]?) = some (us.length, v) := by
    have : seqIndex? (-1) (us ++ [v]).toArray.size = some us.length := by
      simp [seqIndex?]
      lia
    rw [this]
    simp
  rw [e]
  obtain ⟨n', hn'⟩ := acc_upd hx (·.eraseIdxIfInBounds us.length)
  have e2 : (us ++ [v]).toArray.eraseIdxIfInBounds us.length = us.toArray := by
    simp [Array.eraseIdxIfInBounds, List.eraseIdx_append_of_length_le]
  rw [e2] at hn'
  refine wpAny_bind (wpAny_updateSeq hx rfl ?_ (by simp; lia) (by rw [e2]; simp; lia))
  exact wpAny_pure (hq _ n' hn' (Heap.SameBut.update ..))
end
end Mine
end

section
open PySem PySem.W PyProof.Rows PySem.Spec PySem.Calls
set_option maxRecDepth 100000
namespace Mine
noncomputable abbrev Kp (w : World) : Frag := topK w.params

/-- what stands at the top -/
structure Hp (p : Program) (w : World) (hb : Heap) : Prop where
  hp : p.main.file = PySem.Challenge.pw_ti0032_01.main.file ∧ (p.main.scope.names.lookup ("super" : Str)).isSome = false
  X : (Kp w).In hb
  T : ∃ V loose mean mg mb, Top V loose mean mg mb hb

theorem Hp.keeps {p : Program} {w : World} {h h' : Heap} (H : Hp p w h) (k : ∀ a o, h.get? a = some o → h'.get? a = some o) : Hp p w h' := by
  obtain ⟨hp, X, V, lo, me, mg, mb, T⟩ := H
  exact ⟨hp, X.keeps k, V, lo, me, mg, mb, T.keeps k⟩
theorem Hp.glob {p : Program} {w : World} {hb : Heap} (H : Hp p w hb) {x : Str} {v : Value} (e : nsIn (Kp w) mainGlobals x = some (some v)) : GlobIs hb x v := by
  obtain ⟨hp, X, V, lo, me, mg, mb, T⟩ := H
  exact ⟨mg, T.g, mg_of X T.g e⟩
theorem Hp.built {p : Program} {w : World} {hb : Heap} (H : Hp p w hb) {x : Str} {v : Value} (e : nsIn (Kp w) mainGlobals x = some none) (b : bootBuiltins x = some v) (hx : x ≠ "__name__" := by decide +kernel) : BuiltIs hb x v := by
  obtain ⟨hp, X, V, lo, me, mg, mb, T⟩ := H
  exact ⟨mg, mb, T.g, mg_none_of X T.g e, T.b, (T.builtins _ hx).trans b⟩
theorem Hp.lim {p : Program} {w : World} {hb : Heap} (H : Hp p w hb) : hb.NoLimit := by
  obtain ⟨hp, X, V, lo, me, mg, mb, T⟩ := H
  exact T.nolimit

noncomputable def fdOf (w : World) (a : Addr) : FuncData := match (Kp w).lookup a with
  | some ⟨_, _, .func fd, _⟩ => fd
  | _ => default
noncomputable def bodyOf (w : World) (a : Addr) : List Stmt := match (fdOf w a).body with
  | .stmts b => b
  | _ => []
noncomputable def objOf (w : World) (a : Addr) : Obj := ((Kp w).lookup a).getD default

def closOk (K : Frag) (l : List (Str × Addr)) : Bool := l.all fun x => match K.lookup x.2 with
  | some ⟨_, _, .cell _, _⟩ => true
  | _ => false

theorem Hp.fdOk {p : Program} {w : World} {hb : Heap} (H : Hp p w hb) (a : Addr) (body : List Stmt) (h1 : (fdOf w a).body = .stmts body) (h2 : (fdOf w a).scope.isCoroutine = false) (h3 : (fdOf w a).scope.isGenerator = false) (h4 : (fdOf w a).scope.kind = .function)
    (h5 : (fdOf w a).globals = mainGlobals) (h6 : (fdOf w a).builtins = builtinsNs) (h7 : codeIn (Kp w) (fdOf w a).code (fdOf w a).qualname = true) (h8 : closOk (Kp w) (fdOf w a).closure = true) (h9 : (fdOf w a).closure.length ≤ 1) : FdOk (fdOf w a) body hb where
  co := h2
  gen := h3
  kind := h4
  body := h1
  gl := h5
  bl := h6
  code := codeRec_of H.X h7
  clc := fun n c h => by
    have := List.all_eq_true.mp h8 (n, c) h
    simp only at this
    split at this
    · rename_i o d v sl e
      exact ⟨v, _, H.X _ _ e, rfl⟩
    · cases this
  cli := fun x y c h1 h2 => by
    generalize (fdOf w a).closure = l at h1 h2 h9
    match l, h9 with
    | [], _ => cases h1
    | [e], _ =>
      have q1 := List.mem_singleton.mp h1
      have q2 := List.mem_singleton.mp h2
      rw [← q2] at q1
      exact congrArg Prod.fst q1

section
variable {w : World}
theorem t1 : nsIn (Kp w) mainGlobals "_Accumulator" = some (some (.ref 115)) := by rfl
theorem t2 : nsIn (Kp w) mainGlobals "range" = some none := by rfl
theorem t3 : (fdOf w 59).body = .stmts (bodyOf w 59) := by rfl
theorem t4 : (Kp w).lookup 59 = some (objOf w 59) := by rfl
theorem t5 : (objOf w 59).data = .func (fdOf w 59) := by rfl
theorem t6 : codeIn (Kp w) (fdOf w 59).code (fdOf w 59).qualname = true := by rfl
end
end Mine
end

section
open PySem PySem.W PyProof.Rows PySem.Spec PySem.Calls
set_option maxRecDepth 100000
namespace Mine

def strKeysIn (K : Frag) (a : Addr) : Bool := match K.lookup a with
  | some ⟨_, _, .dict es _, _⟩ => es.toList.all fun e => match e.key with
    | .str _ _ => true
    | _ => false
  | _ => false
theorem ns_of {K : Frag} {h : Heap} {a : Addr} (X : K.In h) (e : strKeysIn K a = true) : ∃ m, h.Ns a m ∧ ∀ x y, nsIn K a x = some y → m x = y := by
  unfold strKeysIn at e
  split at e
  · rename_i c d es n sl q
    refine ⟨nsFind es, ⟨_, es, n, X _ _ q, rfl, fun en hen => ?_, fun _ => rfl⟩, fun x y hy => ?_⟩
    · have := List.all_eq_true.mp e en (by simpa using hen)
      split at this
      · rename_i k t q'; exact ⟨k, t, q'⟩
      · cases this
    · unfold nsIn at hy
      rw [q] at hy
      simp only at hy
      unfold nsFind findBy
      rw [← Array.find?_toList]
      split at hy
      · rename_i en he
        cases hy
        rw [he]; rfl
      · rename_i he
        split at hy
        · cases hy
        · cases hy
          rw [he]; rfl
  · cases e

/-- the namespace of the class, in the heap of the top -/
theorem accNs {w : World} {h : Heap} (X : (Kp w).In h) : ∃ mN, SubL h 115 114 mN ∧ ∀ x y, nsIn (Kp w) 114 x = some y → mN x = y := by
  obtain ⟨mN, hn, hm⟩ := ns_of (a := 114) X (by rfl)
  exact ⟨mN, ⟨⟨_, _, _, _, _, _, _, _, _, _, _, _, X 115 _ rfl⟩, hn, hm _ _ (by rfl), hm _ _ (by rfl), hm _ _ (by rfl), hm _ _ (by rfl)⟩, hm⟩
end Mine
end

section
open PySem PySem.W PyProof.Rows PySem.Spec PySem.Calls
set_option maxRecDepth 100000
namespace Mine
theorem accC {w : World} {h : Heap} (X : (Kp w).In h) : ∃ q sn sub col dd k0 k1 k2 k3 k5, h.get? 115 = some (excClassObj q "_Accumulator" 115 114 [.type "list"] [.type "list", .type "object"] true sn sub false col dd k0 k1 k2 k3 k5 "list.__new__") :=
  ⟨_, _, _, _, _, _, _, _, _, _, X 115 _ rfl⟩

section
variable {prog : Program} {w : World} {A : Around} {E : Value → Shared → Prop} {h : Heap} {g : Array GenState} {d : Drawn} {t : Nat} {os : OsState} {env : Env} {body : List Stmt}

/-- super(), in a method of the class, at an object -/
theorem super_at {p0 p1 : Pos} {attr : Str} {whole : Sem Value} {f x dx : Addr} {vs : Array Value} {n : Nat} {ar : PySem.Arg} {Q : Value → Shared → Prop} {m : Str → Option Value} (H : Hp prog w h)
    (hfu : env.func = some f) (hf : (Kp w).lookup f = some (objOf w f)) (hfd : (objOf w f).data = .func (fdOf w f)) (hp : ((fdOf w f).params.posonlyargs ++ (fdOf w f).params.args).head? = some ar)
    (hks : env.kindOf "super" = some .globalImplicit) (hkc : env.kindOf "__class__" = some .free) (hka : env.kindOf ar.arg = some .local) (hk : env.scope.kind = .function)
    (hco : env.code = (fdOf w f).code) (hcode : ∃ cc oc vs file tf, (fdOf w f).code = .ref cc ∧ (Kp w).lookup cc = some oc ∧ oc.data = .fields vs ∧ vs[2]? = some (.str file tf) ∧ ((PySem.Challenge.pw_ti0032_01.main.file : Str) == file) = true)
    (gl : env.globals = mainGlobals) (bl : env.builtins = builtinsNs) (hcell : env.cells.lookup ("__class__" : Str) = some 39)
    (hns : h.Ns env.locals m) (hm : m ar.arg = some (.ref x)) (hx : h.get? x = some (AccO 115 dx vs n)) (hat : (attr == ("__class__" : Str)) = false)
    (hq : ∀ h', h'.get? h.objs.size = some (ks_superObj 115 x 115) → (∀ y o, h.get? y = some o → h'.get? y = some o) → Q (.ref h.objs.size) ⟨h', g, d, t, os⟩) :
    _root_.PySem.wpAt (model prog w) A (.func body env) (attributeBase (.Call (.Name "super" p0) [] [] p1) attr env whole) Q E ⟨h, g, d, t, os⟩ := by
  have X := H.X
  have hp' := H.hp
  obtain ⟨cc, oc, vs', file, tf, hcc, hlc, hoc, hv2, hfile⟩ := hcode
  obtain ⟨q, sn, sub, col, dd, k0, k1, k2, k3, k5, hC⟩ := accC X
  refine ks_wpAt_super_base hks hkc hat hfu (X _ _ hf) hfd hp (hco.trans hcc) (X _ _ hlc) hoc hv2 (by rw [hp'.1]; exact hfile) hp'.2 ?_
  obtain ⟨mg, mb, hg, hgx, hb, hbx⟩ := H.built (x := "super") (v := .type "super") (by rfl) (by rfl)
  refine ks_loadName_global hk hks (loadGlobal_builtin (gl ▸ hg) hgx (bl ▸ hb) hbx ⟨rfl, ?_⟩)
  refine wpAny_loadName_free hk hkc hcell ⟨_, X 39 _ rfl, rfl⟩ ?_
  refine wpAny_loadName_local hk hka hns hm ?_
  refine ks_wpAny_isType_cls hC rfl ⟨rfl, ?_⟩
  refine ks_wpAny_call_super hC rfl hx rfl (fun c e => by cases e) (looks_mroIn X (C := 115) (base := .ref 115) (r := true) (by rfl)) (fun h' e k => hq h' e k)
end
end Mine
end

section
open PySem PySem.W PyProof.Rows PySem.Spec PySem.Calls
set_option maxRecDepth 100000
namespace Mine
section
variable {prog : Program} {w : World} {A : Around} {E : Value → Shared → Prop} {h : Heap} {g : Array GenState} {d : Drawn} {t : Nat} {os : OsState} {env : Env} {body : List Stmt}

theorem callWith_bound {b x : Addr} {id bt : String} {pos : Pos} {Q : Value → Shared → Prop} (hbt : bt = "builtin_function_or_method" ∨ bt = "method-wrapper")
    (hb : h.get? b = some { cls := .type bt, data := .fields #[.builtin id, .ref x] })
    (hq : wpAny (model prog w) A (call (.ref b) []) Q E ⟨h, g, d, t, os⟩) : wpAny (model prog w) A (callWith pos (.ref b) [] (backTo pos (starEach [] env)) []) Q E ⟨h, g, d, t, os⟩ := by
  have e1 : (Value.type bt != Value.type "method") = true := by rcases hbt with rfl | rfl <;> rfl
  have e2 : (Value.type bt == Value.type "builtin_function_or_method" || Value.type bt == Value.type "method-wrapper") = true := by rcases hbt with rfl | rfl <;> rfl
  unfold callWith
  refine wpAny_bind (wpAny_holding (PyProof.Rows.evalArgs_none ?_))
  refine wpAny_bind (wpAny_standAt ?_)
  show wpAny _ _ (keeperOf (.ref b) >>= _) _ _ _
  unfold keeperOf
  refine wpAny_bind (wpAny_bind (wpAny_load hb ?_))
  simp only [e1, e2, if_true]
  refine wpAny_pure ?_
  show wpAny _ _ (call (.ref b) [] [] >>= fun r => do holding [r] point; pure r) _ _ _
  exact wpAny_bind (wpAny_mono hq (fun r s' hr => wpAny_bind (wpAny_holding (wpAny_point (wpAny_pure hr)))) fun _ _ x => x)

/-- super().name(), a built-in of list -/
theorem super_call {p0 p1 ap pos : Pos} {name : Str} {id dt bt : String} {B : Builtin} {f x dx : Addr} {vs : Array Value} {n : Nat} {ar : PySem.Arg} {Q : Value → Shared → Prop} {m : Str → Option Value} (H : Hp prog w h)
    (hfu : env.func = some f) (hf : (Kp w).lookup f = some (objOf w f)) (hfd : (objOf w f).data = .func (fdOf w f)) (hp : ((fdOf w f).params.posonlyargs ++ (fdOf w f).params.args).head? = some ar)
    (hks : env.kindOf "super" = some .globalImplicit) (hkc : env.kindOf "__class__" = some .free) (hka : env.kindOf ar.arg = some .local) (hk : env.scope.kind = .function)
    (hco : env.code = (fdOf w f).code) (hcode : ∃ cc oc vs file tf, (fdOf w f).code = .ref cc ∧ (Kp w).lookup cc = some oc ∧ oc.data = .fields vs ∧ vs[2]? = some (.str file tf) ∧ ((PySem.Challenge.pw_ti0032_01.main.file : Str) == file) = true)
    (gl : env.globals = mainGlobals) (bl : env.builtins = builtinsNs) (hcell : env.cells.lookup ("__class__" : Str) = some 39)
    (hns : h.Ns env.locals m) (hm : m ar.arg = some (.ref x)) (hx : h.get? x = some (AccO 115 dx vs n)) (hat : (name == ("__class__" : Str)) = false)
    (along : ∀ K : Frag, alongIn K name [.type "list", .type "object"] = some (some (.builtin id))) (hty : typeOf (.builtin id) = pure (.type dt)) (hlk : typeLookup (.type dt) "__get__" = pure (some (.builtin (dt ++ ".__get__"))))
    (hbt : (dt = "method_descriptor" ∧ bt = "builtin_function_or_method" ∧ Manifest.toldItsClass.contains id = false) ∨ (dt = "wrapper_descriptor" ∧ bt = "method-wrapper")) (hcut : (".".intercalate (id.cutAt '.').dropLast) = "list")
    (hpl : plainId id = true) (he : entryFor table id = some B)
    (hck : ∀ h', (∀ y o, h.get? y = some o → h'.get? y = some o) → wpAny (model prog w) A.in1 (checkBoundCall id ⟨.ref x :: [], []⟩) (fun _ s' => s' = ⟨h', g, d, t + 1, os⟩) NoE ⟨h', g, d, t + 1, os⟩)
    (hq : ∀ h', (∀ y o, h.get? y = some o → h'.get? y = some o) → h.objs.size ≤ h'.objs.size → wpAny (model prog w) A.in1 (B ⟨.ref x :: [], []⟩) (fun fin s' => ∃ v, fin = .done (.ret v) ∧ Q v s') E ⟨h', g, d, t + 1, os⟩)
    (heval : eval (.Call (.Attribute (.Call (.Name "super" p0) [] [] p1) name ap) [] [] pos) env = (do
      let ov ← attributeBase (.Call (.Name "super" p0) [] [] p1) name env (eval (.Call (.Name "super" p0) [] [] p1) env)
      standAt ap.atName
      let (f, first) ← holding [ov] (getMethod ov name (pure false))
      callWith pos f first (backTo pos (starEach [] env)) [])) :
    _root_.PySem.wpAt (model prog w) A (.func body env) (eval (.Call (.Attribute (.Call (.Name "super" p0) [] [] p1) name ap) [] [] pos) env) Q E ⟨h, g, d, t, os⟩ := by
  have X := H.X
  have hxlt : @LT.lt Nat _ x h.objs.size := Heap.lt_size hx
  obtain ⟨q, sn, sub, col, dd, k0, k1, k2, k3, k5, hC⟩ := accC X
  have hxC : x ≠ 115 := by
    rintro rfl
    rw [hx] at hC
    cases hC
  refine ks_wpAt_MethodCall (pl := pure false) (super_at H hfu hf hfd hp hks hkc hka hk hco hcode gl bl hcell hns hm hx hat (fun h' e k => ?_)) heval
  have X' : (Kp w).In h' := X.keeps k
  have hC' := k _ _ hC
  have hm' : Looks (model prog w) h' (mroOf (.ref 115)) [.ref 115, .type "list", .type "object"] := (looks_clsIn X' (C := 115) rfl).andThen .now
  refine getMethod_super (so := h.objs.size) (D := 115) (l := [.type "list", .type "object"]) (bt := bt) e (looks_opaque X' (by rfl)) hm' (by rfl) X' (along _) hty hlk hxC hat (fun A' E' t' Q' hq' => ?_) ?_
  · rcases hbt with ⟨rfl, rfl, hti⟩ | ⟨rfl, rfl⟩
    · exact call_md_get hty hcut hti hC' (k _ _ hx) rfl hq'
    · exact call_wd_get hty hcut hC' (k _ _ hx) rfl hq'
  · have kk : ∀ y o, h.get? y = some o → (h'.push { cls := .type bt, data := .fields #[.builtin id, .ref x] }).get? y = some o := fun y o q => Heap.get?_push_of_some _ (k y o q)
    have hb : bt = "builtin_function_or_method" ∨ bt = "method-wrapper" := by
      rcases hbt with ⟨_, h, _⟩ | ⟨_, h⟩
      · exact .inl h
      · exact .inr h
    have hsz : h.objs.size ≤ (h'.push { cls := .type bt, data := .fields #[.builtin id, .ref x] }).objs.size := by
      rw [Heap.size_push]
      have := Heap.lt_size e
      exact Nat.le_of_lt (Nat.lt_succ_of_lt this)
    refine callWith_bound hb (Heap.get?_push_size _ rfl) (call_bound hb (Heap.get?_push_size _ rfl) hpl he (hck _ kk) (hq _ kk hsz))
end
end Mine
end

section
open PySem PySem.W PyProof.Rows PySem.Spec PySem.Calls
set_option maxRecDepth 100000
namespace Mine

/-- a def of the top -/
structure Fn (w : World) (a : Addr) : Prop where
  look : (Kp w).lookup a = some (objOf w a)
  dat : (objOf w a).data = .func (fdOf w a)
  body : (fdOf w a).body = .stmts (bodyOf w a)
  co : (fdOf w a).scope.isCoroutine = false
  gen : (fdOf w a).scope.isGenerator = false
  kind : (fdOf w a).scope.kind = .function
  gl : (fdOf w a).globals = mainGlobals
  bl : (fdOf w a).builtins = builtinsNs
  code : codeIn (Kp w) (fdOf w a).code (fdOf w a).qualname = true
  clo : closOk (Kp w) (fdOf w a).closure = true
  cl1 : Nat.ble (fdOf w a).closure.length 1 = true

theorem Fn.ok {w : World} {a : Addr} (f : Fn w a) {p : Program} {hb : Heap} (H : Hp p w hb) : FdOk (fdOf w a) (bodyOf w a) hb := H.fdOk a _ f.body f.co f.gen f.kind f.gl f.bl f.code f.clo (Nat.le_of_ble_eq_true f.cl1)
theorem Fn.at {w : World} {a : Addr} (f : Fn w a) {p : Program} {hb : Heap} (H : Hp p w hb) : hb.get? a = some (objOf w a) := H.X _ _ f.look

section
variable {w : World}
theorem fn28 : Fn w 28 := ⟨by rfl, by rfl, by rfl, by rfl, by rfl, by rfl, by rfl, by rfl, by rfl, by rfl, by rfl⟩
theorem fn35 : Fn w 35 := ⟨by rfl, by rfl, by rfl, by rfl, by rfl, by rfl, by rfl, by rfl, by rfl, by rfl, by rfl⟩
theorem fn52 : Fn w 52 := ⟨by rfl, by rfl, by rfl, by rfl, by rfl, by rfl, by rfl, by rfl, by rfl, by rfl, by rfl⟩
theorem fn59 : Fn w 59 := ⟨by rfl, by rfl, by rfl, by rfl, by rfl, by rfl, by rfl, by rfl, by rfl, by rfl, by rfl⟩
theorem fn67 : Fn w 67 := ⟨by rfl, by rfl, by rfl, by rfl, by rfl, by rfl, by rfl, by rfl, by rfl, by rfl, by rfl⟩
theorem fn75 : Fn w 75 := ⟨by rfl, by rfl, by rfl, by rfl, by rfl, by rfl, by rfl, by rfl, by rfl, by rfl, by rfl⟩
theorem fn97 : Fn w 97 := ⟨by rfl, by rfl, by rfl, by rfl, by rfl, by rfl, by rfl, by rfl, by rfl, by rfl, by rfl⟩
theorem fn112 : Fn w 112 := ⟨by rfl, by rfl, by rfl, by rfl, by rfl, by rfl, by rfl, by rfl, by rfl, by rfl, by rfl⟩
theorem fn129 : Fn w 129 := ⟨by rfl, by rfl, by rfl, by rfl, by rfl, by rfl, by rfl, by rfl, by rfl, by rfl, by rfl⟩
theorem fn136 : Fn w 136 := ⟨by rfl, by rfl, by rfl, by rfl, by rfl, by rfl, by rfl, by rfl, by rfl, by rfl, by rfl⟩
theorem fn143 : Fn w 143 := ⟨by rfl, by rfl, by rfl, by rfl, by rfl, by rfl, by rfl, by rfl, by rfl, by rfl, by rfl⟩
theorem fn150 : Fn w 150 := ⟨by rfl, by rfl, by rfl, by rfl, by rfl, by rfl, by rfl, by rfl, by rfl, by rfl, by rfl⟩
theorem fn155 : Fn w 155 := ⟨by rfl, by rfl, by rfl, by rfl, by rfl, by rfl, by rfl, by rfl, by rfl, by rfl, by rfl⟩
theorem fn162 : Fn w 162 := ⟨by rfl, by rfl, by rfl, by rfl, by rfl, by rfl, by rfl, by rfl, by rfl, by rfl, by rfl⟩
theorem fn167 : Fn w 167 := ⟨by rfl, by rfl, by rfl, by rfl, by rfl, by rfl, by rfl, by rfl, by rfl, by rfl, by rfl⟩
theorem fn172 : Fn w 172 := ⟨by rfl, by rfl, by rfl, by rfl, by rfl, by rfl, by rfl, by rfl, by rfl, by rfl, by rfl⟩
theorem fn177 : Fn w 177 := ⟨by rfl, by rfl, by rfl, by rfl, by rfl, by rfl, by rfl, by rfl, by rfl, by rfl, by rfl⟩
theorem fn182 : Fn w 182 := ⟨by rfl, by rfl, by rfl, by rfl, by rfl, by rfl, by rfl, by rfl, by rfl, by rfl, by rfl⟩

end
end Mine
end

section
open PySem PySem.W PyProof.Rows PySem.Spec PySem.Calls
set_option maxRecDepth 100000
namespace Mine

def Room (A : Around) (k : Nat) : Prop := A.depth + k < 900 ∧ A.units + 10 * k < 9000
theorem Room.lim {A : Around} {k : Nat} (h : Room A k) : A.depth < recursionLimit := by have := h.1; unfold recursionLimit; lia

/-- a method of the class -/
def AccM (C : Cx) (f : Addr) (ds as : List D) (d : D) (ds' : List D) : Prop := ∀ s ρ μ a dx vs, FI C s ρ μ → C.ox a → C.oa a → C.ox dx → C.oa dx →
  OwnRep C.p C.w s.heap C.ex a (.acc 115 dx ds) → Reps C.p C.w (vw s.heap C.ex) vs as →
  wpAny C.M C.A (call (.ref f) (.ref a :: vs)) (RetP s (fun b => b = a ∨ b = dx) C.ex C.p C.w d [(a, .acc 115 dx ds')]) NoE s

theorem OwnRep.more {p : Program} {w : World} {X : Addr → Prop} {h h' : Heap} {a : Addr} {o : Own} (r : OwnRep p w h X a o) (k : ∀ b o, h.get? b = some o → h'.get? b = some o) : OwnRep p w h' X a o :=
  r.kept (fun b o _ e => k b o e) (fun o e => k a o e) fun _ dx _ _ o e => k dx o e

/-- the facts of a method that uses super() -/
structure SupM (w : World) (f : Addr) (ar : PySem.Arg) : Prop where
  fn : Fn w f
  head : ((fdOf w f).params.posonlyargs ++ (fdOf w f).params.args).head? = some ar
  self : ar.arg = "self"
  code : ∃ cc oc vs file tf, (fdOf w f).code = .ref cc ∧ (Kp w).lookup cc = some oc ∧ oc.data = .fields vs ∧ vs[2]? = some (.str file tf) ∧ ((PySem.Challenge.pw_ti0032_01.main.file : Str) == file) = true
  cell : (fdOf w f).closure.lookup ("__class__" : Str) = some 39
  ks : (fdOf w f).scope.names.lookup ("super" : Str) = some .globalImplicit
  kc : (fdOf w f).scope.names.lookup ("__class__" : Str) = some .free
  ka : (fdOf w f).scope.names.lookup ("self" : Str) = some .local
  nocell : ((fdOf w f).scope.names.all fun x => x.2 != .cell) = true

section
variable {w : World}
theorem sup112 : ∃ ar, SupM w 112 ar := ⟨_, fn112, by rfl, by rfl, ⟨_, _, _, _, _, by rfl, by rfl, by rfl, by rfl, by rfl⟩, by rfl, by rfl, by rfl, by rfl, by rfl⟩
theorem sup75 : ∃ ar, SupM w 75 ar := ⟨_, fn75, by rfl, by rfl, ⟨_, _, _, _, _, by rfl, by rfl, by rfl, by rfl, by rfl⟩, by rfl, by rfl, by rfl, by rfl, by rfl⟩
theorem sup52 : ∃ ar, SupM w 52 ar := ⟨_, fn52, by rfl, by rfl, ⟨_, _, _, _, _, by rfl, by rfl, by rfl, by rfl, by rfl⟩, by rfl, by rfl, by rfl, by rfl, by rfl⟩
theorem pk112 {v : Value} (S : _) : peek (Kp w) S (bindArgs (fdOf w 112) ⟨[v], []⟩) = some ([("self", v)] : List (Str × Value)) := by kernel_rfl
theorem bt112 {v : Value} {s : Shared} (X : (Kp w).In s.heap) : BindsTo s (fdOf w 112) ⟨[v], []⟩ ([("self", v)] : List (Str × Value)) := by with_reducible exact kp_binds X pk112
theorem pk75 {v : Value} (S : _) : peek (Kp w) S (bindArgs (fdOf w 75) ⟨[v], []⟩) = some ([("self", v)] : List (Str × Value)) := by kernel_rfl
theorem bt75 {v : Value} {s : Shared} (X : (Kp w).In s.heap) : BindsTo s (fdOf w 75) ⟨[v], []⟩ ([("self", v)] : List (Str × Value)) := by with_reducible exact kp_binds X pk75
theorem pk59 {v u z : Value} (S : _) : peek (Kp w) S (bindArgs (fdOf w 59) ⟨[v, u, z], []⟩) = some ([("self", v), ("fws", u), ("string", z)] : List (Str × Value)) := by kernel_rfl
theorem bt59 {v u z : Value} {s : Shared} (X : (Kp w).In s.heap) : BindsTo s (fdOf w 59) ⟨[v, u, z], []⟩ ([("self", v), ("fws", u), ("string", z)] : List (Str × Value)) := by with_reducible exact kp_binds X pk59
theorem pk97 {v u : Value} (S : _) : peek (Kp w) S (bindArgs (fdOf w 97) ⟨[v, u], []⟩) = some ([("self", v), ("startval", u)] : List (Str × Value)) := by kernel_rfl
theorem bt97 {v u : Value} {s : Shared} (X : (Kp w).In s.heap) : BindsTo s (fdOf w 97) ⟨[v, u], []⟩ ([("self", v), ("startval", u)] : List (Str × Value)) := by with_reducible exact kp_binds X pk97
theorem pk67 {v : Value} (S : _) : peek (Kp w) S (bindArgs (fdOf w 67) ⟨[v], []⟩) = some ([("self", v), ("i", .int 0 265)] : List (Str × Value)) := by kernel_rfl
theorem bt67 {v : Value} {s : Shared} (X : (Kp w).In s.heap) : BindsTo s (fdOf w 67) ⟨[v], []⟩ ([("self", v), ("i", .int 0 265)] : List (Str × Value)) := by with_reducible exact kp_binds X pk67
theorem pk52 {v : Value} (S : _) : peek (Kp w) S (bindArgs (fdOf w 52) ⟨[v], []⟩) = some ([("self", v), ("initial_size", .int 0 246)] : List (Str × Value)) := by kernel_rfl
theorem bt52 {v : Value} {s : Shared} (X : (Kp w).In s.heap) : BindsTo s (fdOf w 52) ⟨[v], []⟩ ([("self", v), ("initial_size", .int 0 246)] : List (Str × Value)) := by with_reducible exact kp_binds X pk52
end

section
variable {C : Cx}
theorem Fn.callEnv_kind {w : World} {f : Addr} (F : Fn w f) (L : Addr) : (callEnv (fdOf w f) L f).scope.kind = .function := F.kind

theorem acc_part_count (H : Hp C.p C.w C.hb) (hr : Room C.A 1) {ds : List D} : AccM C 112 ds [] (.int ds.length) ds := by
  intro s ρ μ a dx vs I _ _ _ _ ro rp
  cases rp
  have ro' := ro
  cases ro with
  | acc hx hns hm hrep =>
  rename_i us n m
  have H' := H.keeps I.hbk
  have hl := hrep.length
  obtain ⟨ar, S⟩ := sup112 (w := C.w)
  have hbd : BindsTo s (fdOf C.w 112) ⟨[.ref a], []⟩ ([("self", .ref a)] : List (Str × Value)) := by with_reducible exact bt112 H'.X
  obtain ⟨hh, g, d, t, os⟩ := s
  refine wpAny_call ?_
  with_reducible refine ks_codeAny_call_defAt (fd := fdOf C.w 112) (body := bodyOf C.w 112) (binds := [("self", .ref a)]) hr.lim (S.fn.at H') S.fn.dat H'.lim (codeRec_of H'.X S.fn.code) S.fn.body hbd ?_ ?_ (fun h₀ hns₀ hk₀ => ?_) S.fn.co S.fn.gen S.fn.kind
  · intro x hx
    have := List.all_eq_true.mp S.nocell x hx
    simpa using this
  · intro x hx; rw [List.mem_singleton.mp hx]; exact S.ka
  have H₀ := H'.keeps hk₀
  have hself : (fun x => ([("self", .ref a)] : List (Str × Value)).reverse.lookup x) ar.arg = some (.ref a) := by rw [S.self]; rfl
  refine ks_wpAt_execs_cons (ks_wpAt_Return_some ?_)
  refine super_call (f := 112) (ar := ar) H₀ rfl S.fn.look S.fn.dat S.head S.ks S.kc (by rw [S.self]; exact S.ka) S.fn.kind rfl S.code S.fn.gl S.fn.bl S.cell hns₀ hself (hk₀ _ _ hx) (by decide) along_len ty_len slot_wd_get.lookup (.inr ⟨rfl, rfl⟩) (by decide +kernel)
    PySem.F.slot_list_len.plain PySem.F.entry_list_len (fun h' k => bound_len) (fun h' k hsz => ?_) (by rfl)
  refine acc_len (k _ _ (hk₀ _ _ hx)) ⟨_, rfl, ?_⟩
  have kk : ∀ b o, hh.get? b = some o → h'.get? b = some o := fun b o e => k b o (hk₀ b o e)
  refine ⟨⟨rfl, Nat.le_trans (Nat.le_of_lt hns₀.lt) hsz, fun b o _ e => kk b o e⟩, ?_, fun b o hb => ?_⟩
  · rw [List.size_toArray, hl]; exact .int _ _
  · cases List.mem_singleton.mp hb
    exact ro'.more kk
end
end Mine
end

section
open PySem PySem.W PyProof.Rows PySem.Spec PySem.Calls
set_option maxRecDepth 100000
namespace Mine

theorem Reps.snoc {p : Program} {w : World} {H : HV} {vs : List Value} {ds : List D} {d : D} (h : Reps p w H vs (ds ++ [d])) : ∃ us v, vs = us ++ [v] ∧ Reps p w H us ds ∧ Rep p w H v d := by
  induction ds generalizing vs with
  | nil =>
    cases h with
    | cons h r => cases r; exact ⟨[], _, rfl, .nil, h⟩
  | cons e ds ih =>
    cases h with
    | cons h r =>
      obtain ⟨us, v, rfl, r1, r2⟩ := ih r
      exact ⟨_ :: us, v, rfl, .cons h r1, r2⟩

theorem FI.withA {C : Cx} {s : Shared} {ρ : Rho} {μ : Mu} (I : FI C s ρ μ) {A' : Around} (hh : A'.handled = none) : FI { C with A := A' } s ρ μ :=
  ⟨⟨I.ok.kind, hh, I.ok.gl, I.ok.bl, I.ok.floc, I.ok.fo, I.ok.fge, I.ok.oge, I.ok.cno, I.ok.cnx, I.ok.apart, I.ok.loc, I.ok.ownox, I.ok.oxe, I.ok.oxf, I.ok.hb0, I.ok.mhb, I.ok.ohb⟩, I.base, I.ns, I.cel, I.lt, I.vars, I.ownv, I.owns⟩

theorem meth_node {M : Model} {A : Around} {env : Env} {E : Value → Shared → Prop} {s : Shared} {o : Expr} {name : Str} {ap pos : Pos} {args : List Expr} {pl : Sem Bool} {Q : Value → Shared → Prop}
    (h : wpAny M A (eval o env) (fun ov s₁ => wpAny M A (getMethod ov name pl) (fun fx s₂ => wpAny M A (callWith pos fx.1 fx.2 (backTo pos (starEach args env)) []) Q E s₂) E s₁) E s)
    (hbase : attributeBase o name env (eval o env) = eval o env)
    (he : eval (.Call (.Attribute o name ap) args [] pos) env = (do
      let ov ← attributeBase o name env (eval o env)
      standAt ap.atName
      let (f, first) ← holding [ov] (getMethod ov name pl)
      callWith pos f first (backTo pos (starEach args env)) [])) :
    wpAny M A (eval (.Call (.Attribute o name ap) args [] pos) env) Q E s := by
  rw [he, hbase]
  refine wpAny_bind (wpAny_mono h (fun ov s₁ h₁ => wpAny_bind (wpAny_standAt (wpAny_bind (wpAny_holding (wpAny_mono h₁ (fun fx s₂ h₂ => ?_) fun _ _ x => x))))) fun _ _ x => x)
  exact h₂

theorem acc_inst {h : Heap} {a dx : Addr} {vs : Array Value} {n : Nat} {m : Str → Option Value} (hx : h.get? a = some (AccO 115 dx vs n)) (hns : h.Ns1 dx m) (hne : dx ≠ a) : h.Inst a 115 m :=
  ⟨_, hx, rfl, fun c => by simp, .inr ⟨dx, rfl, hne, hns⟩⟩

/-- the method of an object, by its name -/
theorem acc_getMethod {prog : Program} {w : World} {A : Around} {E : Value → Shared → Prop} {s : Shared} {a dx f : Addr} {vs : Array Value} {n : Nat} {m : Str → Option Value} {name : Str} {y : Option Value} {pl : Sem Bool} {Q : Value × List Value → Shared → Prop} (X : (Kp w).In s.heap)
    (hx : s.heap.get? a = some (AccO 115 dx vs n)) (hns : s.heap.Ns1 dx m) (hm : dx ≠ a ∧ ∀ y, y ≠ ("_initial_size" : Str) → m y = none) (hf : nsIn (Kp w) 114 name = some (some (.ref f))) (hfo : (Kp w).lookup f = some (objOf w f)) (hfc : (objOf w f).cls = .type "function")
    (hB : typeLookup (.type "list") name = pure y) (hn : name ≠ ("_initial_size" : Str)) (hq : Q (.ref f, [.ref a]) s) : wpAny (model prog w) A (getMethod (.ref a) name pl) Q E s := by
  obtain ⟨q, sn, sub, col, dd, k0, k1, k2, k3, k5, hC⟩ := accC X
  obtain ⟨mN, S, hS⟩ := accNs X
  obtain ⟨hh, g, d, t, os⟩ := s
  exact getMethod_fn hC S.ns S.nga S.ngt (hS _ _ hf) (X _ _ hfo) hfc hB (acc_inst hx hns hm.1) (hm.2 _ hn) hq

theorem lk_part_count : typeLookup (.type "list") "part_count" = pure none := by rw [typeLookup_type, builtinLookup_eq_fast]; kernel_rfl

section
variable {C : Cx}
theorem acc_pop_ (H : Hp C.p C.w C.hb) (hr : Room C.A 2) {ds : List D} {d : D} {ds' : List D} (hd : (ds = [] ∧ d = .tup [.str "", .str ""] ∧ ds' = []) ∨ ds = ds' ++ [d]) (hz : ds.length < 1000) : AccM C 75 ds [] d ds' := by
  intro s ρ μ a dx vs I o1 o2 o3 o4 ro rp
  cases rp
  have ro' := ro
  cases ro with
  | acc hx hns hm hrep =>
  rename_i us n m
  have H' := H.keeps I.hbk
  obtain ⟨ar, S⟩ := sup75 (w := C.w)
  have hbd : BindsTo s (fdOf C.w 75) ⟨[.ref a], []⟩ ([("self", .ref a)] : List (Str × Value)) := by with_reducible exact bt75 H'.X
  refine wpAny_call ?_
  with_reducible refine ks_codeAny_call_defAt (fd := fdOf C.w 75) (body := bodyOf C.w 75) (binds := [("self", .ref a)]) hr.lim (S.fn.at H') S.fn.dat H'.lim (codeRec_of H'.X S.fn.code) S.fn.body hbd ?_ ?_ (fun h₀ hns₀ hk₀ => ?_) S.fn.co S.fn.gen S.fn.kind
  · intro x hx
    have := List.all_eq_true.mp S.nocell x hx
    simpa using this
  · intro x hx; rw [List.mem_singleton.mp hx]; exact S.ka
  have H₀ := H'.keeps hk₀
  have hself : (fun x => ([("self", .ref a)] : List (Str × Value)).reverse.lookup x) ar.arg = some (.ref a) := by rw [S.self]; rfl
  have hself2 : (fun x => ([("self", .ref a)] : List (Str × Value)).reverse.lookup x) ("self" : Str) = some (.ref a) := rfl
  have g0 : Grow Nil s { s with heap := h₀, toks := s.toks + ([("self", .ref a)] : List (Str × Value)).length } := ⟨rfl, Nat.le_of_lt hns₀.lt, fun b o _ e => hk₀ b o e⟩
  have I₀ := (I.growT g0).withA (A' := C.A.deeper (callEnv (fdOf C.w 75) s.heap.objs.size 75)) I.ok.hh
  have hr1 : Room (C.A.deeper (callEnv (fdOf C.w 75) s.heap.objs.size 75)) 1 := ⟨by have := hr.1; show C.A.depth + 1 + 1 < 900; lia, by have := hr.2; show C.A.units + 3 + 10 * 1 < 9000; lia⟩
  have pc := acc_part_count (C := { C with A := C.A.deeper (callEnv (fdOf C.w 75) s.heap.objs.size 75) }) H hr1 (ds := ds) _ _ _ a dx [] I₀ o1 o2 o3 o4 (ro'.more hk₀) .nil
  refine ks_wpAt_execs_cons (ks_wpAt_If (_root_.PySem.wpAt_of_wpAny (wpAny_isTrue_Compare1 (meth_node ?_ (by rfl) (by rfl)) (by rfl))))
  refine wpAny_Name (wpAny_loadName_local S.fn.kind S.ka hns₀ hself2 ?_) (by decide)
  refine acc_getMethod H₀.X (hk₀ _ _ hx) (hns.at fun o e => hk₀ _ o e) hm (by rfl) fn112.look (by rfl) lk_part_count (by decide) ?_
  refine callWith_meth0 (o := objOf C.w 112) fn112.dat (fn112.at H₀) (wpAny_mono pc (fun v s₁ r₁ => ?_) fun _ _ q => q.elim)
  obtain ⟨tk, rfl⟩ := r₁.rep.int_inv
  refine wpAny_Constant_int (P.eq_int (wpAny_truthy_bool ?_))
  have g1 := r₁.grow
  have kk : ∀ b o, ¬ (b = a ∨ b = dx) → s.heap.get? b = some o → s₁.heap.get? b = some o := fun b o nb e => g1.keep b o nb (hk₀ b o e)
  have H₁ : Hp C.p C.w s₁.heap := H.keeps fun b o e => by
    refine kk b o (fun q => ?_) (I.hbk b o e)
    have h1 : C.hb.get? b = none := by
      rcases q with q | q
      · exact I.ok.ohb b (q ▸ o1)
      · exact I.ok.ohb b (q ▸ o3)
    rw [h1] at e; cases e
  have lta : @LT.lt Nat _ a s.heap.objs.size := I.lt a (.inr (.inr o2))
  have ltd : @LT.lt Nat _ dx s.heap.objs.size := I.lt dx (.inr (.inr o4))
  have hns₁ : s₁.heap.Ns s.heap.objs.size (fun x => ([("self", .ref a)] : List (Str × Value)).reverse.lookup x) := hns₀.at fun o e => g1.keep _ o (fun q => by
    rcases q with q | q
    · exact absurd lta (by rw [← q]; exact Nat.lt_irrefl _)
    · exact absurd ltd (by rw [← q]; exact Nat.lt_irrefl _)) e
  have sz1 : s.heap.objs.size ≤ s₁.heap.objs.size := Nat.le_trans (Nat.le_of_lt hns₀.lt) g1.size
  have same1 : s₁ = { s with heap := s₁.heap, toks := s₁.toks } := g1.same
  have ro1 := r₁.owns a _ (List.mem_singleton.mpr rfl)
  rcases hd with ⟨rfl, rfl, rfl⟩ | hd
  · rw [if_pos (by rfl)]
    refine ks_wpAt_execs_cons (ks_wpAt_Return_some (_root_.PySem.wpAt_of_wpAny ?_))
    refine wpAny_Tuple (wpAny_items_cons (wpAny_Constant_str (wpAny_items_cons (wpAny_Constant_str (wpAny_items_nil ?_)) (by rfl))) (by rfl))
    refine ⟨show 2 ≤ sizeLine by decide, ?_⟩
    refine ⟨⟨?_, ?_, fun b o nb e => ?_⟩, ?_, fun b o hb => ?_⟩
    · rw [same1]
    · show _ ≤ (s₁.heap.push _).objs.size
      rw [Heap.size_push]
      exact Nat.le_succ_of_le sz1
    · exact Heap.get?_push_of_some _ (kk b o nb e)
    · exact .tup (vs := [_, _]) ⟨Heap.get?_push_size _ rfl, fun q => absurd (I.lt _ q) (Nat.not_lt.mpr sz1)⟩ rfl rfl (.cons (.str _ _) (.cons (.str _ _) .nil))
    · cases List.mem_singleton.mp hb
      exact ro1.more fun b o e => Heap.get?_push_of_some _ e
  · rw [if_neg (by rw [hd]; simp; lia)]
    refine _root_.PySem.wpAt_of_wpAny (wpAny_execs_nil ?_)
    cases ro1 with
    | acc hx1 hns1' hm1 hrep1 =>
    rename_i us1 n1 m1
    rw [hd] at hrep1
    obtain ⟨us', v, rfl, hrep2, hv⟩ := hrep1.snoc
    obtain ⟨q, sn, sub, col, dd, k0, k1, k2, k3, k5, hC⟩ := accC H₁.X
    have hl2 : us'.length = ds'.length := hrep2.length
    have hz' : ds'.length + 1 < 1000 := by rw [hd] at hz; simpa using hz
    refine ks_wpAt_execs_cons (ks_wpAt_Return_some ?_)
    refine super_call (f := 75) (ar := ar) H₁ rfl S.fn.look S.fn.dat S.head S.ks S.kc (by rw [S.self]; exact S.ka) S.fn.kind rfl S.code S.fn.gl S.fn.bl S.cell hns₁ hself hx1 (by decide) along_pop ty_pop slot_md_get.lookup (.inl ⟨rfl, rfl, by decide +kernel⟩) (by decide +kernel)
      PySem.F.slot_list_pop.plain PySem.F.entry_list_pop (fun h' k => bound_pop (k _ _ hC) (k _ _ hx1) rfl (fun c => by simp)) (fun h' k hsz => ?_) (by rfl)
    refine acc_pop (k _ _ hx1) (fun h'' n' hn'' hb => ⟨v, rfl, ?_⟩) (by rw [hl2]; have : sizeLine = 16777216 := sizeLine_eq; lia)
    have kv : ∀ b o, ¬ C.ex b → s₁.heap.get? b = some o → h''.get? b = some o := fun b o nb e => (hb.2 b (fun q => nb (by rw [q]; exact .inr (.inr o2)))).trans (k b o e)
    refine ⟨⟨?_, ?_, fun b o nb e => (hb.2 b (fun q => nb (.inl q))).trans (k b o (kk b o nb e))⟩, ?_, fun b o hbo => ?_⟩
    · rw [same1]
    · show _ ≤ h''.objs.size
      rw [hb.1]
      exact Nat.le_trans sz1 hsz
    · exact hv.mono fun b o z => ⟨kv b o z.2 z.1, z.2⟩
    · cases List.mem_singleton.mp hbo
      exact .acc hn'' (hns1'.at fun o e => (hb.2 dx hm1.1).trans (k dx o e)) hm1 (hrep2.mono fun b o z => ⟨kv b o z.2 z.1, z.2⟩)
end
end Mine
end

section
open PySem PySem.W PyProof.Rows PySem.Spec PySem.Calls
set_option maxRecDepth 100000
namespace Mine
theorem isPart_int {i : Int} {v : Value} (h : PartV (some i) v) : IsPart v (some i) := by obtain ⟨t, rfl⟩ := h; exact .int i t
theorem isPart_none {v : Value} (h : PartV none v) : IsPart v none := by cases h; exact .none

section
variable {C : Cx} {ρ : Rho} {μ μ₁ μ₂ : Mu} {N : Shared → Prop} {R : Value → Shared → Prop} {rest : List Stmt} {x : Str} {a dx : Addr} {ds : List D}

theorem acc_at {s : Shared} (I : FI C s ρ μ) (hμ : μ.lookup x = some (.acc 115 dx ds)) (hox : C.own.lookup x = some a) :
    ∃ us n m, s.heap.get? a = some (AccO 115 dx (List.toArray us) n) ∧ s.heap.Ns1 dx m ∧ (dx ≠ a ∧ ∀ y, y ≠ ("_initial_size" : Str) → m y = none) ∧ Reps C.p C.w (vw s.heap C.ex) us ds ∧ C.ox dx := by
  obtain ⟨b, e1, r, hd⟩ := I.owns x _ hμ
  rw [hox] at e1; cases e1
  cases r with
  | acc hx hns hm hrep => exact ⟨_, _, _, hx, hns, hm, hrep, hd _ _ _ rfl⟩

theorem acc_set {s : Shared} {h' : Heap} {t n' : Nat} {us' : List Value} {ds' : List D} (I : FI C s ρ μ) (hμ : μ.lookup x = some (.acc 115 dx ds)) (hox : C.own.lookup x = some a) (sep : Sep C μ x (fun b => b = a))
    (hb : Heap.SameBut a s.heap h') (hn' : h'.get? a = some (AccO 115 dx us'.toArray n')) (hr : Reps C.p C.w (vw s.heap C.ex) us' ds') : Stp C s { s with heap := h', toks := t } ((x, .acc 115 dx ds') :: μ) := by
  obtain ⟨us, n, m, hx, hns, hm, hrep, hdx⟩ := acc_at I hμ hox
  have gg : Grow (fun b => b = a) s { s with heap := h', toks := t } := growBut hb
  have kp : ∀ b o, ¬ C.ex b → s.heap.get? b = some o → h'.get? b = some o := fun b o n q => gg.keep b o (fun z => n (.inr (.inr (sep.1 b z)))) q
  exact I.setOwn hox gg sep (.acc hn' (hns.at fun o e => (hb.2 dx hm.1).trans e) hm (hr.mono fun b o q => ⟨kp b o q.2 q.1, q.2⟩)) (fun cls dx' ds'' e => by cases e; exact hdx)

theorem Ev_acc_append (H : Hp C.p C.w C.hb) {xp ap pos : Pos} {e : Expr} {d : D} (he : Ev C ρ μ e d μ) (hμ : μ.lookup x = some (.acc 115 dx ds)) (hox : C.own.lookup x = some a)
    (sep : Sep C μ x (fun b => b = a)) (hz : ds.length ≤ sizeLine) {pl : Sem Bool} (hbase : ∀ env, attributeBase (.Name x xp) "append" env (eval (.Name x xp) env) = eval (.Name x xp) env := by intros; rfl)
    (hst : ∀ env, starEach [e] env = [(false, eval e env)] := by intros; rfl)
    (hev : eval (.Call (.Attribute (.Name x xp) "append" ap) [e] [] pos) C.env = (do
      let ov ← attributeBase (.Name x xp) "append" C.env (eval (.Name x xp) C.env)
      standAt ap.atName
      let (f, first) ← holding [ov] (getMethod ov "append" pl)
      callWith pos f first (backTo pos (starEach [e] C.env)) []) := by rfl)
    (hd : (x == ("__debug__" : Str)) = false := by decide) (hn : (x == ("__classdict__" : Str)) = false := by decide) :
    Ev C ρ μ (.Call (.Attribute (.Name x xp) "append" ap) [e] [] pos) .none ((x, .acc 115 dx (ds ++ [d])) :: μ) := .mk fun s I => by
  refine meth_node (I.own_name hox ?_ hd hn) (hbase _) hev
  obtain ⟨us, n, m, hx, hns, hm, hrep, hdx⟩ := acc_at I hμ hox
  have X := (H.keeps I.hbk).X
  obtain ⟨q, sn, sub, col, dd, k0, k1, k2, k3, k5, hC⟩ := accC X
  obtain ⟨mN, S, hS⟩ := accNs X
  have I' := I
  obtain ⟨hh, g, d0, t, os⟩ := s
  refine getMethod_bi hC S.ns S.nga S.ngt (hS _ _ (by rfl)) PySem.F.slot_list_append.lookup PySem.F.type_list_append (acc_inst hx hns hm.1) (hm.2 _ (by decide)) ?_
  simp only [hst, backTo, List.map_cons, List.map_nil]
  refine callWith_builtin rfl (evalArgs_plain (Calls.spliced_cons (wpAny_mono (he.run _ I') (fun v s₁ h₁ => Calls.spliced_nil ?_) fun _ _ q => q)))
  have I₁ := I'.step h₁.1
  obtain ⟨us, n, m, hx, hns, hm, hrep, hdx⟩ := acc_at I₁ hμ hox
  obtain ⟨q, sn, sub, col, dd, k0, k1, k2, k3, k5, hC⟩ := accC (H.keeps I₁.hbk).X
  obtain ⟨S₁, r₁⟩ := h₁
  have I₁' := I₁
  obtain ⟨h1, g1, d1, t1, os1⟩ := s₁
  refine acc_append hC hx (fun h' n' hn' hb => ?_) (by rw [List.size_toArray, hrep.length]; exact hz)
  have St := acc_set (t := t1) (us' := us ++ [v]) I₁' hμ hox sep hb (by simpa using hn') (hrep.append (.cons r₁ .nil))
  exact ⟨S₁.trans St, .nn⟩

theorem Ev_acc_all (H : Hp C.p C.w C.hb) {xp sp pos : Pos} {e : Expr} (h1 : Part C ρ μ (some e) (some 0)) (hμ : μ.lookup x = some (.acc 115 dx ds)) (hox : C.own.lookup x = some a) (hz : ds.length ≤ sizeLine)
    (hd : (x == ("__debug__" : Str)) = false := by decide) (hn : (x == ("__classdict__" : Str)) = false := by decide) :
    Ev C ρ μ (.Subscript (.Name x xp) (.Slice (some e) none none sp) pos) (.lst ds) μ := .mk fun s I => by
  rw [eval_Subscript]
  refine wpAny_bind (I.own_name hox (wpAny_bind (wpAny_holding ?_)) hd hn)
  refine wpAny_Slice (wpAny_mono (h1.eval I) (fun l s₂ q₂ => ?_) fun _ _ x => x)
  have I₂ := I.step q₂.1
  refine wpAny_mono (Part.none.eval I₂) (fun u s₃ q₃ => ?_) fun _ _ x => x
  have I₃ := I₂.step q₃.1
  refine wpAny_mono (Part.none.eval I₃) (fun t s₄ q₄ => ?_) fun _ _ x => x
  have I₄ := I₃.step q₄.1
  have g : Grow Nil s₄ { s₄ with heap := s₄.heap.push { cls := .type "slice", data := .fields #[l, u, t] } } := .ofPush s₄ _ _
  have S := ((q₂.1.trans q₃.1).trans q₄.1).more g
  have I₅ := I.step S
  refine wpAny_bind (wpAny_standAt ?_)
  refine wpAny_bind ?_
  rw [getitemInPython_of_ne (by simp)]
  obtain ⟨us, n, m, hx, hns, hm, hrep, hdx⟩ := acc_at I₅ hμ hox
  have X := (H.keeps I₅.hbk).X
  obtain ⟨q, sn, sub, col, dd, k0, k1, k2, k3, k5, hC⟩ := accC X
  obtain ⟨mN, SS, hS⟩ := accNs X
  refine wpAny_bind (find_sub hC SS.ns (hS _ _ (by rfl)) PySem.slot_list_getitem.lookup hx rfl ?_)
  refine wpAny_pure (wpAny_bind ?_)
  obtain ⟨g6, o6, r6⟩ := new_seq I₅.lt hrep "list"
  have ep : slicePick us.toArray (some 0) none none = us.toArray := by
    have := slicePick_from us.toArray 0 (Nat.zero_le _)
    simpa using this
  refine wpAny_operating (acc_getslice hC SS.ns (hS _ _ (by rfl)) hx (Heap.IsSliceOf.new _ _ _ _) (isPart_int q₂.2) (isPart_none q₃.2) (isPart_none q₄.2) (by simp) ?_ (by rw [List.size_toArray, hrep.length]; exact hz))
  rw [ep]
  exact wpAny_bind (wpAny_letTemporaryGo (wpAny_pure ⟨S.more g6, .lst o6 rfl rfl r6⟩))

/-- the whole of it is replaced -/
theorem Ex_acc_setslice (H : Hp C.p C.w C.hb) {xp sp tp pos : Pos} {el : Option Expr} {lo : Option Int} {e : Expr} {es : List D} (hlo : lo = none ∨ lo = some 0) (he : Ev C ρ μ e (.lst es) μ) (h1 : Part C ρ μ el lo) (hμ : μ.lookup x = some (.acc 115 dx ds)) (hox : C.own.lookup x = some a)
    (sep : Sep C μ x (fun b => b = a)) (hz : ds.length + es.length ≤ sizeLine) (kk : Ex C ρ ((x, .acc 115 dx es) :: μ) rest N R)
    (hs : swapsWith e (some (.Subscript (.Name x xp) (.Slice el none none sp) tp)) pos.line C.env = pure false := by rfl)
    (hd : (x == ("__debug__" : Str)) = false := by decide) (hn : (x == ("__classdict__" : Str)) = false := by decide) :
    Ex C ρ μ (.Assign [.Subscript (.Name x xp) (.Slice el none none sp) tp] e pos :: rest) N R := Ex_cons fun s I =>
  wpAny_Assign_Subscript (wpAny_mono (he.run s I) (fun v s₁ h₁ => by
    have I₁ := I.step h₁.1
    refine I₁.own_name hox ?_ hd hn
    refine wpAny_Slice (wpAny_mono (h1.eval I₁) (fun l s₂ q₂ => ?_) fun _ _ x => x)
    have I₂ := I₁.step q₂.1
    refine wpAny_mono (Part.none.eval I₂) (fun u s₃ q₃ => ?_) fun _ _ x => x
    have I₃ := I₂.step q₃.1
    refine wpAny_mono (Part.none.eval I₃) (fun t s₄ q₄ => ?_) fun _ _ x => x
    have I₄ := I₃.step q₄.1
    have g : Grow Nil s₄ { s₄ with heap := s₄.heap.push { cls := .type "slice", data := .fields #[l, u, t] } } := .ofPush s₄ _ _
    have S := ((q₂.1.trans q₃.1).trans q₄.1).more g
    have I₅ := I₁.step S
    obtain ⟨us, n, m, hx, hns, hm, hrep, hdx⟩ := acc_at I₅ hμ hox
    have X := (H.keeps I₅.hbk).X
    obtain ⟨q, sn, sub, col, dd, k0, k1, k2, k3, k5, hC⟩ := accC X
    obtain ⟨mN, SS, hS⟩ := accNs X
    have rv := h₁.2.stp S
    cases rv with
    | lst ho hc hdt hr =>
    rename_i b o vs nn
    have pl : IsPart l lo := by
      rcases hlo with rfl | rfl
      · exact isPart_none q₂.2
      · exact isPart_int q₂.2
    have eu : u = .none := q₃.2
    have et : t = .none := q₄.2
    subst eu et
    refine acc_setslice hC SS.ns (hS _ _ (by rfl)) hx (Heap.IsSliceOf.new _ _ _ _) pl hlo ho.1 hc hdt (fun h' n' hn' hb => ?_) (by rw [List.size_toArray, List.size_toArray, hrep.length, hr.length]; exact hz)
    have St := acc_set (t := s₄.toks) I₅ hμ hox sep hb hn' hr
    exact ⟨((h₁.1.trans S).trans St).grow.ofOa, kk.run _ (I₅.step St)⟩) fun _ _ q => q) hs
end
end Mine
end

section
open PySem PySem.W PyProof.Rows PySem.Spec PySem.Calls
set_option maxRecDepth 100000
namespace Mine
theorem storeL : StoreFacts "list" [.type "list", .type "object"] "object.__setattr__" "object" where
  mro := mroL
  slot := .of (owner := "object") (n := "__setattr__") (by rw [typeLookup_type, builtinLookup_eq_fast]; kernel_rfl) (by decide +kernel) (by decide +kernel) (by decide +kernel)
    (by first | exact .inl (by decide +kernel) | exact .inr (by decide +kernel)) (by rw [isSubtype_type]; kernel_rfl)
  entry := PySem.F.store_object.entry
  kind := by decide +kernel
  split := by decide +kernel
  hasOwner := by decide +kernel
  args := PySem.F.store_object.args
  passes := fun self => by kernel_rfl
theorem lk_is : typeLookup (.type "list") "_initial_size" = pure none := by rw [typeLookup_type, builtinLookup_eq_fast]; kernel_rfl

theorem wpAny_Assign_Attr {M : Model} {A : Around} {env : Env} {E : Value → Shared → Prop} {s : Shared} {o : Expr} {attr : Str} {pos' pos : Pos} {value : Expr} {Q : Flow → Shared → Prop}
    (h : wpAny M A (eval value env) (fun v s₁ => wpAny M A (eval o env) (fun ov s₂ => wpAny M A (setAttr ov attr v) (fun _ => Q .next) E s₂) E s₁) E s)
    (hs : swapsWith value (some (.Attribute o attr pos')) pos.line env = pure false) : wpAny M A (exec (.Assign [.Attribute o attr pos'] value pos) env) Q E s := fun Γ p hΓ => by
  simp only [plainObj_exec_Assign_Attribute o attr pos' value pos hs, assign_Attribute, Sem.wp_bind', Sem.wp_holding, Sem.wp_cmd_standAt, Sem.wp_release, Sem.wp_pure']
  exact Sem.wp_mono M Γ _ (fun v p₁ s₁ h₁ => Sem.wp_mono M Γ _ (fun ov _ s₂ h₂ => h₂ Γ _ hΓ) (fun _ _ _ h' => h') _ _ (h₁ Γ p₁ hΓ)) (fun _ _ _ h' => h') _ _ (h Γ _ hΓ)

/-- the store of the field, on the object -/
theorem acc_setattr {prog : Program} {w : World} {A : Around} {E : Value → Shared → Prop} {s : Shared} {a dx : Addr} {vs : Array Value} {n : Nat} {m : Str → Option Value} {v : Value} {Q : Unit → Shared → Prop} (X : (Kp w).In s.heap)
    (hx : s.heap.get? a = some (AccO 115 dx vs n)) (hns : s.heap.Ns1 dx m) (hm : dx ≠ a ∧ ∀ y, y ≠ ("_initial_size" : Str) → m y = none)
    (hq : ∀ h' tk m', h'.get? a = some (AccO 115 dx vs n) → h'.Ns1 dx m' → (dx ≠ a ∧ ∀ y, y ≠ ("_initial_size" : Str) → m' y = none) → (∀ b o, b ≠ dx → s.heap.get? b = some o → h'.get? b = some o) → Q () { s with heap := h', toks := tk }) :
    wpAny (model prog w) A (setAttr (.ref a) "_initial_size" v) Q E s := by
  obtain ⟨q, sn, sub, col, dd, k0, k1, k2, k3, k5, hC⟩ := accC X
  obtain ⟨mN, SS, hS⟩ := accNs X
  obtain ⟨hh, g, d, t, os⟩ := s
  have hxC : a ≠ 115 := by
    rintro rfl
    rw [hx] at hC
    cases hC
  refine store_attr (ns := [("_initial_size" : Str)]) storeL hC SS.ns SS.nsa SS.nis lk_is hxC (acc_inst hx hns hm.1) (fun h' tk I' k1 k2 => ?_) ?_ ?_
  · obtain ⟨o₁, e1, e2, e3, e4, e5⟩ := k2 _ hx
    have e6 := e5 dx rfl
    have ho : o₁ = AccO 115 dx vs n := by
      obtain ⟨c, dd', dt, sl⟩ := o₁
      simp only at e2 e3 e4 e6
      subst e2 e3 e4 e6
      rfl
    subst ho
    obtain ⟨o2, f1, f2, f3, f4⟩ := I'
    rw [e1] at f1; cases f1
    rcases f4 with ⟨f4, _⟩ | ⟨d', f5, f6, f7⟩
    · cases f4
    · cases f5
      refine hq h' tk _ e1 f7 ⟨hm.1, fun y hy => ?_⟩ (fun b o nb e => ?_)
      · simp [hy, hm.2 y hy]
      · by_cases hba : b = a
        · subst hba
          have e' : hh.get? b = some o := e
          rw [hx] at e'; cases e'
          exact e1
        · exact k1 b o hba (fun o₀ dx' h1 h2 => by rw [hx] at h1; cases h1; cases h2; exact nb) e
  · intro y hy
    by_cases q : y = ("_initial_size" : Str)
    · exact q ▸ List.mem_singleton.mpr rfl
    · exact absurd (hm.2 y q) hy
  · show 1 ≤ sizeLine
    decide
end Mine
end

section
open PySem PySem.W PyProof.Rows PySem.Spec PySem.Calls
set_option maxRecDepth 100000
namespace Mine

theorem retP_of {C : Cx} {s' : Shared} {ρ : Rho} {μ : Mu} {X : Addr → Prop} {v : Value} {d : D} {ows : List (Addr × Own)} (I : FI C s' ρ μ) (hX : ∀ a, X a → C.ex a) (rv : Rep C.p C.w (vw s'.heap C.ex) v d)
    (ho : ∀ a o, (a, o) ∈ ows → ∃ x, C.own.lookup x = some a ∧ μ.lookup x = some o) : RetP C.s0 C.mt X C.p C.w d ows v s' :=
  ⟨I.base, rv.less hX, fun a o h => by
    obtain ⟨x, h1, h2⟩ := ho a o h
    obtain ⟨b, e1, r, _⟩ := I.owns x o h2
    rw [h1] at e1; cases e1
    exact r.less hX⟩

section
variable {C : Cx} {ρ : Rho} {μ μ₁ μ₂ : Mu} {N : Shared → Prop} {R : Value → Shared → Prop} {rest : List Stmt} {x : Str} {a dx : Addr} {ds : List D}

theorem Ex_acc_setattr (H : Hp C.p C.w C.hb) {xp tp pos : Pos} {e : Expr} {d : D} (he : Ev C ρ μ e d μ) (hμ : μ.lookup x = some (.acc 115 dx ds)) (hox : C.own.lookup x = some a)
    (sep : Sep C μ x (fun b => b = dx)) (kk : Ex C ρ ((x, .acc 115 dx ds) :: μ) rest N R)
    (hs : swapsWith e (some (.Attribute (.Name x xp) "_initial_size" tp)) pos.line C.env = pure false := by rfl)
    (hd : (x == ("__debug__" : Str)) = false := by decide) (hn : (x == ("__classdict__" : Str)) = false := by decide) :
    Ex C ρ μ (.Assign [.Attribute (.Name x xp) "_initial_size" tp] e pos :: rest) N R := Ex_cons fun s I =>
  wpAny_Assign_Attr (wpAny_mono (he.run s I) (fun v s₁ h₁ => by
    have I₁ := I.step h₁.1
    refine I₁.own_name hox ?_ hd hn
    obtain ⟨us, n, m, hx, hns, hm, hrep, hdx⟩ := acc_at I₁ hμ hox
    refine wpAny_mono (wpAny_size (acc_setattr (H.keeps I₁.hbk).X hx hns hm (Q := fun _ s' => ∃ h' tk m', s' = { s₁ with heap := h', toks := tk } ∧ h'.get? a = some (AccO 115 dx us.toArray n) ∧ h'.Ns1 dx m' ∧ (dx ≠ a ∧ ∀ y, y ≠ ("_initial_size" : Str) → m' y = none) ∧
      ∀ b o, b ≠ dx → s₁.heap.get? b = some o → h'.get? b = some o) (fun h' tk m' k1 k2 k3 k4 => ⟨h', tk, m', rfl, k1, k2, k3, k4⟩))) (fun _ s₂ h₂ => ?_) fun _ _ q => q.2
    obtain ⟨hsz, h', tk, m', rfl, k1, k2, k3, k4⟩ := h₂
    have gg : Grow (fun b => b = dx) s₁ { s₁ with heap := h', toks := tk } := .ofKeep s₁ h' tk (fun b o n e => k4 b o n e) hsz
    have S : Stp C s₁ { s₁ with heap := h', toks := tk } ((x, .acc 115 dx ds) :: μ) :=
      I₁.setOwn hox gg sep (.acc k1 k2 k3 (hrep.mono fun b o q => ⟨k4 b o (fun z => q.2 (.inr (.inr (sep.1 b z)))) q.1, q.2⟩)) (fun cls dx' ds'' e => by cases e; exact hdx)
    exact ⟨(h₁.1.grow.trans S.grow).ofOa, kk.run _ (I₁.step S)⟩) fun _ _ q => q) hs

theorem call_fnB {s : Shared} {a : Addr} {o : Obj} {fd : FuncData} {body : List Stmt} {vals vs : List Value} {xs : List Str} {as : List Arg} {mt : Addr → Prop} {μ₀ : Mu} {Q : Value → Shared → Prop} {binds : List (Str × Value)}
    (I : FI C s ρ μ) (ho : C.hb.get? a = some o) (hd : o.data = .func fd) (ok : FdOk fd body C.hb) (hlim : C.hb.NoLimit) (hroom : C.A.depth < recursionLimit)
    (hbind : ∀ (s' : Shared), (∀ b o, C.hb.get? b = some o → s'.heap.get? b = some o) → BindsTo s' fd ⟨vals, []⟩ binds) (hz : binds = xs.zip vs)
    (hargs : ArgsAre C s.heap vs as) (hl : xs.length = vs.length) (hn : xs.Nodup)
    (hst : ∀ x ∈ xs, fd.scope.names.lookup x = some .local ∨ (fd.scope.names.lookup x = some .cell ∧ ((cellsFrom 0 fd.scope.names []).lookup x).isSome = true))
    (hox : ∀ (i : Nat) a, as[i]? = some (.ow a) → C.ox a) (hmt : ∀ a, mt a → C.oa a)
    (hμ : ∀ x o, μ₀.lookup x = some o → ∃ a, (argOwn xs as).lookup x = some a ∧ OwnRep C.p C.w s.heap C.ex a o ∧ ∀ cls dx ds, o = .acc cls dx ds → C.ox dx)
    (k : ∀ L, Ex (fnCx C.p C.w C.A fd a L s mt C.ex (argOwn xs as) C.ox C.hb) (argRho xs as) μ₀ body (fun s' => Q .none s') Q) : wpAny C.M C.A (call (.ref a) vals) Q NoE s := by
  subst hz
  exact call_fn I ho hd ok hlim hroom (fun h k => hbind { s with heap := h } (fun b o e => k b o (I.hbk b o e)) _ _ _ _ ⟨rfl, rfl⟩) hargs hl hn hst hox hmt hμ k

/-- a name that a frame may store -/
def stoB (names : List (Str × NameKind)) (x : Str) : Bool := match names.lookup x with
  | some .local => true
  | some .cell => ((cellsFrom 0 names []).lookup x).isSome
  | _ => false
theorem sto_of {names : List (Str × NameKind)} {xs : List Str} (h : xs.all (stoB names) = true) : ∀ x ∈ xs, names.lookup x = some .local ∨ (names.lookup x = some .cell ∧ ((cellsFrom 0 names []).lookup x).isSome = true) := fun x hx => by
  have := List.all_eq_true.mp h x hx
  unfold stoB at this
  split at this
  · rename_i e; exact .inl e
  · rename_i e; exact .inr ⟨e, this⟩
  · cases this

theorem sep_one {Y : Addr → Prop} (hY : ∀ b, Y b → C.oa b) (ho : ∀ y b, C.own.lookup y = some b → y = x) (hm : ∀ y o, μ.lookup y = some o → y = x) : Sep C μ x Y := by
  refine ⟨hY, fun y b q e _ => ?_, fun y cls dx ds q e _ => ?_⟩
  · rw [ho y b e] at q; simp at q
  · rw [hm y _ e] at q; simp at q
theorem look1 {β : Type} {y k : Str} {v o : β} (h : ([(k, v)] : List (Str × β)).lookup y = some o) : y = k ∧ o = v := by
  rw [List.lookup_cons] at h
  by_cases q : (y == k) = true
  · rw [q] at h; cases h
    exact ⟨eq_of_beq q, rfl⟩
  · have q' : (y == k) = false := by simpa using q
    rw [q'] at h; cases h
theorem look2 {β : Type} {y k : Str} {v o : β} {l : List (Str × β)} (h : ((k, v) :: l).lookup y = some o) : y = k ∨ l.lookup y = some o := by
  rw [List.lookup_cons] at h
  by_cases q : (y == k) = true
  · exact .inl (eq_of_beq q)
  · have q' : (y == k) = false := by simpa using q
    rw [q'] at h; exact .inr h

theorem acc_push (H : Hp C.p C.w C.hb) (hr : Room C.A 1) {d1 d2 : D} (hz : ds.length ≤ sizeLine) : AccM C 59 ds [d1, d2] .none (ds ++ [.tup [d1, d2]]) := by
  intro s ρ μ a dx vs I o1 o2 o3 o4 ro rp
  obtain ⟨v1, v2, rfl, r1, r2⟩ := rp.two
  have bt : ∀ s : Shared, (∀ b o, C.hb.get? b = some o → s.heap.get? b = some o) → BindsTo s (fdOf C.w 59) ⟨[.ref a, v1, v2], []⟩ ([("self", .ref a), ("fws", v1), ("string", v2)] : List (Str × Value)) := fun s k => by with_reducible exact bt59 (H.X.keeps k)
  have hne : dx ≠ a := by
    cases ro with
    | acc _ _ hm _ => exact hm.1
  refine call_fnB (binds := [("self", .ref a), ("fws", v1), ("string", v2)]) (xs := ["self", "fws", "string"]) (vs := [.ref a, v1, v2]) (as := [.ow a, .im d1, .im d2]) (mt := fun b => b = a ∨ b = dx) (μ₀ := [("self", .acc 115 dx ds)]) I (fn59.at H) fn59.dat (fn59.ok H) H.lim hr.lim
    ?_ ?_ ?_ ?_ ?_ ?_ (fun i b e => ?_) (fun b hb => ?_) (fun y o e => ?_) (fun L => ?_)
  · with_reducible exact bt
  · rfl
  · exact ⟨rfl, r1, r2, trivial⟩
  · rfl
  · decide
  · exact sto_of (by rfl)
  · have := List.mem_of_getElem? e
    simp at this; subst this; exact o1
  · rcases hb with rfl | rfl <;> assumption
  · obtain ⟨rfl, rfl⟩ := look1 e
    exact ⟨a, rfl, ro, fun cls dx' ds' q => by cases q; exact o3⟩
  · refine Ex_expr (Ev_acc_append (a := a) (dx := dx) (by exact H) (Ev_tuple (Evs_cons (Ev_name rfl) (Evs_cons (Ev_name rfl) Evs_nil)) (show 2 ≤ sizeLine by decide)) rfl rfl ?_ hz) (Ex_nil fun s' I' => ?_)
    · exact sep_one (fun b q => .inl q) (fun y b e => (look1 e).1) (fun y o e => (look1 e).1)
    · exact retP_of I' (fun a h => .inl h) .nn (fun b o h => by cases List.mem_singleton.mp h; exact ⟨"self", rfl, rfl⟩)

theorem acc_pop_from (H : Hp C.p C.w C.hb) (hr : Room C.A 1) (hz : ds.length ≤ sizeLine) : AccM C 67 ds [] (.lst ds) [] := by
  intro s ρ μ a dx vs I o1 o2 o3 o4 ro rp
  cases rp
  have bt : ∀ s : Shared, (∀ b o, C.hb.get? b = some o → s.heap.get? b = some o) → BindsTo s (fdOf C.w 67) ⟨[.ref a], []⟩ ([("self", .ref a), ("i", .int 0 265)] : List (Str × Value)) := fun s k => by with_reducible exact bt67 (H.X.keeps k)
  refine call_fnB (binds := [("self", .ref a), ("i", .int 0 265)]) (xs := ["self", "i"]) (vs := [.ref a, .int 0 265]) (as := [.ow a, .im (.int 0)]) (mt := fun b => b = a ∨ b = dx) (μ₀ := [("self", .acc 115 dx ds)]) I (fn67.at H) fn67.dat (fn67.ok H) H.lim hr.lim
    ?_ ?_ ?_ ?_ ?_ ?_ (fun i b e => ?_) (fun b hb => ?_) (fun y o e => ?_) (fun L => ?_)
  · with_reducible exact bt
  · rfl
  · exact ⟨rfl, .int _ _, trivial⟩
  · rfl
  · decide
  · exact sto_of (by rfl)
  · have := List.mem_of_getElem? e
    simp at this; subst this; exact o1
  · rcases hb with rfl | rfl <;> assumption
  · obtain ⟨rfl, rfl⟩ := look1 e
    exact ⟨a, rfl, ro, fun cls dx' ds' q => by cases q; exact o3⟩
  · refine Ex_assign (Ev_acc_all (a := a) (dx := dx) (by exact H) (.int (Ev_name rfl)) rfl rfl hz) (by exact ⟨.inl rfl, rfl⟩) ?_
    refine Ex_acc_setslice (a := a) (dx := dx) (by exact H) (.inr rfl) (Ev_list Evs_nil) (.int (Ev_name rfl)) rfl rfl ?_ (by simpa using hz) ?_
    · exact sep_one (fun b q => .inl q) (fun y b e => (look1 e).1) (fun y o e => (look1 e).1)
    · refine Ex_ret (Ev_name rfl) (fun s v I' r => ?_)
      exact retP_of I' (fun a h => .inl h) r (fun b o h => by cases List.mem_singleton.mp h; exact ⟨"self", rfl, rfl⟩)

theorem acc_reset (H : Hp C.p C.w C.hb) (hr : Room C.A 1) {es : List D} (hz : ds.length + es.length ≤ sizeLine) : AccM C 97 ds [.lst es] .none es := by
  intro s ρ μ a dx vs I o1 o2 o3 o4 ro rp
  obtain ⟨v1, rfl, r1⟩ := rp.one
  have hne : dx ≠ a := by
    cases ro with
    | acc _ _ hm _ => exact hm.1
  have bt : ∀ s : Shared, (∀ b o, C.hb.get? b = some o → s.heap.get? b = some o) → BindsTo s (fdOf C.w 97) ⟨[.ref a, v1], []⟩ ([("self", .ref a), ("startval", v1)] : List (Str × Value)) := fun s k => by with_reducible exact bt97 (H.X.keeps k)
  refine call_fnB (binds := [("self", .ref a), ("startval", v1)]) (xs := ["self", "startval"]) (vs := [.ref a, v1]) (as := [.ow a, .im (.lst es)]) (mt := fun b => b = a ∨ b = dx) (μ₀ := [("self", .acc 115 dx ds)]) I (fn97.at H) fn97.dat (fn97.ok H) H.lim hr.lim
    ?_ ?_ ?_ ?_ ?_ ?_ (fun i b e => ?_) (fun b hb => ?_) (fun y o e => ?_) (fun L => ?_)
  · with_reducible exact bt
  · rfl
  · exact ⟨rfl, r1, trivial⟩
  · rfl
  · decide
  · exact sto_of (by rfl)
  · have := List.mem_of_getElem? e
    simp at this; subst this; exact o1
  · rcases hb with rfl | rfl <;> assumption
  · obtain ⟨rfl, rfl⟩ := look1 e
    exact ⟨a, rfl, ro, fun cls dx' ds' q => by cases q; exact o3⟩
  · refine Ex_if_ff (EvT_cmp (Ev_name rfl) Ev_none (cmp_is_none fun H v r => by cases r; rfl)) ?_
    refine Ex_acc_setslice (a := a) (dx := dx) (by exact H) (.inl rfl) (Ev_name rfl) .none rfl rfl ?_ hz ?_
    · exact sep_one (fun b q => .inl q) (fun y b e => (look1 e).1) (fun y o e => (look1 e).1)
    refine Ex_acc_setattr (a := a) (dx := dx) (by exact H) Ev_int rfl rfl ?_ ?_
    · exact sep_one (fun b q => .inr q) (fun y b e => (look1 e).1) (fun y o e => (look2 e).elim id fun e => (look1 e).1)
    exact Ex_nil fun s I' => retP_of I' (fun a h => .inl h) .nn (fun b o h => by cases List.mem_singleton.mp h; exact ⟨"self", rfl, rfl⟩)
end
end Mine
end

section
open PySem PySem.W PyProof.Rows PySem.Spec PySem.Calls
set_option maxRecDepth 100000
namespace Mine
section
variable {prog : Program} {w : World} {A : Around} {E : Value → Shared → Prop} {h : Heap} {g : Array GenState} {d : Drawn} {t : Nat} {os : OsState}
variable {nm q : Str} {C N x : Addr} {bs : List Value} {sn : List Str} {sub : List Value} {ab : Bool} {col : Option Bool} {dd : Option Addr} {k0 k1 k2 k3 k5 : Option Value}
  {mN mA : Str → Option Value} {name : Str} {v : Value}

theorem check_list_new {M : Model} {Q : Unit → Shared → Prop}
    (hC : h.get? C = some (excClassObj nm q C N bs [.type "list", .type "object"] true sn sub ab col dd k0 k1 k2 k3 k5 "list.__new__")) (hq : Q () ⟨h, g, d, t, os⟩) :
    wpAny M A (checkBuiltinCall "list.__new__" ⟨[.ref C], []⟩) Q E ⟨h, g, d, t, os⟩ := by
  have hcont : (Value.ref C :: [Value.type "list", .type "object"]).contains (.type "list") = true := by simp
  have hs : splitId "list.__new__" = some ("list", "__new__") := by decide +kernel
  have hk : builtinKind "list.__new__" = some .builtinFn := by decide +kernel
  have hr : Manifest.signature? "list.__new__" = some ⟨.any, "list", "list", .cls, [⟨"args", .varPos, false⟩, ⟨"kwargs", .varKw, false⟩]⟩ := by kernel_rfl
  have hck : Bind.checkArgs "list.__new__" ⟨.any, "list", "list", .cls, [⟨"args", .varPos, false⟩, ⟨"kwargs", .varKw, false⟩]⟩ ⟨[.ref C], []⟩ = pure () := by kernel_rfl
  simp only [checkBuiltinCall, hk, hs, hr]
  repeat (first | rw [hck] | refine wpAny_loadPart_at hC ?_ | (refine wpAny_isSubtype_exc hC ?_; rw [hcont]) | refine wpAny_staticBase_exc hC ?_ | refine wpAny_madeBy_exc hC ?_ | simp only [bne_self_eq_false, Bool.false_eq_true, if_false] | wp_step)
  all_goals exact hq

theorem code_list_new_sub {R : Result → Shared → Prop}
    (hC : h.get? C = some (excClassObj nm q C N bs [.type "list", .type "object"] true sn sub ab col dd k0 k1 k2 k3 k5 "list.__new__"))
    (hq : R (.ok (.ret (.ref (h.objs.size + 1)))) ⟨(h.push { cls := .type "dict", data := .dict #[] }).push { cls := .ref C, dict := some h.objs.size, data := .seq #[] }, g, d, t, os⟩) :
    codeAny (model prog w) A (.builtin "list.__new__" ⟨[.ref C], []⟩) R ⟨h, g, d, t, os⟩ := by
  have hcont : (Value.ref C :: [Value.type "list", .type "object"]).contains (.type "list") = true := by simp
  refine codeAny_builtin_stack PySem.F.entry_list_new rfl fun p st => ?_
  rw [Around.under_plainId PySem.F.plain_list_new _]
  have hown := owner_list_new
  simp only [hown]
  repeat (first | with_reducible refine wpAny_loadPart_at hC ?_ | (refine wpAny_isSubtype_exc hC ?_; rw [hcont]) | simp only [Bool.not_true, Bool.false_eq_true, if_false] | wp_step)
  rw [Heap.size_push]
  exact hq
end
end Mine
namespace Mine
theorem acc_init {prog : Program} {w : World} {A : Around} {s : Shared} {a dx : Addr} {n : Nat} {m : Str → Option Value} (H : Hp prog w s.heap) (hr : A.depth < recursionLimit) (hx : s.heap.get? a = some (AccO 115 dx #[] n)) (hns : s.heap.Ns1 dx m)
    (hm : dx ≠ a ∧ ∀ y, y ≠ ("_initial_size" : Str) → m y = none) (hHp : ∀ h' : Heap, (∀ b o, b ≠ dx → s.heap.get? b = some o → h'.get? b = some o) → Hp prog w h') :
    wpAny (model prog w) A (call (.ref 52) [.ref a]) (fun r s' => r = .none ∧ s' = { s with heap := s'.heap, toks := s'.toks } ∧ (∀ b o, b ≠ a → b ≠ dx → s.heap.get? b = some o → s'.heap.get? b = some o) ∧
      ∃ n' m', s'.heap.get? a = some (AccO 115 dx #[] n') ∧ s'.heap.Ns1 dx m' ∧ (dx ≠ a ∧ ∀ y, y ≠ ("_initial_size" : Str) → m' y = none)) NoE s := by
  obtain ⟨ar, S⟩ := sup52 (w := w)
  have hbd : BindsTo s (fdOf w 52) ⟨[.ref a], []⟩ ([("self", .ref a), ("initial_size", .int 0 246)] : List (Str × Value)) := by with_reducible exact bt52 H.X
  refine wpAny_call ?_
  with_reducible refine ks_codeAny_call_defAt (fd := fdOf w 52) (body := bodyOf w 52) (binds := [("self", .ref a), ("initial_size", .int 0 246)]) hr (S.fn.at H) S.fn.dat H.lim (codeRec_of H.X S.fn.code) S.fn.body hbd ?_ ?_ (fun h₀ hns₀ hk₀ => ?_) S.fn.co S.fn.gen S.fn.kind
  · intro x hx
    have := List.all_eq_true.mp S.nocell x hx
    simpa using this
  · intro x hx
    simp only [List.mem_cons, List.not_mem_nil, or_false] at hx
    rcases hx with rfl | rfl <;> rfl
  have H₀ := H.keeps hk₀
  have hself2 : (fun x => ([("self", .ref a), ("initial_size", .int 0 246)] : List (Str × Value)).reverse.lookup x) ("self" : Str) = some (.ref a) := rfl
  have hself : (fun x => ([("self", .ref a), ("initial_size", .int 0 246)] : List (Str × Value)).reverse.lookup x) ar.arg = some (.ref a) := by rw [S.self]; rfl
  have his : (fun x => ([("self", .ref a), ("initial_size", .int 0 246)] : List (Str × Value)).reverse.lookup x) ("initial_size" : Str) = some (.int 0 246) := rfl
  refine ks_wpAt_execs_cons (ks_wpAt_Assign_Attr (_root_.PySem.wpAt_of_wpAny (wpAny_Name (wpAny_loadName_local S.fn.kind (by rfl) hns₀ his ?_) (by decide))) (by rfl))
  refine wpAny_Name (wpAny_loadName_local S.fn.kind S.ka hns₀ hself2 ?_) (by decide)
  refine acc_setattr H₀.X (hk₀ _ _ hx) (hns.at fun o e => hk₀ _ o e) hm (fun h₁ tk m' k1 k2 k3 k4 => ?_)
  have H₁ : Hp prog w h₁ := hHp h₁ fun b o nb e => k4 b o nb (hk₀ b o e)
  have hns₁ : h₁.Ns s.heap.objs.size _ := hns₀.at fun o e => k4 _ o (fun q => absurd hns.ns.lt (by rw [← q]; exact Nat.lt_irrefl _)) e
  refine ks_wpAt_execs_cons (ks_wpAt_Expr_any ?_)
  refine super_call (f := 52) (ar := ar) H₁ rfl S.fn.look S.fn.dat S.head S.ks S.kc (by rw [S.self]; exact S.ka) S.fn.kind rfl S.code S.fn.gl S.fn.bl S.cell hns₁ hself k1 (by decide) along_init ty_init slot_wd_get.lookup (.inr ⟨rfl, rfl⟩) (by decide +kernel)
    PySem.F.slot_list_init.plain PySem.F.entry_list_init (fun h' k => bound_init) (fun h' k hsz => ?_) (by rfl)
  refine acc_init0 (vs := #[]) (k _ _ k1) (fun h'' n' hn'' hb => ⟨_, rfl, ?_⟩)
  refine _root_.PySem.wpAt_of_wpAny (wpAny_execs_nil ⟨rfl, rfl, fun b o nb nd e => (hb.2 b nb).trans (k b o (k4 b o nd (hk₀ b o e))), n', m', hn'', k2.at fun o e => (hb.2 dx hm.1).trans (k dx o e), k3⟩)
end Mine
end

section
open PySem PySem.W PyProof.Rows PySem.Spec PySem.Calls
set_option maxRecDepth 100000
namespace Mine
section
variable {prog : Program} {w : World} {A : Around} {E : Value → Shared → Prop} {h : Heap} {g : Array GenState} {d : Drawn} {t : Nat} {os : OsState}
variable {nm q : Str} {C N x : Addr} {bs : List Value} {sn : List Str} {sub : List Value} {ab : Bool} {col : Option Bool} {dd : Option Addr} {k0 k1 k2 k3 k5 : Option Value}
  {mN mA : Str → Option Value} {name : Str} {v : Value}

abbrev newAcc (h : Heap) (C : Addr) : Heap := (h.push { cls := .type "dict", data := .dict #[] }).push { cls := .ref C, dict := some h.objs.size, data := .seq #[] }

theorem type_call_acc {fI : Addr} {oI : Obj} {Q : PySem.Fin → Shared → Prop}
    (hC : h.get? C = some (excClassObj nm q C N bs [.type "list", .type "object"] true sn sub ab col dd k0 k1 k2 k3 k5 "list.__new__")) (hn : h.Ns N mN) (hi : mN "__init__" = some (.ref fI))
    (hfI : h.get? fI = some oI) (hfc : oI.cls = .type "function")
    (hq : wpAny (model prog w) A (call (.ref fI) [.ref (h.objs.size + 1)]) (fun r s' => r = .none ∧ Q (.done (.ret (.ref (h.objs.size + 1)))) s') E ⟨newAcc h C, g, d, t, os⟩) :
    wpAny (model prog w) A (Builtin.«type.__call__» ⟨[.ref C], []⟩) Q E ⟨h, g, d, t, os⟩ := by
  have hlk := PySem.F.slot_list_init.lookup
  repeat (first | with_reducible refine wpAny_loadPart_at hC ?_ | with_reducible refine wpAny_madeBy_exc hC ?_ | wp_step)
  refine codeAny_call_builtin_code (Code.quiet_builtin _ (by decide +kernel)) (check_list_new hC ?_)
  refine code_list_new_sub hC ?_
  show wpAny _ _ _ _ _ _
  have hC₁ : (newAcc h C).get? C = _ := Heap.get?_push_of_some _ (Heap.get?_push_of_some _ hC)
  have hfI₁ : (newAcc h C).get? fI = _ := Heap.get?_push_of_some _ (Heap.get?_push_of_some _ hfI)
  have hn₁ : (newAcc h C).Ns N mN := let ⟨o, es, ep, e, r⟩ := hn; ⟨o, es, ep, Heap.get?_push_of_some _ (Heap.get?_push_of_some _ e), r⟩
  have hget : (newAcc h C).get? (h.objs.size + 1) = some { cls := .ref C, dict := some h.objs.size, data := .seq #[] } := Heap.get?_push_at (by rw [Heap.size_push]) rfl
  have hcC : (Value.ref C :: [Value.type "list", .type "object"]).contains (.ref C) = true := by simp
  unfold isInstance
  repeat (first | with_reducible refine wpAny_loadPart_at hget ?_ | (with_reducible refine wpAny_isSubtype_exc hC₁ ?_; rw [hcC]) | wp_step)
  show wpAny _ _ (typeLookup (.ref C) _) _ _ _
  refine wpAny_typeLookup_exc hC₁ hn₁ mroL hlk ?_
  rw [hi]
  refine wpAny_holding (wpAny_bind ?_)
  unfold bindSpecial
  refine wpAny_bind (wpAny_typeOf (T := "function") ⟨_, hfI₁, hfc⟩ ?_)
  rw [if_pos (by decide)]
  refine wpAny_pure (wpAny_bind (wpAny_mono hq (fun r s' hr => ?_) fun _ _ x => x))
  obtain ⟨rfl, hQ⟩ := hr
  wp_walk
  exact hQ

theorem call_acc {fI : Addr} {oI : Obj} {Q : Value → Shared → Prop}
    (hC : h.get? C = some (excClassObj nm q C N bs [.type "list", .type "object"] true sn sub ab col dd k0 k1 k2 k3 k5 "list.__new__")) (hn : h.Ns N mN) (hi : mN "__init__" = some (.ref fI))
    (hfI : h.get? fI = some oI) (hfc : oI.cls = .type "function")
    (hq : wpAny (model prog w) (A.under (.builtin "type.__call__" ⟨[.ref C], []⟩)) (call (.ref fI) [.ref (h.objs.size + 1)]) (fun r s' => r = .none ∧ Q (.ref (h.objs.size + 1)) s') E ⟨newAcc h C, g, d, t, os⟩) :
    wpAny (model prog w) A (call (.ref C) []) Q E ⟨h, g, d, t, os⟩ := by
  have f1 := tc_lookup
  have f2 := tc_bind (.ref C)
  have hT : (⟨h, g, d, t, os⟩ : Shared).TypeIs (.ref C) "type" := ⟨_, hC, rfl⟩
  refine wpAny_call (codeAny_of_tree ?_)
  show wpAny _ _ (callAny (.ref C) _) _ _ _
  repeat (any_goals (first | assumption | with_reducible refine wpAny_loadPart_at hC ?_ | wp_step))
  refine ⟨rfl, ?_⟩
  refine codeAny_call_builtin_at (Code.quiet_builtin _ (by decide +kernel)) entry_typeCall (wpAny_check_type_call_sub hC (type_call_acc hC hn hi hfI hfc hq))
end
end Mine
end

section
open PySem PySem.W PyProof.Rows PySem.Spec PySem.Calls
set_option maxRecDepth 100000
namespace Mine
theorem callWith_class {prog : Program} {w : World} {A : Around} {E : Value → Shared → Prop} {h : Heap} {g : Array GenState} {d : Drawn} {t : Nat} {os : OsState} {env : Env} {pos : Pos} {Q : Value → Shared → Prop}
    {nm q : Str} {C N : Addr} {bs bm : List Value} {sn : List Str} {sub : List Value} {ab : Bool} {col : Option Bool} {dd : Option Addr} {k0 k1 k2 k3 k5 : Option Value} {nid : String}
    (hC : h.get? C = some (excClassObj nm q C N bs bm true sn sub ab col dd k0 k1 k2 k3 k5 nid)) (hq : wpAny (model prog w) A (call (.ref C) []) Q E ⟨h, g, d, t, os⟩) :
    wpAny (model prog w) A (callWith pos (.ref C) [] (backTo pos (starEach [] env)) []) Q E ⟨h, g, d, t, os⟩ := by
  unfold callWith
  refine wpAny_bind (wpAny_holding (PyProof.Rows.evalArgs_none ?_))
  have f1 := tc_lookup
  have hT : (⟨h, g, d, t, os⟩ : Shared).TypeIs (.ref C) "type" := ⟨_, hC, rfl⟩
  refine wpAny_bind (wpAny_standAt ?_)
  show wpAny _ _ (keeperOf (.ref C) >>= _) _ _ _
  unfold keeperOf
  refine wpAny_bind (wpAny_bind (wpAny_load' hC ?_))
  refine wpAny_bind (wpAny_specialOf hT f1 ?_)
  refine wpAny_pure ?_
  show wpAny _ _ (call (.ref C) [] [] >>= fun r => do holding [r] point; pure r) _ _ _
  exact wpAny_bind (wpAny_mono hq (fun r s' hr => wpAny_bind (wpAny_holding (wpAny_point (wpAny_pure hr)))) fun _ _ x => x)

section
variable {C : Cx} {ρ : Rho} {μ μ₁ μ₂ : Mu} {N : Shared → Prop} {R : Value → Shared → Prop} {rest : List Stmt} {x : Str} {a dx : Addr} {ds : List D}

theorem Mk1_acc (H : Hp C.p C.w C.hb) (hr : Room C.A 2) {np pos : Pos} (hx : C.env.kindOf "_Accumulator" = some .globalImplicit := by rfl) :
    Mk1 C ρ μ (.Call (.Name "_Accumulator" np) [] [] pos) (fun r => ∃ a dx, r = .ow a (.acc 115 dx [])) := .mk fun s I => by
  refine wpAny_Call_NameR (name_glob I (H.glob (x := "_Accumulator") (v := .ref 115) (by rfl)) hx ?_ (by decide))
  have H' := H.keeps I.hbk
  obtain ⟨q, sn, sub, col, dd, k0, k1, k2, k3, k5, hC⟩ := accC H'.X
  obtain ⟨mN, S, hS⟩ := accNs H'.X
  have hf := fn52.at H'
  have hhb := I.hbk
  obtain ⟨hh, g, d, t, os⟩ := s
  have kN : ∀ b o, hh.get? b = some o → (newAcc hh 115).get? b = some o := fun b o e => Heap.get?_push_of_some _ (Heap.get?_push_of_some _ e)
  have hget : (newAcc hh 115).get? (hh.objs.size + 1) = some (AccO 115 hh.objs.size #[] 0) := Heap.get?_push_at (by rw [Heap.size_push]) rfl
  have hgd : (newAcc hh 115).get? hh.objs.size = some { cls := .type "dict", data := .dict #[] } := Heap.get?_push_of_some _ (Heap.get?_push_at rfl rfl)
  have hns : (newAcc hh 115).Ns1 hh.objs.size (fun _ => none) := Heap.Ns1.of_empty ⟨_, #[], _, hgd, rfl, fun e he => absurd he (by simp), fun _ => rfl⟩
  have hsz : (newAcc hh 115).objs.size = hh.objs.size + 2 := by simp [newAcc, Heap.size_push]
  refine callWith_class hC (call_acc hC S.ns (hS _ _ (by rfl)) hf (by rfl) ?_)
  have hroom : (C.A.under (.builtin "type.__call__" ⟨[.ref 115], []⟩)).depth < recursionLimit := by
    have h1 := hr.1
    have h2 : (C.A.under (.builtin "type.__call__" ⟨[.ref 115], []⟩)).depth = C.A.depth + 1 := rfl
    rw [h2]; unfold recursionLimit; lia
  have Hn : Hp C.p C.w (newAcc hh 115) := H'.keeps kN
  have ini := acc_init (A := C.A.under (.builtin "type.__call__" ⟨[.ref 115], []⟩)) (s := ⟨newAcc hh 115, g, d, t, os⟩) Hn hroom hget hns ⟨Nat.ne_of_lt (Nat.lt_succ_self _), fun _ _ => rfl⟩
    (fun h' k => H.keeps fun b o e => k b o (fun q => absurd (Heap.lt_size (hhb b o e)) (by rw [q]; exact Nat.lt_irrefl _)) (kN b o (hhb b o e)))
  refine wpAny_mono (wpAny_size ini) (fun r s' hs => ?_) fun _ _ q => q.2
  obtain ⟨z, rfl, e1, kp, n', m', i1, i2, i3⟩ := hs
  have z' : hh.objs.size + 2 ≤ s'.heap.objs.size := by rw [← hsz]; exact z
  refine ⟨rfl, ⟨e1, Nat.le_trans (Nat.le_add_right _ 2) z', fun b o _ e => ?_⟩, _, ⟨_, _, rfl⟩, ⟨rfl, fun X => .acc (vs := []) i1 i2 i3 .nil⟩, ?_, ?_⟩
  · have lt : @LT.lt Nat _ b hh.objs.size := Heap.lt_size e
    exact kp b o (Nat.ne_of_lt (Nat.lt_succ_of_lt lt)) (Nat.ne_of_lt lt) (kN b o e)
  · intro b hb
    simp only [RK.adr, List.mem_cons, List.not_mem_nil, or_false] at hb
    rcases hb with rfl | rfl
    · exact ⟨Nat.le_succ _, z'⟩
    · exact ⟨Nat.le_refl _, Nat.lt_of_lt_of_le (Nat.lt_add_of_pos_right (by decide)) z'⟩
  · simp only [RK.adr]
    exact List.nodup_cons.mpr ⟨fun q => absurd (List.mem_singleton.mp q) (Nat.ne_of_gt (Nat.lt_succ_self _)), List.nodup_cons.mpr ⟨List.not_mem_nil, List.nodup_nil⟩⟩

theorem acc_ret {s s' : Shared} {v : Value} {d : D} {ds' : List D} (I : FI C s ρ μ) (hμ : μ.lookup x = some (.acc 115 dx ds)) (hox : C.own.lookup x = some a) (sep : Sep C μ x (fun b => b = a ∨ b = dx))
    (r : RetP s (fun b => b = a ∨ b = dx) C.ex C.p C.w d [(a, .acc 115 dx ds')] v s') : Stp C s s' ((x, .acc 115 dx ds') :: μ) ∧ Rep C.p C.w (vw s'.heap C.ex) v d := by
  obtain ⟨us, n, m, hx, hns, hm, hrep, hdx⟩ := acc_at I hμ hox
  exact ⟨I.setOwn hox r.grow sep (r.owns a _ (List.mem_singleton.mpr rfl)) (fun cls dx' ds'' e => by cases e; exact hdx), r.rep⟩

theorem Ev_acc_meth0 (H : Hp C.p C.w C.hb) {xp ap pos : Pos} {name : Str} {f : Addr} {d : D} {ds' : List D} {y : Option Value} (m : AccM C f ds [] d ds') (hμ : μ.lookup x = some (.acc 115 dx ds)) (hox : C.own.lookup x = some a) (sep : Sep C μ x (fun b => b = a ∨ b = dx))
    (F : Fn C.w f) (hf : nsIn (Kp C.w) 114 name = some (some (.ref f))) (hfc : (objOf C.w f).cls = .type "function") (hB : typeLookup (.type "list") name = pure y) (hnm : name ≠ ("_initial_size" : Str)) {pl : Sem Bool}
    (hbase : ∀ env, attributeBase (.Name x xp) name env (eval (.Name x xp) env) = eval (.Name x xp) env := by intros; rfl)
    (hev : eval (.Call (.Attribute (.Name x xp) name ap) [] [] pos) C.env = (do
      let ov ← attributeBase (.Name x xp) name C.env (eval (.Name x xp) C.env)
      standAt ap.atName
      let (f, first) ← holding [ov] (getMethod ov name pl)
      callWith pos f first (backTo pos (starEach [] C.env)) []) := by rfl)
    (hd : (x == ("__debug__" : Str)) = false := by decide) (hn : (x == ("__classdict__" : Str)) = false := by decide) :
    Ev C ρ μ (.Call (.Attribute (.Name x xp) name ap) [] [] pos) d ((x, .acc 115 dx ds') :: μ) := .mk fun s I => by
  refine meth_node (I.own_name hox ?_ hd hn) (hbase _) hev
  obtain ⟨us, n, m', hx, hns, hm, hrep, hdx⟩ := acc_at I hμ hox
  have H' := H.keeps I.hbk
  refine acc_getMethod H'.X hx hns hm hf F.look hfc hB hnm ?_
  refine callWith_meth0 (o := objOf C.w f) F.dat (F.at H') ?_
  obtain ⟨b, e1, r, _⟩ := I.owns x _ hμ
  rw [hox] at e1; cases e1
  exact wpAny_mono (m s ρ μ a dx [] I (I.ok.ownox x a (mem_of_lookup hox)) (sep.1 a (.inl rfl)) hdx (sep.1 dx (.inr rfl)) r .nil) (fun v s' hr => acc_ret I hμ hox sep hr) fun _ _ q => q

theorem Ev_acc_meth (H : Hp C.p C.w C.hb) {xp ap pos : Pos} {name : Str} {f : Addr} {e : Expr} {es : List Expr} {as : List D} {d : D} {ds' : List D} {y : Option Value} (hargs : Evs C ρ μ (e :: es) as μ) (m : AccM C f ds as d ds') (hμ : μ.lookup x = some (.acc 115 dx ds)) (hox : C.own.lookup x = some a) (sep : Sep C μ x (fun b => b = a ∨ b = dx))
    (F : Fn C.w f) (hf : nsIn (Kp C.w) 114 name = some (some (.ref f))) (hfc : (objOf C.w f).cls = .type "function") (hB : typeLookup (.type "list") name = pure y) (hnm : name ≠ ("_initial_size" : Str)) {pl : Sem Bool}
    (hbase : ∀ env, attributeBase (.Name x xp) name env (eval (.Name x xp) env) = eval (.Name x xp) env := by intros; rfl)
    (hst : ∀ env, starEach (e :: es) env = (false, eval e env) :: starEach es env := by intros; rfl)
    (hev : eval (.Call (.Attribute (.Name x xp) name ap) (e :: es) [] pos) C.env = (do
      let ov ← attributeBase (.Name x xp) name C.env (eval (.Name x xp) C.env)
      standAt ap.atName
      let (f, first) ← holding [ov] (getMethod ov name pl)
      callWith pos f first (backTo pos (starEach (e :: es) C.env)) []) := by rfl)
    (hd : (x == ("__debug__" : Str)) = false := by decide) (hn : (x == ("__classdict__" : Str)) = false := by decide) :
    Ev C ρ μ (.Call (.Attribute (.Name x xp) name ap) (e :: es) [] pos) d ((x, .acc 115 dx ds') :: μ) := .mk fun s I => by
  refine meth_node (I.own_name hox ?_ hd hn) (hbase _) hev
  obtain ⟨us, n, m', hx, hns, hm, hrep, hdx⟩ := acc_at I hμ hox
  have H' := H.keeps I.hbk
  refine acc_getMethod H'.X hx hns hm hf F.look hfc hB hnm ?_
  refine callWith_meth (h₀ := C.hb) (o := objOf C.w f) F.dat (F.at H) (wpAny_mono (hargs.run pos s I) (fun vs s₁ h₁ => ?_) fun _ _ q => q) (hst _)
  have I₁ := I.step h₁.1
  refine ⟨I₁.hbk, ?_⟩
  obtain ⟨b, e1, r, _⟩ := I₁.owns x _ hμ
  rw [hox] at e1; cases e1
  exact wpAny_mono (m s₁ ρ μ a dx vs I₁ (I.ok.ownox x a (mem_of_lookup hox)) (sep.1 a (.inl rfl)) hdx (sep.1 dx (.inr rfl)) r h₁.2) (fun v s' hr => by
    obtain ⟨q1, q2⟩ := acc_ret I₁ hμ hox sep hr
    exact ⟨h₁.1.trans q1, q2⟩) fun _ _ q => q
end

section
theorem lk_push : typeLookup (.type "list") "push" = pure none := by rw [typeLookup_type, builtinLookup_eq_fast]; kernel_rfl
theorem lk_pop_from : typeLookup (.type "list") "pop_from" = pure none := by rw [typeLookup_type, builtinLookup_eq_fast]; kernel_rfl
theorem lk_reset : typeLookup (.type "list") "reset" = pure none := by rw [typeLookup_type, builtinLookup_eq_fast]; kernel_rfl
theorem lk_pop : typeLookup (.type "list") "pop" = pure (some (.builtin "list.pop")) := PySem.F.slot_list_pop.lookup
end
end Mine
end

section
open PySem PySem.W PyProof.Rows PySem.Spec PySem.Calls PySem.Builtin PySem.Builtin.Str
set_option maxRecDepth 100000
namespace Mine

theorem Room.deep {A : Around} {k : Nat} {env : Env} (h : Room A (k + 1)) : Room (A.deeper env) k :=
  ⟨by have := h.1; show A.depth + 1 + k < 900; lia, by have := h.2; show A.units + 3 + 10 * k < 9000; lia⟩

theorem len1 {α : Type} {l : List α} (h : l.length = 1) : ∃ a, l = [a] := by
  obtain _ | ⟨a, l⟩ := l
  · cases h
  · obtain _ | ⟨b, l⟩ := l
    · exact ⟨a, rfl⟩
    · cases h
theorem len2 {α : Type} {l : List α} (h : l.length = 2) : ∃ a b, l = [a, b] := by
  obtain _ | ⟨a, l⟩ := l
  · cases h
  · obtain ⟨b, rfl⟩ := len1 (Nat.succ.inj h)
    exact ⟨a, b, rfl⟩
theorem len3 {α : Type} {l : List α} (h : l.length = 3) : ∃ a b c, l = [a, b, c] := by
  obtain _ | ⟨a, l⟩ := l
  · cases h
  · obtain ⟨b, c, rfl⟩ := len2 (Nat.succ.inj h)
    exact ⟨a, b, c, rfl⟩
theorem len4 {α : Type} {l : List α} (h : l.length = 4) : ∃ a b c d, l = [a, b, c, d] := by
  obtain _ | ⟨a, l⟩ := l
  · cases h
  · obtain ⟨b, c, d, rfl⟩ := len3 (Nat.succ.inj h)
    exact ⟨a, b, c, d, rfl⟩

/-- a def that changes nothing that stood -/
def FnD (C : Cx) (f : Addr) (ds : List D) (d : D) : Prop := ∀ s ρ μ vs, FI C s ρ μ → Reps C.p C.w (vw s.heap C.ex) vs ds →
  wpAny C.M C.A (call (.ref f) vs) (fun v s' => Grow Nil s s' ∧ Rep C.p C.w (vw s'.heap C.ex) v d) NoE s

section
variable {C : Cx} {ρ : Rho} {μ μ₁ μ₂ : Mu} {N : Shared → Prop} {R : Value → Shared → Prop} {rest : List Stmt} {x : Str}

theorem Ev_fn (H : Hp C.p C.w C.hb) {f : Addr} {np pos : Pos} {e : Expr} {es : List Expr} {ds : List D} {d : D} (F : Fn C.w f) (g : nsIn (Kp C.w) mainGlobals x = some (some (.ref f))) (hargs : Evs C ρ μ (e :: es) ds μ₁) (m : FnD C f ds d)
    (hx : C.env.kindOf x = some .globalImplicit := by rfl) (he : ∀ env, starEach (e :: es) env = (false, eval e env) :: starEach es env := by intros; rfl)
    (hdb : (x == ("__debug__" : Str)) = false := by decide) : Ev C ρ μ (.Call (.Name x np) (e :: es) [] pos) d μ₁ := .mk fun s I =>
  wpAny_Call_NameR (name_glob I (H.glob g) hx (callWith_def (o := objOf C.w f) F.dat (wpAny_mono (hargs.run pos s I) (fun vs s₁ h₁ =>
    ⟨(I.step h₁.1).hbk _ _ (F.at H), wpAny_mono (m s₁ ρ μ₁ vs (I.step h₁.1) h₁.2) (fun v s₂ h₂ => ⟨h₁.1.more h₂.1, h₂.2⟩) fun _ _ x => x⟩) fun _ _ x => x) (he _)) hdb)

theorem argRho_im : ∀ (xs : List Str) (ds : List D), argRho xs (ds.map .im) = xs.zip ds
  | [], [] => rfl
  | [], _ :: _ => rfl
  | _ :: _, [] => rfl
  | x :: xs, d :: ds => by simp only [List.map_cons, argRho, List.zip_cons_cons]; rw [argRho_im xs ds]
theorem argOwn_im : ∀ (xs : List Str) (ds : List D), argOwn xs (ds.map .im) = []
  | [], [] => rfl
  | [], _ :: _ => rfl
  | _ :: _, [] => rfl
  | x :: xs, d :: ds => by simp only [List.map_cons, argOwn]; exact argOwn_im xs ds
theorem argsAre_im {h : Heap} : ∀ {vs : List Value} {ds : List D}, Reps C.p C.w (vw h C.ex) vs ds → ArgsAre C h vs (ds.map .im)
  | [], _, .nil => trivial
  | _ :: _, _, .cons r rs => ⟨r, argsAre_im rs⟩

theorem FnD_of (H : Hp C.p C.w C.hb) {f : Addr} (F : Fn C.w f) {k : Nat} (hr : Room C.A k) {xs : List Str} {ds : List D} {d : D}
    (hb : ∀ (s' : Shared) (vs : List Value), vs.length = ds.length → (Kp C.w).In s'.heap → ∃ b, BindsTo s' (fdOf C.w f) ⟨vs, []⟩ b ∧ b = xs.zip vs) (hl : xs.length = ds.length) (hn : xs.Nodup) (hst : xs.all (stoB (fdOf C.w f).scope.names) = true)
    (hk : ∀ L s, Ex (fnCx C.p C.w C.A (fdOf C.w f) f L s Nil C.ex [] C.ox C.hb) (xs.zip ds) [] (bodyOf C.w f) (fun s' => RetP s Nil C.ex C.p C.w d [] .none s') (fun v s' => RetP s Nil C.ex C.p C.w d [] v s')) : FnD C f ds d := by
  intro s ρ μ vs I hrep
  have hlen := hrep.length
  refine wpAny_mono (call_fnB (Q := fun v s' => RetP s Nil C.ex C.p C.w d [] v s') (binds := xs.zip vs) (xs := xs) (vs := vs) (as := ds.map .im) (mt := Nil) (μ₀ := []) I (F.at H) F.dat (F.ok H) H.lim hr.lim
    (fun s' k => by obtain ⟨b, h1, h2⟩ := hb s' vs hlen (H.X.keeps k); exact h2 ▸ h1) rfl (argsAre_im hrep) (by rw [hl, hlen]) hn (sto_of hst) (fun i b e => ?_) (fun _ q => q.elim) (fun y o e => by cases e) (fun L => ?_)) (fun v s' r => ⟨r.grow, r.rep⟩) fun _ _ q => q
  · have := List.mem_of_getElem? e
    simp at this
  · rw [argOwn_im, argRho_im]
    exact hk L s
end

section
variable {w : World}
theorem pk28 {v u : Value} (S : _) : peek (Kp w) S (bindArgs (fdOf w 28) ⟨[v, u], []⟩) = some ([("ch_a", v), ("ch_b", u)] : List (Str × Value)) := by kernel_rfl
theorem bt28 {v u : Value} {s : Shared} (X : (Kp w).In s.heap) : BindsTo s (fdOf w 28) ⟨[v, u], []⟩ ([("ch_a", v), ("ch_b", u)] : List (Str × Value)) := by with_reducible exact kp_binds X pk28
end

section
variable {C : Cx} {ρ : Rho} {μ μ₁ μ₂ : Mu}
def subCost (x y : Str) : Int := if x == y then 0 else if Txt.lower x == Txt.lower y then 1 else 2
theorem fn_sub (H : Hp C.p C.w C.hb) (hr : Room C.A 1) {x y : Str} (h1 : tooLong (Txt.lower x).length = false) (h2 : tooLong (Txt.lower y).length = false) : FnD C 28 [.str x, .str y] (.int (subCost x y)) := by
  refine FnD_of H fn28 hr (xs := ["ch_a", "ch_b"]) (fun s' vs hl X => ?_) rfl (by decide) (by rfl) (fun L s => ?_)
  · obtain ⟨v, u, rfl⟩ := len2 hl
    refine ⟨[("ch_a", v), ("ch_b", u)], ?_, rfl⟩
    with_reducible exact bt28 X
  unfold subCost
  have fin : ∀ {s' : Shared} {ρ' : Rho} {μ' : Mu} {v : Value} {i : Int}, FI (fnCx C.p C.w C.A (fdOf C.w 28) 28 L s Nil C.ex [] C.ox C.hb) s' ρ' μ' → Rep C.p C.w (vw s'.heap (fnCx C.p C.w C.A (fdOf C.w 28) 28 L s Nil C.ex [] C.ox C.hb).ex) v (.int i) → RetP s Nil C.ex C.p C.w (.int i) [] v s' :=
    fun I r => retP_of I (fun a h => .inl h) r (fun b o h => by cases h)
  refine Ex_if (EvT_cmp (Ev_name rfl) (Ev_name rfl) cmp_eq_str) (fun e => ?_) (fun e => ?_)
  · rw [if_pos e]
    exact Ex_ret Ev_int (fun s' v I r => fin I r)
  · rw [if_neg (by rw [e]; simp)]
    refine Ex_if (EvT_cmp (Ev_lower (Ev_name rfl) h1) (Ev_lower (Ev_name rfl) h2) cmp_eq_str) (fun e => ?_) (fun e => ?_)
    · rw [if_pos e]
      exact Ex_ret (Ev_glob (v := .int 1 _) (by exact H.glob (by rfl)) (fun _ => .int _ _)) (fun s' v I r => fin I r)
    · rw [if_neg (by rw [e]; simp)]
      exact Ex_ret (Ev_glob (v := .int 2 _) (by exact H.glob (by rfl)) (fun _ => .int _ _)) (fun s' v I r => fin I r)
end
end Mine
end

section
open PySem PySem.W PyProof.Rows PySem.Spec PySem.Calls PySem.Builtin PySem.Builtin.Str
set_option maxRecDepth 100000
namespace Mine

def cost (a b : Nat) : Int := subCost (mk [a]) (mk [b])
def lcp : List Nat → List Nat → Nat
  | a :: A, b :: B => if a == b then lcp A B + 1 else 0
  | _, _ => 0
def levInner (c : Nat) : List Nat → List Int → Int → Int → Int → List Int × Int × Int
  | a :: A, r :: row, dist, res, mn =>
    let res' := min (min res r + 2) (dist + cost c a)
    let t := levInner c A row r res' (if res' < mn then res' else mn)
    (res' :: t.1, t.2.1, t.2.2)
  | _, _, _, res, mn => ([], res, mn)
def big : Int := 9223372036854775807
def levRows (A : List Nat) (mc : Int) : List Nat → Nat → List Int → Int → Int
  | [], _, _, res => res
  | c :: B, i, row, _ =>
    let t := levInner c A row (i * 2) (i * 2) big
    if mc < t.2.2 then mc + 1 else levRows A mc B (i + 1) t.1 t.2.1
def row0 (n : Nat) : List Int := (List.range n).map fun (i : Nat) => (2 : Int) + i * 2
def levCore (A B : List Nat) (mc : Int) : Int :=
  if mc < ((B.length : Int) - A.length) * 2 then mc + 1 else levRows A mc B 0 (row0 A.length) 0
def levF (A B : List Nat) (mc : Int) : Int :=
  if A == B then 0 else
    let A1 := A.drop (lcp A B)
    let B1 := B.drop (lcp A B)
    let q := lcp A1.reverse B1.reverse
    let A2 := A1.take (A1.length - q)
    let B2 := B1.take (B1.length - q)
    if A2.length = 0 ∨ B2.length = 0 then 2 * ((A2.length : Int) + B2.length)
    else if B2.length < A2.length then levCore B2 A2 mc else levCore A2 B2 mc

theorem lcp_le : ∀ (A B : List Nat), lcp A B ≤ A.length ∧ lcp A B ≤ B.length
  | a :: A, b :: B => by
    unfold lcp
    have := lcp_le A B
    split <;> simp <;> lia
  | [], B => by simp [lcp]
  | _ :: _, [] => by simp [lcp]
/-- where the walk over equal letters stands -/
theorem lcp_at : ∀ (A B : List Nat) (k : Nat), k ≤ lcp A B → (k < lcp A B ↔ (k < A.length ∧ k < B.length ∧ A[k]? = B[k]?))
  | a :: A, b :: B, k, h => by
    unfold lcp at h ⊢
    by_cases e : (a == b) = true
    · rw [if_pos e] at h ⊢
      cases k with
      | zero => simp [eq_of_beq e]
      | succ k =>
        have := lcp_at A B k (by lia)
        simp only [List.length_cons, Nat.add_lt_add_iff_right, List.getElem?_cons_succ]
        exact this
    · rw [if_neg e] at h ⊢
      have : k = 0 := by lia
      subst this
      simp
      simpa using e
  | [], B, k, h => by simp [lcp]
  | _ :: _, [], k, h => by simp [lcp]

section
variable {w : World}
theorem pk35 {v u z : Value} (S : _) : peek (Kp w) S (bindArgs (fdOf w 35) ⟨[v, u, z], []⟩) = some ([("a", v), ("b", u), ("max_cost", z)] : List (Str × Value)) := by kernel_rfl
theorem bt35 {v u z : Value} {s : Shared} (X : (Kp w).In s.heap) : BindsTo s (fdOf w 35) ⟨[v, u, z], []⟩ ([("a", v), ("b", u), ("max_cost", z)] : List (Str × Value)) := by with_reducible exact kp_binds X pk35
end

section
variable {C : Cx} {ρ : Rho} {μ : Mu}
theorem cmp_eq_mk {p : Program} {w : World} {A : Around} {hb : Heap} {l m : List Nat} : CmpD p w A hb .Eq (.str (mk l)) (.str (mk m)) (l == m) := mk_beq l m ▸ cmp_eq_str
theorem EvT_and3 {x y z : Expr} {pos : Pos} {b1 b2 b3 : Bool} (h1 : EvT C ρ μ x b1 μ) (h2 : b1 = true → EvT C ρ μ y b2 μ) (h3 : b1 = true → b2 = true → EvT C ρ μ z b3 μ) : EvT C ρ μ (.BoolOp .And [x, y, z] pos) (b1 && b2 && b3) μ := by
  cases b1 with
  | false => exact EvT_and_ff h1
  | true =>
    refine EvT_and_tt h1 ?_
    cases b2 with
    | false => exact EvT_and_ff (h2 rfl)
    | true =>
      refine EvT_and_tt (h2 rfl) ?_
      cases b3 with
      | false => exact EvT_and_ff (h3 rfl rfl)
      | true => exact EvT_and_tt (h3 rfl rfl) EvT_and_nil
theorem tru_mk {p : Program} {w : World} {A : Around} {hb : Heap} {l : List Nat} (h : l.length < 1000) : TruD p w A hb (.str (mk l)) (decide (0 < l.length)) := by
  have e : (((mk l).length : Int) != 0) = decide (0 < l.length) := by
    rw [mk_len]
    cases l with
    | nil => rfl
    | cons a l =>
      have h1 : ((((a :: l).length : Nat) : Int) != 0) = true := by
        rw [bne_iff_ne]
        simp only [List.length_cons]
        lia
      rw [h1]; simp
  rw [← e]
  exact tru_str (by rw [mk_len]; lia)
theorem sub_mk {p : Program} {w : World} {A : Around} {hb : Heap} {l : List Nat} {i : Int} {j c : Nat} (h0 : -(2 ^ 63 : Int) ≤ i) (h1 : i < 2 ^ 63) (hj : seqIndex? i l.length = some j) (hc : l[j]? = some c) : SubD p w A hb (.str (mk l)) (.int i) (.str (mk [c])) := by
  refine sub_str h0 h1 ?_
  rw [mk_len, hj]
  simpa [mk] using hc

theorem EvT_or2 {x y : Expr} {pos : Pos} {b1 b2 : Bool} (h1 : EvT C ρ μ x b1 μ) (h2 : b1 = false → EvT C ρ μ y b2 μ) : EvT C ρ μ (.BoolOp .Or [x, y] pos) (b1 || b2) μ := by
  cases b1 with
  | true => exact EvT_or_tt h1
  | false =>
    refine EvT_or_ff h1 ?_
    cases b2 with
    | true => exact EvT_or_tt (h2 rfl)
    | false => exact EvT_or_ff (h2 rfl) EvT_or_nil
theorem call_len_mk {p : Program} {w : World} {A : Around} {hb : Heap} {l : List Nat} (h : l.length < 1000) : CallD p w A hb (.builtin "len") [.str (mk l)] (.int l.length) := by
  have := call_len_s (p := p) (w := w) (A := A) (hb := hb) (x := mk l) (by rw [mk_len]; lia)
  rw [mk_len] at this
  exact this
theorem Ev_len (H : Hp C.p C.w C.hb) {np pos : Pos} {e : Expr} {l : List Nat} (he : Ev C ρ μ e (.str (mk l)) μ) (h : l.length < 1000) (hx : C.env.kindOf "len" = some .globalImplicit := by rfl)
    (hst : ∀ env, starEach [e] env = (false, eval e env) :: starEach [] env := by intros; rfl) : Ev C ρ μ (.Call (.Name "len" np) [e] [] pos) (.int l.length) μ :=
  Ev_call_bi (H.built (by rfl) (by rfl)) (Evs_cons he Evs_nil hst) (call_len_mk h) hx hst

/-- a smaller set of variables -/
inductive SubR (ρ : Rho) : Rho → Prop
  | nil : SubR ρ []
  | cons {k : Str} {v : D} {l : Rho} : ρ.lookup k = some v → SubR ρ l → SubR ρ ((k, v) :: l)
theorem SubR.sub {ρ ρ' : Rho} (h : SubR ρ ρ') : ∀ x d, ρ'.lookup x = some d → ρ.lookup x = some d := by
  intro x d e
  induction h with
  | nil => cases e
  | @cons k v l h r ih =>
    rw [List.lookup_cons] at e
    by_cases q : (x == k) = true
    · rw [q] at e; cases e
      rw [eq_of_beq q]; exact h
    · have q' : (x == k) = false := by simpa using q
      rw [q'] at e
      exact ih e
theorem getElem?_rev {A : List Nat} {k : Nat} (h : k < A.length) : A.reverse[k]? = A[A.length - 1 - k]? := List.getElem?_reverse h
theorem sli_post {p : Program} {w : World} {A : Around} {hb : Heap} {l : List Nat} {k : Nat} (hz : l.length ≤ sizeLine) (h1 : 1 ≤ k) : SliD p w A hb (.str (mk l)) none (some (0 - (k : Int))) none (.str (mk (l.take (l.length - k)))) := by
  have : (0 - (k : Int)) = -(k : Int) := by lia
  rw [this]
  exact sli_str_neg hz h1

theorem seq_neg {n k : Nat} (h : k < n) : seqIndex? (0 - (k : Int) - 1) n = some (n - 1 - k) := by
  have h1 : 0 - (k : Int) - 1 < 0 := by lia
  unfold seqIndex?
  simp only [h1, if_true]
  have h2 : (decide ((0 : Int) ≤ 0 - (k : Int) - 1 + n) && decide (0 - (k : Int) - 1 + n < n)) = true := by
    simp only [Bool.and_eq_true, decide_eq_true_eq]
    lia
  rw [if_pos h2]
  congr 1
  lia

/-- `x[:post or None]`, when post is the count of letters let go -/
theorem Ev_upto {x : Str} {xp sp pos pp bp np : Pos} {kk : Nat} {l : List Nat} {k : Nat} (hz : l.length < 1000) (hx : ρ.lookup x = some (.str (mk l))) (hp : ρ.lookup ("post" : Str) = some (.int (0 - (k : Int))))
    (hd : (x == ("__debug__" : Str)) = false := by decide) (hn : (x == ("__classdict__" : Str)) = false := by decide) :
    Ev C ρ μ (.Subscript (.Name x xp) (.Slice none (some (.BoolOp .Or [.Name "post" pp, .Constant .none kk np] bp)) none sp) pos) (.str (mk (l.take (l.length - k)))) μ := by
  have hsz : sizeLine = 16777216 := sizeLine_eq
  by_cases h : k = 0
  · subst h
    refine Ev_slice (Ev_name hx hd hn) .none (.non (Ev_or (b := false) (Ev_name hp) tru_int (fun q => nomatch q) fun _ => Ev_none)) .none ?_
    rw [Nat.sub_zero, List.take_length]
    exact sli_str_all (by lia)
  · refine Ev_slice (Ev_name hx hd hn) .none (.int (Ev_or (b := true) (Ev_name hp) ?_ (fun _ => ⟨rfl, rfl⟩) fun q => nomatch q)) .none (sli_post (by lia) (by lia))
    have e : ((0 - (k : Int)) != 0) = true := by rw [bne_iff_ne]; lia
    rw [← e]
    exact tru_int

end
end Mine
end

section
open PySem PySem.W PyProof.Rows PySem.Spec PySem.Calls PySem.Builtin PySem.Builtin.Str
set_option maxRecDepth 100000
namespace Mine
section
variable {C : Cx} {ρ : Rho} {μ : Mu}

theorem FI.subMu {s : Shared} {μ' : Mu} (I : FI C s ρ μ) (h : ∀ x o, μ'.lookup x = some o → μ.lookup x = some o) : FI C s ρ μ' :=
  ⟨I.ok, I.base, I.ns, I.cel, I.lt, I.vars, I.ownv, fun x o e => I.owns x o (h x o e)⟩
theorem subMu1 {k : Str} {o : Own} {l : Mu} : ∀ x o', ([(k, o)] : Mu).lookup x = some o' → ((k, o) :: l).lookup x = some o' := fun x o' e => by
  obtain ⟨rfl, rfl⟩ := look1 e
  rw [List.lookup_cons]; simp

theorem range_small {n : Nat} (h : n ≤ 100) : Builtin.Range.small 0 n 1 = true ∧ Builtin.Range.rangeSize 0 n 1 = n := by
  have key : ∀ n : Fin 101, Builtin.Range.small 0 (n.val : Int) 1 = true ∧ Builtin.Range.rangeSize 0 (n.val : Int) 1 = n.val := by decide +kernel
  exact key ⟨n, by lia⟩
theorem range_two {n : Nat} (h : n ≤ 10) : Builtin.Range.small 2 (2 * ((n : Int) + 1)) 2 = true ∧ Builtin.Range.rangeSize 2 (2 * ((n : Int) + 1)) 2 = n := by
  have key : ∀ n : Fin 11, Builtin.Range.small 2 (2 * ((n.val : Int) + 1)) 2 = true ∧ Builtin.Range.rangeSize 2 (2 * ((n.val : Int) + 1)) 2 = n.val := by decide +kernel
  exact key ⟨n, by lia⟩

/-- `for x in range(e)` -/
theorem EvI_range (H : Hp C.p C.w C.hb) {np pos tp : Pos} {x : Str} {e : Expr} {n : Nat} {μ₁ : Mu} (he : Ev C ρ μ e (.int n) μ₁) (h : n ≤ 100) (hx : C.env.kindOf "range" = some .globalImplicit := by rfl)
    (hst : ∀ env, starEach [e] env = (false, eval e env) :: starEach [] env := by intros; rfl) :
    EvI C ρ μ (.Call (.Name "range" np) [e] [] pos) (.Name x tp) ((List.range n).map fun (i : Nat) => D.int (0 + i)) μ₁ :=
  EvI_of (Ev_call_ty (H.built (by rfl) (by rfl)) (Evs_cons he Evs_nil hst) call_range1_d hx hst) (ItrD_range (by simp) (range_small h).1 (range_small h).2)

theorem range_get {n i x : Nat} (h : (List.range n)[i]? = some x) : x = i ∧ i < n := by
  obtain ⟨h1, h2⟩ := List.getElem?_eq_some_iff.mp h
  simp at h1 h2
  exact ⟨h2.symm, h1⟩
theorem drop_cons {l : List Nat} {i : Nat} (h : i < l.length) : l.drop i = l[i] :: l.drop (i + 1) := List.drop_eq_getElem_cons h
theorem levInner_len (c : Nat) : ∀ (A : List Nat) (row : List Int) (d r m : Int), row.length = A.length → (levInner c A row d r m).1.length = A.length
  | [], [], _, _, _, _ => rfl
  | a :: A, r :: row, d, res, mn, h => by
    simp only [levInner, List.length_cons]
    rw [levInner_len c A row _ _ _ (by simpa using h)]
  | [], _ :: _, _, _, _, h => by simp at h
  | _ :: _, [], _, _, _, h => by simp at h

set_option maxHeartbeats 4000000 in
theorem lev_tail (H : Hp C.p C.w C.hb) (hr : Room C.A 3) {L : Addr} {s : Shared} {P Q : List Nat} {mc : Int} (hP : P.length ≤ 6) (hQ : Q.length ≤ 6) (hlow : ∀ c, c ∈ P ∨ c ∈ Q → tooLong (Txt.lower (mk [c])).length = false) (hm : 0 ≤ mc ∧ mc ≤ 100) (hle : P.length ≤ Q.length) (h0 : 0 < P.length) {N : Shared → Prop} :
    Ex (fnCx C.p C.w C.A (fdOf C.w 35) 35 L s Nil C.ex [] C.ox C.hb) [("a", .str (mk P)), ("b", .str (mk Q)), ("max_cost", .int mc)] [] ((bodyOf C.w 35).drop 12) N (fun v s' => RetP s Nil C.ex C.p C.w (.int (levCore P Q mc)) [] v s') := by
  have mv : ∀ {C' : Cx} {ρ' : Rho} {μ' : Mu} {pos : Pos}, C'.hb = C.hb → C'.w = C.w → C'.p = C.p → C'.env.kindOf "_MOVE_COST" = some .globalImplicit → Ev C' ρ' μ' (.Name "_MOVE_COST" pos) (.int 2) μ' := fun e1 e2 e3 hx => Ev_glob (v := .int 2 _) (e1 ▸ H.glob (by rfl)) (fun _ => .int _ _) hx
  refine Ex_if (EvT_cmp (Ev_bin (Ev_bin (Ev_len (by exact H) (Ev_name rfl) (by lia)) (Ev_len (by exact H) (Ev_name rfl) (by lia)) bin_sub) (mv rfl rfl rfl (by rfl)) (bin_mul (.of_right (intBits_le_64 (by decide) (by decide))))) (Ev_name rfl) cmp_gt_int) (fun hc => ?_) (fun hc => ?_)
  · rw [decide_eq_true_eq] at hc
    refine Ex_ret (Ev_bin (Ev_name rfl) Ev_int bin_add) (fun s' v I r => ?_)
    have e : levCore P Q mc = mc + 1 := by unfold levCore; rw [if_pos (by lia)]
    rw [e]
    exact retP_of I (fun a h => .inl h) r (fun b o h => by cases h)
  rw [decide_eq_false_iff_not] at hc
  have e : levCore P Q mc = levRows P mc Q 0 (row0 P.length) 0 := by unfold levCore; rw [if_neg (by lia)]
  rw [e]
  obtain ⟨rs1, rs2⟩ := range_two (n := P.length) (by lia)
  refine Ex_make1 (Mk1_range (n := P.length) (c := 2) (by exact H.built (by rfl) (by rfl)) (Ev_call_ty (by exact H.built (by rfl) (by rfl)) (Evs_cons (mv rfl rfl rfl (by rfl)) (Evs_cons (Ev_bin (mv rfl rfl rfl (by rfl)) (Ev_bin (Ev_len (by exact H) (Ev_name rfl) (by lia)) Ev_int bin_add) (bin_mul (.of_left (intBits_le_64 (by decide) (by decide))))) (Evs_cons (mv rfl rfl rfl (by rfl)) Evs_nil))) (call_range3_d (by decide) (by decide))) (fun _ q => q) rs1 rs2 (by lia)) ⟨.inl rfl, rfl⟩ (fun r hsh hnd hnx => ?_)
  obtain ⟨ad, rfl⟩ := hsh
  refine Ex_assign Ev_int ⟨.inl rfl, rfl⟩ ?_
  have r0len : (row0 P.length).length = P.length := by simp [row0]
  refine Ex_for (σ := List Int × Int) (List.range Q.length) (fun i => D.int (0 + (i : Int))) (fun i => [("bindex", .int (0 + (i : Int)))]) (fun i st => i ≤ Q.length ∧ st.1.length = P.length ∧ levRows P mc (Q.drop i) i st.1 st.2 = levRows P mc Q 0 (row0 P.length) 0)
    (fun st => [("result", .int st.2), ("a", .str (mk P)), ("b", .str (mk Q)), ("max_cost", .int mc)]) (fun st => [("row", .lst (st.1.map .int))])
    (EvI_range (by exact H) (Ev_len (by exact H) (Ev_name rfl) (by lia)) (by lia)) (fun _ _ => .name) (fun i _ b hb => by rw [List.mem_singleton.mp hb]; exact ⟨.inl rfl, rfl⟩)
    ⟨(row0 P.length, 0), ⟨Nat.zero_le _, r0len, by rw [List.drop_zero]⟩, (SubR.cons rfl (.cons rfl (.cons rfl (.cons rfl .nil)))).sub, by simp [mkMu, row0]⟩ (fun X hX i x st hx hp => ?_) (fun st hp => ?_)
  · obtain ⟨rfl, hi⟩ := range_get hx
    obtain ⟨hi2, hrl, hinv⟩ := hp
    obtain ⟨row, res⟩ := st
    simp only at hrl hinv
    rw [drop_cons hi] at hinv
    generalize hcdef : Q[x] = c at hinv
    have hcQ : c ∈ Q := hcdef ▸ List.getElem_mem hi
    refine Ex_assign (Ev_subscr (Ev_name rfl) (Ev_name rfl) (sub_mk (j := x) (c := c) (by lia) (by lia) ?_ (by rw [← hcdef]; exact List.getElem?_eq_getElem hi))) ⟨.inl rfl, rfl⟩ ?_
    · simp [seqIndex?]; lia
    refine Ex_assign2 (Ev_bin (Ev_name rfl) (mv rfl rfl rfl (by rfl)) (bin_mul (.of_right (intBits_le_64 (by decide) (by decide))))) ⟨.inl rfl, rfl⟩ ⟨.inl rfl, rfl⟩ ?_
    refine Ex_assign Ev_int ⟨.inl rfl, rfl⟩ ?_
    have e0 : (0 + (x : Int)) * 2 = (x : Int) * 2 := by lia
    rw [e0]
    refine Ex_for (σ := List Int × List Int × Int × Int × Int) (List.range P.length) (fun i => D.int (0 + (i : Int))) (fun i => [("index", .int (0 + (i : Int)))])
      (fun k st => k ≤ P.length ∧ st.1.length = k ∧ st.2.1.length = P.length - k ∧ (st.1 ++ (levInner c (P.drop k) st.2.1 st.2.2.1 st.2.2.2.1 st.2.2.2.2).1, (levInner c (P.drop k) st.2.1 st.2.2.1 st.2.2.2.1 st.2.2.2.2).2) = levInner c P row ((x : Int) * 2) ((x : Int) * 2) big)
      (fun st => [("minimum", .int st.2.2.2.2), ("result", .int st.2.2.2.1), ("distance", .int st.2.2.1), ("bchar", .str (mk [c])), ("a", .str (mk P)), ("b", .str (mk Q)), ("max_cost", .int mc)]) (fun st => [("row", .lst ((st.1 ++ st.2.1).map .int))])
      (EvI_range (by exact H) (Ev_len (by exact H) (Ev_name rfl) (by lia)) (by lia)) (fun _ _ => .name) (fun i _ b hb => by rw [List.mem_singleton.mp hb]; exact ⟨.inl rfl, rfl⟩)
      ⟨([], row, (x : Int) * 2, (x : Int) * 2, big), ⟨Nat.zero_le _, rfl, by rw [Nat.sub_zero]; exact hrl, by simp⟩, (SubR.cons rfl (.cons rfl (.cons rfl (.cons rfl (.cons rfl (.cons rfl (.cons rfl .nil))))))).sub, by simp⟩ (fun X2 hX2 k y st hy hq => ?_) (fun st hq => ?_)
    · obtain ⟨rfl, hk⟩ := range_get hy
      obtain ⟨dn, td, dist, rs, mn⟩ := st
      obtain ⟨q1, q2, q3, q4⟩ := hq
      simp only at q1 q2 q3 q4
      match td, q3 with
      | [], q3 => simp at q3; lia
      | r :: td, q3 =>
        rw [drop_cons hk] at q4
        generalize hadef : P[y] = a at q4
        have haP : a ∈ P := hadef ▸ List.getElem_mem hk
        have hget : ((dn ++ r :: td).map D.int)[y]? = some (D.int r) := by
          rw [List.getElem?_map, List.getElem?_append_right (by lia)]
          simp [q2]
        refine Ex_assign (Ev_bin (Ev_name rfl) (Ev_fn (by exact H) fn28 (by rfl) (Evs_cons (Ev_name rfl) (Evs_cons (Ev_subscr (Ev_name rfl) (Ev_name rfl) (sub_mk (j := y) (c := a) (by lia) (by lia) ?_ (by rw [← hadef]; exact List.getElem?_eq_getElem hk))) Evs_nil)) (fn_sub (by exact H) (Room.deep (by exact ⟨by have := hr.1; lia, by have := hr.2; lia⟩)) (hlow c (.inr hcQ)) (hlow a (.inl haP)))) bin_add) ⟨.inl rfl, rfl⟩ ?_
        · simp [seqIndex?]; lia
        refine Ex_assign (Ev_subscr_o (EvO_own rfl (hox := rfl)) (Ev_name rfl) (subO_lst (d := .int r) (by lia) (by lia) (by simpa using hget))) ⟨.inl rfl, rfl⟩ ?_
        have hmin : ∀ {C' : Cx} {ρ' : Rho} {μ' : Mu} {np pos : Pos} {e1 e2 : Expr} {a b : Int}, C'.hb = C.hb → C'.w = C.w → C'.p = C.p → C'.env.kindOf "min" = some .globalImplicit → (∀ env, starEach [e1, e2] env = (false, eval e1 env) :: starEach [e2] env) → (∀ env, starEach [e2] env = (false, eval e2 env) :: starEach [] env) → (∀ env, (backTo pos (starEach [e2] env)).any (·.1) = false) →
            Ev C' ρ' μ' e1 (.int a) μ' → Ev C' ρ' μ' e2 (.int b) μ' → Ev C' ρ' μ' (.Call (.Name "min" np) [e1, e2] [] pos) (.int (min a b)) μ' := fun z1 z2 z3 hx s1 s2 s3 h1 h2 =>
          Ev_call_bi (z1 ▸ H.built (by rfl) (by rfl)) (Evs_cons h1 (Evs_cons h2 Evs_nil s2) s1) call_min2_d hx s1 s3
        refine Ex_assign (Ev_bin (hmin rfl rfl rfl (by rfl) (by intros; rfl) (by intros; rfl) (by intros; rfl) (Ev_name rfl) (Ev_name rfl)) (mv rfl rfl rfl (by rfl)) bin_add) ⟨.inl rfl, rfl⟩ ?_
        refine Ex_assign (hmin rfl rfl rfl (by rfl) (by intros; rfl) (by intros; rfl) (by intros; rfl) (Ev_name rfl) (Ev_name rfl)) ⟨.inl rfl, rfl⟩ ?_
        generalize hres : min (min rs r + 2) (dist + subCost (mk [c]) (mk [a])) = rs'
        refine Ex_setitem_lst (a := ad) (Ev_name rfl) (Ev_name rfl) rfl rfl ?_ (by lia) (by lia) ?_ ?_
        · exact sep_one (fun b q => .inr (by rw [q]; simp [adrs, RK.adr])) (fun y b e => (look1 e).1) (fun y o e => (look1 e).1)
        · simp; lia
        have eset : ((dn ++ r :: td).map D.int).set (0 + (y : Int)).toNat (.int rs') = (dn ++ [rs'] ++ td).map D.int := by
          have : (0 + (y : Int)).toNat = y := by lia
          rw [this, ← q2]
          simp
        rw [eset]
        have hstep : ∀ mn', mn' = (if rs' < mn then rs' else mn) → (y + 1 ≤ P.length ∧ (dn ++ [rs']).length = y + 1 ∧ td.length = P.length - (y + 1) ∧ ((dn ++ [rs']) ++ (levInner c (P.drop (y + 1)) td r rs' mn').1, (levInner c (P.drop (y + 1)) td r rs' mn').2) = levInner c P row ((x : Int) * 2) ((x : Int) * 2) big) := by
          intro mn' hmn
          subst hmn
          refine ⟨hk, by simp [q2], by simp at q3; lia, ?_⟩
          rw [← q4]
          simp only [levInner]
          have : min (min rs r + 2) (dist + cost c a) = rs' := hres
          rw [this]
          simp
        refine Ex_if (EvT_cmp (Ev_name rfl) (Ev_name rfl) cmp_lt_int) (fun hc => ?_) (fun hc => ?_)
        · rw [decide_eq_true_eq] at hc
          refine Ex_assign (Ev_name rfl) ⟨.inl rfl, rfl⟩ (Ex_nil fun s' I => ⟨(dn ++ [rs'], td, r, rs', rs'), hstep rs' (by rw [if_pos hc]), (I.sub (SubR.cons rfl (.cons rfl (.cons rfl (.cons rfl (.cons rfl (.cons rfl (.cons rfl .nil))))))).sub).subMu subMu1⟩)
        · rw [decide_eq_false_iff_not] at hc
          refine Ex_nil fun s' I => ⟨(dn ++ [rs'], td, r, rs', mn), hstep mn (by rw [if_neg hc]), (I.sub (SubR.cons rfl (.cons rfl (.cons rfl (.cons rfl (.cons rfl (.cons rfl (.cons rfl .nil))))))).sub).subMu subMu1⟩
    · obtain ⟨dn, td, dist, rs, mn⟩ := st
      obtain ⟨q1, q2, q3, q4⟩ := hq
      simp only [List.length_range, Nat.sub_self] at q1 q2 q3 q4
      have et : td = [] := List.length_eq_zero_iff.mp q3
      subst et
      rw [List.drop_length] at q4
      simp only [levInner, List.append_nil] at q4
      simp only [levRows] at hinv
      rw [← q4] at hinv
      simp only at hinv
      refine Ex_if (EvT_cmp (Ev_name rfl) (Ev_name rfl) cmp_gt_int) (fun hc => ?_) (fun hc => ?_)
      · rw [decide_eq_true_eq] at hc
        rw [if_pos hc] at hinv
        refine Ex_ret (Ev_bin (Ev_name rfl) Ev_int bin_add) (fun s' v I r => ?_)
        rw [← hinv]
        exact retP_of I (fun a h => .inl (hX a h)) r (fun b o h => by cases h)
      · rw [decide_eq_false_iff_not] at hc
        rw [if_neg hc] at hinv
        refine Ex_nil fun s' I => ⟨(dn, rs), ⟨hi, by rw [q2], hinv⟩, ?_⟩
        have I' := I.sub (ρ' := [("result", .int rs), ("a", .str (mk P)), ("b", .str (mk Q)), ("max_cost", .int mc)]) (SubR.cons rfl (.cons rfl (.cons rfl (.cons rfl .nil)))).sub
        simpa using I'
  · obtain ⟨row, res⟩ := st
    obtain ⟨q1, q2, q3⟩ := hp
    simp only [List.length_range, List.drop_length, levRows] at q3
    refine Ex_ret (Ev_name rfl) (fun s' v I r => ?_)
    rw [← q3]
    exact retP_of I (fun a h => .inl h) r (fun b o h => by cases h)
end
end Mine
end

section
open PySem PySem.W PyProof.Rows PySem.Spec PySem.Calls PySem.Builtin PySem.Builtin.Str
set_option maxRecDepth 100000
namespace Mine
section
variable {C : Cx} {ρ : Rho} {μ : Mu}
set_option maxHeartbeats 4000000 in
theorem fn_lev (H : Hp C.p C.w C.hb) (hr : Room C.A 3) {A B : List Nat} {mc : Int} (hA : A.length ≤ 6) (hB : B.length ≤ 6) (hlow : ∀ c, c ∈ A ∨ c ∈ B → tooLong (Txt.lower (mk [c])).length = false) (hm : 0 ≤ mc ∧ mc ≤ 100) :
    FnD C 35 [.str (mk A), .str (mk B), .int mc] (.int (levF A B mc)) := by
  have hsz : sizeLine = 16777216 := sizeLine_eq
  refine FnD_of H fn35 hr (xs := ["a", "b", "max_cost"]) (fun s' vs hl X => ?_) rfl (by decide) (by rfl) (fun L s => ?_)
  · obtain ⟨v, u, z, rfl⟩ := len3 hl
    refine ⟨[("a", v), ("b", u), ("max_cost", z)], ?_, rfl⟩
    with_reducible exact bt35 X
  have fin : ∀ {s' : Shared} {ρ' : Rho} {μ' : Mu} {v : Value} {i : Int}, FI (fnCx C.p C.w C.A (fdOf C.w 35) 35 L s Nil C.ex [] C.ox C.hb) s' ρ' μ' → Rep C.p C.w (vw s'.heap (fnCx C.p C.w C.A (fdOf C.w 35) 35 L s Nil C.ex [] C.ox C.hb).ex) v (.int i) → i = levF A B mc → RetP s Nil C.ex C.p C.w (.int (levF A B mc)) [] v s' :=
    fun I r e => e ▸ retP_of I (fun a h => .inl h) r (fun b o h => by cases h)
  refine Ex_if (EvT_cmp (Ev_name rfl) (Ev_name rfl) cmp_eq_mk) (fun e => ?_) (fun e => ?_)
  · exact Ex_ret Ev_int (fun s' v I r => fin I r (by unfold levF; rw [if_pos e]))
  refine Ex_assign Ev_int ⟨.inl rfl, rfl⟩ ?_
  -- the equal letters at the front
  refine Ex_while (σ := Nat) (fun k => k ≤ lcp A B) (fun k => lcp A B - k) (fun k => [("pre", .int k), ("a", .str (mk A)), ("b", .str (mk B)), ("max_cost", .int mc)]) (fun _ => []) ⟨0, Nat.zero_le _, fun x d h => h, rfl⟩ (fun k hk => ?_)
  have hl := lcp_le A B
  refine ⟨_, EvT_and3 (b3 := A[k]? == B[k]?) (EvT_val (Ev_slice (Ev_name rfl) (.int (Ev_name rfl)) .none .none (sli_str_from (a := k) (by lia))) (tru_mk (by rw [List.length_drop]; lia)))
    (fun h1 => EvT_val (Ev_slice (Ev_name rfl) (.int (Ev_name rfl)) .none .none (sli_str_from (a := k) (by lia))) (tru_mk (by rw [List.length_drop]; lia))) (fun h1 h2 => ?_), fun hc => ?_, fun hc => ?_⟩
  · rw [decide_eq_true_eq, List.length_drop] at h1 h2
    have a1 : k < A.length := by lia
    have b1 : k < B.length := by lia
    have e2 : (A[k]? == B[k]?) = ([A[k]] == [B[k]]) := by
      rw [List.getElem?_eq_getElem a1, List.getElem?_eq_getElem b1]
      simp
    rw [e2]
    refine EvT_cmp (Ev_subscr (Ev_name rfl) (Ev_name rfl) (sub_mk (j := k) (by lia) (by lia) ?_ (List.getElem?_eq_getElem a1))) (Ev_subscr (Ev_name rfl) (Ev_name rfl) (sub_mk (j := k) (by lia) (by lia) ?_ (List.getElem?_eq_getElem b1))) cmp_eq_mk
    · simp [seqIndex?]; lia
    · simp [seqIndex?]; lia
  · have hk' : k < lcp A B := by
      rw [lcp_at A B k hk]
      simp only [Bool.and_eq_true, decide_eq_true_eq, List.length_drop] at hc
      exact ⟨by lia, by lia, by simpa using hc.2⟩
    refine Ex_aug (d₀ := .int k) rfl Ev_int inp_add ⟨.inl rfl, rfl⟩ (Ex_nil fun s' I => ⟨k + 1, hk', by lia, I.sub (SubR.cons rfl (.cons rfl (.cons rfl (.cons rfl .nil)))).sub⟩)
  have hk' : k = lcp A B := by
    rcases Nat.lt_or_ge k (lcp A B) with h | h
    · obtain ⟨q1, q2, q3⟩ := (lcp_at A B k hk).mp h
      simp only [List.length_drop, q3, beq_self_eq_true, Bool.and_true, Bool.and_eq_false_iff, decide_eq_false_iff_not] at hc
      lia
    · lia
  subst hk'
  refine Ex_assign (Ev_slice (Ev_name rfl) (.int (Ev_name rfl)) .none .none (sli_str_from (a := lcp A B) (by lia))) ⟨.inl rfl, rfl⟩ ?_
  refine Ex_assign (Ev_slice (Ev_name rfl) (.int (Ev_name rfl)) .none .none (sli_str_from (a := lcp A B) (by lia))) ⟨.inl rfl, rfl⟩ ?_
  have hlev : levF A B mc = if ((A.drop (lcp A B)).take ((A.drop (lcp A B)).length - lcp (A.drop (lcp A B)).reverse (B.drop (lcp A B)).reverse)).length = 0 ∨ ((B.drop (lcp A B)).take ((B.drop (lcp A B)).length - lcp (A.drop (lcp A B)).reverse (B.drop (lcp A B)).reverse)).length = 0 then
      2 * ((((A.drop (lcp A B)).take ((A.drop (lcp A B)).length - lcp (A.drop (lcp A B)).reverse (B.drop (lcp A B)).reverse)).length : Int) + ((B.drop (lcp A B)).take ((B.drop (lcp A B)).length - lcp (A.drop (lcp A B)).reverse (B.drop (lcp A B)).reverse)).length)
    else if ((B.drop (lcp A B)).take ((B.drop (lcp A B)).length - lcp (A.drop (lcp A B)).reverse (B.drop (lcp A B)).reverse)).length < ((A.drop (lcp A B)).take ((A.drop (lcp A B)).length - lcp (A.drop (lcp A B)).reverse (B.drop (lcp A B)).reverse)).length then
      levCore ((B.drop (lcp A B)).take ((B.drop (lcp A B)).length - lcp (A.drop (lcp A B)).reverse (B.drop (lcp A B)).reverse)) ((A.drop (lcp A B)).take ((A.drop (lcp A B)).length - lcp (A.drop (lcp A B)).reverse (B.drop (lcp A B)).reverse)) mc
    else levCore ((A.drop (lcp A B)).take ((A.drop (lcp A B)).length - lcp (A.drop (lcp A B)).reverse (B.drop (lcp A B)).reverse)) ((B.drop (lcp A B)).take ((B.drop (lcp A B)).length - lcp (A.drop (lcp A B)).reverse (B.drop (lcp A B)).reverse)) mc := by
    unfold levF
    rw [if_neg (by rw [e]; simp)]
  have inA : ∀ c, c ∈ A.drop (lcp A B) → c ∈ A := fun c h => List.mem_of_mem_drop h
  have inB : ∀ c, c ∈ B.drop (lcp A B) → c ∈ B := fun c h => List.mem_of_mem_drop h
  generalize hA1 : A.drop (lcp A B) = A1 at *
  generalize hB1 : B.drop (lcp A B) = B1 at *
  have lA1 : A1.length ≤ 6 := by rw [← hA1, List.length_drop]; lia
  have lB1 : B1.length ≤ 6 := by rw [← hB1, List.length_drop]; lia
  refine Ex_assign Ev_int ⟨.inl rfl, rfl⟩ ?_
  refine Ex_while (σ := Nat) (fun k => k ≤ lcp A1.reverse B1.reverse) (fun k => lcp A1.reverse B1.reverse - k) (fun k => [("post", .int (0 - (k : Int))), ("a", .str (mk A1)), ("b", .str (mk B1)), ("max_cost", .int mc)]) (fun _ => []) ⟨0, Nat.zero_le _, (SubR.cons rfl (.cons rfl (.cons rfl (.cons rfl .nil)))).sub, rfl⟩ (fun k hk => ?_)
  have hl1 := lcp_le A1.reverse B1.reverse
  rw [List.length_reverse, List.length_reverse] at hl1
  refine ⟨_, EvT_and3 (b3 := A1.reverse[k]? == B1.reverse[k]?) (EvT_val (Ev_upto (k := k) (by lia) rfl rfl) (tru_mk (by rw [List.length_take]; lia)))
    (fun h1 => EvT_val (Ev_upto (k := k) (by lia) rfl rfl) (tru_mk (by rw [List.length_take]; lia))) (fun h1 h2 => ?_), fun hc => ?_, fun hc => ?_⟩
  · rw [decide_eq_true_eq, List.length_take] at h1 h2
    have a1 : k < A1.length := by lia
    have b1 : k < B1.length := by lia
    have a2 : A1.length - 1 - k < A1.length := by lia
    have b2 : B1.length - 1 - k < B1.length := by lia
    have e2 : (A1.reverse[k]? == B1.reverse[k]?) = ([A1[A1.length - 1 - k]] == [B1[B1.length - 1 - k]]) := by
      rw [getElem?_rev a1, getElem?_rev b1, List.getElem?_eq_getElem a2, List.getElem?_eq_getElem b2]
      simp
    rw [e2]
    refine EvT_cmp (Ev_subscr (Ev_name rfl) (Ev_bin (Ev_name rfl) Ev_int bin_sub) (sub_mk (j := A1.length - 1 - k) (by lia) (by lia) ?_ (List.getElem?_eq_getElem a2))) (Ev_subscr (Ev_name rfl) (Ev_bin (Ev_name rfl) Ev_int bin_sub) (sub_mk (j := B1.length - 1 - k) (by lia) (by lia) ?_ (List.getElem?_eq_getElem b2))) cmp_eq_mk
    · exact seq_neg a1
    · exact seq_neg b1
  · have hk' : k < lcp A1.reverse B1.reverse := by
      rw [lcp_at _ _ k hk]
      simp only [Bool.and_eq_true, decide_eq_true_eq, List.length_take] at hc
      rw [List.length_reverse, List.length_reverse]
      exact ⟨by lia, by lia, by simpa using hc.2⟩
    refine Ex_aug (d₀ := .int (0 - (k : Int))) rfl Ev_int inp_sub ⟨.inl rfl, rfl⟩ (Ex_nil fun s' I => ⟨k + 1, hk', by lia, I.sub ?_⟩)
    have e3 : (0 - ((k + 1 : Nat) : Int)) = 0 - (k : Int) - 1 := by lia
    rw [e3]
    exact (SubR.cons rfl (.cons rfl (.cons rfl (.cons rfl .nil)))).sub
  have hk' : k = lcp A1.reverse B1.reverse := by
    rcases Nat.lt_or_ge k (lcp A1.reverse B1.reverse) with h | h
    · obtain ⟨q1, q2, q3⟩ := (lcp_at _ _ k hk).mp h
      rw [List.length_reverse] at q1 q2
      simp only [List.length_take, q3, beq_self_eq_true, Bool.and_true, Bool.and_eq_false_iff, decide_eq_false_iff_not] at hc
      lia
    · lia
  subst hk'
  refine Ex_assign (Ev_upto (k := lcp A1.reverse B1.reverse) (by lia) rfl rfl) ⟨.inl rfl, rfl⟩ ?_
  refine Ex_assign (Ev_upto (k := lcp A1.reverse B1.reverse) (by lia) rfl rfl) ⟨.inl rfl, rfl⟩ ?_
  have lA2 : (A1.take (A1.length - lcp A1.reverse B1.reverse)).length ≤ 6 := by rw [List.length_take]; lia
  have lB2 : (B1.take (B1.length - lcp A1.reverse B1.reverse)).length ≤ 6 := by rw [List.length_take]; lia
  have inA2 : ∀ c, c ∈ A1.take (A1.length - lcp A1.reverse B1.reverse) → c ∈ A := fun c h => inA c (List.mem_of_mem_take h)
  have inB2 : ∀ c, c ∈ B1.take (B1.length - lcp A1.reverse B1.reverse) → c ∈ B := fun c h => inB c (List.mem_of_mem_take h)
  generalize hA2 : A1.take (A1.length - lcp A1.reverse B1.reverse) = A2 at *
  generalize hB2 : B1.take (B1.length - lcp A1.reverse B1.reverse) = B2 at *
  refine Ex_if (EvT_or2 (EvT_not (EvT_val (Ev_name rfl) (tru_mk (by lia)))) (fun _ => EvT_not (EvT_val (Ev_name rfl) (tru_mk (by lia))))) (fun hc => ?_) (fun hc => ?_)
  · refine Ex_ret (Ev_bin (Ev_glob (v := .int 2 _) (by exact H.glob (by rfl)) (fun _ => .int _ _)) (Ev_bin (Ev_len (by exact H) (Ev_name rfl) (by lia)) (Ev_len (by exact H) (Ev_name rfl) (by lia)) bin_add) (bin_mul (.of_left (intBits_le_64 (by decide) (by decide))))) (fun s' v I r => fin I r ?_)
    rw [hlev, if_pos]
    simp only [Bool.or_eq_true, Bool.not_eq_true', decide_eq_false_iff_not] at hc
    lia
  have hne : 0 < A2.length ∧ 0 < B2.length := by
    simp only [Bool.or_eq_false_iff, Bool.not_eq_false', decide_eq_true_eq] at hc
    exact hc
  rw [if_neg (by lia)] at hlev
  refine Ex_if (EvT_or2 (EvT_cmp (Ev_len (by exact H) (Ev_name rfl) (by lia)) (Ev_glob (v := .int 40 _) (by exact H.glob (by rfl)) (fun _ => .int _ _)) cmp_gt_int) (fun _ => EvT_cmp (Ev_len (by exact H) (Ev_name rfl) (by lia)) (Ev_glob (v := .int 40 _) (by exact H.glob (by rfl)) (fun _ => .int _ _)) cmp_gt_int)) (fun hc => ?_) (fun _ => ?_)
  · simp only [Bool.or_eq_true, decide_eq_true_eq] at hc
    lia
  refine Ex_if (EvT_cmp (Ev_len (by exact H) (Ev_name rfl) (by lia)) (Ev_len (by exact H) (Ev_name rfl) (by lia)) cmp_lt_int) (fun hc => ?_) (fun hc => ?_)
  · rw [decide_eq_true_eq] at hc
    rw [if_pos (by lia)] at hlev
    rw [hlev]
    refine Ex_tup_sw (xs := ["a", "b"]) (Ev_tuple (Evs_cons (Ev_name rfl) (Evs_cons (Ev_name rfl) Evs_nil)) (show 2 ≤ sizeLine by decide)) rfl (fun x hx => ?_) ?_
    · simp only [List.mem_cons, List.not_mem_nil, or_false] at hx
      rcases hx with rfl | rfl <;> exact ⟨.inl rfl, rfl⟩
    · exact Ex_sub (lev_tail (P := B2) (Q := A2) H hr lB2 lA2 (fun c h => hlow c (h.elim (fun h => .inr (inB2 c h)) fun h => .inl (inA2 c h))) hm (by lia) hne.2) (SubR.cons rfl (.cons rfl (.cons rfl .nil))).sub
  · rw [decide_eq_false_iff_not] at hc
    rw [if_neg (by lia)] at hlev
    rw [hlev]
    exact Ex_sub (lev_tail (P := A2) (Q := B2) H hr lA2 lB2 (fun c h => hlow c (h.elim (fun h => .inl (inA2 c h)) fun h => .inr (inB2 c h))) hm (by lia) hne.1) (SubR.cons rfl (.cons rfl (.cons rfl .nil))).sub
end
end Mine
end

section
open PySem PySem.W PyProof.Rows PySem.Spec PySem.Calls PySem.Builtin PySem.Builtin.Str
set_option maxRecDepth 100000
namespace Mine
section
variable {w : World}
theorem pk129 {v : Value} (S : _) : peek (Kp w) S (bindArgs (fdOf w 129) ⟨[v], []⟩) = some ([("x", v)] : List (Str × Value)) := by kernel_rfl
theorem bt129 {v : Value} {s : Shared} (X : (Kp w).In s.heap) : BindsTo s (fdOf w 129) ⟨[v], []⟩ ([("x", v)] : List (Str × Value)) := by with_reducible exact kp_binds X pk129
theorem pk136 {v : Value} (S : _) : peek (Kp w) S (bindArgs (fdOf w 136) ⟨[v], []⟩) = some ([("x", v)] : List (Str × Value)) := by kernel_rfl
theorem bt136 {v : Value} {s : Shared} (X : (Kp w).In s.heap) : BindsTo s (fdOf w 136) ⟨[v], []⟩ ([("x", v)] : List (Str × Value)) := by with_reducible exact kp_binds X pk136
theorem pk167 {v u : Value} (S : _) : peek (Kp w) S (bindArgs (fdOf w 167) ⟨[v, u], []⟩) = some ([("place", v), ("stretch", u)] : List (Str × Value)) := by kernel_rfl
theorem bt167 {v u : Value} {s : Shared} (X : (Kp w).In s.heap) : BindsTo s (fdOf w 167) ⟨[v, u], []⟩ ([("place", v), ("stretch", u)] : List (Str × Value)) := by with_reducible exact kp_binds X pk167
theorem pk172 {v u : Value} (S : _) : peek (Kp w) S (bindArgs (fdOf w 172) ⟨[v, u], []⟩) = some ([("place", v), ("row", u)] : List (Str × Value)) := by kernel_rfl
theorem bt172 {v u : Value} {s : Shared} (X : (Kp w).In s.heap) : BindsTo s (fdOf w 172) ⟨[v, u], []⟩ ([("place", v), ("row", u)] : List (Str × Value)) := by with_reducible exact kp_binds X pk172
end
section
variable {C : Cx} {ρ : Rho} {μ : Mu}
def compB (scope : Scope) (env : Env) : Bool := decide (scope.kind = .function) && decide (scope.names.map (·.1)).Nodup && scope.names.all fun x => x.2 != .free || ((env.cells.lookup x.1).isSome && (env.kindOf x.1 == some .cell || env.kindOf x.1 == some .free))
theorem comp_of {scope : Scope} {env : Env} (h : compB scope env = true) : CompOk scope env := by
  unfold compB at h
  rw [Bool.and_eq_true, Bool.and_eq_true, decide_eq_true_eq, decide_eq_true_eq] at h
  refine ⟨h.1.1, h.1.2, fun x hx e => ?_⟩
  have := List.all_eq_true.mp h.2 x hx
  rw [e] at this
  simpa using this
theorem tru_bool {p : Program} {w : World} {A : Around} {hb : Heap} {b : Bool} : TruD p w A hb (.bool b) b := fun X s v rm r => by
  cases r
  exact wpAny_truthy_bool ⟨.refl s, rfl⟩

theorem fn_nonterm (H : Hp C.p C.w C.hb) (hr : Room C.A 1) {x : Int} : FnD C 129 [.int x] (.bool (decide (256 ≤ x))) := by
  refine FnD_of H fn129 hr (xs := ["x"]) (fun s' vs hl X => ?_) rfl (by decide) (by rfl) (fun L s => ?_)
  · obtain ⟨v, rfl⟩ := len1 hl
    refine ⟨[("x", v)], ?_, rfl⟩
    with_reducible exact bt129 X
  exact Ex_ret (Ev_cmp (Ev_name rfl) (Ev_glob (v := .int 256 _) (by exact H.glob (by rfl)) (fun _ => .int _ _)) cmp_ge_int) (fun s' v I r => retP_of I (fun a h => .inl h) r (fun b o h => by cases h))
theorem fn_eof (H : Hp C.p C.w C.hb) (hr : Room C.A 1) {x : Int} : FnD C 136 [.int x] (.bool (x == 0)) := by
  refine FnD_of H fn136 hr (xs := ["x"]) (fun s' vs hl X => ?_) rfl (by decide) (by rfl) (fun L s => ?_)
  · obtain ⟨v, rfl⟩ := len1 hl
    refine ⟨[("x", v)], ?_, rfl⟩
    with_reducible exact bt136 X
  exact Ex_ret (Ev_cmp (Ev_name rfl) (Ev_glob (v := .int 0 _) (by exact H.glob (by rfl)) (fun _ => .int _ _)) cmp_eq_int) (fun s' v I r => retP_of I (fun a h => .inl h) r (fun b o h => by cases h))

/-- the weight of two signs, by their places -/
def cost4 (p o : Int) : Int := if p == o then 0 else if p.fdiv 2 == o.fdiv 2 then 1 else 2
def single (p : Int) (S : List Int) : Int := if S = [] then 2 else 2 * S.length - 2 + minL (S.map (cost4 p))

theorem fn_single (H : Hp C.p C.w C.hb) (hr : Room C.A 1) {p : Int} {S : List Int} (hz : S.length ≤ 100) : FnD C 167 [.int p, .lst (S.map .int)] (.int (single p S)) := by
  have hsz : sizeLine = 16777216 := sizeLine_eq
  refine FnD_of H fn167 hr (xs := ["place", "stretch"]) (fun s' vs hl X => ?_) rfl (by decide) (by rfl) (fun L s => ?_)
  · obtain ⟨v, u, rfl⟩ := len2 hl
    refine ⟨[("place", v), ("stretch", u)], ?_, rfl⟩
    with_reducible exact bt167 X
  refine Ex_if (EvT_not (EvT_val (Ev_name rfl) (tru_list (by simp; lia)))) (fun hc => ?_) (fun hc => ?_)
  · have e : S = [] := by simpa using hc
    exact Ex_ret Ev_int (fun s' v I r => by unfold single; rw [if_pos e]; exact retP_of I (fun a h => .inl h) r (fun b o h => by cases h))
  · have e : S ≠ [] := by simpa using hc
    have hl : (S.map D.int).length = S.length := by simp
    refine Ex_ret (μ₁ := []) (d := .int (single p S)) ?_ (fun s' v I r => retP_of I (fun a h => .inl h) r (fun b o h => by cases h))
    have e2 : single p S = 2 * ((S.map D.int).length : Int) - 2 + minL (S.map (cost4 p)) := by unfold single; rw [if_neg e, hl]
    rw [e2]
    refine Ev_bin (Ev_bin (Ev_bin Ev_int (Ev_call_bi (by exact H.built (by rfl) (by rfl)) (Evs_cons (Ev_name rfl) Evs_nil) (call_len_d (by rw [hl]; lia))) (bin_mul (.of_left (intBits_le_64 (by decide) (by decide))))) Ev_int bin_sub) (Ev_call_bi (by exact H.built (by rfl) (by rfl)) (Evs_cons ?_ Evs_nil) (call_minl_d (by simpa using e))) bin_add
    have e3 : (S.map (cost4 p)).map D.int = S.map fun o => D.int (cost4 p o) := by simp
    rw [e3]
    refine Ev_comp S .int (fun o => .int (cost4 p o)) (fun o => [("other", .int o)]) (EvI_of (Ev_name rfl) ItrD_list) ?_ (fun _ _ => .name) (fun L s0 X x _ b hb => ?_) (fun L s0 X x _ => ?_) (by lia)
    · exact comp_of (by rfl)
    · rw [List.mem_singleton.mp hb]
      exact ⟨⟨.inl rfl, rfl⟩, rfl⟩
    · have e4 : D.int (cost4 p x) = if (p == x) then .int 0 else if (p.fdiv 2 == x.fdiv 2) then .int 1 else .int 2 := by
        unfold cost4
        split
        · rfl
        · split <;> rfl
      rw [e4]
      exact Ev_if (EvT_cmp (Ev_name rfl) (Ev_name rfl) cmp_eq_int) (fun _ => Ev_int) (fun _ => Ev_if (EvT_cmp (Ev_bin (Ev_name rfl) Ev_int (bin_fdiv (by decide) (by decide))) (Ev_bin (Ev_name rfl) Ev_int (bin_fdiv (by decide) (by decide))) cmp_eq_int) (fun _ => Ev_int) (fun _ => Ev_int))
end
end Mine
end

section
open PySem PySem.W PyProof.Rows PySem.Spec PySem.Calls PySem.Builtin PySem.Builtin.Str
set_option maxRecDepth 100000
namespace Mine
section
variable {C : Cx} {ρ : Rho} {μ : Mu}
/-- a table: by start and by width -/
def tab (n : Nat) (T : Nat → Nat → Int) : D := .lst ((List.range (n + 1)).map fun st => .lst ((List.range (n + 1 - st)).map fun wd => D.int (T st wd)))
def signT (p : Int) (R : List Int) (st wd : Nat) : Int := single p ((R.drop st).take wd)

theorem fn_signtab (H : Hp C.p C.w C.hb) (hr : Room C.A 3) {p : Int} {R : List Int} (hz : R.length ≤ 10) : FnD C 172 [.int p, .lst (R.map .int)] (tab R.length (signT p R)) := by
  have hsz : sizeLine = 16777216 := sizeLine_eq
  refine FnD_of H fn172 hr (xs := ["place", "row"]) (fun s' vs hl X => ?_) rfl (by decide) (by rfl) (fun L s => ?_)
  · obtain ⟨v, u, rfl⟩ := len2 hl
    refine ⟨[("place", v), ("row", u)], ?_, rfl⟩
    with_reducible exact bt172 X
  have hl : (R.map D.int).length = R.length := by simp
  refine Ex_assign (Ev_bin (Ev_call_bi (by exact H.built (by rfl) (by rfl)) (Evs_cons (Ev_name rfl) Evs_nil) (call_len_d (by rw [hl]; lia))) Ev_int bin_add) ⟨.inr ⟨by rfl, _, by rfl, .inr ⟨"size", mem_of_lookup (by rfl)⟩⟩, rfl⟩ ?_
  rw [hl]
  refine Ex_ret (μ₁ := []) (d := tab R.length (signT p R)) ?_ (fun s' v I r => retP_of I (fun a h => .inl h) r (fun b o h => by cases h))
  refine Ev_comp (List.range (R.length + 1)) (fun i => D.int (0 + (i : Int))) _ (fun i => [("start", .int (0 + (i : Int)))]) (EvI_range (n := R.length + 1) (by exact H) (Ev_name rfl) (by lia)) (comp_of (by rfl)) (fun _ _ => .name) (fun L s0 X x _ b hb => ?_) (fun L s0 X st hst => ?_) (by simp; lia)
  · rw [List.mem_singleton.mp hb]
    exact ⟨⟨.inr ⟨by rfl, _, by rfl, .inr ⟨"start", mem_of_lookup (by rfl)⟩⟩, rfl⟩, rfl⟩
  · have hst' : st < R.length + 1 := List.mem_range.mp hst
    have en : ((R.length : Int) + 1) - (0 + (st : Int)) = ((R.length + 1 - st : Nat) : Int) := by lia
    refine Ev_comp (List.range (R.length + 1 - st)) (fun i => D.int (0 + (i : Int))) _ (fun i => [("wide", .int (0 + (i : Int)))]) (EvI_range (n := R.length + 1 - st) (by exact H) (by rw [← en]; exact Ev_bin (Ev_name rfl) (Ev_name rfl) bin_sub) (by lia)) (comp_of (by rfl)) (fun _ _ => .name) (fun L s0 X x _ b hb => ?_) (fun L2 s02 X2 wd hwd => ?_) (by simp; lia)
    · rw [List.mem_singleton.mp hb]
      exact ⟨⟨.inl rfl, rfl⟩, rfl⟩
    · have hwd' : wd < R.length + 1 - st := List.mem_range.mp hwd
      have e1 : ((R.map D.int).drop st).take (st + wd - st) = (((R.drop st).take wd).map D.int) := by
        rw [List.map_take, List.map_drop]
        congr 1
        lia
      have z1 : (0 + (st : Int)) = ((st : Nat) : Int) := by lia
      have z2 : (0 + (st : Int)) + (0 + (wd : Int)) = ((st + wd : Nat) : Int) := by lia
      have sl : ∀ A' : Around, SliD C.p C.w A' C.hb (.lst (R.map D.int)) (some (0 + (st : Int))) (some (0 + (st : Int) + (0 + (wd : Int)))) none (.lst (((R.drop st).take wd).map D.int)) := by
        intro A'
        rw [z2, z1, ← e1]
        exact sli_run (by rw [hl]; lia) (by lia) (by rw [hl]; lia)
      refine Ev_fn (by exact H) fn167 (by rfl) (Evs_cons (Ev_name rfl) (Evs_cons (d := .lst (((R.drop st).take wd).map D.int)) (Ev_slice (Ev_name rfl) (.int (Ev_name rfl)) (.int (Ev_bin (Ev_name rfl) (Ev_name rfl) bin_add)) .none (sl _)) Evs_nil)) (fn_single (by exact H) ?_ (by rw [List.length_take, List.length_drop]; lia))
      exact ⟨by have := hr.1; show C.A.depth + 1 + 1 < 900; lia, by have := hr.2; show C.A.units + 3 + 10 < 9000; lia⟩
end
end Mine
end

section
open PySem PySem.W PyProof.Rows PySem.Spec PySem.Calls PySem.Builtin PySem.Builtin.Str
set_option maxRecDepth 100000
namespace Mine
section
variable {w : World}
theorem pk177 {v u z : Value} (S : _) : peek (Kp w) S (bindArgs (fdOf w 177) ⟨[v, u, z], []⟩) = some ([("parts", v), ("tables", u), ("size", z)] : List (Str × Value)) := by kernel_rfl
theorem bt177 {v u z : Value} {s : Shared} (X : (Kp w).In s.heap) : BindsTo s (fdOf w 177) ⟨[v, u, z], []⟩ ([("parts", v), ("tables", u), ("size", z)] : List (Str × Value)) := by with_reducible exact kp_binds X pk177
theorem pk143 {v : Value} (S : _) : peek (Kp w) S (bindArgs (fdOf w 143) ⟨[v], []⟩) = some ([("place", v)] : List (Str × Value)) := by kernel_rfl
theorem bt143 {v : Value} {s : Shared} (X : (Kp w).In s.heap) : BindsTo s (fdOf w 143) ⟨[v], []⟩ ([("place", v)] : List (Str × Value)) := by with_reducible exact kp_binds X pk143
end
section
variable {C : Cx} {ρ : Rho} {μ : Mu} {N : Shared → Prop} {R : Value → Shared → Prop} {rest : List Stmt} {x : Str}

/-- a def that reads owned objects and changes nothing that stood -/
def FnR (C : Cx) (f : Addr) (as : List Arg) (ows : List (Addr × Own)) (d : D) : Prop := ∀ s ρ μ vs, FI C s ρ μ → ArgsAre C s.heap vs as → (∀ a o, (a, o) ∈ ows → C.ox a ∧ OwnRep C.p C.w s.heap C.ex a o) →
  wpAny C.M C.A (call (.ref f) vs) (fun v s' => Grow Nil s s' ∧ Rep C.p C.w (vw s'.heap C.ex) v d) NoE s

theorem FnR_of (H : Hp C.p C.w C.hb) {f : Addr} (F : Fn C.w f) {k : Nat} (hr : Room C.A k) {xs : List Str} {as : List Arg} {ows : List (Addr × Own)} {d : D} {μ₀ : Mu}
    (hb : ∀ (s' : Shared) (vs : List Value), vs.length = as.length → (Kp C.w).In s'.heap → ∃ b, BindsTo s' (fdOf C.w f) ⟨vs, []⟩ b ∧ b = xs.zip vs) (hl : xs.length = as.length) (hn : xs.Nodup) (hst : xs.all (stoB (fdOf C.w f).scope.names) = true)
    (hown : ∀ a, Arg.ow a ∈ as → ∃ o, (a, o) ∈ ows) (hμ : ∀ x o, μ₀.lookup x = some o → ∃ a, (argOwn xs as).lookup x = some a ∧ (a, o) ∈ ows ∧ ∀ cls dx ds, o ≠ .acc cls dx ds)
    (hk : ∀ L s, Ex (fnCx C.p C.w C.A (fdOf C.w f) f L s Nil C.ex (argOwn xs as) C.ox C.hb) (argRho xs as) μ₀ (bodyOf C.w f) (fun s' => RetP s Nil C.ex C.p C.w d [] .none s') (fun v s' => RetP s Nil C.ex C.p C.w d [] v s')) : FnR C f as ows d := by
  intro s ρ μ vs I hargs ho
  have hlen : vs.length = as.length := by
    clear hb hl hown hμ hk
    induction vs generalizing as with
    | nil => cases as with | nil => rfl | cons _ _ => exact hargs.elim
    | cons v vs ih => cases as with | nil => exact hargs.elim | cons a as => simp [ih hargs.2]
  refine wpAny_mono (call_fnB (Q := fun v s' => RetP s Nil C.ex C.p C.w d [] v s') (binds := xs.zip vs) (xs := xs) (vs := vs) (as := as) (mt := Nil) (μ₀ := μ₀) I (F.at H) F.dat (F.ok H) H.lim hr.lim
    (fun s' k => by obtain ⟨b, h1, h2⟩ := hb s' vs hlen (H.X.keeps k); exact h2 ▸ h1) rfl hargs (by rw [hl, hlen]) hn (sto_of hst) (fun i b e => ?_) (fun _ q => q.elim) (fun y o e => ?_) (fun L => hk L s)) (fun v s' r => ⟨r.grow, r.rep⟩) fun _ _ q => q
  · obtain ⟨o, h⟩ := hown b (List.mem_of_getElem? e)
    exact (ho b o h).1
  · obtain ⟨a, h1, h2, h3⟩ := hμ y o e
    exact ⟨a, h1, (ho a o h2).2, fun cls dx ds q => absurd q (h3 cls dx ds)⟩

theorem Ev_fnR (H : Hp C.p C.w C.hb) {f : Addr} {np pos : Pos} {e : Expr} {es : List Expr} {as : List Arg} {ows : List (Addr × Own)} {d : D} (F : Fn C.w f) (g : nsIn (Kp C.w) mainGlobals x = some (some (.ref f))) (hargs : EvAs C ρ μ (e :: es) as μ) (m : FnR C f as ows d)
    (ho : ∀ a o, (a, o) ∈ ows → ∃ y, C.own.lookup y = some a ∧ μ.lookup y = some o)
    (hx : C.env.kindOf x = some .globalImplicit := by rfl) (he : ∀ env, starEach (e :: es) env = (false, eval e env) :: starEach es env := by intros; rfl)
    (hdb : (x == ("__debug__" : Str)) = false := by decide) : Ev C ρ μ (.Call (.Name x np) (e :: es) [] pos) d μ := .mk fun s I =>
  wpAny_Call_NameR (name_glob I (H.glob g) hx (callWith_def (o := objOf C.w f) F.dat (wpAny_mono (hargs.run pos s I) (fun vs s₁ h₁ => by
    have I₁ := I.step h₁.1
    refine ⟨I₁.hbk _ _ (F.at H), wpAny_mono (m s₁ ρ μ vs I₁ h₁.2 (fun a o h => ?_)) (fun v s₂ h₂ => ⟨h₁.1.more h₂.1, h₂.2⟩) fun _ _ x => x⟩
    obtain ⟨y, q1, q2⟩ := ho a o h
    obtain ⟨b, q3, q4, _⟩ := I₁.owns y o q2
    rw [q1] at q3; cases q3
    exact ⟨I₁.ok.ownox y a (mem_of_lookup q1), q4⟩) fun _ _ x => x) (he _)) hdb)
end
end Mine
end

section
open PySem PySem.W PyProof.Rows PySem.Spec PySem.Calls PySem.Builtin PySem.Builtin.Str
set_option maxRecDepth 100000
namespace Mine
section
variable {C : Cx} {ρ : Rho} {μ : Mu} {N : Shared → Prop} {R : Value → Shared → Prop} {rest : List Stmt} {x : Str}
abbrev Tb := Nat → Nat → Int
/-- one part more: the least over the cuts -/
def stepT (t r : Tb) : Tb := fun st wd => minL ((List.range (wd + 1)).map fun cut => t st cut + r (st + cut) (wd - cut))
def zeroT : Tb := fun _ wd => 2 * wd
def ruleT (ts : List (Str × Tb)) : List Str → Tb → Tb
  | [], t => t
  | q :: qs, t => ruleT ts qs (stepT t ((ts.lookup q).getD zeroT))
def tabsD (n : Nat) (ts : List (Str × Tb)) : List (Str × D) := ts.map fun e => (e.1, tab n e.2)
theorem tabsD_lookup {n : Nat} {q : Str} {t : Tb} : ∀ {ts : List (Str × Tb)}, ts.lookup q = some t → (tabsD n ts).lookup q = some (tab n t)
  | [], h => by cases h
  | (k, v) :: ts, h => by
    rw [List.lookup_cons] at h
    show ((k, tab n v) :: tabsD n ts).lookup q = _
    rw [List.lookup_cons]
    by_cases e : (q == k) = true
    · rw [e] at h ⊢; cases h; rfl
    · have e' : (q == k) = false := by simpa using e
      rw [e'] at h ⊢
      exact tabsD_lookup h

theorem Ev_tab2 {e i j : Expr} {p1 p2 : Pos} {n : Nat} {t : Tb} {st wd : Nat} {a b : Int} (he : Ev C ρ μ e (tab n t) μ) (hi : Ev C ρ μ i (.int a) μ) (hj : Ev C ρ μ j (.int b) μ) (ha : a = st) (hb : b = wd) (h1 : st ≤ n) (h2 : wd ≤ n - st) (hn : n ≤ 10)
    (hs1 : ∀ o u, subscripted i false o u = operate [o, u] (getItem o u) := by intros; rfl) (hs2 : ∀ o u, subscripted j false o u = operate [o, u] (getItem o u) := by intros; rfl) : Ev C ρ μ (.Subscript (.Subscript e i p1) j p2) (.int (t st wd)) μ := by
  subst ha hb
  refine Ev_subscr (Ev_subscr he hi (sub_list (d := .lst ((List.range (n + 1 - st)).map fun wd => D.int (t st wd))) (by lia) (by lia) ?_) hs1) hj (sub_list (by lia) (by lia) ?_) hs2
  · have : st < n + 1 := by lia
    simp [this]
  · have : wd < n + 1 - st := by lia
    simp [this]

set_option maxHeartbeats 2000000 in
theorem fn_ruletab (H : Hp C.p C.w C.hb) (hr : Room C.A 3) {n : Nat} {qs : List Str} {ts : List (Str × Tb)} {a : Addr} (hn : n ≤ 10) (hq : ∀ q ∈ qs, (ts.lookup q).isSome = true) :
    FnR C 177 [.im (.lst (qs.map .str)), .ow a, .im (.int ((n : Int) + 1))] [(a, .dct (tabsD n ts))] (tab n (ruleT ts qs zeroT)) := by
  have hsz : sizeLine = 16777216 := sizeLine_eq
  refine FnR_of H fn177 hr (xs := ["parts", "tables", "size"]) (μ₀ := [("tables", .dct (tabsD n ts))]) (fun s' vs hl X => ?_) rfl (by decide) (by rfl) (fun b h => ?_) (fun y o e => ?_) (fun L s => ?_)
  · obtain ⟨v, u, z, rfl⟩ := len3 hl
    refine ⟨[("parts", v), ("tables", u), ("size", z)], ?_, rfl⟩
    with_reducible exact bt177 X
  · simp at h; subst h; exact ⟨_, List.mem_singleton.mpr rfl⟩
  · obtain ⟨rfl, rfl⟩ := look1 e
    exact ⟨a, rfl, List.mem_singleton.mpr rfl, fun _ _ _ q => by cases q⟩
  refine Ex_assign (μ₁ := [("tables", .dct (tabsD n ts))]) (d := tab n zeroT) ?_ ⟨.inr ⟨by rfl, _, by rfl, .inr ⟨"table", mem_of_lookup (by rfl)⟩⟩, rfl⟩ ?_
  · refine Ev_comp (List.range (n + 1)) (fun i => D.int (0 + (i : Int))) _ (fun i => [("start", .int (0 + (i : Int)))]) (EvI_range (n := n + 1) (by exact H) (Ev_name rfl) (by lia)) (comp_of (by rfl)) (fun _ _ => .name) (fun L s0 X x _ b hb => ?_) (fun L s0 X st hst => ?_) (by simp; lia)
    · rw [List.mem_singleton.mp hb]
      exact ⟨⟨.inl rfl, rfl⟩, rfl⟩
    · have hst' : st < n + 1 := List.mem_range.mp hst
      have en : ((n : Int) + 1) - (0 + (st : Int)) = ((n + 1 - st : Nat) : Int) := by lia
      refine Ev_comp (List.range (n + 1 - st)) (fun i => D.int (0 + (i : Int))) _ (fun i => [("wide", .int (0 + (i : Int)))]) (EvI_range (n := n + 1 - st) (by exact H) (by rw [← en]; exact Ev_bin (Ev_name rfl) (Ev_name rfl) bin_sub) (by lia)) (comp_of (by rfl)) (fun _ _ => .name) (fun L s0 X x _ b hb => ?_) (fun L2 s02 X2 wd hwd => ?_) (by simp; lia)
      · rw [List.mem_singleton.mp hb]
        exact ⟨⟨.inl rfl, rfl⟩, rfl⟩
      · have e2 : zeroT st wd = 2 * (0 + (wd : Int)) := by unfold zeroT; lia
        rw [e2]
        exact Ev_bin Ev_int (Ev_name rfl) (bin_mul (.of_left (intBits_le_64 (by decide) (by decide))))
  refine Ex_for (σ := Tb) qs .str (fun q => [("part", .str q)]) (fun i t => ruleT ts (qs.drop i) t = ruleT ts qs zeroT) (fun t => [("table", tab n t), ("size", .int ((n : Int) + 1))]) (fun _ => [("tables", .dct (tabsD n ts))])
    (EvI_of (Ev_name rfl) ItrD_list) (fun _ _ => .name) (fun i _ b hb => by rw [List.mem_singleton.mp hb]; exact ⟨.inl rfl, rfl⟩)
    ⟨zeroT, by rw [List.drop_zero], (SubR.cons rfl (.cons rfl .nil)).sub, rfl⟩ (fun X hX i q t hx hp => ?_) (fun t hp => ?_)
  · obtain ⟨hi, hqi⟩ := List.getElem?_eq_some_iff.mp hx
    have hqm : q ∈ qs := hqi ▸ List.getElem_mem hi
    obtain ⟨r, hr2⟩ := Option.isSome_iff_exists.mp (hq q hqm)
    rw [List.drop_eq_getElem_cons hi, hqi] at hp
    simp only [ruleT, hr2, Option.getD_some] at hp
    refine Ex_assign (Ev_subscr_o (EvO_own rfl (hox := rfl)) (Ev_name rfl) (subO_dct (tabsD_lookup hr2))) ⟨.inr ⟨by rfl, _, by rfl, .inr ⟨"right", mem_of_lookup (by rfl)⟩⟩, rfl⟩ ?_
    refine Ex_assign (μ₁ := [("tables", .dct (tabsD n ts))]) (d := tab n (stepT t r)) ?_ ⟨.inr ⟨by rfl, _, by rfl, .inr ⟨"table", mem_of_lookup (by rfl)⟩⟩, rfl⟩ (Ex_nil fun s' I => ⟨stepT t r, hp, I.sub (SubR.cons rfl (.cons rfl .nil)).sub⟩)
    refine Ev_comp (List.range (n + 1)) (fun i => D.int (0 + (i : Int))) _ (fun i => [("start", .int (0 + (i : Int)))]) (EvI_range (n := n + 1) (by exact H) (Ev_name rfl) (by lia)) (comp_of (by rfl)) (fun _ _ => .name) (fun L s0 X x _ b hb => ?_) (fun L s0 X st hst => ?_) (by simp; lia)
    · rw [List.mem_singleton.mp hb]
      exact ⟨⟨.inr ⟨by rfl, _, by rfl, .inr ⟨"start", mem_of_lookup (by rfl)⟩⟩, rfl⟩, rfl⟩
    · have hst' : st < n + 1 := List.mem_range.mp hst
      have en : ((n : Int) + 1) - (0 + (st : Int)) = ((n + 1 - st : Nat) : Int) := by lia
      refine Ev_comp (List.range (n + 1 - st)) (fun i => D.int (0 + (i : Int))) _ (fun i => [("wide", .int (0 + (i : Int)))]) (EvI_range (n := n + 1 - st) (by exact H) (by rw [← en]; exact Ev_bin (Ev_name rfl) (Ev_name rfl) bin_sub) (by lia)) (comp_of (by rfl)) (fun _ _ => .name) (fun L s0 X x _ b hb => ?_) (fun L2 s02 X2 wd hwd => ?_) (by simp; lia)
      · rw [List.mem_singleton.mp hb]
        exact ⟨⟨.inr ⟨by rfl, _, by rfl, .inr ⟨"wide", mem_of_lookup (by rfl)⟩⟩, rfl⟩, rfl⟩
      · have hwd' : wd < n + 1 - st := List.mem_range.mp hwd
        have ew : (0 + (wd : Int)) + 1 = ((wd + 1 : Nat) : Int) := by lia
        have e3 : ((List.range (wd + 1)).map fun cut => t st cut + r (st + cut) (wd - cut)).map D.int = (List.range (wd + 1)).map fun cut => D.int (t st cut + r (st + cut) (wd - cut)) := by simp
        refine Ev_call_bi (by exact H.built (by rfl) (by rfl)) (Evs_cons ?_ Evs_nil) (call_minl_d (by simp))
        rw [e3]
        refine Ev_comp (List.range (wd + 1)) (fun i => D.int (0 + (i : Int))) _ (fun i => [("cut", .int (0 + (i : Int)))]) (EvI_range (n := wd + 1) (by exact H) (by rw [← ew]; exact Ev_bin (Ev_name rfl) Ev_int bin_add) (by lia)) (comp_of (by rfl)) (fun _ _ => .name) (fun L s0 X x _ b hb => ?_) (fun L3 s03 X3 cut hcut => ?_) (by simp; lia)
        · rw [List.mem_singleton.mp hb]
          exact ⟨⟨.inl rfl, rfl⟩, rfl⟩
        · have hcut' : cut < wd + 1 := List.mem_range.mp hcut
          exact Ev_bin (Ev_tab2 (n := n) (Ev_name rfl) (Ev_name rfl) (Ev_name rfl) (by lia) (by lia) (by lia) (by lia) hn) (Ev_tab2 (n := n) (Ev_name rfl) (Ev_bin (Ev_name rfl) (Ev_name rfl) bin_add) (Ev_bin (Ev_name rfl) (Ev_name rfl) bin_sub) (by lia) (by lia) (by lia) (by lia) hn) bin_add
  · simp only [List.drop_length, ruleT] at hp
    refine Ex_ret (Ev_name rfl) (fun s' v I r => ?_)
    rw [← hp]
    exact retP_of I (fun a h => .inl h) r (fun b o h => by cases h)
end
end Mine
end

section
open PySem PySem.W PyProof.Rows PySem.Spec PySem.Calls PySem.Builtin PySem.Builtin.Str
set_option maxRecDepth 100000
namespace Mine
section
variable {C : Cx} {ρ : Rho} {μ : Mu} {N : Shared → Prop} {R : Value → Shared → Prop} {rest : List Stmt}
theorem Ex_is {b b' : List Stmt} (h : b = b') (k : Ex C ρ μ b' N R) : Ex C ρ μ b N R := h ▸ k

/-- the objects of the frame are data from now on -/
def frz (C : Cx) : Cx := { C with own := [], oa := Nil, ox := fun a => C.ox a ∧ ¬ C.oa a }
def Own.plain : Own → Option D
  | .lst ds => some (.lst ds)
  | .pls ds => some (.lst ds)
  | .dct es => some (.dct es)
  | .acc _ _ _ => none
theorem frz_ex {C : Cx} {a : Addr} (h : (frz C).ex a) : C.ex a := h.elim .inl fun h => h.elim (fun h => .inr (.inl h)) fun h => h.elim
theorem frz_ok {C : Cx} (h : C.Ok) : (frz C).Ok where
  kind := h.kind
  hh := h.hh
  gl := h.gl
  bl := h.bl
  floc := h.floc
  fo := fun _ _ q => q
  fge := h.fge
  oge := fun _ q => q.elim
  cno := fun _ _ _ q => q
  cnx := fun n a q r => h.cnx n a q r.1
  apart := h.apart
  loc := h.loc
  ownox := fun _ _ q => by cases q
  oxe := fun a q => .inl ((h.oxe a q.1).elim id fun r => absurd r q.2)
  oxf := fun a q => h.oxf a q.1
  hb0 := h.hb0
  mhb := h.mhb
  ohb := fun a q => h.ohb a q.1

theorem OwnRep.plain {p : Program} {w : World} {h : Heap} {X Y : Addr → Prop} {a : Addr} {o : Own} {d : D} (r : OwnRep p w h X a o) (e : o.plain = some d) (hY : ∀ b, Y b → X b) (ha : ¬ Y a) : Rep p w (vw h Y) (.ref a) d := by
  cases r with
  | lst hl rs =>
    cases e
    obtain ⟨o, h1, h2, n, h3⟩ := hl
    exact .lst ⟨h1, ha⟩ h2 h3 (rs.mono fun b o q => ⟨q.1, fun z => q.2 (hY b z)⟩)
  | pls hl rs =>
    cases e
    obtain ⟨o, h1, h2, n, h3⟩ := hl.isList
    exact .lst ⟨h1, ha⟩ h2 h3 (rs.mono fun b o q => ⟨q.1, fun z => q.2 (hY b z)⟩)
  | dct h1 h2 h3 h4 rs =>
    cases e
    exact .dct ⟨h1, ha⟩ h2 h4 (rs.mono fun b o q => ⟨q.1, fun z => q.2 (hY b z)⟩)
  | acc _ _ _ _ => cases e

theorem Ex_freeze {ρf : Rho} (hf : ∀ x d, ρf.lookup x = some d → ∃ a o, C.own.lookup x = some a ∧ μ.lookup x = some o ∧ o.plain = some d ∧ C.oa a ∧ ¬ C.X a) (k : Ex (frz C) (ρf ++ ρ) [] rest N R) : Ex C ρ μ rest N R := .mk fun s I =>
  wpAny_mono (k.run s (by
    refine ⟨frz_ok I.ok, I.base, I.ns, I.cel, fun a h => I.lt a (frz_ex h), fun x d h => ?_, fun x a h => (by cases h), fun x o h => (by cases h)⟩
    rw [List.lookup_append] at h
    cases e : ρf.lookup x with
    | none =>
      rw [e] at h
      obtain ⟨v, h1, h2⟩ := I.vars x d (by simpa using h)
      exact ⟨v, h1, h2.less fun a q => frz_ex q⟩
    | some d' =>
      rw [e] at h
      have e' : d' = d := by simpa using h
      subst e'
      obtain ⟨a, o, q1, q2, q3, q4, q5⟩ := hf x d' e
      obtain ⟨b, r1, r2, _⟩ := I.owns x o q2
      rw [q1] at r1; cases r1
      exact ⟨.ref a, I.ownv x a q1, r2.plain q3 (fun b q => frz_ex q) fun z => z.elim q5 fun z => z.elim (fun z => I.ok.fo a z q4) id⟩))
    (fun f s' h => ⟨⟨h.1.same, h.1.size, fun a o na e => h.1.keep a o (fun q => na (q.elim .inl fun q => q.elim)) e⟩, h.2⟩) fun _ _ q => q

theorem Ex_make' {ts es : List Expr} {k k' : Nat} {tpos vpos pos : Pos} {xs : List Str} {Sh : List RK → Prop} (h : Mks C ρ μ es Sh) (hx : namesE ts = some xs) (hl : ∀ rs, Sh rs → rs.length = xs.length) (hn : xs.Nodup) (ok : ∀ x ∈ xs, StoreOk C x)
    (kk : ∀ rs, Sh rs → (adrs rs).Nodup → (∀ a, a ∈ adrs rs → ¬ C.ex a) → Ex (mkC C xs rs) (mkFl xs rs ++ delAll xs ρ) (mkMu xs rs ++ μ) rest N R) (hz : xs.length ≤ sizeLine := by decide)
    (hs : swapsWithSole [.Tuple ts k tpos] (.Tuple es k' vpos) pos.line C.env = pure false := by rfl) (hw : swappedStores [.Tuple ts k tpos] (.Tuple es k' vpos) C.env = pure none := by rfl) :
    Ex C ρ μ (.Assign [.Tuple ts k tpos] (.Tuple es k' vpos) pos :: rest) N R := Ex_cons0 fun s I =>
  Assign_Tuple (wpAny_Tuple (wpAny_mono (h.run vpos s I) (fun vs s₁ h₁ => by
    obtain ⟨g, rs, hsh, hr, ha, hnd, hlv⟩ := h₁
    have hvl : xs.length = vs.length := by rw [hlv, hl rs hsh]
    refine ⟨by rw [← hvl]; exact hz, ?_⟩
    have g₂ : Grow Nil s₁ { s₁ with heap := s₁.heap.push { cls := .type "tuple", data := .seq vs.toArray } } := .ofPush s₁ _ _
    obtain ⟨h1, h2, h3⟩ := namesE_sts (C := C) hx
    show wpAny C.M C.A (do standAt tpos; unpack (.ref s₁.heap.objs.size) (assignEach ts C.env)) _ _ _
    refine wpAny_bind (wpAny_standAt ?_)
    unfold unpack
    rw [h2]
    refine wpAny_bind (wpAny_holding (wpAny_mono (unpack_items (vs := vs) I.ok.hh (by rw [h3, hvl]) ⟨_, Heap.get?_push_size _ rfl, rfl, 0, rfl⟩) (fun its s₃ h₃ => ?_) fun _ _ q => q))
    obtain ⟨rfl, g₃⟩ := h₃
    have gg := (g.trans g₂).trans g₃
    have g13 := g₂.trans g₃
    exact make_core (vs := its) I gg (hr.keeps fun a _ o e => g13.keep a o (fun q => q) e) (fun a h => ⟨(ha a h).1, Nat.lt_of_lt_of_le (ha a h).2 g13.size⟩) h1 hvl hn ok (fun _ => Iff.rfl) (fun i x v h1 h2 => ⟨i, h1, h2⟩) (kk rs hsh hnd fun a h q => I.notEx (ha a h).1 q)) fun _ _ q => q)) hs hw

theorem Ex_make_sw' {ts es : List Expr} {k k' : Nat} {tpos vpos pos : Pos} {xs : List Str} {Sh : List RK → Prop} (h : Mks C ρ μ es Sh) (hl : ∀ rs, Sh rs → rs.length = xs.length) (hn : xs.Nodup) (ok : ∀ x ∈ xs, StoreOk C x)
    (kk : ∀ rs, Sh rs → (adrs rs).Nodup → (∀ a, a ∈ adrs rs → ¬ C.ex a) → Ex (mkC C xs rs) (mkFl xs rs ++ delAll xs ρ) (mkMu xs rs ++ μ) rest N R) (hz : xs.length ≤ sizeLine := by decide)
    (hs : swapsWithSole [.Tuple ts k tpos] (.Tuple es k' vpos) pos.line C.env = pure false := by rfl) (hw : swappedStores [.Tuple ts k tpos] (.Tuple es k' vpos) C.env = pure (some xs) := by rfl) :
    Ex C ρ μ (.Assign [.Tuple ts k tpos] (.Tuple es k' vpos) pos :: rest) N R := Ex_cons0 fun s I =>
  Assign_Tuple_swapped (wpAny_Tuple (wpAny_mono (h.run vpos s I) (fun vs s₁ h₁ => by
    obtain ⟨g, rs, hsh, hr, ha, hnd, hlv⟩ := h₁
    have hvl : xs.length = vs.length := by rw [hlv, hl rs hsh]
    refine ⟨by rw [← hvl]; exact hz, ?_⟩
    have g₂ : Grow Nil s₁ { s₁ with heap := s₁.heap.push { cls := .type "tuple", data := .seq vs.toArray } } := .ofPush s₁ _ _
    refine wpAny_mono (unpack_items (vs := vs) I.ok.hh hvl ⟨_, Heap.get?_push_size _ rfl, rfl, 0, rfl⟩) (fun its s₃ h₃ => ?_) fun _ _ q => q
    obtain ⟨rfl, g₃⟩ := h₃
    have gg := (g.trans g₂).trans g₃
    have g13 := g₂.trans g₃
    refine make_core (xs := xs) (vs := its) I gg (hr.keeps fun a _ o e => g13.keep a o (fun q => q) e) (fun a h => ⟨(ha a h).1, Nat.lt_of_lt_of_le (ha a h).2 g13.size⟩) (bnd_sts xs.reverse) (by simpa using hvl) (List.pairwise_reverse.mpr (hn.imp fun h => Ne.symm h)) (fun x hx => ok x (List.mem_reverse.mp hx))
      (fun _ => List.mem_reverse.symm) (fun i x v h1 h2 => ?_) (kk rs hsh hnd fun a h q => I.notEx (ha a h).1 q)
    have hi : i < xs.length := (List.getElem?_eq_some_iff.mp h1).1
    refine ⟨xs.length - 1 - i, ?_, ?_⟩
    · rw [List.getElem?_reverse (by lia)]
      have : xs.length - 1 - (xs.length - 1 - i) = i := by lia
      rw [this]; exact h1
    · rw [List.getElem?_reverse (by lia)]
      have : its.length - 1 - (xs.length - 1 - i) = i := by lia
      rw [this]; exact h2) fun _ _ q => q)) hs hw
end
def signPairs : List (List Str) := [["(", "/="], [")", "%="], ["[", "&="], ["]", "|="], [":", "^="], [",", "<<="], [";", ">>="], ["+", "**="], ["-", "//"], ["*", "//="], ["/", "@"], ["|", "@="], ["&", "->"], ["<", "..."], [">", ":="], ["=", "!"]]
def signTxt : List Str := ["( /=", ") %=", "[ &=", "] |=", ": ^=", ", <<=", "; >>=", "+ **=", "- //", "* //=", "/ @", "| @=", "& ->", "< ...", "> :=", "= !"]
def pairOf (k : Nat) : List Str := signPairs.getD k []
theorem body143 (w : World) : ∃ o ap pos rp, bodyOf w 143 = [.Return (some (.Call (.Attribute o "split" ap) [] [] pos)) rp] ∧ (∀ env, attributeBase o "split" env (eval o env) = eval o env) ∧ (ap.endLine == pos.line) = true ∧
   ∃ es lp i sp, o = .Subscript (.List es lp) (.Name "place" i) sp ∧ ∃ fs : List (Str × Nat × Pos), es = fs.map (fun f => .Constant (.str f.1) f.2.1 f.2.2) ∧ fs.map (·.1) = signTxt :=
  ⟨_, _, _, _, rfl, by intros; rfl, by rfl, _, _, _, _, rfl, [(_, _, _), (_, _, _), (_, _, _), (_, _, _), (_, _, _), (_, _, _), (_, _, _), (_, _, _), (_, _, _), (_, _, _), (_, _, _), (_, _, _), (_, _, _), (_, _, _), (_, _, _), (_, _, _)], rfl, rfl⟩
theorem words16 : ∀ k : Fin 16, PySem.wordsOf (signTxt.getD k.1 "") = pairOf k.1 ∧ (spaceWords (signTxt.getD k.1 "") ((signTxt.getD k.1 "").length + 1) == [(0, (signTxt.getD k.1 "").length)]) = false ∧ (signTxt.getD k.1 "").length ≤ 100 ∧ (spaceWords (signTxt.getD k.1 "") ((signTxt.getD k.1 "").length + 1)).length ≤ 100 := by decide +kernel
section
variable {C : Cx} {ρ : Rho} {μ : Mu}
theorem Evs_consts : ∀ (fs : List (Str × Nat × Pos)), Evs C ρ μ (fs.map fun f => .Constant (.str f.1) f.2.1 f.2.2) ((fs.map (·.1)).map .str) μ
  | [] => Evs_nil
  | f :: fs => Evs_cons Ev_str (Evs_consts fs)
theorem fn_pair (H : Hp C.p C.w C.hb) (hr : Room C.A 1) {k : Nat} (hk : k < 16) : FnD C 143 [.int k] (.lst ((pairOf k).map .str)) := by
  have hsz : sizeLine = 16777216 := sizeLine_eq
  refine FnD_of H fn143 hr (xs := ["place"]) (fun s' vs hl X => ?_) rfl (by decide) (by rfl) (fun L s => ?_)
  · obtain ⟨v, rfl⟩ := len1 hl
    refine ⟨[("place", v)], ?_, rfl⟩
    with_reducible exact bt143 X
  obtain ⟨o, ap, pos, rp, e, hb, hl, es, lp, i, sp, rfl, fs, rfl, hfs⟩ := body143 C.w
  have key : Ev (fnCx C.p C.w C.A (fdOf C.w 143) 143 L s Nil C.ex [] C.ox C.hb) [("place", .int k)] [] (.Call (.Attribute (.Subscript (.List (fs.map fun f => .Constant (.str f.1) f.2.1 f.2.2) lp) (.Name "place" i) sp) "split" ap) [] [] pos) (.lst ((pairOf k).map .str)) [] := by
    obtain ⟨w1, w2, w3, w4⟩ := words16 ⟨k, hk⟩
    have hlen : fs.length = 16 := by have := congrArg List.length hfs; simpa [signTxt] using this
    have hg : ((fs.map (·.1)).map D.str)[(k : Int).toNat]? = some (.str (signTxt.getD k "")) := by
      rw [hfs, List.getElem?_map]
      have : k < signTxt.length := hk
      simp [this]
    have hzz : ((fs.map (·.1)).map D.str).length ≤ sizeLine := by rw [List.length_map, List.length_map, hlen, hsz]; decide
    have e1 : Ev (fnCx C.p C.w C.A (fdOf C.w 143) 143 L s Nil C.ex [] C.ox C.hb) [("place", .int k)] [] (.Subscript (.List (fs.map fun f => .Constant (.str f.1) f.2.1 f.2.2) lp) (.Name "place" i) sp) (.str (signTxt.getD k "")) [] :=
      Ev_subscr (Ev_list (Evs_consts fs) hzz) (Ev_name rfl) (sub_list (by lia) (by lia) hg)
    exact Ev_split e1 w1 w2 (by rw [hsz]; exact Nat.le_trans w3 (by decide)) (by rw [hsz]; exact Nat.le_trans w4 (by decide)) hb hl
  have k2 := Ex_ret (rest := []) (pos := rp) (N := fun s' => RetP s Nil C.ex C.p C.w (.lst ((pairOf k).map .str)) [] .none s') (R := fun v s' => RetP s Nil C.ex C.p C.w (.lst ((pairOf k).map .str)) [] v s') key (fun s' v I r => retP_of I (fun a h => .inl h) r (fun b o h => by cases h))
  rw [e]
  exact k2
end
end Mine
end

section
open PySem PySem.W PyProof.Rows PySem.Spec PySem.Calls PySem.Builtin PySem.Builtin.Str
set_option maxRecDepth 100000
namespace Mine
section
variable {w : World}
theorem pk150 {v u z y : Value} (S : _) : peek (Kp w) S (bindArgs (fdOf w 150) ⟨[v, u, z, y], []⟩) = some ([("cell", v), ("words", u), ("ways", z), ("most", y)] : List (Str × Value)) := by kernel_rfl
theorem bt150 {v u z y : Value} {s : Shared} (X : (Kp w).In s.heap) : BindsTo s (fdOf w 150) ⟨[v, u, z, y], []⟩ ([("cell", v), ("words", u), ("ways", z), ("most", y)] : List (Str × Value)) := by with_reducible exact kp_binds X pk150
theorem pk155 {v u : Value} (S : _) : peek (Kp w) S (bindArgs (fdOf w 155) ⟨[v, u], []⟩) = some ([("cells", v), ("signs", u)] : List (Str × Value)) := by kernel_rfl
theorem bt155 {v u : Value} {s : Shared} (X : (Kp w).In s.heap) : BindsTo s (fdOf w 155) ⟨[v, u], []⟩ ([("cells", v), ("signs", u)] : List (Str × Value)) := by with_reducible exact kp_binds X pk155
theorem pk162 {v u z : Value} (S : _) : peek (Kp w) S (bindArgs (fdOf w 162) ⟨[v, u, z], []⟩) = some ([("store", v), ("rules", u), ("told", z)] : List (Str × Value)) := by kernel_rfl
theorem bt162 {v u z : Value} {s : Shared} (X : (Kp w).In s.heap) : BindsTo s (fdOf w 162) ⟨[v, u, z], []⟩ ([("store", v), ("rules", u), ("told", z)] : List (Str × Value)) := by with_reducible exact kp_binds X pk162
theorem pk182 {v u z y : Value} (S : _) : peek (Kp w) S (bindArgs (fdOf w 182) ⟨[v, u, z, y], []⟩) = some ([("signs", v), ("rules", u), ("ways", z), ("row", y)] : List (Str × Value)) := by kernel_rfl
theorem bt182 {v u z y : Value} {s : Shared} (X : (Kp w).In s.heap) : BindsTo s (fdOf w 182) ⟨[v, u, z, y], []⟩ ([("signs", v), ("rules", u), ("ways", z), ("row", y)] : List (Str × Value)) := by with_reducible exact kp_binds X pk182
end
/-- the draw of a rule -/
def ruleLoop (words : List Str) (ways : List (Str × Nat)) (most : Nat) : Nat → Nat → List Str → Nat → List Str × Nat
  | 0, _, ps, c => (ps, c)
  | t + 1, f, ps, c =>
    let q := words.getD (f % words.length) ""
    let c' := c * (ways.lookup q).getD 1
    if c' ≤ most then ruleLoop words ways most t (f / words.length) (ps ++ [q]) c' else ruleLoop words ways most t (f / words.length) ps c
def drawR (cell : Nat) (words : List Str) (ways : List (Str × Nat)) (most : Nat) : List Str × Nat := ruleLoop words ways most (cell % 3 + most / 4) (cell / 3) [] 1
def natsD (l : List (Str × Nat)) : List (Str × D) := l.map fun e => (e.1, D.int e.2)
theorem natsD_lookup {q : Str} : ∀ {l : List (Str × Nat)}, ((natsD l).lookup q).getD (.int 1) = .int ((l.lookup q).getD 1 : Nat)
  | [] => rfl
  | (k, v) :: l => by
    show (((k, D.int v) :: natsD l).lookup q).getD _ = _
    rw [List.lookup_cons, List.lookup_cons]
    by_cases e : (q == k) = true
    · rw [e]; rfl
    · have e' : (q == k) = false := by simpa using e
      rw [e']; exact natsD_lookup
section
variable {C : Cx} {ρ : Rho} {μ : Mu} {N : Shared → Prop} {R : Value → Shared → Prop} {rest : List Stmt}
theorem Ex_ok (h : C.Ok → Ex C ρ μ rest N R) : Ex C ρ μ rest N R := .mk fun s I => (h I.ok).run s I
theorem fdiv_nat (a b : Nat) : (a : Int).fdiv (b : Int) = ((a / b : Nat) : Int) := by
  rw [Int.fdiv_eq_ediv_of_nonneg _ (Int.natCast_nonneg b)]; simp
theorem fmod_nat (a b : Nat) : (a : Int).fmod (b : Int) = ((a % b : Nat) : Int) := by
  rw [Int.fmod_eq_emod_of_nonneg _ (Int.natCast_nonneg b)]; simp
theorem Ev_get_nat {o k d : Expr} {ap pos : Pos} {ways : List (Str × Nat)} {q : Str} (ho : EvO C μ o (.dct (natsD ways))) (hk : Ev C ρ μ k (.str q) μ) (hd : Ev C ρ μ d (.int 1) μ) (hbase : ∀ env, attributeBase o "get" env (eval o env) = eval o env := by intros; rfl)
    (hst : ∀ env, starEach [k, d] env = [(false, eval k env), (false, eval d env)] := by intros; rfl) (hline : (ap.endLine == pos.line) = true := by decide) : Ev C ρ μ (.Call (.Attribute o "get" ap) [k, d] [] pos) (.int ((ways.lookup q).getD 1 : Nat)) μ := by
  have := Ev_get2_o (ap := ap) (pos := pos) ho hk hd hbase hst hline
  rwa [natsD_lookup] at this
theorem Ev_eq {e : Expr} {d d' : D} {μ₁ : Mu} (h : Ev C ρ μ e d μ₁) (q : d = d') : Ev C ρ μ e d' μ₁ := q ▸ h
theorem Ev_len_d (H : Hp C.p C.w C.hb) {np pos : Pos} {e : Expr} {ds : List D} {n : Nat} (he : Ev C ρ μ e (.lst ds) μ) (hn : ds.length = n) (h : n < 1000) (hx : C.env.kindOf "len" = some .globalImplicit := by rfl) (hst : ∀ env, starEach [e] env = (false, eval e env) :: starEach [] env := by intros; rfl)
    (hpl : ∀ env, (backTo pos (starEach [] env)).any (·.1) = false := by intros; rfl) : Ev C ρ μ (.Call (.Name "len" np) [e] [] pos) (.int n) μ := by
  subst hn
  exact Ev_call_bi (by exact H.built (by rfl) (by rfl)) (Evs_cons he Evs_nil hst) (call_len_d (by lia)) hx hst hpl
set_option maxHeartbeats 4000000 in
theorem fn_rule (H : Hp C.p C.w C.hb) (hr : Room C.A 3) {cell most : Nat} {words : List Str} {ways : List (Str × Nat)} {aw : Addr} (h0 : 0 < words.length) (h1 : words.length ≤ 100) (hm : most ≤ 100) (hc : cell < 2 ^ 30) (hw : ∀ q, (ways.lookup q).getD 1 ≤ 100) :
    FnR C 150 [.im (.int cell), .im (.lst (words.map .str)), .ow aw, .im (.int most)] [(aw, .dct (natsD ways))] (.tup [.lst ((drawR cell words ways most).1.map .str), .int ((drawR cell words ways most).2 : Nat)]) := by
  have hsz : sizeLine = 16777216 := sizeLine_eq
  refine FnR_of H fn150 hr (xs := ["cell", "words", "ways", "most"]) (μ₀ := [("ways", .dct (natsD ways))]) (fun s' vs hl X => ?_) rfl (by decide) (by rfl) (fun b h => ?_) (fun y o e => ?_) (fun L s => ?_)
  · obtain ⟨v, u, z, y, rfl⟩ := len4 hl
    refine ⟨[("cell", v), ("words", u), ("ways", z), ("most", y)], ?_, rfl⟩
    with_reducible exact bt150 X
  · simp at h; subst h; exact ⟨_, List.mem_singleton.mpr rfl⟩
  · obtain ⟨rfl, rfl⟩ := look1 e
    exact ⟨aw, rfl, List.mem_singleton.mpr rfl, fun _ _ _ q => by cases q⟩
  refine Ex_ok fun ok0 => ?_
  refine Ex_make_sw' (xs := ["figures", "parts", "count"]) (Mks_cons (Mk1_fl (Ev_bin (Ev_name rfl) Ev_int (bin_fdiv (by decide) (by decide))) (fun _ q => q)) (Mks_cons Mk1_list0 (Mks_cons (Mk1_fl Ev_int (fun _ q => q)) Mks_nil))) (fun rs h => ?_) (by decide) (fun x hx => ?_) (fun rs hsh hnd hex => ?_)
  · obtain ⟨_, _, rfl, _, _, _, rfl, _, _, _, rfl, _, rfl⟩ := h; rfl
  · simp only [List.mem_cons, List.not_mem_nil, or_false] at hx
    rcases hx with rfl | rfl | rfl
    · exact ⟨.inl rfl, rfl⟩
    · exact ⟨.inl rfl, rfl⟩
    · exact ⟨.inl rfl, rfl⟩
  obtain ⟨_, _, rfl, rfl, _, _, rfl, ⟨a, rfl⟩, _, _, rfl, rfl, rfl⟩ := hsh
  have hwl : (words.map D.str).length = words.length := by simp
  have haw : aw ≠ a := fun e => hex a (by simp [adrs, RK.adr]) (e ▸ (ok0.oxe aw (ok0.ownox "ways" aw (.head _))).imp id fun q => .inr q)
  have haX : ¬ (fnCx C.p C.w C.A (fdOf C.w 150) 150 L s Nil C.ex (argOwn ["cell", "words", "ways", "most"] [.im (.int cell), .im (.lst (words.map .str)), .ow aw, .im (.int most)]) C.ox C.hb).X a := fun q => hex a (by simp [adrs, RK.adr]) (.inl q)
  refine Ex_for (σ := Nat × List Str × Nat) (List.range (cell % 3 + most / 4)) (fun i => D.int (0 + (i : Int))) (fun i => [("turn", .int (0 + (i : Int)))])
    (fun i st => ruleLoop words ways most (cell % 3 + most / 4 - i) st.1 st.2.1 st.2.2 = drawR cell words ways most ∧ st.2.2 ≤ 100 ∧ st.2.1.length ≤ i)
    (fun st => [("figures", .int (st.1 : Nat)), ("count", .int (st.2.2 : Nat)), ("words", .lst (words.map .str)), ("most", .int most)]) (fun st => [("parts", .pls (st.2.1.map .str)), ("ways", .dct (natsD ways))])
    (EvI_range (n := cell % 3 + most / 4) (by exact H) (Ev_eq (Ev_bin (Ev_bin (Ev_name rfl) Ev_int (bin_mod (by decide))) (Ev_bin (Ev_name rfl) Ev_int (bin_fdiv (by decide) (by decide))) bin_add) ?_) (by lia)) (fun _ _ => .name) (fun i _ b hb => by rw [List.mem_singleton.mp hb]; exact ⟨.inl rfl, rfl⟩)
    ⟨(cell / 3, [], 1), ⟨by rfl, show 1 ≤ 100 by decide, Nat.le_refl _⟩, ?_, rfl⟩ (fun X hX i x st hx hp => ?_) (fun st hp => ?_)
  · show D.int ((cell : Int).fmod ((3 : Nat) : Int) + (most : Int).fdiv ((4 : Nat) : Int)) = _
    rw [fmod_nat, fdiv_nat]; rfl
  · refine (SubR.cons ?_ (.cons rfl (.cons rfl (.cons rfl .nil)))).sub
    show some (D.int ((cell : Int).fdiv ((3 : Nat) : Int))) = _
    rw [fdiv_nat]
  · obtain ⟨f, ps, c⟩ := st
    obtain ⟨hp1, hp2, hp3⟩ := hp
    obtain ⟨rfl, hi⟩ := range_get hx
    dsimp only at hp1 hp2 hp3
    have hq : f % words.length < words.length := Nat.mod_lt _ h0
    have eT : cell % 3 + most / 4 - x = (cell % 3 + most / 4 - (x + 1)) + 1 := by lia
    rw [eT, ruleLoop] at hp1
    generalize hqq : words.getD (f % words.length) "" = q at hp1
    have hd : (words.map D.str)[((f % words.length : Nat) : Int).toNat]? = some (.str q) := by
      rw [List.getElem?_map, ← hqq, Int.toNat_natCast, List.getD_eq_getElem?_getD, List.getElem?_eq_getElem hq]; rfl
    have hw1 := hw q
    have hb64 : Builtin.Int.intBits (c : Int) ≤ 64 := intBits_le_64 (by lia) (by lia)
    have hpsz : (ps.map D.str).length ≤ sizeLine := by rw [List.length_map, hsz]; lia
    have emul : ((c : Int) * ((ways.lookup q).getD 1 : Nat)) = ((c * (ways.lookup q).getD 1 : Nat) : Int) := by simp
    refine Ex_assign (d := .str q) (Ev_subscr (Ev_name rfl) (Ev_eq (d' := .int ((f % words.length : Nat) : Int)) (Ev_bin (Ev_name rfl) (Ev_len_d (by exact H) (Ev_name rfl) hwl (by lia)) (bin_mod (by lia))) (by rw [fmod_nat])) (sub_list (by lia) (by lia) hd)) ⟨.inl rfl, rfl⟩ ?_
    refine Ex_assign (d := .int ((f / words.length : Nat) : Int)) (Ev_eq (Ev_bin (Ev_name rfl) (Ev_len_d (by exact H) (Ev_name rfl) hwl (by lia)) (bin_fdiv (by lia) (by lia))) (by rw [fdiv_nat])) ⟨.inl rfl, rfl⟩ ?_
    refine Ex_if (EvT_cmp (Ev_bin (Ev_name rfl) (Ev_get_nat (EvO_own rfl (hox := rfl)) (Ev_name rfl) Ev_int) (bin_mul (.of_left hb64))) (Ev_name rfl) cmp_le_int) (fun hcc => ?_) (fun hcc => ?_)
    · have hcc' : c * (ways.lookup q).getD 1 ≤ most := by rw [emul] at hcc; have := of_decide_eq_true hcc; lia
      rw [if_pos hcc'] at hp1
      refine Ex_assign (d := .int ((c * (ways.lookup q).getD 1 : Nat) : Int)) (Ev_eq (Ev_bin (Ev_name rfl) (Ev_get_nat (EvO_own rfl (hox := rfl)) (Ev_name rfl) Ev_int) (bin_mul (.of_left hb64))) (by rw [emul])) ⟨.inl rfl, rfl⟩ ?_
      refine Ex_expr (Ev_append (Ev_name rfl) rfl rfl ?_ hpsz) (Ex_nil fun s' I => ⟨(f / words.length, ps ++ [q], c * (ways.lookup q).getD 1), ⟨hp1, Nat.le_trans hcc' hm, by simp; lia⟩, (I.sub (SubR.cons rfl (.cons rfl (.cons rfl (.cons rfl .nil)))).sub).subMu ?_⟩)
      · refine ⟨fun b e => by rw [e]; exact .inr (by simp [adrs, RK.adr]), fun y b hy hb e => ?_, fun y cls dx ds hy hm => ?_⟩
        · rcases look2 hb with rfl | hb
          · simp at hy
          · exact haw (by rw [← (look1 hb).2]; exact e)
        · rcases look2 hm with rfl | hm
          · simp at hy
          · cases (look1 hm).2
      · intro y o e
        rcases look2 e with rfl | e'
        · have : o = .pls ((ps ++ [q]).map .str) := by simpa [List.lookup] using e.symm
          subst this
          simp [List.lookup]
        · have := look1 e'
          obtain ⟨rfl, rfl⟩ := this
          rfl
    · have hcc' : ¬ c * (ways.lookup q).getD 1 ≤ most := by rw [emul] at hcc; have := of_decide_eq_false hcc; lia
      rw [if_neg hcc'] at hp1
      exact Ex_nil fun s' I => ⟨(f / words.length, ps, c), ⟨hp1, hp2, Nat.le_succ_of_le hp3⟩, I.sub (SubR.cons rfl (.cons rfl (.cons rfl (.cons rfl .nil)))).sub⟩
  · obtain ⟨f, ps, c⟩ := st
    have hp1 := hp.1
    rw [List.length_range, Nat.sub_self] at hp1
    have e1 : (ps, c) = drawR cell words ways most := hp1
    rw [← e1]
    refine Ex_freeze (ρf := [("parts", .lst (ps.map .str))]) (fun y d h => ?_) (Ex_ret (Ev_tuple (Evs_cons (Ev_name rfl) (Evs_cons (Ev_name rfl) Evs_nil)) (show 2 ≤ sizeLine by decide)) (fun s' v I r => retP_of I (fun a h => .inl h) r (fun b o h => by cases h)))
    obtain ⟨rfl, rfl⟩ := look1 h
    exact ⟨a, _, rfl, rfl, rfl, .inr (by simp [adrs, RK.adr]), haX⟩
end
end Mine
end

section
open PySem PySem.W PyProof.Rows PySem.Spec PySem.Calls PySem.Builtin PySem.Builtin.Str
set_option maxRecDepth 100000
namespace Mine
def grN : List Str := ["258", "257", "256"]
def grS : List (List Str) := [[], ["258"], ["257", "258"]]
def grM : List Nat := [1, 2, 4]
/-- the draw of rule j of name i -/
def grDraw (cells : List Nat) (signs : List Str) (wy : List (Str × Nat)) (i j : Nat) : List Str × Nat := drawR (cells.getD (2 * i + j) 0) (signs ++ grS.getD i []) wy (grM.getD i 1)
def grW (cells : List Nat) (signs : List Str) : Nat → List (Str × Nat)
  | 0 => []
  | i + 1 => grW cells signs i ++ [(grN.getD i "", (grDraw cells signs (grW cells signs i) i 0).2 + (grDraw cells signs (grW cells signs i) i 1).2)]
def grR (cells : List Nat) (signs : List Str) : Nat → List (Str × List Str × List Str)
  | 0 => []
  | i + 1 => grR cells signs i ++ [(grN.getD i "", (grDraw cells signs (grW cells signs i) i 0).1, (grDraw cells signs (grW cells signs i) i 1).1)]
def rulesD (l : List (Str × List Str × List Str)) : List (Str × D) := l.map fun e => (e.1, D.lst [.lst (e.2.1.map .str), .lst (e.2.2.map .str)])
theorem grW_names (cells : List Nat) (signs : List Str) : ∀ i, (natsD (grW cells signs i)).map (·.1) = (List.range i).map fun j => grN.getD j ""
  | 0 => rfl
  | i + 1 => by
    have := grW_names cells signs i
    unfold natsD at this ⊢
    simp only [grW, List.map_append, List.range_succ, this]; rfl
theorem grR_names (cells : List Nat) (signs : List Str) : ∀ i, (rulesD (grR cells signs i)).map (·.1) = (List.range i).map fun j => grN.getD j ""
  | 0 => rfl
  | i + 1 => by
    have := grR_names cells signs i
    unfold rulesD at this ⊢
    simp only [grR, List.map_append, List.range_succ, this]; rfl
theorem ruleLoop_le (words : List Str) (ways : List (Str × Nat)) (most : Nat) : ∀ (t f : Nat) (ps : List Str) (c : Nat), c ≤ most → (ruleLoop words ways most t f ps c).2 ≤ most
  | 0, _, _, _, h => h
  | t + 1, f, ps, c, h => by
    simp only [ruleLoop]
    split
    · next h' => exact ruleLoop_le words ways most t _ _ _ h'
    · exact ruleLoop_le words ways most t _ _ _ h
theorem grM_pos : ∀ i, 1 ≤ grM.getD i 1 ∧ grM.getD i 1 ≤ 4
  | 0 => by decide
  | 1 => by decide
  | 2 => by decide
  | i + 3 => by show 1 ≤ 1 ∧ 1 ≤ 4; decide
theorem grDraw_le (cells : List Nat) (signs : List Str) (wy : List (Str × Nat)) (i j : Nat) : (grDraw cells signs wy i j).2 ≤ 4 :=
  Nat.le_trans (ruleLoop_le _ _ _ _ _ _ _ (grM_pos i).1) (grM_pos i).2
theorem lookup_app {α : Type} {q k : Str} {v : α} : ∀ {l : List (Str × α)}, (l ++ [(k, v)]).lookup q = (l.lookup q).or (if q == k then some v else none)
  | [] => by
    show List.lookup q [(k, v)] = _
    rw [List.lookup_cons]; cases q == k <;> rfl
  | (k', v') :: l => by
    rw [List.cons_append, List.lookup_cons, List.lookup_cons, lookup_app]
    cases q == k' <;> rfl
theorem grW_le (cells : List Nat) (signs : List Str) (q : Str) : ∀ i, ((grW cells signs i).lookup q).getD 1 ≤ 8
  | 0 => by show 1 ≤ 8; decide
  | i + 1 => by
    have ih := grW_le cells signs q i
    simp only [grW]
    rw [lookup_app]
    cases e : (grW cells signs i).lookup q with
    | some v => rw [e] at ih; exact ih
    | none =>
      have h0 := grDraw_le cells signs (grW cells signs i) i 0
      have h1 := grDraw_le cells signs (grW cells signs i) i 1
      by_cases q : (q == grN.getD i "") = true
      · rw [if_pos q]; show _ + _ ≤ 8; lia
      · rw [if_neg q]; show 1 ≤ 8; decide
theorem lookup_none_names {α : Type} {q : Str} : ∀ {l : List (Str × α)}, q ∉ l.map (·.1) → l.lookup q = none
  | [], _ => rfl
  | (k, v) :: l, h => by
    rw [List.lookup_cons]
    have h1 : (q == k) = false := by
      simp at h
      simpa using h.1
    rw [h1]
    exact lookup_none_names (fun z => h (by simp at z ⊢; exact .inr z))
theorem gr_fresh {i : Nat} (hi : i < 3) : grN.getD i "" ∉ (List.range i).map fun j => grN.getD j "" := by
  match i, hi with
  | 0, _ => simp
  | 1, _ => decide +kernel
  | 2, _ => decide +kernel
theorem gr_sorted {i : Nat} (hi : i < 3) : ∀ ss' : List Str, ss'.Perm ((List.range i).map fun j => grN.getD j "") → sortedS ss' = true → ss' = grS.getD i [] := by
  intro ss h hs
  match i, hi with
  | 0, _ => exact List.Perm.eq_nil h
  | 1, _ => exact List.perm_singleton.mp h
  | 2, _ =>
    have h' : ss.Perm ["258", "257"] := h
    have hl := h'.length_eq
    match ss, hl with
    | [x, y], _ =>
      have hx := h'.mem_iff (a := x)
      have hy := h'.mem_iff (a := y)
      have h2 := h'.symm.mem_iff (a := ("257" : Str))
      have h3 := h'.symm.mem_iff (a := ("258" : Str))
      simp at hx hy h2 h3
      rcases hx with rfl | rfl
      · rcases hy with rfl | rfl
        · exact absurd h2 (by decide +kernel)
        · exact absurd hs (by decide +kernel)
      · rcases hy with rfl | rfl
        · rfl
        · exact absurd h3 (by decide +kernel)
theorem gr_int : ∀ i : Fin 3, PySem.intText? (grN.getD i.1 "") = some (258 - (i.1 : Int)) ∧ (grN.getD i.1 "").length ≤ 640 ∧ (2 : Int) ^ (258 - (258 - (i.1 : Int))).toNat = (grM.getD i.1 1 : Nat) ∧ (Builtin.Int.intBits 2 : Int) * (258 - (258 - (i.1 : Int))) ≤ 2 ^ 27 := by decide +kernel
end Mine
end

section
open PySem PySem.W PyProof.Rows PySem.Spec PySem.Calls PySem.Builtin PySem.Builtin.Str
set_option maxRecDepth 100000
namespace Mine
section
variable {C : Cx} {ρ : Rho} {μ : Mu} {N : Shared → Prop} {R : Value → Shared → Prop} {rest : List Stmt}
theorem take2 {l : List Nat} {k : Nat} (h : k + 1 < l.length) : (l.drop k).take 2 = [l.getD (k + 0) 0, l.getD (k + 1) 0] := by
  rw [List.drop_eq_getElem_cons (by lia : k < l.length), List.drop_eq_getElem_cons h]
  simp only [List.take_succ_cons, List.take_zero, List.getD_eq_getElem?_getD, Nat.add_zero, List.getElem?_eq_getElem h, List.getElem?_eq_getElem (by lia : k < l.length), Option.getD_some]
set_option maxHeartbeats 8000000 in
theorem fn_grammar (H : Hp C.p C.w C.hb) (hr : Room C.A 5) {cells : List Nat} {signs : List Str} (hcl : cells.length = 7) (hcb : ∀ c ∈ cells, c < 2 ^ 30) (hs1 : signs.length = 4) (hsys : ∃ b o, sysModules ≤ b ∧ C.hb.get? b = some o) :
    FnD C 155 [.lst (cells.map fun (c : Nat) => .int c), .lst (signs.map .str)] (.tup [.dct (rulesD (grR cells signs 3)), .dct (natsD (grW cells signs 3))]) := by
  have hsz : sizeLine = 16777216 := sizeLine_eq
  refine FnD_of H fn155 hr (xs := ["cells", "signs"]) (fun s' vs hl X => ?_) rfl (by decide) (by rfl) (fun L s => ?_)
  · obtain ⟨v, u, rfl⟩ := len2 hl
    refine ⟨[("cells", v), ("signs", u)], ?_, rfl⟩
    with_reducible exact bt155 X
  refine Ex_ok fun ok0 => ?_
  refine Ex_make' (xs := ["rules", "ways"]) (Mks_cons (Mk1_dict0 (by exact hsys)) (Mks_cons (Mk1_dict0 (by exact hsys)) Mks_nil)) (by rfl) (fun rs h => ?_) (by decide) (fun x hx => ?_) (fun rs hsh hnd hex => ?_)
  · obtain ⟨_, _, rfl, _, _, _, rfl, _, rfl⟩ := h; rfl
  · simp only [List.mem_cons, List.not_mem_nil, or_false] at hx
    rcases hx with rfl | rfl
    · exact ⟨.inl rfl, rfl⟩
    · exact ⟨.inr ⟨by rfl, _, by rfl, .inr ⟨"ways", mem_of_lookup (by rfl)⟩⟩, rfl⟩
  obtain ⟨_, _, rfl, ⟨ar, rfl⟩, _, _, rfl, ⟨aw, rfl⟩, rfl⟩ := hsh
  have hne : ar ≠ aw := by
    have : (adrs [RK.ow ar (Own.dct []), .ow aw (.dct [])]) = [ar, aw] := rfl
    rw [this] at hnd
    simpa using hnd
  refine Ex_for (σ := Nat) grN .str (fun q => [("name", .str q)]) (fun i st => st = i)
    (fun _ => [("cells", .lst (cells.map fun (c : Nat) => .int c)), ("signs", .lst (signs.map .str))]) (fun i => [("rules", .dct (rulesD (grR cells signs i))), ("ways", .dct (natsD (grW cells signs i)))])
    (EvI_of (Ev_list (Evs_cons Ev_str (Evs_cons Ev_str (Evs_cons Ev_str Evs_nil))) (show 3 ≤ sizeLine by decide)) ItrD_list) (fun _ _ => .name) (fun i _ b hb => by rw [List.mem_singleton.mp hb]; exact ⟨.inl rfl, rfl⟩)
    ⟨0, rfl, (SubR.cons rfl (.cons rfl .nil)).sub, rfl⟩ (fun X hX i x st hx hp => ?_) (fun st hp => ?_)
  · have hp' : st = i := hp
    subst hp'
    have hi : st < 3 := (List.getElem?_eq_some_iff.mp hx).1
    have hxe : x = grN.getD st "" := by rw [List.getD_eq_getElem?_getD, hx]; rfl
    obtain ⟨n1, n2, n3, n4⟩ := gr_int ⟨st, hi⟩
    dsimp only at n1 n2 n3 n4
    rw [← hxe] at n1 n2
    have hwlen : (natsD (grW cells signs st)).length = st := by have := congrArg List.length (grW_names cells signs st); simpa using this
    have hrlen : (rulesD (grR cells signs st)).length = st := by have := congrArg List.length (grR_names cells signs st); simpa using this
    have hsl : (grS.getD st []).length ≤ 2 := by
      match st, hi with
      | 0, _ => decide
      | 1, _ => decide
      | 2, _ => decide
    have hm4 := grM_pos st
    have es : D.lst (signs.map .str ++ (grS.getD st []).map .str) = .lst ((signs ++ grS.getD st []).map .str) := by rw [List.map_append]
    have hzz : (signs.map D.str).length + ((grS.getD st []).map D.str).length ≤ sizeLine := by rw [List.length_map, List.length_map, hsz]; lia
    have hso : ∀ ss' : List Str, ss'.Perm ((natsD (grW cells signs st)).map (·.1)) → sortedS ss' = true → ss' = grS.getD st [] := by rw [grW_names]; exact gr_sorted hi
    refine Ex_tup (xs := ["words", "most"]) (ds := [.lst ((signs ++ grS.getD st []).map .str), .int (grM.getD st 1 : Nat)])
      (Ev_tuple (Evs_cons (Ev_eq (Ev_bin (Ev_name rfl) (Ev_call_bi_o (by exact H.built (by rfl) (by rfl)) (EvO_own rfl (hox := rfl)) (callO_sorted (by lia) hso)) (bin_addlist hzz)) es)
        (Evs_cons (Ev_eq (Ev_bin Ev_int (Ev_bin Ev_int (Ev_call_ty (by exact H.built (by rfl) (by rfl)) (Evs_cons (Ev_name rfl) Evs_nil) (call_int_d n1 n2)) bin_sub) (bin_pow (by lia) n4)) (by rw [n3])) Evs_nil)) (show 2 ≤ sizeLine by decide)) (by rfl) rfl (fun y hy => ?_) ?_
    · simp only [List.mem_cons, List.not_mem_nil, or_false] at hy
      rcases hy with rfl | rfl
      · exact ⟨.inr ⟨by rfl, _, by rfl, .inr ⟨"words", mem_of_lookup (by rfl)⟩⟩, rfl⟩
      · exact ⟨.inr ⟨by rfl, _, by rfl, .inr ⟨"most", mem_of_lookup (by rfl)⟩⟩, rfl⟩
    generalize hwds : signs ++ grS.getD st [] = words
    have hwl : words.length ≤ 6 ∧ 0 < words.length := by rw [← hwds, List.length_append]; lia
    have hcs : ((cells.map fun (c : Nat) => D.int c).drop (2 * st)).take (2 * st + 2 - 2 * st) = ([cells.getD (2 * st + 0) 0, cells.getD (2 * st + 1) 0] : List Nat).map fun (c : Nat) => D.int c := by
      rw [← List.map_drop, ← List.map_take, show 2 * st + 2 - 2 * st = 2 by lia, take2 (by lia)]
    have slc : ∀ A' : Around, SliD C.p C.w A' C.hb (.lst (cells.map fun (c : Nat) => .int c)) (some (2 * ((rulesD (grR cells signs st)).length : Int))) (some (2 * ((rulesD (grR cells signs st)).length : Int) + 2)) none (.lst (([cells.getD (2 * st + 0) 0, cells.getD (2 * st + 1) 0] : List Nat).map fun (c : Nat) => D.int c)) := by
      intro A'
      rw [hrlen, ← hcs, show (2 * (st : Int)) = ((2 * st : Nat) : Int) by lia, show (((2 * st : Nat) : Int) + 2) = ((2 * st + 2 : Nat) : Int) by lia]
      exact sli_run (by rw [List.length_map, hsz]; lia) (by lia) (by rw [List.length_map]; lia)
    have hcb2 : ∀ c ∈ ([cells.getD (2 * st + 0) 0, cells.getD (2 * st + 1) 0] : List Nat), c < 2 ^ 30 := by
      intro c hc
      simp only [List.mem_cons, List.not_mem_nil, or_false] at hc
      have gm : ∀ k, k < cells.length → cells.getD k 0 ∈ cells := fun k hk => by rw [List.getD_eq_getElem?_getD, List.getElem?_eq_getElem hk]; exact List.getElem_mem hk
      rcases hc with rfl | rfl
      · exact hcb _ (gm _ (by lia))
      · exact hcb _ (gm _ (by lia))
    have hmul : Builtin.Int.intBits (2 : Int) ≤ 64 := intBits_le_64 (by decide) (by decide)
    refine Ex_assign_comp ([cells.getD (2 * st + 0) 0, cells.getD (2 * st + 1) 0] : List Nat) (fun (c : Nat) => D.int c) (fun c => .tup [.lst ((drawR c words (grW cells signs st) (grM.getD st 1)).1.map .str), .int ((drawR c words (grW cells signs st) (grM.getD st 1)).2 : Nat)]) (fun c => [("cell", .int (c : Nat))])
      (EvI_of (Ev_slice (Ev_name rfl) (.int (Ev_bin Ev_int (Ev_call_bi_o (by exact H.built (by rfl) (by rfl)) (EvO_own (o := .dct (rulesD (grR cells signs st))) rfl (hox := rfl)) (callO_len (by lia))) (bin_mul (.of_left hmul)))) (.int (Ev_bin (Ev_bin Ev_int (Ev_call_bi_o (by exact H.built (by rfl) (by rfl)) (EvO_own (o := .dct (rulesD (grR cells signs st))) rfl (hox := rfl)) (callO_len (by lia))) (bin_mul (.of_left hmul))) Ev_int bin_add)) .none (slc _)) ItrD_list)
      (comp_of (by rfl)) (fun _ _ => .name) (fun L s0 X x _ b hb => ?_) (fun L s0 X c hc => ?_) (show 2 ≤ sizeLine by decide) ⟨.inl rfl, rfl⟩ ?_
    · rw [List.mem_singleton.mp hb]
      exact ⟨⟨.inl rfl, rfl⟩, rfl⟩
    · refine Ev_fnR (by exact H) fn150 (by rfl) (EvAs_cons (EvA_im (Ev_name rfl)) (EvAs_cons (EvA_im (Ev_name rfl)) (EvAs_cons (EvA_ow (by rfl)) (EvAs_cons (EvA_im (Ev_name rfl)) EvAs_nil)))) (fn_rule (by exact H) ?_ hwl.2 (by lia) (by lia) (hcb2 c hc) (fun q => Nat.le_trans (grW_le cells signs q st) (by decide))) (fun a o h => ?_)
      · exact ⟨by have := hr.1; show C.A.depth + 1 + 3 < 900; lia, by have := hr.2; show C.A.units + 3 + 10 * 3 < 9000; lia⟩
      · rw [List.mem_singleton] at h
        obtain ⟨rfl, rfl⟩ := Prod.mk.inj h
        exact ⟨"ways", by rfl, by rfl⟩
    have hd0 : drawR (cells.getD (2 * st + 0) 0) words (grW cells signs st) (grM.getD st 1) = grDraw cells signs (grW cells signs st) st 0 := by rw [← hwds]; rfl
    have hd1 : drawR (cells.getD (2 * st + 1) 0) words (grW cells signs st) (grM.getD st 1) = grDraw cells signs (grW cells signs st) st 1 := by rw [← hwds]; rfl
    simp only [List.map_cons, List.map_nil]
    rw [hd0, hd1]
    have eR : rulesD (grR cells signs (st + 1)) = rulesD (grR cells signs st) ++ [(x, .lst [.lst ((grDraw cells signs (grW cells signs st) st 0).1.map .str), .lst ((grDraw cells signs (grW cells signs st) st 1).1.map .str)])] := by
      rw [hxe]; simp only [rulesD, grR, List.map_append]; rfl
    have eW : natsD (grW cells signs (st + 1)) = natsD (grW cells signs st) ++ [(x, .int ([((grDraw cells signs (grW cells signs st) st 0).2 : Int), ((grDraw cells signs (grW cells signs st) st 1).2 : Int)] : List Int).sum)] := by
      rw [hxe]; simp only [natsD, grW, List.map_append, List.sum_cons, List.sum_nil]; simp
    have kR : (rulesD (grR cells signs st)).lookup x = none := lookup_none_names (by rw [grR_names, hxe]; exact gr_fresh hi)
    have kW : (natsD (grW cells signs st)).lookup x = none := lookup_none_names (by rw [grW_names, hxe]; exact gr_fresh hi)
    generalize grDraw cells signs (grW cells signs st) st 0 = d0 at eR eW ⊢
    generalize grDraw cells signs (grW cells signs st) st 1 = d1 at eR eW ⊢
    have sepR : ∀ (C' : Cx) (μ' : Mu), C'.own = ([("rules", ar), ("ways", aw)] : List (Str × Addr)) → C'.oa ar → (∀ y cls dx ds, μ'.lookup y ≠ some (.acc cls dx ds)) → Sep C' μ' "rules" (fun b => b = ar) := by
      intro C' μ' ho hoa hma
      refine ⟨fun b e => by rw [e]; exact hoa, fun y b hy hb e => ?_, fun y cls dx ds hy hm => absurd hm (hma _ _ _ _)⟩
      rw [ho] at hb
      rcases look2 hb with rfl | hb
      · simp at hy
      · exact hne (by rw [← (look1 hb).2]; exact e.symm)
    have sepW : ∀ (C' : Cx) (μ' : Mu), C'.own = ([("rules", ar), ("ways", aw)] : List (Str × Addr)) → C'.oa aw → (∀ y cls dx ds, μ'.lookup y ≠ some (.acc cls dx ds)) → Sep C' μ' "ways" (fun b => b = aw) := by
      intro C' μ' ho hoa hma
      refine ⟨fun b e => by rw [e]; exact hoa, fun y b hy hb e => ?_, fun y cls dx ds hy hm => absurd hm (hma _ _ _ _)⟩
      rw [ho] at hb
      rcases look2 hb with rfl | hb
      · exact hne (by have : ar = b := by simpa [List.lookup] using hb
                      rw [this]; exact e)
      · rw [(look1 hb).1] at hy; simp at hy
    have noacc2 : ∀ {k1 k2 : Str} {e1 e2 : List (Str × D)}, ∀ y cls dx ds, ([(k1, Own.dct e1), (k2, .dct e2)] : Mu).lookup y ≠ some (.acc cls dx ds) := by
      intro k1 k2 e1 e2 y cls dx ds h
      rw [List.lookup_cons] at h
      split at h
      · cases h
      · cases (look1 h).2
    have noacc3 : ∀ {k1 k2 k3 : Str} {e1 e2 e3 : List (Str × D)}, ∀ y cls dx ds, ([(k1, Own.dct e1), (k2, .dct e2), (k3, .dct e3)] : Mu).lookup y ≠ some (.acc cls dx ds) := by
      intro k1 k2 k3 e1 e2 e3 y cls dx ds h
      rw [List.lookup_cons] at h
      split at h
      · cases h
      · exact noacc2 _ _ _ _ h
    refine Ex_setitem_dct (a := ar) (es := rulesD (grR cells signs st)) (k := x) (d := .lst ([d0, d1].map fun r => .lst (r.1.map .str))) ?_ (Ev_name rfl) rfl rfl (sepR _ _ rfl (.inr (by simp [adrs, RK.adr])) noacc2) kR (by rw [hrlen, hsz]; lia) ?_
    · refine Ev_comp [d0, d1] (fun r => .tup [.lst (r.1.map .str), .int (r.2 : Nat)]) _ (fun r => [("rule", .tup [.lst (r.1.map .str), .int (r.2 : Nat)])]) (EvI_of (Ev_name rfl) ItrD_list) (comp_of (by rfl)) (fun _ _ => .name) (fun L s0 X x _ b hb => ?_) (fun L s0 X r _ => ?_) (show 2 ≤ sizeLine by decide)
      · rw [List.mem_singleton.mp hb]
        exact ⟨⟨.inl rfl, rfl⟩, rfl⟩
      · exact Ev_subscr (Ev_name rfl) Ev_int (sub_tup (j := 0) (by decide) (by decide) (by rfl) rfl)
    refine Ex_setitem_dct (a := aw) (es := natsD (grW cells signs st)) (k := x) (d := .int ([((d0).2 : Int), ((d1).2 : Int)] : List Int).sum) ?_ (Ev_name rfl) rfl rfl (sepW _ _ rfl (.inr (by simp [adrs, RK.adr])) noacc3) kW (by rw [hwlen, hsz]; lia) ?_
    · refine Ev_call_bi (by exact H.built (by rfl) (by rfl)) (Evs_cons ?_ Evs_nil) (call_sum_d (ns := [((d0).2 : Int), ((d1).2 : Int)]))
      refine Ev_comp [d0, d1] (fun r => .tup [.lst (r.1.map .str), .int (r.2 : Nat)]) (fun r => .int (r.2 : Nat)) (fun r => [("rule", .tup [.lst (r.1.map .str), .int (r.2 : Nat)])]) (EvI_of (Ev_name rfl) ItrD_list) (comp_of (by rfl)) (fun _ _ => .name) (fun L s0 X x _ b hb => ?_) (fun L s0 X r _ => ?_) (show 2 ≤ sizeLine by decide)
      · rw [List.mem_singleton.mp hb]
        exact ⟨⟨.inl rfl, rfl⟩, rfl⟩
      · exact Ev_subscr (Ev_name rfl) Ev_int (sub_tup (j := 1) (by decide) (by decide) (by rfl) rfl)
    refine Ex_nil fun s' I => ⟨st + 1, rfl, (I.sub (SubR.cons rfl (.cons rfl .nil)).sub).subMu fun y o e => ?_⟩
    rw [eR, eW] at e
    rcases look2 e with rfl | e'
    · have : o = _ := (Option.some.inj (e : some _ = some o)).symm
      subst this
      rfl
    · obtain ⟨rfl, rfl⟩ := look1 e'
      rfl
  · have hp' : st = 3 := hp
    subst hp'
    refine Ex_freeze (ρf := [("rules", .dct (rulesD (grR cells signs 3))), ("ways", .dct (natsD (grW cells signs 3)))]) (fun y d h => ?_) (Ex_ret (Ev_tuple (Evs_cons (Ev_name rfl) (Evs_cons (Ev_name rfl) Evs_nil)) (show 2 ≤ sizeLine by decide)) (fun s' v I r => retP_of I (fun a h => .inl h) r (fun b o h => by cases h)))
    rcases look2 h with rfl | h'
    · have : d = _ := (Option.some.inj (h : some _ = some d)).symm
      subst this
      exact ⟨ar, _, rfl, rfl, rfl, .inr (by simp [adrs, RK.adr]), fun q => hex ar (by simp [adrs, RK.adr]) (.inl q)⟩
    · obtain ⟨rfl, rfl⟩ := look1 h'
      exact ⟨aw, _, rfl, rfl, rfl, .inr (by simp [adrs, RK.adr]), fun q => hex aw (by simp [adrs, RK.adr]) (.inl q)⟩
end
end Mine
end

section
open PySem PySem.W PyProof.Rows PySem.Spec PySem.Calls PySem.Builtin PySem.Builtin.Str
set_option maxRecDepth 100000
namespace Mine
def tokS : List (String × Nat) := [("!", 54), ("!=", 28), ("%", 24), ("%=", 40), ("&", 19), ("&=", 41), ("(", 7), (")", 8), ("*", 16), ("**", 35), ("**=", 46), ("*=", 38), ("+", 14), ("+=", 36), (",", 12), ("-", 15), ("-=", 37), ("->", 51), (".", 23), ("...", 52), ("/", 17), ("//", 47), ("//=", 48), ("/=", 39), (":", 11), (":=", 53), (";", 13), ("<", 20), ("<<", 33), ("<<=", 44), ("<=", 29), ("=", 22), ("==", 27), (">", 21), (">=", 30), (">>", 34), (">>=", 45), ("@", 49), ("@=", 50), ("[", 9), ("]", 10), ("^", 32), ("^=", 43), ("{", 25), ("|", 18), ("|=", 42), ("}", 26), ("~", 31)]
def tokL : List (Str × Nat) := tokS.map fun e => (Str.ofString e.1, e.2)
def entsOf (o : Obj) : List DictEntry := match o.data with
  | .dict es _ => es.toList
  | _ => []
def entK (e : DictEntry) : Str × Int := match e.key, e.val with
  | .str k _, .int v _ => (k, v)
  | _, _ => ("", 0)
def entOk (e : DictEntry) : Bool := match e.key, e.val with
  | .str _ _, .int _ _ => true
  | _, _ => false
section
variable (w : World)
theorem o120k : (entsOf (objOf w 120)).map entK = tokL.map fun e => (e.1, (e.2 : Int)) := by kernel_rfl
theorem o120h : (entsOf (objOf w 120)).map (·.hash) = tokL.map fun e => hashStr w e.1 := by kernel_rfl
theorem o120o : (entsOf (objOf w 120)).all entOk = true := by kernel_rfl
theorem o120c : (objOf w 120).cls = .type "dict" ∧ (objOf w 120).dict = none ∧ (objOf w 120).slots = #[] ∧ (Kp w).lookup 120 = some (objOf w 120) := ⟨by kernel_rfl, by kernel_rfl, by kernel_rfl, by kernel_rfl⟩
def isDct (o : Obj) : Bool := match o.data with
  | .dict _ _ => true
  | _ => false
theorem o120d : isDct (objOf w 120) = true := by kernel_rfl
end
theorem Pairs_of {p : Program} {w : World} : ∀ {es : List DictEntry} {l : List (Str × Nat)}, es.map entK = l.map (fun e => (e.1, (e.2 : Int))) → es.map (·.hash) = l.map (fun e => hashStr w e.1) → es.all entOk = true →
    ∃ kvs : List (Str × Value), Pairs (PySem.strKind p w) es kvs ∧ (∀ e ∈ es, ∃ k, (PySem.strKind p w).is k e.key = true ∧ e.hash = (PySem.strKind p w).hash k) ∧ kvs.map (·.1) = l.map (·.1) ∧ RepE p w (fun _ _ => False) kvs (l.map fun e => (e.1, .int e.2))
  | [], [], _, _, _ => ⟨[], .nil, fun e h => (by cases h), rfl, .nil⟩
  | [], _ :: _, h, _, _ => by cases h
  | _ :: _, [], h, _, _ => by cases h
  | e :: es, (k, n) :: l, h1, h2, h3 => by
    rw [List.map_cons, List.map_cons] at h1 h2
    rw [List.all_cons, Bool.and_eq_true] at h3
    obtain ⟨a1, b1⟩ := List.cons.inj h1
    obtain ⟨a2, b2⟩ := List.cons.inj h2
    obtain ⟨kvs, q1, q2, q3, q4⟩ := Pairs_of (p := p) b1 b2 h3.2
    obtain ⟨hh, key, val⟩ := e
    have h4 := h3.1
    unfold entOk at h4
    unfold entK at a1
    dsimp only at h4 a1 a2
    cases key with
    | str x t =>
      cases val with
      | int v u =>
        dsimp only at a1
        obtain ⟨rfl, rfl⟩ := Prod.mk.inj a1
        refine ⟨(x, .int n u) :: kvs, .cons (strKind_is p w x t) rfl q1, fun e' he => ?_, by simp [q3], .cons (.int _ _) q4⟩
        rcases List.mem_cons.mp he with rfl | he
        · exact ⟨x, strKind_is p w x t, a2⟩
        · exact q2 e' he
      | _ => cases h4
    | _ => cases h4
theorem tok_nodup : (tokL.map (·.1)).Nodup := by decide +kernel
theorem tokTop {p : Program} {w : World} {hb : Heap} (H : Hp p w hb) : TopD p w hb "EXACT_TOKEN_TYPES" (tokL.map fun e => (e.1, .int e.2)) := by
  obtain ⟨c1, c2, c3, c4⟩ := o120c w
  have hd := o120d w
  have k1 := o120k w
  have k2 := o120h w
  have k3 := o120o w
  unfold isDct at hd
  unfold entsOf at k1 k2 k3
  split at hd
  · next es ep e =>
    rw [e] at k1 k2 k3
    obtain ⟨kvs, q1, q2, q3, q4⟩ := Pairs_of (p := p) k1 k2 k3
    exact ⟨⟨120, objOf w 120, kvs, H.glob (by rfl), H.X 120 _ c4, ⟨es, ep, ⟨c1, c2, c3⟩, e, fun e' he => q2 e' (by simpa using he), q1, by rw [q3]; exact tok_nodup⟩, c2, by decide +kernel, q4⟩⟩
  · cases hd
end Mine
end

section
open PySem PySem.W PyProof.Rows PySem.Spec PySem.Calls PySem.Builtin PySem.Builtin.Str
set_option maxRecDepth 100000
namespace Mine
section
variable {C : Cx} {ρ : Rho} {μ μ₁ : Mu} {N : Shared → Prop} {R : Value → Shared → Prop} {rest : List Stmt} {x st : Str} {a dx : Addr} {ds : List D}
theorem EvT_eq {e : Expr} {b b' : Bool} (h : EvT C ρ μ e b μ₁) (q : b = b') : EvT C ρ μ e b' μ₁ := q ▸ h
theorem Ex_mu {μ' : Mu} {ss : List Stmt} (k : Ex C ρ μ' ss N R) (h : ∀ x o, μ'.lookup x = some o → μ.lookup x = some o) : Ex C ρ μ ss N R := .mk fun s I => k.run s (I.subMu h)
theorem EvAs_of {es : List Expr} {ds : List D} (h : Evs C ρ μ es ds μ₁) : EvAs C ρ μ es (ds.map .im) μ₁ := .mk fun pos s I =>
  wpAny_mono (h.run pos s I) (fun vs s' h => ⟨h.1, argsAre_im h.2⟩) fun _ _ q => q
theorem reps_of_im {h : Heap} : ∀ {vs : List Value} {ds : List D}, ArgsAre C h vs (ds.map .im) → Reps C.p C.w (vw h C.ex) vs ds
  | [], [], _ => .nil
  | [], _ :: _, q => q.elim
  | _ :: _, [], q => q.elim
  | _ :: _, _ :: _, q => .cons q.1 (reps_of_im q.2)
theorem Ev_accfn (H : Hp C.p C.w C.hb) {f : Addr} {np sp pos : Pos} {es : List Expr} {as : List D} {d : D} {ds' : List D} (F : Fn C.w f) (g : nsIn (Kp C.w) mainGlobals x = some (some (.ref f))) (hargs : Evs C ρ μ es as μ) (m : AccM C f ds as d ds')
    (hμ : μ.lookup st = some (.acc 115 dx ds)) (hox : C.own.lookup st = some a) (sep : Sep C μ st (fun b => b = a ∨ b = dx))
    (hx : C.env.kindOf x = some .globalImplicit := by rfl) (he : ∀ env, starEach (.Name st sp :: es) env = (false, eval (.Name st sp) env) :: starEach es env := by intros; rfl)
    (hdb : (x == ("__debug__" : Str)) = false := by decide) (hd : (st == ("__debug__" : Str)) = false := by decide) (hn : (st == ("__classdict__" : Str)) = false := by decide) :
    Ev C ρ μ (.Call (.Name x np) (.Name st sp :: es) [] pos) d ((st, .acc 115 dx ds') :: μ) := .mk fun s I =>
  wpAny_Call_NameR (name_glob I (H.glob g) hx (callWith_def (o := objOf C.w f) F.dat (wpAny_mono ((EvAs_cons (EvA_ow hox hd hn) (EvAs_of hargs) he).run pos s I) (fun vs s₁ h₁ => by
    have I₁ := I.step h₁.1
    refine ⟨I₁.hbk _ _ (F.at H), ?_⟩
    match vs, h₁.2 with
    | v :: vs, q =>
      have q1 : v = .ref a := q.1
      subst q1
      obtain ⟨b, e1, r, hdx⟩ := I₁.owns st _ hμ
      rw [hox] at e1; cases e1
      exact wpAny_mono (m s₁ ρ μ a dx vs I₁ (I.ok.ownox st a (mem_of_lookup hox)) (sep.1 a (.inl rfl)) (hdx _ _ _ rfl) (sep.1 dx (.inr rfl)) r (reps_of_im q.2)) (fun v s' hr => by
        obtain ⟨q1, q2⟩ := acc_ret I₁ hμ hox sep hr
        exact ⟨h₁.1.trans q1, q2⟩) fun _ _ q => q) fun _ _ x => x) (he _)) hdb)
theorem AccM_of (H : Hp C.p C.w C.hb) {f : Addr} (F : Fn C.w f) {k : Nat} (hr : Room C.A k) {xs : List Str} {as : List D} {d : D} {ds' : List D}
    (hb : ∀ (s' : Shared) (vs : List Value), vs.length = as.length + 1 → (Kp C.w).In s'.heap → ∃ b, BindsTo s' (fdOf C.w f) ⟨vs, []⟩ b ∧ b = (st :: xs).zip vs) (hl : xs.length = as.length) (hn : (st :: xs).Nodup) (hst : (st :: xs).all (stoB (fdOf C.w f).scope.names) = true)
    (hk : ∀ L s a dx, Ex (fnCx C.p C.w C.A (fdOf C.w f) f L s (fun b => b = a ∨ b = dx) C.ex [(st, a)] C.ox C.hb) (xs.zip as) [(st, .acc 115 dx ds)] (bodyOf C.w f) (fun s' => RetP s (fun b => b = a ∨ b = dx) C.ex C.p C.w d [(a, .acc 115 dx ds')] .none s') (fun v s' => RetP s (fun b => b = a ∨ b = dx) C.ex C.p C.w d [(a, .acc 115 dx ds')] v s')) : AccM C f ds as d ds' := by
  intro s ρ μ a dx vs I o1 o2 o3 o4 ro rp
  have hlen := rp.length
  refine call_fnB (Q := fun v s' => RetP s (fun b => b = a ∨ b = dx) C.ex C.p C.w d [(a, .acc 115 dx ds')] v s') (binds := (st :: xs).zip (.ref a :: vs)) (xs := st :: xs) (vs := .ref a :: vs) (as := .ow a :: as.map .im) (mt := fun b => b = a ∨ b = dx) (μ₀ := [(st, .acc 115 dx ds)]) I (F.at H) F.dat (F.ok H) H.lim hr.lim
    (fun s' k => by obtain ⟨b, h1, h2⟩ := hb s' (.ref a :: vs) (by simp [hlen]) (H.X.keeps k); exact h2 ▸ h1) rfl ⟨rfl, argsAre_im rp⟩ (by simp [hl, hlen]) hn (sto_of hst) (fun i b e => ?_) (fun b hb => ?_) (fun y o e => ?_) (fun L => ?_)
  · have := List.mem_of_getElem? e
    simp at this; subst this; exact o1
  · rcases hb with rfl | rfl <;> assumption
  · obtain ⟨rfl, rfl⟩ := look1 e
    exact ⟨a, by show List.lookup y ((y, a) :: _) = _; simp, ro, fun cls dx' ds' q => by cases q; exact o3⟩
  · show Ex (fnCx C.p C.w C.A (fdOf C.w f) f L s _ C.ex ((st, a) :: argOwn xs (as.map .im)) C.ox C.hb) (argRho xs (as.map .im)) _ _ _ _
    rw [argOwn_im, argRho_im]
    exact hk L s a dx
end
/-- a stack: the pieces from the top -/
inductive Stk : List D → List Str → Prop
  | nil : Stk [] []
  | cons {ds : List D} {S : List Str} {f w : Str} : Stk ds S → Stk (ds ++ [.tup [.str f, .str w]]) (w :: S)
theorem Stk.len {ds : List D} {S : List Str} (h : Stk ds S) : ds.length = S.length := by
  induction h with
  | nil => rfl
  | cons _ ih => simp [ih]
def pushD (w : Str) : D := .tup [.str " ", .str w]
theorem Stk.push {ds : List D} {S : List Str} (h : Stk ds S) : ∀ ps : List Str, Stk (ds ++ ps.reverse.map pushD) (ps ++ S)
  | [] => by simpa using h
  | w :: ps => by
    have := (h.push ps).cons (f := " ") (w := w)
    simpa [pushD] using this
/-- what is spelled, within a number of steps -/
inductive Sp (rl : List (Str × List Str × List Str)) : Nat → List Str → List Nat → List (List Nat) → Prop
  | eof {k : Nat} {told : List Nat} : Sp rl k ["0"] told [told]
  | sign {k n : Nat} {w : Str} {S : List Str} {told : List Nat} {rows : List (List Nat)} : tokL.lookup w = some n → 1 ≤ n → n < 100 → Sp rl k S (told ++ [64 + n]) rows → Sp rl (k + 1) (w :: S) told rows
  | name {k : Nat} {v : Int} {w : Str} {S p0 p1 : List Str} {told : List Nat} {r0 r1 : List (List Nat)} : tokL.lookup w = none → PySem.intText? w = some v → 256 ≤ v → w.length ≤ 640 → rl.lookup w = some (p0, p1) →
      Sp rl k (p0 ++ S) told r0 → Sp rl k (p1 ++ S) told r1 → Sp rl (k + 1) (w :: S) told (r0 ++ r1)
theorem Sp.len {rl : List (Str × List Str × List Str)} {k : Nat} {S : List Str} {told : List Nat} {rows : List (List Nat)} (h : Sp rl k S told rows) : S.length ≤ k + 1 ∧ rows.length ≤ 2 ^ k := by
  induction h with
  | eof => exact ⟨by simp, by simpa using Nat.one_le_two_pow⟩
  | sign _ _ _ _ ih => exact ⟨by simp; lia, Nat.le_trans ih.2 (Nat.pow_le_pow_right (by decide) (by lia))⟩
  | name _ _ _ _ _ _ _ ih0 ih1 =>
    have := ih0.1
    rw [List.length_append] at this
    exact ⟨by simp; lia, by rw [List.length_append, Nat.pow_succ]; lia⟩
theorem Sp.mono {rl : List (Str × List Str × List Str)} {k : Nat} {S : List Str} {told : List Nat} {rows : List (List Nat)} (h : Sp rl k S told rows) : ∀ {k'}, k ≤ k' → Sp rl k' S told rows := by
  induction h with
  | eof => exact fun _ => .eof
  | sign h1 h2 h3 _ ih => intro k' hk; obtain ⟨j, rfl⟩ : ∃ j, k' = j + 1 := ⟨k' - 1, by lia⟩; exact .sign h1 h2 h3 (ih (by lia))
  | name h1 h2 h3 h4 h5 _ _ ih0 ih1 => intro k' hk; obtain ⟨j, rfl⟩ : ∃ j, k' = j + 1 := ⟨k' - 1, by lia⟩; exact .name h1 h2 h3 h4 h5 (ih0 (by lia)) (ih1 (by lia))
theorem rulesD_lookup {q : Str} {p0 p1 : List Str} : ∀ {l : List (Str × List Str × List Str)}, l.lookup q = some (p0, p1) → (rulesD l).lookup q = some (.lst [.lst (p0.map .str), .lst (p1.map .str)])
  | [], h => by cases h
  | (k, v) :: l, h => by
    rw [List.lookup_cons] at h
    show ((k, _) :: rulesD l).lookup q = _
    rw [List.lookup_cons]
    by_cases e : (q == k) = true
    · rw [e] at h ⊢; cases h; rfl
    · have e' : (q == k) = false := by simpa using e
      rw [e'] at h ⊢
      exact rulesD_lookup h
abbrev tokD : List (Str × D) := tokL.map fun e => (e.1, .int e.2)
theorem tokD_lookup {q : Str} : ∀ {l : List (Str × Nat)}, (natsD l).lookup q = (l.lookup q).map fun n => D.int n
  | [] => rfl
  | (k, v) :: l => by
    show ((k, D.int v) :: natsD l).lookup q = _
    rw [List.lookup_cons, List.lookup_cons]
    by_cases e : (q == k) = true
    · rw [e]; rfl
    · have e' : (q == k) = false := by simpa using e
      rw [e']; exact tokD_lookup
end Mine
end

section
open PySem PySem.W PyProof.Rows PySem.Spec PySem.Calls PySem.Builtin PySem.Builtin.Str
set_option maxRecDepth 100000
namespace Mine
section
variable {C : Cx} {ρ : Rho} {μ μ₁ : Mu} {N : Shared → Prop} {R : Value → Shared → Prop} {rest : List Stmt}
theorem nf59 {w : World} : nsIn (Kp w) 114 "push" = some (some (.ref 59)) := by rfl
theorem nf67 {w : World} : nsIn (Kp w) 114 "pop_from" = some (some (.ref 67)) := by rfl
theorem nf75 {w : World} : nsIn (Kp w) 114 "pop" = some (some (.ref 75)) := by rfl
theorem nf97 {w : World} : nsIn (Kp w) 114 "reset" = some (some (.ref 97)) := by rfl
theorem lks : sizeLine = 16777216 := sizeLine_eq
def rowsD (rows : List (List Nat)) : D := .lst (rows.map fun r => .str (mk r))
/-- the separation when the store alone is owned -/
theorem sep_st {a dx : Addr} (ho : C.own = [(("store" : Str), a)]) (h1 : C.oa a) (h2 : C.oa dx) (hm : ∀ y o, μ.lookup y = some o → y = "store") : Sep C μ "store" (fun b => b = a ∨ b = dx) :=
  sep_one (fun b q => by rcases q with rfl | rfl <;> assumption) (fun y b e => by rw [ho] at e; exact (look1 e).1) hm
set_option maxHeartbeats 4000000 in
theorem fn_spelled (rl : List (Str × List Str × List Str)) : ∀ (k : Nat) (C : Cx) (H : Hp C.p C.w C.hb) (hr : Room C.A (k + 4)) (S : List Str) (told : List Nat) (rows : List (List Nat)) (ds : List D), k ≤ 22 → told.length + k ≤ 100 → Sp rl k S told rows → Stk ds S →
    AccM C 162 ds [.dct (rulesD rl), .str (mk told)] (rowsD rows) [] := by
  intro k
  induction k using Nat.strongRecOn with
  | _ k ih =>
    intro C H hr S told rows ds hk ht hs hS
    refine AccM_of (st := "store") (xs := ["rules", "told"]) H fn162 hr (fun s' vs hl X => ?_) rfl (by decide) (by rfl) (fun L s a dx => ?_)
    · obtain ⟨v, u, z, rfl⟩ := len3 hl
      refine ⟨[("store", v), ("rules", u), ("told", z)], ?_, rfl⟩
      with_reducible exact bt162 X
    have hlen := hs.len.1
    have hdl := hS.len
    cases hS with
    | nil => cases hs
    | @cons ds S f w hS' =>
    have hdl2 : (ds ++ [D.tup [.str f, .str w]]).length < 1000 := by rw [hdl]; lia
    rw [List.length_append] at hdl
    rw [List.length_cons] at hlen hdl
    have hd3 : ds.length < 1000 := by rw [List.length_append] at hdl2; lia
    have hdz : ds.length ≤ sizeLine := by rw [lks]; lia
    have hr3 : ∀ j, j ≤ k + 3 → Room (fnCx C.p C.w C.A (fdOf C.w 162) 162 L s (fun b => b = a ∨ b = dx) C.ex [("store", a)] C.ox C.hb).A j := fun j hj => by
      have hr2 : Room (fnCx C.p C.w C.A (fdOf C.w 162) 162 L s (fun b => b = a ∨ b = dx) C.ex [("store", a)] C.ox C.hb).A (k + 3) := Room.deep hr
      exact ⟨by have := hr2.1; lia, by have := hr2.2; lia⟩
    refine Ex_assign (d := .str w) (Ev_subscr (Ev_acc_meth0 (a := a) (dx := dx) (ds := ds ++ [.tup [.str f, .str w]]) (ds' := ds) (d := .tup [.str f, .str w]) (by exact H) (acc_pop_ (by exact H) (hr3 2 (by lia)) (.inr rfl) hdl2) rfl rfl (sep_st rfl (.inl rfl) (.inr rfl) (fun y o e => (look1 e).1)) fn75 nf75 (by rfl) lk_pop (by decide +kernel)) Ev_int (sub_tup (j := 1) (by decide) (by decide) (by rfl) rfl)) ⟨.inl rfl, rfl⟩ ?_
    refine Ex_mu (μ' := [("store", .acc 115 dx ds)]) ?_ subMu1
    cases hs with
    | eof =>
      cases hS'
      have t0 : ((natsD tokL).lookup ("0" : Str)).isSome = false := by rw [tokD_lookup]; decide +kernel
      have t1 : PySem.intText? "0" = some 0 := by decide +kernel
      refine Ex_assign (d := .int 0) (Ev_if_ff (EvT_eq (EvT_in_o (Ev_name rfl) (EvO_top (es := natsD tokL) (by exact tokTop H))) t0) (Ev_call_ty (by exact H.built (by rfl) (by rfl)) (Evs_cons (Ev_name rfl) Evs_nil) (call_int_d t1 (by decide)))) ⟨.inl rfl, rfl⟩ ?_
      refine Ex_if_tt (EvT_eq (EvT_val (Ev_fn (by exact H) fn136 (by rfl) (Evs_cons (Ev_name rfl) Evs_nil) (fn_eof (by exact H) (hr3 1 (by lia)))) tru_bool) rfl) ?_
      refine Ex_ret (μ₁ := [("store", .acc 115 dx [])]) (d := rowsD [told]) (Ev_list (Evs_cons (Ev_name rfl) Evs_nil) (show 1 ≤ sizeLine by decide)) (fun s' v I r => retP_of I (fun a h => .inl h) r (fun b o h => by cases List.mem_singleton.mp h; exact ⟨"store", rfl, rfl⟩))
    | @sign j n _ _ _ _ h1 h2 h3 h4 =>
      have t0 : ((natsD tokL).lookup w).isSome = true := by rw [tokD_lookup, h1]; rfl
      have t1 : (natsD tokL).lookup w = some (.int n) := by rw [tokD_lookup, h1]; rfl
      refine Ex_assign (d := .int n) (Ev_if_tt (EvT_eq (EvT_in_o (Ev_name rfl) (EvO_top (es := natsD tokL) (by exact tokTop H))) t0) (Ev_subscr_o (EvO_top (es := natsD tokL) (by exact tokTop H)) (Ev_name rfl) (subO_dct t1))) ⟨.inl rfl, rfl⟩ ?_
      refine Ex_if_ff (EvT_eq (EvT_val (Ev_fn (by exact H) fn136 (by rfl) (Evs_cons (Ev_name rfl) Evs_nil) (fn_eof (by exact H) (hr3 1 (by lia)))) tru_bool) (by simp; lia)) ?_
      refine Ex_if_tt (EvT_eq (EvT_not (EvT_val (Ev_fn (by exact H) fn129 (by rfl) (Evs_cons (Ev_name rfl) Evs_nil) (fn_nonterm (by exact H) (hr3 1 (by lia)))) tru_bool)) (by simp; lia)) ?_
      have e1 : D.str (mk told ++ mk [((64 : Int) + (n : Int)).toNat]) = .str (mk (told ++ [64 + n])) := by
        rw [mk_app]; congr 4
      have e2 : (mk told).length + (mk [((64 : Int) + (n : Int)).toNat]).length ≤ sizeLine := by rw [mk_len, mk_len, lks]; simp; lia
      refine Ex_ret (Ev_accfn (by exact H) fn162 (by rfl) (Evs_cons (Ev_name rfl) (Evs_cons (Ev_eq (Ev_bin (Ev_name rfl) (Ev_call_bi (by exact H.built (by rfl) (by rfl)) (Evs_cons (Ev_bin Ev_int (Ev_name rfl) bin_add) Evs_nil) (call_chr_d (by lia) (by lia))) (bin_addstr e2)) e1) Evs_nil)) (ih j (by lia) _ (by exact H) (hr3 _ (by lia)) S _ rows ds (by lia) (by simp; lia) h4 hS') rfl rfl (sep_st rfl (.inl rfl) (.inr rfl) (fun y o e => (look1 e).1)))
        (fun s' v I r => retP_of I (fun a h => .inl h) r (fun b o h => by cases List.mem_singleton.mp h; exact ⟨"store", rfl, rfl⟩))
    | @name j v _ _ p0 p1 _ r0 r1 h1 h2 h3 h4 h5 h6 h7 =>
      have t0 : ((natsD tokL).lookup w).isSome = false := by rw [tokD_lookup, h1]; rfl
      have b0 := h6.len
      have b1 := h7.len
      rw [List.length_append] at b0 b1
      have hj : 2 ^ j ≤ 2 ^ 22 := Nat.pow_le_pow_right (by decide) (by lia)
      have hj2 : (2 : Nat) ^ 22 = 4194304 := by decide
      refine Ex_assign (d := .int v) (Ev_if_ff (EvT_eq (EvT_in_o (Ev_name rfl) (EvO_top (es := natsD tokL) (by exact tokTop H))) t0) (Ev_call_ty (by exact H.built (by rfl) (by rfl)) (Evs_cons (Ev_name rfl) Evs_nil) (call_int_d h2 h4))) ⟨.inl rfl, rfl⟩ ?_
      refine Ex_if_ff (EvT_eq (EvT_val (Ev_fn (by exact H) fn136 (by rfl) (Evs_cons (Ev_name rfl) Evs_nil) (fn_eof (by exact H) (hr3 1 (by lia)))) tru_bool) (by simp; lia)) ?_
      refine Ex_if_ff (EvT_eq (EvT_not (EvT_val (Ev_fn (by exact H) fn129 (by rfl) (Evs_cons (Ev_name rfl) Evs_nil) (fn_nonterm (by exact H) (hr3 1 (by lia)))) tru_bool)) (by simp; lia)) ?_
      refine Ex_tup_sw (xs := ["rest", "rows"]) (ds := [.lst ds, .lst []]) (Ev_tuple (Evs_cons (Ev_acc_meth0 (a := a) (dx := dx) (by exact H) (acc_pop_from (by exact H) (hr3 1 (by lia)) hdz) rfl rfl (sep_st rfl (.inl rfl) (.inr rfl) (fun y o e => (look1 e).1)) fn67 nf67 (by rfl) lk_pop_from (by decide +kernel)) (Evs_cons (Ev_list Evs_nil (show 0 ≤ sizeLine by decide)) Evs_nil)) (show 2 ≤ sizeLine by decide)) rfl (fun x hx => ?_) ?_
      · simp only [List.mem_cons, List.not_mem_nil, or_false] at hx
        rcases hx with rfl | rfl
        · exact ⟨.inl rfl, rfl⟩
        · exact ⟨.inl rfl, rfl⟩
      refine Ex_mu (μ' := [("store", .acc 115 dx [])]) ?_ subMu1
      refine Ex_for (σ := Nat) ([(p0, r0), (p1, r1)] : List (List Str × List (List Nat))) (fun x => .lst (x.1.map .str)) (fun x => [("parts", .lst (x.1.map .str))]) (fun i st => st = i)
        (fun i => [("rows", rowsD (([[], r0, r0 ++ r1] : List (List (List Nat))).getD i [])), ("rest", .lst ds), ("rules", .dct (rulesD rl)), ("told", .str (mk told))]) (fun _ => [("store", .acc 115 dx [])])
        (EvI_of (Ev_subscr (Ev_name rfl) (Ev_name rfl) (sub_dct (rulesD_lookup h5))) ItrD_list) (fun _ _ => .name) (fun x _ b hb => by rw [List.mem_singleton.mp hb]; exact ⟨.inl rfl, rfl⟩)
        ⟨0, rfl, (SubR.cons rfl (.cons rfl (.cons rfl (.cons rfl .nil)))).sub, rfl⟩ (fun X hX i x st hx hp => ?_) (fun st hp => ?_)
      · have hp' : st = i := hp
        subst hp'
        have hSp : Sp rl j (x.1 ++ S) told x.2 ∧ x.1.length ≤ 40 ∧ x.2.length ≤ 4194304 ∧ (([[], r0, r0 ++ r1] : List (List (List Nat))).getD st []).length ≤ 4194304 ∧ ([[], r0, r0 ++ r1] : List (List (List Nat))).getD (st + 1) [] = ([[], r0, r0 ++ r1] : List (List (List Nat))).getD st [] ++ x.2 := by
          match st, hx with
          | 0, hx => cases hx; exact ⟨h6, by show p0.length ≤ 40; lia, by show r0.length ≤ _; lia, by show 0 ≤ _; lia, by simp⟩
          | 1, hx => cases hx; exact ⟨h7, by show p1.length ≤ 40; lia, by show r1.length ≤ _; lia, by show r0.length ≤ _; lia, by simp⟩
          | i + 2, hx => cases hx
        obtain ⟨hs1, hs2, hs3, hs4, hs5⟩ := hSp
        generalize ([[], r0, r0 ++ r1] : List (List (List Nat))).getD st [] = done at hs4 hs5 ⊢
        obtain ⟨p, r⟩ := x
        dsimp only at hs1 hs2 hs3 hs5 ⊢
        refine Ex_expr (Ev_acc_meth (a := a) (dx := dx) (by exact H) (Evs_cons (Ev_name rfl) Evs_nil) (acc_reset (by exact H) (by exact hr3 1 (by lia)) (es := ds) (ds := []) (by rw [List.length_nil, Nat.zero_add]; exact hdz)) rfl rfl (sep_st rfl (.inl rfl) (.inr rfl) (fun y o e => (look1 e).1)) fn97 nf97 (by rfl) lk_reset (by decide +kernel)) ?_
        refine Ex_mu (μ' := [("store", .acc 115 dx ds)]) ?_ subMu1
        refine Ex_for (σ := Nat) p.reverse .str (fun q => [("part", .str q)]) (fun i st => st = i)
          (fun _ => [("rows", rowsD done), ("rest", .lst ds), ("rules", .dct (rulesD rl)), ("told", .str (mk told))]) (fun i => [("store", .acc 115 dx (ds ++ (p.reverse.take i).map pushD))])
          (EvI_of (Ev_eq (Ev_slice (Ev_name rfl) .none .none (.int (Ev_un Ev_int un_neg)) (sli_rev (by rw [lks]; simp; lia))) (by rw [List.map_reverse])) ItrD_list) (fun _ _ => .name) (fun x _ b hb => by rw [List.mem_singleton.mp hb]; exact ⟨.inl rfl, rfl⟩)
          ⟨0, rfl, (SubR.cons rfl (.cons rfl (.cons rfl (.cons rfl .nil)))).sub, by simp⟩ (fun X2 hX2 i2 x2 st2 hx2 hp2 => ?_) (fun st2 hp2 => ?_)
        · have hp2' : st2 = i2 := hp2
          subst hp2'
          have hlt : st2 < p.reverse.length := (List.getElem?_eq_some_iff.mp hx2).1
          refine Ex_expr (Ev_acc_meth (a := a) (dx := dx) (by exact H) (Evs_cons Ev_str (Evs_cons (Ev_name rfl) Evs_nil)) (acc_push (by exact H) (by exact hr3 1 (by lia)) (by rw [lks, List.length_append, List.length_map, List.length_take, List.length_reverse]; lia)) rfl rfl (sep_st rfl (.inl rfl) (.inr rfl) (fun y o e => (look1 e).1)) fn59 nf59 (by rfl) lk_push (by decide +kernel)) (Ex_nil fun s' I => ⟨st2 + 1, rfl, ?_⟩)
          have e5 : ds ++ (p.reverse.take (st2 + 1)).map pushD = (ds ++ (p.reverse.take st2).map pushD) ++ [.tup [.str " ", .str x2]] := by
            rw [List.take_succ, hx2, List.map_append, List.append_assoc]; rfl
          rw [e5]
          exact (I.sub (SubR.cons rfl (.cons rfl (.cons rfl (.cons rfl .nil)))).sub).subMu subMu1
        · have hp2' : st2 = p.reverse.length := hp2
          subst hp2'
          have e6 : p.reverse.take p.reverse.length = p.reverse := List.take_length
          rw [e6]
          have e7 : D.lst ((done.map fun r => D.str (mk r)) ++ (r.map fun r => D.str (mk r))) = rowsD (done ++ r) := by unfold rowsD; rw [List.map_append]
          have hz7 : (done.map fun r => D.str (mk r)).length + (r.map fun r => D.str (mk r)).length ≤ sizeLine := by rw [lks, List.length_map, List.length_map]; lia
          refine Ex_assign (d := rowsD (done ++ r)) (Ev_eq (Ev_bin (Ev_name rfl) (Ev_accfn (by exact H) fn162 (by rfl) (Evs_cons (Ev_name rfl) (Evs_cons (Ev_name rfl) Evs_nil)) (ih j (by lia) _ (by exact H) (by exact hr3 _ (by lia)) (p ++ S) told r _ (by lia) (by lia) hs1 (hS'.push p)) rfl rfl (sep_st rfl (.inl rfl) (.inr rfl) (fun y o e => (look1 e).1))) (bin_addlist hz7)) e7) ⟨.inl rfl, rfl⟩ (Ex_nil fun s' I => ⟨st + 1, rfl, ?_⟩)
          rw [hs5]
          exact (I.sub (SubR.cons rfl (.cons rfl (.cons rfl (.cons rfl .nil)))).sub).subMu subMu1
      · have hp' : st = 2 := hp
        subst hp'
        exact Ex_ret (Ev_name rfl) (fun s' v I r => retP_of I (fun a h => .inl h) r (fun b o h => by cases List.mem_singleton.mp h; exact ⟨"store", rfl, rfl⟩))
end
end Mine
end

section
open PySem PySem.W PyProof.Rows PySem.Spec PySem.Calls PySem.Builtin PySem.Builtin.Str
set_option maxRecDepth 100000
namespace Mine
def codeOf (signs : List Str) (p : Nat) : Nat := 64 + (tokL.lookup (signs.getD p "")).getD 0
def minT (a b : Tb) : Tb := fun st wd => min (a st wd) (b st wd)
theorem pairs_map {α : Type} (f g : α → D) : ∀ l : List α, pairs (l.map f) (l.map g) = l.map fun x => .tup [f x, g x]
  | [] => rfl
  | x :: l => by
    have := pairs_map f g l
    unfold pairs at this ⊢
    simp [this]
theorem join_mk (l : List Nat) : Txt.join "" (l.map fun c => mk [c]) = mk l := by
  show glued "" _ = _
  have h : ∀ (l : List Nat) (acc : Array Nat), (l.map fun c => mk [c]).foldl (fun acc p => acc ++ (Str.ofString "").cps ++ p.cps) acc = acc ++ l.toArray := by
    intro l
    induction l with
    | nil => intro acc; simp
    | cons c l ih =>
      intro acc
      rw [List.map_cons, List.foldl_cons, ih]
      apply Array.ext'
      have e0 : (Str.ofString "").cps = #[] := by decide
      rw [e0]
      simp [mk]
  cases l with
  | nil => rfl
  | cons c l =>
    unfold glued
    show (⟨(l.map fun c => mk [c]).foldl _ (mk [c]).cps⟩ : Str) = _
    rw [h]
    unfold mk
    congr 1
    apply Array.ext'
    simp
theorem join_ok {l : List Nat} (h : l.length ≤ 100) : JoinOk "" (l.map fun c => mk [c]) = true := by
  have key : ∀ (l : List Nat) (n : Nat), (l.map fun c => mk [c]).foldl (fun a x => a + x.length + (Str.ofString "").length) n = n + l.length := by
    intro l
    induction l with
    | nil => intro n; rfl
    | cons c l ih =>
      intro n
      rw [List.map_cons, List.foldl_cons, ih]
      have e0 : (Str.ofString "").length = 0 := by decide
      rw [e0, mk_len, List.length_cons]
      simp; lia
  unfold JoinOk
  rw [List.foldl_toArray, key]
  unfold tooLong
  rw [lks]
  simp; lia
/-- what is asked of one name -/
structure NameOk (rl : List (Str × List Str × List Str)) (wy : List (Str × Nat)) (text : List Nat) (ts : List (Str × Tb)) (nm : Str) (p0 p1 : List Str) (r0 r1 : List (List Nat)) : Prop where
  rule : rl.lookup nm = some (p0, p1)
  have0 : ∀ q ∈ p0, (ts.lookup q).isSome = true
  have1 : ∀ q ∈ p1, (ts.lookup q).isSome = true
  len0 : p0.length ≤ 10
  len1 : p1.length ≤ 10
  fresh : ts.lookup nm = none
  sp0 : Sp rl 22 (p0 ++ [("0" : Str)]) [] r0
  sp1 : Sp rl 22 (p1 ++ [("0" : Str)]) [] r1
  ne0 : 1 ≤ r0.length ∧ r0.length ≤ 100
  ne1 : 1 ≤ r1.length ∧ r1.length ≤ 100
  fit0 : ∀ r ∈ r0, r.length ≤ 6 ∧ ∀ c ∈ r, tooLong (Txt.lower (mk [c])).length = false
  fit1 : ∀ r ∈ r1, r.length ≤ 6 ∧ ∀ c ∈ r, tooLong (Txt.lower (mk [c])).length = false
  due : 0 ≤ ruleT ts p0 zeroT 0 4 ∧ ruleT ts p0 zeroT 0 4 ≤ 100
  min0 : minL (r0.map fun r => levF text r (ruleT ts p0 zeroT 0 4)) = ruleT ts p0 zeroT 0 4
  min1 : minL (r1.map fun r => levF text r 10) = ruleT ts p1 zeroT 0 4
  ways : wy.lookup nm = some (r0.length + r1.length)
theorem natsD_at {q : Str} {n : Nat} {l : List (Str × Nat)} (h : l.lookup q = some n) : (natsD l).lookup q = some (.int n) := by rw [tokD_lookup, h]; rfl
theorem tabsD_none {n : Nat} {q : Str} : ∀ {ts : List (Str × Tb)}, ts.lookup q = none → (tabsD n ts).lookup q = none
  | [], _ => rfl
  | (k, v) :: ts, h => by
    rw [List.lookup_cons] at h
    show ((k, tab n v) :: tabsD n ts).lookup q = _
    rw [List.lookup_cons]
    by_cases e : (q == k) = true
    · rw [e] at h; cases h
    · have e' : (q == k) = false := by simpa using e
      rw [e'] at h ⊢
      exact tabsD_none h
theorem tabsD_snoc {n : Nat} {ts : List (Str × Tb)} {k : Str} {t : Tb} : tabsD n (ts ++ [(k, t)]) = tabsD n ts ++ [(k, tab n t)] := by
  unfold tabsD; rw [List.map_append]; rfl
section
variable {C : Cx} {ρ : Rho} {μ μ₁ : Mu} {N : Shared → Prop} {R : Value → Shared → Prop} {rest : List Stmt}
theorem EvI_eq {iter target : Expr} {ds ds' : List D} (h : EvI C ρ μ iter target ds μ₁) (q : ds = ds') : EvI C ρ μ iter target ds' μ₁ := q ▸ h
theorem sep_st2 {a dx at_ : Addr} (ho : C.own = [(("store" : Str), a), ("tables", at_)]) (h1 : C.oa a) (h2 : C.oa dx) (n1 : at_ ≠ a) (n2 : at_ ≠ dx) (hm : ∀ y cls dx' ds, (y == ("store" : Str)) = false → μ.lookup y ≠ some (.acc cls dx' ds)) : Sep C μ "store" (fun b => b = a ∨ b = dx) := by
  refine ⟨fun b q => by rcases q with rfl | rfl <;> assumption, fun y b hy hb e => ?_, fun y cls dx' ds hy h => absurd h (hm y cls dx' ds hy)⟩
  rw [ho] at hb
  rcases look2 hb with rfl | hb
  · simp at hy
  · have := (look1 hb).2
    subst this
    rcases e with e | e
    · exact n1 e
    · exact n2 e
theorem sep_tb2 {a dx at_ : Addr} (ho : C.own = [(("store" : Str), a), ("tables", at_)]) (h1 : C.oa at_) (n1 : at_ ≠ a) (n2 : at_ ≠ dx) (hm : ∀ y cls dx' ds, μ.lookup y = some (.acc cls dx' ds) → dx' = dx) : Sep C μ "tables" (fun b => b = at_) := by
  refine ⟨fun b q => by rw [q]; exact h1, fun y b hy hb e => ?_, fun y cls dx' ds hy h e => ?_⟩
  · rw [ho] at hb
    rcases look2 hb with rfl | hb
    · have : a = b := by simpa [List.lookup] using hb
      rw [this] at n1
      exact n1 e.symm
    · rw [(look1 hb).1] at hy; simp at hy
  · have := hm y cls dx' ds h
    rw [this] at e
    exact n2 e.symm
end
end Mine
end

section
open PySem PySem.W PyProof.Rows PySem.Spec PySem.Calls PySem.Builtin PySem.Builtin.Str
set_option maxRecDepth 100000
namespace Mine
/-- the tables of the names, one after the other -/
def tsS (signs : List Str) (R : List Int) (i : Nat) : List (Str × Tb) := (List.range i).map fun (j : Nat) => (signs.getD j "", signT j R)
theorem subMuS {k : Str} {o o2 : Own} {l : Mu} : ∀ x o', ((k, o) :: l : Mu).lookup x = some o' → ((k, o) :: (k, o2) :: l : Mu).lookup x = some o' := by
  intro x o' h
  rw [List.lookup_cons] at h ⊢
  split at h
  · exact h
  · next e => rw [List.lookup_cons, e]; exact h
theorem noacc_st {dx : Addr} {ds : List D} {es : List (Str × D)} : ∀ y cls dx' ds', (y == ("store" : Str)) = false → ([("store", .acc 115 dx ds), ("tables", .dct es)] : Mu).lookup y ≠ some (.acc cls dx' ds') := by
  intro y cls dx' ds' hy h
  rcases look2 h with rfl | h
  · simp at hy
  · cases (look1 h).2
section
variable {C : Cx} {ρ : Rho} {μ μ₁ : Mu} {N : Shared → Prop} {R : Value → Shared → Prop} {rest : List Stmt}
noncomputable abbrev agC (C : Cx) (L : Addr) (s : Shared) (a dx tb : Addr) : Cx := mkC (fnCx C.p C.w C.A (fdOf C.w 182) 182 L s Nil C.ex [] C.ox C.hb) ["size", "store", "tables"] [.fl (.int 5), .ow a (.acc 115 dx []), .ow tb (.dct [])]
abbrev agR (text : List Nat) (signs : List Str) (rl : List (Str × List Str × List Str)) (wy : List (Str × Nat)) (Ri : List Int) : Rho := [("text", .str (mk text)), ("size", .int 5), ("signs", .lst (signs.map .str)), ("rules", .dct (rulesD rl)), ("ways", .dct (natsD wy)), ("row", .lst (Ri.map .int))]
abbrev agM (dx : Addr) (ts : List (Str × Tb)) : Mu := [("store", .acc 115 dx []), ("tables", .dct (tabsD 4 ts))]
def rowD (t : Tb) (st : Nat) : D := .lst ((List.range (4 + 1 - st)).map fun wd => D.int (t st wd))
theorem tab4 (t : Tb) : tab 4 t = .lst ((List.range (4 + 1)).map (rowD t)) := rfl
set_option maxHeartbeats 4000000 in
theorem agree_tail (H : Hp C.p C.w C.hb) (hr : Room C.A 30) {L : Addr} {s : Shared} {a dx tb : Addr} {signs : List Str} {rl : List (Str × List Str × List Str)} {wy : List (Str × Nat)} {Ri : List Int} {text : List Nat} {tsI : Nat → List (Str × Tb)} {pI : Nat → List Str × List Str} {rI : Nat → List (List Nat) × List (List Nat)}
    (n1 : tb ≠ a) (n2 : tb ≠ dx) (oa1 : (agC C L s a dx tb).oa a) (oa2 : (agC C L s a dx tb).oa dx) (oa3 : (agC C L s a dx tb).oa tb)
    (hr3 : ∀ j, j ≤ 28 → Room (agC C L s a dx tb).A j) (htl : text.length = 4) (hlow : ∀ c ∈ text, tooLong (Txt.lower (mk [c])).length = false)
    (hlen : ∀ i < 4, (tsI i).length ≤ 10) (htsS : ∀ i < 3, tsI (i + 1) = tsI i ++ [(grN.getD i "", minT (ruleT (tsI i) (pI i).1 zeroT) (ruleT (tsI i) (pI i).2 zeroT))])
    (hok : ∀ i < 3, NameOk rl wy text (tsI i) (grN.getD i "") (pI i).1 (pI i).2 (rI i).1 (rI i).2) :
    Ex (agC C L s a dx tb) (agR text signs rl wy Ri) (agM dx (tsI 0)) ((bodyOf C.w 182).drop 3) N (fun v s' => RetP s Nil C.ex C.p C.w (.bool true) [] v s') := by
  refine Ex_for (σ := Nat) grN .str (fun q => [("name", .str q)]) (fun i st => st = i) (fun _ => agR text signs rl wy Ri) (fun i => agM dx (tsI i))
    (EvI_of (Ev_list (Evs_cons Ev_str (Evs_cons Ev_str (Evs_cons Ev_str Evs_nil))) (show 3 ≤ sizeLine by decide)) ItrD_list) (fun _ _ => .name) (fun i _ b hb => by rw [List.mem_singleton.mp hb]; exact ⟨.inl rfl, rfl⟩)
    ⟨0, rfl, fun x d h => h, rfl⟩ (fun X hX i x st hx hp => ?_) (fun st hp => ?_)
  · have hp' : st = i := hp
    subst hp'
    have hi : st < 3 := (List.getElem?_eq_some_iff.mp hx).1
    have hxe : x = grN.getD st "" := by rw [List.getD_eq_getElem?_getD, hx]; rfl
    have ok := hok st hi
    have hS := htsS st hi
    have hl := hlen st (by lia)
    rw [← hxe] at ok hS
    generalize tsI st = ts at ok hl hS ⊢
    generalize (pI st).1 = p0 at ok hS
    generalize (pI st).2 = p1 at ok hS
    generalize (rI st).1 = r0 at ok
    generalize (rI st).2 = r1 at ok
    generalize ht0 : ruleT ts p0 zeroT = t0 at hS
    generalize ht1 : ruleT ts p1 zeroT = t1 at hS
    refine Ex_assign_comp ([(p0, t0), (p1, t1)] : List (List Str × Tb)) (fun x => .lst (x.1.map .str)) (fun x => tab 4 x.2) (fun x => [("parts", .lst (x.1.map .str))]) (EvI_of (Ev_subscr (Ev_name rfl) (Ev_name rfl) (sub_dct (rulesD_lookup ok.rule))) ItrD_list)
      (comp_of (by rfl)) (fun _ _ => .name) (fun L s0 X x _ b hb => ?_) (fun L s0 X c hc => ?_) (show 2 ≤ sizeLine by decide) ⟨.inl rfl, rfl⟩ ?_
    · rw [List.mem_singleton.mp hb]
      exact ⟨⟨.inl rfl, rfl⟩, rfl⟩
    · have hcc : (∀ q ∈ c.1, (ts.lookup q).isSome = true) ∧ ruleT ts c.1 zeroT = c.2 := by
        simp only [List.mem_cons, List.not_mem_nil, or_false] at hc
        rcases hc with rfl | rfl
        · exact ⟨ok.have0, ht0⟩
        · exact ⟨ok.have1, ht1⟩
      rw [← hcc.2]
      refine Ev_fnR (by exact H) fn177 (by rfl) (EvAs_cons (EvA_im (Ev_name rfl)) (EvAs_cons (EvA_ow (a := tb) (by rfl)) (EvAs_cons (EvA_im (Ev_name rfl)) EvAs_nil))) (fn_ruletab (n := 4) (ts := ts) (by exact H) (by exact hr3 3 (by decide)) (by decide) hcc.1) (fun a o h => ?_)
      rw [List.mem_singleton] at h
      obtain ⟨rfl, rfl⟩ := Prod.mk.inj h
      exact ⟨"tables", by rfl, by rfl⟩
    have hfr : (tabsD 4 ts).lookup x = none := tabsD_none ok.fresh
    have hz : (tabsD 4 ts).length ≤ sizeLine := by unfold tabsD; rw [List.length_map, lks]; lia
    have hd0 : ([(p0, t0), (p1, t1)] : List (List Str × Tb)).map (fun x => tab 4 x.2) = [tab 4 t0, tab 4 t1] := rfl
    rw [hd0]
    refine Ex_setitem_dct (a := tb) (es := tabsD 4 ts) (k := x) (d := tab 4 (minT t0 t1)) ?_ (Ev_name rfl) rfl rfl (sep_tb2 (a := a) (dx := dx) rfl oa3 n1 n2 (fun y cls dx' ds h => ?_)) hfr hz ?_
    · rw [tab4]
      refine Ev_comp (List.range (4 + 1)) (fun st => .tup [rowD t0 st, rowD t1 st]) (rowD (minT t0 t1)) (fun st => [("other", rowD t1 st), ("line", rowD t0 st)])
        (EvI_eq (EvI_zip (d1 := (List.range (4 + 1)).map (rowD t0)) (d2 := (List.range (4 + 1)).map (rowD t1)) (by exact H.built (by rfl) (by rfl)) (Evs_cons (Ev_subscr (Ev_name rfl) Ev_int (sub_list (d := tab 4 t0) (by decide) (by decide) rfl)) (Evs_cons (Ev_subscr (Ev_name rfl) Ev_int (sub_list (d := tab 4 t1) (by decide) (by decide) rfl)) Evs_nil))) (pairs_map _ _ _))
        (comp_of (by rfl)) (fun _ _ => .pair) (fun L s0 X x _ b hb => ?_) (fun L s0 X st hst => ?_) (show 5 ≤ sizeLine by decide)
      · simp only [List.mem_cons, List.not_mem_nil, or_false] at hb
        rcases hb with rfl | rfl
        · exact ⟨⟨.inl rfl, rfl⟩, rfl⟩
        · exact ⟨⟨.inl rfl, rfl⟩, rfl⟩
      · refine Ev_comp (List.range (4 + 1 - st)) (fun wd => .tup [.int (t0 st wd), .int (t1 st wd)]) (fun wd => .int (minT t0 t1 st wd)) (fun wd => [("two", .int (t1 st wd)), ("one", .int (t0 st wd))])
          (EvI_eq (EvI_zip (d1 := (List.range (4 + 1 - st)).map fun wd => D.int (t0 st wd)) (d2 := (List.range (4 + 1 - st)).map fun wd => D.int (t1 st wd)) (by exact H.built (by rfl) (by rfl)) (Evs_cons (Ev_name rfl) (Evs_cons (Ev_name rfl) Evs_nil))) (pairs_map _ _ _))
          (comp_of (by rfl)) (fun _ _ => .pair) (fun L s0 X x _ b hb => ?_) (fun L s0 X wd hwd => ?_) (by rw [lks, List.length_range]; lia)
        · simp only [List.mem_cons, List.not_mem_nil, or_false] at hb
          rcases hb with rfl | rfl
          · exact ⟨⟨.inl rfl, rfl⟩, rfl⟩
          · exact ⟨⟨.inl rfl, rfl⟩, rfl⟩
        · exact Ev_call_bi (by exact H.built (by rfl) (by rfl)) (Evs_cons (Ev_name rfl) (Evs_cons (Ev_name rfl) Evs_nil)) call_min2_d
    · rcases look2 h with rfl | h
      · have := (Option.some.inj (h : some _ = some _))
        cases this; rfl
      · cases (look1 h).2
    rw [← tabsD_snoc, ← hS]
    refine Ex_mu (μ' := agM dx (tsI (st + 1))) ?_ (fun y o e => ?_)
    · have hmc : ∀ (ct : Int) (c : Bool), True := fun _ _ => trivial
      refine Ex_assign (d := .int 0) Ev_int ⟨.inl rfl, rfl⟩ ?_
      refine Ex_for (σ := Nat) ([(p0, t0, r0, t0 0 4), (p1, t1, r1, 10)] : List (List Str × Tb × List (List Nat) × Int)) (fun x => .tup [.lst (x.1.map .str), tab 4 x.2.1]) (fun x => [("table", tab 4 x.2.1), ("parts", .lst (x.1.map .str))]) (fun i st => st = i)
        (fun i => ("count", .int (([0, r0.length, r0.length + r1.length] : List Nat).getD i 0 : Nat)) :: ("name", .str x) :: agR text signs rl wy Ri) (fun _ => agM dx (tsI (st + 1)))
        (EvI_eq (EvI_zip (d1 := [.lst (p0.map .str), .lst (p1.map .str)]) (d2 := [tab 4 t0, tab 4 t1]) (by exact H.built (by rfl) (by rfl)) (Evs_cons (Ev_subscr (Ev_name rfl) (Ev_name rfl) (sub_dct (rulesD_lookup ok.rule))) (Evs_cons (Ev_name rfl) Evs_nil))) (by rfl)) (fun _ _ => .pair) (fun y _ b hb => ?_)
        ⟨0, rfl, (SubR.cons rfl (.cons rfl (.cons rfl (.cons rfl (.cons rfl (.cons rfl (.cons rfl (.cons rfl .nil)))))))).sub, rfl⟩ (fun X2 hX2 i2 y st2 hy hp2 => ?_) (fun st2 hp2 => ?_)
      · simp only [List.mem_cons, List.not_mem_nil, or_false] at hb
        rcases hb with rfl | rfl
        · exact ⟨.inl rfl, rfl⟩
        · exact ⟨.inl rfl, rfl⟩
      · have hp2' : st2 = i2 := hp2
        subst hp2'
        have hF : Sp rl 22 (y.1 ++ [("0" : Str)]) [] y.2.2.1 ∧ y.1.length ≤ 10 ∧ (1 ≤ y.2.2.1.length ∧ y.2.2.1.length ≤ 100) ∧ (∀ r ∈ y.2.2.1, r.length ≤ 6 ∧ ∀ c ∈ r, tooLong (Txt.lower (mk [c])).length = false) ∧
            minL (y.2.2.1.map fun r => levF text r y.2.2.2) = y.2.1 0 4 ∧ (0 ≤ y.2.2.2 ∧ y.2.2.2 ≤ 100) ∧ y.2.2.2 = (if (((([0, r0.length, r0.length + r1.length] : List Nat).getD st2 0 : Nat) : Int) != 0) = true then 10 else y.2.1 0 4) ∧
            ([0, r0.length, r0.length + r1.length] : List Nat).getD (st2 + 1) 0 = ([0, r0.length, r0.length + r1.length] : List Nat).getD st2 0 + y.2.2.1.length := by
          have m0 := ok.min0; have m1 := ok.min1; have du := ok.due
          rw [ht0] at m0 du; rw [ht1] at m1
          match st2, hy with
          | 0, hy => cases hy; exact ⟨ok.sp0, ok.len0, ok.ne0, ok.fit0, m0, du, by rfl, by simp⟩
          | 1, hy => cases hy; exact ⟨ok.sp1, ok.len1, ok.ne1, ok.fit1, m1, (by show (0:Int) ≤ 10 ∧ (10:Int) ≤ 100; decide), by have := ok.ne0.1; show (10 : Int) = if ((r0.length : Int) != 0) = true then 10 else _; rw [if_pos (by rw [bne_iff_ne]; lia)], by simp⟩
          | i + 2, hy => cases hy
        obtain ⟨q1, q2, q3, q4, q5, q6, q7, q8⟩ := hF
        generalize ([0, r0.length, r0.length + r1.length] : List Nat).getD st2 0 = cnt at q7 q8 ⊢
        obtain ⟨p, t, r, mc⟩ := y
        dsimp only at q1 q2 q3 q4 q5 q6 q7 q8 ⊢
        refine Ex_assign (d := .int (t 0 4)) (Ev_tab2 (n := 4) (st := 0) (wd := 4) (Ev_name rfl) Ev_int (Ev_bin (Ev_name rfl) Ev_int bin_sub) (by rfl) (by rfl) (by decide) (by decide) (by decide)) ⟨.inl rfl, rfl⟩ ?_
        have hsep : ∀ (Y : Addr → Prop) (ds : List D), Sep (wX (wX (agC C L s a dx tb) X) X2) [("store", .acc 115 dx ds), ("tables", .dct (tabsD 4 (tsI (st + 1))))] "store" (fun b => b = a ∨ b = dx) := fun _ ds => sep_st2 rfl oa1 oa2 n1 n2 noacc_st
        refine Ex_expr (Ev_acc_meth (a := a) (dx := dx) (by exact H) (Evs_cons (Ev_list (Evs_cons (Ev_tuple (Evs_cons Ev_str (Evs_cons Ev_str Evs_nil)) (show 2 ≤ sizeLine by decide)) Evs_nil) (show 1 ≤ sizeLine by decide)) Evs_nil) (acc_reset (ds := []) (es := [.tup [.str "", .str "0"]]) (by exact H) (by exact hr3 1 (by decide)) (show 1 ≤ sizeLine by decide)) rfl rfl (hsep Nil _) fn97 nf97 (by rfl) lk_reset (by decide +kernel)) ?_
        refine Ex_mu (μ' := [("store", .acc 115 dx [.tup [.str "", .str "0"]]), ("tables", .dct (tabsD 4 (tsI (st + 1))))]) ?_ subMuS
        refine Ex_for (σ := Nat) p.reverse .str (fun q => [("part", .str q)]) (fun i st => st = i)
          (fun _ => ("due", .int (t 0 4)) :: ("count", .int (cnt : Nat)) :: ("name", .str x) :: agR text signs rl wy Ri) (fun i => [("store", .acc 115 dx ([.tup [.str "", .str "0"]] ++ (p.reverse.take i).map pushD)), ("tables", .dct (tabsD 4 (tsI (st + 1))))])
          (EvI_of (Ev_eq (Ev_slice (Ev_name rfl) .none .none (.int (Ev_un Ev_int un_neg)) (sli_rev (by rw [lks, List.length_map]; lia))) (by rw [List.map_reverse])) ItrD_list) (fun _ _ => .name) (fun x _ b hb => by rw [List.mem_singleton.mp hb]; exact ⟨.inl rfl, rfl⟩)
          ⟨0, rfl, (SubR.cons rfl (.cons rfl (.cons rfl (.cons rfl (.cons rfl (.cons rfl (.cons rfl (.cons rfl (.cons rfl .nil))))))))).sub, by simp⟩ (fun X3 hX3 i3 x3 st3 hx3 hp3 => ?_) (fun st3 hp3 => ?_)
        · have hp3' : st3 = i3 := hp3
          subst hp3'
          have hlt : st3 < p.reverse.length := (List.getElem?_eq_some_iff.mp hx3).1
          refine Ex_expr (Ev_acc_meth (a := a) (dx := dx) (by exact H) (Evs_cons Ev_str (Evs_cons (Ev_name rfl) Evs_nil)) (acc_push (by exact H) (by exact hr3 1 (by decide)) (by rw [lks, List.length_append, List.length_map, List.length_take, List.length_reverse, List.length_singleton]; lia)) rfl rfl (sep_st2 (a := a) (dx := dx) (at_ := tb) rfl oa1 oa2 n1 n2 noacc_st) fn59 nf59 (by rfl) lk_push (by decide +kernel)) (Ex_nil fun s' I => ⟨st3 + 1, rfl, ?_⟩)
          have e5 : [D.tup [.str "", .str "0"]] ++ (p.reverse.take (st3 + 1)).map pushD = ([D.tup [.str "", .str "0"]] ++ (p.reverse.take st3).map pushD) ++ [.tup [.str " ", .str x3]] := by
            rw [List.take_add_one, hx3, List.map_append, List.append_assoc]; rfl
          rw [e5]
          exact (I.sub (SubR.cons rfl (.cons rfl (.cons rfl (.cons rfl (.cons rfl (.cons rfl (.cons rfl (.cons rfl (.cons rfl .nil))))))))).sub).subMu subMuS
        · have hp3' : st3 = p.reverse.length := hp3
          subst hp3'
          have e6 : p.reverse.take p.reverse.length = p.reverse := List.take_length
          rw [e6]
          have hstk : Stk ([D.tup [.str "", .str "0"]] ++ p.reverse.map pushD) (p ++ [("0" : Str)]) := (Stk.cons (f := "") (w := "0") .nil).push p
          refine Ex_assign (d := rowsD r) (Ev_accfn (by exact H) fn162 (by rfl) (Evs_cons (Ev_name rfl) (Evs_cons (Ev_eq (d' := .str (mk [])) Ev_str (by rfl)) Evs_nil)) (fn_spelled rl 22 _ (by exact H) (by exact hr3 26 (by decide)) _ [] r _ (by decide) (by decide) q1 hstk) rfl rfl (hsep Nil _)) ⟨.inl rfl, rfl⟩ ?_
          refine Ex_mu (μ' := agM dx (tsI (st + 1))) ?_ subMuS
          refine Ex_assign (d := .int mc) (Ev_eq (Ev_if (EvT_val (Ev_name rfl) tru_int) (fun _ => Ev_bin Ev_int (Ev_name rfl) (bin_mul (.of_left (intBits_le_64 (by decide) (by decide))))) (fun _ => Ev_name rfl)) ?_) ⟨.inr ⟨by rfl, _, by rfl, .inr ⟨"bound", mem_of_lookup (by rfl)⟩⟩, rfl⟩ ?_
          · rw [q7]; split <;> rfl
          have hrl : (r.map fun r => D.str (mk r)).length = r.length := by simp
          refine Ex_assign (d := .int ((cnt + r.length : Nat) : Int)) (Ev_eq (Ev_bin (Ev_name rfl) (Ev_len_d (by exact H) (Ev_name rfl) hrl (by lia)) bin_add) (by simp)) ⟨.inl rfl, rfl⟩ ?_
          refine Ex_if_ff (μ₁ := ("store", .acc 115 dx []) :: agM dx (tsI (st + 1))) (EvT_or_ff (μ₁ := ("store", .acc 115 dx []) :: agM dx (tsI (st + 1))) (EvT_eq (EvT_cmp (Ev_acc_meth0 (a := a) (dx := dx) (ds := []) (ds' := []) (d := .tup [.str "", .str ""]) (by exact H) (acc_pop_ (by exact H) (by exact hr3 2 (by decide)) (.inl ⟨rfl, rfl, rfl⟩) (by decide)) rfl rfl (hsep Nil _) fn75 nf75 (by rfl) lk_pop (by decide +kernel)) (Ev_tuple (Evs_cons Ev_str (Evs_cons Ev_str Evs_nil)) (show 2 ≤ sizeLine by decide)) (cmp_ne_tup_strs (x := ["", ""]) (y := ["", ""]) ?_ rfl)) (by rfl))
            (EvT_or_ff (EvT_eq (EvT_cmp (Ev_call_bi (by exact H.built (by rfl) (by rfl)) (Evs_cons (d := .lst ((r.map fun x => levF text x mc).map .int)) (Ev_eq (d := .lst (r.map fun x => .int (levF text x mc))) ?_ (by simp)) Evs_nil) (call_minl_d (ns := r.map fun x => levF text x mc) ?_)) (Ev_name rfl) cmp_ne_int) (by rw [q5]; simp)) EvT_or_nil)) (Ex_nil fun s' I => ⟨st2 + 1, rfl, ?_⟩)
          · have := (hr3 1 (by decide)).2
            show (agC C L s a dx tb).A.units < 9900
            lia
          · refine Ev_comp r (fun x => .str (mk x)) (fun x => .int (levF text x mc)) (fun x => [("told", .str (mk x))]) (EvI_of (Ev_name rfl) ItrD_list) (comp_of (by rfl)) (fun _ _ => .name) (fun L s0 X x _ b hb => ?_) (fun L s0 X x hx => ?_) (by rw [lks]; lia)
            · rw [List.mem_singleton.mp hb]
              exact ⟨⟨.inl rfl, rfl⟩, rfl⟩
            · exact Ev_fn (by exact H) fn35 (by rfl) (Evs_cons (Ev_name rfl) (Evs_cons (Ev_name rfl) (Evs_cons (Ev_name rfl) Evs_nil))) (fn_lev (by exact H) (by exact hr3 3 (by decide)) (by lia) (q4 x hx).1 (fun c hc => hc.elim (hlow c) ((q4 x hx).2 c)) q6)
          · intro e
            have : r.length = 0 := by simpa using congrArg List.length e
            lia
          · rw [q8]
            exact (I.sub (SubR.cons rfl (.cons rfl (.cons rfl (.cons rfl (.cons rfl (.cons rfl (.cons rfl (.cons rfl .nil)))))))).sub).subMu subMuS
      · have hp2' : st2 = 2 := hp2
        subst hp2'
        refine Ex_if_ff (EvT_eq (EvT_cmp (Ev_name rfl) (Ev_subscr (Ev_name rfl) (Ev_name rfl) (sub_dct (natsD_at ok.ways))) cmp_ne_int) (by simp)) (Ex_nil fun s' I => ⟨st + 1, rfl, I.sub (SubR.cons rfl (.cons rfl (.cons rfl (.cons rfl (.cons rfl (.cons rfl .nil)))))).sub⟩)
    · rcases look2 e with rfl | e'
      · exact e
      · obtain ⟨rfl, rfl⟩ := look1 e'
        rfl
  · have hp' : st = 3 := hp
    subst hp'
    exact Ex_ret (d := .bool true) Ev_bool (fun s' v I r => retP_of I (fun a h => .inl h) r (fun b o h => by cases h))
end
end Mine
end

section
open PySem PySem.W PyProof.Rows PySem.Spec PySem.Calls PySem.Builtin PySem.Builtin.Str
set_option maxRecDepth 100000
namespace Mine
section
variable {C : Cx} {ρ : Rho} {μ μ₁ : Mu} {N : Shared → Prop} {R : Value → Shared → Prop} {rest : List Stmt}
set_option maxHeartbeats 4000000 in
theorem fn_agree (H : Hp C.p C.w C.hb) (hr : Room C.A 30) {signs : List Str} {rl : List (Str × List Str × List Str)} {wy : List (Str × Nat)} {R : List Nat} {text : List Nat} {tsI : Nat → List (Str × Tb)} {pI : Nat → List Str × List Str} {rI : Nat → List (List Nat) × List (List Nat)}
    (hs : signs.length = 4) (hsn : ∀ i < 4, signs.getD i "" ∉ (List.range i).map fun j => signs.getD j "") (hst : ∀ i < 4, ∃ n, tokL.lookup (signs.getD i "") = some n ∧ n < 100) (hR : R.length = 4) (hRb : ∀ p ∈ R, p < 4) (ht : text = R.map (codeOf signs)) (hlow : ∀ c ∈ text, tooLong (Txt.lower (mk [c])).length = false)
    (hts0 : tsI 0 = tsS signs (R.map fun (p : Nat) => (p : Int)) 4) (hlen : ∀ i < 4, (tsI i).length ≤ 10) (htsS : ∀ i < 3, tsI (i + 1) = tsI i ++ [(grN.getD i "", minT (ruleT (tsI i) (pI i).1 zeroT) (ruleT (tsI i) (pI i).2 zeroT))])
    (hok : ∀ i < 3, NameOk rl wy text (tsI i) (grN.getD i "") (pI i).1 (pI i).2 (rI i).1 (rI i).2) (hsys : ∃ b o, sysModules ≤ b ∧ C.hb.get? b = some o) :
    FnD C 182 [.lst (signs.map .str), .dct (rulesD rl), .dct (natsD wy), .lst ((R.map fun (p : Nat) => (p : Int)).map .int)] (.bool true) := by
  refine FnD_of H fn182 hr (xs := ["signs", "rules", "ways", "row"]) (fun s' vs hl X => ?_) rfl (by decide) (by rfl) (fun L s => ?_)
  · obtain ⟨v, u, z, y, rfl⟩ := len4 hl
    refine ⟨[("signs", v), ("rules", u), ("ways", z), ("row", y)], ?_, rfl⟩
    with_reducible exact bt182 X
  have hr3 : ∀ j, j ≤ 28 → Room (fnCx C.p C.w C.A (fdOf C.w 182) 182 L s Nil C.ex [] C.ox C.hb).A j := fun j hj => by
    have hr2 : Room (fnCx C.p C.w C.A (fdOf C.w 182) 182 L s Nil C.ex [] C.ox C.hb).A 29 := Room.deep hr
    exact ⟨by have := hr2.1; lia, by have := hr2.2; lia⟩
  generalize hRi : R.map (fun (p : Nat) => (p : Int)) = Ri at hts0 ⊢
  have hRl : (Ri.map D.int).length = 4 := by rw [← hRi]; simp [hR]
  refine Ex_make' (xs := ["size", "store", "tables"]) (Mks_cons (Mk1_fl (d := .int 5) (Ev_eq (Ev_bin (Ev_len_d (by exact H) (Ev_name rfl) hRl (by decide)) Ev_int bin_add) (by rfl)) (fun _ q => q)) (Mks_cons (Mk1_acc (by exact H) (hr3 2 (by decide))) (Mks_cons (Mk1_dict0 (by exact hsys)) Mks_nil))) (by rfl) (fun rs h => ?_) (by decide) (fun x hx => ?_) (fun rs hsh hnd hex => ?_)
  · obtain ⟨_, _, rfl, _, _, _, rfl, _, _, _, rfl, _, rfl⟩ := h; rfl
  · simp only [List.mem_cons, List.not_mem_nil, or_false] at hx
    rcases hx with rfl | rfl | rfl
    · exact ⟨.inr ⟨by rfl, _, by rfl, .inr ⟨"size", mem_of_lookup (by rfl)⟩⟩, rfl⟩
    · exact ⟨.inl rfl, rfl⟩
    · exact ⟨.inr ⟨by rfl, _, by rfl, .inr ⟨"tables", mem_of_lookup (by rfl)⟩⟩, rfl⟩
  obtain ⟨_, _, rfl, rfl, _, _, rfl, ⟨a, dx, rfl⟩, _, _, rfl, ⟨tb, rfl⟩, rfl⟩ := hsh
  have hnd' : [a, dx, tb].Nodup := hnd
  have n1 : tb ≠ a := by simp at hnd'; exact fun e => hnd'.1.2 e.symm
  have n2 : tb ≠ dx := by simp at hnd'; exact fun e => hnd'.2 e.symm
  have oa1 : (mkC (fnCx C.p C.w C.A (fdOf C.w 182) 182 L s Nil C.ex [] C.ox C.hb) ["size", "store", "tables"] [.fl (.int 5), .ow a (.acc 115 dx []), .ow tb (.dct [])]).oa a := .inr (by simp [adrs, RK.adr])
  have oa2 : (mkC (fnCx C.p C.w C.A (fdOf C.w 182) 182 L s Nil C.ex [] C.ox C.hb) ["size", "store", "tables"] [.fl (.int 5), .ow a (.acc 115 dx []), .ow tb (.dct [])]).oa dx := .inr (by simp [adrs, RK.adr])
  have oa3 : (mkC (fnCx C.p C.w C.A (fdOf C.w 182) 182 L s Nil C.ex [] C.ox C.hb) ["size", "store", "tables"] [.fl (.int 5), .ow a (.acc 115 dx []), .ow tb (.dct [])]).oa tb := .inr (by simp [adrs, RK.adr])
  have hsg : ∀ p < 4, (signs.map D.str)[((p : Nat) : Int).toNat]? = some (.str (signs.getD p "")) := fun p hp => by
    have h4 : p < signs.length := by lia
    rw [List.getElem?_map, Int.toNat_natCast, List.getD_eq_getElem?_getD, List.getElem?_eq_getElem h4]; rfl
  have htl : text.length = 4 := by rw [ht]; simp [hR]
  refine Ex_assign (μ₁ := [("store", .acc 115 dx []), ("tables", .dct [])]) (d := .str (mk text)) (Ev_eq (Ev_join (ts := text.map fun c => mk [c]) Ev_str (Ev_eq (d := .lst (R.map fun p => .str (mk [codeOf signs p]))) ?_ (by rw [ht]; simp [Function.comp_def])) (join_ok (by lia))) (by rw [join_mk])) ⟨.inr ⟨by rfl, _, by rfl, .inr ⟨"text", mem_of_lookup (by rfl)⟩⟩, rfl⟩ ?_
  · refine Ev_comp R (fun (p : Nat) => D.int (p : Int)) (fun p => .str (mk [codeOf signs p])) (fun (p : Nat) => [("place", .int (p : Int))]) (EvI_eq (EvI_of (Ev_name rfl) ItrD_list) (by rw [← hRi]; simp [Function.comp_def])) (comp_of (by rfl)) (fun _ _ => .name) (fun L s0 X x _ b hb => ?_) (fun L s0 X p hp => ?_) (by rw [hR, lks]; decide)
    · rw [List.mem_singleton.mp hb]
      exact ⟨⟨.inl rfl, rfl⟩, rfl⟩
    · have hp4 := hRb p hp
      obtain ⟨n, hn, hnb⟩ := hst p hp4
      have t1 : (natsD tokL).lookup (signs.getD p "") = some (.int n) := by rw [tokD_lookup, hn]; rfl
      have e1 : D.str (mk [((64 : Int) + (n : Int)).toNat]) = .str (mk [codeOf signs p]) := by
        unfold codeOf
        rw [hn]
        congr 3
      exact Ev_eq (Ev_call_bi (by exact H.built (by rfl) (by rfl)) (Evs_cons (Ev_bin Ev_int (Ev_subscr_o (EvO_top (es := natsD tokL) (by exact tokTop H)) (Ev_subscr (Ev_name rfl) (Ev_name rfl) (sub_list (by lia) (by lia) (hsg p hp4))) (subO_dct t1)) bin_add) Evs_nil) (call_chr_d (by lia) (by lia))) e1
  refine Ex_for (σ := Nat) (List.range 4) (fun i => D.int (0 + (i : Int))) (fun i => [("place", .int (0 + (i : Int)))]) (fun i st => st = i)
    (fun _ => [("text", .str (mk text)), ("size", .int 5), ("signs", .lst (signs.map .str)), ("rules", .dct (rulesD rl)), ("ways", .dct (natsD wy)), ("row", .lst (Ri.map .int))]) (fun i => [("store", .acc 115 dx []), ("tables", .dct (tabsD 4 (tsS signs Ri i)))])
    (EvI_range (n := 4) (by exact H) Ev_int (by decide)) (fun _ _ => .name) (fun i _ b hb => by rw [List.mem_singleton.mp hb]; exact ⟨.inl rfl, rfl⟩)
    ⟨0, rfl, (SubR.cons rfl (.cons rfl (.cons rfl (.cons rfl (.cons rfl (.cons rfl .nil)))))).sub, rfl⟩ (fun X hX i x st hx hp => ?_) (fun st hp => ?_)
  · have hp' : st = i := hp
    subst hp'
    obtain ⟨rfl, hi⟩ := range_get hx
    have hfr : (tabsD 4 (tsS signs Ri x)).lookup (signs.getD x "") = none := tabsD_none (lookup_none_names (by unfold tsS; rw [List.map_map]; exact hsn x hi))
    have hz : (tabsD 4 (tsS signs Ri x)).length ≤ sizeLine := by unfold tabsD tsS; rw [List.length_map, List.length_map, List.length_range, lks]; lia
    have z0 : (0 + (x : Int)) = ((x : Nat) : Int) := by lia
    have hsx : (signs.map D.str)[(0 + (x : Int)).toNat]? = some (.str (signs.getD x "")) := by rw [z0]; exact hsg x hi
    have hRil : Ri.length = 4 := by rw [← hRi]; simp [hR]
    refine Ex_setitem_dct (a := tb) (es := tabsD 4 (tsS signs Ri x)) (k := signs.getD x "") (d := tab 4 (signT x Ri)) (Ev_eq (Ev_fn (by exact H) fn172 (by rfl) (Evs_cons (Ev_name rfl) (Evs_cons (Ev_name rfl) Evs_nil)) (fn_signtab (by exact H) (by exact hr3 3 (by decide)) (by lia))) (by rw [hRil, z0])) (Ev_subscr (Ev_name rfl) (Ev_name rfl) (sub_list (by lia) (by lia) hsx)) rfl rfl
      (sep_tb2 (a := a) (dx := dx) rfl oa3 n1 n2 (fun y cls dx' ds h => ?_)) hfr hz (Ex_nil fun s' I => ⟨x + 1, rfl, ?_⟩)
    · rcases look2 h with rfl | h
      · have := (Option.some.inj (h : some _ = some _))
        cases this; rfl
      · cases (look1 h).2
    · have e1 : tabsD 4 (tsS signs Ri (x + 1)) = tabsD 4 (tsS signs Ri x) ++ [(signs.getD x "", tab 4 (signT x Ri))] := by
        unfold tsS; rw [List.range_succ, List.map_append]; exact tabsD_snoc
      rw [e1]
      refine (I.sub (SubR.cons rfl (.cons rfl (.cons rfl (.cons rfl (.cons rfl (.cons rfl .nil)))))).sub).subMu fun y o e => ?_
      rcases look2 e with rfl | e'
      · exact e
      · obtain ⟨rfl, rfl⟩ := look1 e'
        rfl
  · have hp' : st = 4 := hp
    subst hp'
    rw [← hts0]
    exact agree_tail (by exact H) hr n1 n2 oa1 oa2 oa3 hr3 htl hlow hlen htsS hok
end
end Mine
end

section
open PySem PySem.W PyProof.Rows PySem.Spec PySem.Calls PySem.Builtin PySem.Builtin.Str
set_option maxRecDepth 100000
namespace Mine
def baseL : List Nat := [0, 1, 68, 11, 77, 593, 33911]
def slN (ns : List Int) (i : Nat) : List Int := (sliceRange (sliceBounds (some (0 + (i : Int))) (some 14) (some 7) ns.length).1 (sliceBounds (some (0 + (i : Int))) (some 14) (some 7) ns.length).2.1 (sliceBounds (some (0 + (i : Int))) (some 14) (some 7) ns.length).2.2).filterMap (ns[·]?)
def cellN (ns : List Int) (i : Nat) : Nat := baseL.getD i 0 + ((slN ns i).sum.fmod 1000000).toNat
def lawCells (ns : List Int) : List Nat := (List.range 7).map (cellN ns)
def lawSigns (T : Nat) : List Str := pairOf (T % 16) ++ pairOf ((T + 1 + T / 16 % 15) % 16)
def lawRow (T : Nat) : List Nat := (List.range 4).map fun p => T / 240 / 4 ^ p % 4
/-- what the plain law owes -/
structure Plain (cells : List Nat) (signs : List Str) (R : List Nat) (tsI : Nat → List (Str × Tb)) (pI : Nat → List Str × List Str) (rI : Nat → List (List Nat) × List (List Nat)) : Prop where
  hs : signs.length = 4
  hsn : ∀ i < 4, signs.getD i "" ∉ (List.range i).map fun j => signs.getD j ""
  hst : ∀ i < 4, ∃ n, tokL.lookup (signs.getD i "") = some n ∧ n < 100
  hlow : ∀ c ∈ R.map (codeOf signs), tooLong (Txt.lower (mk [c])).length = false
  hts0 : tsI 0 = tsS signs (R.map fun (p : Nat) => (p : Int)) 4
  hlen : ∀ i < 4, (tsI i).length ≤ 10
  htsS : ∀ i < 3, tsI (i + 1) = tsI i ++ [(grN.getD i "", minT (ruleT (tsI i) (pI i).1 zeroT) (ruleT (tsI i) (pI i).2 zeroT))]
  hok : ∀ i < 3, NameOk (grR cells signs 3) (grW cells signs 3) (R.map (codeOf signs)) (tsI i) (grN.getD i "") (pI i).1 (pI i).2 (rI i).1 (rI i).2

noncomputable def lawCx (p : Program) (w : World) (A : Around) (L fa : Addr) (cd : Value) (s0 : Shared) : Cx :=
  { p := p, w := w, A := A, env := envOfC "law" (fdOf w 187).scope L fa cd, s0 := s0, mt := Nil, X := Nil, own := [], oa := Nil, ox := Nil, fa := cpFa (fdOf w 187).scope L, hb := s0.heap }
theorem baseL_len : baseL.length = 7 := rfl
theorem baseL_le : ∀ i : Fin 7, baseL.getD i.1 0 ≤ 33911 := by decide
theorem cellN_lt (ns : List Int) {i : Nat} (hi : i < 7) : cellN ns i < 1073741824 := by
  have h2 : baseL.getD i 0 ≤ 33911 := baseL_le ⟨i, hi⟩
  have h1 : (slN ns i).sum.fmod 1000000 < 1000000 := Int.fmod_lt_of_pos _ (by decide)
  unfold cellN
  generalize (slN ns i).sum.fmod 1000000 = x at h1
  generalize baseL.getD i 0 = y at h2
  lia
set_option maxHeartbeats 4000000 in
theorem law_ex {p : Program} {w : World} {A : Around} {L fa : Addr} {cd : Value} {s0 : Shared} {ns : List Int} (H : Hp p w s0.heap) (hr : Room A 50) (hns : ns.length ≤ 63) (hsys : ∃ b o, sysModules ≤ b ∧ s0.heap.get? b = some o)
    (PL : ∀ T cells, cells.length = 7 → ∃ tsI pI rI, Plain cells (lawSigns T) (lawRow T) tsI pI rI) {N : Shared → Prop} :
    Ex (lawCx p w A L fa cd s0) [("script", .lst (ns.map .int))] [] (bodyOf w 187) N (fun v s' => v = .bool true ∧ Grow Nil s0 s') := by
  have hr3 : ∀ j, j ≤ 50 → Room (lawCx p w A L fa cd s0).A j := fun j hj => ⟨by have := hr.1; show A.depth + j < 900; lia, by have := hr.2; show A.units + 10 * j < 9000; lia⟩
  have hcl : (lawCells ns).length = 7 := by simp [lawCells]
  refine Ex_assign_comp (List.range 7) (fun i => D.int (0 + (i : Int))) (fun i => .int (cellN ns i : Nat)) (fun i => [("place", .int (0 + (i : Int)))]) (EvI_range (n := 7) (by exact H) Ev_int (by decide)) (comp_of (by rfl)) (fun _ _ => .name) (fun L s1 X x _ b hb => ?_) (fun L s1 X i hi => ?_) (show 7 ≤ sizeLine by decide) ⟨.inl rfl, rfl⟩ ?_
  · rw [List.mem_singleton.mp hb]
    exact ⟨⟨.inl rfl, rfl⟩, rfl⟩
  · have hi7 : i < 7 := List.mem_range.mp hi
    have z0 : (0 + (i : Int)) = ((i : Nat) : Int) := by lia
    have hb : ((baseL.map fun (n : Nat) => D.int n))[(0 + (i : Int)).toNat]? = some (.int (baseL.getD i 0 : Nat)) := by
      have : i < baseL.length := hi7
      rw [z0, Int.toNat_natCast, List.getElem?_map, List.getD_eq_getElem?_getD, List.getElem?_eq_getElem this]; rfl
    have hsl : ∀ A' : Around, SliD p w A' s0.heap (.lst (ns.map .int)) (some (0 + (i : Int))) (some 14) (some 7) (.lst ((slN ns i).map .int)) := fun A' =>
      sli_list (by decide) (by rw [lks, List.length_map]; lia) (fun _ _ => trivial) _ rfl (by
        unfold slN
        rw [List.length_map, List.map_filterMap]
        congr 1
        funext j
        rw [List.getElem?_map])
    have e1 : D.int ((baseL.getD i 0 : Nat) + ((slN ns i).sum.fmod ((10 : Int) ^ (6 : Int).toNat))) = .int (cellN ns i : Nat) := by
      have h0 : 0 ≤ (slN ns i).sum.fmod 1000000 := Int.fmod_nonneg_of_pos _ (by decide)
      show D.int (_ + (slN ns i).sum.fmod 1000000) = _
      unfold cellN
      congr 1
      lia
    refine Ev_eq (Ev_bin (Ev_subscr (Ev_list (ds := baseL.map fun (n : Nat) => D.int n) (Evs_cons Ev_int (Evs_cons Ev_int (Evs_cons Ev_int (Evs_cons Ev_int (Evs_cons Ev_int (Evs_cons Ev_int (Evs_cons Ev_int Evs_nil))))))) (show 7 ≤ sizeLine by decide)) (Ev_name rfl) (sub_list (by lia) (by lia) hb))
      (Ev_bin (Ev_call_bi (by exact H.built (by rfl) (by rfl)) (Evs_cons (Ev_slice (Ev_name rfl) (.int (Ev_name rfl)) (.int Ev_int) (.int Ev_int) (hsl _)) Evs_nil) call_sum_d) (Ev_bin Ev_int Ev_int (bin_pow (by decide) (by decide +kernel))) (bin_mod (by decide))) bin_add) e1
  have hcg : ∀ i < 7, (lawCells ns).getD i 0 = cellN ns i := fun i hi => by
    unfold lawCells; rw [List.getD_eq_getElem?_getD, List.getElem?_map, List.getElem?_range hi]; rfl
  have ec : D.lst ((List.range 7).map fun i => D.int (cellN ns i : Nat)) = .lst ((lawCells ns).map fun (c : Nat) => D.int c) := by unfold lawCells; rw [List.map_map]; rfl
  rw [ec]
  generalize hT : cellN ns 6 = T
  have h6 : ((lawCells ns).map fun (c : Nat) => D.int c)[(6 : Int).toNat]? = some (.int (T : Nat)) := by
    rw [List.getElem?_map]
    have : (lawCells ns)[(6 : Int).toNat]? = some (cellN ns 6) := rfl
    rw [this, hT]; rfl
  have hTb : T < 1073741824 := by rw [← hT]; exact cellN_lt ns (by decide)
  have hcb : ∀ c ∈ lawCells ns, c < 2 ^ 30 := by
    intro c hc
    obtain ⟨i, hi, rfl⟩ := List.mem_map.mp hc
    exact Nat.lt_of_lt_of_le (cellN_lt ns (List.mem_range.mp hi)) (by decide)
  obtain ⟨tsI, pI, rI, pl⟩ := PL T (lawCells ns) hcl
  generalize lawCells ns = cells at hcl h6 hcb pl ⊢
  refine Ex_assign (d := .int (T : Nat)) (Ev_subscr (Ev_name rfl) Ev_int (sub_list (by decide) (by decide) h6)) ⟨.inr ⟨by rfl, _, by rfl, .inr ⟨"total", mem_of_lookup (by rfl)⟩⟩, rfl⟩ ?_
  have m1 : D.int ((T : Int).fmod 16) = .int ((T % 16 : Nat) : Int) := by rw [← fmod_nat]; rfl
  have m2 : D.int ((((T : Int) + 1) + ((T : Int).fdiv 16).fmod 15).fmod 16) = .int (((T + 1 + T / 16 % 15) % 16 : Nat) : Int) := by
    rw [show (T : Int).fdiv 16 = ((T / 16 : Nat) : Int) from fdiv_nat T 16, show ((T / 16 : Nat) : Int).fmod 15 = ((T / 16 % 15 : Nat) : Int) from fmod_nat (T / 16) 15,
      show ((T : Int) + 1) + ((T / 16 % 15 : Nat) : Int) = ((T + 1 + T / 16 % 15 : Nat) : Int) by lia]
    exact congrArg D.int (fmod_nat (T + 1 + T / 16 % 15) 16)
  have es : D.lst ((pairOf (T % 16)).map .str ++ (pairOf ((T + 1 + T / 16 % 15) % 16)).map .str) = .lst ((lawSigns T).map .str) := by unfold lawSigns; rw [List.map_append]
  have hz : ((pairOf (T % 16)).map D.str).length + ((pairOf ((T + 1 + T / 16 % 15) % 16)).map D.str).length ≤ sizeLine := by
    have := pl.hs
    unfold lawSigns at this
    rw [List.length_append] at this
    rw [List.length_map, List.length_map, lks]; lia
  refine Ex_assign (d := .lst ((lawSigns T).map .str)) (Ev_eq (Ev_bin (Ev_fn (by exact H) fn143 (by rfl) (Evs_cons (Ev_eq (Ev_bin (Ev_name rfl) Ev_int (bin_mod (by decide))) m1) Evs_nil) (fn_pair (by exact H) (by exact hr3 1 (by decide)) (Nat.mod_lt _ (by decide))))
    (Ev_fn (by exact H) fn143 (by rfl) (Evs_cons (Ev_eq (Ev_bin (Ev_bin (Ev_bin (Ev_name rfl) Ev_int bin_add) (Ev_bin (Ev_bin (Ev_name rfl) Ev_int (bin_fdiv (by decide) (by decide))) Ev_int (bin_mod (by decide))) bin_add) Ev_int (bin_mod (by decide))) m2) Evs_nil) (fn_pair (by exact H) (by exact hr3 1 (by decide)) (Nat.mod_lt _ (by decide)))) (bin_addlist hz)) es) ⟨.inl rfl, rfl⟩ ?_
  refine Ex_tup (xs := ["rules", "ways"]) (ds := [.dct (rulesD (grR cells (lawSigns T) 3)), .dct (natsD (grW cells (lawSigns T) 3))]) (Ev_fn (by exact H) fn155 (by rfl) (Evs_cons (Ev_name rfl) (Evs_cons (Ev_name rfl) Evs_nil)) (fn_grammar (by exact H) (by exact hr3 5 (by decide)) hcl hcb pl.hs (by exact hsys))) (by rfl) rfl (fun x hx => ?_) ?_
  · simp only [List.mem_cons, List.not_mem_nil, or_false] at hx
    rcases hx with rfl | rfl
    · exact ⟨.inl rfl, rfl⟩
    · exact ⟨.inl rfl, rfl⟩
  have er : D.lst ((List.range 4).map fun p => D.int ((T / 240 / 4 ^ p % 4 : Nat) : Int)) = .lst (((lawRow T).map fun (p : Nat) => (p : Int)).map .int) := by unfold lawRow; simp [Function.comp_def]
  refine Ex_ret (d := .bool true) (μ₁ := []) (Ev_fn (by exact H) fn182 (by rfl) (Evs_cons (Ev_name rfl) (Evs_cons (Ev_name rfl) (Evs_cons (Ev_name rfl) (Evs_cons (Ev_eq ?_ er) Evs_nil)))) (fn_agree (by exact H) (by exact hr3 30 (by decide)) pl.hs pl.hsn pl.hst (by simp [lawRow]) (fun p hp => ?_) rfl pl.hlow pl.hts0 pl.hlen pl.htsS pl.hok (by exact hsys))) (fun s' v I r => ?_)
  · refine Ev_comp (List.range 4) (fun i => D.int (0 + (i : Int))) _ (fun i => [("place", .int (0 + (i : Int)))]) (EvI_range (n := 4) (by exact H) Ev_int (by decide)) (comp_of (by rfl)) (fun _ _ => .name) (fun L s1 X x _ b hb => ?_) (fun L s1 X i hi => ?_) (show 4 ≤ sizeLine by decide)
    · rw [List.mem_singleton.mp hb]
      exact ⟨⟨.inl rfl, rfl⟩, rfl⟩
    · have hi4 : i < 4 := List.mem_range.mp hi
      have z0 : (0 + (i : Int)) = ((i : Nat) : Int) := by lia
      have hp0 : 0 < 4 ^ i := Nat.pow_pos (by decide)
      have hp4 : 4 ^ i ≤ 64 := Nat.le_trans (Nat.pow_le_pow_right (by decide) (by lia : i ≤ 3)) (by decide)
      have ep : (4 : Int) ^ (0 + (i : Int)).toNat = ((4 ^ i : Nat) : Int) := by rw [z0, Int.toNat_natCast]; simp
      have e4 : D.int ((((T : Int).fdiv 240).fdiv ((4 : Int) ^ (0 + (i : Int)).toNat)).fmod 4) = .int ((T / 240 / 4 ^ i % 4 : Nat) : Int) := by
        rw [ep, show (T : Int).fdiv 240 = ((T / 240 : Nat) : Int) from fdiv_nat T 240, fdiv_nat]
        exact congrArg D.int (fmod_nat (T / 240 / 4 ^ i) 4)
      have hb1 : (Builtin.Int.intBits 4 : Int) * (0 + (i : Int)) ≤ 2 ^ 27 := by
        have : Builtin.Int.intBits 4 ≤ 64 := intBits_le_64 (by decide) (by decide)
        have e27 : (2 : Int) ^ 27 = 134217728 := by decide
        rw [e27]
        have : (Builtin.Int.intBits 4 : Int) * (0 + (i : Int)) ≤ 64 * 3 := Int.mul_le_mul (by lia) (by lia) (by lia) (by decide)
        lia
      refine Ev_eq (Ev_bin (Ev_bin (Ev_bin (Ev_name rfl) Ev_int (bin_fdiv (by decide) (by decide))) (Ev_bin Ev_int (Ev_name rfl) (bin_pow (by lia) hb1)) (bin_fdiv ?_ ?_)) Ev_int (bin_mod (by decide))) e4
      · rw [ep]; lia
      · rw [ep]; lia
  · obtain ⟨i, _, rfl⟩ := List.mem_map.mp hp
    exact Nat.mod_lt _ (by decide)
  · cases r
    exact ⟨rfl, I.base⟩
end Mine
end

section
open PySem PySem.W PyProof.Rows PySem.Spec PySem.Calls PySem.Builtin PySem.Builtin.Str
set_option maxRecDepth 100000
namespace Mine
theorem fn187k {w : World} : (fdOf w 187).scope.kind = .function := by kernel_rfl
theorem cells187 {w : World} (n : Nat) : cellsFrom n (fdOf w 187).scope.names [] = ([("total", n + 1), ("script", n)] : List (Str × Addr)) := by rfl
theorem law_ok {p : Program} {w : World} {A : Around} {L fa : Addr} {cd : Value} {s0 : Shared} (hh : A.handled = none) (hL : s0.heap.objs.size ≤ L) : (lawCx p w A L fa cd s0).Ok where
  kind := fn187k (w := w)
  hh := hh
  gl := rfl
  bl := rfl
  floc := .inl rfl
  fo := fun _ _ q => q
  fge := fun a q => by
    refine .inl ?_
    rcases q with rfl | ⟨n, q⟩
    · exact hL
    · exact Nat.le_trans hL (Nat.le_trans (Nat.le_succ L) (cellsFrom_mem q).2.1)
  oge := fun _ q => q.elim
  cno := fun _ _ _ q => q
  cnx := fun _ _ _ q => q
  apart := fun x y c h1 h2 => cellsFrom_inj (mem_of_lookup h1) (mem_of_lookup h2)
  loc := fun n q => by have := (cellsFrom_mem q).2.1; exact absurd this (Nat.not_succ_le_self L)
  ownox := fun _ _ q => by cases q
  oxe := fun _ q => q.elim
  oxf := fun _ q => q.elim
  hb0 := fun _ _ h => h
  mhb := fun _ q => q.elim
  ohb := fun _ q => q.elim
theorem law_fi {p : Program} {w : World} {A : Around} {L fa a : Addr} {cd : Value} {s0 s : Shared} {ns : List Int} {vs : List Value} {m : Str → Option Value} {v : Option Value} (hh : A.handled = none) (hL : s0.heap.objs.size = L) (g : Grow Nil s0 s) (hns : s.heap.Ns L m) (hc1 : s.heap.IsCell (L + 1) (some (.ref a))) (hc2 : s.heap.IsCell (L + 1 + 1) v)
    (hl : s0.heap.IsList a vs.toArray) (hI : IntsAre vs ns) : FI (lawCx p w A L fa cd s0) s [("script", .lst (ns.map .int))] [] := by
  have ec : (lawCx p w A L fa cd s0).env.cells = ([("total", L + 1 + 1), ("script", L + 1)] : List (Str × Addr)) := cells187 (w := w) (L + 1)
  refine ⟨law_ok hh (Nat.le_of_eq hL), g, ⟨m, hns⟩, fun x c h => ?_, fun b h => ?_, fun x d h => ?_, fun x b h => (by cases h), fun x o h => (by cases h)⟩
  · rw [ec] at h
    simp only [List.mem_cons, List.not_mem_nil, or_false, Prod.mk.injEq] at h
    rcases h with ⟨rfl, rfl⟩ | ⟨rfl, rfl⟩
    · exact ⟨v, hc2⟩
    · exact ⟨_, hc1⟩
  · rcases h with h | h | h
    · exact h.elim
    · rcases h with rfl | ⟨n, q⟩
      · exact hns.lt
      · have q' : (n, b) ∈ [(("total" : Str), L + 1 + 1), ("script", L + 1)] := by rw [← cells187 (w := w)]; exact q
        simp only [List.mem_cons, List.not_mem_nil, or_false, Prod.mk.injEq] at q'
        rcases q' with ⟨_, rfl⟩ | ⟨_, rfl⟩
        · exact hc2.lt
        · exact hc1.lt
    · exact h.elim
  · obtain ⟨rfl, rfl⟩ := look1 h
    refine ⟨.ref a, .inr ⟨.inl (by rfl), L + 1, by rw [ec]; rfl, hc1⟩, ?_⟩
    obtain ⟨o, h1, h2, n, h3⟩ := hl
    have ha : a < L := hL ▸ Heap.lt_size h1
    refine .lst ⟨g.keep a o (fun q => q) h1, fun q => ?_⟩ h2 h3 ?_
    · rcases q with q | q | q
      · exact q
      · have : L ≤ a := by
          rcases q with rfl | ⟨n, q⟩
          · exact Nat.le_refl _
          · exact Nat.le_trans (Nat.le_succ L) (cellsFrom_mem q).2.1
        exact absurd this (Nat.not_le_of_lt ha)
      · exact q
    · clear h1 h3 h
      induction hI with
      | nil => exact .nil
      | cons _ _ _ ih => exact .cons (.int _ _) ih
theorem law_done {p : Program} {w : World} {A : Around} {L fa a : Addr} {cd : Value} {s0 s : Shared} {ns : List Int} {vs : List Value} {m : Str → Option Value} {v : Option Value} (hh : A.handled = none) (hL : s0.heap.objs.size = L) (g : Grow Nil s0 s) (hns : s.heap.Ns L m) (hc1 : s.heap.IsCell (L + 1) (some (.ref a))) (hc2 : s.heap.IsCell (L + 1 + 1) v)
    (hl : s0.heap.IsList a vs.toArray) (hI : IntsAre vs ns) (H : Hp p w s0.heap) (hr : Room A 50) (hn : ns.length ≤ 63) (hsys : ∃ b o, sysModules ≤ b ∧ s0.heap.get? b = some o)
    (PL : ∀ T cells, cells.length = 7 → ∃ tsI pI rI, Plain cells (lawSigns T) (lawRow T) tsI pI rI) :
    wpAny (model p w) A (execs (bodyOf w 187) (envOfC "law" (fdOf w 187).scope L fa cd)) (fun f s' => f = .ret (.bool true) ∧ Grow Nil s0 s') NoE s :=
  wpAny_mono ((law_ex (N := fun _ => False) H hr hn hsys PL).run s (law_fi (p := p) (w := w) (A := A) (fa := fa) (cd := cd) hh hL g hns hc1 hc2 hl hI)) (fun f s' h => by
    obtain ⟨_, h⟩ := h
    cases f with
    | ret u => exact ⟨by rw [h.1], h.2⟩
    | next => exact h.elim
    | brk => exact h.elim
    | cont => exact h.elim) fun _ _ q => q
end Mine
end

section
open PySem PySem.W PyProof.Rows PySem.Spec PySem.Calls PySem.Builtin PySem.Builtin.Str
namespace Mine

theorem cost_nn (a b : Nat) : 0 ≤ cost a b ∧ cost a b ≤ 2 := by
  unfold cost subCost
  split
  · lia
  · split <;> lia
theorem cost_self (a : Nat) : cost a a = 0 := by
  unfold cost subCost
  rw [if_pos (by simp)]
theorem cost_comm (a b : Nat) : cost a b = cost b a := by
  unfold cost subCost
  rw [show (mk [a] == mk [b]) = (mk [b] == mk [a]) from Bool.beq_comm, show (Txt.lower (mk [a]) == Txt.lower (mk [b])) = (Txt.lower (mk [b]) == Txt.lower (mk [a])) from Bool.beq_comm]

/-- a mending of A to B, by its weight -/
inductive Ed : List Nat → List Nat → Int → Prop
  | nil : Ed [] [] 0
  | del (a : Nat) {A B : List Nat} {n : Int} : Ed A B n → Ed (a :: A) B (n + 2)
  | ins (b : Nat) {A B : List Nat} {n : Int} : Ed A B n → Ed A (b :: B) (n + 2)
  | sub (a b : Nat) {A B : List Nat} {n : Int} : Ed A B n → Ed (a :: A) (b :: B) (n + cost a b)

def ed : List Nat → List Nat → Int
  | [], B => 2 * (B.length : Int)
  | A@(_ :: _), [] => 2 * (A.length : Int)
  | a :: A, b :: B => min (min (ed A (b :: B) + 2) (ed (a :: A) B + 2)) (ed A B + cost a b)
termination_by A B => A.length + B.length
theorem ed_nil (A : List Nat) : ed A [] = 2 * (A.length : Int) := by
  cases A <;> simp [ed]
theorem nil_ed (B : List Nat) : ed [] B = 2 * (B.length : Int) := by simp [ed]
theorem ed_cons (a b : Nat) (A B : List Nat) : ed (a :: A) (b :: B) = min (min (ed A (b :: B) + 2) (ed (a :: A) B + 2)) (ed A B + cost a b) := by
  rw [ed]
theorem Ed.of {A B : List Nat} {n m : Int} (h : Ed A B n) (e : n = m) : Ed A B m := e ▸ h
theorem ed_ex : ∀ (k : Nat) (A B : List Nat), A.length + B.length ≤ k → Ed A B (ed A B)
  | _, [], [], _ => by rw [nil_ed]; exact .nil
  | 0, [], b :: B, h => by simp at h
  | 0, a :: A, B, h => by simp at h
  | k + 1, [], b :: B, h => (Ed.ins b (ed_ex k [] B (by simp at h ⊢; lia))).of (by rw [nil_ed, nil_ed]; simp; lia)
  | k + 1, a :: A, [], h => (Ed.del a (ed_ex k A [] (by simp at h ⊢; lia))).of (by rw [ed_nil, ed_nil]; simp; lia)
  | k + 1, a :: A, b :: B, h => by
    rw [ed_cons]
    have h1 := Ed.del a (ed_ex k A (b :: B) (by simp at h ⊢; lia))
    have h2 := Ed.ins b (ed_ex k (a :: A) B (by simp at h ⊢; lia))
    have h3 := Ed.sub a b (ed_ex k A B (by simp at h ⊢; lia))
    rcases Int.le_total (ed A (b :: B) + 2) (ed (a :: A) B + 2) with c | c
    · rw [Int.min_eq_left c]
      rcases Int.le_total (ed A (b :: B) + 2) (ed A B + cost a b) with c' | c'
      · rw [Int.min_eq_left c']; exact h1
      · rw [Int.min_eq_right c']; exact h3
    · rw [Int.min_eq_right c]
      rcases Int.le_total (ed (a :: A) B + 2) (ed A B + cost a b) with c' | c'
      · rw [Int.min_eq_left c']; exact h2
      · rw [Int.min_eq_right c']; exact h3
theorem ed_at (A B : List Nat) : Ed A B (ed A B) := ed_ex _ A B (Nat.le_refl _)
theorem ed_del (a : Nat) (A B : List Nat) : ed (a :: A) B ≤ ed A B + 2 := by
  cases B with
  | nil => rw [ed_nil, ed_nil]; simp; lia
  | cons b B => rw [ed_cons]; lia
theorem ed_ins (b : Nat) (A B : List Nat) : ed A (b :: B) ≤ ed A B + 2 := by
  cases A with
  | nil => rw [nil_ed, nil_ed]; simp; lia
  | cons a A => rw [ed_cons]; lia
theorem ed_le {A B : List Nat} {n : Int} (h : Ed A B n) : ed A B ≤ n := by
  induction h with
  | nil => rw [nil_ed]; simp
  | @del a A B n _ ih => have := ed_del a A B; lia
  | @ins b A B n _ ih => have := ed_ins b A B; lia
  | sub a b _ ih => rw [ed_cons]; lia
theorem Ed.nonneg {A B : List Nat} {n : Int} (h : Ed A B n) : 0 ≤ n := by
  induction h with
  | nil => lia
  | del a _ ih => lia
  | ins b _ ih => lia
  | sub a b _ ih => have := (cost_nn a b).1; lia
theorem Ed.append {A B A' B' : List Nat} {n m : Int} (h : Ed A B n) (k : Ed A' B' m) : Ed (A ++ A') (B ++ B') (n + m) := by
  induction h with
  | nil => exact k.of (by lia)
  | del a _ ih => exact (ih.del a).of (by lia)
  | ins b _ ih => exact (ih.ins b).of (by lia)
  | sub a b _ ih => exact (ih.sub a b).of (by lia)
theorem Ed.rev {A B : List Nat} {n : Int} (h : Ed A B n) : Ed A.reverse B.reverse n := by
  induction h with
  | nil => exact .nil
  | del a _ ih => rw [List.reverse_cons]; have := ih.append (Ed.del a .nil); rw [List.append_nil] at this; exact this.of (by lia)
  | ins b _ ih => rw [List.reverse_cons]; have := ih.append (Ed.ins b .nil); rw [List.append_nil] at this; exact this.of (by lia)
  | sub a b _ ih => rw [List.reverse_cons, List.reverse_cons]; exact (ih.append (Ed.sub a b .nil)).of (by lia)
theorem Ed.symm {A B : List Nat} {n : Int} (h : Ed A B n) : Ed B A n := by
  induction h with
  | nil => exact .nil
  | del a _ ih => exact ih.ins a
  | ins b _ ih => exact ih.del b
  | sub a b _ ih => exact (ih.sub b a).of (by rw [cost_comm])
theorem ed_symm (A B : List Nat) : ed A B = ed B A := Int.le_antisymm (ed_le (ed_at B A).symm) (ed_le (ed_at A B).symm)
theorem ed_rev (A B : List Nat) : ed A.reverse B.reverse = ed A B := by
  refine Int.le_antisymm (ed_le (ed_at A B).rev) (ed_le ?_)
  have := (ed_at A.reverse B.reverse).rev
  rwa [List.reverse_reverse, List.reverse_reverse] at this
theorem Ed.split {A Y : List Nat} {n : Int} : ∀ {B : List Nat}, Ed A B n → ∀ X, B = X ++ Y → ∃ A1 A2 n1 n2, A = A1 ++ A2 ∧ Ed A1 X n1 ∧ Ed A2 Y n2 ∧ n = n1 + n2 := by
  intro B h
  induction h with
  | nil => intro X e; obtain ⟨rfl, rfl⟩ := List.append_eq_nil_iff.mp e.symm; exact ⟨[], [], 0, 0, rfl, .nil, .nil, by lia⟩
  | del a _ ih =>
    intro X e
    obtain ⟨A1, A2, n1, n2, h1, h2, h3, h4⟩ := ih X e
    exact ⟨a :: A1, A2, n1 + 2, n2, by rw [h1]; rfl, h2.del a, h3, by lia⟩
  | ins b hh ih =>
    intro X e
    cases X with
    | nil => exact ⟨[], _, 0, _, rfl, .nil, e ▸ hh.ins b, by lia⟩
    | cons x X =>
      obtain ⟨rfl, e'⟩ := List.cons.inj e
      obtain ⟨A1, A2, n1, n2, h1, h2, h3, h4⟩ := ih X e'
      exact ⟨A1, A2, n1 + 2, n2, h1, h2.ins b, h3, by lia⟩
  | sub a b hh ih =>
    intro X e
    cases X with
    | nil => exact ⟨[], _, 0, _, rfl, .nil, e ▸ hh.sub a b, by lia⟩
    | cons x X =>
      obtain ⟨rfl, e'⟩ := List.cons.inj e
      obtain ⟨A1, A2, n1, n2, h1, h2, h3, h4⟩ := ih X e'
      exact ⟨a :: A1, A2, n1 + cost a b, n2, by rw [h1]; rfl, h2.sub a b, h3, by lia⟩
theorem Ed.tail {A B : List Nat} {n : Int} : ∀ {A0 : List Nat}, Ed A0 B n → ∀ {a}, A0 = a :: A → ∃ m, m ≤ n + 2 ∧ Ed A B m := by
  intro A0 h
  induction h with
  | nil => intro a e; cases e
  | del a hh ih => intro a' e; cases e; exact ⟨_, by lia, hh⟩
  | ins b hh ih =>
    intro a' e
    obtain ⟨m, h1, h2⟩ := ih e
    exact ⟨m + 2, by lia, h2.ins b⟩
  | sub a b hh ih => intro a' e; cases e; exact ⟨_, by have := (cost_nn a b).1; lia, hh.ins b⟩
theorem ed_tail (a : Nat) (A B : List Nat) : ed A B ≤ ed (a :: A) B + 2 := by
  obtain ⟨m, h1, h2⟩ := (ed_at (a :: A) B).tail rfl
  have := ed_le h2; lia
theorem ed_same (a : Nat) (A B : List Nat) : ed (a :: A) (a :: B) = ed A B := by
  rw [ed_cons, cost_self]
  have h1 := ed_tail a A B
  have h2 := ed_tail a B A
  rw [ed_symm B A, ed_symm (a :: B) A] at h2
  lia
theorem ed_lcp : ∀ (A B : List Nat), ed (A.drop (lcp A B)) (B.drop (lcp A B)) = ed A B
  | [], _ => by simp [lcp]
  | _ :: _, [] => by simp [lcp]
  | a :: A, b :: B => by
    unfold lcp
    by_cases e : (a == b) = true
    · rw [if_pos e]
      have : a = b := by simpa using e
      subst this
      simp only [List.drop_succ_cons]
      rw [ed_lcp A B, ed_same]
    · rw [if_neg e]; rfl
theorem ed_self : ∀ (A : List Nat), ed A A = 0
  | [] => by simp [ed]
  | a :: A => by rw [ed_same, ed_self A]
theorem Ed.len {A B : List Nat} {n : Int} (h : Ed A B n) : 2 * ((B.length : Int) - A.length) ≤ n := by
  induction h with
  | nil => simp
  | del a _ ih => simp; lia
  | ins b _ ih => simp; lia
  | sub a b _ ih => have := (cost_nn a b).1; simp; lia
theorem ed_max : ∀ (A B : List Nat) (k : Nat), A.length ≤ k → B.length ≤ k → ed A B ≤ 2 * k
  | [], B, k, _, h => by rw [nil_ed]; lia
  | a :: A, [], k, h, _ => by rw [ed_nil]; lia
  | a :: A, b :: B, 0, h, _ => by simp at h
  | a :: A, b :: B, k + 1, h, h' => by
    rw [ed_cons]
    have := ed_max A B k (by simp at h; lia) (by simp at h'; lia)
    have := (cost_nn a b).2
    lia
theorem ed_snoc (a b : Nat) (A B : List Nat) : ed (A ++ [a]) (B ++ [b]) = min (min (ed A (B ++ [b]) + 2) (ed (A ++ [a]) B + 2)) (ed A B + cost a b) := by
  rw [← ed_rev (A ++ [a]) (B ++ [b]), ← ed_rev A (B ++ [b]), ← ed_rev (A ++ [a]) B, ← ed_rev A B]
  simp only [List.reverse_append, List.reverse_cons, List.reverse_nil, List.nil_append, List.singleton_append]
  exact ed_cons a b _ _
end Mine
end

section
open PySem PySem.W PyProof.Rows PySem.Spec PySem.Calls PySem.Builtin PySem.Builtin.Str
namespace Mine

/-- the row of the weights to Q of the starts of A, from P on -/
def dpL (P A Q : List Nat) : List Int := (List.range A.length).map fun k => ed (P ++ A.take (k + 1)) Q
theorem dpL_cons (P : List Nat) (a : Nat) (A Q : List Nat) : dpL P (a :: A) Q = ed (P ++ [a]) Q :: dpL (P ++ [a]) A Q := by
  unfold dpL
  rw [List.length_cons, List.range_succ_eq_map, List.map_cons, List.map_map]
  simp [Function.comp_def]
theorem levInner_is (c : Nat) (Q : List Nat) : ∀ (A P : List Nat) (dist res mn : Int), dist = ed P Q → (res = ed P (Q ++ [c]) ∨ (res = dist ∧ dist ≤ ed P (Q ++ [c]))) →
    levInner c A (dpL P A Q) dist res mn = (dpL P A (Q ++ [c]), (if A = [] then res else ed (P ++ A) (Q ++ [c])), (dpL P A (Q ++ [c])).foldl min mn)
  | [], P, dist, res, mn, _, _ => by simp [levInner, dpL]
  | a :: A, P, dist, res, mn, h1, h2 => by
    rw [dpL_cons, dpL_cons]
    have e : min (min res (ed (P ++ [a]) Q) + 2) (dist + cost c a) = ed (P ++ [a]) (Q ++ [c]) := by
      rw [ed_snoc, cost_comm a c]
      have := cost_nn c a
      rcases h2 with h2 | ⟨h2, h3⟩ <;> lia
    simp only [levInner]
    rw [e, levInner_is c Q A (P ++ [a]) _ _ _ rfl (.inl rfl)]
    have e2 : (if ed (P ++ [a]) (Q ++ [c]) < mn then ed (P ++ [a]) (Q ++ [c]) else mn) = min mn (ed (P ++ [a]) (Q ++ [c])) := by
      split <;> lia
    rw [e2]
    refine Prod.ext rfl (Prod.ext ?_ rfl)
    show (if A = [] then ed (P ++ [a]) (Q ++ [c]) else ed ((P ++ [a]) ++ A) (Q ++ [c])) = (if a :: A = [] then res else ed (P ++ a :: A) (Q ++ [c]))
    by_cases q : A = []
    · subst q; simp
    · rw [if_neg q, if_neg (by simp), List.append_assoc]; rfl

theorem ed_far {A Q B : List Nat} {mc : Int} (hA : A ≠ []) (hQ : Q ≠ []) (h : ∀ x ∈ dpL [] A Q, mc < x) : mc < ed A (Q ++ B) := by
  obtain ⟨A1, A2, n1, n2, e1, h1, h2, h3⟩ := (ed_at A (Q ++ B)).split Q rfl
  have k2 := h2.nonneg
  have k1 := ed_le h1
  have key : ∀ k, k < A.length → mc < ed (A.take (k + 1)) Q := fun k hk => h _ (List.mem_map.mpr ⟨k, List.mem_range.mpr hk, by simp⟩)
  have : mc < ed A1 Q := by
    cases A1 with
    | nil =>
      obtain ⟨a, A', rfl⟩ := List.exists_cons_of_ne_nil hA
      have k0 := key 0 (by simp)
      obtain ⟨Q', c, rfl⟩ : ∃ Q' c, Q = Q' ++ [c] := ⟨Q.dropLast, Q.getLast hQ, (List.dropLast_concat_getLast hQ).symm⟩
      have := ed_snoc a c [] Q'
      simp only [List.nil_append, List.take_succ_cons, List.take_zero, Nat.zero_add] at this k0
      have k4 := (cost_nn a c).2
      rw [nil_ed, List.length_append]
      rw [nil_ed Q'] at this
      simp; lia
    | cons x A1 =>
      have := key A1.length (by rw [e1]; simp; lia)
      rwa [e1, show A1.length + 1 = (x :: A1).length from rfl, List.take_left] at this
  lia

theorem levRows_is (A : List Nat) (mc : Int) (hA : A ≠ []) : ∀ (B Q : List Nat) (res : Int), (B = [] → res = ed A Q) →
    levRows A mc B Q.length (dpL [] A Q) res = ed A (Q ++ B) ∨ (mc < ed A (Q ++ B) ∧ mc < levRows A mc B Q.length (dpL [] A Q) res)
  | [], Q, res, h => by rw [List.append_nil]; exact .inl (by simp only [levRows]; exact h rfl)
  | c :: B, Q, res, _ => by
    have e := levInner_is c Q A [] ((Q.length : Int) * 2) ((Q.length : Int) * 2) big (by rw [nil_ed]; lia) (.inr ⟨rfl, by rw [nil_ed]; simp; lia⟩)
    have step : levRows A mc (c :: B) Q.length (dpL [] A Q) res = if mc < (dpL [] A (Q ++ [c])).foldl min big then mc + 1 else levRows A mc B (Q.length + 1) (dpL [] A (Q ++ [c])) (ed A (Q ++ [c])) := by
      simp only [levRows]
      rw [e, if_neg hA, List.nil_append]
    rw [step]
    have e3 : Q ++ c :: B = (Q ++ [c]) ++ B := by simp
    by_cases hlt : mc < (dpL [] A (Q ++ [c])).foldl min big
    · rw [if_pos hlt, e3]
      exact .inr ⟨ed_far hA (by simp) fun x hx => Int.lt_of_lt_of_le hlt ((foldl_min_le _ _).2 x hx), by lia⟩
    · rw [if_neg hlt, e3]
      have ih := levRows_is A mc hA B (Q ++ [c]) (ed A (Q ++ [c])) (fun _ => rfl)
      rw [List.length_append, List.length_singleton] at ih
      exact ih

theorem levCore_is {A B : List Nat} {mc : Int} (hA : A ≠ []) (hB : B ≠ []) : levCore A B mc = ed A B ∨ (mc < ed A B ∧ mc < levCore A B mc) := by
  unfold levCore
  split
  · next h => exact .inr ⟨by have := (ed_at A B).len; lia, by lia⟩
  · have e : row0 A.length = dpL [] A [] := by
      unfold row0 dpL
      refine List.map_congr_left fun i hi => ?_
      have hi' := List.mem_range.mp hi
      rw [ed_nil, List.nil_append, List.length_take]
      lia
    have := levRows_is A mc hA B [] 0 (fun h => absurd h hB)
    rw [← e] at this
    exact this

theorem levF_is (A B : List Nat) (mc : Int) : levF A B mc = ed A B ∨ (mc < ed A B ∧ mc < levF A B mc) := by
  unfold levF
  by_cases e : (A == B) = true
  · rw [if_pos e]
    have : A = B := by simpa using e
    subst this
    exact .inl (ed_self A).symm
  rw [if_neg e]
  simp only []
  generalize hA1 : A.drop (lcp A B) = A1
  generalize hB1 : B.drop (lcp A B) = B1
  generalize hq : lcp A1.reverse B1.reverse = q
  generalize hA2 : A1.take (A1.length - q) = A2
  generalize hB2 : B1.take (B1.length - q) = B2
  have hle := lcp_le A1.reverse B1.reverse
  rw [hq] at hle; simp only [List.length_reverse] at hle
  have rt : ∀ (X : List Nat), q ≤ X.length → (X.take (X.length - q)).reverse = X.reverse.drop q := fun X hX => by
    rw [List.reverse_take]; congr 1; lia
  have key : ed A B = ed A2 B2 := by
    rw [← ed_lcp A B, hA1, hB1, ← ed_rev A1 B1, ← ed_lcp A1.reverse B1.reverse, hq, ← rt A1 hle.1, ← rt B1 hle.2, hA2, hB2, ed_rev]
  rw [key]
  by_cases h0 : A2.length = 0 ∨ B2.length = 0
  · rw [if_pos h0]
    rcases h0 with h0 | h0
    · have : A2 = [] := List.eq_nil_of_length_eq_zero h0
      subst this; exact .inl (by rw [nil_ed]; simp)
    · have : B2 = [] := List.eq_nil_of_length_eq_zero h0
      subst this; exact .inl (by rw [ed_nil]; simp)
  · rw [if_neg h0]
    have n1 : A2 ≠ [] := fun h => h0 (.inl (by rw [h]; rfl))
    have n2 : B2 ≠ [] := fun h => h0 (.inr (by rw [h]; rfl))
    split
    · rw [ed_symm A2 B2]; exact levCore_is n2 n1
    · exact levCore_is n1 n2
end Mine
end

section
open PySem PySem.W PyProof.Rows PySem.Spec PySem.Calls PySem.Builtin PySem.Builtin.Str
namespace Mine

/-- a table tells the least weight from each stretch to a sentence -/
def Is (text : List Nat) (t : Tb) (L : List (List Nat)) : Prop := ∀ st wd, st + wd ≤ text.length →
  (∃ x ∈ L, ed ((text.drop st).take wd) x = t st wd) ∧ ∀ x ∈ L, t st wd ≤ ed ((text.drop st).take wd) x
def cat (L M : List (List Nat)) : List (List Nat) := L.flatMap fun x => M.map (x ++ ·)
section
variable {text : List Nat} {t r : Tb} {L M : List (List Nat)}
theorem Is.zero : Is text zeroT [[]] := by
  intro st wd h
  have e : ed ((text.drop st).take wd) [] = zeroT st wd := by
    rw [ed_nil, List.length_take, List.length_drop]
    unfold zeroT
    lia
  exact ⟨⟨[], List.mem_singleton.mpr rfl, e⟩, fun x hx => by rw [List.mem_singleton.mp hx, e]; exact Int.le_refl _⟩
theorem Is.min (h : Is text t L) (k : Is text r M) : Is text (minT t r) (L ++ M) := by
  intro st wd hh
  obtain ⟨⟨x, hx, ex⟩, hl⟩ := h st wd hh
  obtain ⟨⟨y, hy, ey⟩, kl⟩ := k st wd hh
  have m1 : minT t r st wd ≤ t st wd := by unfold minT; lia
  have m2 : minT t r st wd ≤ r st wd := by unfold minT; lia
  refine ⟨?_, fun z hz => ?_⟩
  · rcases Int.le_total (t st wd) (r st wd) with c | c
    · exact ⟨x, List.mem_append_left _ hx, by rw [ex]; unfold minT; lia⟩
    · exact ⟨y, List.mem_append_right _ hy, by rw [ey]; unfold minT; lia⟩
  · rcases List.mem_append.mp hz with hz | hz
    · exact Int.le_trans m1 (hl z hz)
    · exact Int.le_trans m2 (kl z hz)
theorem cut_eq (text : List Nat) (st wd cut : Nat) (h : cut ≤ wd) : (text.drop st).take wd = (text.drop st).take cut ++ (text.drop (st + cut)).take (wd - cut) := by
  have e : wd = cut + (wd - cut) := by lia
  conv => lhs; rw [e]
  rw [List.take_add, List.drop_drop]
theorem Is.step (h : Is text t L) (k : Is text r M) : Is text (stepT t r) (cat L M) := by
  intro st wd hh
  have low : ∀ z ∈ cat L M, stepT t r st wd ≤ ed ((text.drop st).take wd) z := by
    intro z hz
    obtain ⟨x, hx, hz⟩ := List.mem_flatMap.mp hz
    obtain ⟨y, hy, rfl⟩ := List.mem_map.mp hz
    obtain ⟨A1, A2, n1, n2, e1, h1, h2, e2⟩ := (ed_at ((text.drop st).take wd) (x ++ y)).split x rfl
    have hlen : A1.length ≤ wd := by
      have := congrArg List.length e1
      rw [List.length_append, List.length_take, List.length_drop] at this
      lia
    have e3 := cut_eq text st wd A1.length hlen
    have l1 : ((text.drop st).take A1.length).length = A1.length := by rw [List.length_take, List.length_drop]; lia
    rw [e1] at e3
    obtain ⟨a1, a2⟩ := List.append_inj e3 l1.symm
    have q1 := (h st A1.length (by lia)).2 x hx
    have q2 := (k (st + A1.length) (wd - A1.length) (by lia)).2 y hy
    rw [← a1] at q1
    rw [← a2] at q2
    have q3 := ed_le h1
    have q4 := ed_le h2
    have q5 : stepT t r st wd ≤ t st A1.length + r (st + A1.length) (wd - A1.length) := minL_le (List.mem_map.mpr ⟨A1.length, List.mem_range.mpr (by lia), rfl⟩)
    rw [e2]
    lia
  refine ⟨?_, low⟩
  have hm : stepT t r st wd ∈ (List.range (wd + 1)).map fun cut => t st cut + r (st + cut) (wd - cut) := minL_mem (by simp)
  obtain ⟨cut, hc, ec⟩ := List.mem_map.mp hm
  have hc' := List.mem_range.mp hc
  obtain ⟨⟨x, hx, ex⟩, _⟩ := h st cut (by lia)
  obtain ⟨⟨y, hy, ey⟩, _⟩ := k (st + cut) (wd - cut) (by lia)
  have hz : x ++ y ∈ cat L M := List.mem_flatMap.mpr ⟨x, hx, List.mem_map.mpr ⟨y, hy, rfl⟩⟩
  refine ⟨x ++ y, hz, Int.le_antisymm ?_ (low _ hz)⟩
  rw [← ec, ← ex, ← ey]
  have := ed_le ((ed_at ((text.drop st).take cut) x).append (ed_at ((text.drop (st + cut)).take (wd - cut)) y))
  rwa [← cut_eq text st wd cut (by lia)] at this
end
theorem minL_cons (x : Int) (l : List Int) (h : l ≠ []) : minL (x :: l) = min x (minL l) := by
  refine minL_uniq ?_ fun a ha => ?_
  · rcases Int.le_total x (minL l) with c | c
    · rw [Int.min_eq_left c]; exact .head _
    · rw [Int.min_eq_right c]; exact .tail _ (minL_mem h)
  · rcases List.mem_cons.mp ha with rfl | ha
    · exact Int.min_le_left _ _
    · exact Int.le_trans (Int.min_le_right _ _) (minL_le ha)
theorem minL_one (x : Int) : minL [x] = x := rfl
theorem ed_one (c : Nat) : ∀ s : List Nat, s ≠ [] → ed s [c] = 2 * s.length - 2 + minL (s.map fun a => cost a c) ∧ minL (s.map fun a => cost a c) ≤ 2
  | [], h => absurd rfl h
  | [a], _ => by
    have := cost_nn a c
    rw [ed_cons, nil_ed, ed_nil, nil_ed]
    simp [minL_one]
    lia
  | a :: b :: s, _ => by
    obtain ⟨i1, i2⟩ := ed_one c (b :: s) (by simp)
    have := cost_nn a c
    have e : (a :: b :: s).map (fun a => cost a c) = cost a c :: (b :: s).map (fun a => cost a c) := rfl
    rw [ed_cons, i1, ed_nil, ed_nil, e, minL_cons _ _ (fun h => by cases h)]
    generalize minL ((b :: s).map fun a => cost a c) = m at i1 i2 ⊢
    simp only [List.length_cons]
    lia
theorem single_is {code : Nat → Nat} {p : Nat} {S : List Nat} (hc : ∀ o ∈ S, cost (code o) (code p) = cost4 p o) : ed (S.map code) [code p] = single p (S.map fun (o : Nat) => (o : Int)) := by
  unfold single
  by_cases h : S = []
  · subst h
    simp [nil_ed]
  · rw [if_neg (by simpa using h), (ed_one (code p) (S.map code) (by simpa using h)).1]
    rw [List.length_map, List.length_map, List.map_map, List.map_map]
    congr 2
    exact List.map_congr_left fun o ho => hc o ho
theorem Is.sign {code : Nat → Nat} {p : Nat} {R : List Nat} (hc : ∀ o ∈ R, cost (code o) (code p) = cost4 p o) : Is (R.map code) (signT p (R.map fun (o : Nat) => (o : Int))) [[code p]] := by
  intro st wd h
  have e : ed (((R.map code).drop st).take wd) [code p] = signT p (R.map fun (o : Nat) => (o : Int)) st wd := by
    unfold signT
    rw [← List.map_drop, ← List.map_take, ← List.map_drop, ← List.map_take]
    exact single_is fun o ho => hc o (List.mem_of_mem_drop (List.mem_of_mem_take ho))
  exact ⟨⟨_, List.mem_singleton.mpr rfl, e⟩, fun x hx => by rw [List.mem_singleton.mp hx, e]; exact Int.le_refl _⟩
end Mine
end

section
open PySem PySem.W PyProof.Rows PySem.Spec PySem.Calls PySem.Builtin PySem.Builtin.Str
namespace Mine
section
variable {rl : List (Str × List Str × List Str)}
/-- a piece spells a language / a row of pieces does -/
def Wd (rl : List (Str × List Str × List Str)) (w : Str) (L : List (List Nat)) (k : Nat) : Prop := ∀ (S : List Str) (told : List Nat) (g : List Nat → List (List Nat)) (m : Nat), (∀ x ∈ L, Sp rl m S (told ++ x) (g (told ++ x))) → Sp rl (m + k) (w :: S) told (L.flatMap fun x => g (told ++ x))
def Ps (rl : List (Str × List Str × List Str)) (ws : List Str) (L : List (List Nat)) (k : Nat) : Prop := ∀ (S : List Str) (told : List Nat) (g : List Nat → List (List Nat)) (m : Nat), (∀ x ∈ L, Sp rl m S (told ++ x) (g (told ++ x))) → Sp rl (m + k) (ws ++ S) told (L.flatMap fun x => g (told ++ x))
theorem Wd.mono {w : Str} {L : List (List Nat)} {k k' : Nat} (h : Wd rl w L k) (hk : k ≤ k') : Wd rl w L k' := fun S told g m hx => (h S told g m hx).mono (by lia)
theorem Ps.mono {ws : List Str} {L : List (List Nat)} {k k' : Nat} (h : Ps rl ws L k) (hk : k ≤ k') : Ps rl ws L k' := fun S told g m hx => (h S told g m hx).mono (by lia)
theorem Wd.sign {w : Str} {n : Nat} (h1 : tokL.lookup w = some n) (h2 : 1 ≤ n) (h3 : n < 100) : Wd rl w [[64 + n]] 1 := fun S told g m hx => by
  have := hx [64 + n] (List.mem_singleton.mpr rfl)
  have e : ([[64 + n]] : List (List Nat)).flatMap (fun x => g (told ++ x)) = g (told ++ [64 + n]) := by simp
  rw [e]
  exact .sign h1 h2 h3 this
theorem Wd.name {w : Str} {v : Int} {p0 p1 : List Str} {L0 L1 : List (List Nat)} {k : Nat} (h1 : tokL.lookup w = none) (h2 : PySem.intText? w = some v) (h3 : 256 ≤ v) (h4 : w.length ≤ 640) (h5 : rl.lookup w = some (p0, p1)) (h6 : Ps rl p0 L0 k) (h7 : Ps rl p1 L1 k) : Wd rl w (L0 ++ L1) (k + 1) := fun S told g m hx => by
  rw [List.flatMap_append]
  exact .name h1 h2 h3 h4 h5 (h6 S told g m fun x hh => hx x (List.mem_append_left _ hh)) (h7 S told g m fun x hh => hx x (List.mem_append_right _ hh))
theorem Ps.nil : Ps rl [] [[]] 0 := fun S told g m hx => by
  have := hx [] (List.mem_singleton.mpr rfl)
  rw [List.append_nil] at this
  have e : ([[]] : List (List Nat)).flatMap (fun x => g (told ++ x)) = g told := by simp
  rw [e]
  exact this
theorem Ps.snoc {ws : List Str} {w : Str} {L M : List (List Nat)} {k k' : Nat} (h : Ps rl ws L k) (h' : Wd rl w M k') : Ps rl (ws ++ [w]) (cat L M) (k + k') := fun S told g m hx => by
  have key : ∀ x ∈ L, Sp rl (m + k') (w :: S) (told ++ x) (M.flatMap fun y => g ((told ++ x) ++ y)) := fun x hl => h' S (told ++ x) g m fun y hy => by
    rw [List.append_assoc]
    exact hx (x ++ y) (List.mem_flatMap.mpr ⟨x, hl, List.mem_map.mpr ⟨y, hy, rfl⟩⟩)
  have := h (w :: S) told (fun z => M.flatMap fun y => g (z ++ y)) (m + k') key
  have e : (cat L M).flatMap (fun x => g (told ++ x)) = L.flatMap fun x => M.flatMap fun y => g (told ++ x ++ y) := by
    unfold cat
    rw [List.flatMap_assoc]
    congr 1
    funext x
    rw [List.flatMap_map]
    congr 1
    funext y
    rw [List.append_assoc]
  rw [e, List.append_assoc]
  exact this.mono (by lia)
theorem Ps.final {ws : List Str} {L : List (List Nat)} {k : Nat} (h : Ps rl ws L k) : Sp rl k (ws ++ [("0" : Str)]) [] L := by
  have := h ["0"] [] (fun y => [y]) 0 fun x _ => .eof
  have e : L.flatMap (fun x => [[] ++ x]) = L := by simp
  rw [e] at this
  exact this.mono (by lia)
end
theorem cat_len (L M : List (List Nat)) : (cat L M).length = L.length * M.length := by
  unfold cat
  induction L with
  | nil => simp
  | cons x L ih => rw [List.flatMap_cons, List.length_append, ih, List.length_map, List.length_cons, Nat.succ_mul]; lia
theorem ruleT_snoc (ts : List (Str × Tb)) : ∀ (ps : List Str) (q : Str) (t : Tb), ruleT ts (ps ++ [q]) t = stepT (ruleT ts ps t) ((ts.lookup q).getD zeroT)
  | [], _, _ => rfl
  | _ :: ps, q, t => by
    rw [List.cons_append]
    simp only [ruleT]
    rw [ruleT_snoc ts ps q]
def slack (c : Nat) : Nat := if c ≤ 1 then 0 else if c = 2 then 1 else 2
theorem slack_mul {c w : Nat} (hc : 1 ≤ c) (hw : 1 ≤ w) (h : c * w ≤ 4) : slack c + slack w ≤ slack (c * w) := by
  have h1 : c ≤ 4 := Nat.le_trans (Nat.le_mul_of_pos_right c hw) h
  have h2 : w ≤ 4 := Nat.le_trans (Nat.le_mul_of_pos_left w hc) h
  match c, w, h1, h2, hc, hw, h with
  | 1, 1, _, _, _, _, _ => decide
  | 1, 2, _, _, _, _, _ => decide
  | 1, 3, _, _, _, _, _ => decide
  | 1, 4, _, _, _, _, _ => decide
  | 2, 1, _, _, _, _, _ => decide
  | 2, 2, _, _, _, _, _ => decide
  | 3, 1, _, _, _, _, _ => decide
  | 4, 1, _, _, _, _, _ => decide
  | 2, 3, _, _, _, _, h => lia
  | 2, 4, _, _, _, _, h => lia
  | 3, 2, _, _, _, _, h => lia
  | 3, 3, _, _, _, _, h => lia
  | 3, 4, _, _, _, _, h => lia
  | 4, 2, _, _, _, _, h => lia
  | 4, 3, _, _, _, _, h => lia
  | 4, 4, _, _, _, _, h => lia
theorem slack_le (c : Nat) : slack c ≤ 2 := by
  unfold slack
  split
  · lia
  · split <;> lia
/-- the signs of a sentence -/
def Fit (x : List Nat) : Prop := ∀ c ∈ x, tooLong (Txt.lower (mk [c])).length = false
/-- a piece, with its table and its language -/
structure WOk (rl : List (Str × List Str × List Str)) (text : List Nat) (ts : List (Str × Tb)) (K : Nat) (w : Str) (c : Nat) (L : List (List Nat)) : Prop where
  tb : ∃ t, ts.lookup w = some t ∧ Is text t L
  wd : Wd rl w L K
  cnt : L.length = c
  pos : 1 ≤ c
  len : ∀ x ∈ L, x.length ≤ 1 + slack c
  fit : ∀ x ∈ L, Fit x
/-- a row of pieces, n turns on -/
structure POk (rl : List (Str × List Str × List Str)) (text : List Nat) (ts : List (Str × Tb)) (K : Nat) (ps : List Str) (c n : Nat) (L : List (List Nat)) : Prop where
  is : Is text (ruleT ts ps zeroT) L
  sp : Ps rl ps L (n * K)
  has : ∀ q ∈ ps, (ts.lookup q).isSome = true
  num : ps.length ≤ n
  cnt : L.length = c
  pos : 1 ≤ c
  len : ∀ x ∈ L, x.length ≤ n + slack c
  fit : ∀ x ∈ L, Fit x
section
variable {rl : List (Str × List Str × List Str)} {text : List Nat} {ts : List (Str × Tb)} {K : Nat}
theorem POk.nil : POk rl text ts K [] 1 0 [[]] where
  is := .zero
  sp := Ps.nil.mono (Nat.zero_le _)
  has := fun q h => by cases h
  num := Nat.le_refl _
  cnt := rfl
  pos := Nat.le_refl _
  len := fun x h => by rw [List.mem_singleton.mp h]; exact Nat.zero_le _
  fit := fun x h => by rw [List.mem_singleton.mp h]; intro c hc; cases hc
theorem POk.more {ps : List Str} {c n : Nat} {L : List (List Nat)} (h : POk rl text ts K ps c n L) : POk rl text ts K ps c (n + 1) L where
  is := h.is
  sp := h.sp.mono (Nat.mul_le_mul_right K (Nat.le_succ n))
  has := h.has
  num := Nat.le_succ_of_le h.num
  cnt := h.cnt
  pos := h.pos
  len := fun x hx => by have := h.len x hx; lia
  fit := h.fit
theorem POk.snoc {ps : List Str} {c n w : Nat} {q : Str} {L M : List (List Nat)} (h : POk rl text ts K ps c n L) (k : WOk rl text ts K q w M) (hm : c * w ≤ 4) : POk rl text ts K (ps ++ [q]) (c * w) (n + 1) (cat L M) where
  is := by
    obtain ⟨t, h1, h2⟩ := k.tb
    rw [ruleT_snoc, h1]
    exact h.is.step h2
  sp := (h.sp.snoc k.wd).mono (by rw [Nat.succ_mul]; exact Nat.le_refl _)
  has := fun p hp => by
    rcases List.mem_append.mp hp with hp | hp
    · exact h.has p hp
    · obtain ⟨t, h1, _⟩ := k.tb
      rw [List.mem_singleton.mp hp, h1]; rfl
  num := by rw [List.length_append]; have := h.num; simp; lia
  cnt := by rw [cat_len, h.cnt, k.cnt]
  pos := Nat.mul_le_mul h.pos k.pos
  len := fun z hz => by
    obtain ⟨x, hx, hz⟩ := List.mem_flatMap.mp hz
    obtain ⟨y, hy, rfl⟩ := List.mem_map.mp hz
    have := h.len x hx
    have := k.len y hy
    have := slack_mul h.pos k.pos hm
    rw [List.length_append]; lia
  fit := fun z hz => by
    obtain ⟨x, hx, hz⟩ := List.mem_flatMap.mp hz
    obtain ⟨y, hy, rfl⟩ := List.mem_map.mp hz
    intro ch hc
    rcases List.mem_append.mp hc with hc | hc
    · exact h.fit x hx ch hc
    · exact k.fit y hy ch hc
theorem rule_ok {words : List Str} {ways : List (Str × Nat)} {most : Nat} (hm : most ≤ 4) (h0 : 0 < words.length) (hw : ∀ q ∈ words, ∃ M, WOk rl text ts K q ((ways.lookup q).getD 1) M) : ∀ (t f : Nat) (ps : List Str) (c n : Nat) (L : List (List Nat)), POk rl text ts K ps c n L →
    ∃ L', POk rl text ts K (ruleLoop words ways most t f ps c).1 (ruleLoop words ways most t f ps c).2 (n + t) L'
  | 0, f, ps, c, n, L, h => ⟨L, h⟩
  | t + 1, f, ps, c, n, L, h => by
    have hq : words.getD (f % words.length) "" ∈ words := by
      have : f % words.length < words.length := Nat.mod_lt _ h0
      rw [List.getD_eq_getElem?_getD, List.getElem?_eq_getElem this]
      exact List.getElem_mem this
    obtain ⟨M, hM⟩ := hw _ hq
    simp only [ruleLoop]
    rw [show n + (t + 1) = (n + 1) + t by lia]
    split
    · next hc => exact rule_ok hm h0 hw t _ _ _ (n + 1) _ (h.snoc hM (Nat.le_trans hc hm))
    · exact rule_ok hm h0 hw t _ _ _ (n + 1) _ h.more
theorem WOk.later {nm : Str} {t : Tb} {w : Str} {c K' : Nat} {L : List (List Nat)} (h : WOk rl text ts K w c L) (hK : K ≤ K') : WOk rl text (ts ++ [(nm, t)]) K' w c L where
  tb := by
    obtain ⟨u, h1, h2⟩ := h.tb
    exact ⟨u, by rw [lookup_app, h1]; rfl, h2⟩
  wd := h.wd.mono hK
  cnt := h.cnt
  pos := h.pos
  len := h.len
  fit := h.fit
end
end Mine
end

section
open PySem PySem.W PyProof.Rows PySem.Spec PySem.Calls PySem.Builtin PySem.Builtin.Str
namespace Mine
theorem pair_tok : ∀ k : Fin 16, (pairOf k.1).length = 2 ∧ tokL.lookup ((pairOf k.1).getD 0 "") = some (7 + k.1) ∧ tokL.lookup ((pairOf k.1).getD 1 "") = some (39 + k.1) := by decide +kernel
def lowN (a : Nat) : Nat := if a ≤ 90 then a + 32 else a
theorem lowA (k : Nat) (h : k < 16) : lowN (64 + (7 + k)) = 103 + k := by unfold lowN; rw [if_pos (by lia)]; lia
theorem lowB (k : Nat) (_h : k < 16) : lowN (64 + (39 + k)) = 103 + k := by unfold lowN; rw [if_neg (by lia)]; lia
theorem low_is : ∀ c : Fin 48, Txt.lower (mk [71 + c.1]) = mk [lowN (71 + c.1)] := by decide +kernel
theorem low_at {a : Nat} (h1 : 71 ≤ a) (h2 : a < 119) : Txt.lower (mk [a]) = mk [lowN a] := by
  have := low_is ⟨a - 71, by lia⟩
  simp only [show 71 + (a - 71) = a by lia] at this
  exact this
theorem cost_at {a b : Nat} (h1 : 71 ≤ a) (h2 : a < 119) (h3 : 71 ≤ b) (h4 : b < 119) : cost a b = if a = b then 0 else if lowN a = lowN b then 1 else 2 := by
  unfold cost subCost
  rw [low_at h1 h2, low_at h3 h4, mk_beq, mk_beq]
  simp
theorem nm_facts : ∀ i : Fin 3, tokL.lookup (grN.getD i.1 "") = none ∧ PySem.intText? (grN.getD i.1 "") = some (258 - (i.1 : Int)) ∧ (grN.getD i.1 "").length ≤ 640 := by decide +kernel
def tokAt (k1 k2 p : Nat) : Nat := [7 + k1, 39 + k1, 7 + k2, 39 + k2].getD p 0
def sg (k1 k2 : Nat) : List Str := pairOf k1 ++ pairOf k2
section
variable {k1 k2 : Nat} (h1 : k1 < 16) (h2 : k2 < 16) (hne : k1 ≠ k2)
include h1 h2
theorem sg_form : ∃ a b c d, sg k1 k2 = [a, b, c, d] ∧ tokL.lookup a = some (7 + k1) ∧ tokL.lookup b = some (39 + k1) ∧ tokL.lookup c = some (7 + k2) ∧ tokL.lookup d = some (39 + k2) := by
  obtain ⟨l1, t1, t2⟩ := pair_tok ⟨k1, h1⟩
  obtain ⟨m1, u1, u2⟩ := pair_tok ⟨k2, h2⟩
  dsimp only at l1 t1 t2 m1 u1 u2
  unfold sg
  match e1 : pairOf k1, l1 with
  | [a, b], _ =>
    match e2 : pairOf k2, m1 with
    | [c, d], _ =>
      rw [e1] at t1 t2
      rw [e2] at u1 u2
      exact ⟨a, b, c, d, rfl, t1, t2, u1, u2⟩
theorem sg_len : (sg k1 k2).length = 4 := by
  obtain ⟨a, b, c, d, e, _⟩ := sg_form h1 h2
  rw [e]; rfl
theorem sg_tok {p : Nat} (hp : p < 4) : tokL.lookup ((sg k1 k2).getD p "") = some (tokAt k1 k2 p) := by
  obtain ⟨a, b, c, d, e, q1, q2, q3, q4⟩ := sg_form h1 h2
  rw [e]
  match p, hp with
  | 0, _ => exact q1
  | 1, _ => exact q2
  | 2, _ => exact q3
  | 3, _ => exact q4
theorem tokAt_rng {p : Nat} (hp : p < 4) : 7 ≤ tokAt k1 k2 p ∧ tokAt k1 k2 p < 55 := by
  match p, hp with
  | 0, _ => show 7 ≤ 7 + k1 ∧ 7 + k1 < 55; lia
  | 1, _ => show 7 ≤ 39 + k1 ∧ 39 + k1 < 55; lia
  | 2, _ => show 7 ≤ 7 + k2 ∧ 7 + k2 < 55; lia
  | 3, _ => show 7 ≤ 39 + k2 ∧ 39 + k2 < 55; lia
theorem code_is {p : Nat} (hp : p < 4) : codeOf (sg k1 k2) p = 64 + tokAt k1 k2 p := by
  unfold codeOf
  rw [sg_tok h1 h2 hp]; rfl
include hne
theorem tokAt_inj {p q : Nat} (hp : p < 4) (hq : q < 4) (h : tokAt k1 k2 p = tokAt k1 k2 q) : p = q := by
  have key : ∀ i, tokAt k1 k2 i = [7 + k1, 39 + k1, 7 + k2, 39 + k2].getD i 0 := fun _ => rfl
  rw [key, key] at h
  match p, q, hp, hq, h with
  | 0, 0, _, _, _ => rfl
  | 1, 1, _, _, _ => rfl
  | 2, 2, _, _, _ => rfl
  | 3, 3, _, _, _ => rfl
  | 0, 1, _, _, h => have : 7 + k1 = 39 + k1 := h; lia
  | 0, 2, _, _, h => have : 7 + k1 = 7 + k2 := h; lia
  | 0, 3, _, _, h => have : 7 + k1 = 39 + k2 := h; lia
  | 1, 0, _, _, h => have : 39 + k1 = 7 + k1 := h; lia
  | 1, 2, _, _, h => have : 39 + k1 = 7 + k2 := h; lia
  | 1, 3, _, _, h => have : 39 + k1 = 39 + k2 := h; lia
  | 2, 0, _, _, h => have : 7 + k2 = 7 + k1 := h; lia
  | 2, 1, _, _, h => have : 7 + k2 = 39 + k1 := h; lia
  | 2, 3, _, _, h => have : 7 + k2 = 39 + k2 := h; lia
  | 3, 0, _, _, h => have : 39 + k2 = 7 + k1 := h; lia
  | 3, 1, _, _, h => have : 39 + k2 = 39 + k1 := h; lia
  | 3, 2, _, _, h => have : 39 + k2 = 7 + k2 := h; lia
theorem sg_inj {p q : Nat} (hp : p < 4) (hq : q < 4) (h : (sg k1 k2).getD p "" = (sg k1 k2).getD q "") : p = q := by
  have e1 := sg_tok h1 h2 hp
  have e2 := sg_tok h1 h2 hq
  rw [h, e2] at e1
  exact (tokAt_inj h1 h2 hne hq hp (Option.some.inj e1)).symm
theorem cost_is {o p : Nat} (ho : o < 4) (hp : p < 4) : cost (codeOf (sg k1 k2) o) (codeOf (sg k1 k2) p) = cost4 p o := by
  rw [code_is h1 h2 ho, code_is h1 h2 hp]
  have a1 := tokAt_rng h1 h2 ho
  have a2 := tokAt_rng h1 h2 hp
  rw [cost_at (by lia) (by lia) (by lia) (by lia)]
  match o, p, ho, hp with
  | 0, 0, _, _ => rw [if_pos rfl]; rfl
  | 0, 1, _, _ => show (if 64 + (7 + k1) = 64 + (39 + k1) then (0 : Int) else if lowN (64 + (7 + k1)) = lowN (64 + (39 + k1)) then 1 else 2) = 1; rw [lowA _ h1, lowB _ h1, if_neg (by lia), if_pos (by lia)]
  | 0, 2, _, _ => show (if 64 + (7 + k1) = 64 + (7 + k2) then (0 : Int) else if lowN (64 + (7 + k1)) = lowN (64 + (7 + k2)) then 1 else 2) = 2; rw [lowA _ h1, lowA _ h2, if_neg (by lia), if_neg (by lia)]
  | 0, 3, _, _ => show (if 64 + (7 + k1) = 64 + (39 + k2) then (0 : Int) else if lowN (64 + (7 + k1)) = lowN (64 + (39 + k2)) then 1 else 2) = 2; rw [lowA _ h1, lowB _ h2, if_neg (by lia), if_neg (by lia)]
  | 1, 0, _, _ => show (if 64 + (39 + k1) = 64 + (7 + k1) then (0 : Int) else if lowN (64 + (39 + k1)) = lowN (64 + (7 + k1)) then 1 else 2) = 1; rw [lowB _ h1, lowA _ h1, if_neg (by lia), if_pos (by lia)]
  | 1, 1, _, _ => rw [if_pos rfl]; rfl
  | 1, 2, _, _ => show (if 64 + (39 + k1) = 64 + (7 + k2) then (0 : Int) else if lowN (64 + (39 + k1)) = lowN (64 + (7 + k2)) then 1 else 2) = 2; rw [lowB _ h1, lowA _ h2, if_neg (by lia), if_neg (by lia)]
  | 1, 3, _, _ => show (if 64 + (39 + k1) = 64 + (39 + k2) then (0 : Int) else if lowN (64 + (39 + k1)) = lowN (64 + (39 + k2)) then 1 else 2) = 2; rw [lowB _ h1, lowB _ h2, if_neg (by lia), if_neg (by lia)]
  | 2, 0, _, _ => show (if 64 + (7 + k2) = 64 + (7 + k1) then (0 : Int) else if lowN (64 + (7 + k2)) = lowN (64 + (7 + k1)) then 1 else 2) = 2; rw [lowA _ h2, lowA _ h1, if_neg (by lia), if_neg (by lia)]
  | 2, 1, _, _ => show (if 64 + (7 + k2) = 64 + (39 + k1) then (0 : Int) else if lowN (64 + (7 + k2)) = lowN (64 + (39 + k1)) then 1 else 2) = 2; rw [lowA _ h2, lowB _ h1, if_neg (by lia), if_neg (by lia)]
  | 2, 2, _, _ => rw [if_pos rfl]; rfl
  | 2, 3, _, _ => show (if 64 + (7 + k2) = 64 + (39 + k2) then (0 : Int) else if lowN (64 + (7 + k2)) = lowN (64 + (39 + k2)) then 1 else 2) = 1; rw [lowA _ h2, lowB _ h2, if_neg (by lia), if_pos (by lia)]
  | 3, 0, _, _ => show (if 64 + (39 + k2) = 64 + (7 + k1) then (0 : Int) else if lowN (64 + (39 + k2)) = lowN (64 + (7 + k1)) then 1 else 2) = 2; rw [lowB _ h2, lowA _ h1, if_neg (by lia), if_neg (by lia)]
  | 3, 1, _, _ => show (if 64 + (39 + k2) = 64 + (39 + k1) then (0 : Int) else if lowN (64 + (39 + k2)) = lowN (64 + (39 + k1)) then 1 else 2) = 2; rw [lowB _ h2, lowB _ h1, if_neg (by lia), if_neg (by lia)]
  | 3, 2, _, _ => show (if 64 + (39 + k2) = 64 + (7 + k2) then (0 : Int) else if lowN (64 + (39 + k2)) = lowN (64 + (7 + k2)) then 1 else 2) = 1; rw [lowB _ h2, lowA _ h2, if_neg (by lia), if_pos (by lia)]
  | 3, 3, _, _ => rw [if_pos rfl]; rfl
end
theorem lookup_map {β : Type} (f : Nat → Str) (g : Nat → β) (p : Nat) : ∀ l : List Nat, p ∈ l → (∀ j ∈ l, f j = f p → j = p) → (l.map fun j => (f j, g j)).lookup (f p) = some (g p)
  | [], h, _ => by cases h
  | j :: l, h, hi => by
    rw [List.map_cons, List.lookup_cons]
    by_cases e : f j = f p
    · have := hi j (.head _) e
      subst this
      simp
    · have e' : (f p == f j) = false := by simpa using fun q => e q.symm
      rw [e']
      refine lookup_map f g p l ?_ fun j hj => hi j (.tail _ hj)
      rcases List.mem_cons.mp h with rfl | h
      · exact absurd rfl e
      · exact h
end Mine
end

section
open PySem PySem.W PyProof.Rows PySem.Spec PySem.Calls PySem.Builtin PySem.Builtin.Str
namespace Mine
section
variable (cells : List Nat) (signs : List Str) (R : List Nat)
def pT (i : Nat) : List Str × List Str := ((grDraw cells signs (grW cells signs i) i 0).1, (grDraw cells signs (grW cells signs i) i 1).1)
def tsT : Nat → List (Str × Tb)
  | 0 => tsS signs (R.map fun (p : Nat) => (p : Int)) 4
  | i + 1 => tsT i ++ [(grN.getD i "", minT (ruleT (tsT i) (pT cells signs i).1 zeroT) (ruleT (tsT i) (pT cells signs i).2 zeroT))]
theorem tsT_names : ∀ i, (tsT cells signs R i).map (·.1) = ((List.range 4).map fun j => signs.getD j "") ++ (List.range i).map fun j => grN.getD j ""
  | 0 => by simp [tsT, tsS, Function.comp_def]
  | i + 1 => by
    rw [List.range_succ (n := i), List.map_append, ← List.append_assoc, ← tsT_names i]
    simp only [tsT, List.map_append]
    rfl
theorem tsT_len (i : Nat) : (tsT cells signs R i).length = 4 + i := by
  have := congrArg List.length (tsT_names cells signs R i)
  simpa using this
theorem grN_ne {i j : Nat} (hi : i < 3) (hj : j < 3) (h : grN.getD i "" = grN.getD j "") : i = j := by
  match i, j, hi, hj, h with
  | 0, 0, _, _, _ => rfl
  | 1, 1, _, _, _ => rfl
  | 2, 2, _, _, _ => rfl
  | 0, 1, _, _, h => exact absurd h (by decide +kernel)
  | 0, 2, _, _, h => exact absurd h (by decide +kernel)
  | 1, 0, _, _, h => exact absurd h (by decide +kernel)
  | 1, 2, _, _, h => exact absurd h (by decide +kernel)
  | 2, 0, _, _, h => exact absurd h (by decide +kernel)
  | 2, 1, _, _, h => exact absurd h (by decide +kernel)
theorem grR_at : ∀ (n : Nat), n ≤ 3 → ∀ i < n, (grR cells signs n).lookup (grN.getD i "") = some (pT cells signs i)
  | 0, _, i, hi => absurd hi (Nat.not_lt_zero i)
  | n + 1, hn, i, hi => by
    simp only [grR]
    rw [lookup_app]
    rcases Nat.lt_succ_iff_lt_or_eq.mp hi with h | rfl
    · rw [grR_at n (by lia) i h]; rfl
    · have hf : (grR cells signs i).lookup (grN.getD i "") = none := by
        cases e : (grR cells signs i).lookup (grN.getD i "") with
        | none => rfl
        | some v =>
          have hm := mem_of_lookup e
          have h2 : grN.getD i "" ∈ (rulesD (grR cells signs i)).map (·.1) := by
            unfold rulesD
            rw [List.map_map]
            exact List.mem_map.mpr ⟨_, hm, rfl⟩
          rw [grR_names] at h2
          exact absurd h2 (gr_fresh (by lia))
      rw [hf, if_pos (by simp)]; rfl
theorem grW_none {i : Nat} (hi : i < 3) : (grW cells signs i).lookup (grN.getD i "") = none := by
  cases e : (grW cells signs i).lookup (grN.getD i "") with
  | none => rfl
  | some v =>
    have hm := mem_of_lookup e
    have h2 : grN.getD i "" ∈ (natsD (grW cells signs i)).map (·.1) := by
      unfold natsD
      rw [List.map_map]
      exact List.mem_map.mpr ⟨_, hm, rfl⟩
    rw [grW_names] at h2
    exact absurd h2 (gr_fresh hi)
theorem grW_at : ∀ (n : Nat), n ≤ 3 → ∀ i < n, (grW cells signs n).lookup (grN.getD i "") = some ((grDraw cells signs (grW cells signs i) i 0).2 + (grDraw cells signs (grW cells signs i) i 1).2)
  | 0, _, i, hi => absurd hi (Nat.not_lt_zero i)
  | n + 1, hn, i, hi => by
    simp only [grW]
    rw [lookup_app]
    rcases Nat.lt_succ_iff_lt_or_eq.mp hi with h | rfl
    · rw [grW_at n (by lia) i h]; rfl
    · rw [grW_none cells signs (by lia), if_pos (by simp)]; rfl
theorem grW_keep {n : Nat} {q : Str} (h : q ≠ grN.getD n "") : ((grW cells signs (n + 1)).lookup q).getD 1 = ((grW cells signs n).lookup q).getD 1 := by
  simp only [grW]
  rw [lookup_app, if_neg (by simpa using h)]
  cases (grW cells signs n).lookup q <;> rfl
end
theorem tl1 (x : Nat) : tooLong ([x] : List Nat).length = false := by
  unfold tooLong
  rw [lks]
  rw [List.length_singleton]
  rfl
theorem POk.up {rl : List (Str × List Str × List Str)} {text : List Nat} {ts : List (Str × Tb)} {K : Nat} {ps : List Str} {c : Nat} {L : List (List Nat)} : ∀ (d n : Nat), POk rl text ts K ps c n L → POk rl text ts K ps c (n + d) L
  | 0, _, h => h
  | d + 1, n, h => (POk.up d n h).more
def kK (i : Nat) : Nat := [1, 3, 7].getD i 7
def tT (i : Nat) : Nat := [2, 2, 3].getD i 3
section
variable {cells : List Nat} {k1 k2 : Nat} {R : List Nat} (h1 : k1 < 16) (h2 : k2 < 16) (hne : k1 ≠ k2) (hR : R.length = 4) (hRb : ∀ p ∈ R, p < 4)
abbrev txt (k1 k2 : Nat) (R : List Nat) : List Nat := R.map (codeOf (sg k1 k2))
/-- the pieces at a stage -/
def Stg (cells : List Nat) (k1 k2 : Nat) (R : List Nat) (i : Nat) : Prop := ∀ q ∈ sg k1 k2 ++ grS.getD i [], ∃ M, WOk (grR cells (sg k1 k2) 3) (txt k1 k2 R) (tsT cells (sg k1 k2) R i) (kK i) q (((grW cells (sg k1 k2) i).lookup q).getD 1) M
include h1 h2 hne hRb
theorem stg0 : Stg cells k1 k2 R 0 := by
  intro q hq
  have hq' : q ∈ sg k1 k2 := by
    rcases List.mem_append.mp hq with h | h
    · exact h
    · cases h
  obtain ⟨p, hp, rfl⟩ := List.getElem_of_mem hq'
  have hp4 : p < 4 := by rw [sg_len h1 h2] at hp; exact hp
  have eg : (sg k1 k2)[p] = (sg k1 k2).getD p "" := by rw [List.getD_eq_getElem?_getD, List.getElem?_eq_getElem hp]; rfl
  rw [eg]
  have ht := sg_tok h1 h2 hp4
  have hr := tokAt_rng h1 h2 hp4
  have hc := code_is h1 h2 hp4
  refine ⟨[[codeOf (sg k1 k2) p]], ⟨signT p (R.map fun (p : Nat) => (p : Int)), ?_, Is.sign fun o ho => cost_is h1 h2 hne (hRb o ho) hp4⟩, ?_, rfl, Nat.le_refl _, fun x hx => ?_, fun x hx => ?_⟩
  · show (tsS _ _ 4).lookup _ = _
    unfold tsS
    exact lookup_map (fun j => (sg k1 k2).getD j "") (fun (j : Nat) => signT j (R.map fun (p : Nat) => (p : Int))) p (List.range 4) (List.mem_range.mpr hp4) fun j hj e => sg_inj h1 h2 hne (List.mem_range.mp hj) hp4 e
  · rw [hc]; exact Wd.sign ht (by lia) (by lia)
  · rw [List.mem_singleton.mp hx]; show 1 ≤ 1 + _; lia
  · rw [List.mem_singleton.mp hx]
    intro ch hch
    rw [List.mem_singleton.mp hch, hc, low_at (by lia) (by lia), mk_len]
    exact tl1 _
omit hne hRb in
theorem stg_rules {i : Nat} (hi : i < 3) (S : Stg cells k1 k2 R i) (j : Nat) : ∃ L, POk (grR cells (sg k1 k2) 3) (txt k1 k2 R) (tsT cells (sg k1 k2) R i) (kK i) (grDraw cells (sg k1 k2) (grW cells (sg k1 k2) i) i j).1 (grDraw cells (sg k1 k2) (grW cells (sg k1 k2) i) i j).2 (tT i) L := by
  have hm := grM_pos i
  obtain ⟨L, hL⟩ := rule_ok hm.2 (by rw [List.length_append, sg_len h1 h2]; lia) S (cells.getD (2 * i + j) 0 % 3 + grM.getD i 1 / 4) (cells.getD (2 * i + j) 0 / 3) [] 1 0 [[]] .nil
  rw [Nat.zero_add] at hL
  have hT : cells.getD (2 * i + j) 0 % 3 + grM.getD i 1 / 4 ≤ tT i := by
    have h3 : cells.getD (2 * i + j) 0 % 3 < 3 := Nat.mod_lt _ (by decide)
    match i, hi with
    | 0, _ => show _ + 1 / 4 ≤ 2; lia
    | 1, _ => show _ + 2 / 4 ≤ 2; lia
    | 2, _ => show _ + 4 / 4 ≤ 3; lia
  have := POk.up (tT i - (cells.getD (2 * i + j) 0 % 3 + grM.getD i 1 / 4)) _ hL
  rw [Nat.add_sub_cancel' hT] at this
  exact ⟨L, this⟩
omit hne hRb in
theorem ts_fresh {i : Nat} (hi : i < 3) : (tsT cells (sg k1 k2) R i).lookup (grN.getD i "") = none := by
  refine lookup_none_names ?_
  rw [tsT_names]
  intro h
  rcases List.mem_append.mp h with h | h
  · obtain ⟨j, hj, e⟩ := List.mem_map.mp h
    have := sg_tok h1 h2 (List.mem_range.mp hj)
    rw [e, (nm_facts ⟨i, hi⟩).1] at this
    cases this
  · exact gr_fresh hi h
theorem stg_next {i : Nat} (hi : i < 2) (S : Stg cells k1 k2 R i) : Stg cells k1 k2 R (i + 1) := by
  have hk : kK i ≤ kK (i + 1) := by
    match i, hi with
    | 0, _ => decide
    | 1, _ => decide
  have hkt : tT i * kK i + 1 ≤ kK (i + 1) := by
    match i, hi with
    | 0, _ => decide
    | 1, _ => decide
  have htt : tT i = 2 := by
    match i, hi with
    | 0, _ => rfl
    | 1, _ => rfl
  have hmm : grM.getD i 1 ≤ 2 := by
    match i, hi with
    | 0, _ => decide
    | 1, _ => decide
  intro q hq
  by_cases hqn : q = grN.getD i ""
  · subst hqn
    obtain ⟨L0, P0⟩ := stg_rules h1 h2 (by lia) S 0
    obtain ⟨L1, P1⟩ := stg_rules h1 h2 (by lia) S 1
    have ew := grW_at cells (sg k1 k2) (i + 1) (by lia) i (Nat.lt_succ_self i)
    rw [ew]
    have c0 : (grDraw cells (sg k1 k2) (grW cells (sg k1 k2) i) i 0).2 ≤ 2 := Nat.le_trans (ruleLoop_le _ _ _ _ _ _ _ (grM_pos i).1) hmm
    have c1 : (grDraw cells (sg k1 k2) (grW cells (sg k1 k2) i) i 1).2 ≤ 2 := Nat.le_trans (ruleLoop_le _ _ _ _ _ _ _ (grM_pos i).1) hmm
    have p0 := P0.pos
    have p1 := P1.pos
    have l0 := P0.len
    have l1 := P1.len
    rw [htt] at l0 l1
    obtain ⟨f1, f2, f3⟩ := nm_facts ⟨i, by lia⟩
    show ∃ M, WOk _ _ _ _ _ ((grDraw cells (sg k1 k2) (grW cells (sg k1 k2) i) i 0).2 + (grDraw cells (sg k1 k2) (grW cells (sg k1 k2) i) i 1).2) M
    refine ⟨L0 ++ L1, ⟨_, ?_, P0.is.min P1.is⟩, ?_, ?_, by lia, fun x hx => ?_, fun x hx => ?_⟩
    · show (tsT cells (sg k1 k2) R i ++ _).lookup _ = _
      rw [lookup_app, ts_fresh h1 h2 (by lia), if_pos (by simp)]; rfl
    · exact (Wd.name f1 f2 (by show (256 : Int) ≤ 258 - (i : Int); lia) f3 (grR_at cells (sg k1 k2) 3 (Nat.le_refl _) i (by lia)) P0.sp P1.sp).mono hkt
    · rw [List.length_append, P0.cnt, P1.cnt]
    · have key : ∀ a b, 1 ≤ a → a ≤ 2 → 1 ≤ b → b ≤ 2 → 1 + slack a ≤ slack (a + b) ∧ 1 + slack b ≤ slack (a + b) := by
        intro a b ha ha' hb hb'
        match a, b, ha, ha', hb, hb' with
        | 1, 1, _, _, _, _ => decide
        | 1, 2, _, _, _, _ => decide
        | 2, 1, _, _, _, _ => decide
        | 2, 2, _, _, _, _ => decide
      obtain ⟨z0, z1⟩ := key _ _ p0 c0 p1 c1
      rcases List.mem_append.mp hx with hx | hx
      · have := l0 x hx; lia
      · have := l1 x hx; lia
    · rcases List.mem_append.mp hx with hx | hx
      · exact P0.fit x hx
      · exact P1.fit x hx
  · have hq' : q ∈ sg k1 k2 ++ grS.getD i [] := by
      rcases List.mem_append.mp hq with h | h
      · exact List.mem_append_left _ h
      · refine List.mem_append_right _ ?_
        match i, hi, h, hqn with
        | 0, _, h, hqn => exact absurd (List.mem_singleton.mp h) hqn
        | 1, _, h, hqn =>
          have h' : q ∈ ([("257" : Str), "258"] : List Str) := h
          simp only [List.mem_cons, List.not_mem_nil, or_false] at h'
          rcases h' with h' | h'
          · exact absurd h' hqn
          · exact List.mem_singleton.mpr h'
    obtain ⟨M, hM⟩ := S q hq'
    rw [grW_keep cells (sg k1 k2) hqn]
    exact ⟨M, hM.later hk⟩
theorem stg : ∀ i, i < 3 → Stg cells k1 k2 R i
  | 0, _ => stg0 h1 h2 hne hRb
  | i + 1, h => stg_next h1 h2 hne hRb (by lia) (stg i (by lia))
end
end Mine
end

section
open PySem PySem.W PyProof.Rows PySem.Spec PySem.Calls PySem.Builtin PySem.Builtin.Str
namespace Mine
theorem Is.top {text : List Nat} {t : Tb} {L : List (List Nat)} (h : Is text t L) (h4 : text.length = 4) : (∃ x ∈ L, ed text x = t 0 4) ∧ ∀ x ∈ L, t 0 4 ≤ ed text x := by
  have := h 0 4 (by lia)
  rw [List.drop_zero, List.take_of_length_le (by lia)] at this
  exact this
theorem min_is {text : List Nat} {m mc : Int} {L : List (List Nat)} (h : (∃ x ∈ L, ed text x = m) ∧ ∀ x ∈ L, m ≤ ed text x) (hm : m ≤ mc) : minL (L.map fun r => levF text r mc) = m := by
  obtain ⟨⟨x, hx, e⟩, hl⟩ := h
  refine minL_uniq (List.mem_map.mpr ⟨x, hx, ?_⟩) fun a ha => ?_
  · rcases levF_is text x mc with q | ⟨q, _⟩
    · rw [q, e]
    · lia
  · obtain ⟨y, hy, rfl⟩ := List.mem_map.mp ha
    have := hl y hy
    rcases levF_is text y mc with q | ⟨_, q⟩
    · rw [q]; exact this
    · lia
section
variable {k1 k2 : Nat} (h1 : k1 < 16) (h2 : k2 < 16) (hne : k1 ≠ k2)
include h1 h2 hne
theorem plain_of (cells : List Nat) {R : List Nat} (hR : R.length = 4) (hRb : ∀ p ∈ R, p < 4) : ∃ tsI pI rI, Plain cells (sg k1 k2) R tsI pI rI := by
  have hex : ∀ i, ∃ r : List (List Nat) × List (List Nat), i < 3 → POk (grR cells (sg k1 k2) 3) (txt k1 k2 R) (tsT cells (sg k1 k2) R i) (kK i) (pT cells (sg k1 k2) i).1 (grDraw cells (sg k1 k2) (grW cells (sg k1 k2) i) i 0).2 (tT i) r.1 ∧
      POk (grR cells (sg k1 k2) 3) (txt k1 k2 R) (tsT cells (sg k1 k2) R i) (kK i) (pT cells (sg k1 k2) i).2 (grDraw cells (sg k1 k2) (grW cells (sg k1 k2) i) i 1).2 (tT i) r.2 := by
    intro i
    by_cases hi : i < 3
    · obtain ⟨L0, q0⟩ := stg_rules h1 h2 hi (stg h1 h2 hne hRb i hi) 0
      obtain ⟨L1, q1⟩ := stg_rules h1 h2 hi (stg h1 h2 hne hRb i hi) 1
      exact ⟨(L0, L1), fun _ => ⟨q0, q1⟩⟩
    · exact ⟨([], []), fun h => absurd h hi⟩
  obtain ⟨rI, hrI⟩ := Classical.axiomOfChoice hex
  refine ⟨tsT cells (sg k1 k2) R, pT cells (sg k1 k2), rI, sg_len h1 h2, fun i hi h => ?_, fun i hi => ⟨_, sg_tok h1 h2 hi, by have := (tokAt_rng h1 h2 hi).2; lia⟩, fun c hc => ?_, rfl, fun i hi => by rw [tsT_len]; lia, fun i _ => rfl, fun i hi => ?_⟩
  · obtain ⟨j, hj, e⟩ := List.mem_map.mp h
    have hj' := List.mem_range.mp hj
    have := sg_inj h1 h2 hne (by lia) hi e
    lia
  · obtain ⟨p, hp, rfl⟩ := List.mem_map.mp hc
    have hp4 := hRb p hp
    have hr := tokAt_rng h1 h2 hp4
    rw [code_is h1 h2 hp4, low_at (by lia) (by lia), mk_len]
    exact tl1 _
  · obtain ⟨q0, q1⟩ := hrI i hi
    have h4 : (R.map (codeOf (sg k1 k2))).length = 4 := by rw [List.length_map, hR]
    have hT : tT i ≤ 3 := by
      match i, hi with
      | 0, _ => decide
      | 1, _ => decide
      | 2, _ => decide
    have hTK : tT i * kK i ≤ 22 := by
      match i, hi with
      | 0, _ => decide
      | 1, _ => decide
      | 2, _ => decide
    have c0 := grDraw_le cells (sg k1 k2) (grW cells (sg k1 k2) i) i 0
    have c1 := grDraw_le cells (sg k1 k2) (grW cells (sg k1 k2) i) i 1
    have t0 := q0.is.top h4
    have t1 := q1.is.top h4
    have lim : ∀ {c : Nat} {ps : List Str} {L : List (List Nat)}, POk (grR cells (sg k1 k2) 3) (txt k1 k2 R) (tsT cells (sg k1 k2) R i) (kK i) ps c (tT i) L → ∀ x ∈ L, x.length ≤ 5 := by
      intro c ps L q x hx
      have := q.len x hx
      have := slack_le c
      lia
    have due : ∀ {c : Nat} {ps : List Str} {L : List (List Nat)} {t : Int}, POk (grR cells (sg k1 k2) 3) (txt k1 k2 R) (tsT cells (sg k1 k2) R i) (kK i) ps c (tT i) L → (∃ x ∈ L, ed (R.map (codeOf (sg k1 k2))) x = t) → 0 ≤ t ∧ t ≤ 10 := by
      intro c ps L t q h
      obtain ⟨x, hx, e⟩ := h
      have a := (ed_at (R.map (codeOf (sg k1 k2))) x).nonneg
      have b := ed_max (R.map (codeOf (sg k1 k2))) x 5 (by lia) (lim q x hx)
      rw [e] at a b
      lia
    have d0 := due q0 t0.1
    have d1 := due q1 t1.1
    exact {
      rule := grR_at cells (sg k1 k2) 3 (Nat.le_refl _) i hi
      have0 := q0.has
      have1 := q1.has
      len0 := by have := q0.num; lia
      len1 := by have := q1.num; lia
      fresh := ts_fresh h1 h2 hi
      sp0 := q0.sp.final.mono hTK
      sp1 := q1.sp.final.mono hTK
      ne0 := by rw [q0.cnt]; exact ⟨q0.pos, by lia⟩
      ne1 := by rw [q1.cnt]; exact ⟨q1.pos, by lia⟩
      fit0 := fun r hr => ⟨by have := lim q0 r hr; lia, q0.fit r hr⟩
      fit1 := fun r hr => ⟨by have := lim q1 r hr; lia, q1.fit r hr⟩
      due := ⟨d0.1, by lia⟩
      min0 := min_is t0 (Int.le_refl _)
      min1 := min_is t1 d1.2
      ways := by rw [q0.cnt, q1.cnt]; exact grW_at cells (sg k1 k2) 3 (Nat.le_refl _) i hi }
end
theorem plain (T : Nat) (cells : List Nat) (_h : cells.length = 7) : ∃ tsI pI rI, Plain cells (lawSigns T) (lawRow T) tsI pI rI := by
  have hne : T % 16 ≠ (T + 1 + T / 16 % 15) % 16 := by lia
  refine plain_of (k1 := T % 16) (k2 := (T + 1 + T / 16 % 15) % 16) (Nat.mod_lt _ (by decide)) (Nat.mod_lt _ (by decide)) hne cells (by simp [lawRow]) fun p hp => ?_
  obtain ⟨i, _, rfl⟩ := List.mem_map.mp hp
  exact Nat.mod_lt _ (by decide)
end Mine
end

section
open PySem PySem.W PyProof.Rows PySem.Spec PySem.Calls
set_option maxRecDepth 100000
namespace Mine
theorem frag_sub {K' : Frag} {h : Heap} (X : K'.In h) : ∀ {K : Frag}, K.map (fun p => K'.lookup p.1) = K.map (fun p => some p.2) → K.In h
  | [], _, a, o, l => by cases l
  | (k, v) :: r, e, a, o, l => by
    rw [List.map_cons, List.map_cons] at e
    obtain ⟨e1, e2⟩ := List.cons.inj e
    rw [List.lookup_cons] at l
    by_cases q : (a == k) = true
    · rw [q] at l
      cases l
      have : a = k := by simpa using q
      subst this
      exact X a _ e1
    · have q' : (a == k) = false := by simpa using q
      rw [q'] at l
      exact frag_sub X e2 a o l
theorem file_is : PySem.Challenge.rw_ti0032_01.row.prog.main.file = PySem.Challenge.pw_ti0032_01.main.file := by rfl
theorem super_is : (PySem.Challenge.rw_ti0032_01.row.prog.main.scope.names.lookup ("super" : Str)).isSome = false := by rfl
theorem post_is (as bs : List WData) : PySem.Challenge.rw_ti0032_01.row.claim.post as (WData.bool true) bs = true := by kernel_rfl
theorem room_law (env : Env) : Room (callerA.deeper env) 50 := ⟨by show 1 + claimMargin + 1 + 50 < 900; decide, by show 4 + 3 + 10 * 50 < 9000; decide⟩
def th.tw13998389859354875414 : Unit := ()
def th.tw7151332795529389122 : Unit := ()
def th.tw1804983415763470381 : Unit := ()
def th.tw2381163243154206677 : Unit := ()
def th.tw15694424907848138632 : Unit := ()
def th.tw3121040570976956394 : Unit := ()
def th.tw17991413712388119773 : Unit := ()
def th.tw471145497153921075 : Unit := ()
def th.tw9651344142144669348 : Unit := ()
def th.tw5931786590164987187 : Unit := ()
def th.tw18296970506816391375 : Unit := ()
def th.tw2043772297549195417 : Unit := ()
def th.tw2091170041317242613 : Unit := ()
def th.tw2789112960857857803 : Unit := ()
def th.tw12328679236674515028 : Unit := ()
def th.tw8508440320668964224 : Unit := ()
def th.tw3003859773840529884 : Unit := ()
def th.tw17937338443600414976 : Unit := ()
def th.tw18038395292022597735 : Unit := ()
def th.tw13900174748580629985 : Unit := ()
def th.tw9599910956809959311 : Unit := ()
def th.tw9542865881866942076 : Unit := ()
def th.tw10752800647941620208 : Unit := ()
def th.tw807122062003688415 : Unit := ()
def th.tw13776685712020307829 : Unit := ()
def th.tw13062877426615272483 : Unit := ()
def th.tw4738810200773877479 : Unit := ()
def th.tw18181090981423569115 : Unit := ()
def th.tw18401448744073481967 : Unit := ()
def th.tw647824277830744680 : Unit := ()
def th.tw12674780679489548392 : Unit := ()
def th.tw1044408341538136294 : Unit := ()
def th.tw4351415977696720617 : Unit := ()
def th.tw4779301365710712815 : Unit := ()
def th.tw9277877091630032651 : Unit := ()
def th.tw17581970751665834304 : Unit := ()
def th.tw11686050553030272412 : Unit := ()
def th.tw2758003940758000933 : Unit := ()
def th.tw10096455033843738047 : Unit := ()
def th.tw6805105914918668563 : Unit := ()
def th.tw6343142643129501600 : Unit := ()
def th.tw2762905709034286090 : Unit := ()
def th.tw13317145271273898116 : Unit := ()
def th.tw9859288881978879366 : Unit := ()
def th.tw16271803883295024800 : Unit := ()
def th.tw4249582641581993162 : Unit := ()
def th.tw2790155953978144847 : Unit := ()
def th.tw8612002022697541331 : Unit := ()
def th.tw2767742402052280306 : Unit := ()
def th.tw10846727790882795345 : Unit := ()
def th.tw9805025738611554061 : Unit := ()
def th.tw14650461343215905503 : Unit := ()
def th.tw3230340939288297699 : Unit := ()
def th.tw4091272942149194808 : Unit := ()
def th.tw16582305289314132488 : Unit := ()
def th.tw13080231172004941692 : Unit := ()
def th.tw10813227226152726468 : Unit := ()
def th.tw6289783418850150519 : Unit := ()
def th.tw8554558731164050347 : Unit := ()
def th.tw3641053460966631775 : Unit := ()
def th.tw12469528252380662656 : Unit := ()
def th.tw7847968544790077055 : Unit := ()
def th.tw1330627000261230876 : Unit := ()
def th.tw17717622263824859921 : Unit := ()
def th.tw9989369169259539498 : Unit := ()
def th.tw15234033789737034030 : Unit := ()
def th.tw15577146107429480634 : Unit := ()
def th.tw11847987926849401596 : Unit := ()
def th.tw281420587723405444 : Unit := ()
def th.tw8584692276401077175 : Unit := ()
def th.tw17434270568556197542 : Unit := ()
def th.tw8363791158313362999 : Unit := ()
def th.tw4457293852998730975 : Unit := ()
def th.tw13273698377069751934 : Unit := ()
def th.tw9828097554106622566 : Unit := ()
def th.tw13773446546112894534 : Unit := ()
def th.tw11243718445928562938 : Unit := ()
def th.tw17322211099508746579 : Unit := ()
def th.tw13573844474197580969 : Unit := ()
def th.tw1896666507322002233 : Unit := ()
def th.tw9102031771929075585 : Unit := ()
def th.tw11438432900203503112 : Unit := ()
def th.tw10744490138500221952 : Unit := ()
def th.tw14618419361534778262 : Unit := ()
def th.tw18058745866051415867 : Unit := ()
def th.tw2581124379997924366 : Unit := ()
def th.tw17440714909185317245 : Unit := ()
def th.tw3471676056004181757 : Unit := ()
def th.tw4267817796672315679 : Unit := ()
def th.tw9643447939172000467 : Unit := ()
def th.tw17582580006653671021 : Unit := ()
def th.tw16641198429562861123 : Unit := ()
def th.tw4779084695594835130 : Unit := ()
def th.tw14472718165841580401 : Unit := ()
def th.tw9626669061324991337 : Unit := ()
def th.tw14793040518332514366 : Unit := ()
def th.tw17394123935665418482 : Unit := ()
def th.tw2722685801125293760 : Unit := ()
def th.tw15944813799800685003 : Unit := ()
def th.tw12587529484074037690 : Unit := ()
def th.tw4334465827173116787 : Unit := ()
def th.tw11505402083051823454 : Unit := ()
def th.tw11752776339821449388 : Unit := ()
def th.tw5763011435330227433 : Unit := ()
def th.tw9606729504102824729 : Unit := ()
def th.tw3098416953122950137 : Unit := ()
def th.tw377296171032809427 : Unit := ()
def th.tw445933867915355738 : Unit := ()
def th.tw10568522520851489572 : Unit := ()
def th.tw9884183234928527830 : Unit := ()
def th.tw3731199847015045296 : Unit := ()
def th.tw3268554000376503515 : Unit := ()
def th.tw10630410873303639760 : Unit := ()
def th.tw7037292253297048985 : Unit := ()
def th.tw7262500166354669625 : Unit := ()
def th.tw1472512361620989617 : Unit := ()
def th.tw1737944240993515279 : Unit := ()
def th.tw5395033358849349410 : Unit := ()
def th.tw17455258089561275276 : Unit := ()
def th.tw15944806687788975426 : Unit := ()
def th.tw3110390010992388659 : Unit := ()
def th.tw18065942312247766541 : Unit := ()
def th.tw13680964404061353292 : Unit := ()
def th.tw11576574638004760149 : Unit := ()
def th.tw15442052673256827314 : Unit := ()
def th.tw12692602663405463428 : Unit := ()
def th.tw16740405700591213015 : Unit := ()
def th.tw10113083624225369398 : Unit := ()
def th.tw13063018304650509438 : Unit := ()
def th.tw8907970298529220583 : Unit := ()
def th.tw1104939073654896474 : Unit := ()
def th.tw14074474992291064881 : Unit := ()
def th.tw11913640866835551062 : Unit := ()
def th.tw5911481277036232001 : Unit := ()
def th.tw11139752324643744946 : Unit := ()
def th.tw2016313242188158841 : Unit := ()
def th.tw10320584357594287376 : Unit := ()
def th.tw1761819229936865246 : Unit := ()
def th.tw4880022202580714040 : Unit := ()
def th.tw3709695349362688924 : Unit := ()
def th.tw4000255609800076910 : Unit := ()
def th.tw17509728623748928953 : Unit := ()
def th.tw10383533823382939115 : Unit := ()
def th.tw13649254109356233872 : Unit := ()
def th.tw16198545929662597176 : Unit := ()
def th.tw3159346322761524821 : Unit := ()
def th.tw8319410675680836192 : Unit := ()
def th.tw14439713329509681758 : Unit := ()
def th.tw1260865523068283345 : Unit := ()
def th.tw1486952319777392632 : Unit := ()
def th.tw12812637835122418891 : Unit := ()
def th.tw8739360744284799294 : Unit := ()
def th.tw7178203964090429436 : Unit := ()
def th.tw6586160083610019026 : Unit := ()
def th.tw16647395203997398182 : Unit := ()
def th.tw10446541837865463414 : Unit := ()
def th.tw17649143804076886314 : Unit := ()
def th.tw15841954764523933867 : Unit := ()
def th.tw6013234773527603559 : Unit := ()
def th.tw15245484755182182794 : Unit := ()
def th.tw17676297928016238887 : Unit := ()
def th.tw2601379483352969718 : Unit := ()
def th.tw16253693807603147775 : Unit := ()
def th.tw1000211089777054583 : Unit := ()
def th.tw16017036241934313136 : Unit := ()
def th.tw8884976081984879535 : Unit := ()
def th.tw13940975294841360398 : Unit := ()
def th.tw15858522909076879249 : Unit := ()
def th.tw9137810889310157278 : Unit := ()
def th.tw4639353447037179177 : Unit := ()
def th.tw14354684341507000957 : Unit := ()
def th.tw4690643154503558860 : Unit := ()
def th.tw8856929207791529057 : Unit := ()
def th.tw17607415608027337033 : Unit := ()
def th.tw9090727788226586696 : Unit := ()
def th.tw10433890618113115322 : Unit := ()
def th.tw16798187983968006026 : Unit := ()
def th.tw7843327289038627357 : Unit := ()
set_option maxHeartbeats 8000000 in
set_option Elab.async true in
theorem th : PySem.Challenge.rw_ti0032_01.Holds := by
  w_on; o_law; k_head; (case hw => w_witness2)
  k_go0
  all_goals try k_fold
  rename_i w s₀ s₁ mg mb G Y fa o pm doc ho hg KX X V GL T B TE TW w11 w10 M w9 w8 hcd ns hs hlay0 hL0 hr hl2 w6 w5 w4 w3 w2 hL ra w1 r0 hI hr2 hcond' hcond2 K0 hD h₁ tk₁ F o1 o2 d1 d2 N0 X0
  have Hh : Hp PySem.Challenge.rw_ti0032_01.row.prog w s₁.heap := ⟨⟨file_is, super_is⟩, frag_sub KX (by kernel_rfl), _, _, _, _, _, T⟩
  have hlen : ns.length ≤ 63 := by lia
  have n1 := N0 _ (List.mem_cons_self)
  have n2 := N0 _ (List.mem_cons_of_mem _ List.mem_cons_self)
  have gr : Grow Nil s₁ ⟨h₁, s₁.gens, s₁.drawn, tk₁, s₁.os⟩ := ⟨rfl, Nat.le_of_lt F.ns.lt, fun a o _ e => F.keep a o e⟩
  refine wpAny_mono (law_done (L := s₁.heap.objs.size) (a := w4) (vs := w3) (ns := ns) rfl rfl gr F.ns ⟨o2, n2.1, d2⟩ ⟨o1, n1.1, d1⟩ hL hI Hh (room_law _) hlen ?_ plain) (fun f s' h => ?_) (fun _ _ q => q.elim)
  · exact ⟨187, _, by decide, Hh.X 187 _ (show (Kp w).lookup 187 = some (objOf w 187) from by kernel_rfl)⟩
  · obtain ⟨rfl, g⟩ := h
    have e := g.same
    refine ⟨.inl ⟨.bool true, .bool true, [], rfl, fun cls => ?_, .bool true, ?_, fun _ => ⟨List.nodup_nil, fun a h => by cases h⟩⟩, fun b o hb => g.keep b o (fun q => q) hb, by rw [e], by rw [e]; exact hg⟩
    · rfl
    · exact post_is _ _
end Mine
end

theorem PySem.Challenge.cw_ti0032_01_holds : PySem.Challenge.rw_ti0032_01.Holds :=
  Mine.th
