import PyProof.Rows.All
import Wide.All
import OpenK.AllK
import Wide.FinOn
import PySem.Challenge.RW_xn0020_01
open PySem PySem.W PyProof.Rows
set_option Elab.async false
set_option maxRecDepth 100000
set_option maxHeartbeats 8000000
set_option pp.deepTerms false
set_option pp.deepTerms.threshold 8
set_option pp.maxSteps 4000
set_option linter.unusedVariables false
set_option linter.all false
set_option compiler.extract_closed false
namespace Mine
theorem omL {a b : Nat} (h : Nat.ble (a + 1) b = true) : a < b := Nat.le_of_ble_eq_true h
theorem omM {a b : Nat} (h : Nat.ble a b = true) : a ≤ b := Nat.le_of_ble_eq_true h
theorem omA1 {a b c : Nat} (h : a ≤ b) : a ≤ b + c := Nat.le_trans h (Nat.le_add_right _ _)
theorem omA2 {a b c d : Nat} (h : a ≤ b) : a ≤ b + c + d := omA1 (omA1 h)
theorem omA3 {a b c d e : Nat} (h : a ≤ b) : a ≤ b + c + d + e := omA1 (omA2 h)
theorem omA4 {a b c d e f : Nat} (h : a ≤ b) : a ≤ b + c + d + e + f := omA1 (omA3 h)
theorem omB1 {a b c : Nat} (h : a < b) : a < b + c := Nat.lt_of_lt_of_le h (Nat.le_add_right _ _)
theorem omB2 {a b c d : Nat} (h : a < b) : a < b + c + d := omB1 (omB1 h)
theorem omB3 {a b c d e : Nat} (h : a < b) : a < b + c + d + e := omB1 (omB2 h)
theorem omC1 {a c : Nat} : a < a + (c + 1) := Nat.lt_add_of_pos_right (Nat.succ_pos _)
theorem omD1 {a c k n : Nat} (h : a + k < n) (e : Nat.ble c k = true) : a + c < n := Nat.lt_of_le_of_lt (Nat.add_le_add_left (Nat.le_of_ble_eq_true e) _) h
theorem omD2 {a c d k n : Nat} (h : a + k < n) (e : Nat.ble (c + d) k = true) : a + c + d < n := by rw [Nat.add_assoc]; exact omD1 h e
theorem omD3 {a c d f k n : Nat} (h : a + k < n) (e : Nat.ble (c + (d + f)) k = true) : a + c + d + f < n := by rw [Nat.add_assoc, Nat.add_assoc]; exact omD1 h e
theorem omE1 {a k c : Nat} (h : a ≤ k) (e : Nat.ble k c = true) : a ≤ c := Nat.le_trans h (Nat.le_of_ble_eq_true e)
theorem omE2 {a k c : Nat} (h : a < k) (e : Nat.ble k c = true) : a < c := Nat.lt_of_lt_of_le h (Nat.le_of_ble_eq_true e)
theorem omE3 {a b k c : Nat} (q : a = b) (h : b ≤ k) (e : Nat.ble k c = true) : a ≤ c := q ▸ omE1 h e
theorem omE4 {a b i n k c : Nat} (q : a = b) (h : b ≤ i) (j : i < n) (m : n ≤ k) (e : Nat.ble k c = true) : a ≤ c := q ▸ Nat.le_trans h (Nat.le_trans (Nat.le_of_lt j) (omE1 m e))
theorem omE5 {a b i n k c z : Nat} (q : a = b) (h : b + z ≤ i) (j : i < n) (m : n ≤ k) (e : Nat.ble k c = true) : a ≤ c := omE4 q (Nat.le_trans (Nat.le_add_right _ _) h) j m e
theorem omE6 {i n k c : Nat} (j : i < n) (m : n ≤ k) (e : Nat.ble k c = true) : i ≤ c := Nat.le_trans (Nat.le_of_lt j) (omE1 m e)
theorem omF1 {a b z : Nat} (h : a + z ≤ b) : a ≤ b := Nat.le_trans (Nat.le_add_right _ _) h
theorem omF2 {a b z : Nat} (h : a + (z + 1) ≤ b) : a + z ≤ b := Nat.le_trans (Nat.le_succ _) h
theorem omF3 {a b : Nat} (h : a ≤ b) : a + 1 ≤ b + 1 := Nat.succ_le_succ h
theorem omG1 {a b : Nat} (h : a = b) : b ≤ a := Nat.le_of_eq h.symm
theorem omG2 {a b c : Nat} (h : a = c) (k : b = c) : a ≤ b := Nat.le_of_eq (h.trans k.symm)
theorem omZ1 {a : Nat} : ((0 : Int) + (a : Int)).toNat = a := by omega
theorem omZ2 {a : Nat} : (0 : Int) ≤ 0 + (a : Int) := by omega
theorem omZ3 {a k : Nat} (h : a ≤ k) (e : Nat.ble k 1000000 = true) : (0 : Int) + (a : Int) < 2 ^ 63 := by have := Nat.le_of_ble_eq_true e; omega
theorem omZ4 {a k : Nat} (h : a < k) (e : Nat.ble k 1000000 = true) : (0 : Int) + (a : Int) < 2 ^ 63 := omZ3 (Nat.le_of_lt h) e
theorem omZ5 {a n k : Nat} (h : a < n) (q : n ≤ k) (e : Nat.ble k 1000000 = true) : (0 : Int) + (a : Int) < 2 ^ 63 := omZ3 (Nat.le_trans (Nat.le_of_lt h) q) e
theorem omZ6 {a : Nat} : ((1 : Int) + (a : Int)).toNat = a + 1 := by omega
theorem omZ7 {a b c : Nat} (h : a < c) : c + b - (a + 1) < c + b - a := by omega
theorem omZ8 {a c : Nat} (h : a < c) : c - (a + 1) < c - a := by omega
end Mine
local macro_rules | `(tactic| walk_at "om lt") => `(tactic| with_reducible first | assumption | exact Mine.omL rfl | exact Mine.omM rfl | exact Mine.omC1 | exact And.left (by assumption) | exact And.left (And.right (by assumption)) | exact And.left (And.right (And.right (by assumption))) | exact And.left (And.right (And.right (And.right (by assumption)))) | exact And.left (And.right (And.right (And.right (And.right (by assumption))))) | exact And.left (And.right (And.right (And.right (And.right (And.right (by assumption)))))) | exact Mine.omE1 (by assumption) rfl | exact Mine.omE2 (by assumption) rfl | exact Mine.omD1 (by assumption) rfl | exact Mine.omD2 (by assumption) rfl | exact Mine.omD3 (by assumption) rfl | exact Mine.omA1 (by assumption) | exact Mine.omA2 (by assumption) | exact Mine.omA3 (by assumption) | exact Mine.omA4 (by assumption) | exact Mine.omB1 (by assumption) | exact Mine.omB2 (by assumption) | exact Mine.omB3 (by assumption) | exact Mine.omF1 (by assumption) | exact Mine.omE3 (by assumption) (by assumption) rfl | exact Mine.omE4 (by assumption) (by assumption) (by assumption) (by assumption) rfl | exact Mine.omE5 (by assumption) (by assumption) (by assumption) (by assumption) rfl | exact Mine.omE6 (by assumption) (by assumption) rfl | exact Mine.omG1 (by assumption) | exact Mine.omG2 (by assumption) (by assumption) | exact Nat.le_of_lt (by assumption) | exact Nat.lt_of_lt_of_le (by assumption) (by assumption))
local macro_rules | `(tactic| omega) => `(tactic| first | (with_reducible refine Nat.ne_of_lt ?_; walk_at "om lt") | (with_reducible refine Nat.ne_of_gt ?_; walk_at "om lt") | walk_at "om lt" | with_reducible exact Mine.omZ1 | with_reducible exact Mine.omZ2 | with_reducible exact Mine.omZ6 | with_reducible exact Mine.omZ3 (by assumption) rfl | with_reducible exact Mine.omZ4 (by assumption) rfl | with_reducible exact Mine.omZ5 (by assumption) (by assumption) rfl | with_reducible exact Mine.omZ7 (by assumption) | with_reducible exact Mine.omZ8 (by assumption))
namespace Mine
/-- a def as the run leaves it: its parts are read off the row's own statement. -/
noncomputable def mkFn {st : Option Stmt} {name : Str} {args : Arguments} {body : List Stmt} {decs} {rets} {tps} {scope} {tscope} {bind} {pos} (h : st = some (Stmt.FunctionDef name args body decs rets tps scope tscope bind pos)) (mod : Str) (t : Tok) (code : Addr) : Obj :=
  { cls := Value.type "function", data := Data.func { name := name, qualname := name, params := args, body := FuncBody.stmts body, scope := scope, globals := 3, closure := [], defaults := Value.none, kwdefaults := Value.none, pyModule := Value.str mod t, code := Value.ref code } }
/-- the part of the heap that the walk reads. -/
noncomputable def kHeap : Params → Frag := fun P =>
  (nat_lit 2, { cls := Value.none, data := Data.dict #[] }) ::
  (nat_lit 3, { cls := Value.type "dict", data := Data.dict #[{ hash := PyData.keyHash P (Str.ofString "__name__"), key := Value.str (Str.ofString "__name__") 165, val := Value.str (Str.ofString "law_xn0020_01") 543 }, { hash := PyData.keyHash P (Str.ofString "__doc__"), key := Value.str (Str.ofString "__doc__") 166, val := Value.none }, { hash := PyData.keyHash P (Str.ofString "__package__"), key := Value.str (Str.ofString "__package__") 167, val := Value.none }, { hash := PyData.keyHash P (Str.ofString "__loader__"), key := Value.str (Str.ofString "__loader__") 168, val := Value.builtin "__main__.__loader__#opaque" }, { hash := PyData.keyHash P (Str.ofString "__spec__"), key := Value.str (Str.ofString "__spec__") 169, val := Value.none }, { hash := PyData.keyHash P (Str.ofString "__annotations__"), key := Value.str (Str.ofString "__annotations__") 170, val := Value.ref 6 }, { hash := PyData.keyHash P (Str.ofString "__builtins__"), key := Value.str (Str.ofString "__builtins__") 171, val := Value.ref 4 }, { hash := PyData.keyHash P (Str.ofString "__file__"), key := Value.str (Str.ofString "__file__") 173, val := Value.str (Str.ofString "/claim/cut.py") 172 }, { hash := PyData.keyHash P (Str.ofString "__cached__"), key := Value.str (Str.ofString "__cached__") 174, val := Value.none }, { hash := PyData.keyHash P (Str.ofString "lt"), key := Value.str (Str.ofString "lt") 196, val := Value.ref 21 }, { hash := PyData.keyHash P (Str.ofString "le"), key := Value.str (Str.ofString "le") 204, val := Value.ref 28 }, { hash := PyData.keyHash P (Str.ofString "eq"), key := Value.str (Str.ofString "eq") 212, val := Value.ref 35 }, { hash := PyData.keyHash P (Str.ofString "ge"), key := Value.str (Str.ofString "ge") 220, val := Value.ref 42 }, { hash := PyData.keyHash P (Str.ofString "gt"), key := Value.str (Str.ofString "gt") 228, val := Value.ref 49 }, { hash := PyData.keyHash P (Str.ofString "add"), key := Value.str (Str.ofString "add") 236, val := Value.ref 56 }, { hash := PyData.keyHash P (Str.ofString "and_"), key := Value.str (Str.ofString "and_") 244, val := Value.ref 63 }, { hash := PyData.keyHash P (Str.ofString "inv"), key := Value.str (Str.ofString "inv") 251, val := Value.ref 70 }, { hash := PyData.keyHash P (Str.ofString "mul"), key := Value.str (Str.ofString "mul") 259, val := Value.ref 77 }, { hash := PyData.keyHash P (Str.ofString "sub"), key := Value.str (Str.ofString "sub") 267, val := Value.ref 84 }, { hash := PyData.keyHash P (Str.ofString "contains"), key := Value.str (Str.ofString "contains") 275, val := Value.ref 91 }, { hash := PyData.keyHash P (Str.ofString "indexOf"), key := Value.str (Str.ofString "indexOf") 285, val := Value.ref 98 }, { hash := PyData.keyHash P (Str.ofString "ENDMARKER"), key := Value.str (Str.ofString "ENDMARKER") 289, val := Value.int 0 288 }, { hash := PyData.keyHash P (Str.ofString "LPAR"), key := Value.str (Str.ofString "LPAR") 291, val := Value.int 7 290 }, { hash := PyData.keyHash P (Str.ofString "RPAR"), key := Value.str (Str.ofString "RPAR") 293, val := Value.int 8 292 }, { hash := PyData.keyHash P (Str.ofString "LSQB"), key := Value.str (Str.ofString "LSQB") 295, val := Value.int 9 294 }, { hash := PyData.keyHash P (Str.ofString "RSQB"), key := Value.str (Str.ofString "RSQB") 297, val := Value.int 10 296 }, { hash := PyData.keyHash P (Str.ofString "COLON"), key := Value.str (Str.ofString "COLON") 299, val := Value.int 11 298 }, { hash := PyData.keyHash P (Str.ofString "COMMA"), key := Value.str (Str.ofString "COMMA") 301, val := Value.int 12 300 }, { hash := PyData.keyHash P (Str.ofString "SEMI"), key := Value.str (Str.ofString "SEMI") 303, val := Value.int 13 302 }, { hash := PyData.keyHash P (Str.ofString "PLUS"), key := Value.str (Str.ofString "PLUS") 305, val := Value.int 14 304 }, { hash := PyData.keyHash P (Str.ofString "MINUS"), key := Value.str (Str.ofString "MINUS") 307, val := Value.int 15 306 }, { hash := PyData.keyHash P (Str.ofString "STAR"), key := Value.str (Str.ofString "STAR") 309, val := Value.int 16 308 }, { hash := PyData.keyHash P (Str.ofString "SLASH"), key := Value.str (Str.ofString "SLASH") 311, val := Value.int 17 310 }, { hash := PyData.keyHash P (Str.ofString "VBAR"), key := Value.str (Str.ofString "VBAR") 313, val := Value.int 18 312 }, { hash := PyData.keyHash P (Str.ofString "AMPER"), key := Value.str (Str.ofString "AMPER") 315, val := Value.int 19 314 }, { hash := PyData.keyHash P (Str.ofString "LESS"), key := Value.str (Str.ofString "LESS") 317, val := Value.int 20 316 }, { hash := PyData.keyHash P (Str.ofString "GREATER"), key := Value.str (Str.ofString "GREATER") 319, val := Value.int 21 318 }, { hash := PyData.keyHash P (Str.ofString "EQUAL"), key := Value.str (Str.ofString "EQUAL") 321, val := Value.int 22 320 }, { hash := PyData.keyHash P (Str.ofString "DOT"), key := Value.str (Str.ofString "DOT") 323, val := Value.int 23 322 }, { hash := PyData.keyHash P (Str.ofString "PERCENT"), key := Value.str (Str.ofString "PERCENT") 325, val := Value.int 24 324 }, { hash := PyData.keyHash P (Str.ofString "LBRACE"), key := Value.str (Str.ofString "LBRACE") 327, val := Value.int 25 326 }, { hash := PyData.keyHash P (Str.ofString "RBRACE"), key := Value.str (Str.ofString "RBRACE") 329, val := Value.int 26 328 }, { hash := PyData.keyHash P (Str.ofString "EQEQUAL"), key := Value.str (Str.ofString "EQEQUAL") 331, val := Value.int 27 330 }, { hash := PyData.keyHash P (Str.ofString "NOTEQUAL"), key := Value.str (Str.ofString "NOTEQUAL") 333, val := Value.int 28 332 }, { hash := PyData.keyHash P (Str.ofString "LESSEQUAL"), key := Value.str (Str.ofString "LESSEQUAL") 335, val := Value.int 29 334 }, { hash := PyData.keyHash P (Str.ofString "GREATEREQUAL"), key := Value.str (Str.ofString "GREATEREQUAL") 337, val := Value.int 30 336 }, { hash := PyData.keyHash P (Str.ofString "TILDE"), key := Value.str (Str.ofString "TILDE") 339, val := Value.int 31 338 }, { hash := PyData.keyHash P (Str.ofString "CIRCUMFLEX"), key := Value.str (Str.ofString "CIRCUMFLEX") 341, val := Value.int 32 340 }, { hash := PyData.keyHash P (Str.ofString "LEFTSHIFT"), key := Value.str (Str.ofString "LEFTSHIFT") 343, val := Value.int 33 342 }, { hash := PyData.keyHash P (Str.ofString "RIGHTSHIFT"), key := Value.str (Str.ofString "RIGHTSHIFT") 345, val := Value.int 34 344 }, { hash := PyData.keyHash P (Str.ofString "DOUBLESTAR"), key := Value.str (Str.ofString "DOUBLESTAR") 347, val := Value.int 35 346 }, { hash := PyData.keyHash P (Str.ofString "PLUSEQUAL"), key := Value.str (Str.ofString "PLUSEQUAL") 349, val := Value.int 36 348 }, { hash := PyData.keyHash P (Str.ofString "MINEQUAL"), key := Value.str (Str.ofString "MINEQUAL") 351, val := Value.int 37 350 }, { hash := PyData.keyHash P (Str.ofString "STAREQUAL"), key := Value.str (Str.ofString "STAREQUAL") 353, val := Value.int 38 352 }, { hash := PyData.keyHash P (Str.ofString "SLASHEQUAL"), key := Value.str (Str.ofString "SLASHEQUAL") 355, val := Value.int 39 354 }, { hash := PyData.keyHash P (Str.ofString "PERCENTEQUAL"), key := Value.str (Str.ofString "PERCENTEQUAL") 357, val := Value.int 40 356 }, { hash := PyData.keyHash P (Str.ofString "AMPEREQUAL"), key := Value.str (Str.ofString "AMPEREQUAL") 359, val := Value.int 41 358 }, { hash := PyData.keyHash P (Str.ofString "VBAREQUAL"), key := Value.str (Str.ofString "VBAREQUAL") 361, val := Value.int 42 360 }, { hash := PyData.keyHash P (Str.ofString "CIRCUMFLEXEQUAL"), key := Value.str (Str.ofString "CIRCUMFLEXEQUAL") 363, val := Value.int 43 362 }, { hash := PyData.keyHash P (Str.ofString "LEFTSHIFTEQUAL"), key := Value.str (Str.ofString "LEFTSHIFTEQUAL") 365, val := Value.int 44 364 }, { hash := PyData.keyHash P (Str.ofString "RIGHTSHIFTEQUAL"), key := Value.str (Str.ofString "RIGHTSHIFTEQUAL") 367, val := Value.int 45 366 }, { hash := PyData.keyHash P (Str.ofString "DOUBLESTAREQUAL"), key := Value.str (Str.ofString "DOUBLESTAREQUAL") 369, val := Value.int 46 368 }, { hash := PyData.keyHash P (Str.ofString "DOUBLESLASH"), key := Value.str (Str.ofString "DOUBLESLASH") 371, val := Value.int 47 370 }, { hash := PyData.keyHash P (Str.ofString "DOUBLESLASHEQUAL"), key := Value.str (Str.ofString "DOUBLESLASHEQUAL") 373, val := Value.int 48 372 }, { hash := PyData.keyHash P (Str.ofString "AT"), key := Value.str (Str.ofString "AT") 375, val := Value.int 49 374 }, { hash := PyData.keyHash P (Str.ofString "ATEQUAL"), key := Value.str (Str.ofString "ATEQUAL") 377, val := Value.int 50 376 }, { hash := PyData.keyHash P (Str.ofString "RARROW"), key := Value.str (Str.ofString "RARROW") 379, val := Value.int 51 378 }, { hash := PyData.keyHash P (Str.ofString "ELLIPSIS"), key := Value.str (Str.ofString "ELLIPSIS") 381, val := Value.int 52 380 }, { hash := PyData.keyHash P (Str.ofString "COLONEQUAL"), key := Value.str (Str.ofString "COLONEQUAL") 383, val := Value.int 53 382 }, { hash := PyData.keyHash P (Str.ofString "EXCLAMATION"), key := Value.str (Str.ofString "EXCLAMATION") 385, val := Value.int 54 384 }, { hash := PyData.keyHash P (Str.ofString "NT_OFFSET"), key := Value.str (Str.ofString "NT_OFFSET") 387, val := Value.int 256 386 }, { hash := PyData.keyHash P (Str.ofString "EXACT_TOKEN_TYPES"), key := Value.str (Str.ofString "EXACT_TOKEN_TYPES") 484, val := Value.ref 99 }, { hash := PyData.keyHash P (Str.ofString "ISNONTERMINAL"), key := Value.str (Str.ofString "ISNONTERMINAL") 491, val := Value.ref 108 }, { hash := PyData.keyHash P (Str.ofString "ISEOF"), key := Value.str (Str.ofString "ISEOF") 498, val := Value.ref 115 }, { hash := PyData.keyHash P (Str.ofString "_raise_serialization_error"), key := Value.str (Str.ofString "_raise_serialization_error") 507, val := Value.ref 122 }, { hash := PyData.keyHash P (Str.ofString "_escape_cdata"), key := Value.str (Str.ofString "_escape_cdata") 514, val := Value.ref 129 }, { hash := PyData.keyHash P (Str.ofString "_escape_attrib"), key := Value.str (Str.ofString "_escape_attrib") 521, val := Value.ref 136 }, { hash := PyData.keyHash P (Str.ofString "_escape_attrib_html"), key := Value.str (Str.ofString "_escape_attrib_html") 528, val := Value.ref 143 }, { hash := PyData.keyHash P (Str.ofString "_escape_cdata_c14n"), key := Value.str (Str.ofString "_escape_cdata_c14n") 535, val := Value.ref 150 }, { hash := PyData.keyHash P (Str.ofString "_escape_attrib_c14n"), key := Value.str (Str.ofString "_escape_attrib_c14n") 542, val := Value.ref 157 }, { hash := PyData.keyHash P (Str.ofString "_law_text"), key := Value.str (Str.ofString "_law_text") 556, val := Value.ref 164 }, { hash := PyData.keyHash P (Str.ofString "_law_symbols"), key := Value.str (Str.ofString "_law_symbols") 567, val := Value.ref 171 }, { hash := PyData.keyHash P (Str.ofString "_law_holds"), key := Value.str (Str.ofString "_law_holds") 582, val := Value.ref 178 }, { hash := PyData.keyHash P (Str.ofString "_law_cut"), key := Value.str (Str.ofString "_law_cut") 592, val := Value.ref 185 }, { hash := PyData.keyHash P (Str.ofString "_law_bare"), key := Value.str (Str.ofString "_law_bare") 604, val := Value.ref 192 }, { hash := PyData.keyHash P (Str.ofString "_law_row"), key := Value.str (Str.ofString "_law_row") 613, val := Value.ref 199 }, { hash := PyData.keyHash P (Str.ofString "_law_run"), key := Value.str (Str.ofString "_law_run") 619, val := Value.ref 204 }, { hash := PyData.keyHash P (Str.ofString "_law_top"), key := Value.str (Str.ofString "_law_top") 625, val := Value.ref 209 }, { hash := PyData.keyHash P (Str.ofString "law"), key := Value.str (Str.ofString "law") 631, val := Value.ref 214 }] 89 }) ::
  (nat_lit 20, { cls := Value.type "code", data := Data.fields #[Value.str (Str.ofString "lt") 189, Value.str (Str.ofString "lt") 190, Value.str (Str.ofString "/claim/cut.py") 191, Value.int 2 0, Value.int 2 0, Value.int 0 0, Value.int 0 0, Value.int 3 0, Value.ref 15, Value.bool true, Value.int 181 0, Value.ref 16, Value.none, Value.ref 17, Value.ref 18, Value.ref 19, Value.int 194 0, Value.int 2 0, Value.str (Str.ofString "/claim/cut.py") 195] }) ::
  (nat_lit 21, mkFn (st := PySem.Challenge.pw_xn0020_01.main.body[1]?) rfl (Str.ofString "cpy313.operator") 187 20) ::
  (nat_lit 27, { cls := Value.type "code", data := Data.fields #[Value.str (Str.ofString "le") 197, Value.str (Str.ofString "le") 198, Value.str (Str.ofString "/claim/cut.py") 199, Value.int 4 0, Value.int 2 0, Value.int 0 0, Value.int 0 0, Value.int 3 0, Value.ref 22, Value.bool true, Value.int 181 0, Value.ref 23, Value.none, Value.ref 24, Value.ref 25, Value.ref 26, Value.int 202 0, Value.int 4 0, Value.str (Str.ofString "/claim/cut.py") 203] }) ::
  (nat_lit 28, mkFn (st := PySem.Challenge.pw_xn0020_01.main.body[2]?) rfl (Str.ofString "cpy313.operator") 187 27) ::
  (nat_lit 34, { cls := Value.type "code", data := Data.fields #[Value.str (Str.ofString "eq") 205, Value.str (Str.ofString "eq") 206, Value.str (Str.ofString "/claim/cut.py") 207, Value.int 6 0, Value.int 2 0, Value.int 0 0, Value.int 0 0, Value.int 3 0, Value.ref 29, Value.bool true, Value.int 181 0, Value.ref 30, Value.none, Value.ref 31, Value.ref 32, Value.ref 33, Value.int 210 0, Value.int 6 0, Value.str (Str.ofString "/claim/cut.py") 211] }) ::
  (nat_lit 35, mkFn (st := PySem.Challenge.pw_xn0020_01.main.body[3]?) rfl (Str.ofString "cpy313.operator") 187 34) ::
  (nat_lit 41, { cls := Value.type "code", data := Data.fields #[Value.str (Str.ofString "ge") 213, Value.str (Str.ofString "ge") 214, Value.str (Str.ofString "/claim/cut.py") 215, Value.int 8 0, Value.int 2 0, Value.int 0 0, Value.int 0 0, Value.int 3 0, Value.ref 36, Value.bool true, Value.int 181 0, Value.ref 37, Value.none, Value.ref 38, Value.ref 39, Value.ref 40, Value.int 218 0, Value.int 8 0, Value.str (Str.ofString "/claim/cut.py") 219] }) ::
  (nat_lit 42, mkFn (st := PySem.Challenge.pw_xn0020_01.main.body[4]?) rfl (Str.ofString "cpy313.operator") 187 41) ::
  (nat_lit 48, { cls := Value.type "code", data := Data.fields #[Value.str (Str.ofString "gt") 221, Value.str (Str.ofString "gt") 222, Value.str (Str.ofString "/claim/cut.py") 223, Value.int 10 0, Value.int 2 0, Value.int 0 0, Value.int 0 0, Value.int 3 0, Value.ref 43, Value.bool true, Value.int 181 0, Value.ref 44, Value.none, Value.ref 45, Value.ref 46, Value.ref 47, Value.int 226 0, Value.int 10 0, Value.str (Str.ofString "/claim/cut.py") 227] }) ::
  (nat_lit 49, mkFn (st := PySem.Challenge.pw_xn0020_01.main.body[5]?) rfl (Str.ofString "cpy313.operator") 187 48) ::
  (nat_lit 55, { cls := Value.type "code", data := Data.fields #[Value.str (Str.ofString "add") 229, Value.str (Str.ofString "add") 230, Value.str (Str.ofString "/claim/cut.py") 231, Value.int 12 0, Value.int 2 0, Value.int 0 0, Value.int 0 0, Value.int 3 0, Value.ref 50, Value.bool true, Value.int 181 0, Value.ref 51, Value.none, Value.ref 52, Value.ref 53, Value.ref 54, Value.int 234 0, Value.int 12 0, Value.str (Str.ofString "/claim/cut.py") 235] }) ::
  (nat_lit 56, mkFn (st := PySem.Challenge.pw_xn0020_01.main.body[6]?) rfl (Str.ofString "cpy313.operator") 187 55) ::
  (nat_lit 62, { cls := Value.type "code", data := Data.fields #[Value.str (Str.ofString "and_") 237, Value.str (Str.ofString "and_") 238, Value.str (Str.ofString "/claim/cut.py") 239, Value.int 14 0, Value.int 2 0, Value.int 0 0, Value.int 0 0, Value.int 3 0, Value.ref 57, Value.bool true, Value.int 181 0, Value.ref 58, Value.none, Value.ref 59, Value.ref 60, Value.ref 61, Value.int 242 0, Value.int 14 0, Value.str (Str.ofString "/claim/cut.py") 243] }) ::
  (nat_lit 63, mkFn (st := PySem.Challenge.pw_xn0020_01.main.body[7]?) rfl (Str.ofString "cpy313.operator") 187 62) ::
  (nat_lit 69, { cls := Value.type "code", data := Data.fields #[Value.str (Str.ofString "inv") 245, Value.str (Str.ofString "inv") 246, Value.str (Str.ofString "/claim/cut.py") 247, Value.int 16 0, Value.int 1 0, Value.int 0 0, Value.int 0 0, Value.int 3 0, Value.ref 64, Value.bool true, Value.int 181 0, Value.ref 65, Value.none, Value.ref 66, Value.ref 67, Value.ref 68, Value.int 249 0, Value.int 16 0, Value.str (Str.ofString "/claim/cut.py") 250] }) ::
  (nat_lit 70, mkFn (st := PySem.Challenge.pw_xn0020_01.main.body[8]?) rfl (Str.ofString "cpy313.operator") 187 69) ::
  (nat_lit 76, { cls := Value.type "code", data := Data.fields #[Value.str (Str.ofString "mul") 252, Value.str (Str.ofString "mul") 253, Value.str (Str.ofString "/claim/cut.py") 254, Value.int 18 0, Value.int 2 0, Value.int 0 0, Value.int 0 0, Value.int 3 0, Value.ref 71, Value.bool true, Value.int 181 0, Value.ref 72, Value.none, Value.ref 73, Value.ref 74, Value.ref 75, Value.int 257 0, Value.int 18 0, Value.str (Str.ofString "/claim/cut.py") 258] }) ::
  (nat_lit 77, mkFn (st := PySem.Challenge.pw_xn0020_01.main.body[9]?) rfl (Str.ofString "cpy313.operator") 187 76) ::
  (nat_lit 83, { cls := Value.type "code", data := Data.fields #[Value.str (Str.ofString "sub") 260, Value.str (Str.ofString "sub") 261, Value.str (Str.ofString "/claim/cut.py") 262, Value.int 20 0, Value.int 2 0, Value.int 0 0, Value.int 0 0, Value.int 3 0, Value.ref 78, Value.bool true, Value.int 181 0, Value.ref 79, Value.none, Value.ref 80, Value.ref 81, Value.ref 82, Value.int 265 0, Value.int 20 0, Value.str (Str.ofString "/claim/cut.py") 266] }) ::
  (nat_lit 84, mkFn (st := PySem.Challenge.pw_xn0020_01.main.body[10]?) rfl (Str.ofString "cpy313.operator") 187 83) ::
  (nat_lit 90, { cls := Value.type "code", data := Data.fields #[Value.str (Str.ofString "contains") 268, Value.str (Str.ofString "contains") 269, Value.str (Str.ofString "/claim/cut.py") 270, Value.int 22 0, Value.int 2 0, Value.int 0 0, Value.int 0 0, Value.int 3 0, Value.ref 85, Value.bool true, Value.int 181 0, Value.ref 86, Value.none, Value.ref 87, Value.ref 88, Value.ref 89, Value.int 273 0, Value.int 22 0, Value.str (Str.ofString "/claim/cut.py") 274] }) ::
  (nat_lit 91, mkFn (st := PySem.Challenge.pw_xn0020_01.main.body[11]?) rfl (Str.ofString "cpy313.operator") 187 90) ::
  (nat_lit 97, { cls := Value.type "code", data := Data.fields #[Value.str (Str.ofString "indexOf") 276, Value.str (Str.ofString "indexOf") 277, Value.str (Str.ofString "/claim/cut.py") 278, Value.int 24 0, Value.int 2 0, Value.int 0 0, Value.int 0 0, Value.int 3 0, Value.ref 92, Value.bool true, Value.int 181 0, Value.ref 93, Value.none, Value.ref 94, Value.ref 95, Value.ref 96, Value.int 283 0, Value.int 24 0, Value.str (Str.ofString "/claim/cut.py") 284] }) ::
  (nat_lit 98, mkFn (st := PySem.Challenge.pw_xn0020_01.main.body[12]?) rfl (Str.ofString "cpy313.operator") 187 97) ::
  (nat_lit 99, { cls := Value.type "dict", data := Data.dict #[{ hash := PyData.keyHash P (Str.ofString "!"), key := Value.str (Str.ofString "!") 388, val := Value.int 54 384 }, { hash := PyData.keyHash P (Str.ofString "!="), key := Value.str (Str.ofString "!=") 390, val := Value.int 28 332 }, { hash := PyData.keyHash P (Str.ofString "%"), key := Value.str (Str.ofString "%") 392, val := Value.int 24 324 }, { hash := PyData.keyHash P (Str.ofString "%="), key := Value.str (Str.ofString "%=") 394, val := Value.int 40 356 }, { hash := PyData.keyHash P (Str.ofString "&"), key := Value.str (Str.ofString "&") 396, val := Value.int 19 314 }, { hash := PyData.keyHash P (Str.ofString "&="), key := Value.str (Str.ofString "&=") 398, val := Value.int 41 358 }, { hash := PyData.keyHash P (Str.ofString "("), key := Value.str (Str.ofString "(") 400, val := Value.int 7 290 }, { hash := PyData.keyHash P (Str.ofString ")"), key := Value.str (Str.ofString ")") 402, val := Value.int 8 292 }, { hash := PyData.keyHash P (Str.ofString "*"), key := Value.str (Str.ofString "*") 404, val := Value.int 16 308 }, { hash := PyData.keyHash P (Str.ofString "**"), key := Value.str (Str.ofString "**") 406, val := Value.int 35 346 }, { hash := PyData.keyHash P (Str.ofString "**="), key := Value.str (Str.ofString "**=") 408, val := Value.int 46 368 }, { hash := PyData.keyHash P (Str.ofString "*="), key := Value.str (Str.ofString "*=") 410, val := Value.int 38 352 }, { hash := PyData.keyHash P (Str.ofString "+"), key := Value.str (Str.ofString "+") 412, val := Value.int 14 304 }, { hash := PyData.keyHash P (Str.ofString "+="), key := Value.str (Str.ofString "+=") 414, val := Value.int 36 348 }, { hash := PyData.keyHash P (Str.ofString ","), key := Value.str (Str.ofString ",") 416, val := Value.int 12 300 }, { hash := PyData.keyHash P (Str.ofString "-"), key := Value.str (Str.ofString "-") 418, val := Value.int 15 306 }, { hash := PyData.keyHash P (Str.ofString "-="), key := Value.str (Str.ofString "-=") 420, val := Value.int 37 350 }, { hash := PyData.keyHash P (Str.ofString "->"), key := Value.str (Str.ofString "->") 422, val := Value.int 51 378 }, { hash := PyData.keyHash P (Str.ofString "."), key := Value.str (Str.ofString ".") 424, val := Value.int 23 322 }, { hash := PyData.keyHash P (Str.ofString "..."), key := Value.str (Str.ofString "...") 426, val := Value.int 52 380 }, { hash := PyData.keyHash P (Str.ofString "/"), key := Value.str (Str.ofString "/") 428, val := Value.int 17 310 }, { hash := PyData.keyHash P (Str.ofString "//"), key := Value.str (Str.ofString "//") 430, val := Value.int 47 370 }, { hash := PyData.keyHash P (Str.ofString "//="), key := Value.str (Str.ofString "//=") 432, val := Value.int 48 372 }, { hash := PyData.keyHash P (Str.ofString "/="), key := Value.str (Str.ofString "/=") 434, val := Value.int 39 354 }, { hash := PyData.keyHash P (Str.ofString ":"), key := Value.str (Str.ofString ":") 436, val := Value.int 11 298 }, { hash := PyData.keyHash P (Str.ofString ":="), key := Value.str (Str.ofString ":=") 438, val := Value.int 53 382 }, { hash := PyData.keyHash P (Str.ofString ";"), key := Value.str (Str.ofString ";") 440, val := Value.int 13 302 }, { hash := PyData.keyHash P (Str.ofString "<"), key := Value.str (Str.ofString "<") 442, val := Value.int 20 316 }, { hash := PyData.keyHash P (Str.ofString "<<"), key := Value.str (Str.ofString "<<") 444, val := Value.int 33 342 }, { hash := PyData.keyHash P (Str.ofString "<<="), key := Value.str (Str.ofString "<<=") 446, val := Value.int 44 364 }, { hash := PyData.keyHash P (Str.ofString "<="), key := Value.str (Str.ofString "<=") 448, val := Value.int 29 334 }, { hash := PyData.keyHash P (Str.ofString "="), key := Value.str (Str.ofString "=") 450, val := Value.int 22 320 }, { hash := PyData.keyHash P (Str.ofString "=="), key := Value.str (Str.ofString "==") 452, val := Value.int 27 330 }, { hash := PyData.keyHash P (Str.ofString ">"), key := Value.str (Str.ofString ">") 454, val := Value.int 21 318 }, { hash := PyData.keyHash P (Str.ofString ">="), key := Value.str (Str.ofString ">=") 456, val := Value.int 30 336 }, { hash := PyData.keyHash P (Str.ofString ">>"), key := Value.str (Str.ofString ">>") 457, val := Value.int 34 344 }, { hash := PyData.keyHash P (Str.ofString ">>="), key := Value.str (Str.ofString ">>=") 458, val := Value.int 45 366 }, { hash := PyData.keyHash P (Str.ofString "@"), key := Value.str (Str.ofString "@") 459, val := Value.int 49 374 }, { hash := PyData.keyHash P (Str.ofString "@="), key := Value.str (Str.ofString "@=") 460, val := Value.int 50 376 }, { hash := PyData.keyHash P (Str.ofString "["), key := Value.str (Str.ofString "[") 461, val := Value.int 9 294 }, { hash := PyData.keyHash P (Str.ofString "]"), key := Value.str (Str.ofString "]") 462, val := Value.int 10 296 }, { hash := PyData.keyHash P (Str.ofString "^"), key := Value.str (Str.ofString "^") 463, val := Value.int 32 340 }, { hash := PyData.keyHash P (Str.ofString "^="), key := Value.str (Str.ofString "^=") 464, val := Value.int 43 362 }, { hash := PyData.keyHash P (Str.ofString "{"), key := Value.str (Str.ofString "{") 465, val := Value.int 25 326 }, { hash := PyData.keyHash P (Str.ofString "|"), key := Value.str (Str.ofString "|") 466, val := Value.int 18 312 }, { hash := PyData.keyHash P (Str.ofString "|="), key := Value.str (Str.ofString "|=") 467, val := Value.int 42 360 }, { hash := PyData.keyHash P (Str.ofString "}"), key := Value.str (Str.ofString "}") 468, val := Value.int 26 328 }, { hash := PyData.keyHash P (Str.ofString "~"), key := Value.str (Str.ofString "~") 469, val := Value.int 31 338 }] 48 }) ::
  (nat_lit 107, { cls := Value.type "code", data := Data.fields #[Value.str (Str.ofString "ISNONTERMINAL") 485, Value.str (Str.ofString "ISNONTERMINAL") 486, Value.str (Str.ofString "/claim/cut.py") 487, Value.int 82 0, Value.int 1 0, Value.int 0 0, Value.int 0 0, Value.int 3 0, Value.ref 102, Value.bool true, Value.int 181 0, Value.ref 103, Value.none, Value.ref 104, Value.ref 105, Value.ref 106, Value.int 489 0, Value.int 82 0, Value.str (Str.ofString "/claim/cut.py") 490] }) ::
  (nat_lit 108, mkFn (st := PySem.Challenge.pw_xn0020_01.main.body[65]?) rfl (Str.ofString "cpy313.token") 286 107) ::
  (nat_lit 114, { cls := Value.type "code", data := Data.fields #[Value.str (Str.ofString "ISEOF") 492, Value.str (Str.ofString "ISEOF") 493, Value.str (Str.ofString "/claim/cut.py") 494, Value.int 84 0, Value.int 1 0, Value.int 0 0, Value.int 0 0, Value.int 3 0, Value.ref 109, Value.bool true, Value.int 181 0, Value.ref 110, Value.none, Value.ref 111, Value.ref 112, Value.ref 113, Value.int 496 0, Value.int 84 0, Value.str (Str.ofString "/claim/cut.py") 497] }) ::
  (nat_lit 115, mkFn (st := PySem.Challenge.pw_xn0020_01.main.body[66]?) rfl (Str.ofString "cpy313.token") 286 114) ::
  (nat_lit 121, { cls := Value.type "code", data := Data.fields #[Value.str (Str.ofString "_raise_serialization_error") 501, Value.str (Str.ofString "_raise_serialization_error") 502, Value.str (Str.ofString "/claim/cut.py") 503, Value.int 87 0, Value.int 1 0, Value.int 0 0, Value.int 0 0, Value.int 3 0, Value.ref 116, Value.bool true, Value.int 181 0, Value.ref 117, Value.none, Value.ref 118, Value.ref 119, Value.ref 120, Value.int 505 0, Value.int 87 0, Value.str (Str.ofString "/claim/cut.py") 506] }) ::
  (nat_lit 122, mkFn (st := PySem.Challenge.pw_xn0020_01.main.body[68]?) rfl (Str.ofString "cpy313.xml.etree.ElementTree") 499 121) ::
  (nat_lit 128, { cls := Value.type "code", data := Data.fields #[Value.str (Str.ofString "_escape_cdata") 508, Value.str (Str.ofString "_escape_cdata") 509, Value.str (Str.ofString "/claim/cut.py") 510, Value.int 89 0, Value.int 1 0, Value.int 0 0, Value.int 0 0, Value.int 3 0, Value.ref 123, Value.bool true, Value.int 181 0, Value.ref 124, Value.none, Value.ref 125, Value.ref 126, Value.ref 127, Value.int 512 0, Value.int 89 0, Value.str (Str.ofString "/claim/cut.py") 513] }) ::
  (nat_lit 129, mkFn (st := PySem.Challenge.pw_xn0020_01.main.body[69]?) rfl (Str.ofString "cpy313.xml.etree.ElementTree") 499 128) ::
  (nat_lit 135, { cls := Value.type "code", data := Data.fields #[Value.str (Str.ofString "_escape_attrib") 515, Value.str (Str.ofString "_escape_attrib") 516, Value.str (Str.ofString "/claim/cut.py") 517, Value.int 100 0, Value.int 1 0, Value.int 0 0, Value.int 0 0, Value.int 3 0, Value.ref 130, Value.bool true, Value.int 181 0, Value.ref 131, Value.none, Value.ref 132, Value.ref 133, Value.ref 134, Value.int 519 0, Value.int 100 0, Value.str (Str.ofString "/claim/cut.py") 520] }) ::
  (nat_lit 136, mkFn (st := PySem.Challenge.pw_xn0020_01.main.body[70]?) rfl (Str.ofString "cpy313.xml.etree.ElementTree") 499 135) ::
  (nat_lit 142, { cls := Value.type "code", data := Data.fields #[Value.str (Str.ofString "_escape_attrib_html") 522, Value.str (Str.ofString "_escape_attrib_html") 523, Value.str (Str.ofString "/claim/cut.py") 524, Value.int 119 0, Value.int 1 0, Value.int 0 0, Value.int 0 0, Value.int 3 0, Value.ref 137, Value.bool true, Value.int 181 0, Value.ref 138, Value.none, Value.ref 139, Value.ref 140, Value.ref 141, Value.int 526 0, Value.int 119 0, Value.str (Str.ofString "/claim/cut.py") 527] }) ::
  (nat_lit 143, mkFn (st := PySem.Challenge.pw_xn0020_01.main.body[71]?) rfl (Str.ofString "cpy313.xml.etree.ElementTree") 499 142) ::
  (nat_lit 149, { cls := Value.type "code", data := Data.fields #[Value.str (Str.ofString "_escape_cdata_c14n") 529, Value.str (Str.ofString "_escape_cdata_c14n") 530, Value.str (Str.ofString "/claim/cut.py") 531, Value.int 130 0, Value.int 1 0, Value.int 0 0, Value.int 0 0, Value.int 3 0, Value.ref 144, Value.bool true, Value.int 181 0, Value.ref 145, Value.none, Value.ref 146, Value.ref 147, Value.ref 148, Value.int 533 0, Value.int 130 0, Value.str (Str.ofString "/claim/cut.py") 534] }) ::
  (nat_lit 150, mkFn (st := PySem.Challenge.pw_xn0020_01.main.body[72]?) rfl (Str.ofString "cpy313.xml.etree.ElementTree") 499 149) ::
  (nat_lit 156, { cls := Value.type "code", data := Data.fields #[Value.str (Str.ofString "_escape_attrib_c14n") 536, Value.str (Str.ofString "_escape_attrib_c14n") 537, Value.str (Str.ofString "/claim/cut.py") 538, Value.int 143 0, Value.int 1 0, Value.int 0 0, Value.int 0 0, Value.int 3 0, Value.ref 151, Value.bool true, Value.int 181 0, Value.ref 152, Value.none, Value.ref 153, Value.ref 154, Value.ref 155, Value.int 540 0, Value.int 143 0, Value.str (Str.ofString "/claim/cut.py") 541] }) ::
  (nat_lit 157, mkFn (st := PySem.Challenge.pw_xn0020_01.main.body[73]?) rfl (Str.ofString "cpy313.xml.etree.ElementTree") 499 156) ::
  (nat_lit 163, { cls := Value.type "code", data := Data.fields #[Value.str (Str.ofString "_law_text") 545, Value.str (Str.ofString "_law_text") 546, Value.str (Str.ofString "/claim/cut.py") 547, Value.int 161 0, Value.int 2 0, Value.int 0 0, Value.int 0 0, Value.int 3 0, Value.ref 158, Value.bool true, Value.int 181 0, Value.ref 159, Value.none, Value.ref 160, Value.ref 161, Value.ref 162, Value.int 554 0, Value.int 161 0, Value.str (Str.ofString "/claim/cut.py") 555] }) ::
  (nat_lit 164, mkFn (st := PySem.Challenge.pw_xn0020_01.main.body[75]?) rfl (Str.ofString "law_xn0020_01") 543 163) ::
  (nat_lit 170, { cls := Value.type "code", data := Data.fields #[Value.str (Str.ofString "_law_symbols") 557, Value.str (Str.ofString "_law_symbols") 558, Value.str (Str.ofString "/claim/cut.py") 559, Value.int 170 0, Value.int 2 0, Value.int 0 0, Value.int 0 0, Value.int 3 0, Value.ref 165, Value.bool true, Value.int 181 0, Value.ref 166, Value.none, Value.ref 167, Value.ref 168, Value.ref 169, Value.int 565 0, Value.int 170 0, Value.str (Str.ofString "/claim/cut.py") 566] }) ::
  (nat_lit 171, mkFn (st := PySem.Challenge.pw_xn0020_01.main.body[76]?) rfl (Str.ofString "law_xn0020_01") 543 170) ::
  (nat_lit 177, { cls := Value.type "code", data := Data.fields #[Value.str (Str.ofString "_law_holds") 568, Value.str (Str.ofString "_law_holds") 569, Value.str (Str.ofString "/claim/cut.py") 570, Value.int 178 0, Value.int 2 0, Value.int 0 0, Value.int 0 0, Value.int 3 0, Value.ref 172, Value.bool true, Value.int 181 0, Value.ref 173, Value.none, Value.ref 174, Value.ref 175, Value.ref 176, Value.int 580 0, Value.int 178 0, Value.str (Str.ofString "/claim/cut.py") 581] }) ::
  (nat_lit 178, mkFn (st := PySem.Challenge.pw_xn0020_01.main.body[77]?) rfl (Str.ofString "law_xn0020_01") 543 177) ::
  (nat_lit 184, { cls := Value.type "code", data := Data.fields #[Value.str (Str.ofString "_law_cut") 583, Value.str (Str.ofString "_law_cut") 584, Value.str (Str.ofString "/claim/cut.py") 585, Value.int 186 0, Value.int 1 0, Value.int 0 0, Value.int 0 0, Value.int 3 0, Value.ref 179, Value.bool true, Value.int 181 0, Value.ref 180, Value.none, Value.ref 181, Value.ref 182, Value.ref 183, Value.int 590 0, Value.int 186 0, Value.str (Str.ofString "/claim/cut.py") 591] }) ::
  (nat_lit 185, mkFn (st := PySem.Challenge.pw_xn0020_01.main.body[78]?) rfl (Str.ofString "law_xn0020_01") 543 184) ::
  (nat_lit 191, { cls := Value.type "code", data := Data.fields #[Value.str (Str.ofString "_law_bare") 593, Value.str (Str.ofString "_law_bare") 594, Value.str (Str.ofString "/claim/cut.py") 595, Value.int 196 0, Value.int 1 0, Value.int 0 0, Value.int 0 0, Value.int 3 0, Value.ref 186, Value.bool true, Value.int 181 0, Value.ref 187, Value.none, Value.ref 188, Value.ref 189, Value.ref 190, Value.int 602 0, Value.int 196 0, Value.str (Str.ofString "/claim/cut.py") 603] }) ::
  (nat_lit 192, mkFn (st := PySem.Challenge.pw_xn0020_01.main.body[79]?) rfl (Str.ofString "law_xn0020_01") 543 191) ::
  (nat_lit 198, { cls := Value.type "code", data := Data.fields #[Value.str (Str.ofString "_law_row") 605, Value.str (Str.ofString "_law_row") 606, Value.str (Str.ofString "/claim/cut.py") 607, Value.int 210 0, Value.int 1 0, Value.int 0 0, Value.int 0 0, Value.int 3 0, Value.ref 193, Value.bool true, Value.int 181 0, Value.ref 194, Value.none, Value.ref 195, Value.ref 196, Value.ref 197, Value.int 611 0, Value.int 210 0, Value.str (Str.ofString "/claim/cut.py") 612] }) ::
  (nat_lit 199, mkFn (st := PySem.Challenge.pw_xn0020_01.main.body[80]?) rfl (Str.ofString "law_xn0020_01") 543 198) ::
  (nat_lit 203, { cls := Value.type "code", data := Data.fields #[Value.str (Str.ofString "_law_run") 614, Value.str (Str.ofString "_law_run") 615, Value.str (Str.ofString "/claim/cut.py") 616, Value.int 219 0, Value.int 2 0, Value.int 0 0, Value.int 0 0, Value.int 3 0, Value.ref 200, Value.bool true, Value.int 181 0, Value.ref 201, Value.none, Value.none, Value.none, Value.ref 202, Value.int 617 0, Value.int 219 0, Value.str (Str.ofString "/claim/cut.py") 618] }) ::
  (nat_lit 204, mkFn (st := PySem.Challenge.pw_xn0020_01.main.body[81]?) rfl (Str.ofString "law_xn0020_01") 543 203) ::
  (nat_lit 208, { cls := Value.type "code", data := Data.fields #[Value.str (Str.ofString "_law_top") 620, Value.str (Str.ofString "_law_top") 621, Value.str (Str.ofString "/claim/cut.py") 622, Value.int 242 0, Value.int 2 0, Value.int 0 0, Value.int 0 0, Value.int 3 0, Value.ref 205, Value.bool true, Value.int 181 0, Value.ref 206, Value.none, Value.none, Value.none, Value.ref 207, Value.int 623 0, Value.int 242 0, Value.str (Str.ofString "/claim/cut.py") 624] }) ::
  (nat_lit 209, mkFn (st := PySem.Challenge.pw_xn0020_01.main.body[82]?) rfl (Str.ofString "law_xn0020_01") 543 208) ::
  (nat_lit 213, { cls := Value.type "code", data := Data.fields #[Value.str (Str.ofString "law") 626, Value.str (Str.ofString "law") 627, Value.str (Str.ofString "/claim/cut.py") 628, Value.int 244 0, Value.int 1 0, Value.int 0 0, Value.int 0 0, Value.int 3 0, Value.ref 210, Value.bool true, Value.int 181 0, Value.ref 211, Value.none, Value.none, Value.none, Value.ref 212, Value.int 629 0, Value.int 244 0, Value.str (Str.ofString "/claim/cut.py") 630] }) ::
  (nat_lit 214, mkFn (st := PySem.Challenge.pw_xn0020_01.main.body[83]?) rfl (Str.ofString "law_xn0020_01") 543 213) :: []
noncomputable def kAddrs : List Addr := [2, 3, 20, 21, 27, 28, 34, 35, 41, 42, 48, 49, 55, 56, 62, 63, 69, 70, 76, 77, 83, 84, 90, 91, 97, 98, 99, 107, 108, 114, 115, 121, 122, 128, 129, 135, 136, 142, 143, 149, 150, 156, 157, 163, 164, 170, 171, 177, 178, 184, 185, 191, 192, 198, 199, 203, 204, 208, 209, 213, 214]
theorem kAddrs_eq : ∀ P, kAddrs = (kHeap P).map (·.1) := fun P => by kernel_rfl
noncomputable def kView : Program := view PySem.Challenge.rw_xn0020_01.row.prog [1, 2, 3, 4, 5, 6, 7, 8, 9, 10, 11, 12, 14, 15, 16, 17, 18, 19, 20, 21, 22, 23, 24, 25, 26, 27, 28, 29, 30, 31, 32, 33, 34, 35, 36, 37, 38, 39, 40, 41, 42, 43, 44, 45, 46, 47, 48, 49, 50, 51, 52, 53, 54, 55, 56, 57, 58, 59, 60, 61, 62, 63, 64, 65, 66, 68, 69, 70, 71, 72, 73, 75, 76, 77, 78, 79, 80, 81, 82, 83]
noncomputable abbrev kLoose : List Str := [Str.ofString "EXACT_TOKEN_TYPES"]
noncomputable abbrev kH : Hook := kHook kHeap kAddrs kAddrs_eq
section
variable (f : SharedT → Thread → Option (SharedT × Thread)) (ok : Thread → Bool)
/-- a top's run over a tree of objects. -/
noncomputable def topRunT : Nat → SharedT → Thread → Option SharedT
  | 0, _, _ => none
  | n + 1, s, t => match through t with
    | true => some s
    | false => match ok t with
      | false => none
      | true => match f s t with
        | some (s', t') => topRunT n s' t'
        | none => none
end
theorem topRun_of {tb : String → Option Builtin} {p : Program} {w : World} {n₀ : Nat} {ann : Option Value} : ∀ {n : Nat} {s s' : SharedT} {t : Thread}, topRunT (stepT (denote tb) p w) (stepOk n₀ ann) n s t = some s' → topRun tb p w n₀ ann n s.abs t = some s'.abs
  | 0, _, _, _, h => by cases h
  | n + 1, s, s', t, h => by
    unfold topRunT at h
    unfold topRun
    cases ht : through t with
    | true => rw [ht] at h; cases h; rfl
    | false =>
      rw [ht] at h
      cases hk : stepOk n₀ ann t with
      | false => rw [hk] at h; cases h
      | true =>
        rw [hk] at h
        dsimp only at h
        cases hs : stepT (denote tb) p w s t with
        | none => rw [hs] at h; cases h
        | some r =>
          obtain ⟨s2, t2⟩ := r
          rw [hs] at h
          rw [stepT_spec hs]
          exact topRun_of h
/-- the tree of a heap's objects. -/
noncomputable def treeUp : List Obj → Nat → BT → BT
  | [], _, t => t
  | o :: r, n, t => treeUp r (n + 1) (t.ins n o)
theorem left_of_tree {p q : Program} {loose : List Str} {Xt : Shared → Bool} {α : Type} {Yf : Shared → α} {Ya : World → α} {N M n0 m₀ : Nat} {g0 : Bool} {T0 : Params → BT} {life : Params → Life} {ann : Option Value} {d : Drawn} {k : Nat} {H : Params → Heap}
    (boot : ∀ w : World, (fencedOpening treeTable p w N).map (fun s => (s.heap, s.gens, s.drawn, s.toks)) = some (H w.params, Array.mk [], d, k))
    (habs : ∀ P, absHeap (T0 P) n0 (life P) = H P)
    (size : ∀ w : World, ((H w.params).isNs mainGlobals, (H w.params).objs.size, (H w.params).nsMap mainGlobals "__annotations__") = (true, m₀, ann))
    (run : ∀ w : World, (fun os => (topRunT (stepT (denote treeTable) p w) (stepOk m₀ ann) M ⟨T0 w.params, n0, life w.params, Array.mk [], d, k, os⟩ (topStub p)).map fun s =>
        ((staticsOk (importedModules p.main.body) (H w.params) s.abs.heap && namesBound p s.abs.heap && gensDone s.abs && laidKept (H w.params) s.abs.heap), openSeen q loose (importedModules p.main.body) Xt g0 s.abs, Yf s.abs)) = fun _ => some (true, openGood q loose, Ya w))
    (le : Nat.ble M N = true) : LeftO p q loose Xt Yf Ya N g0 := fun w => by
  obtain ⟨⟨h, gs, d', k', os⟩, e, e'⟩ := Option.map_eq_some_iff.mp (boot w)
  obtain ⟨rfl, rfl, rfl, rfl⟩ : h = H w.params ∧ gs = Array.mk [] ∧ d' = d ∧ k' = k := by simpa using e'
  obtain ⟨z1, z2, z3⟩ : _ ∧ _ ∧ _ := by simpa only [Prod.mk.injEq] using size w
  obtain ⟨s, r, l⟩ := Option.map_eq_some_iff.mp (congrFun (run w) os)
  obtain ⟨l1, l2, l3⟩ : _ ∧ _ ∧ _ := by simpa only [Prod.mk.injEq] using l
  have r := topRun_mono (N - M) _ _ _ _ (topRun_of r)
  rw [show M + (N - M) = N by have := Nat.le_of_ble_eq_true le; omega] at r
  rw [show SharedT.abs ⟨T0 w.params, n0, life w.params, Array.mk [], d', k', os⟩ = ⟨H w.params, Array.mk [], d', k', os⟩ by rw [SharedT.abs, habs]] at r
  have t : topFrom treeTable p w N ⟨H w.params, Array.mk [], d', k', os⟩ = some s.abs := by
    unfold topFrom
    dsimp only
    rw [z1, z2, z3, r]
    show (match staticsOk (importedModules p.main.body) (H w.params) s.abs.heap && namesBound p s.abs.heap && gensDone s.abs && laidKept (H w.params) s.abs.heap with | true => _ | false => _) = _
    rw [l1]
  unfold openEnds
  rw [e]
  show (topFrom treeTable p w N _).map _ = _
  rw [t]
  exact congrArg some (Prod.ext l2 l3)
noncomputable def kTree (P : Params) : BT := treeUp (boot_heap P).objs.toList 0 .nil
theorem kBoot : ∀ w : World, (fencedOpening treeTable PySem.Challenge.rw_xn0020_01.row.prog w 4798).map (fun s => (s.heap, s.gens, s.drawn, s.toks)) = some (boot_heap w.params, Array.mk [], boot_drawn, boot_toks) :=
  boot_open (by kernel_rfl) (by decide) (fun s => by kernel_rfl)
theorem kAbs : ∀ P, absHeap (kTree P) 11 (boot_heap P).life = boot_heap P := fun P => by kernel_rfl
theorem kSize : ∀ w : World, ((boot_heap w.params).isNs mainGlobals, (boot_heap w.params).objs.size, (boot_heap w.params).nsMap mainGlobals "__annotations__") = (true, 11, some (Value.ref 6)) := fun w => by kernel_rfl
end Mine
namespace Mine
noncomputable abbrev pw : Program := PySem.Challenge.rw_xn0020_01.row.prog
noncomputable abbrev kXt : Shared → Bool := fun s => xlAt kView [] s && recOk (RowW.records PySem.Challenge.rw_xn0020_01.row.toRowW) s
noncomputable abbrev kWay (w : World) (b : Bool) : World := w.withFollow "special-get-raises" b
noncomputable abbrev kMods : List Str := importedModules pw.main.body
theorem e_wdefs : wdefsOf kView = [] := by rw [Fast.te694669760492028198]; kernel_rfl
theorem e_wlits : wlitsOf kView = [] := by rw [Fast.te11925523677476243305]; kernel_rfl
theorem e_drecs : drecsOf kView = [] := by kernel_rfl
theorem e_clss : clssOf kView kLoose = [] := by kernel_rfl
theorem e_rest : kLoose ++ ((dclssOf kView kLoose ++ wclssOf kView kLoose).map (·.name)) ++ kView.main.body.flatMap importedNames = kLoose := by kernel_rfl
theorem e_loose : looseW kView kLoose = kLoose := by
  unfold looseW looseD heldW
  rw [e_wdefs, e_wlits, e_drecs]
  simp only [List.map_nil, List.append_nil]
  exact e_rest
theorem e_none : ((valNames kView).all fun x => (tupIntsOf kView x).isNone && (tupStrsOf kView x).isNone && (tabIntOf kView x).isNone) = true := by
  rw [Fast.te15722548840688424386, Fast.te14491516231548247274, Fast.te10077548348588599076]
  kernel_rfl
theorem e_tab (h : Heap) : tablesOk kView h = true := by
  unfold tablesOk
  refine List.all_eq_true.mpr fun x hx => ?_
  have q := List.all_eq_true.mp e_none x hx
  simp only [Bool.and_eq_true, Option.isNone_iff_eq_none] at q
  obtain ⟨⟨a, b⟩, c⟩ := q
  rw [a, b, c]
  rfl
theorem e_wide (s : Shared) : wideSeen kView s = ([], true) := by
  unfold wideSeen
  rw [e_wdefs, e_wlits]
  rfl
theorem e_pin (s : Shared) : pinSeenD kView (drecsOf kView) s = ([], true) := by
  rw [e_drecs]
  rfl
/-- the look at the top's end, without the parts that are empty in this program. -/
noncomputable abbrev kSeen (sn : List Str → List OwnSpec → List Str → Shared → Seen) (rc : Program → List DefRec) (ow : Program → List OwnSpec) (ko : Heap → List Str → List Str → List Str → List Str → Bool) (li : Program → List (Str × PyData)) (ac : Heap → List Str → Bool) (tb : Program → Shared → Bool) (pe : Program → List Str → Shared → List (Option PlainShape)) (pd : Program → List Str → Shared → List (Option (PlainShape × Bool))) (cw : Program → List Str → Shared → List (Option (List (Option FnShape) × Bool) × Option (PlainShape × Bool))) (s : Shared) :=
  (sn (R.mapR (fun x => x.name) (rc kView)) (ow kView) [] { s with gens := #[] }, s.heap.bltView,
   ko s.heap kLoose (R.mapR (fun x => x.name) (rc kView)) (R.mapR (fun x => x.1) (li kView)) [] && ac s.heap kMods && s.heap.isNs mainGlobals && s.heap.isNs builtinsNs && true && kXt s && s.gens.size == 0,
   tb kView s, (([], true) : List (Option FnShape) × Bool), pe kView kLoose s, pd kView kLoose s, (([], true) : List (Option FnShape) × Bool), cw kView kLoose s)
theorem kSeen_eq (s : Shared) : openSeen kView kLoose kMods kXt true s = kSeen seen recsOf ownsOf Heap.keysOk litsOf Heap.accountedOkI tabsOk plainSeenE plainSeenD clsSeenW s := by
  unfold openSeen
  rw [e_loose, e_tab, e_wide, e_pin, e_clss, R.mapR_eq]
  rfl
noncomputable abbrev kGood := (expectedOf kView, bltViewBooted, true, true, (([], true) : List (Option FnShape) × Bool), plainGoodE kView kLoose, plainGoodD kView kLoose, (([], true) : List (Option FnShape) × Bool), clsGoodW kView kLoose)
theorem kGood_eq : openGood kView kLoose = kGood := by
  unfold openGood wideGood pinGoodD
  rw [e_loose, e_wdefs, e_drecs]
  rfl
/-- the top's run, read by a look at its end. -/
noncomputable abbrev kSaw {β : Type} (stp : (Code → Sem Fin) → Program → World → SharedT → Thread → Option (SharedT × Thread)) (den : (String → Option Builtin) → Code → Sem Fin) (tb : String → Option Builtin) (ok : Nat → Option Value → Thread → Bool) (look : Shared → β) (w : World) (os : OsState) : Option β :=
  (topRunT (stp (den tb) pw w) (ok 11 (some (Value.ref 6))) 2400 ⟨kTree w.params, 11, (boot_heap w.params).life, Array.mk [], boot_drawn, boot_toks, os⟩ (topStub pw)).map fun s => look s.abs
noncomputable abbrev kLook {γ : Type} (sn : Shared → γ) (w : World) (s : Shared) := ((staticsOk (importedModules pw.main.body) (boot_heap w.params) s.heap && namesBound pw s.heap && gensDone s && laidKept (boot_heap w.params) s.heap), sn s, kH.obs s)
noncomputable abbrev kFast := kSeen Fast.tw5160383126252970620 Fast.tw3399658132070893891 Fast.tw5991557255702980513 Fast.tw10880121769531294198 Fast.tw7409074990110511671 Fast.tw14722251495701143533 Fast.tw479339242167458305 Fast.tw2386780881361962483 Fast.tw11698064438423848299 Fast.tw7369524293546568484
theorem kRun_f : ∀ w : World, (fun os => kSaw Fast.tw10156331382660048174 Fast.tw11892475500146522536 Fast.tw14364793385576792824 Fast.tw6613529449190102663 (kLook kFast (kWay w false)) (kWay w false) os) = fun _ => some (true, kGood, kH.val (kWay w false)) := fun w => by kernel_rfl
theorem kRun_t : ∀ w : World, (fun os => kSaw Fast.tw10156331382660048174 Fast.tw11892475500146522536 Fast.tw14364793385576792824 Fast.tw6613529449190102663 (kLook kFast (kWay w true)) (kWay w true) os) = fun _ => some (true, kGood, kH.val (kWay w true)) := fun w => by kernel_rfl
theorem kRun : ∀ w : World, (fun os => kSaw stepT denote treeTable stepOk (kLook (fun s => openSeen kView kLoose kMods kXt true s) w) w os) = fun _ => some (true, openGood kView kLoose, kH.val w) := by
  rw [kGood_eq, funext kSeen_eq, Fast.te10156331382660048174, Fast.te11892475500146522536, Fast.te14364793385576792824, Fast.te6613529449190102663, Fast.te5160383126252970620, Fast.te3399658132070893891, Fast.te5991557255702980513, Fast.te10880121769531294198, Fast.te7409074990110511671, Fast.te14722251495701143533, Fast.te479339242167458305, Fast.te2386780881361962483, Fast.te11698064438423848299, Fast.te7369524293546568484]
  exact byRow2 "special-get-raises" kRun_f kRun_t
theorem kLeft : LeftO pw kView kLoose kXt kH.obs kH.val 4798 := left_of_tree (T0 := kTree) (n0 := 11) (m₀ := 11) (M := 2400) (life := fun P => (boot_heap P).life) (ann := some (Value.ref 6)) kBoot kAbs kSize (fun w => by with_reducible exact kRun w) (by decide)
end Mine
namespace Mine
theorem kSaid : PySem.Challenge.rw_xn0020_01.wellSaid = true := by
  rw [Fast.te9446332074065402090]
  kernel_rfl
/-- the head: what is asked of the walk, and the claim from it. -/
noncomputable def hd : (T : Prop) ×' (T → PySem.Challenge.rw_xn0020_01.Holds) := ⟨_, fun walk => holds_law kSaid fun said =>
  holds_open (q := kView) (loose := kLoose) (Xt := kXt) (XP := XL kView []) (Yf := kH.obs) (Ya := kH.val) (YP := kH.says) (N := 4798) kLeft (Hook.of kH) (Hook.keeps kH) (fun s e => xl_of s (Bool.and_eq_true_iff.mp e).1) XL.keeps (by rfl) (by rfl) (by rfl) (fun s e => recFacts_of (Bool.and_eq_true_iff.mp e).2) (by rfl) (by assumption) (by decide +kernel) ⟨rfl, rfl, rfl, rfl, rfl, by decide +kernel⟩ (by w_witness2) walk⟩
end Mine
namespace Mine
/-- what a call of one of the text's defs promises, whoever calls it. -/
noncomputable abbrev MClaim (w : World) (mean : ExcName → Option Value) (mg mb : Str → Option Value) (f : Addr) (news : List (Addr × Obj)) (dN uN : Nat) (vs : List Value) (pre : Nat → Prop) (post : Nat → Value → List (Addr × Obj) → Nat → Prop) : Prop :=
  ∀ (dp un : Nat) (gd : Option (List Code)) (cn : Str) (cs : Scope) (a : Addr) (ccd : Value) (cl : List (Str × Addr)) (outer : List Env) (A₀ : Around) (base h₀ : Heap) (L : Addr) (m : Str → Option Value) (s : Shared) (Q E : Value → Shared → Prop),
    Below A₀ base outer h₀ → Fr h₀ L s.heap m → (kHeap w.params).In h₀ → News h₀ L s.heap news → Top kView (looseW kView [Str.ofString "EXACT_TOKEN_TYPES"]) mean mg mb h₀ → cs.kind = .function →
    dp + dN < recursionLimit → un + uN < cLine → pre s.toks →
    (∀ (v : Value) (own : List (Addr × Obj)) (h' : Heap) (tk' : Nat), Fr h₀ L h' m → News h₀ L h' (own ++ news) → (∀ p ∈ news, ∀ q ∈ own, p.1 < q.1) → post s.toks v own tk' → Q v { s with heap := h', toks := tk' }) →
    wpAny (model PySem.Challenge.rw_xn0020_01.row.prog w) (ktrTop dp un gd cn cs L a ccd cl outer) (call (.ref f) vs) Q E s

theorem claim_toks {w : World} {mean : ExcName → Option Value} {mg mb : Str → Option Value} {f : Addr} {news : List (Addr × Obj)} {dN uN : Nat} {vs : List Value} {pre : Nat → Prop} {post : Nat → Value → List (Addr × Obj) → Nat → Prop}
    (C : MClaim w mean mg mb f news dN uN vs pre post) : MClaim w mean mg mb f news dN uN vs pre (fun t v own tk' => t ≤ tk' ∧ post t v own tk') := by
  intro dp un gd cn cs a ccd cl outer A₀ base h₀ L m s Q E h1 h2 h3 h4 h5 h6 h7 h8 h9 k
  refine wpAny_mono (wpAny_toks (C dp un gd cn cs a ccd cl outer A₀ base h₀ L m s (fun v s' => s.toks ≤ s'.toks → Q v s') E h1 h2 h3 h4 h5 h6 h7 h8 h9 (fun v own h' tk' F N sep P ht => k v own h' tk' F N sep ⟨ht, P⟩))) (fun _ _ x => x.2 x.1) fun _ _ x => x.2

structure Kont (P : Prop) : Prop where
  out : P
theorem tok_ne {t : Nat} (h : 1 ≤ t) : t ≠ 0 := by omega
theorem tok_lt {a b : Nat} (h : a < b) : a ≠ b := by omega
theorem cons_pos {M : Model} {A : Around} {E : Value → Shared → Prop} {env : Env} {Q : Flow → Shared → Prop} {st : Stmt} {rest : List Stmt} {H : Heap} {g : Array GenState} {d : Drawn} {X : Nat} {o : OsState} (hX : 1 ≤ X)
    (h : ∀ tk, 1 ≤ tk → wpAny M A (exec st env) (fun f s' => 1 ≤ s'.toks → (match f with | .next => wpAny M A (execs rest env) Q E s' | f => Q f s')) E { heap := H, gens := g, drawn := d, toks := tk, os := o }) :
    wpAny M A (execs (st :: rest) env) Q E { heap := H, gens := g, drawn := d, toks := X, os := o } :=
  wpAny_execs_cons (wpAny_mono (wpAny_toks_of hX (h X hX)) (fun _ _ x => x.2 x.1) fun _ _ x => x.2)
structure TokMark (n : Nat) : Prop where
theorem cons_mark {n : Nat} {M : Model} {A : Around} {E : Value → Shared → Prop} {env : Env} {Q : Flow → Shared → Prop} {st : Stmt} {rest : List Stmt} {H : Heap} {g : Array GenState} {d : Drawn} {X : Nat} {o : OsState} (uhM : TokMark n) (hX : n ≤ X)
    (h : ∀ tk, n ≤ tk → wpAny M A (exec st env) (fun f s' => n ≤ s'.toks → (match f with | .next => wpAny M A (execs rest env) Q E s' | f => Q f s')) E { heap := H, gens := g, drawn := d, toks := tk, os := o }) :
    wpAny M A (execs (st :: rest) env) Q E { heap := H, gens := g, drawn := d, toks := X, os := o } :=
  wpAny_execs_cons (wpAny_mono (wpAny_toks_of hX (h X hX)) (fun _ _ x => x.2 x.1) fun _ _ x => x.2)
theorem cons_up {M : Model} {A : Around} {E : Value → Shared → Prop} {env : Env} {Q : Flow → Shared → Prop} {st : Stmt} {rest : List Stmt} {H : Heap} {g : Array GenState} {d : Drawn} {X : Nat} {o : OsState}
    (h : ∀ tk, X = tk → wpAny M A (exec st env) (fun f s' => tk ≤ s'.toks → (match f with | .next => wpAny M A (execs rest env) Q E s' | f => Q f s')) E { heap := H, gens := g, drawn := d, toks := tk, os := o }) :
    wpAny M A (execs (st :: rest) env) Q E { heap := H, gens := g, drawn := d, toks := X, os := o } :=
  wpAny_execs_cons (wpAny_mono (wpAny_toks_of (Nat.le_refl _) (h X rfl)) (fun _ _ x => x.2 x.1) fun _ _ x => x.2)
theorem notBooked {P : Params} {h₀ : Heap} (X : (kHeap P).In h₀) : NoneBooked h₀ :=
  ⟨_, .of_isNs (isNs_of_in X (by kernel_rfl)), nsMap_none_of_in X (by kernel_rfl) (by kernel_rfl)⟩
theorem NoneBooked.keeps {h₀ h : Heap} (hk : ∀ b o, h₀.get? b = some o → h.get? b = some o) (x : NoneBooked h₀) : NoneBooked h := by
  obtain ⟨mc, hn, e⟩ := x
  exact ⟨mc, hn.at' fun o => hk _ o, e⟩

theorem perm_cons {h₀ h : Heap} {L : Addr} {x : Addr × Obj} {news news' : List (Addr × Obj)} (N : News h₀ L h news') (h1 : x ∈ news') (h2 : ∀ p ∈ news, p ∈ news') : News h₀ L h ([x] ++ news) :=
  News.perm N fun p hp => by
    rcases List.mem_cons.mp hp with rfl | hp
    · exact h1
    · exact h2 p hp
theorem sep_one {a : Addr} {o : Obj} {news : List (Addr × Obj)} (h : ∀ p ∈ news, p.1 < a) : ∀ p ∈ news, ∀ q ∈ [(a, o)], p.1 < q.1 := fun p hp q hq => by
  rw [List.mem_singleton.mp hq]; exact h p hp
theorem allLt_mem {d : Addr} {l : List (Addr × Obj)} (h : AllLt d l) : ∀ p ∈ l, p.1 < d := by
  induction l with
  | nil => intro p hp; cases hp
  | cons q r ih =>
    intro p hp
    have h' : @LT.lt Nat _ q.1 d ∧ AllLt d r := h
    cases hp with
    | head => exact h'.1
    | tail _ hp => exact ih h'.2 p hp
theorem ints_of_eq {vs : List Value} {ns ns' : List Int} (h : IntsAre vs ns) (e : ns = ns') : IntsAre vs ns' := e ▸ h
theorem getD_len (b : Nat) : ∀ (ws : List PySem.Str) (k : Nat), (ws.all fun x => decide (x.length ≤ b)) = true → (ws.getD k PySem.Str.empty).length ≤ b
  | [], k, _ => by simp [PySem.Str.empty, PySem.Str.length]
  | x :: r, 0, h => by simp only [List.all_cons, Bool.and_eq_true, decide_eq_true_eq] at h; simpa using h.1
  | x :: r, k + 1, h => by
    simp only [List.all_cons, Bool.and_eq_true, decide_eq_true_eq] at h
    have := getD_len b r k h.2
    simpa using this
theorem tupText {prog : Program} {w : World} {A : Around} {E : Value → Shared → Prop} {s : Shared} {value slice : PySem.Expr} {l : Addr} {vs : List Value} {ws : List PySem.Str} {i : Int} {u : Tok} {Q : Value → Shared → Prop} (b : Nat)
    (ht : IsTup s.heap l vs.toArray) (hw : StrsAre vs ws) (hb : (ws.all fun x => decide (x.length ≤ b)) = true) (h0 : 0 ≤ i) (h1 : i < (ws.length : Int)) (hfit : i < 2 ^ 63) (h : ∀ t', (ws.getD i.toNat PySem.Str.empty).length ≤ b → Q (.str (ws.getD i.toNat PySem.Str.empty) t') s)
    (hs : subscripted slice false (.ref l) (.int i u) = operate [.ref l, .int i u] (getItem (.ref l) (.int i u)) := by with_unfolding_all rfl) :
    wpAny (model prog w) A (subscriptTail value slice (.ref l) (.int i u)) Q E s :=
  KTb.item_tup ht hw h0 h1 hfit (fun t' _ => h t' (getD_len b ws _ hb)) hs
/-- a closed word for what is asked behind a statement. -/
noncomputable def At (K : Flow → Shared → Prop) (f : Flow) (s : Shared) : Prop := K f s
/-- K asks no more than Q. -/
structure OpK (K Q : Flow → Shared → Prop) : Prop where
  out : ∀ {f s}, Q f s → At K f s
structure NxK (K : Flow → Shared → Prop) (M : Model) (A : Around) (E : Value → Shared → Prop) (env : Env) (rest : List Stmt) (Q : Flow → Shared → Prop) : Prop where
  next : ∀ {s}, wpAny M A (execs rest env) Q E s → At K .next s
  ret : ∀ {v s}, Q (.ret v) s → At K (.ret v) s
  brk : ∀ {s}, Q .brk s → At K .brk s
  cont : ∀ {s}, Q .cont s → At K .cont s
theorem open_K {M : Model} {A : Around} {E : Value → Shared → Prop} {env : Env} {body : List Stmt} {Q : Flow → Shared → Prop} {s : Shared}
    (h : ∀ K, OpK K Q → wpAny M A (execs body env) (At K) E s) : wpAny M A (execs body env) Q E s := h Q ⟨fun x => x⟩
theorem cons_K {M : Model} {A : Around} {E : Value → Shared → Prop} {env : Env} {Q : Flow → Shared → Prop} {st : Stmt} {rest : List Stmt} {H : Heap} {g : Array GenState} {d : Drawn} {X : Nat} {o : OsState}
    (h : ∀ K tk, NxK K M A E env rest (At Q) → wpAny M A (exec st env) (At K) E { heap := H, gens := g, drawn := d, toks := tk, os := o }) :
    wpAny M A (execs (st :: rest) env) (At Q) E { heap := H, gens := g, drawn := d, toks := X, os := o } :=
  wpAny_execs_cons (h _ _ ⟨fun x => x, fun x => x, fun x => x, fun x => x⟩)
/-- the same, the tokens told. -/
structure NxT (K : Flow → Shared → Prop) (t : Nat) (M : Model) (A : Around) (E : Value → Shared → Prop) (env : Env) (rest : List Stmt) (Q : Flow → Shared → Prop) : Prop where
  next : ∀ {s}, (t ≤ s.toks → wpAny M A (execs rest env) Q E s) → At K .next s
  ret : ∀ {v s}, (t ≤ s.toks → Q (.ret v) s) → At K (.ret v) s
  brk : ∀ {s}, (t ≤ s.toks → Q .brk s) → At K .brk s
  cont : ∀ {s}, (t ≤ s.toks → Q .cont s) → At K .cont s
theorem cons_T {M : Model} {A : Around} {E : Value → Shared → Prop} {env : Env} {Q : Flow → Shared → Prop} {st : Stmt} {rest : List Stmt} {H : Heap} {g : Array GenState} {d : Drawn} {X : Nat} {o : OsState}
    (h : ∀ tk, X = tk → ∀ K, NxT K tk M A E env rest (At Q) → wpAny M A (exec st env) (At K) E { heap := H, gens := g, drawn := d, toks := tk, os := o }) :
    wpAny M A (execs (st :: rest) env) (At Q) E { heap := H, gens := g, drawn := d, toks := X, os := o } :=
  cons_up fun tk e => h tk e _ ⟨fun x => x, fun x => x, fun x => x, fun x => x⟩
theorem join_val {M : Model} {A : Around} {E : Value → Shared → Prop} {t : Sem Value} {Q : Value → Shared → Prop} {s : Shared} (P : Value → Prop) (h : wpAny M A t (fun v s' => P v ∧ ∃ tk, s' = { s with toks := tk }) E s) (k : ∀ v tk, P v → Q v { s with toks := tk }) : wpAny M A t Q E s :=
  wpAny_mono h (fun v s' q => by obtain ⟨hv, tk, rfl⟩ := q; exact k v tk hv) fun _ _ e => e
section
variable {prog : Program} {w : World} {A : Around} {E : Value → Shared → Prop} {Q : Flow → Shared → Prop} {s : Shared} {env : Env} {h₀ : Heap} {L : Addr}

/-- the way out of such a while. -/
inductive WhOut {σ : Type} (h₀ : Heap) (L : Addr) (s : Shared) (Led : σ → List (Addr × Obj)) (ps : σ → List (Str × Value)) (stored : List Str) (m₀ : Str → Option Value) (R : σ → Nat → Prop) (s₂ : Shared) : Prop
  | mk (c' : σ) (h' : Heap) (tk : Nat) (m' : Str → Option Value) (news' : List (Addr × Obj)) (e1 : s₂ = { s with heap := h', toks := tk }) (e2 : Fr h₀ L h' m') (e3 : News h₀ L h' news') (e4 : (∀ p ∈ Led c', p ∈ news')) (e5 : (∀ p ∈ ps c', m' p.1 = some p.2)) (e6 : (∀ z, (∀ p ∈ ps c', z ≠ p.1) → stored.contains z = false → m' z = m₀ z)) (e7 : R c' tk) : WhOut h₀ L s Led ps stored m₀ R s₂
/-- the end of a turn of a while whose state is told by a datum c. -/
noncomputable def WhEnd {σ : Type} (h₀ : Heap) (L : Addr) (s : Shared) (Led : σ → List (Addr × Obj)) (ps : σ → List (Str × Value)) (stored : List Str) (m₀ : Str → Option Value) (P : σ → Nat → Prop) (μ : σ → Nat) (Q : Flow → Shared → Prop) (c : σ) (f : Flow) (s₂ : Shared) : Prop :=
  match f with
  | .ret v => Q (.ret v) s₂
  | .brk => Q .next s₂
  | _ => WhOut h₀ L s Led ps stored m₀ (fun c' tk => P c' tk ∧ μ c' < μ c) s₂

theorem while_st {σ : Type} {test : Expr} {body : List Stmt} {pos : Pos} {m₀ : Str → Option Value} (Led : σ → List (Addr × Obj)) (ps : σ → List (Str × Value)) (stored : List Str) (P : σ → Nat → Prop) (μ : σ → Nat) (c₀ : σ)
    (F : Fr h₀ L s.heap m₀) (N : News h₀ L s.heap (Led c₀)) (hk : ∀ p ∈ ps c₀, m₀ p.1 = some p.2) (hp : P c₀ s.toks)
    (turn : ∀ (c : σ) (u : Str → Option Value) h tk, P c tk → Fr h₀ L h (kstB (fun z => if stored.contains z then u z else m₀ z) (ps c)) → News h₀ L h (Led c) →
      wpAny (model prog w) A (isTrue test env (eval test env)) (fun b s₂ =>
        if b = true then wpAny (model prog w) A (execs body env) (WhEnd h₀ L s Led ps stored m₀ P μ Q c) E s₂ else Q .next s₂) E { s with heap := h, toks := tk })
    (hE : PassesOwn (model prog w) A env E := by passes_own) :
    wpAny (model prog w) A (exec (.While test body [] pos) env) Q E s := by
  refine wpAny_While (codeAny_whileLoop (fun n s' => ∃ (c : σ) (h₁ : Heap) (tk₁ : Nat) (m₁ : Str → Option Value), s' = { s with heap := h₁, toks := tk₁ } ∧ Fr h₀ L h₁ m₁ ∧ News h₀ L h₁ (Led c) ∧ (∀ p ∈ ps c, m₁ p.1 = some p.2) ∧ (∀ z, (∀ p ∈ ps c, z ≠ p.1) → stored.contains z = false → m₁ z = m₀ z) ∧ P c tk₁ ∧ μ c = n) ?_ (μ c₀) ⟨c₀, s.heap, s.toks, m₀, rfl, F, N, hk, fun _ _ _ => rfl, hp, rfl⟩)
  rintro n s' ⟨c, h₁, tk₁, m₁, rfl, F₁, N₁, h1, h2, hP, rfl⟩
  refine wpAny_mono (turn c m₁ h₁ tk₁ hP (ksw_fr h1 h2 F₁) N₁) (fun b s₂ h₂ => ?_) hE
  cases b with
  | false =>
    simp only [Bool.false_eq_true, if_false] at h₂ ⊢
    exact wpAny_execs_nil h₂
  | true =>
    simp only [if_true] at h₂ ⊢
    refine wpAny_mono h₂ (fun f s₃ h₃ => ?_) hE
    cases f with
    | next =>
      obtain ⟨c', h', tk, m', news', rfl, F₂, N₂, hn, hk₂, hr₂, hP₂, hm⟩ := h₃
      exact ⟨μ c', hm, c', h', tk, m', rfl, F₂, fun p hp => N₂ p (hn p hp), hk₂, hr₂, hP₂, rfl⟩
    | cont =>
      obtain ⟨c', h', tk, m', news', rfl, F₂, N₂, hn, hk₂, hr₂, hP₂, hm⟩ := h₃
      exact ⟨μ c', hm, c', h', tk, m', rfl, F₂, fun p hp => N₂ p (hn p hp), hk₂, hr₂, hP₂, rfl⟩
    | brk => exact h₃
    | ret v => exact h₃


theorem while_jn {σ : Type} {test : Expr} {body : List Stmt} {pos : Pos} {m₀ : Str → Option Value} (Led : σ → List (Addr × Obj)) (ps : σ → List (Str × Value)) (stored : List Str) (P : σ → Nat → Prop) (R : σ → Nat → Prop) (μ : σ → Nat) (c₀ : σ)
    (F : Fr h₀ L s.heap m₀) (N : News h₀ L s.heap (Led c₀)) (hk : ∀ p ∈ ps c₀, m₀ p.1 = some p.2) (hp : P c₀ s.toks)
    (turn : ∀ (c : σ) (u : Str → Option Value) h tk, P c tk → Fr h₀ L h (kstB (fun z => if stored.contains z then u z else m₀ z) (ps c)) → News h₀ L h (Led c) →
      wpAny (model prog w) A (isTrue test env (eval test env)) (fun b s₂ =>
        if b = true then wpAny (model prog w) A (execs body env) (WhEnd h₀ L s Led ps stored m₀ P μ Q c) E s₂ else WhOut h₀ L s Led ps stored m₀ R s₂) E { s with heap := h, toks := tk })
    (done : ∀ (c : σ) (u : Str → Option Value) h tk, R c tk → Fr h₀ L h (kstB (fun z => if stored.contains z then u z else m₀ z) (ps c)) → News h₀ L h (Led c) → Q .next { s with heap := h, toks := tk })
    (hE : PassesOwn (model prog w) A env E := by passes_own) :
    wpAny (model prog w) A (exec (.While test body [] pos) env) Q E s := by
  refine while_st Led ps stored P μ c₀ F N hk hp (fun c u h tk hP F₁ N₁ => wpAny_mono (turn c u h tk hP F₁ N₁) (fun b s₂ h₂ => ?_) fun _ _ x => x) hE
  cases b with
  | true => simpa using h₂
  | false =>
    simp only [Bool.false_eq_true, if_false] at h₂ ⊢
    obtain ⟨c', h', tk', m', news', rfl, F₂, N₂, hn, hk₂, hr₂, hR⟩ := h₂
    exact done c' m' h' tk' hR (ksw_fr hk₂ hr₂ F₂) fun p hp => N₂ p (hn p hp)

/-- the end of a turn of a for over a list of the ledger. -/
inductive LiEnd {σ : Type} (h₀ : Heap) (L : Addr) (s : Shared) (Led : σ → List (Addr × Obj)) (ps : σ → List (Str × Value)) (stored : List Str) (m₀ : Str → Option Value) (P : Nat → σ → Nat → Prop) (I : Addr) (it : Obj) (i : Nat) (f : Flow) (s₂ : Shared) : Prop
  | mk (e1 : f = .next) (c' : σ) (h' : Heap) (tk : Nat) (m' : Str → Option Value) (news' : List (Addr × Obj)) (e2 : s₂ = { s with heap := h', toks := tk }) (e3 : Fr h₀ L h' m') (e4 : News h₀ L h' news') (e5 : (∀ p ∈ Led c', p ∈ news')) (e6 : (I, it) ∈ news') (e7 : (∀ p ∈ Led c', p.1 ≠ I)) (e8 : (∀ p ∈ ps c', m' p.1 = some p.2)) (e9 : (∀ z, (∀ p ∈ ps c', z ≠ p.1) → stored.contains z = false → m' z = m₀ z)) (e10 : P (i + 1) c' tk) : LiEnd h₀ L s Led ps stored m₀ P I it i f s₂

theorem list_st {σ : Type} {target : Expr} {body : List Stmt} {l : Addr} {lo : Obj} {vs : List Value} {m₀ : Str → Option Value} (Led : σ → List (Addr × Obj)) (ps : σ → List (Str × Value)) (stored : List Str) (P : Nat → σ → Nat → Prop) (fix : List Addr) (c₀ : σ)
    (hh : A.handled = none) (F : Fr h₀ env.locals s.heap m₀) (N : News h₀ env.locals s.heap (Led c₀)) (hlo : lo.cls = .type "list" ∧ ∃ k, lo.data = .seq vs.toArray k) (hmem : ∀ c, (l, lo) ∈ Led c) (hfix : ∀ d ∈ fix, d ∈ (Led c₀).map (·.1))
    (hk : ∀ p ∈ ps c₀, m₀ p.1 = some p.2) (hp : P 0 c₀ s.toks) (hmono : ∀ i c t t', t ≤ t' → P i c t → P i c t') (hE : PassesOwn (model prog w) A env E)
    (turn : ∀ (i : Nat) (v : Value) (c : σ) (u : Str → Option Value) h tk I it, vs[i]? = some v → P i c tk → (∀ p ∈ Led c, p.1 ≠ I) → (∀ d ∈ fix, d < I) → Fr h₀ env.locals h (kstB (fun z => if stored.contains z then u z else m₀ z) (ps c)) → News h₀ env.locals h (Led c ++ [(I, it)]) →
      wpAny (model prog w) A (assign target env v) (fun _ s₃ => wpAny (model prog w) A (execs body env) (LiEnd h₀ env.locals s Led ps stored m₀ P I it i) E s₃) E { s with heap := h, toks := tk })
    (done : ∀ (c : σ) (u : Str → Option Value) h tk, P vs.length c tk → Fr h₀ env.locals h (kstB (fun z => if stored.contains z then u z else m₀ z) (ps c)) → News h₀ env.locals h (Led c) → Q .next { s with heap := h, toks := tk }) :
    wpAny (model prog w) A (pyIter (.ref l)) (fun it s₂ => codeAny (model prog w) A (.forLoop target it body [] env) (fun r s' => match r with | .ok f => Q f s' | .error e => cameBackBy (model prog w) A env E e s') s₂) E s := by
  obtain ⟨hcl, k, hdt⟩ := hlo
  have hls : s.heap.IsList l vs.toArray := ⟨lo, (N _ (hmem c₀)).1, hcl, k, hdt⟩
  have hlsz : l < s.heap.objs.size := Heap.lt_size (N _ (hmem c₀)).1
  have hne : l ≠ s.heap.objs.size := Nat.ne_of_lt hlsz
  refine wpAny_pyIter_list hls ?_
  have W := Walks.list (prog := prog) (w := w) hh s.heap.objs.size l hne vs.toArray
  have hIL : s.heap.objs.size ≠ env.locals := fun e => absurd F.ns.lt (e ▸ Nat.lt_irrefl _)
  have hlL : l ≠ env.locals := (N _ (hmem c₀)).2.1
  have hIn : h₀.get? s.heap.objs.size = none := next_is_new F
  refine codeAny_forLoop_any
    (fun k s' => ∃ h' tk m' c i, s' = { s with heap := h', toks := tk } ∧ h'.IsListIter s.heap.objs.size l i ∧ Fr h₀ env.locals h' m' ∧ News h₀ env.locals h' (Led c) ∧ (∀ p ∈ Led c, p.1 ≠ s.heap.objs.size) ∧ (∀ p ∈ ps c, m' p.1 = some p.2) ∧ (∀ z, (∀ p ∈ ps c, z ≠ p.1) → stored.contains z = false → m' z = m₀ z) ∧ P i c tk ∧ i ≤ vs.length ∧ k = vs.length + 1 - i) ?_ (vs.length + 1)
    ⟨s.heap.push _, s.toks, m₀, c₀, 0, rfl, ⟨_, Heap.get?_push_size _ rfl, rfl, rfl⟩, F.push _, (fun p hp => ⟨Heap.get?_push_of_some _ (N p hp).1, (N p hp).2⟩), (fun p hp e => absurd (Heap.lt_size (N p hp).1) (e ▸ Nat.lt_irrefl _)), hk, fun _ _ _ => rfl, hp, Nat.zero_le _, rfl⟩
  rintro k s' ⟨h', tk, m', c, i, rfl, hit, F', N', hI, h1, h2, hP, hi, rfl⟩
  have next : ∀ h₁ : Heap, (∀ b o, b ∉ [s.heap.objs.size] → h'.get? b = some o → h₁.get? b = some o) → Fr h₀ env.locals h₁ m' ∧ News h₀ env.locals h₁ (Led c) := fun h₁ hk₁ =>
    ⟨⟨F'.ns.at' fun o e => hk₁ _ o (by simp; exact Ne.symm hIL) e, fun b o e => hk₁ b o (by simp; intro q; rw [q, hIn] at e; cases e) (F'.keep b o e), F'.above⟩, fun p hp => ⟨hk₁ _ _ (by simpa using hI p hp) (N' p hp).1, (N' p hp).2⟩⟩
  have hl' : h'.IsList l vs.toArray := ⟨lo, (N' _ (hmem c)).1, hcl, k, hdt⟩
  by_cases hlt : i < vs.length
  · refine wpAny_with_toks (n := tk) (Nat.le_refl _) ?_
    refine W.item i _ _ _ (by simpa using hlt) ⟨hit, hl'⟩ fun v h₁ tk₁ hPv hst₁ hk₁ => ?_
    intro htk
    obtain ⟨F₁, N₁⟩ := next h₁ hk₁
    obtain ⟨io, hio, hic, hid⟩ := hst₁.1
    refine letGo_listiter hst₁.1 ?_
    have N₂ : News h₀ env.locals h₁ (Led c ++ [(s.heap.objs.size, io)]) := fun p hp => by
      rcases List.mem_append.mp hp with hp | hp
      · exact N₁ p hp
      · rw [List.mem_singleton.mp hp]; exact ⟨hio, hIL, hIn⟩
    have T := turn i v c m' h₁ tk₁ s.heap.objs.size io (by simpa using hPv) (hmono _ _ _ _ htk hP) hI (fun d hd => by
      obtain ⟨p, hp, rfl⟩ := List.mem_map.mp (hfix d hd)
      exact Heap.lt_size (N p hp).1) (ksw_fr h1 h2 F₁) N₂
    refine wpAny_mono (wpAny_passesOwn hE T) (fun _ s₃ h₃ => wpAny_mono (wpAny_passesOwn hE h₃) (fun f s₄ h₄ => ?_) fun _ _ e => e) fun _ _ e => e
    obtain ⟨rfl, c', h₄, tk₄, m₄, news₄, rfl, F₄, N₄, hn, hmI, hI', hk', hr', hP'⟩ := h₄
    exact ⟨vs.length + 1 - (i + 1), by omega, h₄, tk₄, m₄, c', i + 1, rfl, ⟨io, (N₄ _ hmI).1, hic, hid⟩, F₄, fun p hp => N₄ p (hn p hp), hI', hk', hr', hP', hlt, rfl⟩
  · have hin : i = vs.length := by omega
    subst hin
    refine wpAny_with_toks (n := tk) (Nat.le_refl _) ?_
    refine W.done _ _ _ (by simpa using And.intro hit hl') fun h₁ tk₁ hk₁ => ?_
    intro htk
    refine wpAny_execs_nil ?_
    obtain ⟨F₁, N₁⟩ := next h₁ hk₁
    exact done c m' h₁ tk₁ (hmono _ _ _ _ htk hP) (ksw_fr h1 h2 F₁) N₁
end
section
variable {prog : Program} {w : World} {A : Around} {E : Value → Shared → Prop} {s : Shared}

/-- one turn of an enumerate over a text, with the sign's token told. -/
theorem enum_str_next {e it : Addr} {i c : Nat} {y : Str} {u : Tok} {old : Value} {Q : Option Value → Shared → Prop}
    (he : IsEnum s.heap e it i old) (hit : s.heap.IsStrIter it "str_ascii_iterator" y u i) (hc : y.cps[i]? = some c) (hne : e ≠ it)
    (hQ : ∀ h', IsEnumOut h' e it ((i : Int) + 1) (.str ⟨#[c]⟩ s.toks) s.heap.objs.size → h'.IsStrIter it "str_ascii_iterator" y u (i + 1) →
      h'.get? s.heap.objs.size = some { cls := .type "tuple", data := .seq #[.int i (s.toks + 1), .str ⟨#[c]⟩ s.toks] } →
      (∀ b o, b ≠ e → b ≠ it → s.heap.get? b = some o → h'.get? b = some o) → Q (some (.ref s.heap.objs.size)) { s with heap := h', toks := s.toks + 1 + 1 }) :
    wpAny (model prog w) A (pyNext (.ref e)) Q E s := by
  have hT : s.TypeIs (.ref e) "enumerate" := ⟨_, he, rfl⟩
  unfold pyNext
  refine wpAny_bind (wpAny_attempt (wpAny_callSpecial?_slot (name := Str.ofString "__next__") hT PySem.F.slot_enumerate_next
    (wpAny_call_entry PySem.F.slot_enumerate_next hT PySem.F.entry_enumerate_next ?_ (PySem.F.args_enumerate_next_1 _))))
  obtain ⟨hp, g, d, tk, os⟩ := s
  have hel : e < hp.objs.size := Heap.lt_size he
  obtain ⟨oi, hoi, hic, hid⟩ := hit
  have hil : it < hp.objs.size := Heap.lt_size hoi
  show wpAny _ _ (field (.ref e) 2 >>= _) _ _ _
  refine wpAny_bind (wpAny_field he rfl (x := .ref it) rfl ?_)
  refine wpAny_bind (wpAny_nextOf_ascii_item ⟨oi, hoi, hic, hid⟩ hc fun h₁ hit₁ hs₁ => ?_)
  replace hs₁ : Heap.SameBut it hp h₁ := hs₁
  have he₁ : IsEnum h₁ e it i old := (hs₁.2 e hne).trans he
  show wpAny _ _ (field (.ref e) 3 >>= _) _ _ ⟨h₁, g, d, tk + 1, os⟩
  refine wpAny_bind (wpAny_field he₁ rfl (x := rawInt i) rfl ?_)
  show wpAny _ _ (field (.ref e) 4 >>= _) _ _ ⟨h₁, g, d, tk + 1, os⟩
  refine wpAny_bind (wpAny_field he₁ rfl (x := .none) rfl ?_)
  show wpAny _ _ (mkInt i >>= _) _ _ ⟨h₁, g, d, tk + 1, os⟩
  refine wpAny_bind (wpAny_mkInt ?_)
  show wpAny _ _ (setField (.ref e) 3 (rawInt ((i : Int) + 1)) >>= _) _ _ ⟨h₁, g, d, tk + 1 + 1, os⟩
  refine wpAny_bind (wpAny_setField_rec he₁ (by simp) fun h₂ he₂ hs₂ => ?_)
  show wpAny _ _ (setField (.ref e) 4 .none >>= _) _ _ ⟨h₂, g, d, tk + 1 + 1, os⟩
  refine wpAny_bind (wpAny_setField_rec (he₂ : IsEnum h₂ e it ((i : Int) + 1) old) (by simp) fun h₃ he₃ hs₃ => ?_)
  replace he₃ : IsEnum h₃ e it ((i : Int) + 1) old := he₃
  have k₃ : ∀ b, b ≠ e → h₃.get? b = h₁.get? b := fun b hb => (hs₃.2 b hb).trans (hs₂.2 b hb)
  have z₃ : h₃.objs.size = hp.objs.size := by rw [hs₃.1, hs₂.1]; exact hs₁.1
  show wpAny _ _ (newTuple [.int i (tk + 1), .str ⟨#[c]⟩ tk] >>= _) _ _ ⟨h₃, g, d, tk + 1 + 1, os⟩
  refine wpAny_bind (wpAny_newTuple ?_)
  obtain ⟨h₄, hh₄⟩ : ∃ h₄, h₄ = h₃.push { cls := .type "tuple", data := .seq #[.int i (tk + 1), .str ⟨#[c]⟩ tk] } := ⟨_, rfl⟩
  have he₄ : IsEnum h₄ e it ((i : Int) + 1) old := by rw [hh₄]; exact Heap.get?_push_of_some _ he₃
  have ht₄ : h₄.get? hp.objs.size = some { cls := .type "tuple", data := .seq #[.int i (tk + 1), .str ⟨#[c]⟩ tk] } := by rw [hh₄, ← z₃]; exact Heap.get?_push_size _ rfl
  have k₄ : ∀ b o, b ≠ e → h₁.get? b = some o → h₄.get? b = some o := fun b o hb q => by rw [hh₄]; exact Heap.get?_push_of_some _ ((k₃ b hb).trans q)
  show wpAny _ _ (Builtin.SmallTypes.ownedTupleIsFree (.ref e) >>= _) _ _ ⟨h₃.push _, g, d, tk + 1 + 1, os⟩
  rw [← hh₄, z₃]
  refine wpAny_bind ?_
  unfold Builtin.SmallTypes.ownedTupleIsFree
  refine wpAny_bind (wpAny_field he₄ rfl (x := .none) rfl (wpAny_pure ?_))
  simp only [if_true]
  refine wpAny_bind (wpAny_rule (wpAny_bind (wpAny_field he₄ rfl (x := old) rfl (wpAny_bind (wpAny_setField_rec he₄ (by simp) fun h₅ he₅ hs₅ => ?_)))))
  replace he₅ : IsEnum h₅ e it ((i : Int) + 1) (.str ⟨#[c]⟩ tk) := he₅
  show wpAny _ _ (Builtin.SmallTypes.ownedTupleHandOut (.ref e) (.ref hp.objs.size) >>= _) _ _ ⟨h₅, g, d, tk + 1 + 1, os⟩
  refine wpAny_bind ?_
  unfold Builtin.SmallTypes.ownedTupleHandOut
  refine wpAny_bind (wpAny_setField_rec he₅ (by simp) fun h₆ he₆ hs₆ => ?_)
  refine wpAny_setField_rec (he₆ : IsEnumOut h₆ e it ((i : Int) + 1) (.str ⟨#[c]⟩ tk) hp.objs.size) (by simp) fun h₇ he₇ hs₇ => ?_
  have k₇ : ∀ b o, b ≠ e → h₁.get? b = some o → h₇.get? b = some o := fun b o hb q => (hs₇.2 b hb).trans ((hs₆.2 b hb).trans ((hs₅.2 b hb).trans (k₄ b o hb q)))
  refine wpAny_bind (wpAny_letGo (wpAny_pure ⟨_, rfl, wpAny_pure (hQ h₇ he₇ ?_ ?_ ?_)⟩))
  · obtain ⟨o₁, ho₁, r⟩ := hit₁
    exact ⟨o₁, k₇ it o₁ (Ne.symm hne) ho₁, r⟩
  · exact (hs₇.2 _ (Nat.ne_of_gt hel)).trans ((hs₆.2 _ (Nat.ne_of_gt hel)).trans ((hs₅.2 _ (Nat.ne_of_gt hel)).trans ht₄))
  · exact fun b o hbe hbi hb => k₇ b o hbe ((hs₁.2 b hbi).trans hb)
end

/-- what a draw of an enumerate hands on. -/
noncomputable def EnumDraw (e it : Addr) (Sub : Nat → Heap → Prop) (Pv : Nat → Value → Prop) (i : Nat) (s : Shared) (Q : Option Value → Shared → Prop) : Prop :=
  ∀ v t h' tk, Pv i v → IsEnumOut h' e it ((i : Int) + 1) v s.heap.objs.size → Sub (i + 1) h' → h'.get? s.heap.objs.size = some { cls := .type "tuple", data := .seq #[.int i t, v] } →
    (∀ b o, b ≠ e → b ≠ it → s.heap.get? b = some o → h'.get? b = some o) → s.toks ≤ tk → Q (some (.ref s.heap.objs.size)) { s with heap := h', toks := tk }

inductive FiGo (h₀ : Heap) (L : Addr) (gg : Array GenState) (dd : Drawn) (oo : OsState) (m₀ : Str → Option Value) (xi xc : Str) (led : List (Addr × Obj)) (b : Nat) (J : Prop) (s₂ : Shared) : Prop
  | mk (h' : Heap) (tk : Nat) (m' : Str → Option Value) (e1 : s₂ = { heap := h', gens := gg, drawn := dd, toks := tk, os := oo }) (e2 : Fr h₀ L h' m') (e3 : News h₀ L h' led) (e4 : (∀ z, z ≠ xi → z ≠ xc → m' z = m₀ z)) (e5 : b ≤ tk) (e6 : J) : FiGo h₀ L gg dd oo m₀ xi xc led b J s₂
/-- the end of a turn of a search. -/
noncomputable def FiEnd (h₀ : Heap) (L : Addr) (s : Shared) (m₀ : Str → Option Value) (xi xc : Str) (led : List (Addr × Obj)) (b : Nat) (J : Prop) (Q : Flow → Shared → Prop) (f : Flow) (s₂ : Shared) : Prop :=
  match f with
  | .ret v => Q (.ret v) s₂
  | .brk => Q .next s₂
  | _ => FiGo h₀ L s.gens s.drawn s.os m₀ xi xc led b J s₂

section
variable {prog : Program} {w : World} {A : Around} {E : Value → Shared → Prop} {s : Shared} {env : Env} {h₀ : Heap}

theorem find_loop {Q : Flow → Shared → Prop} {xi xc : Str} {pk pv pt : Pos} {x1 : Nat} {body orelse : List Stmt} {e it : Addr} {Sub : Nat → Heap → Prop} {Pv : Nat → Value → Prop} {n b : Nat} {m₀ : Str → Option Value} {news : List (Addr × Obj)} (J : Nat → Prop)
    (hh : A.handled = none) (hxi : env.kindOf xi = some .local) (hxc : env.kindOf xc = some .local) (hp : (env.scope.kind == .class || (env.scope.kind == .module && env.locals != env.globals)) = false)
    (hei : e ≠ it) (heL : e ≠ env.locals) (hiL : it ≠ env.locals) (hen : h₀.get? e = none) (hin : h₀.get? it = none) (hoff : ∀ p ∈ news, p.1 ≠ e ∧ p.1 ≠ it)
    (hlive : ∀ i h, Sub i h → ∃ o, h.get? it = some o)
    (hsub : ∀ i h h', Sub i h → (∀ o, h.get? it = some o → h'.get? it = some o) → Sub i h')
    (item : ∀ i (s' : Shared) (Q' : Option Value → Shared → Prop) (E' : Value → Shared → Prop), i < n → b ≤ s'.toks → (∃ old, IsEnum s'.heap e it i old) → Sub i s'.heap → News h₀ env.locals s'.heap news → EnumDraw e it Sub Pv i s' Q' → wpAny (model prog w) A (pyNext (.ref e)) Q' E' s')
    (he : IsEnum s.heap e it 0 .none) (hs : Sub 0 s.heap) (hb : b ≤ s.toks) (F : Fr h₀ env.locals s.heap m₀) (N : News h₀ env.locals s.heap news) (h0 : J 0) (hend : ¬ J n) (hE : PassesOwn (model prog w) A env E)
    (turn : ∀ i v t h tk oe oi, i < n → Pv i v → J i → b ≤ tk → Fr h₀ env.locals h (fun y => if y = xc then some v else if y = xi then some (.int i t) else m₀ y) → News h₀ env.locals h (news ++ [(e, oe), (it, oi)]) →
      wpAny (model prog w) A (execs body env) (FiEnd h₀ env.locals s m₀ xi xc (news ++ [(e, oe), (it, oi)]) b (J (i + 1)) Q) E { s with heap := h, toks := tk }) :
    codeAny (model prog w) A (.forLoop (.Tuple [.Name xi pk, .Name xc pv] x1 pt) (.ref e) body orelse env) (fun r s' => match r with | .ok f => Q f s' | .error e => cameBackBy (model prog w) A env E e s') s := by
  refine codeAny_forLoop_any
    (fun k s' => ∃ (h' : Heap) (tk : Tok) (m' : Str → Option Value) (i : Nat) (old : Value), s' = { s with heap := h', toks := tk } ∧ IsEnum h' e it (i : Int) old ∧ Sub i h' ∧ b ≤ tk ∧ Fr h₀ env.locals h' m' ∧ News h₀ env.locals h' news ∧ (∀ z, z ≠ xi → z ≠ xc → m' z = m₀ z) ∧ J i ∧ i ≤ n ∧ k = n + 1 - i) ?_ (n + 1)
    ⟨s.heap, s.toks, m₀, 0, .none, rfl, he, hs, hb, F, N, fun _ _ _ => rfl, h0, Nat.zero_le _, rfl⟩
  rintro k s' ⟨h', tk, m', i, old, rfl, he', hs', hb', F', N', hm, hJ, hi, rfl⟩
  have hlt : i < n := by
    rcases Nat.lt_or_ge i n with h | h
    · exact h
    · exact absurd (by have : i = n := by omega
                       exact this ▸ hJ) hend
  refine item i _ _ _ hlt hb' ⟨old, he'⟩ hs' N' fun v t h₁ tk₁ hPv ho hs₁ hT hk₁ htk₁ => ?_
  dsimp only at hk₁ htk₁ ho hT
  have hTe : h'.objs.size ≠ e := Nat.ne_of_gt (Heap.lt_size he')
  refine wpAny_letOwnedTupleGo_enum ho fun h₂ he₂ hs₂ => ?_
  replace hs₂ : Heap.SameBut e h₁ h₂ := hs₂
  have hT₂ : h₂.IsTuple h'.objs.size #[.int i t, v] := ⟨_, (hs₂.2 _ hTe).trans hT, rfl, _, rfl⟩
  refine wpAny_assign_Tuple hh hT₂ rfl rfl fun h₃ hx₃ => ?_
  replace hx₃ : Heap.ExtBut h₂.objs.size h₂ h₃ := hx₃
  have up₃ : ∀ a o, h₂.get? a = some o → h₃.get? a = some o := fun a o x => hx₃ a o (Nat.ne_of_lt (Heap.lt_size x)) x
  have up : ∀ a o, a ≠ e → a ≠ it → h'.get? a = some o → h₃.get? a = some o := fun a o ha hb x => up₃ a o ((hs₂.2 a ha).trans (hk₁ a o ha hb x))
  have F₃ : Fr h₀ env.locals h₃ m' := ⟨F'.ns.at' fun o x => up _ o (Ne.symm heL) (Ne.symm hiL) x, fun a o x => up a o (fun q => by rw [q, hen] at x; cases x) (fun q => by rw [q, hin] at x; cases x) (F'.keep a o x), F'.above⟩
  have N₃ : News h₀ env.locals h₃ news := fun p hp => ⟨up _ _ (hoff p hp).1 (hoff p hp).2 (N' p hp).1, (N' p hp).2⟩
  show wpAny _ A (do holding [v] (assign (.Name xi pk) env (.int i t)); do holding [] (assign (.Name xc pv) env v); pure ()) _ _ _
  refine wpAny_bind (wpAny_holding (wpAny_assign_Name (wpAny_storeName_local hxi F₃.ns (fun h₄ hn₄ hs₄ => ?_) hp)))
  replace hs₄ : Heap.SameBut env.locals h₃ h₄ := hs₄
  have F₄ := F₃.set hn₄ hs₄
  refine wpAny_bind (wpAny_holding (wpAny_assign_Name (wpAny_storeName_local hxc F₄.ns (fun h₅ hn₅ hs₅ => wpAny_pure ?_) hp)))
  replace hs₅ : Heap.SameBut env.locals h₄ h₅ := hs₅
  have F₅ := F₄.set hn₅ hs₅
  have N₅ : News h₀ env.locals h₅ news := (N₃.set hs₄).set hs₅
  have same : ∀ a, a ≠ env.locals → h₅.get? a = h₃.get? a := fun a ha => (hs₅.2 a ha).trans (hs₄.2 a ha)
  obtain ⟨oi, hoi₁⟩ := hlive _ _ hs₁
  have mv : ∀ a o, a ≠ e → a ≠ env.locals → h₁.get? a = some o → h₅.get? a = some o := fun a o ha hl q => (same a hl).trans (up₃ a o ((hs₂.2 a ha).trans q))
  have hoi := mv it oi (Ne.symm hei) hiL hoi₁
  have hs₅' : Sub (i + 1) h₅ := hsub _ _ _ hs₁ fun o q => mv it o (Ne.symm hei) hiL q
  obtain ⟨oe, he₅, hoe⟩ : ∃ oe, h₅.get? e = some oe ∧ ∀ h'' : Heap, h''.get? e = some oe → IsEnum h'' e it (((i + 1 : Nat) : Int)) v := ⟨_, (same e heL).trans (up₃ e _ he₂), fun _ x => x⟩
  have htk : b ≤ tk₁ + 1 + 1 := Nat.le_trans hb' (Nat.le_trans htk₁ (Nat.le_add_right _ 2))
  have hk : n + 1 - (i + 1) < n + 1 - i := by omega
  have key : ∀ (h' : Heap) (tk : Tok) (m₂ : Str → Option Value), Fr h₀ env.locals h' m₂ → News h₀ env.locals h' (news ++ [(e, oe), (it, oi)]) → (∀ z, z ≠ xi → z ≠ xc → m₂ z = m₀ z) → J (i + 1) → b ≤ tk →
      ∃ m, m < n + 1 - i ∧ ∃ (h'' : Heap) (tk'' : Tok) (m' : Str → Option Value) (i : Nat) (old : Value), ({ s with heap := h', toks := tk } : Shared) = { s with heap := h'', toks := tk'' } ∧ IsEnum h'' e it (i : Int) old ∧ Sub i h'' ∧ b ≤ tk'' ∧ Fr h₀ env.locals h'' m' ∧ News h₀ env.locals h'' news ∧ (∀ z, z ≠ xi → z ≠ xc → m' z = m₀ z) ∧ J i ∧ i ≤ n ∧ m = n + 1 - i := fun h' tk m₂ F N hm' hj hb => by
    have ne := hoe _ (N (e, oe) (List.mem_append_right _ (List.Mem.head _))).1
    have ni := (N (it, oi) (List.mem_append_right _ (List.Mem.tail _ (List.Mem.head _)))).1
    refine ⟨_, hk, h', tk, m₂, i + 1, _, rfl, ne, hsub _ _ _ hs₅' fun o q => ?_, hb, F, fun p hp => N p (List.mem_append_left _ hp), hm', hj, hlt, rfl⟩
    rw [hoi] at q
    cases q
    exact ni
  refine wpAny_mono (wpAny_passesOwn hE (turn i v t h₅ (tk₁ + 1 + 1) oe oi hlt hPv hJ htk ?_ ?_)) (fun f s₂ h => ?_) (fun _ _ e => e)
  · have q : (fun x => if x = xc then some v else if x = xi then some (Value.int (i : Int) t) else m' x) = (fun x => if x = xc then some v else if x = xi then some (Value.int (i : Int) t) else m₀ x) := by
      funext y
      by_cases q : y = xc
      · rw [if_pos q, if_pos q]
      · rw [if_neg q, if_neg q]
        by_cases q' : y = xi
        · rw [if_pos q', if_pos q']
        · rw [if_neg q', if_neg q']
          exact hm y q' q
    exact q ▸ F₅
  · intro p hp
    rcases List.mem_append.mp hp with hp | hp
    · exact N₅ p hp
    · rcases hp with _ | ⟨_, _ | ⟨_, hp⟩⟩
      · exact ⟨he₅, heL, hen⟩
      · exact ⟨hoi, hiL, hin⟩
      · cases hp
  · cases f with
    | ret v => exact h
    | brk => exact h
    | next =>
      obtain ⟨h', tk, m', rfl, F, N, hm', hb, hj⟩ := h
      exact key _ _ _ F N hm' hj hb
    | cont =>
      obtain ⟨h', tk, m', rfl, F, N, hm', hb, hj⟩ := h
      exact key _ _ _ F N hm' hj hb

theorem size_new {h : Heap} {L : Addr} {m : Str → Option Value} (F : Fr h₀ L h m) (k : Nat) : h₀.get? (h.objs.size + k) = none :=
  Heap.get?_none_of_le (Nat.le_trans (Nat.le_of_lt (Nat.lt_of_le_of_lt F.above F.ns.lt)) (Nat.le_add_right _ _))

theorem find_list {Q : Flow → Shared → Prop} {xi xc : Str} {pk pv pt : Pos} {x1 : Nat} {body orelse : List Stmt} {Pv : Nat → Value → Prop} {b : Nat} {m₀ : Str → Option Value} {news : List (Addr × Obj)} {l : Addr} {vs : List Value} {k : Nat} (J : Nat → Prop)
    (hh : A.handled = none) (hxi : env.kindOf xi = some .local) (hxc : env.kindOf xc = some .local) (hp : (env.scope.kind == .class || (env.scope.kind == .module && env.locals != env.globals)) = false)
    (hl : (l, listOf vs.toArray k) ∈ news) (hv : ∀ i v, vs[i]? = some v → Pv i v)
    (hb : b ≤ s.toks) (F : Fr h₀ env.locals s.heap m₀) (N : News h₀ env.locals s.heap news) (h0 : J 0) (hend : ¬ J vs.length) (hE : PassesOwn (model prog w) A env E)
    (turn : ∀ i v t h tk e it oe oi, i < vs.length → Pv i v → J i → b ≤ tk → Fr h₀ env.locals h (fun y => if y = xc then some v else if y = xi then some (.int i t) else m₀ y) → News h₀ env.locals h (news ++ [(e, oe), (it, oi)]) →
      wpAny (model prog w) A (execs body env) (FiEnd h₀ env.locals s m₀ xi xc (news ++ [(e, oe), (it, oi)]) b (J (i + 1)) Q) E { s with heap := h, toks := tk }) :
    wpAny (model prog w) A (call (.type "enumerate") [.ref l]) (fun x s₁ => wpAny (model prog w) A (pyIter x) (fun it s₂ =>
      codeAny (model prog w) A (.forLoop (.Tuple [.Name xi pk, .Name xc pv] x1 pt) it body orelse env) (fun r s' => match r with | .ok f => Q f s' | .error e => cameBackBy (model prog w) A env E e s') s₂) E s₁) E s := by
  have hL : s.heap.IsList l vs.toArray := ⟨_, (N _ hl).1, rfl, k, rfl⟩
  have iL : s.heap.objs.size ≠ env.locals := fun q => absurd F.ns.lt (q ▸ Nat.lt_irrefl _)
  have eL : s.heap.objs.size + 1 ≠ env.locals := fun q => absurd (q ▸ F.ns.lt) (Nat.not_lt.mpr (Nat.le_succ _))
  have off : ∀ p ∈ news, p.1 ≠ s.heap.objs.size + 1 ∧ p.1 ≠ s.heap.objs.size := fun p hp => by
    have : @LT.lt Nat _ p.1 s.heap.objs.size := Heap.lt_size (N p hp).1
    exact ⟨fun q => by rw [q] at this; exact absurd this (Nat.not_lt.mpr (Nat.le_succ _)), fun q => by rw [q] at this; exact absurd this (Nat.lt_irrefl _)⟩
  refine call_enumerate_list hL fun h' he hit hz hk => wpAny_pyIter_enum he ?_
  have F' : Fr h₀ env.locals h' m₀ := ⟨F.ns.at' fun o => hk _ o, fun a o q => hk _ _ (F.keep a o q), F.above⟩
  have N' : News h₀ env.locals h' news := fun p hp => ⟨hk _ _ (N p hp).1, (N p hp).2⟩
  refine find_loop (s := { s with heap := h' }) (Sub := fun i h => h.IsListIter s.heap.objs.size l i) (Pv := Pv) (n := vs.length) (b := b) (it := s.heap.objs.size) J hh hxi hxc hp (Nat.succ_ne_self _) eL iL (size_new F 1) (size_new F 0) off ?_ ?_ ?_ he hit hb F' N' h0 hend hE ?_
  · rintro i h ⟨o, ho, _⟩; exact ⟨o, ho⟩
  · rintro i h h' ⟨o, ho, r⟩ q; exact ⟨o, q o ho, r⟩
  · rintro i s' Q' E' hi _ ⟨old, he'⟩ hs' N'' D
    have hl' : s'.heap.IsList l vs.toArray := ⟨_, (N'' _ hl).1, rfl, k, rfl⟩
    have hx : vs.toArray[i]? = some vs[i] := by simp [hi]
    refine wpAny_pyNext_enum_item he' hs' hl' hx (Nat.succ_ne_self _) fun h₁ ho hit₁ hT _ hk₁ => ?_
    exact D _ _ _ _ (hv i _ (by simp [hi])) ho hit₁ hT hk₁ (Nat.le_succ _)
  · exact fun i v t h tk oe oi h1 h2 h3 h4 h5 h6 => turn i v t h tk _ _ oe oi h1 h2 h3 h4 h5 h6

theorem find_text {Q : Flow → Shared → Prop} {xi xc : Str} {pk pv pt : Pos} {x1 : Nat} {body orelse : List Stmt} {Pv : Nat → Value → Prop} {b : Nat} {m₀ : Str → Option Value} {news : List (Addr × Obj)} {x : Str} {u : Tok} (J : Nat → Prop)
    (hh : A.handled = none) (hxi : env.kindOf xi = some .local) (hxc : env.kindOf xc = some .local) (hp : (env.scope.kind == .class || (env.scope.kind == .module && env.locals != env.globals)) = false)
    (hx : strIterType x = "str_ascii_iterator") (hv : ∀ (i c : Nat) (t : Nat), x.cps[i]? = some c → b ≤ t → Pv i (.str ⟨#[c]⟩ t))
    (hb : b ≤ s.toks) (F : Fr h₀ env.locals s.heap m₀) (N : News h₀ env.locals s.heap news) (h0 : J 0) (hend : ¬ J x.cps.size) (hE : PassesOwn (model prog w) A env E)
    (turn : ∀ i v t h tk e it oe oi, i < x.cps.size → Pv i v → J i → b ≤ tk → Fr h₀ env.locals h (fun y => if y = xc then some v else if y = xi then some (.int i t) else m₀ y) → News h₀ env.locals h (news ++ [(e, oe), (it, oi)]) →
      wpAny (model prog w) A (execs body env) (FiEnd h₀ env.locals s m₀ xi xc (news ++ [(e, oe), (it, oi)]) b (J (i + 1)) Q) E { s with heap := h, toks := tk }) :
    wpAny (model prog w) A (call (.type "enumerate") [.str x u]) (fun x s₁ => wpAny (model prog w) A (pyIter x) (fun it s₂ =>
      codeAny (model prog w) A (.forLoop (.Tuple [.Name xi pk, .Name xc pv] x1 pt) it body orelse env) (fun r s' => match r with | .ok f => Q f s' | .error e => cameBackBy (model prog w) A env E e s') s₂) E s₁) E s := by
  have iL : s.heap.objs.size ≠ env.locals := fun q => absurd F.ns.lt (q ▸ Nat.lt_irrefl _)
  have eL : s.heap.objs.size + 1 ≠ env.locals := fun q => absurd (q ▸ F.ns.lt) (Nat.not_lt.mpr (Nat.le_succ _))
  have off : ∀ p ∈ news, p.1 ≠ s.heap.objs.size + 1 ∧ p.1 ≠ s.heap.objs.size := fun p hp => by
    have : @LT.lt Nat _ p.1 s.heap.objs.size := Heap.lt_size (N p hp).1
    exact ⟨fun q => by rw [q] at this; exact absurd this (Nat.not_lt.mpr (Nat.le_succ _)), fun q => by rw [q] at this; exact absurd this (Nat.lt_irrefl _)⟩
  refine call_enumerate_str fun h' he hit hz hk => wpAny_pyIter_enum he ?_
  rw [hx] at hit
  have F' : Fr h₀ env.locals h' m₀ := ⟨F.ns.at' fun o => hk _ o, fun a o q => hk _ _ (F.keep a o q), F.above⟩
  have N' : News h₀ env.locals h' news := fun p hp => ⟨hk _ _ (N p hp).1, (N p hp).2⟩
  refine find_loop (s := { s with heap := h' }) (Sub := fun i h => h.IsStrIter s.heap.objs.size "str_ascii_iterator" x u i) (Pv := Pv) (n := x.cps.size) (b := b) (it := s.heap.objs.size) J hh hxi hxc hp (Nat.succ_ne_self _) eL iL (size_new F 1) (size_new F 0) off ?_ ?_ ?_ he hit hb F' N' h0 hend hE ?_
  · rintro i h ⟨o, ho, _⟩; exact ⟨o, ho⟩
  · rintro i h h' ⟨o, ho, r⟩ q; exact ⟨o, q o ho, r⟩
  · rintro i s' Q' E' hi hb' ⟨old, he'⟩ hs' N'' D
    have hx : x.cps[i]? = some x.cps[i] := by simp [hi]
    refine enum_str_next he' hs' hx (Nat.succ_ne_self _) fun h₁ ho hit₁ hT hk₁ => ?_
    exact D _ _ _ _ (hv i _ _ hx hb') ho hit₁ hT hk₁ (Nat.le_add_right _ 2)
  · exact fun i v t h tk oe oi h1 h2 h3 h4 h5 h6 => turn i v t h tk _ _ oe oi h1 h2 h3 h4 h5 h6
end
noncomputable def tokPairs : List (Str × Int) := [
  (Str.ofString "!", 54),
  (Str.ofString "!=", 28),
  (Str.ofString "%", 24),
  (Str.ofString "%=", 40),
  (Str.ofString "&", 19),
  (Str.ofString "&=", 41),
  (Str.ofString "(", 7),
  (Str.ofString ")", 8),
  (Str.ofString "*", 16),
  (Str.ofString "**", 35),
  (Str.ofString "**=", 46),
  (Str.ofString "*=", 38),
  (Str.ofString "+", 14),
  (Str.ofString "+=", 36),
  (Str.ofString ",", 12),
  (Str.ofString "-", 15),
  (Str.ofString "-=", 37),
  (Str.ofString "->", 51),
  (Str.ofString ".", 23),
  (Str.ofString "...", 52),
  (Str.ofString "/", 17),
  (Str.ofString "//", 47),
  (Str.ofString "//=", 48),
  (Str.ofString "/=", 39),
  (Str.ofString ":", 11),
  (Str.ofString ":=", 53),
  (Str.ofString ";", 13),
  (Str.ofString "<", 20),
  (Str.ofString "<<", 33),
  (Str.ofString "<<=", 44),
  (Str.ofString "<=", 29),
  (Str.ofString "=", 22),
  (Str.ofString "==", 27),
  (Str.ofString ">", 21),
  (Str.ofString ">=", 30),
  (Str.ofString ">>", 34),
  (Str.ofString ">>=", 45),
  (Str.ofString "@", 49),
  (Str.ofString "@=", 50),
  (Str.ofString "[", 9),
  (Str.ofString "]", 10),
  (Str.ofString "^", 32),
  (Str.ofString "^=", 43),
  (Str.ofString "{", 25),
  (Str.ofString "|", 18),
  (Str.ofString "|=", 42),
  (Str.ofString "}", 26),
  (Str.ofString "~", 31)]

/-- the entries of a dict of texts to ints, told by pairs. -/
inductive Told : List DictEntry → List (Str × Int) → Prop
  | nil : Told [] []
  | cons {h : Int} {k : Str} {t u : Tok} {i : Int} {es : List DictEntry} {ps : List (Str × Int)} (r : Told es ps) : Told (⟨h, .str k t, .int i u⟩ :: es) ((k, i) :: ps)

theorem told_find {es : List DictEntry} {ps : List (Str × Int)} (T : Told es ps) (x : Str) :
    match ps.lookup x with
    | none => findBy Value.isStrOf es.toArray x = none
    | some i => ∃ u, findBy Value.isStrOf es.toArray x = some (.int i u) := by
  induction T with
  | nil => rfl
  | @cons h k t u i es ps r ih =>
    have e : findBy Value.isStrOf (⟨h, .str k t, .int i u⟩ :: es).toArray x = if (x == k) = true then some (.int i u) else findBy Value.isStrOf es.toArray x := by
      unfold findBy
      rw [List.find?_toArray, List.find?_toArray, List.find?_cons]
      have e2 : Value.isStrOf x (DictEntry.key ⟨h, .str k t, .int i u⟩) = (x == k) := by
        rw [← isStr_of]
        show (k == x) = (x == k)
        exact BEq.comm
      rw [e2]
      cases (x == k) <;> rfl
    rw [List.lookup_cons, e]
    cases hx : (x == k) with
    | true => exact ⟨u, rfl⟩
    | false => exact ih

theorem tok_at (P : Params) : ∃ (es : List DictEntry) (n : Nat), (kHeap P).lookup 99 = some ⟨.type "dict", none, .dict es.toArray n, #[]⟩ ∧ KeysLit P es ∧ Told es tokPairs := by
  refine Exists.intro ?es (Exists.intro ?n (And.intro ?h (And.intro ?k ?t)))
  case h => exact rfl
  case k => repeat (first | exact trivial | exact And.intro ⟨_, _, rfl, rfl⟩ ?_ | refine And.intro ⟨_, _, rfl, rfl⟩ ?_)
  case t => (with_unfolding_all (repeat constructor))

noncomputable def tokVal (x : Str) : Option Int := tokPairs.lookup x
noncomputable def inTok (x : Str) : Bool := (tokVal x).isSome

section
variable {prog : Program} {w : World} {A : Around} {E : Value → Shared → Prop} {s : Shared} {h₀ : Heap} {L : Addr} {m : Str → Option Value} {x : Str} {t : Tok}
theorem tok_map (F : Fr h₀ L s.heap m) (X₀ : (kHeap w.params).In h₀) : ∃ f, s.heap.MapOf (strKind prog w) 99 f ∧ ∀ x, match tokVal x with
    | none => f x = none
    | some i => ∃ u, f x = some (.int i u) := by
  obtain ⟨es, n, hl, hk, T⟩ := tok_at w.params
  exact ⟨_, mapOf_K (prog := prog) (X₀.keeps F.keep) hl hk, fun x => told_find T x⟩
theorem in_tok {Q : Value → Shared → Prop} (F : Fr h₀ L s.heap m) (X₀ : (kHeap w.params).In h₀) (h : Q (.bool (inTok x)) { s with toks := s.toks + 1 }) :
    wpAny (model prog w) A (compareOp .In (.str x t) (.ref 99)) Q E s := by
  obtain ⟨f, hm, hf⟩ := tok_map (prog := prog) F X₀
  refine wpAny_in_of (strKind_is prog w x t) (by decide) hm ?_
  have := hf x
  unfold inTok at h
  cases e : tokVal x with
  | none => rw [e] at this h; dsimp only at this; rw [this]; exact h
  | some i => rw [e] at this h; obtain ⟨u, hu⟩ := this; rw [hu]; exact h
theorem notIn_tok {Q : Value → Shared → Prop} (F : Fr h₀ L s.heap m) (X₀ : (kHeap w.params).In h₀) (h : Q (.bool (!inTok x)) { s with toks := s.toks + 1 }) :
    wpAny (model prog w) A (compareOp .NotIn (.str x t) (.ref 99)) Q E s := by
  obtain ⟨f, hm, hf⟩ := tok_map (prog := prog) F X₀
  refine wpAny_notIn_of (strKind_is prog w x t) (by decide) hm ?_
  have := hf x
  unfold inTok at h
  cases e : tokVal x with
  | none => rw [e] at this h; dsimp only at this; rw [this]; exact h
  | some i => rw [e] at this h; obtain ⟨u, hu⟩ := this; rw [hu]; exact h
theorem item_tok {value slice : PySem.Expr} {i : Int} {Q : Value → Shared → Prop} (F : Fr h₀ L s.heap m) (X₀ : (kHeap w.params).In h₀) (hi : tokVal x = some i) (h : ∀ u, Q (.int i u) { s with toks := s.toks + 1 })
    (hs : subscripted slice false (.ref 99) (.str x t) = operate [.ref 99, .str x t] (getItem (.ref 99) (.str x t)) := by with_unfolding_all rfl) :
    wpAny (model prog w) A (subscriptTail value slice (.ref 99) (.str x t)) Q E s := by
  obtain ⟨f, hm, hf⟩ := tok_map (prog := prog) F X₀
  have := hf x
  rw [hi] at this
  obtain ⟨u, hu⟩ := this
  exact tail_any hm.typeIs slot_dict_getitem.lookup (wpAny_getItem_of (strKind_is prog w x t) hm hu (h u)) hs
theorem get_tok {Q : Value → Shared → Prop} (F : Fr h₀ L s.heap m) (X₀ : (kHeap w.params).In h₀) (h0 : tokVal x = none → Q .none { s with toks := s.toks + 1 }) (h1 : ∀ i u, tokVal x = some i → Q (.int i u) { s with toks := s.toks + 1 }) :
    wpAny (model prog w) A (call (.builtin "dict.get") [.ref 99, .str x t]) Q E s := by
  obtain ⟨f, hm, hf⟩ := tok_map (prog := prog) F X₀
  refine call_meetsIn PySem.F.slot_dict_get hm.typeIs PySem.F.entry_dict_get (PySem.F.args_dict_get_2 _ _) (meets_dict_get (strKind prog w) 99 (strKind_is prog w x t) (by decide)) ⟨f, hm, ?_⟩
  have := hf x
  show Q _ _
  cases e : tokVal x with
  | none => rw [e] at this; dsimp only at this; rw [this]; exact h0 e
  | some i => rw [e] at this; obtain ⟨u, hu⟩ := this; rw [hu]; exact h1 i u e
end
section
variable {prog : Program} {w : World} {A : Around} {E : Value → Shared → Prop} {s : Shared} {h₀ : Heap} {L : Addr} {m : Str → Option Value} {news : List (Addr × Obj)} {x : Str} {t : Tok} {value slice : PySem.Expr} {Q : Value → Shared → Prop}
theorem slice_tok {i j : Int} {ui uj : Tok} (hF : Fr h₀ L s.heap m) (hN : News h₀ L s.heap news)
    (h : ∀ h' t' k, Fr h₀ L h' m → News h₀ L h' news → (t' = t ∧ (Txt.slice x (some i) (some j)) = x ∨ t' = s.toks ∧ k = s.toks + 1) → s.toks ≤ k → (Txt.slice x (some i) (some j)).length ≤ x.length → Q (.str (Txt.slice x (some i) (some j)) t') { s with heap := h', toks := k })
    (hs : subscripted slice false (.str x t) (.ref s.heap.objs.size) = operate [.ref s.heap.objs.size, .str x t] (getItem (.str x t) (.ref s.heap.objs.size)) := by with_unfolding_all rfl)
    (ht : ∀ r, letTemporaryGo value (.str x t) r = pure () := by intro _; with_unfolding_all rfl) (hsz : x.length ≤ sizeLine := by size_fits) :
    wpAny (model prog w) A (subscriptTail value slice (.str x t) (.ref s.heap.objs.size)) Q E { s with heap := s.heap.push { cls := .type "slice", data := .fields #[.int i ui, .int j uj, .none] } } := by
  have hF' := hF.push { cls := .type "slice", data := .fields #[.int i ui, .int j uj, .none] }
  have hN' : News h₀ L (s.heap.push { cls := .type "slice", data := .fields #[.int i ui, .int j uj, .none] }) news := hN.grown fun b o e => Heap.get?_push_of_some _ e
  have hle := Txt.slice_le x (some i) (some j)
  refine tail_of_ItemOn ⟨"str", _, PySem.F.slot_str_getitem.lookup, typeIs_str _ _ _, wpAny_getItem_str_slice (l := some (i, ui)) (u := some (j, uj)) (st := none) ⟨_, Heap.get?_push_size _ rfl, rfl, rfl⟩ rfl ?_⟩ hs ht
  have h' := fun t' k => h _ t' k hF' hN'
  have e : Txt.slice x (some i) (some j) = if (((none : Option (Int × Tok)).map (·.1)).getD 1 == 1 && (slicePicked x (some (i, ui)) (some (j, uj)) none).length == x.length) = true then x else ⟨((slicePicked x (some (i, ui)) (some (j, uj)) none).filterMap (x.cps[·]?)).toArray⟩ := rfl
  unfold sliceMade
  by_cases hc : (((none : Option (Int × Tok)).map (·.1)).getD 1 == 1 && (slicePicked x (some (i, ui)) (some (j, uj)) none).length == x.length) = true
  · rw [if_pos hc] at e ⊢
    rw [e] at h'
    exact h' t s.toks (.inl ⟨rfl, rfl⟩) (Nat.le_refl _) (Nat.le_refl _)
  · rw [if_neg hc] at e ⊢
    rw [e] at h' hle
    exact ⟨Nat.le_trans hle hsz, h' s.toks (s.toks + 1) (.inr ⟨rfl, rfl⟩) (Nat.le_succ _) hle⟩
end
theorem slice_clamp (x : Str) {k j : Int} (hk : 0 ≤ k) (hj : (x.length : Int) ≤ j) : Txt.slice x (some k) (some j) = Txt.slice x (some k) (some (x.length : Int)) := by
  have e : Builtin.Str.strSliceIndices (some k) (some j) 1 x.length = Builtin.Str.strSliceIndices (some k) (some (x.length : Int)) 1 x.length := by
    unfold Builtin.Str.strSliceIndices
    have h2 : ¬ ((x.length : Int) < 0) := Int.not_lt.mpr (Int.natCast_nonneg _)
    have h1 : ¬ (j < 0) := Int.not_lt.mpr (Int.le_trans (Int.natCast_nonneg _) hj)
    have h3 : min j (x.length : Int) = min (x.length : Int) (x.length : Int) := (Int.min_eq_right hj).trans (Int.min_eq_right (Int.le_refl _)).symm
    simp only [h1, h2, if_false, h3, show ((1 : Int) > 0) = True from by simp, if_true]
  unfold Txt.slice
  rw [e]
theorem slice_nat (x : Str) {a b : Nat} (ha : a ≤ x.length) (hab : a ≤ b) : Txt.slice x (some (a : Int)) (some (b : Int)) = ⟨((x.cps.toList.drop a).take (b - a)).toArray⟩ := by
  by_cases h : b ≤ x.length
  · exact StrLaws.sliceText_nat x hab h
  · have hn := Nat.le_of_not_le h
    rw [slice_clamp x (Int.natCast_nonneg _) (Int.ofNat_le.mpr hn)]
    have := StrLaws.sliceText_nat x (a := a) (b := x.length) ha (Nat.le_refl _)
    show StrLaws.sliceText x (some (a : Int)) (some (x.length : Int)) = _
    rw [this]
    have hl : (x.cps.toList.drop a).length = x.length - a := by rw [List.length_drop]; rfl
    rw [List.take_of_length_le (Nat.le_of_eq hl), List.take_of_length_le (hl ▸ Nat.sub_le_sub_right hn a)]
theorem slice_list (x : Str) {k j : Int} (hk : 0 ≤ k) (hkl : k ≤ x.length) (hj : k ≤ j) : Txt.slice x (some k) (some j) = ⟨((x.cps.toList.drop k.toNat).take (j - k).toNat).toArray⟩ := by
  obtain ⟨a, rfl⟩ := Int.eq_ofNat_of_zero_le hk
  obtain ⟨b, rfl⟩ := Int.eq_ofNat_of_zero_le (Int.le_trans hk hj)
  rw [Int.toNat_natCast, Int.toNat_sub]
  exact slice_nat x (Int.ofNat_le.mp hkl) (Int.ofNat_le.mp hj)
theorem slice_len (x : Str) {k j : Int} (hk : 0 ≤ k) (hkl : k ≤ x.length) (hj : k ≤ j) : ((Txt.slice x (some k) (some j)).length : Int) ≤ j - k := by
  rw [slice_list x hk hkl hj]
  show (((x.cps.toList.drop k.toNat).take (j - k).toNat).toArray.size : Int) ≤ j - k
  rw [List.size_toArray, List.length_take]
  exact Int.le_trans (Int.ofNat_le.mpr (Nat.min_le_left _ _)) (Int.le_of_eq (Int.toNat_of_nonneg (Int.sub_nonneg.mpr hj)))
theorem use_claim {w : World} {mean : ExcName → Option Value} {mg mb : Str → Option Value} {f : Addr} {news : List (Addr × Obj)} {dN uN : Nat} {vs : List Value} {pre : Nat → Prop} {post : Nat → Value → List (Addr × Obj) → Nat → Prop}
    {dp un : Nat} {gd : Option (List Code)} {cn : Str} {cs : Scope} {a : Addr} {ccd : Value} {cl : List (Str × Addr)} {outer : List Env} {A₀ : Around} {base h₀ : Heap} {L : Addr} {m : Str → Option Value} {s : Shared} {Q E : Value → Shared → Prop}
    (B : Below A₀ base outer h₀) (F : Fr h₀ L s.heap m) (X : (kHeap w.params).In h₀) (N : News h₀ L s.heap news) (T : Top kView (looseW kView [Str.ofString "EXACT_TOKEN_TYPES"]) mean mg mb h₀) (hk : cs.kind = .function)
    (C : MClaim w mean mg mb f news dN uN vs pre post) (hdp : dp + dN < recursionLimit) (hun : un + uN < cLine) (hp : pre s.toks)
    (ret : ∀ (v : Value) (own : List (Addr × Obj)) (h' : Heap) (tk' : Nat), Fr h₀ L h' m → News h₀ L h' (own ++ news) → (∀ p ∈ news, ∀ q ∈ own, p.1 < q.1) → post s.toks v own tk' → Q v { s with heap := h', toks := tk' }) :
    wpAny (model PySem.Challenge.rw_xn0020_01.row.prog w) (ktrTop dp un gd cn cs L a ccd cl outer) (call (.ref f) vs) Q E s :=
  C dp un gd cn cs a ccd cl outer A₀ base h₀ L m s Q E B F X N T hk hdp hun hp ret
end Mine
namespace Mine
noncomputable def idx (z : Str) : List Str → Nat
  | [] => 0
  | y :: r => if y = z then 0 else idx z r + 1
theorem idx_at {z : Str} : ∀ {ws : List Str} {i : Nat}, (∀ k, k < i → ws[k]? ≠ some z) → ws[i]? = some z → idx z ws = i
  | [], i, _, h => by simp at h
  | y :: r, 0, _, h => by
    simp at h
    simp [idx, h]
  | y :: r, i + 1, h1, h2 => by
    have h0 : y ≠ z := fun e => h1 0 (Nat.succ_pos _) (by simp [e])
    unfold idx
    rw [if_neg h0, idx_at (ws := r) (i := i) (fun k hk => by
      have := h1 (k + 1) (Nat.succ_lt_succ hk)
      simpa using this) (by simpa using h2)]
theorem is_str {prog : Program} {w : World} {A : Around} {E : Value → Shared → Prop} {s : Shared} {y z : Str} {u v : Tok} {Q : Value → Shared → Prop}
    (h1 : u ≠ 0) (h2 : v ≠ 0) (h3 : u ≠ v) (hb : NoneBooked s.heap) (hq : ∀ b, (b = true → y = z) → Q (.bool b) s) : wpAny (model prog w) A (compareOp CmpOp.Is (.str y u) (.str z v)) Q E s := by
  show wpAny _ _ (isSame (.str y u) (.str z v) >>= fun b => pure (Value.bool b)) _ _ _
  have h0 : (u == 0 || v == 0) = false := by simp [h1, h2]
  by_cases e : y = z
  · refine wpAny_bind (wpAny_isSame_str h0 hb fun b => wpAny_pure (hq b fun _ => e))
  · refine wpAny_bind ?_
    rw [isSame_str_other y z u v h0 (by simpa using h3) (by simpa using e)]
    exact wpAny_pure (wpAny_pure (hq false fun h => nomatch h))

local macro_rules | `(tactic| walk_at "execs cons") => `(tactic| (k_here; (refine' cons_up ?_); intro tkp htkp; (try dsimp only at htkp)))
local macro_rules | `(tactic| walk_at "execs nil") => `(tactic| (k_here; refine wpAny_execs_nil ?_))
local macro_rules | `(tactic| walk_at "forall") => `(tactic| (k_here; (with_reducible show (_ ≤ Shared.toks _) → _); intro hge; dsimp only at hge ⊢))
local macro_rules | `(tactic| k_mem) => `(tactic| first | assumption | (refine' List.mem_append_right _ ?_; k_mem))

local macro_rules | `(tactic| walk_at "compareOp Is str str") => `(tactic| (k_here; (with_reducible show wpAny _ _ (compareOp CmpOp.Is (Value.str _ _) (Value.str _ _)) _ _ _); refine is_str (by assumption) (by assumption) (by assumption) ?bk ?_; (case bk => (with_reducible rename Fr _ _ _ _ => F'; with_reducible rename Frag.In _ _ => X'; exact NoneBooked.keeps F'.keep (notBooked X'))); intro _ _))
theorem idx_list_claim (w : World) (mean : ExcName → Option Value) (mg mb : Str → Option Value) (news : List (Addr × Obj)) (gl : Addr) (gvs : List Value) (gk : Nat) (h1 : (gl, listOf gvs.toArray gk) ∈ news) (ws : List Str) (hns : StrsAre gvs ws) (y : Str) (t1 : Nat) (ht : 1 ≤ t1)
   (htok : ∀ v ∈ gvs, ∃ (x : Str) (u : Nat), v = Value.str x u ∧ 1 ≤ u ∧ u < t1) (hlen : ws.length ≤ 100) (hy : y ∈ ws) :
   MClaim w mean mg mb 98 news 1 8 [Value.ref gl, Value.str y t1] (fun tk => True) (fun tk v own tk' => (∃ t, v = .int (idx y ws : Nat) t) ∧ own = []) := by
  dsimp only [MClaim]
  k_fill
  intros
  rename_i hret
  replace hret := Kont.mk hret
  refine wpAny_call ?_
  k_dflt cell_enter
  walk1
  refine wpAny_For ?_
  iterate 6 (first | walk1 | (dsimp only; walk1))
  rename Fr _ _ _ _ => F
  rename News _ _ _ _ => N
  rename Frag.In _ _ => XI
  refine find_list (Pv := fun i v => ∃ (z : Str) (t : Nat), ws[i]? = some z ∧ v = .str z t ∧ t ≠ 0 ∧ t ≠ t1) (b := 0) (fun i => ∀ k, k < i → ws[k]? ≠ some y) rfl (by with_unfolding_all rfl) (by with_unfolding_all rfl) (by with_unfolding_all rfl) (by assumption) ?hv (Nat.zero_le _) F N (fun k hk => absurd hk (Nat.not_lt_zero _)) ?hend (by passes_own) ?turn
  case hv =>
    intro i v hv
    obtain ⟨z, u, e, h1, h2⟩ := htok v (List.mem_of_getElem? hv)
    obtain ⟨z', t', e', hz⟩ := hns.item i v hv
    rw [e] at e'
    cases e'
    exact ⟨z, u, hz, e, tok_ne h1, tok_lt h2⟩
  case hend =>
    intro h
    obtain ⟨i, hi, e⟩ := List.mem_iff_getElem.mp hy
    exact h i (by have := hns.length; omega) (by rw [List.getElem?_eq_getElem hi, e])
  case turn =>
    rintro i v t h tk e it oe oi hi ⟨z, t, hz, rfl, ht0, ht1⟩ hJ _ F1 N1
    clear F N
    have hz1 : t1 ≠ 0 := tok_ne ht
    dsimp only
    k_steps
    all_goals dsimp only [FiEnd]
    · k_steps
      have e : idx y ws = i := idx_at hJ (by rw [hz]; exact congrArg some ((by assumption : _ = true → z = y) (by assumption)))
      refine' hret.out _ [] _ _ (by assumption) (by (with_reducible rename News _ _ _ (_ ++ _) => N9; with_unfolding_all exact fun p hp => N9 p (List.mem_append_left _ hp))) (fun _ _ _ hq => nomatch hq) ⟨⟨_, _⟩, rfl⟩
      rotate_left
      rw [e]
    · k_steps
      have e : idx y ws = i := idx_at hJ (by rw [hz]; exact congrArg some (eq_of_beq (by assumption)))
      refine' hret.out _ [] _ _ (by assumption) (by (with_reducible rename News _ _ _ (_ ++ _) => N9; with_unfolding_all exact fun p hp => N9 p (List.mem_append_left _ hp))) (fun _ _ _ hq => nomatch hq) ⟨⟨_, _⟩, rfl⟩
      rotate_left
      rw [e]
    · rename_i hne _
      refine ⟨h, _, _, rfl, F1, N1, fun z h1 h2 => by rw [if_neg h2, if_neg h1], Nat.zero_le _, fun k hk => ?_⟩
      rcases Nat.lt_or_ge k i with h | h
      · exact hJ _ h
      · have e := Nat.le_antisymm (Nat.le_of_lt_succ hk) h
        subst e
        rw [hz]
        intro e
        cases e
        simp at hne
/-- the signs of a text, each a text of its own. -/
noncomputable def signsOf (x : Str) : List Str := x.cps.toList.map fun c => (⟨#[c]⟩ : Str)
theorem idx_text_claim (w : World) (mean : ExcName → Option Value) (mg mb : Str → Option Value) (news : List (Addr × Obj)) (x : Str) (tx : Tok) (hx : strIterType x = "str_ascii_iterator") (hlen : x.length ≤ 100) (y : Str) (t1 : Nat) (ht : 1 ≤ t1) (hy : y ∈ signsOf x) :
   MClaim w mean mg mb 98 news 1 8 [Value.str x tx, Value.str y t1] (fun tk => t1 < tk) (fun tk v own tk' => (∃ t, v = .int (idx y (signsOf x) : Nat) t) ∧ own = []) := by
  dsimp only [MClaim]
  k_fill
  intros
  rename_i hret
  replace hret := Kont.mk hret
  refine wpAny_call ?_
  k_dflt cell_enter
  walk1
  refine wpAny_For ?_
  iterate 6 (first | walk1 | (dsimp only; walk1))
  rename Fr _ _ _ _ => F
  rename News _ _ _ _ => N
  rename Frag.In _ _ => XI
  refine find_text (Pv := fun i v => ∃ (z : Str) (t : Nat), (signsOf x)[i]? = some z ∧ v = .str z t ∧ t ≠ 0 ∧ t ≠ t1) (b := t1 + 1) (fun i => ∀ k, k < i → (signsOf x)[k]? ≠ some y) rfl (by with_unfolding_all rfl) (by with_unfolding_all rfl) (by with_unfolding_all rfl) hx ?hv ?hb F N (fun k hk => absurd hk (Nat.not_lt_zero _)) ?hend (by passes_own) ?turn
  case hv =>
    intro i c t hc ht
    refine ⟨⟨#[c]⟩, t, ?_, rfl, by omega, by omega⟩
    simp [signsOf, hc]
  case hb =>
    rename_i htk
    exact Nat.le_trans (by assumption : t1 < _) (htk ▸ Nat.le_add_right _ _)
  case hend =>
    intro h
    obtain ⟨i, hi, e⟩ := List.mem_iff_getElem.mp hy
    exact h i (by simpa [signsOf] using hi) (by rw [List.getElem?_eq_getElem hi, e])
  case turn =>
    rintro i v t h tk e it oe oi hi ⟨z, t, hz, rfl, ht0, ht1⟩ hJ hbt F1 N1
    clear F N
    have hz1 : t1 ≠ 0 := tok_ne ht
    dsimp only
    k_steps
    all_goals dsimp only [FiEnd]
    · k_steps
      have e : idx y (signsOf x) = i := idx_at hJ (by rw [hz]; exact congrArg some ((by assumption : _ = true → z = y) (by assumption)))
      refine' hret.out _ [] _ _ (by assumption) (by (with_reducible rename News _ _ _ (_ ++ _) => N9; with_unfolding_all exact fun p hp => N9 p (List.mem_append_left _ hp))) (fun _ _ _ hq => nomatch hq) ⟨⟨_, _⟩, rfl⟩
      rotate_left
      rw [e]
    · k_steps
      have e : idx y (signsOf x) = i := idx_at hJ (by rw [hz]; exact congrArg some (eq_of_beq (by assumption)))
      refine' hret.out _ [] _ _ (by assumption) (by (with_reducible rename News _ _ _ (_ ++ _) => N9; with_unfolding_all exact fun p hp => N9 p (List.mem_append_left _ hp))) (fun _ _ _ hq => nomatch hq) ⟨⟨_, _⟩, rfl⟩
      rotate_left
      rw [e]
    · rename_i hne _
      refine ⟨h, _, _, rfl, F1, N1, fun z h1 h2 => by rw [if_neg h2, if_neg h1], by omega, fun k hk => ?_⟩
      rcases Nat.lt_or_ge k i with h | h
      · exact hJ _ h
      · have e := Nat.le_antisymm (Nat.le_of_lt_succ hk) h
        subst e
        rw [hz]
        intro e
        cases e
        simp at hne
end Mine
namespace Mine
noncomputable def cutDown (x : Str) (k : Int) : Nat → Nat
  | 0 => 0
  | 1 => 1
  | s + 2 => if inTok (Txt.slice x (some k) (some (k + ((s + 2 : Nat) : Int)))) = true then s + 2 else cutDown x k (s + 1)
noncomputable def cutSize (x : Str) (k : Int) : Nat := if inTok (Txt.item x k) = true then cutDown x k 3 else 1
noncomputable def cutFrom (x : Str) : Nat → Int → List Str
  | 0, _ => []
  | f + 1, k => if k < x.length then Txt.slice x (some k) (some (k + (cutSize x k : Nat))) :: cutFrom x f (k + (cutSize x k : Nat)) else []
noncomputable def cut (x : Str) : List Str := cutFrom x x.length 0
theorem cutDown_pos (x : Str) (k : Int) : ∀ s, 1 ≤ s → 1 ≤ cutDown x k s ∧ cutDown x k s ≤ s
  | 1, _ => ⟨Nat.le_refl _, Nat.le_refl _⟩
  | s + 2, _ => by
    have ih := cutDown_pos x k (s + 1) (by omega)
    unfold cutDown
    split <;> omega
theorem cutSize_pos (x : Str) (k : Int) : 1 ≤ cutSize x k ∧ cutSize x k ≤ 3 := by
  unfold cutSize
  split
  · exact cutDown_pos x k 3 (by omega)
  · omega

theorem cutDown_stop {x : Str} {k sz : Int} (h1 : 1 ≤ sz) (h : sz ≤ 1 ∨ inTok (Txt.slice x (some k) (some (k + sz))) = true) : ((cutDown x k sz.toNat : Nat) : Int) = sz := by
  obtain ⟨s, rfl⟩ : ∃ s : Nat, sz = s := ⟨sz.toNat, by omega⟩
  rw [Int.toNat_natCast]
  match s, h1, h with
  | 1, _, _ => rfl
  | s + 2, _, h =>
    have h' : inTok (Txt.slice x (some k) (some (k + ((s + 2 : Nat) : Int)))) = true := by
      rcases h with h | h
      · omega
      · exact h
    unfold cutDown
    rw [if_pos h']
theorem cutDown_step {x : Str} {k sz : Int} (h1 : 1 < sz) (h : inTok (Txt.slice x (some k) (some (k + sz))) = false) : cutDown x k sz.toNat = cutDown x k (sz - 1).toNat := by
  obtain ⟨s, rfl⟩ : ∃ s : Nat, sz = ((s + 2 : Nat) : Int) := ⟨(sz - 2).toNat, by omega⟩
  have e : (((s + 2 : Nat) : Int) - 1).toNat = s + 1 := by omega
  rw [e, Int.toNat_natCast]
  show (if inTok (Txt.slice x (some k) (some (k + ((s + 2 : Nat) : Int)))) = true then s + 2 else cutDown x k (s + 1)) = _
  rw [h, if_neg Bool.false_ne_true]
theorem cutSize_yes {x : Str} {k : Int} (h : inTok (Txt.item x k) = true) : cutSize x k = cutDown x k 3 := by unfold cutSize; rw [if_pos h]
theorem cutSize_no {x : Str} {k : Int} (h : inTok (Txt.item x k) = false) : cutSize x k = cutDown x k 1 := by unfold cutSize; rw [h, if_neg Bool.false_ne_true]; rfl

structure CutS where
  vs : List Value
  ws : List Str
  n : Nat
  k : Int
  t : Tok
/-- tokens of a list's texts: made, and older than tk. -/
noncomputable def TokStr (vs : List Value) (tk : Nat) : Prop := ∀ v ∈ vs, ∃ (x : Str) (u : Nat), v = Value.str x u ∧ 1 ≤ u ∧ u < tk
@[reducible] noncomputable def cutLed (D : Addr) (news : List (Addr × Obj)) (c : CutS) : List (Addr × Obj) := (D, listOf c.vs.toArray c.n) :: news
@[reducible] noncomputable def cutPs (D : Addr) (c : CutS) : List (Str × Value) := [(Str.ofString "pieces", .ref D), (Str.ofString "place", .int c.k c.t)]
noncomputable def cutP (x : Str) (c : CutS) (tk : Nat) : Prop := StrsAre c.vs c.ws ∧ TokStr c.vs tk ∧ 0 ≤ c.k ∧ 1 ≤ tk ∧ (c.ws.length : Int) ≤ c.k ∧ c.k ≤ x.length + 3 ∧ ∃ f : Nat, c.ws ++ cutFrom x f c.k = cut x ∧ (x.length : Int) - c.k ≤ f


theorem strs_snoc {vs : List Value} {ws : List Str} {y : Str} {t : Tok} (h : StrsAre vs ws) : StrsAre (vs ++ [.str y t]) (ws ++ [y]) := StrsAre.append' h (.cons y t .nil)
theorem cut_next {x : Str} {t1 : Tok} {c : CutS} {t' t2 tk tk' a k' : Nat} {sz : Int} (h3 : 3 < x.length) (hP : cutP x c tk) (hlt : c.k < x.length) (hsz : sz = (cutSize x c.k : Nat))
    (htok : (t' = t1 ∧ Txt.slice x (some c.k) (some (c.k + sz)) = x) ∨ (t' = a ∧ k' = a + 1)) (ha : tk ≤ a) (ha' : k' ≤ tk') (hk' : tk ≤ tk') :
    cutP x ⟨c.vs ++ [.str (Txt.slice x (some c.k) (some (c.k + sz))) t'], c.ws ++ [Txt.slice x (some c.k) (some (c.k + sz))], c.n + 1, c.k + sz, t2⟩ tk' := by
  obtain ⟨hw, ht, h0, h1, hlen, hk3, f, hcut, hf⟩ := hP
  have hcs := cutSize_pos x c.k
  refine ⟨strs_snoc hw, ?_, ?_, ?_, ?_, ?_, ?_⟩
  · intro v hv
    rcases List.mem_append.mp hv with hv | hv
    · obtain ⟨y, u, rfl, hu1, hu2⟩ := ht v hv
      exact ⟨y, u, rfl, hu1, by omega⟩
    · refine ⟨_, _, List.mem_singleton.mp hv, ?_, ?_⟩
      all_goals
        rcases htok with ⟨_, e⟩ | ⟨rfl, e⟩
        · exfalso
          have hl := slice_len x h0 (by omega) (j := c.k + sz) (by omega)
          rw [e] at hl
          omega
        · omega
  · show 0 ≤ c.k + sz; omega
  · omega
  · show ((c.ws ++ [_]).length : Int) ≤ c.k + sz
    rw [List.length_append, List.length_singleton]; omega
  · show c.k + sz ≤ x.length + 3; omega
  · match f, hf, hcut with
    | 0, hf, _ => exfalso; omega
    | f + 1, hf, hcut =>
      refine ⟨f, ?_, ?_⟩
      · rw [← hcut]
        show c.ws ++ [_] ++ _ = c.ws ++ (if c.k < x.length then _ else _)
        rw [if_pos hlt, hsz, List.append_assoc]; rfl
      · show (x.length : Int) - (c.k + sz) ≤ f; omega
theorem cut_done {x : Str} {c : CutS} {tk : Nat} (hP : cutP x c tk) (hlt : ¬ c.k < x.length) : StrsAre c.vs (cut x) := by
  obtain ⟨hw, _, _, _, _, _, f, hcut, _⟩ := hP
  have e : cutFrom x f c.k = [] := by
    cases f with
    | zero => rfl
    | succ f => show (if _ then _ else _) = _; rw [if_neg hlt]
  rw [e, List.append_nil] at hcut
  exact hcut ▸ hw
local macro_rules | `(tactic| walk_at "execs cons") => `(tactic| (k_here; (try dsimp only); (first | (with_reducible show wpAny _ _ (execs _ _) (At _) _ _) | (refine open_K ?_; intro KO hKO)); refine cons_T ?_; intro tkp htkp KK hKK; (try dsimp only at htkp)))
local macro_rules | `(tactic| walk_at "execs nil") => `(tactic| (k_here; refine wpAny_execs_nil ?_))
local macro_rules | `(tactic| walk_at "forall") => `(tactic| (k_here; (with_reducible show (_ ≤ Shared.toks _) → _); intro hge; dsimp only at hge ⊢))
local macro_rules | `(tactic| walk_at "At") => `(tactic| ((try dsimp only); first | (refine NxT.next (by assumption) ?_; intro hge; dsimp only at hge ⊢) | (refine NxT.ret (by assumption) ?_; intro hge; dsimp only at hge ⊢) | (refine NxT.brk (by assumption) ?_; intro hge; dsimp only at hge ⊢) | (refine NxT.cont (by assumption) ?_; intro hge; dsimp only at hge ⊢) | refine OpK.out (by assumption) ?_))
local macro_rules | `(tactic| walk_at "compareOp In str ref") => `(tactic| (k_here; (with_reducible show wpAny _ _ (compareOp CmpOp.In (Value.str _ _) (Value.ref 99)) _ _ _); refine in_tok (by k_asm) (by k_asm) ?_))
local macro_rules | `(tactic| walk_at "compareOp NotIn str ref") => `(tactic| (k_here; (with_reducible show wpAny _ _ (compareOp CmpOp.NotIn (Value.str _ _) (Value.ref 99)) _ _ _); refine notIn_tok (by k_asm) (by k_asm) ?_))
local macro_rules | `(tactic| walk_at "subscriptTail Name Slice str ref") => `(tactic| (k_here; (with_reducible show wpAny _ _ (subscriptTail _ (Expr.Slice (some _) (some _) none _) _ _) _ _ _); (with_reducible rename Fr _ _ _ _ => F'); (with_reducible rename News _ _ _ _ => N'); (refine slice_tok (s := ⟨_, _, _, _, _⟩) F' N' ?_); intro _ _ _ _ _ htk9 hge9 _; dsimp only at htk9 hge9))
theorem cut_claim (w : World) (mean : ExcName → Option Value) (mg mb : Str → Option Value) (news : List (Addr × Obj)) (x : Str) (t1 : Tok) (hx : x.length ≤ 10000) (h3 : 3 < x.length) :
   MClaim w mean mg mb 185 news 1 8 [Value.str x t1] (fun tk => True) (fun tk v own tk' => ∃ a vs k, v = .ref a ∧ own = [(a, listOf vs.toArray k)] ∧ StrsAre vs (cut x) ∧ TokStr vs tk') := by
  dsimp only [MClaim]
  k_fill
  intros
  rename_i hret
  replace hret := Kont.mk hret
  refine wpAny_call ?_
  k_dflt cell_enter
  refine' cons_mark (n := 1) ⟨⟩ (Nat.le_trans (show 1 ≤ List.length _ from Nat.le_of_ble_eq_true (by with_unfolding_all rfl)) (Nat.le_add_left _ _)) ?_
  intro tk0 htk0
  iterate 12 (first | walk1 | (dsimp only; walk1))
  rename Fr _ _ _ (fun y => if y = Str.ofString "place" then _ else _) => F
  rename News _ _ _ (_ :: news) => N
  refine' while_st (cutLed _ news) (cutPs _) [Str.ofString "size"] (cutP x) (fun c => ((x.length : Int) - c.k).toNat) ⟨[], [], 0, 0, _⟩ F N ?hk ?hp ?turn
  case hk =>
    intro p hp
    rcases List.mem_cons.mp hp with rfl | hp
    · rfl
    rcases List.mem_cons.mp hp with rfl | hp
    · rfl
    cases hp
  case hp =>
    refine ⟨.nil, (fun v hv => nomatch hv), ?_, ?_, ?_, ?_, x.length, rfl, ?_⟩ <;> dsimp only [List.length_nil] <;> omega
  case turn =>
    rintro ⟨vs, ws, n, k, t⟩ u h tk hP F1 N1
    obtain ⟨hw, htok, h0, htk, hlen, hk3, f, hcut, hf⟩ := id hP
    clear F N
    dsimp only [cutLed, cutPs, kstB] at F1 N1 hw htok h0 hlen hk3 hcut hf
    iterate 12 (first | walk1 | (dsimp only; walk1))
    · iterate 12 (first | walk1 | (dsimp only; walk1))
      -- the sign at the place opens an operator
      · iterate 4 (first | walk1 | (dsimp only; walk1))
        rename Fr _ _ _ (fun y => if y = Str.ofString "size" then _ else _) => F
        rename News _ _ _ (_ :: news) => N
        refine' while_jn (fun _ => (_, listOf vs.toArray n) :: news) (fun c : Int × Tok => [(Str.ofString "size", .int c.1 c.2)]) [] (fun c tk' => tk ≤ tk' ∧ 1 ≤ c.1 ∧ c.1 ≤ 3 ∧ cutDown x k c.1.toNat = cutDown x k 3) (fun c tk' => tk ≤ tk' ∧ c.1 = (cutSize x k : Nat)) (fun c => c.1.toNat) (3, _) F N ?hk ?hp ?turn ?done
        case hk =>
          intro p hp
          rcases List.mem_cons.mp hp with rfl | hp
          · rfl
          cases hp
        case hp => refine ⟨?_, ?_, ?_, rfl⟩ <;> dsimp only <;> omega
        case turn =>
          rintro ⟨sz, ts⟩ u2 h2 tk2 ⟨htk2, hs1, hs3, hcd⟩ F2 N2
          clear F N
          dsimp only [kstB] at F2 N2 htk2 hs1 hs3 hcd
          k_steps
          · refine ⟨(sz, _), _, _, _, _, rfl, by assumption, by assumption, by kst_in, by kst_all, by ksw_same, ?_, ?_⟩
            · first | omega | (dsimp only; omega)
            · rw [cutSize_yes (by assumption), ← hcd]
              exact (cutDown_stop hs1 (by first | exact Or.inr (by assumption) | exact Or.inl (by omega))).symm
          · refine ⟨(sz - 1, _), _, _, _, _, rfl, by assumption, by assumption, by kst_in, by kst_all, by ksw_same, ⟨?_, ?_, ?_, ?_⟩, ?_⟩
            · omega
            · omega
            · omega
            · rw [← hcd]
              exact (cutDown_step (by omega) (by assumption)).symm
            · dsimp only; omega
          · refine ⟨(sz, _), _, _, _, _, rfl, by assumption, by assumption, by kst_in, by kst_all, by ksw_same, ?_, ?_⟩
            · first | omega | (dsimp only; omega)
            · rw [cutSize_yes (by assumption), ← hcd]
              exact (cutDown_stop hs1 (Or.inl (by omega))).symm
        case done =>
          rintro ⟨sz, ts⟩ u2 h2 tk2 ⟨htk2, hsz⟩ F2 N2
          clear F N
          dsimp only [kstB] at F2 N2 htk2 hsz
          k_steps
          rename News _ _ _ _ => N3
          simp only [List.push_toArray] at N3
          refine ⟨⟨_, _, _, _, _⟩, _, _, _, _, rfl, by assumption, N3, by kst_in, by kst_all, by ksw_same, cut_next h3 hP (by assumption) hsz (by assumption) (by omega) (by omega) (by omega), ?_⟩
          have hcs := cutSize_pos x k
          dsimp only
          omega
      · iterate 4 (first | walk1 | (dsimp only; walk1))
        rename Fr _ _ _ (fun y => if y = Str.ofString "size" then _ else _) => F
        rename News _ _ _ (_ :: news) => N
        refine' while_jn (fun _ => (_, listOf vs.toArray n) :: news) (fun c : Int × Tok => [(Str.ofString "size", .int c.1 c.2)]) [] (fun c tk' => tk ≤ tk' ∧ 1 ≤ c.1 ∧ c.1 ≤ 3 ∧ cutDown x k c.1.toNat = cutDown x k 1) (fun c tk' => tk ≤ tk' ∧ c.1 = (cutSize x k : Nat)) (fun c => c.1.toNat) (1, _) F N ?hk ?hp ?turn ?done
        case hk =>
          intro p hp
          rcases List.mem_cons.mp hp with rfl | hp
          · rfl
          cases hp
        case hp => refine ⟨?_, ?_, ?_, rfl⟩ <;> dsimp only <;> omega
        case turn =>
          rintro ⟨sz, ts⟩ u2 h2 tk2 ⟨htk2, hs1, hs3, hcd⟩ F2 N2
          clear F N
          dsimp only [kstB] at F2 N2 htk2 hs1 hs3 hcd
          k_steps
          · refine ⟨(sz, _), _, _, _, _, rfl, by assumption, by assumption, by kst_in, by kst_all, by ksw_same, ?_, ?_⟩
            · first | omega | (dsimp only; omega)
            · rw [cutSize_no (by assumption), ← hcd]
              exact (cutDown_stop hs1 (by first | exact Or.inr (by assumption) | exact Or.inl (by omega))).symm
          · refine ⟨(sz - 1, _), _, _, _, _, rfl, by assumption, by assumption, by kst_in, by kst_all, by ksw_same, ⟨?_, ?_, ?_, ?_⟩, ?_⟩
            · omega
            · omega
            · omega
            · rw [← hcd]
              exact (cutDown_step (by omega) (by assumption)).symm
            · dsimp only; omega
          · refine ⟨(sz, _), _, _, _, _, rfl, by assumption, by assumption, by kst_in, by kst_all, by ksw_same, ?_, ?_⟩
            · first | omega | (dsimp only; omega)
            · rw [cutSize_no (by assumption), ← hcd]
              exact (cutDown_stop hs1 (Or.inl (by omega))).symm
        case done =>
          rintro ⟨sz, ts⟩ u2 h2 tk2 ⟨htk2, hsz⟩ F2 N2
          clear F N
          dsimp only [kstB] at F2 N2 htk2 hsz
          k_steps
          rename News _ _ _ _ => N3
          simp only [List.push_toArray] at N3
          refine ⟨⟨_, _, _, _, _⟩, _, _, _, _, rfl, by assumption, N3, by kst_in, by kst_all, by ksw_same, cut_next h3 hP (by assumption) hsz (by assumption) (by omega) (by omega) (by omega), ?_⟩
          have hcs := cutSize_pos x k
          dsimp only
          omega
    · k_steps
      refine' hret.out (.ref _) [(_, W.listOf (List.toArray _) _)] _ _ (by assumption) (perm_cons (by assumption) ?n1 ?n2) (sep_one ?sep) ⟨_, _, _, rfl, rfl, cut_done hP (by assumption), ?ii⟩
      case ii => exact fun v hv => (htok v hv).imp fun y hy => hy.imp fun u hu => ⟨hu.1, hu.2.1, by omega⟩
      case n1 => (repeat (first | exact List.Mem.head _ | assumption | refine List.Mem.tail _ ?_))
      case n2 => intro p hp; (repeat (first | exact List.Mem.head _ | assumption | refine List.Mem.tail _ ?_))
      case sep => assumption
/-- the number of a piece. -/
noncomputable def numOf (p : Str) : Int := match tokVal p with
  | some i => i
  | none => 256 + (idx p (signsOf (Str.ofString "xy0123456789")) : Nat)
noncomputable def rowOf (ws : List Str) : List Int := ws.map numOf ++ [0]
structure RowS where
  vs : List Value
  n : Nat

section
variable {prog : Program} {w : World} {A : Around} {E : Value → Shared → Prop} {s : Shared} {h₀ : Heap} {L : Addr} {m : Str → Option Value} {x : Str} {t : Tok}
theorem in_yes {Q : Value → Shared → Prop} {i : Int} (hi : tokVal x = some i) (F : Fr h₀ L s.heap m) (X₀ : (kHeap w.params).In h₀) (h : Q (.bool true) { s with toks := s.toks + 1 }) : wpAny (model prog w) A (compareOp .In (.str x t) (.ref 99)) Q E s :=
  in_tok F X₀ (by have e : inTok x = true := by { unfold inTok; rw [hi]; rfl }
                  rw [e]; exact h)
theorem in_no {Q : Value → Shared → Prop} (hi : tokVal x = none) (F : Fr h₀ L s.heap m) (X₀ : (kHeap w.params).In h₀) (h : Q (.bool false) { s with toks := s.toks + 1 }) : wpAny (model prog w) A (compareOp .In (.str x t) (.ref 99)) Q E s :=
  in_tok F X₀ (by have e : inTok x = false := by { unfold inTok; rw [hi]; rfl }
                  rw [e]; exact h)
end
theorem row_off0 {D a : Addr} {lo o : Obj} {news : List (Addr × Obj)} (l1 : ∀ p ∈ news, p.1 < D) (sep : ∀ p ∈ (D, o) :: news, ∀ q ∈ [(a, lo)], p.1 < q.1) : ∀ p ∈ (a, lo) :: news, p.1 ≠ D := fun p hp => by
  rcases List.mem_cons.mp hp with rfl | hp
  · exact Nat.ne_of_gt (sep _ (List.Mem.head _) _ (List.Mem.head _))
  · exact Nat.ne_of_lt (l1 p hp)
theorem row_off {D a I : Addr} {lo o o' it : Obj} {news : List (Addr × Obj)} (l1 : ∀ p ∈ news, p.1 < D) (sep : ∀ p ∈ (D, o) :: news, ∀ q ∈ [(a, lo)], p.1 < q.1) (hI : ∀ p ∈ (a, lo) :: (D, o') :: news, p.1 ≠ I) : ∀ p ∈ (a, lo) :: (news ++ [(I, it)]), p.1 ≠ D := fun p hp => by
  rcases List.mem_cons.mp hp with rfl | hp
  · exact Nat.ne_of_gt (sep _ (List.Mem.head _) _ (List.Mem.head _))
  rcases List.mem_append.mp hp with hp | hp
  · exact Nat.ne_of_lt (l1 p hp)
  · rw [List.mem_singleton.mp hp]; exact (hI _ (List.Mem.tail _ (List.Mem.head _))).symm
local macro_rules | `(tactic| walk_at "call builtin:list.append") => `(tactic| (k_here; (with_reducible show wpAny _ _ (call (Value.builtin "list.append") [Value.ref _, _]) _ _ _); refine' append_K ?k1 ?k2 (Upd.head (by assumption)) ?_ ?z; (case k1 => k_asm); (case k2 => k_asm); (case z => size_fits); intro h' F' N'))
theorem mem_row {x y : Addr × Obj} {news r : List (Addr × Obj)} : ∀ p ∈ x :: y :: news, p ∈ y :: x :: (news ++ r) := fun p hp => by
  rcases List.mem_cons.mp hp with rfl | hp
  · exact .tail _ (.head _)
  rcases List.mem_cons.mp hp with rfl | hp
  · exact .head _
  · exact .tail _ (.tail _ (List.mem_append_left _ hp))
theorem row_hI {D a I : Addr} {lo o o' : Obj} {news : List (Addr × Obj)} (hI : ∀ p ∈ (a, lo) :: (D, o) :: news, p.1 ≠ I) : ∀ p ∈ (a, lo) :: (D, o') :: news, p.1 ≠ I := fun p hp => by
  rcases List.mem_cons.mp hp with rfl | hp
  · exact hI (a, lo) (.head _)
  rcases List.mem_cons.mp hp with rfl | hp
  · exact hI (D, o) (.tail _ (.head _))
  · exact hI p (.tail _ (.tail _ hp))
theorem row_take {ws : List Str} {i : Nat} {y : Str} (hy : ws[i]? = some y) : (ws.take (i + 1)).map numOf = (ws.take i).map numOf ++ [numOf y] := by
  rw [List.take_add_one, hy, List.map_append]; rfl
theorem intsSnoc {vs : List Value} {ns : List Int} {i : Int} {t : Tok} (h : IntsAre vs ns) : IntsAre (vs ++ [.int i t]) (ns ++ [i]) := by
  induction h with
  | nil => exact .cons _ _ .nil
  | cons n t _ ih => exact .cons n t ih
theorem row_ints {ws : List Str} {i : Nat} {y : Str} {vs : List Value} {v : Int} {t : Tok} (hy : ws[i]? = some y) (h : IntsAre vs ((ws.take i).map numOf)) (e : numOf y = v) : IntsAre (vs ++ [.int v t]) ((ws.take (i + 1)).map numOf) := by
  rw [row_take hy, e]; exact intsSnoc h
theorem news_swap {h₀ h : Heap} {L : Addr} {p q : Addr × Obj} {r : List (Addr × Obj)} (N : News h₀ L h (p :: q :: r)) : News h₀ L h (q :: p :: r) := News.perm N fun x hx => by
  rcases List.mem_cons.mp hx with rfl | hx
  · exact .tail _ (.head _)
  rcases List.mem_cons.mp hx with rfl | hx
  · exact .head _
  · exact .tail _ (.tail _ hx)
local macro_rules | `(tactic| walk_at "compareOp In str ref") => `(tactic| (k_here; (with_reducible show wpAny _ _ (compareOp CmpOp.In (Value.str _ _) (Value.ref 99)) _ _ _); first | refine in_yes (by assumption) (by k_asm) (by k_asm) ?_ | refine in_no (by assumption) (by k_asm) (by k_asm) ?_))
local macro_rules | `(tactic| walk_at "subscriptTail Name Name ref str") => `(tactic| (k_here; (with_reducible show wpAny _ _ (subscriptTail _ _ (Value.ref 99) (Value.str _ _)) _ _ _); refine item_tok (by k_asm) (by k_asm) (by assumption) ?_; intro _))
theorem row_claim (w : World) (mean : ExcName → Option Value) (mg mb : Str → Option Value) (news : List (Addr × Obj)) (x : Str) (t1 : Tok) (hx : x.length ≤ 10000) (h3 : 3 < x.length) (hlen : (cut x).length ≤ 10000) (hB : ∀ p ∈ cut x, tokVal p = none → p ∈ signsOf (Str.ofString "xy0123456789")) :
   MClaim w mean mg mb 199 news 2 16 [Value.str x t1] (fun tk => True) (fun tk v own tk' => ∃ a vs k, v = .ref a ∧ own = [(a, listOf vs.toArray k)] ∧ IntsAre vs (rowOf (cut x))) := by
  dsimp only [MClaim]
  k_fill
  intros
  rename_i hret
  replace hret := Kont.mk hret
  refine wpAny_call ?_
  k_dflt cell_enter
  iterate 8 walk1
  refine wpAny_For ?_
  iterate 7 walk1
  refine' use_claim (by k_asm) (by k_asm) (by k_asm) (by k_asm) (by k_asm) (by first | exact rfl | assumption) (claim_toks (cut_claim w mean mg mb _ x t1 hx h3)) (by ktr_room) (by ktr_units) trivial ?_
  rintro _ _ h1 tk1 F N sep1 ⟨htk1, a, vs, k, rfl, rfl, hvs, htv⟩
  dsimp only [List.cons_append, List.nil_append] at N ⊢
  refine list_st (lo := listOf vs.toArray k) (vs := vs) (l := a) (fun c : RowS => (a, listOf vs.toArray k) :: (_, listOf c.vs.toArray c.n) :: news) (fun _ => [(Str.ofString "row", .ref _)]) [Str.ofString "piece"] (fun i c tk => IntsAre c.vs (((cut x).take i).map numOf) ∧ tk1 ≤ tk) [] ⟨[], 0⟩ rfl F N ⟨rfl, _, rfl⟩ ?hmem ?hfix (List.forall_mem_singleton.mpr rfl) ?hp ?hmono (by passes_own) ?turn ?done
  case hmem => exact fun c => List.Mem.head _
  case hfix => exact fun d hd => nomatch hd
  case hp => exact ⟨.nil, Nat.le_refl _⟩
  case hmono => exact fun i c t t' h1 h2 => ⟨h2.1, Nat.le_trans h2.2 h1⟩
  case turn =>
    rintro i v ⟨vr, nr⟩ u h tk I it hv ⟨hr, htk⟩ hI _ F2 N2
    clear F N
    dsimp only [kstB, List.cons_append] at F2 N2 hr hI ⊢
    have hU := row_off (it := it) (by assumption) sep1 hI
    replace N2 := news_swap N2
    have hln : vr.length ≤ 10000 := by have := hr.length; simp at this; omega
    obtain ⟨y, ty, rfl, hy⟩ := hvs.item i v hv
    obtain ⟨_, ty', e, hty1, hty2⟩ := htv _ (List.mem_of_getElem? hv)
    cases e
    have hym := List.mem_of_getElem? hy
    cases hq : tokVal y with
    | some iv =>
      k_steps
      rename News _ _ _ _ => N9
      simp only [List.push_toArray] at N9
      refine ⟨rfl, ⟨_, _⟩, _, _, _, _, rfl, by assumption, N9, mem_row, .tail _ (.tail _ (List.mem_append_right _ (.head _))), row_hI hI, by kst_all, by ksw_same, ?_, ?_⟩
      · exact row_ints hy hr (by unfold numOf; rw [hq])
      · omega
    | none =>
      have hsg := hB y hym hq
      k_steps
      refine' use_claim (by k_asm) (by k_asm) (by k_asm) (by k_asm) (by k_asm) (by first | exact rfl | assumption) (claim_toks (idx_text_claim w mean mg mb _ (Str.ofString "xy0123456789") _ (by with_unfolding_all rfl) (by decide) y ty hty1 hsg)) (by ktr_room) (by ktr_units) ?hpre ?_
      case hpre => dsimp only; omega
      rintro _ _ h2 tk2 F3 N3 sep2 ⟨htk2, ⟨t2, rfl⟩, rfl⟩
      dsimp only [List.nil_append] at N3 ⊢
      k_steps
      rename News _ _ _ _ => N9
      simp only [List.push_toArray] at N9
      refine ⟨rfl, ⟨_, _⟩, _, _, _, _, rfl, by assumption, N9, mem_row, .tail _ (.tail _ (List.mem_append_right _ (.head _))), row_hI hI, by kst_all, by ksw_same, ?_, ?_⟩
      · exact row_ints hy hr (by unfold numOf; rw [hq])
      · omega
  case done =>
    rintro ⟨vr, nr⟩ u h tk ⟨hr, htk⟩ F2 N2
    clear F N
    dsimp only [kstB, List.cons_append] at F2 N2 hr ⊢
    rw [hvs.len_eq, List.take_length] at hr
    have hU := row_off0 (by assumption) sep1
    replace N2 := news_swap N2
    have hln : vr.length ≤ 10000 := by have := hr.length; simp at this; omega
    k_steps
    rename News _ _ _ (_ :: _) => N9
    simp only [List.push_toArray] at N9
    refine' hret.out (.ref _) [(_, W.listOf (List.toArray _) _)] _ _ (by assumption) (perm_cons N9 (.head _) ?n2) (sep_one (by assumption)) ⟨_, _, _, rfl, rfl, ?_⟩
    case n2 => exact fun p hp => .tail _ (.tail _ hp)
    · exact intsSnoc hr
/-- a page's pieces, read back. -/
inductive Bare : List Str → Str → Prop
  | nil : Bare [] Str.empty
  | one {p : Str} {ps : List Str} {t : Str} (h : tokVal p ≠ some 19) : Bare ps t → Bare (p :: ps) (p ++ t)
  | amp {ps : List Str} {t : Str} : Bare ps t → Bare (Str.ofString "&" :: Str.ofString "a" :: Str.ofString "m" :: Str.ofString "p" :: Str.ofString ";" :: ps) (Str.ofString "&" ++ t)
  | lt {ps : List Str} {t : Str} : Bare ps t → Bare (Str.ofString "&" :: Str.ofString "l" :: Str.ofString "t" :: Str.ofString ";" :: ps) (Str.ofString "<" ++ t)
  | gt {ps : List Str} {t : Str} : Bare ps t → Bare (Str.ofString "&" :: Str.ofString "g" :: Str.ofString "t" :: Str.ofString ";" :: ps) (Str.ofString ">" ++ t)

theorem pick_nat (items : Array Value) {a b : Nat} (ha : a ≤ items.size) (hab : a ≤ b) : slicePick items (some (a : Int)) (some (b : Int)) none = ((items.toList.drop a).take (b - a)).toArray := by
  by_cases h : b ≤ items.size
  · exact slicePick_run items a b h hab
  · have hn := Nat.le_of_not_le h
    have c : slicePick items (some (a : Int)) (some (b : Int)) none = slicePick items (some (a : Int)) (some (items.size : Int)) none := by
      have e : sliceBounds (some (a : Int)) (some (b : Int)) none items.size = sliceBounds (some (a : Int)) (some (items.size : Int)) none items.size := by
        unfold sliceBounds
        simp only [Option.getD_none]
        congr 2
        have : ¬ (b : Int) < 0 := Int.not_lt.mpr (Int.natCast_nonneg _)
        have h2 : ¬ ((items.size : Int) < 0) := Int.not_lt.mpr (Int.natCast_nonneg _)
        have h3 : min (b : Int) (items.size : Int) = min (items.size : Int) (items.size : Int) := (Int.min_eq_right (Int.ofNat_le.mpr hn)).trans (Int.min_eq_right (Int.le_refl _)).symm
        simp only [this, h2, if_false, show (1 : Int) > 0 from by decide, if_true, h3]
      unfold slicePick
      rw [e]
    rw [c, slicePick_run items a items.size (Nat.le_refl _) ha]
    have hl : (items.toList.drop a).length = items.size - a := by rw [List.length_drop]; rfl
    rw [List.take_of_length_le (Nat.le_of_eq hl), List.take_of_length_le (hl ▸ Nat.sub_le_sub_right hn a)]
theorem pick_at {vs l : List Value} {k x y : Int} (j n : Nat) (hk : 0 ≤ k) (hd : vs.drop k.toNat = l) (hj : j ≤ l.length) (hjn : j ≤ n) (hx : x = k + j) (hy : y = k + n) (h0 : l ≠ []) : slicePick vs.toArray (some x) (some y) none = ((l.drop j).take (n - j)).toArray := by
  obtain ⟨a, rfl⟩ := Int.eq_ofNat_of_zero_le hk
  subst hx hy
  rw [Int.toNat_natCast] at hd
  have hlen : l.length = vs.length - a := by rw [← hd, List.length_drop]
  have h1 : 0 < l.length := List.length_pos_iff.mpr h0
  have hal : a ≤ vs.length := Nat.le_of_lt (Nat.lt_of_sub_pos (hlen ▸ h1))
  have hjl : a + j ≤ vs.toArray.size := Nat.add_comm j a ▸ (Nat.le_sub_iff_add_le hal).mp (hlen ▸ hj)
  rw [← Int.natCast_add, ← Int.natCast_add, pick_nat vs.toArray hjl (Nat.add_le_add_left hjn a), ← hd, List.drop_drop, Nat.add_sub_add_left]
structure BareS where
  text : Str
  t : Tok
  k : Int
  kt : Tok
@[reducible] noncomputable def barePs (c : BareS) : List (Str × Value) := [(Str.ofString "text", .str c.text c.t), (Str.ofString "place", .int c.k c.kt)]
noncomputable def bareP (ws : List Str) (r : Str) (tk1 : Nat) (c : BareS) (tk : Nat) : Prop := 0 ≤ c.k ∧ c.k ≤ ws.length ∧ tk1 ≤ tk ∧ ∃ r', Bare (ws.drop c.k.toNat) r' ∧ c.text ++ r' = r

theorem bare_next {ws : List Str} {r text z t' : Str} {k j : Int} {tk1 tk' : Nat} {t1 t2 : Tok} {ps : List Str} (n : Nat) (h0 : 0 ≤ k) (hps : (ws.drop k.toNat).drop n = ps) (hn : n ≤ (ws.drop k.toNat).length) (h1 : 1 ≤ n) (hB : Bare ps t') (hr : text ++ (z ++ t') = r) (hj : j = k + n) (htk : tk1 ≤ tk') :
    bareP ws r tk1 ⟨text ++ z, t1, j, t2⟩ tk' := by
  rw [List.drop_drop] at hps
  rw [List.length_drop] at hn
  obtain ⟨a, rfl⟩ := Int.eq_ofNat_of_zero_le h0
  subst hj
  rw [Int.toNat_natCast] at hps hn
  have e : a + n = ((a : Int) + (n : Int)).toNat := (Int.toNat_natCast (a + n)).symm
  have hal : a ≤ ws.length := Nat.le_of_lt (Nat.lt_of_sub_pos (Nat.lt_of_lt_of_le h1 hn))
  rw [e] at hps
  refine ⟨?_, ?_, htk, t', ?_, ?_⟩
  · exact Int.natCast_nonneg (a + n)
  · exact Int.ofNat_le.mpr (Nat.add_comm n a ▸ (Nat.le_sub_iff_add_le hal).mp hn)
  · rw [hps]; exact hB
  · rw [← hr]; exact Str.append_assoc ..

theorem pieces_at {vs : List Value} {ws : List Str} (h : StrsAre vs ws) {k : Int} {p : Str} {ps : List Str} (e : ws.drop k.toNat = p :: ps) : ∃ u, vs[k.toNat]? = some (.str p u) ∧ (∃ vs', vs.drop k.toNat = .str p u :: vs' ∧ StrsAre vs' ps) := by
  have h' := StrsAre.drop' h k.toNat
  rw [e] at h'
  generalize hv : vs.drop k.toNat = l at h'
  cases h' with
  | cons _ u h'' =>
    refine ⟨u, ?_, _, rfl, h''⟩
    have : (vs.drop k.toNat)[0]? = vs[k.toNat + 0]? := List.getElem?_drop ..
    rw [hv] at this
    simpa using this.symm
section
variable {prog : Program} {w : World} {A : Around} {E : Value → Shared → Prop} {s : Shared} {h₀ : Heap} {L : Addr} {m : Str → Option Value} {x : Str} {t : Tok}
theorem get_amp {Q : Value → Shared → Prop} (htv : tokVal x = some 19) (F : Fr h₀ L s.heap m) (X₀ : (kHeap w.params).In h₀) (h1 : ∀ u, Q (.int 19 u) { s with toks := s.toks + 1 }) : wpAny (model prog w) A (call (.builtin "dict.get") [.ref 99, .str x t]) Q E s :=
  get_tok F X₀ (fun e => by rw [htv] at e; cases e) (fun i u e => by rw [htv] at e; cases e; exact h1 u)
theorem get_not {Q : Value → Shared → Prop} (htv : tokVal x ≠ some 19) (F : Fr h₀ L s.heap m) (X₀ : (kHeap w.params).In h₀) (h0 : Q .none { s with toks := s.toks + 1 }) (h1 : ∀ i u, i ≠ 19 → Q (.int i u) { s with toks := s.toks + 1 }) : wpAny (model prog w) A (call (.builtin "dict.get") [.ref 99, .str x t]) Q E s :=
  get_tok F X₀ (fun _ => h0) (fun i u e => h1 i u fun q => htv (q ▸ e))
end

local macro_rules | `(tactic| walk_at "call builtin:dict.get") => `(tactic| (k_here; (with_reducible show wpAny _ _ (call (Value.builtin "dict.get") [Value.ref 99, Value.str _ _]) _ _ _); first | (refine' get_amp (by assumption) (by k_asm) (by k_asm) ?_; intro _) | (refine' get_not (by assumption) (by k_asm) (by k_asm) ?_ ?_; rotate_left; intro _ _ _; rotate_left)))
local macro_rules | `(tactic| walk_at "subscriptTail Name Name ref int") => `(tactic| (k_here; (with_reducible show wpAny _ _ (subscriptTail _ _ (Value.ref _) (Value.int _ _)) _ _ _); refine' item_listL ?il ?i0 ?ifx (by assumption) ?_; (case il => with_unfolding_all exact ⟨_, (by assumption : News _ _ _ _) _ (List.Mem.head _) |>.1, rfl, _, rfl⟩); (case i0 => assumption); (case ifx => omega)))
theorem tok_sub {vs l sub : List Value} {n tk1 t : Nat} (htv : TokStr vs tk1) (hd : vs.drop n = l) (hs : ∀ v ∈ sub, v ∈ l) (hle : tk1 ≤ t) : ∀ v ∈ sub, ∃ (x : Str) (u : Nat), v = Value.str x u ∧ 1 ≤ u ∧ u < t := fun v hv => by
  obtain ⟨x, u, e, h1, h2⟩ := htv v (List.mem_of_mem_drop (hd ▸ hs v hv))
  exact ⟨x, u, e, h1, by omega⟩
theorem bare_claim (w : World) (mean : ExcName → Option Value) (mg mb : Str → Option Value) (news : List (Addr × Obj)) (x : Str) (t1 : Tok) (hx : x.length ≤ 10000) (h3 : 3 < x.length) (r : Str) (hr : r.length ≤ 10000) (hlen : (cut x).length ≤ 10000) (hB : Bare (cut x) r) :
   MClaim w mean mg mb 192 news 2 16 [Value.str x t1] (fun tk => True) (fun tk v own tk' => (∃ t, v = .str r t) ∧ own = []) := by
  dsimp only [MClaim]
  k_fill
  intros
  rename_i hret
  replace hret := Kont.mk hret
  refine wpAny_call ?_
  k_dflt cell_enter
  k_steps
  refine' use_claim (by k_asm) (by k_asm) (by k_asm) (by k_asm) (by k_asm) (by first | exact rfl | assumption) (claim_toks (cut_claim w mean mg mb _ x t1 hx h3)) (by ktr_room) (by ktr_units) trivial ?_
  rintro _ _ h1 tk1 F1 N1 sep1 ⟨htk1, a, vs, k, rfl, rfl, hvs, htv⟩
  dsimp only
  iterate 13 walk1
  rename Fr _ _ _ (fun y => if y = Str.ofString "place" then _ else _) => F
  rename News _ _ _ _ => N
  refine' while_st (fun _ => _) barePs [Str.ofString "size"] (bareP (cut x) r tk1) (fun c => (((cut x).length : Int) - c.k).toNat) ⟨Str.ofString "", _, 0, _⟩ F N ?hk ?hp ?turn
  case hk =>
    intro p hp
    rcases List.mem_cons.mp hp with rfl | hp
    · rfl
    rcases List.mem_cons.mp hp with rfl | hp
    · rfl
    cases hp
  case hp =>
    refine ⟨Int.le_refl _, Int.natCast_nonneg _, ?_, r, hB, ?_⟩
    · dsimp only; omega
    · exact Str.ext' (by simp [Str.cps_append]; rfl)
  case turn =>
    rintro ⟨text, tt, k, kt⟩ u h tk ⟨h0, hkl, htk, r', hb, hr'⟩ F2 N2
    clear F N
    dsimp only [barePs, kstB] at F2 N2 h0 hkl htk hb hr'
    have hfit := hvs.len_eq
    generalize hps : (cut x).drop k.toNat = ps at hb
    iterate 12 walk1
    · cases hb with
      | nil =>
        exfalso
        have := congrArg List.length hps
        simp at this
        omega
      | @one p ps t htv hb =>
        rename StrsAre _ (cut x) => hvs
        obtain ⟨u0, hi0, vs0, hd0, hs0⟩ := pieces_at hvs hps
        have hl := congrArg Str.length hr'
        simp only [Str.length_append] at hl
        have hsz1 : text.length ≤ 10000 := by omega
        have hsz2 : p.length ≤ 10000 := by omega
        k_steps
        · (refine ⟨⟨_, _, _, _⟩, _, _, _, _, rfl, by assumption, by assumption, by kst_in, by kst_all, by ksw_same, ?_, ?_⟩)
          · exact bare_next 1 h0 (by rw [hps]; rfl) (by rw [hps]; simp) (by decide) hb hr' (by omega) (by omega)
          · dsimp only; omega
        · exfalso; omega
        · (refine ⟨⟨_, _, _, _⟩, _, _, _, _, rfl, by assumption, by assumption, by kst_in, by kst_all, by ksw_same, ?_, ?_⟩)
          · exact bare_next 1 h0 (by rw [hps]; rfl) (by rw [hps]; simp) (by decide) hb hr' (by omega) (by omega)
          · dsimp only; omega
      | @amp ps t hb =>
        rename StrsAre _ (cut x) => hvs
        obtain ⟨u0, hi0, vs0, hd0, hs0⟩ := pieces_at hvs hps
        have hl := congrArg Str.length hr'
        simp only [Str.length_append] at hl
        have hsz1 : text.length ≤ 10000 := by omega
        have hamp : tokVal (Str.ofString "&") = some 19 := by with_unfolding_all rfl
        rcases hs0 with _ | ⟨_, u1, hs0⟩
        rcases hs0 with _ | ⟨_, u2, hs0⟩
        rcases hs0 with _ | ⟨_, u3, hs0⟩
        rcases hs0 with _ | ⟨_, u4, hs0⟩
        have hp5 := pick_at (x := k) (y := k + 5) 0 5 h0 hd0 (Nat.zero_le _) (by omega) (by simp) rfl (by simp)
        have hp3 := pick_at (x := k + 1) (y := k + ((4 : Nat) : Int)) 1 4 h0 hd0 (by simp) (by omega) rfl rfl (by simp)
        k_steps
        rename News _ _ _ _ => N3
        rw [hp5] at N3
        have hidx : idx (Str.ofString ";") ([Str.ofString "&", Str.ofString "a", Str.ofString "m", Str.ofString "p", Str.ofString ";"]) = 4 := by decide
        refine' use_claim (by k_asm) (by k_asm) (by k_asm) N3 (by k_asm) (by first | exact rfl | assumption) (claim_toks (idx_list_claim w mean mg mb _ _ _ _ (List.Mem.head _) ([Str.ofString "&", Str.ofString "a", Str.ofString "m", Str.ofString "p", Str.ofString ";"]) ?hws (Str.ofString ";") _ ?ht ?htok ?hle ?hmm)) (by ktr_room) (by ktr_units) trivial ?_
        case hws => repeat constructor
        case ht => omega
        case htok => exact tok_sub htv hd0 (fun v hv => List.mem_of_mem_take hv) (by omega)
        case hle => decide
        case hmm => decide
        rintro _ _ h2 tk2 F3 N4 sep2 ⟨htk2, ⟨t2, hv2⟩, rfl⟩
        rw [hidx] at hv2
        subst hv2
        dsimp only
        k_steps
        rename News _ _ _ _ => N5
        rw [hp3] at N5
        refine join_listW ⟨_, (N5 _ (List.Mem.head _)).1, rfl, _, rfl⟩ (ys := [Str.ofString "a", Str.ofString "m", Str.ofString "p"]) (by repeat constructor) (by decide) (by decide) ?_
        intro t5 k5
        have hj : Txt.join (Str.ofString "") [Str.ofString "a", Str.ofString "m", Str.ofString "p"] = Str.ofString "amp" := by decide
        rw [hj]
        k_steps
        (refine ⟨⟨_, _, _, _⟩, _, _, _, _, rfl, by assumption, by assumption, by kst_in, by kst_all, by ksw_same, ?_, ?_⟩)
        · exact bare_next 5 h0 (by rw [hps]; rfl) (by rw [hps]; simp) (by decide) hb hr' (by omega) (by omega)
        · dsimp only; omega
      | @lt ps t hb =>
        rename StrsAre _ (cut x) => hvs
        obtain ⟨u0, hi0, vs0, hd0, hs0⟩ := pieces_at hvs hps
        have hl := congrArg Str.length hr'
        simp only [Str.length_append] at hl
        have hsz1 : text.length ≤ 10000 := by omega
        have hamp : tokVal (Str.ofString "&") = some 19 := by with_unfolding_all rfl
        rcases hs0 with _ | ⟨_, u1, hs0⟩
        rcases hs0 with _ | ⟨_, u2, hs0⟩
        rcases hs0 with _ | ⟨_, u3, hs0⟩
        have hp5 := pick_at (x := k) (y := k + 5) 0 5 h0 hd0 (Nat.zero_le _) (by omega) (by simp) rfl (by simp)
        have hp3 := pick_at (x := k + 1) (y := k + ((3 : Nat) : Int)) 1 3 h0 hd0 (by simp) (by omega) rfl rfl (by simp)
        k_steps
        rename News _ _ _ _ => N3
        rw [hp5] at N3
        have hidx : idx (Str.ofString ";") (Str.ofString "&" :: Str.ofString "l" :: Str.ofString "t" :: Str.ofString ";" :: ps.take 1) = 3 := by simp [idx]; decide
        refine' use_claim (by k_asm) (by k_asm) (by k_asm) N3 (by k_asm) (by first | exact rfl | assumption) (claim_toks (idx_list_claim w mean mg mb _ _ _ _ (List.Mem.head _) (Str.ofString "&" :: Str.ofString "l" :: Str.ofString "t" :: Str.ofString ";" :: ps.take 1) ?hws (Str.ofString ";") _ ?ht ?htok ?hle ?hmm)) (by ktr_room) (by ktr_units) trivial ?_
        case hws => exact .cons _ _ (.cons _ _ (.cons _ _ (.cons _ _ (StrsAre.take' hs0 1))))
        case ht => omega
        case htok => exact tok_sub htv hd0 (fun v hv => List.mem_of_mem_take hv) (by omega)
        case hle => simp; omega
        case hmm => simp
        rintro _ _ h2 tk2 F3 N4 sep2 ⟨htk2, ⟨t2, hv2⟩, rfl⟩
        rw [hidx] at hv2
        subst hv2
        dsimp only
        k_steps
        rename News _ _ _ _ => N5
        rw [hp3] at N5
        refine join_listW ⟨_, (N5 _ (List.Mem.head _)).1, rfl, _, rfl⟩ (ys := [Str.ofString "l", Str.ofString "t"]) (by repeat constructor) (by decide) (by decide) ?_
        intro t5 k5
        have hj : Txt.join (Str.ofString "") [Str.ofString "l", Str.ofString "t"] = Str.ofString "lt" := by decide
        rw [hj]
        k_steps
        (refine ⟨⟨_, _, _, _⟩, _, _, _, _, rfl, by assumption, by assumption, by kst_in, by kst_all, by ksw_same, ?_, ?_⟩)
        · exact bare_next 4 h0 (by rw [hps]; rfl) (by rw [hps]; simp) (by decide) hb hr' (by omega) (by omega)
        · dsimp only; omega
      | @gt ps t hb =>
        rename StrsAre _ (cut x) => hvs
        obtain ⟨u0, hi0, vs0, hd0, hs0⟩ := pieces_at hvs hps
        have hl := congrArg Str.length hr'
        simp only [Str.length_append] at hl
        have hsz1 : text.length ≤ 10000 := by omega
        have hamp : tokVal (Str.ofString "&") = some 19 := by with_unfolding_all rfl
        rcases hs0 with _ | ⟨_, u1, hs0⟩
        rcases hs0 with _ | ⟨_, u2, hs0⟩
        rcases hs0 with _ | ⟨_, u3, hs0⟩
        have hp5 := pick_at (x := k) (y := k + 5) 0 5 h0 hd0 (Nat.zero_le _) (by omega) (by simp) rfl (by simp)
        have hp3 := pick_at (x := k + 1) (y := k + ((3 : Nat) : Int)) 1 3 h0 hd0 (by simp) (by omega) rfl rfl (by simp)
        k_steps
        rename News _ _ _ _ => N3
        rw [hp5] at N3
        have hidx : idx (Str.ofString ";") (Str.ofString "&" :: Str.ofString "g" :: Str.ofString "t" :: Str.ofString ";" :: ps.take 1) = 3 := by simp [idx]; decide
        refine' use_claim (by k_asm) (by k_asm) (by k_asm) N3 (by k_asm) (by first | exact rfl | assumption) (claim_toks (idx_list_claim w mean mg mb _ _ _ _ (List.Mem.head _) (Str.ofString "&" :: Str.ofString "g" :: Str.ofString "t" :: Str.ofString ";" :: ps.take 1) ?hws (Str.ofString ";") _ ?ht ?htok ?hle ?hmm)) (by ktr_room) (by ktr_units) trivial ?_
        case hws => exact .cons _ _ (.cons _ _ (.cons _ _ (.cons _ _ (StrsAre.take' hs0 1))))
        case ht => omega
        case htok => exact tok_sub htv hd0 (fun v hv => List.mem_of_mem_take hv) (by omega)
        case hle => simp; omega
        case hmm => simp
        rintro _ _ h2 tk2 F3 N4 sep2 ⟨htk2, ⟨t2, hv2⟩, rfl⟩
        rw [hidx] at hv2
        subst hv2
        dsimp only
        k_steps
        rename News _ _ _ _ => N5
        rw [hp3] at N5
        refine join_listW ⟨_, (N5 _ (List.Mem.head _)).1, rfl, _, rfl⟩ (ys := [Str.ofString "g", Str.ofString "t"]) (by repeat constructor) (by decide) (by decide) ?_
        intro t5 k5
        have hj : Txt.join (Str.ofString "") [Str.ofString "g", Str.ofString "t"] = Str.ofString "gt" := by decide
        rw [hj]
        k_steps
        (refine ⟨⟨_, _, _, _⟩, _, _, _, _, rfl, by assumption, by assumption, by kst_in, by kst_all, by ksw_same, ?_, ?_⟩)
        · exact bare_next 4 h0 (by rw [hps]; rfl) (by rw [hps]; simp) (by decide) hb hr' (by omega) (by omega)
        · dsimp only; omega
    · have he : (cut x).drop k.toNat = [] := List.drop_eq_nil_of_le (by omega)
      rw [hps] at he
      subst he
      cases hb with
      | nil =>
        have hte : text = r := by rw [← hr']; exact (Str.ext' (by simp [Str.cps_append, Str.empty])).symm
        subst hte
        k_steps
        refine' hret.out _ [] _ _ (by assumption) (fun p hp => (by assumption : News _ _ _ (_ :: _ :: _)) p (List.mem_append_right [_] (List.mem_append_right [_] hp))) (fun _ _ _ hq => nomatch hq) ⟨⟨_, rfl⟩, rfl⟩
end Mine
namespace Mine
theorem mul_claim (w : World) (mean : ExcName → Option Value) (mg mb : Str → Option Value) (news : List (Addr × Obj)) (a b : Int) (ta tb : Tok) (ha : a.natAbs ≤ 1000000) (hb : b.natAbs ≤ 1000000) :
   MClaim w mean mg mb 77 news 1 8 [Value.int a ta, Value.int b tb] (fun tk => True) (fun tk v own tk' => (∃ t, v = .int (a * b) t) ∧ own = []) := by
  dsimp only [MClaim]
  k_fill
  intros
  rename_i hret
  replace hret := Kont.mk hret
  refine wpAny_call ?_
  k_dflt cell_enter
  k_steps
  all_goals exact hret.out _ [] _ _ (by assumption) (by assumption) (fun _ _ _ hq => nomatch hq) ⟨⟨_, rfl⟩, rfl⟩
theorem add_claim (w : World) (mean : ExcName → Option Value) (mg mb : Str → Option Value) (news : List (Addr × Obj)) (a b : Int) (ta tb : Tok) :
   MClaim w mean mg mb 56 news 1 8 [Value.int a ta, Value.int b tb] (fun tk => True) (fun tk v own tk' => (∃ t, v = .int (a + b) t) ∧ own = []) := by
  dsimp only [MClaim]
  k_fill
  intros
  rename_i hret
  replace hret := Kont.mk hret
  refine wpAny_call ?_
  k_dflt cell_enter
  k_steps
  all_goals exact hret.out _ [] _ _ (by assumption) (by assumption) (fun _ _ _ hq => nomatch hq) ⟨⟨_, rfl⟩, rfl⟩
theorem sub_claim (w : World) (mean : ExcName → Option Value) (mg mb : Str → Option Value) (news : List (Addr × Obj)) (a b : Int) (ta tb : Tok) :
   MClaim w mean mg mb 84 news 1 8 [Value.int a ta, Value.int b tb] (fun tk => True) (fun tk v own tk' => (∃ t, v = .int (a - b) t) ∧ own = []) := by
  dsimp only [MClaim]
  k_fill
  intros
  rename_i hret
  replace hret := Kont.mk hret
  refine wpAny_call ?_
  k_dflt cell_enter
  k_steps
  all_goals exact hret.out _ [] _ _ (by assumption) (by assumption) (fun _ _ _ hq => nomatch hq) ⟨⟨_, rfl⟩, rfl⟩
theorem lt_claim (w : World) (mean : ExcName → Option Value) (mg mb : Str → Option Value) (news : List (Addr × Obj)) (a b : Int) (ta tb : Tok) :
   MClaim w mean mg mb 21 news 1 8 [Value.int a ta, Value.int b tb] (fun tk => True) (fun tk v own tk' => v = .bool (decide (a < b)) ∧ own = []) := by
  dsimp only [MClaim]
  k_fill
  intros
  rename_i hret
  replace hret := Kont.mk hret
  refine wpAny_call ?_
  k_dflt cell_enter
  k_steps
  all_goals exact hret.out _ [] _ _ (by assumption) (by assumption) (fun _ _ _ hq => nomatch hq) ⟨rfl, rfl⟩
theorem le_claim (w : World) (mean : ExcName → Option Value) (mg mb : Str → Option Value) (news : List (Addr × Obj)) (a b : Int) (ta tb : Tok) :
   MClaim w mean mg mb 28 news 1 8 [Value.int a ta, Value.int b tb] (fun tk => True) (fun tk v own tk' => v = .bool (decide (a ≤ b)) ∧ own = []) := by
  dsimp only [MClaim]
  k_fill
  intros
  rename_i hret
  replace hret := Kont.mk hret
  refine wpAny_call ?_
  k_dflt cell_enter
  k_steps
  all_goals exact hret.out _ [] _ _ (by assumption) (by assumption) (fun _ _ _ hq => nomatch hq) ⟨rfl, rfl⟩
theorem gt_claim (w : World) (mean : ExcName → Option Value) (mg mb : Str → Option Value) (news : List (Addr × Obj)) (a b : Int) (ta tb : Tok) :
   MClaim w mean mg mb 49 news 1 8 [Value.int a ta, Value.int b tb] (fun tk => True) (fun tk v own tk' => v = .bool (decide (b < a)) ∧ own = []) := by
  dsimp only [MClaim]
  k_fill
  intros
  rename_i hret
  replace hret := Kont.mk hret
  refine wpAny_call ?_
  k_dflt cell_enter
  k_steps
  all_goals exact hret.out _ [] _ _ (by assumption) (by assumption) (fun _ _ _ hq => nomatch hq) ⟨rfl, rfl⟩
theorem ge_claim (w : World) (mean : ExcName → Option Value) (mg mb : Str → Option Value) (news : List (Addr × Obj)) (a b : Int) (ta tb : Tok) :
   MClaim w mean mg mb 42 news 1 8 [Value.int a ta, Value.int b tb] (fun tk => True) (fun tk v own tk' => v = .bool (decide (b ≤ a)) ∧ own = []) := by
  dsimp only [MClaim]
  k_fill
  intros
  rename_i hret
  replace hret := Kont.mk hret
  refine wpAny_call ?_
  k_dflt cell_enter
  k_steps
  all_goals exact hret.out _ [] _ _ (by assumption) (by assumption) (fun _ _ _ hq => nomatch hq) ⟨rfl, rfl⟩
theorem eq_claim (w : World) (mean : ExcName → Option Value) (mg mb : Str → Option Value) (news : List (Addr × Obj)) (a b : Int) (ta tb : Tok) :
   MClaim w mean mg mb 35 news 1 8 [Value.int a ta, Value.int b tb] (fun tk => True) (fun tk v own tk' => v = .bool (a == b) ∧ own = []) := by
  dsimp only [MClaim]
  k_fill
  intros
  rename_i hret
  replace hret := Kont.mk hret
  refine wpAny_call ?_
  k_dflt cell_enter
  k_steps
  all_goals exact hret.out _ [] _ _ (by assumption) (by assumption) (fun _ _ _ hq => nomatch hq) ⟨rfl, rfl⟩
theorem inv_claim (w : World) (mean : ExcName → Option Value) (mg mb : Str → Option Value) (news : List (Addr × Obj)) (a : Int) (ta : Tok) :
   MClaim w mean mg mb 70 news 1 8 [Value.int a ta] (fun tk => True) (fun tk v own tk' => (∃ t, v = .int (-a - 1) t) ∧ own = []) := by
  dsimp only [MClaim]
  k_fill
  intros
  rename_i hret
  replace hret := Kont.mk hret
  refine wpAny_call ?_
  k_dflt cell_enter
  k_steps
  all_goals exact hret.out _ [] _ _ (by assumption) (by assumption) (fun _ _ _ hq => nomatch hq) ⟨⟨_, rfl⟩, rfl⟩
theorem nont_claim (w : World) (mean : ExcName → Option Value) (mg mb : Str → Option Value) (news : List (Addr × Obj)) (a : Int) (ta : Tok) :
   MClaim w mean mg mb 108 news 1 8 [Value.int a ta] (fun tk => True) (fun tk v own tk' => v = .bool (decide (256 ≤ a)) ∧ own = []) := by
  dsimp only [MClaim]
  k_fill
  intros
  rename_i hret
  replace hret := Kont.mk hret
  refine wpAny_call ?_
  k_dflt cell_enter
  k_steps
  all_goals exact hret.out _ [] _ _ (by assumption) (by assumption) (fun _ _ _ hq => nomatch hq) ⟨rfl, rfl⟩
theorem eof_claim (w : World) (mean : ExcName → Option Value) (mg mb : Str → Option Value) (news : List (Addr × Obj)) (a : Int) (ta : Tok) :
   MClaim w mean mg mb 115 news 1 8 [Value.int a ta] (fun tk => True) (fun tk v own tk' => v = .bool (a == 0) ∧ own = []) := by
  dsimp only [MClaim]
  k_fill
  intros
  rename_i hret
  replace hret := Kont.mk hret
  refine wpAny_call ?_
  k_dflt cell_enter
  k_steps
  all_goals exact hret.out _ [] _ _ (by assumption) (by assumption) (fun _ _ _ hq => nomatch hq) ⟨rfl, rfl⟩
end Mine
namespace Mine
noncomputable def escStep (c z x : Str) : Str := if Txt.contains x c = true then Txt.replace x c z else x

structure EscC (b : Bool) (h₀ : Heap) (L : Addr) (m : Str → Option Value) (news : List (Addr × Obj)) (s : Shared) (k : Bool) (s' : Shared) : Prop where
  out : k = b
  here : ∃ (h : Heap) (tk : Nat), s' = { s with heap := h, toks := tk } ∧ Fr h₀ L h m ∧ News h₀ L h news
structure EscV (y : Str) (h₀ : Heap) (L : Addr) (m : Str → Option Value) (news : List (Addr × Obj)) (s : Shared) (f : Flow) (s' : Shared) : Prop where
  out : f = .next
  here : ∃ (t : Tok) (h : Heap) (tk : Nat), s' = { s with heap := h, toks := tk } ∧ Fr h₀ L h (fun z => if z = Str.ofString "text" then some (.str y t) else m z) ∧ News h₀ L h news

theorem esc_if {M : Model} {A : Around} {E : Value → Shared → Prop} {s : Shared} {env : Env} {h₀ : Heap} {L : Addr} {m : Str → Option Value} {news : List (Addr × Obj)} {Q : Flow → Shared → Prop}
    {x c z : Str} {t : Tok} {p0 p1 p2 p3 p4 p5 p6 p7 p8 p9 : Pos} (F : Fr h₀ L s.heap m) (N : News h₀ L s.heap news) (hold : m (Str.ofString "text") = some (.str x t)) (hpos : 1 ≤ s.toks)
    (hc : wpAny M A (isTrue (.Compare (.Constant (.str c) 0 p0) [.In] [.Name (Str.ofString "text") p1] p2) env (eval (.Compare (.Constant (.str c) 0 p0) [.In] [.Name (Str.ofString "text") p1] p2) env)) (fun k s₂ => EscC (Txt.contains x c) h₀ L m news s k s₂) E s)
    (hv : ∀ h tk, 1 ≤ tk → Fr h₀ L h m → News h₀ L h news → wpAny M A (exec (.Assign [.Name (Str.ofString "text") p3] (.Call (.Attribute (.Name (Str.ofString "text") p4) (Str.ofString "replace") p5) [.Constant (.str c) 0 p6, .Constant (.str z) 0 p7] [] p8) p9) env)
      (fun f s₃ => EscV (Txt.replace x c z) h₀ L m news s f s₃) E { s with heap := h, toks := tk })
    (hk : ∀ h t' tk, 1 ≤ tk → Fr h₀ L h (fun y => if y = Str.ofString "text" then some (.str (escStep c z x) t') else m y) → News h₀ L h news → Q .next { s with heap := h, toks := tk }) {p10 : Pos} :
    wpAny M A (exec (.If (.Compare (.Constant (.str c) 0 p0) [.In] [.Name (Str.ofString "text") p1] p2) [.Assign [.Name (Str.ofString "text") p3] (.Call (.Attribute (.Name (Str.ofString "text") p4) (Str.ofString "replace") p5) [.Constant (.str c) 0 p6, .Constant (.str z) 0 p7] [] p8) p9] [] p10) env) Q E s := by
  refine wpAny_If (wpAny_mono (wpAny_toks_of hpos hc) (fun k s₂ hkc => ?_) fun _ _ h => h.2)
  obtain ⟨hp₂, ⟨rfl, h, tk, rfl, F₂, N₂⟩⟩ := hkc
  cases hcc : Txt.contains x c with
  | true =>
    show wpAny M A (execs _ env) Q E _
    refine wpAny_execs_cons (wpAny_mono (wpAny_toks_of hp₂ (hv h tk hp₂ F₂ N₂)) (fun f s₃ hf => ?_) fun _ _ h => h.2)
    obtain ⟨hp₃, ⟨rfl, t', h', tk', rfl, F₃, N₃⟩⟩ := hf
    refine wpAny_execs_nil (hk h' t' tk' hp₃ ?_ N₃)
    unfold escStep
    rw [if_pos hcc]
    exact F₃
  | false =>
    show wpAny M A (execs [] env) Q E _
    refine wpAny_execs_nil (hk h t tk hp₂ ?_ N₂)
    unfold escStep
    rw [hcc, if_neg Bool.false_ne_true]
    have e : (fun y => if y = Str.ofString "text" then some (Value.str x t) else m y) = m := by
      funext y
      by_cases hy : y = Str.ofString "text"
      · rw [if_pos hy, hy, hold]
      · rw [if_neg hy]
    rw [e]
    exact F₂

noncomputable def rep (c : Nat) (z : List Nat) (l : List Nat) : List Nat := l.flatMap fun d => if d = c then z else [d]
theorem rep_append (c : Nat) (z a b : List Nat) : rep c z (a ++ b) = rep c z a ++ rep c z b := by simp [rep]
theorem rep_free (c : Nat) (z : List Nat) : ∀ l : List Nat, c ∉ l → rep c z l = l
  | [], _ => rfl
  | k :: r, h => by
    have h1 : ¬ k = c := fun e => h (e ▸ List.mem_cons_self ..)
    have h2 := rep_free c z r fun m => h (List.mem_cons_of_mem _ m)
    show (if k = c then z else [k]) ++ rep c z r = k :: r
    rw [if_neg h1, h2]; rfl
theorem rep_one (c : Nat) (z : List Nat) : rep c z [c] = z := by simp [rep]
theorem rep_join (c : Nat) (z : Str) : ∀ parts : List Str, (∀ p ∈ parts, c ∉ p.cps.toList) → rep c z.cps.toList (Str.join ⟨#[c]⟩ parts).cps.toList = (Str.join z parts).cps.toList
  | [], _ => rfl
  | [p], h => rep_free c _ _ (h p (List.mem_singleton.mpr rfl))
  | p :: q :: r, h => by
    have ih := rep_join c z (q :: r) fun a ha => h a (List.mem_cons_of_mem _ ha)
    show rep c z.cps.toList (p ++ ⟨#[c]⟩ ++ Str.join ⟨#[c]⟩ (q :: r)).cps.toList = (p ++ z ++ Str.join z (q :: r)).cps.toList
    simp only [Str.cps_append, Array.toList_append]
    rw [rep_append, rep_append, ih, rep_free c _ _ (h p (List.mem_cons_self ..))]
    show p.cps.toList ++ rep c z.cps.toList [c] ++ _ = _
    rw [rep_one]
theorem replace_rep (x z : Str) (c : Nat) : (Txt.replace x ⟨#[c]⟩ z).cps.toList = rep c z.cps.toList x.cps.toList := by
  have h := rep_join c z (Txt.split x ⟨#[c]⟩) (StrLaws.split_free x c)
  rw [StrLaws.join_split] at h
  rw [StrLaws.replace_one, ← h]
theorem contains_no (x : Str) (c : Nat) (h : Txt.contains x ⟨#[c]⟩ = false) : c ∉ x.cps.toList := by
  intro hm
  obtain ⟨i, hi⟩ := List.mem_iff_getElem?.mp hm
  unfold Txt.contains at h
  rcases StrLaws.occ_head x ⟨#[c]⟩ 1 (Nat.le_refl _) with ⟨_, hn⟩ | ⟨j, r, e, _⟩
  · exact hn i ((StrLaws.subAt_one x c i).mpr hi)
  · rw [e] at h; cases h
theorem esc_rep (x z : Str) (c : Nat) : (escStep ⟨#[c]⟩ z x).cps.toList = rep c z.cps.toList x.cps.toList := by
  unfold escStep
  cases hc : Txt.contains x ⟨#[c]⟩ with
  | true => rw [if_pos rfl, replace_rep]
  | false => rw [if_neg Bool.false_ne_true, rep_free _ _ _ (contains_no x c hc)]
theorem rep_len (c : Nat) (z : List Nat) (hz : 1 ≤ z.length) : ∀ l : List Nat, (rep c z l).length ≤ l.length * z.length
  | [] => Nat.zero_le _
  | k :: r => by
    have ih := rep_len c z hz r
    show ((if k = c then z else [k]) ++ rep c z r).length ≤ (r.length + 1) * z.length
    rw [List.length_append, Nat.add_mul, Nat.one_mul]
    have : (if k = c then z else [k]).length ≤ z.length := by
      by_cases h : k = c
      · rw [if_pos h]; exact Nat.le_refl _
      · rw [if_neg h]; exact hz
    omega
theorem len1 {cs z x : Str} {a : Nat} (h : x.length ≤ a) (hc : cs.length = 1) (hz : 1 ≤ z.length) : (escStep cs z x).length ≤ a * z.length := by
  obtain ⟨⟨l⟩⟩ := cs
  obtain ⟨c, rfl⟩ : ∃ c, l = [c] := by
    match l, hc with
    | [c], _ => exact ⟨c, rfl⟩
  show (escStep ⟨#[c]⟩ z x).length ≤ a * z.length
  have h1 := esc_rep x z c
  have h2 := rep_len c z.cps.toList (by simpa [Str.length] using hz) x.cps.toList
  rw [← h1] at h2
  have h3 : (escStep ⟨#[c]⟩ z x).length ≤ x.length * z.length := by simpa [Str.length] using h2
  exact Nat.le_trans h3 (Nat.mul_le_mul_right _ h)
theorem fitB {x z : Str} (a : Nat) (h : x.length ≤ a) (hn : a + (a + 1) * z.length ≤ 16777216) : x.length + (x.length + 1) * z.length ≤ 16777216 := by
  have h1 : (x.length + 1) * z.length ≤ (a + 1) * z.length := Nat.mul_le_mul_right _ (by omega)
  omega

local macro_rules | `(tactic| walk_at "execs cons") => `(tactic| (k_here; (with_unfolding_all refine' cons_pos ?hX ?_); (case hX => (first | omega | exact Nat.le_trans (Nat.le_of_ble_eq_true (by kernel_rfl)) (Nat.le_add_left _ _))); intro tkp hpos))
local macro_rules | `(tactic| walk_at "EscC") => `(tactic| exact ⟨rfl, _, _, rfl, by assumption, by assumption⟩)
local macro_rules | `(tactic| walk_at "EscV") => `(tactic| exact ⟨rfl, _, _, _, rfl, by assumption, by assumption⟩)


/-- a call of replace, as the model takes it. -/
noncomputable abbrev EscCall (env : Env) (pl : Sem Bool) (c z : Str) (p4 p5 p6 p7 p8 : Pos) : Prop :=
  eval (.Call (.Attribute (.Name (Str.ofString "text") p4) (Str.ofString "replace") p5) [.Constant (.str c) 0 p6, .Constant (.str z) 0 p7] [] p8) env = (do
    let ov ← eval (.Name (Str.ofString "text") p4) env
    standAt p5.atName
    let (f, first) ← holding [ov] (getMethod ov (Str.ofString "replace") pl)
    callWith p8 f first (backTo p8 (starEach [.Constant (.str c) 0 p6, .Constant (.str z) 0 p7] env)) [])
noncomputable def escFold (ps : List (Str × Str)) (x : Str) : Str := ps.foldl (fun y p => escStep p.1 p.2 y) x
noncomputable def escFits (a : Nat) : List (Str × Str) → Bool
  | [] => true
  | (c, z) :: ps => Nat.beq c.length 1 && Nat.ble 1 z.length && Nat.ble (a + (a + 1) * z.length) 16777216 && escFits (a * z.length) ps
/-- the scope of each escape. -/
noncomputable abbrev escScope : Scope := { kind := .function, names := [(Str.ofString "text", .local), (Str.ofString "TypeError", .globalImplicit), (Str.ofString "AttributeError", .globalImplicit), (Str.ofString "_raise_serialization_error", .globalImplicit)], isGenerator := false, isCoroutine := false }
theorem esc_in {w : World} {A : Around} {E : Value → Shared → Prop} {name : Str} {L f : Addr} {cd : Value} {h₀ : Heap} {news : List (Addr × Obj)} (X : (kHeap w.params).In h₀) 
    {x c : Str} {t : Tok} {m : Str → Option Value} {s : Shared} {p0 p1 p2 : Pos} (F : Fr h₀ L s.heap m) (hm : m (Str.ofString "text") = some (.str x t)) (N : News h₀ L s.heap news) :
    wpAny (model PySem.Challenge.rw_xn0020_01.row.prog w) A (isTrue (.Compare (.Constant (.str c) 0 p0) [.In] [.Name (Str.ofString "text") p1] p2) (envOf name escScope L f cd) (eval (.Compare (.Constant (.str c) 0 p0) [.In] [.Name (Str.ofString "text") p1] p2) (envOf name escScope L f cd))) (fun k s₂ => EscC (Txt.contains x c) h₀ L m news s k s₂) E s := by
  iterate 2 walk1
  refine wpAny_Name (wpAny_loadName_local rfl rfl F.ns hm ?_) (by decide)
  k_steps
theorem esc_set {w : World} {A : Around} {E : Value → Shared → Prop} {name : Str} {L f : Addr} {cd : Value} {h₀ : Heap} {news : List (Addr × Obj)} (X : (kHeap w.params).In h₀) 
    {pl : Sem Bool} {x c z : Str} {t : Tok} {m : Str → Option Value} {a : Nat} {h : Heap} {tk : Nat} {s : Shared} {p3 p4 p5 p6 p7 p8 p9 : Pos} (hpos : 1 ≤ tk) (hxa : x.length ≤ a) (hfit : a + (a + 1) * z.length ≤ 16777216) (F : Fr h₀ L h m) (hm : m (Str.ofString "text") = some (.str x t)) (N : News h₀ L h news) (he : EscCall (envOf name escScope L f cd) pl c z p4 p5 p6 p7 p8) :
    wpAny (model PySem.Challenge.rw_xn0020_01.row.prog w) A (exec (.Assign [.Name (Str.ofString "text") p3] (.Call (.Attribute (.Name (Str.ofString "text") p4) (Str.ofString "replace") p5) [.Constant (.str c) 0 p6, .Constant (.str z) 0 p7] [] p8) p9) (envOf name escScope L f cd))
      (fun f s₃ => EscV (Txt.replace x c z) h₀ L m news s f s₃) E { s with heap := h, toks := tk } := by
  iterate 1 walk1
  refine MethodCall_ ?_ he
  refine wpAny_Name (wpAny_loadName_local rfl rfl F.ns hm ?_) (by decide)
  iterate 7 walk1
  refine SC.replaceA (tok_ne (by omega)) (tok_ne (by omega)) (tok_lt (by omega)) (fitB a hxa hfit) ?_ (NoneBooked.keeps (Fr.keep F) (notBooked X))
  intro t' k
  refine wpAny_storeName_local rfl F.ns (fun h₄ hn₄ hs₄ => ?_) rfl
  replace hs₄ : Heap.SameBut L h h₄ := hs₄
  exact ⟨rfl, t', h₄, _, rfl, F.set hn₄ hs₄, N.set hs₄⟩
inductive EscBody (env : Env) : List (Str × Str) → List Stmt → Prop
  | nil {p q : Pos} : EscBody env [] [.Return (some (.Name (Str.ofString "text") p)) q]
  | cons {pl : Sem Bool} {c z : Str} {ps : List (Str × Str)} {r : List Stmt} {p0 p1 p2 p3 p4 p5 p6 p7 p8 p9 p10 : Pos} (he : EscCall env pl c z p4 p5 p6 p7 p8) : EscBody env ps r → EscBody env ((c, z) :: ps)
      (.If (.Compare (.Constant (.str c) 0 p0) [.In] [.Name (Str.ofString "text") p1] p2) [.Assign [.Name (Str.ofString "text") p3] (.Call (.Attribute (.Name (Str.ofString "text") p4) (Str.ofString "replace") p5) [.Constant (.str c) 0 p6, .Constant (.str z) 0 p7] [] p8) p9] [] p10 :: r)
theorem esc_all {w : World} {A : Around} {E : Value → Shared → Prop} {name : Str} {L f : Addr} {cd : Value} {h₀ : Heap} {news : List (Addr × Obj)} (X : (kHeap w.params).In h₀) {Q : Flow → Shared → Prop} {body : List Stmt} {ps : List (Str × Str)} (B : EscBody (envOf name escScope L f cd) ps body) :
    ∀ {x : Str} {t : Tok} {a : Nat} {m : Str → Option Value} {s : Shared}, escFits a ps = true → x.length ≤ a → Fr h₀ L s.heap m → m (Str.ofString "text") = some (.str x t) → News h₀ L s.heap news → 1 ≤ s.toks →
      (∀ h t' tk m', Fr h₀ L h m' → News h₀ L h news → Q (.ret (.str (escFold ps x) t')) { s with heap := h, toks := tk }) →
      wpAny (model PySem.Challenge.rw_xn0020_01.row.prog w) A (execs body (envOf name escScope L f cd)) Q E s := by
  induction B with
  | nil =>
    intro x t a m s _ _ F hm N _ hk
    refine wpAny_execs_cons (wpAny_Return_some ?_)
    refine wpAny_Name (wpAny_loadName_local rfl rfl F.ns hm ?_) (by decide)
    exact hk s.heap t s.toks m F N
  | @cons pl c z ps r _ _ _ _ _ _ _ _ _ _ _ he _ ih =>
    intro x t a m s hf hxa F hm N hpos hk
    simp only [escFits, Bool.and_eq_true, Nat.beq_eq, Nat.ble_eq] at hf
    obtain ⟨⟨⟨hc, hz⟩, hfit⟩, hr⟩ := hf
    refine wpAny_execs_cons (esc_if F N hm hpos (esc_in X F hm N) (fun h tk hp F' N' => esc_set X hp hxa hfit F' hm N' he) (fun h t' tk hp F' N' => ?_))
    exact ih hr (len1 hxa hc hz) F' (if_pos rfl) N' hp fun h2 t2 tk2 m2 F2 N2 => hk h2 t2 tk2 m2 F2 N2
noncomputable def cdata (x : Str) : Str := escStep (Str.ofString ">") (Str.ofString "&gt;") (escStep (Str.ofString "<") (Str.ofString "&lt;") (escStep (Str.ofString "&") (Str.ofString "&amp;") x))
theorem cdata_claim (w : World) (mean : ExcName → Option Value) (mg mb : Str → Option Value) (news : List (Addr × Obj)) (x : Str) (t1 : Tok) (hx : x.length ≤ 80) :
   MClaim w mean mg mb 129 news 1 8 [Value.str x t1] (fun tk => True) (fun tk v own tk' => (∃ t', v = .str (cdata x) t') ∧ own = []) := by
  dsimp only [MClaim]
  k_fill
  intros
  rename_i hret
  replace hret := Kont.mk hret
  refine wpAny_call ?_
  k_dflt cell_enter
  walk1
  walk1
  refine esc_all (a := 80) (ps := [(Str.ofString "&", Str.ofString "&amp;"), (Str.ofString "<", Str.ofString "&lt;"), (Str.ofString ">", Str.ofString "&gt;")]) (by k_asm) ?body (by decide +kernel) hx (by k_asm) (by first | exact if_pos rfl | with_unfolding_all rfl) (by k_asm) (by omega) ?_
  case body => repeat (first | exact EscBody.nil | (refine' EscBody.cons ?he ?_; (case he => first | exact rfl | with_unfolding_all exact rfl | (unfold EscCall; rfl))))
  intro h t' tk m' F' N'
  dsimp only
  k_steps
  exact hret.out _ [] _ _ (by assumption) (by assumption) (fun _ _ _ h => nomatch h) ⟨⟨_, rfl⟩, rfl⟩
noncomputable def attrib (x : Str) : Str := escStep (Str.ofString "\t") (Str.ofString "&#09;") (escStep (Str.ofString "\n") (Str.ofString "&#10;") (escStep (Str.ofString "\r") (Str.ofString "&#13;") (escStep (Str.ofString "\"") (Str.ofString "&quot;") (escStep (Str.ofString ">") (Str.ofString "&gt;") (escStep (Str.ofString "<") (Str.ofString "&lt;") (escStep (Str.ofString "&") (Str.ofString "&amp;") x))))))
theorem attrib_claim (w : World) (mean : ExcName → Option Value) (mg mb : Str → Option Value) (news : List (Addr × Obj)) (x : Str) (t1 : Tok) (hx : x.length ≤ 80) :
   MClaim w mean mg mb 136 news 1 8 [Value.str x t1] (fun tk => True) (fun tk v own tk' => (∃ t', v = .str (attrib x) t') ∧ own = []) := by
  dsimp only [MClaim]
  k_fill
  intros
  rename_i hret
  replace hret := Kont.mk hret
  refine wpAny_call ?_
  k_dflt cell_enter
  walk1
  walk1
  refine esc_all (a := 80) (ps := [(Str.ofString "&", Str.ofString "&amp;"), (Str.ofString "<", Str.ofString "&lt;"), (Str.ofString ">", Str.ofString "&gt;"), (Str.ofString "\"", Str.ofString "&quot;"), (Str.ofString "\r", Str.ofString "&#13;"), (Str.ofString "\n", Str.ofString "&#10;"), (Str.ofString "\t", Str.ofString "&#09;")]) (by k_asm) ?body (by decide +kernel) hx (by k_asm) (by first | exact if_pos rfl | with_unfolding_all rfl) (by k_asm) (by omega) ?_
  case body => repeat (first | exact EscBody.nil | (refine' EscBody.cons ?he ?_; (case he => first | exact rfl | with_unfolding_all exact rfl | (unfold EscCall; rfl))))
  intro h t' tk m' F' N'
  dsimp only
  k_steps
  exact hret.out _ [] _ _ (by assumption) (by assumption) (fun _ _ _ h => nomatch h) ⟨⟨_, rfl⟩, rfl⟩
noncomputable def attribHtml (x : Str) : Str := escStep (Str.ofString "\"") (Str.ofString "&quot;") (escStep (Str.ofString ">") (Str.ofString "&gt;") (escStep (Str.ofString "&") (Str.ofString "&amp;") x))
theorem attribHtml_claim (w : World) (mean : ExcName → Option Value) (mg mb : Str → Option Value) (news : List (Addr × Obj)) (x : Str) (t1 : Tok) (hx : x.length ≤ 80) :
   MClaim w mean mg mb 143 news 1 8 [Value.str x t1] (fun tk => True) (fun tk v own tk' => (∃ t', v = .str (attribHtml x) t') ∧ own = []) := by
  dsimp only [MClaim]
  k_fill
  intros
  rename_i hret
  replace hret := Kont.mk hret
  refine wpAny_call ?_
  k_dflt cell_enter
  walk1
  walk1
  refine esc_all (a := 80) (ps := [(Str.ofString "&", Str.ofString "&amp;"), (Str.ofString ">", Str.ofString "&gt;"), (Str.ofString "\"", Str.ofString "&quot;")]) (by k_asm) ?body (by decide +kernel) hx (by k_asm) (by first | exact if_pos rfl | with_unfolding_all rfl) (by k_asm) (by omega) ?_
  case body => repeat (first | exact EscBody.nil | (refine' EscBody.cons ?he ?_; (case he => first | exact rfl | with_unfolding_all exact rfl | (unfold EscCall; rfl))))
  intro h t' tk m' F' N'
  dsimp only
  k_steps
  exact hret.out _ [] _ _ (by assumption) (by assumption) (fun _ _ _ h => nomatch h) ⟨⟨_, rfl⟩, rfl⟩
noncomputable def cdataC14n (x : Str) : Str := escStep (Str.ofString "\r") (Str.ofString "&#xD;") (escStep (Str.ofString ">") (Str.ofString "&gt;") (escStep (Str.ofString "<") (Str.ofString "&lt;") (escStep (Str.ofString "&") (Str.ofString "&amp;") x)))
theorem cdataC14n_claim (w : World) (mean : ExcName → Option Value) (mg mb : Str → Option Value) (news : List (Addr × Obj)) (x : Str) (t1 : Tok) (hx : x.length ≤ 80) :
   MClaim w mean mg mb 150 news 1 8 [Value.str x t1] (fun tk => True) (fun tk v own tk' => (∃ t', v = .str (cdataC14n x) t') ∧ own = []) := by
  dsimp only [MClaim]
  k_fill
  intros
  rename_i hret
  replace hret := Kont.mk hret
  refine wpAny_call ?_
  k_dflt cell_enter
  walk1
  walk1
  refine esc_all (a := 80) (ps := [(Str.ofString "&", Str.ofString "&amp;"), (Str.ofString "<", Str.ofString "&lt;"), (Str.ofString ">", Str.ofString "&gt;"), (Str.ofString "\r", Str.ofString "&#xD;")]) (by k_asm) ?body (by decide +kernel) hx (by k_asm) (by first | exact if_pos rfl | with_unfolding_all rfl) (by k_asm) (by omega) ?_
  case body => repeat (first | exact EscBody.nil | (refine' EscBody.cons ?he ?_; (case he => first | exact rfl | with_unfolding_all exact rfl | (unfold EscCall; rfl))))
  intro h t' tk m' F' N'
  dsimp only
  k_steps
  exact hret.out _ [] _ _ (by assumption) (by assumption) (fun _ _ _ h => nomatch h) ⟨⟨_, rfl⟩, rfl⟩
noncomputable def attribC14n (x : Str) : Str := escStep (Str.ofString "\r") (Str.ofString "&#xD;") (escStep (Str.ofString "\n") (Str.ofString "&#xA;") (escStep (Str.ofString "\t") (Str.ofString "&#x9;") (escStep (Str.ofString "\"") (Str.ofString "&quot;") (escStep (Str.ofString "<") (Str.ofString "&lt;") (escStep (Str.ofString "&") (Str.ofString "&amp;") x)))))
theorem attribC14n_claim (w : World) (mean : ExcName → Option Value) (mg mb : Str → Option Value) (news : List (Addr × Obj)) (x : Str) (t1 : Tok) (hx : x.length ≤ 80) :
   MClaim w mean mg mb 157 news 1 8 [Value.str x t1] (fun tk => True) (fun tk v own tk' => (∃ t', v = .str (attribC14n x) t') ∧ own = []) := by
  dsimp only [MClaim]
  k_fill
  intros
  rename_i hret
  replace hret := Kont.mk hret
  refine wpAny_call ?_
  k_dflt cell_enter
  walk1
  walk1
  refine esc_all (a := 80) (ps := [(Str.ofString "&", Str.ofString "&amp;"), (Str.ofString "<", Str.ofString "&lt;"), (Str.ofString "\"", Str.ofString "&quot;"), (Str.ofString "\t", Str.ofString "&#x9;"), (Str.ofString "\n", Str.ofString "&#xA;"), (Str.ofString "\r", Str.ofString "&#xD;")]) (by k_asm) ?body (by decide +kernel) hx (by k_asm) (by first | exact if_pos rfl | with_unfolding_all rfl) (by k_asm) (by omega) ?_
  case body => repeat (first | exact EscBody.nil | (refine' EscBody.cons ?he ?_; (case he => first | exact rfl | with_unfolding_all exact rfl | (unfold EscCall; rfl))))
  intro h t' tk m' F' N'
  dsimp only
  k_steps
  exact hret.out _ [] _ _ (by assumption) (by assumption) (fun _ _ _ h => nomatch h) ⟨⟨_, rfl⟩, rfl⟩
end Mine
namespace Mine
section
open PyProof.Rows.LCg
variable {prog : Program} {w : World} {A : Around} {E : Value → Shared → Prop} {s : Shared} {h₀ : Heap} {L : Addr} {m : Str → Option Value} {env : Env}

/-- a comprehension's tests. -/
noncomputable abbrev testsOf (ifs : List Expr) (env : Env) : Sem Bool := forIn ifs true fun c r => if r = true then do let ok ← isTrue c env (eval c env); pure (ForInStep.yield ok) else pure (ForInStep.yield r)

theorem ck_loop {elt target iter : Expr} {ifs : List Expr} {scope : Scope} {pos : Pos} {it acc : Value} {env : Env} {R : Result → Shared → Prop} (I : Nat → Shared → Prop)
    (turn : ∀ n s, I n s → wpAny (model prog w) A (pyNext it) (fun r s₁ => match r with
      | none => R (.ok .next) s₁
      | some v => wpAny (model prog w) A (letOwnedTupleGo target it v) (fun _ s₀ => wpAny (model prog w) A (assign target env v) (fun _ s₂ =>
          wpAny (model prog w) A (testsOf ifs env) (fun ok s₃ => if ok = true then wpAny (model prog w) A (eval elt env) (fun x s₄ =>
            wpAny (model prog w) A (call (.builtin "list.append") [acc, x]) (fun _ s₅ => ∃ m, m < n ∧ I m s₅) (notedBy (model prog w) A env fun e s' => R (.error e) s') s₄) (notedBy (model prog w) A env fun e s' => R (.error e) s') s₃
            else ∃ m, m < n ∧ I m s₃) (notedBy (model prog w) A env fun e s' => R (.error e) s') s₂)
          (notedBy (model prog w) A env fun e s' => R (.error e) s') s₀) (notedBy (model prog w) A env fun e s' => R (.error e) s') s₁) (notedBy (model prog w) A env fun e s' => R (.error e) s') s)
    (n : Nat) (h : I n s) : codeAny (model prog w) A (.compLoop (.ListComp elt [⟨target, iter, ifs, 0⟩] scope pos) 0 it acc env) R s := by
  refine codeAny_loop rfl I (fun n s hI => ?_) n h
  show wpAny _ A ((compTurn (.ListComp elt [⟨target, iter, ifs, 0⟩] scope pos) 0 it acc env).onRaise (fun x => do noteFrame x env; theTreesLotGoes x)) _ _ s
  refine wpAny_noted ?_
  rw [compTurn_list]
  refine wpAny_bind (wpAny_standAt (wpAny_bind (wpAny_mono (turn n s hI) (fun r s₁ q => ?_) fun _ _ x => x)))
  match r, q with
  | none, q => exact wpAny_pure q
  | some v, q =>
    refine wpAny_bind (wpAny_mono q (fun _ s₀ q => ?_) fun _ _ x => x)
    refine wpAny_bind (wpAny_mono q (fun _ s₂ q => ?_) fun _ _ x => x)
    refine wpAny_bind (wpAny_mono q (fun ok s₃ q => ?_) fun _ _ x => x)
    cases ok with
    | false => exact wpAny_pure ⟨rfl, q⟩
    | true =>
      refine wpAny_bind (wpAny_bind (wpAny_mono q (fun x s₄ q => ?_) fun _ _ x => x))
      exact wpAny_bind (wpAny_mono q (fun _ s₅ q => wpAny_pure (wpAny_pure ⟨rfl, q⟩)) fun _ _ x => x)

/-- the end of a turn of a comprehension that leaves the ledger as it stood. -/
inductive CkEnd (h₀ : Heap) (L : Addr) (m : Str → Option Value) (s₁ : Shared) (led : List (Addr × Obj)) (J : Prop) (s₂ : Shared) : Prop
  | mk (h' : Heap) (tk : Nat) (e1 : s₂ = { s₁ with heap := h', toks := tk }) (e2 : Fr h₀ L h' m) (e3 : News h₀ L h' led) (e4 : J) : CkEnd h₀ L m s₁ led J s₂

theorem size_fresh {h : Heap} {a : Addr} (ha : h.objs.size ≤ a) : h.get? a = none := by
  cases e : h.get? a with
  | none => rfl
  | some o => exact absurd (Heap.lt_size e) (Nat.not_lt.mpr ha)
theorem fresh_base {h₀ h : Heap} {L : Addr} {m : Str → Option Value} (F : Fr h₀ L h m) {a : Addr} (ha : h.objs.size ≤ a) : h₀.get? a = none := by
  cases e : h₀.get? a with
  | none => rfl
  | some o => have := F.keep a o e; rw [size_fresh ha] at this; cases this

theorem ck_block {elt target iter : Expr} {ifs : List Expr} {scope : Scope} {cl : List (Str × Addr)} {pos : Pos} {s₂ : Shared} {I : Addr} {fp wr : List Addr} {n : Nat} {P Md : Nat → Value → Heap → Prop} {St : Nat → Heap → Prop} {news : List (Addr × Obj)}
    {RR : Value → Addr → Result → Shared → Prop}
    (W : KTurns prog w A target I fp wr n P Md St) (hself : ∀ (s : Shared) (Q : Value → Shared → Prop) (E : Value → Shared → Prop), St 0 s.heap → Q (.ref I) s → wpAny (model prog w) A (pyIter (.ref I)) Q E s) (hsz : n ≤ sizeLine)
    (hcell : ∀ y ∈ scope.names, y.2 ≠ .cell) (hkind : scope.kind = .function) (hst : St 0 s₂.heap) (hfp : ∀ b ∈ fp, b < s₂.heap.objs.size) (hLf : L ∉ fp) (hwr : ∀ b ∈ wr, h₀.get? b = none)
    (F : Fr h₀ L s₂.heap m) (N : News h₀ L s₂.heap news) (hnw : ∀ p ∈ news, p.1 ∉ wr)
    (Inv : Nat → List Value → Prop) (h0 : Inv 0 []) (hlen : ∀ i ys, Inv i ys → ys.length ≤ i)
    (turn : ∀ i v ys h tk own C D m₂ (E' : Value → Shared → Prop), i < n → P i v h → Inv i ys → Fr h₀ L h m → News h₀ L h ((D, lst ys) :: (news ++ own)) → h.Ns C m₂ → C ≠ L → C ≠ D → h₀.get? C = none → (∀ p ∈ news, p.1 ≠ C) → (∀ p ∈ own, p.1 ≠ C) → (∀ b ∈ fp, b < D) → D < C →
      wpAny (model prog w) A (assign target (compEnvC scope cl C env) v) (fun _ s₃ => ∃ h₃ tk₃ oC m₃, s₃ = { s₂ with heap := h₃, toks := tk₃ } ∧ Fr h₀ L h₃ m ∧ News h₀ L h₃ ((C, oC) :: (D, lst ys) :: (news ++ own)) ∧ NsObj oC m₃ ∧
        wpAny (model prog w) A (testsOf ifs (compEnvC scope cl C env)) (fun ok s₄ => if ok = true then
          wpAny (model prog w) A (eval elt (compEnvC scope cl C env)) (fun y => CkEnd h₀ L m s₂ ((C, oC) :: (D, lst ys) :: (news ++ own)) (Inv (i + 1) (ys ++ [y]))) E' s₄
          else CkEnd h₀ L m s₂ ((C, oC) :: (D, lst ys) :: (news ++ own)) (Inv (i + 1) ys) s₄) E' s₃) E' { s₂ with heap := h, toks := tk })
    (hRR : ∀ D C h tk m' ys, Fr h₀ L h m → News h₀ L h ((D, lst ys) :: news) → (∀ p ∈ news, p.1 < D) → h.Ns C m' → h₀.get? C = none → C ≠ L → D < C → (∀ p ∈ news, p.1 ≠ C) → Inv n ys → RR (.ref D) C (.ok .next) { s₂ with heap := h, toks := tk }) :
    wpAny (model prog w) A (newList []) (fun acc s₃ => wpAny (model prog w) A (newFunctionEnv scope env.globals cl [] env.qual none .none (some env)) (fun cenv s₄ =>
      codeAny (model prog w) A (.compStart (.ListComp elt [⟨target, iter, ifs, 0⟩] scope pos) 0 (.ref I) acc { cenv with scope := relabel scope env }) (RR acc cenv.locals) s₄) E s₃) E s₂ := by
  refine wpAny_newObj_type (wpAny_newFunctionEnv hcell (by intro y hy; simp at hy) (fun h₁ hns₁ hsb₁ => ?_) hkind)
  dsimp only at hns₁ hsb₁ ⊢
  have hD₀ : h₀.get? s₂.heap.objs.size = none := fresh_base F (Nat.le_refl _)
  have hC₀ : h₀.get? (s₂.heap.objs.size + 1) = none := fresh_base F (Nat.le_succ _)
  have hLlt : L < s₂.heap.objs.size := F.ns.lt
  have hDL : s₂.heap.objs.size ≠ L := fun e => Nat.lt_irrefl _ (e ▸ hLlt)
  have hpN : ∀ p ∈ news, p.1 < s₂.heap.objs.size := fun p hp => Heap.lt_size (N p hp).1
  generalize hH2 : s₂.heap.push { cls := .type "list", dict := none, data := .seq ([] : List Value).toArray } = H2 at hns₁ hsb₁ ⊢
  have hC : H2.objs.size = s₂.heap.objs.size + 1 := by rw [← hH2, Heap.size_push]
  rw [← hC] at hC₀
  have hDC : s₂.heap.objs.size < H2.objs.size := by rw [hC]; exact Nat.lt_succ_self _
  have old : ∀ b o, s₂.heap.get? b = some o → h₁.get? b = some o := fun b o e => hsb₁.extBut b o (Nat.ne_of_lt (Nat.lt_trans (Heap.lt_size e) hDC)) (Heap.get?_push_of_some _ (hH2 ▸ Heap.get?_push_of_some _ e))
  have hacc : h₁.get? s₂.heap.objs.size = some (lst []) := hsb₁.extBut _ _ (Nat.ne_of_lt hDC) (Heap.get?_push_of_some _ (hH2 ▸ Heap.get?_push_size _ rfl))
  generalize hDD : s₂.heap.objs.size = D at *
  generalize hCC : H2.objs.size = C at *
  have hCL : C ≠ L := fun e => Nat.lt_asymm hDC (e ▸ hLlt)
  have hDf : D ∉ fp := fun hm => Nat.lt_irrefl _ (hfp _ hm)
  have hCf : C ∉ fp := fun hm => Nat.lt_asymm hDC (hfp _ hm)
  have hDw : D ∉ wr := fun hm => hDf (W.sub _ hm)
  have hCw : C ∉ wr := fun hm => hCf (W.sub _ hm)
  have hLw : L ∉ wr := fun hm => hLf (W.sub _ hm)
  have hst₁ : St 0 h₁ := W.frame _ _ _ hst fun b _ o e => old b o e
  have hNC : ∀ p ∈ news, p.1 ≠ C := fun p hp => Nat.ne_of_lt (Nat.lt_trans (hpN p hp) hDC)
  have loop : ∀ s₃ : Shared, s₃ = { s₂ with heap := h₁, toks := s₂.toks + ([] : List (Str × Value)).length } →
      codeAny (model prog w) A (.compLoop (.ListComp elt [⟨target, iter, ifs, 0⟩] scope pos) 0 (.ref I) (.ref D) (compEnvC scope cl C env)) (RR (.ref D) C) s₃ := by
    rintro s₃ rfl
    refine ck_loop (fun k s' => ∃ h' tk i ys m', s' = { s₂ with heap := h', toks := tk } ∧ i ≤ n ∧ k = n + 1 - i ∧ St i h' ∧ Fr h₀ L h' m ∧ h'.Ns C m' ∧ News h₀ L h' ((D, lst ys) :: news) ∧ Inv i ys) ?_ (n + 1)
      ⟨h₁, _, 0, [], _, rfl, Nat.zero_le _, rfl, hst₁, F.keeps old, hns₁, fun p hp => ?_, h0⟩
    · rintro k s' ⟨h', tk, i, ys, m', rfl, hi, rfl, hst', F', hn', N', hI⟩
      have step : ∀ hh : Heap, (∀ b o, b ∉ wr → h'.get? b = some o → hh.get? b = some o) → Fr h₀ L hh m ∧ hh.Ns C m' ∧ News h₀ L hh ((D, lst ys) :: news) := fun hh hk =>
        ⟨⟨F'.ns.at' fun o e => hk L o hLw e, fun b o e => hk b o (fun hb => by rw [hwr b hb] at e; cases e) (F'.keep b o e), F'.above⟩, hn'.at' fun o e => hk C o hCw e, fun p hp => ⟨hk _ _ (by
          rcases List.mem_cons.mp hp with rfl | hp
          · exact hDw
          · exact hnw p hp) (N' p hp).1, (N' p hp).2⟩⟩
      by_cases hlt : i < n
      · refine W.item i _ _ _ hlt hst' fun v h₂ tk₂ hMd hk₂ => ?_
        refine W.go i v _ _ _ hMd fun h₃ hP hst₃ hk₃ => ?_
        obtain ⟨F₃, n₃, N₃⟩ := step h₃ fun b o hb e => hk₃ b o hb (hk₂ b o hb e)
        have hown := ownOf_sub (h₀ := h₀) (h := h₃) (fp := fp)
        have Nown : News h₀ L h₃ (ownOf h₀ fp h₃) := news_ownOf hLf
        have NN : News h₀ L h₃ ((D, lst ys) :: (news ++ ownOf h₀ fp h₃)) := fun p hp => by
          rcases List.mem_cons.mp hp with rfl | hp
          · exact N₃ _ (.head _)
          · rcases List.mem_append.mp hp with hp | hp
            · exact N₃ _ (.tail _ hp)
            · exact Nown p hp
        refine wpAny_mono (turn i v ys h₃ tk₂ (ownOf h₀ fp h₃) C D m' _ hlt hP hI F₃ NN n₃ hCL (Ne.symm (Nat.ne_of_lt hDC)) hC₀ hNC (fun p hp e => hCf (e ▸ hown p hp)) (fun b hb => hfp b hb) hDC) (fun _ s₃ q => ?_) fun _ _ x => x
        obtain ⟨h₄, tk₄, oC, m₄, rfl, F₄, N₄, hoC, q⟩ := q
        have fin : ∀ (h₅ : Heap) (zs : List Value), (∀ b o, b ≠ D → h₅.get? b = some o → h₅.get? b = some o) → Fr h₀ L h₅ m → News h₀ L h₅ ((C, oC) :: (D, lst ys) :: (news ++ ownOf h₀ fp h₃)) → ∀ (h₆ : Heap), Heap.SameBut D h₅ h₆ → h₆.get? D = some (lst zs) →
            St (i + 1) h₆ ∧ Fr h₀ L h₆ m ∧ h₆.Ns C m₄ ∧ News h₀ L h₆ ((D, lst zs) :: news) := fun h₅ zs _ F₅ N₅ h₆ hs₆ hD₆ => by
          have zC := (N₅ (C, oC) (.head _)).1
          refine ⟨W.frame _ _ _ hst₃ fun b hb o e => ?_, F₅.change hs₆ hDL hD₀, (hoC.ns zC).sameBut hs₆ (Ne.symm (Nat.ne_of_lt hDC)), fun p hp => ?_⟩
          · have hbD : b ≠ D := fun q => hDf (q ▸ hb)
            refine hs₆.extBut b o hbD ?_
            cases e₀ : h₀.get? b with
            | some o₀ =>
              have e₁ := F₃.keep b o₀ e₀
              rw [e] at e₁
              rw [Option.some.inj e₁]
              exact F₅.keep b o₀ e₀
            | none => exact (N₅ _ (.tail _ (.tail _ (List.mem_append_right _ (mem_ownOf hb e₀ e))))).1
          · rcases List.mem_cons.mp hp with rfl | hp
            · exact ⟨hD₆, hDL, hD₀⟩
            · have z := N₅ p (.tail _ (.tail _ (List.mem_append_left _ hp)))
              exact ⟨hs₆.extBut _ _ (Nat.ne_of_lt (hpN p hp)) z.1, z.2⟩
        refine wpAny_mono q (fun ok s₄ q => ?_) fun _ _ x => x
        cases ok with
        | false =>
          simp only [Bool.false_eq_true, if_false] at q ⊢
          obtain ⟨h₅, tk₅, rfl, F₅, N₅, hJ⟩ := q
          obtain ⟨a, b, c, d⟩ := fin h₅ ys (fun _ _ _ e => e) F₅ N₅ h₅ (.refl ..) (N₅ _ (.tail _ (.head _))).1
          exact ⟨n + 1 - (i + 1), by omega, h₅, tk₅, i + 1, ys, m₄, rfl, hlt, rfl, a, b, c, d, hJ⟩
        | true =>
          simp only [if_true] at q ⊢
          refine wpAny_mono q (fun y s₅ q => ?_) fun _ _ x => x
          obtain ⟨h₅, tk₅, rfl, F₅, N₅, hJ⟩ := q
          refine append_at (hsz := by show ys.toArray.size ≤ sizeLine; rw [List.size_toArray]; exact Nat.le_trans (hlen _ _ hI) (Nat.le_trans hi hsz)) (N₅ _ (.tail _ (.head _))).1 fun h₆ hs₆ hD₆ => ?_
          obtain ⟨a, b, c, d⟩ := fin h₅ (ys ++ [y]) (fun _ _ _ e => e) F₅ N₅ h₆ hs₆ (hD₆.trans (congrArg some (lst_snoc ys y)))
          exact ⟨n + 1 - (i + 1), by omega, h₆, tk₅, i + 1, ys ++ [y], m₄, rfl, hlt, rfl, a, b, c, d, hJ⟩
      · obtain rfl : i = n := Nat.le_antisymm hi (Nat.not_lt.mp hlt)
        refine W.done _ _ _ hst' fun h₂ tk₂ hk₂ => ?_
        obtain ⟨F₃, n₃, N₃⟩ := step h₂ hk₂
        exact hRR D C h₂ tk₂ m' ys F₃ N₃ hpN n₃ hC₀ hCL hDC hNC hI
    · rcases List.mem_cons.mp hp with rfl | hp
      · exact ⟨hacc, hDL, hD₀⟩
      · exact ⟨old _ _ (N p hp).1, (N p hp).2⟩
  exact codeAny_compStart_list (loop _ rfl) (hself _ _ _ hst₁ (loop _ rfl))
end
section
open PyProof.Rows.LCg
variable {prog : Program} {w : World} {A : Around} {E : Value → Shared → Prop} {s : Shared} {h₀ : Heap} {L : Addr} {m : Str → Option Value} {env : Env}

/-- the turns of a comprehension over pairs, its ledger as it stood. -/
noncomputable abbrev PairTurn (prog : Program) (w : World) (A : Around) (h₀ : Heap) (L : Addr) (m : Str → Option Value) (env : Env) (elt : Expr) (ifs : List Expr) (a b : Str) (scope : Scope) (cl : List (Str × Addr)) (s₂ : Shared) (news : List (Addr × Obj)) (n : Nat) (Pv : Nat → Value → Value → Prop) (Inv : Nat → List Value → Prop) : Prop :=
  ∀ i x y ys h tk own C oC D m₂ (E' : Value → Shared → Prop), i < n → Pv i x y → Inv i ys → NsObj oC m₂ → m₂ a = some x → m₂ b = some y → Fr h₀ L h m → News h₀ L h ((C, oC) :: (D, lst ys) :: (news ++ own)) → (∀ p ∈ news, p.1 ≠ C) →
    wpAny (model prog w) A (testsOf ifs (compEnvC scope cl C env)) (fun ok s₄ => if ok = true then
      wpAny (model prog w) A (eval elt (compEnvC scope cl C env)) (fun y => CkEnd h₀ L m s₂ ((C, oC) :: (D, lst ys) :: (news ++ own)) (Inv (i + 1) (ys ++ [y]))) E' s₄
      else CkEnd h₀ L m s₂ ((C, oC) :: (D, lst ys) :: (news ++ own)) (Inv (i + 1) ys) s₄) E' { s₂ with heap := h, toks := tk }
/-- and over single values. -/
noncomputable abbrev NameTurn (prog : Program) (w : World) (A : Around) (h₀ : Heap) (L : Addr) (m : Str → Option Value) (env : Env) (elt : Expr) (ifs : List Expr) (a : Str) (scope : Scope) (cl : List (Str × Addr)) (s₂ : Shared) (news : List (Addr × Obj)) (n : Nat) (Pv : Nat → Value → Prop) (Inv : Nat → List Value → Prop) : Prop :=
  ∀ i x ys h tk own C oC D m₂ (E' : Value → Shared → Prop), i < n → Pv i x → Inv i ys → NsObj oC m₂ → m₂ a = some x → Fr h₀ L h m → News h₀ L h ((C, oC) :: (D, lst ys) :: (news ++ own)) → (∀ p ∈ news, p.1 ≠ C) →
    wpAny (model prog w) A (testsOf ifs (compEnvC scope cl C env)) (fun ok s₄ => if ok = true then
      wpAny (model prog w) A (eval elt (compEnvC scope cl C env)) (fun y => CkEnd h₀ L m s₂ ((C, oC) :: (D, lst ys) :: (news ++ own)) (Inv (i + 1) (ys ++ [y]))) E' s₄
      else CkEnd h₀ L m s₂ ((C, oC) :: (D, lst ys) :: (news ++ own)) (Inv (i + 1) ys) s₄) E' { s₂ with heap := h, toks := tk }
/-- where a comprehension's walk is carried on: its iterator drawn. -/
inductive SrcK (prog : Program) (w : World) (A : Around) (h₀ : Heap) (L : Addr) (m : Str → Option Value) (env : Env) (target elt : Expr) (ifs : List Expr) (scope : Scope) (cl : List (Str × Addr)) (Q : Value → Shared → Prop) (it : Value) (s₂ : Shared) : Prop
  | mk (I : Addr) (fp : List Addr) (wr : List Addr) (n : Nat) (P : Nat → Value → Heap → Prop) (Md : Nat → Value → Heap → Prop) (St : Nat → Heap → Prop) (news : List (Addr × Obj)) (Inv : Nat → List Value → Prop) (e1 : it = .ref I) (e2 : KTurns prog w A target I fp wr n P Md St) (e3 : (∀ (s : Shared) (Q : Value → Shared → Prop) (E : Value → Shared → Prop), St 0 s.heap → Q (.ref I) s → wpAny (model prog w) A (pyIter (.ref I)) Q E s)) (e4 : n ≤ sizeLine) (e5 : St 0 s₂.heap) (e6 : (∀ b ∈ fp, b < s₂.heap.objs.size)) (e7 : L ∉ fp) (e8 : (∀ b ∈ wr, h₀.get? b = none)) (e9 : Fr h₀ L s₂.heap m) (e10 : News h₀ L s₂.heap news) (e11 : (∀ p ∈ news, p.1 ∉ wr)) (e12 : Inv 0 []) (e13 : (∀ i ys, Inv i ys → ys.length ≤ i)) (e14 : (∀ i v ys h tk own C D m₂ (E' : Value → Shared → Prop), i < n → P i v h → Inv i ys → Fr h₀ L h m → News h₀ L h ((D, lst ys) :: (news ++ own)) → h.Ns C m₂ → C ≠ L → C ≠ D → h₀.get? C = none → (∀ p ∈ news, p.1 ≠ C) → (∀ p ∈ own, p.1 ≠ C) → (∀ b ∈ fp, b < D) → D < C →       wpAny (model prog w) A (assign target (compEnvC scope cl C env) v) (fun _ s₃ => ∃ h₃ tk₃ oC m₃, s₃ = { s₂ with heap := h₃, toks := tk₃ } ∧ Fr h₀ L h₃ m ∧ News h₀ L h₃ ((C, oC) :: (D, lst ys) :: (news ++ own)) ∧ NsObj oC m₃ ∧         wpAny (model prog w) A (testsOf ifs (compEnvC scope cl C env)) (fun ok s₄ => if ok = true then           wpAny (model prog w) A (eval elt (compEnvC scope cl C env)) (fun y => CkEnd h₀ L m s₂ ((C, oC) :: (D, lst ys) :: (news ++ own)) (Inv (i + 1) (ys ++ [y]))) E' s₄           else CkEnd h₀ L m s₂ ((C, oC) :: (D, lst ys) :: (news ++ own)) (Inv (i + 1) ys) s₄) E' s₃) E' { s₂ with heap := h, toks := tk })) (e15 : (∀ D h tk ys, Fr h₀ L h m → News h₀ L h ((D, lst ys) :: news) → (∀ p ∈ news, p.1 < D) → Inv n ys → Q (.ref D) { s₂ with heap := h, toks := tk })) : SrcK prog w A h₀ L m env target elt ifs scope cl Q it s₂

theorem ListComp_K {target elt iter : Expr} {ifs : List Expr} {scope : Scope} {cl : List (Str × Addr)} {pos : Pos} {Q : Value → Shared → Prop} (uF₀ : Fr h₀ L s.heap m)
    (hclos : closureFor scope env = pure cl) (hcell : ∀ y ∈ scope.names, y.2 ≠ .cell) (hkind : scope.kind = .function)
    (hnames : ∀ y ∈ scope.names, y.2 = .local → scope.names.lookup y.1 = some .local)
    (h : wpAny (model prog w) A (eval iter env) (fun xv s₁ => wpAny (model prog w) A (pyIter xv) (SrcK prog w A h₀ L m env target elt ifs scope cl Q) E s₁) E s)
    (hs : ∀ x, foldedSetIterable iter env x = pure x := by intro _; rfl) :
    wpAny (model prog w) A (eval (.ListComp elt [⟨target, iter, ifs, 0⟩] scope pos) env) Q E s := by
  rw [eval_ListComp]
  refine wpAny_comprehension_free (use := none) rfl hs hclos hkind hnames (wpAny_mono h (fun xv s₁ q => wpAny_mono q (fun it s₂ q => ?_) fun _ _ e => e) fun _ _ e => e)
  obtain ⟨I, fp, wr, n, P, Md, St, news, Inv, rfl, W, hself, hsz, hst, hfp, hLf, hwr, F, N, hnw, h0, hlen, turn, fin⟩ := q
  refine ck_block W hself hsz hcell hkind hst hfp hLf hwr F N hnw Inv h0 hlen turn ?_
  intro D C h tk m' ys F' N' lt hn hC₀ hCL hCD' hNC hI
  have hCD : C ≠ D := Ne.symm (Nat.ne_of_lt hCD')
  refine ⟨m', hn, fun h'' hs'' => fin D h'' tk ys (F'.change hs'' hCL hC₀) (fun p hp => ⟨hs''.extBut _ _ ?_ (N' p hp).1, (N' p hp).2⟩) lt hI⟩
  rcases List.mem_cons.mp hp with rfl | hp
  · exact Ne.symm hCD
  · exact hNC p hp

theorem pair_assign {elt : Expr} {ifs : List Expr} {a b : Str} {pa pb tp : Pos} {kk : Nat} {scope : Scope} {cl : List (Str × Addr)} {s₂ : Shared} {news : List (Addr × Obj)} {n : Nat} {P : Nat → Value → Heap → Prop} {Pv : Nat → Value → Value → Prop} {Inv : Nat → List Value → Prop}
    (hh : A.handled = none) (hkind : scope.kind = .function) (ha : scope.names.lookup a = some .local) (hb : scope.names.lookup b = some .local) (hab : a ≠ b)
    (hP : ∀ i v h, i < n → P i v h → ∃ T x y, v = .ref T ∧ h.IsTuple T #[x, y] ∧ Pv i x y)
    (turn : PairTurn prog w A h₀ L m env elt ifs a b scope cl s₂ news n Pv Inv) :
    ∀ i v ys h tk own C D m₂ (E' : Value → Shared → Prop), i < n → P i v h → Inv i ys → Fr h₀ L h m → News h₀ L h ((D, lst ys) :: (news ++ own)) → h.Ns C m₂ → C ≠ L → C ≠ D → h₀.get? C = none → (∀ p ∈ news, p.1 ≠ C) → (∀ p ∈ own, p.1 ≠ C) →
      wpAny (model prog w) A (assign (.Tuple [.Name a pa, .Name b pb] kk tp) (compEnvC scope cl C env) v) (fun _ s₃ => ∃ h₃ tk₃ oC m₃, s₃ = { s₂ with heap := h₃, toks := tk₃ } ∧ Fr h₀ L h₃ m ∧ News h₀ L h₃ ((C, oC) :: (D, lst ys) :: (news ++ own)) ∧ NsObj oC m₃ ∧
        wpAny (model prog w) A (testsOf ifs (compEnvC scope cl C env)) (fun ok s₄ => if ok = true then
          wpAny (model prog w) A (eval elt (compEnvC scope cl C env)) (fun y => CkEnd h₀ L m s₂ ((C, oC) :: (D, lst ys) :: (news ++ own)) (Inv (i + 1) (ys ++ [y]))) E' s₄
          else CkEnd h₀ L m s₂ ((C, oC) :: (D, lst ys) :: (news ++ own)) (Inv (i + 1) ys) s₄) E' s₃) E' { s₂ with heap := h, toks := tk } := by
  intro i v ys h tk own C D m₂ E' hi hPv hI F N hn hCL hCD hC₀ hNC hoC
  obtain ⟨T, x, y, rfl, hT, hv⟩ := hP i v h hi hPv
  refine kcp_assign (env := compEnvC scope cl C env) hh hT (lookup_relabel_local ha) (lookup_relabel_local hb) (by simp [compEnvC, relabel, hkind]) hn fun h₃ tk₃ hn₃ up => ?_
  obtain ⟨oC, heC, hoC'⟩ := ns_obj hn₃
  have F₃ : Fr h₀ L h₃ m := ⟨F.ns.at' fun o e => up L o (Ne.symm hCL) e, fun c o e => up c o (fun q => by rw [show c = C from q, hC₀] at e; cases e) (F.keep c o e), F.above⟩
  have N₃ : News h₀ L h₃ ((C, oC) :: (D, lst ys) :: (news ++ own)) := fun p hp => by
    rcases List.mem_cons.mp hp with rfl | hp
    · exact ⟨heC, hCL, hC₀⟩
    · have z := N p hp
      refine ⟨up _ _ ?_ z.1, z.2⟩
      rcases List.mem_cons.mp hp with rfl | hp
      · exact Ne.symm hCD
      · rcases List.mem_append.mp hp with hp | hp
        · exact hNC p hp
        · exact hoC p hp
  exact ⟨h₃, tk₃, oC, _, rfl, F₃, N₃, hoC', turn i x y ys h₃ tk₃ own C oC D _ E' hi hv hI hoC' (by simp [hab]) (by simp) F₃ N₃ hNC⟩

theorem name_assign {elt : Expr} {ifs : List Expr} {a : Str} {pa : Pos} {scope : Scope} {cl : List (Str × Addr)} {s₂ : Shared} {news : List (Addr × Obj)} {n : Nat} {P : Nat → Value → Heap → Prop} {Pv : Nat → Value → Prop} {Inv : Nat → List Value → Prop}
    (hkind : scope.kind = .function) (ha : scope.names.lookup a = some .local)
    (hP : ∀ i v h, i < n → P i v h → Pv i v)
    (turn : NameTurn prog w A h₀ L m env elt ifs a scope cl s₂ news n Pv Inv) :
    ∀ i v ys h tk own C D m₂ (E' : Value → Shared → Prop), i < n → P i v h → Inv i ys → Fr h₀ L h m → News h₀ L h ((D, lst ys) :: (news ++ own)) → h.Ns C m₂ → C ≠ L → C ≠ D → h₀.get? C = none → (∀ p ∈ news, p.1 ≠ C) → (∀ p ∈ own, p.1 ≠ C) →
      wpAny (model prog w) A (assign (.Name a pa) (compEnvC scope cl C env) v) (fun _ s₃ => ∃ h₃ tk₃ oC m₃, s₃ = { s₂ with heap := h₃, toks := tk₃ } ∧ Fr h₀ L h₃ m ∧ News h₀ L h₃ ((C, oC) :: (D, lst ys) :: (news ++ own)) ∧ NsObj oC m₃ ∧
        wpAny (model prog w) A (testsOf ifs (compEnvC scope cl C env)) (fun ok s₄ => if ok = true then
          wpAny (model prog w) A (eval elt (compEnvC scope cl C env)) (fun y => CkEnd h₀ L m s₂ ((C, oC) :: (D, lst ys) :: (news ++ own)) (Inv (i + 1) (ys ++ [y]))) E' s₄
          else CkEnd h₀ L m s₂ ((C, oC) :: (D, lst ys) :: (news ++ own)) (Inv (i + 1) ys) s₄) E' s₃) E' { s₂ with heap := h, toks := tk } := by
  intro i v ys h tk own C D m₂ E' hi hPv hI F N hn hCL hCD hC₀ hNC hoC
  refine wpAny_assign_Name (wpAny_storeName_local (lookup_relabel_local ha) hn (fun h₃ hn₃ hs₃ => ?_) (by simp [compEnvC, relabel, hkind]))
  obtain ⟨oC, heC, hoC'⟩ := ns_obj hn₃
  have F₃ : Fr h₀ L h₃ m := F.change hs₃ hCL hC₀
  have N₃ : News h₀ L h₃ ((C, oC) :: (D, lst ys) :: (news ++ own)) := fun p hp => by
    rcases List.mem_cons.mp hp with rfl | hp
    · exact ⟨heC, hCL, hC₀⟩
    · have z := N p hp
      refine ⟨hs₃.extBut _ _ ?_ z.1, z.2⟩
      rcases List.mem_cons.mp hp with rfl | hp
      · exact Ne.symm hCD
      · rcases List.mem_append.mp hp with hp | hp
        · exact hNC p hp
        · exact hoC p hp
  exact ⟨h₃, _, oC, _, rfl, F₃, N₃, hoC', turn i v ys h₃ _ own C oC D _ E' hi (hP i v h hi hPv) hI hoC' (by simp) F₃ N₃ hNC⟩

theorem SrcK.zip {elt : Expr} {ifs : List Expr} {a b : Str} {pa pb tp : Pos} {kk : Nat} {scope : Scope} {cl : List (Str × Addr)} {Q : Value → Shared → Prop} {l1 l2 : Addr} {xs ys : List Value} {k1 k2 : Nat} {news : List (Addr × Obj)} {Inv : Nat → List Value → Prop}
    (hh : A.handled = none) (F : Fr h₀ L s.heap m) (N : News h₀ L s.heap news) (h1 : (l1, listOf xs.toArray k1) ∈ news) (h2 : (l2, listOf ys.toArray k2) ∈ news) (hsz : min xs.length ys.length ≤ sizeLine)
    (hkind : scope.kind = .function) (ha : scope.names.lookup a = some .local) (hb : scope.names.lookup b = some .local) (hab : a ≠ b)
    (h0 : Inv 0 []) (hlen : ∀ i ys, Inv i ys → ys.length ≤ i)
    (turn : ∀ s₂ : Shared, (∃ h, s₂ = { s with heap := h }) → PairTurn prog w A h₀ L m env elt ifs a b scope cl s₂ news (min xs.length ys.length) (fun i x y => xs[i]? = some x ∧ ys[i]? = some y) Inv)
    (fin : ∀ D h tk zs, Fr h₀ L h m → News h₀ L h ((D, lst zs) :: news) → (∀ p ∈ news, p.1 < D) → Inv (min xs.length ys.length) zs → Q (.ref D) { s with heap := h, toks := tk }) :
    wpAny (model prog w) A (call (.type "zip") [.ref l1, .ref l2]) (fun xv s₁ => wpAny (model prog w) A (pyIter xv) (SrcK prog w A h₀ L m env (.Tuple [.Name a pa, .Name b pb] kk tp) elt ifs scope cl Q) E s₁) E s := by
  have hl1 : s.heap.IsList l1 xs.toArray := ⟨_, (N _ h1).1, rfl, _, rfl⟩
  have hl2 : s.heap.IsList l2 ys.toArray := ⟨_, (N _ h2).1, rfl, _, rfl⟩
  have lt1 : l1 < s.heap.objs.size := Heap.lt_size (N _ h1).1
  have lt2 : l2 < s.heap.objs.size := Heap.lt_size (N _ h2).1
  have hLs : L < s.heap.objs.size := F.ns.lt
  refine call_zip_2 hl1 hl2 fun h' hz hTI hTO hi1 hi2 hsz' hk => ?_
  refine wpAny_pyIter_zip hz ?_
  have D : ZipApart (s.heap.objs.size + 4) (s.heap.objs.size + 2) (s.heap.objs.size + 3) s.heap.objs.size (s.heap.objs.size + 1) l1 l2 := zipApart_new lt1 lt2
  have W := WalksT.zip2 (prog := prog) (w := w) hh _ _ _ _ _ _ _ D xs.toArray ys.toArray
  refine ⟨_, _, _, _, _, _, _, news, Inv, rfl, KTurns.ofWalksU (elts := [.Name a pa, .Name b pb]) (k := kk) (pos := tp) W.toU, (fun s Q E st q => W.self 0 s Q E st q), by simpa using hsz, ⟨hz, hTI, ⟨_, _, hTO⟩, hi1, hi2, Heap.IsList.at hl1 (fun o e => hk _ o e), Heap.IsList.at hl2 (fun o e => hk _ o e)⟩, ?_, ?_, ?_, F.keeps hk, N.grown hk, ?_, h0, hlen, ?_, ?_⟩
  · intro b hb
    show b < h'.objs.size
    rw [hsz']
    simp only [List.mem_cons, List.not_mem_nil, or_false] at hb
    rcases hb with rfl | rfl | rfl | rfl | rfl | rfl | rfl
    · exact Nat.add_lt_add_left (by decide) _
    · exact Nat.add_lt_add_left (by decide) _
    · exact Nat.add_lt_add_left (by decide) _
    · exact Nat.lt_add_of_pos_right (by decide)
    · exact Nat.add_lt_add_left (by decide) _
    · exact Nat.lt_of_lt_of_le lt1 (Nat.le_add_right _ 5)
    · exact Nat.lt_of_lt_of_le lt2 (Nat.le_add_right _ 5)
  · intro hb
    simp only [List.mem_cons, List.not_mem_nil, or_false] at hb
    rcases hb with e | e | e | e | e | e | e
    · exact absurd (e ▸ hLs) (by simp +arith)
    · exact absurd (e ▸ hLs) (by simp +arith)
    · exact absurd (e ▸ hLs) (by simp +arith)
    · exact absurd (e ▸ hLs) (Nat.lt_irrefl _)
    · exact absurd (e ▸ hLs) (by simp +arith)
    · exact (N _ h1).2.1 e.symm
    · exact (N _ h2).2.1 e.symm
  · intro b hb
    simp only [List.mem_cons, List.not_mem_nil, or_false] at hb
    refine fresh_base F ?_
    rcases hb with rfl | rfl | rfl | rfl
    all_goals simp +arith
  · intro p hp hb
    have := Heap.lt_size (N p hp).1
    simp only [List.mem_cons, List.not_mem_nil, or_false] at hb
    rcases hb with e | e | e | e
    all_goals exact absurd (e ▸ this) (by simp +arith)
  · intro i v ys' h tk own C D m₂ E' hi hP hI F' N' hn hCL hCD hC₀ hNC hoC _ _
    refine pair_assign (P := fun i v h => ∃ T vals, v = .ref T ∧ (∃ x y, xs.toArray[i]? = some x ∧ ys.toArray[i]? = some y ∧ vals = #[x, y]) ∧ h.IsTuple T vals) (Pv := fun i x y => xs[i]? = some x ∧ ys[i]? = some y) hh hkind ha hb hab (fun i v h hi' hP' => ?_) (turn _ ⟨_, rfl⟩) i v ys' h tk own C D m₂ E' (by simpa using hi) hP hI F' N' hn hCL hCD hC₀ hNC hoC
    obtain ⟨T, vals, rfl, ⟨x, y, hx, hy, rfl⟩, hT⟩ := hP'
    exact ⟨T, x, y, rfl, hT, by simpa using hx, by simpa using hy⟩
  · intro D h tk zs F' N' lt hI
    exact fin D h tk zs F' N' lt (by simpa using hI)
end
section
open PyProof.Rows.LCg
variable {prog : Program} {w : World} {A : Around} {E : Value → Shared → Prop} {s : Shared} {h₀ : Heap} {L : Addr} {m : Str → Option Value} {env : Env}

theorem src_list {target elt : Expr} {ifs : List Expr} {scope : Scope} {cl : List (Str × Addr)} {Q : Value → Shared → Prop} {l : Addr} {xs : List Value} {k1 : Nat} {news : List (Addr × Obj)} {Inv : Nat → List Value → Prop}
    (hh : A.handled = none) (F : Fr h₀ L s.heap m) (N : News h₀ L s.heap news) (h1 : (l, listOf xs.toArray k1) ∈ news) (hsz : xs.length ≤ sizeLine) (hgo : ∀ (I : Addr) (l : Addr) (i : Nat) (v : Value) (s : Shared) (Q : Unit → Shared → Prop) (E : Value → Shared → Prop), s.heap.IsListIter I l i → (∃ T, v = .ref T) ∨ (∀ (s : Shared), letOwnedTupleGo target (.ref I) v = pure ()) → Q () s → wpAny (model prog w) A (letOwnedTupleGo target (.ref I) v) Q E s)
    (hv : ∀ v ∈ xs, (∃ T, v = .ref T) ∨ (∀ (I : Addr) (s : Shared), letOwnedTupleGo target (.ref I) v = pure ()))
    (h0 : Inv 0 []) (hlen : ∀ i ys, Inv i ys → ys.length ≤ i)
    (turn : ∀ s₂ : Shared, (∃ h, s₂ = { s with heap := h }) → ∀ i v ys h tk own C D m₂ (E' : Value → Shared → Prop), i < xs.length → xs[i]? = some v → Inv i ys → Fr h₀ L h m → News h₀ L h ((D, lst ys) :: (news ++ own)) → h.Ns C m₂ → C ≠ L → C ≠ D → h₀.get? C = none → (∀ p ∈ news, p.1 ≠ C) → (∀ p ∈ own, p.1 ≠ C) →
      wpAny (model prog w) A (assign target (compEnvC scope cl C env) v) (fun _ s₃ => ∃ h₃ tk₃ oC m₃, s₃ = { s₂ with heap := h₃, toks := tk₃ } ∧ Fr h₀ L h₃ m ∧ News h₀ L h₃ ((C, oC) :: (D, lst ys) :: (news ++ own)) ∧ NsObj oC m₃ ∧
        wpAny (model prog w) A (testsOf ifs (compEnvC scope cl C env)) (fun ok s₄ => if ok = true then
          wpAny (model prog w) A (eval elt (compEnvC scope cl C env)) (fun y => CkEnd h₀ L m s₂ ((C, oC) :: (D, lst ys) :: (news ++ own)) (Inv (i + 1) (ys ++ [y]))) E' s₄
          else CkEnd h₀ L m s₂ ((C, oC) :: (D, lst ys) :: (news ++ own)) (Inv (i + 1) ys) s₄) E' s₃) E' { s₂ with heap := h, toks := tk })
    (fin : ∀ D h tk zs, Fr h₀ L h m → News h₀ L h ((D, lst zs) :: news) → (∀ p ∈ news, p.1 < D) → Inv xs.length zs → Q (.ref D) { s with heap := h, toks := tk }) :
    wpAny (model prog w) A (pyIter (.ref l)) (SrcK prog w A h₀ L m env target elt ifs scope cl Q) E s := by
  have hl : s.heap.IsList l xs.toArray := ⟨_, (N _ h1).1, rfl, _, rfl⟩
  have lt1 : l < s.heap.objs.size := Heap.lt_size (N _ h1).1
  have hLs : L < s.heap.objs.size := F.ns.lt
  refine wpAny_pyIter_list hl ?_
  have up : ∀ b o, s.heap.get? b = some o → (s.heap.push { cls := .type "list_iterator", data := .fields #[.ref l, .int 0 0] }).get? b = some o := fun b o e => Heap.get?_push_of_some _ e
  have W := Walks.list (prog := prog) (w := w) hh s.heap.objs.size l (Nat.ne_of_lt lt1) xs.toArray
  have K : KTurns prog w A target s.heap.objs.size [s.heap.objs.size, l] [s.heap.objs.size] xs.length (fun i v _ => xs[i]? = some v) (fun i v h => xs[i]? = some v ∧ h.IsListIter s.heap.objs.size l (i + 1) ∧ h.IsList l xs.toArray) (fun i h => h.IsListIter s.heap.objs.size l i ∧ h.IsList l xs.toArray) :=
    { sub := W.sub, frame := W.frame, item := fun i s Q E hi st hQ => W.item i s Q E (by simpa using hi) st fun v h' tk hP st' hk => hQ v h' tk ⟨by simpa using hP, st'⟩ hk
      go := fun i v s Q E hm hQ => by
        refine hgo _ _ _ v s Q E hm.2.1 ?_ (hQ s.heap hm.1 hm.2 fun _ _ _ e => e)
        rcases hv v (List.mem_of_getElem? hm.1) with h | h
        · exact .inl h
        · exact .inr fun s => h _ s
      done := fun s Q E st hQ => W.done s Q E (by simpa using st) hQ }
  refine ⟨_, _, _, xs.length, _, _, _, news, Inv, rfl, K, (fun s Q E st q => W.self 0 s Q E st q), hsz, ⟨⟨_, Heap.get?_push_size _ rfl, rfl, rfl⟩, hl.push _⟩, ?_, ?_, ?_, F.keeps up, N.grown up, ?_, h0, hlen, ?_, ?_⟩
  · intro b hb
    show b < (s.heap.push _).objs.size
    rw [Heap.size_push]
    rcases List.mem_cons.mp hb with rfl | hb
    · exact Nat.lt_succ_self _
    · rw [List.mem_singleton.mp hb]; exact Nat.lt_succ_of_lt lt1
  · intro hb
    rcases List.mem_cons.mp hb with e | hb
    · exact absurd (e ▸ hLs) (Nat.lt_irrefl _)
    · exact (N _ h1).2.1 (List.mem_singleton.mp hb).symm
  · intro b hb
    rw [List.mem_singleton.mp hb]
    exact fresh_base F (Nat.le_refl _)
  · intro p hp hb
    have := Heap.lt_size (N p hp).1
    rw [List.mem_singleton.mp hb] at this
    exact Nat.lt_irrefl _ this
  · intro i v ys' h tk own C D m₂ E' hi hP hI F' N' hn hCL hCD hC₀ hNC hoC _ _
    exact turn _ ⟨_, rfl⟩ i v ys' h tk own C D m₂ E' hi (by simpa using hP) hI F' N' hn hCL hCD hC₀ hNC hoC
  · intro D h tk zs F' N' lt hI
    exact fin D h tk zs F' N' lt hI

theorem SrcK.list {elt : Expr} {ifs : List Expr} {a : Str} {pa : Pos} {scope : Scope} {cl : List (Str × Addr)} {Q : Value → Shared → Prop} {l : Addr} {xs : List Value} {k1 : Nat} {news : List (Addr × Obj)} {Inv : Nat → List Value → Prop}
    (hh : A.handled = none) (F : Fr h₀ L s.heap m) (N : News h₀ L s.heap news) (h1 : (l, listOf xs.toArray k1) ∈ news) (hsz : xs.length ≤ sizeLine)
    (hkind : scope.kind = .function) (ha : scope.names.lookup a = some .local)
    (h0 : Inv 0 []) (hlen : ∀ i ys, Inv i ys → ys.length ≤ i)
    (turn : ∀ s₂ : Shared, (∃ h, s₂ = { s with heap := h }) → NameTurn prog w A h₀ L m env elt ifs a scope cl s₂ news xs.length (fun i x => xs[i]? = some x) Inv)
    (fin : ∀ D h tk zs, Fr h₀ L h m → News h₀ L h ((D, lst zs) :: news) → (∀ p ∈ news, p.1 < D) → Inv xs.length zs → Q (.ref D) { s with heap := h, toks := tk }) :
    wpAny (model prog w) A (pyIter (.ref l)) (SrcK prog w A h₀ L m env (.Name a pa) elt ifs scope cl Q) E s :=
  src_list hh F N h1 hsz (fun I l i v s Q E _ _ q => wpAny_pure q) (fun v _ => .inr fun _ _ => rfl) h0 hlen
    (fun s₂ hs i v ys h tk own C D m₂ E' hi hP hI F' N' hn hCL hCD hC₀ hNC hoC =>
      name_assign (P := fun i v _ => xs[i]? = some v) hkind ha (fun i v h _ hP' => hP') (turn s₂ hs) i v ys h tk own C D m₂ E' hi hP hI F' N' hn hCL hCD hC₀ hNC hoC) fin

/-- the list's items are tuples of two, of the ledger. -/
theorem SrcK.pairs {elt : Expr} {ifs : List Expr} {a b : Str} {pa pb tp : Pos} {kk : Nat} {scope : Scope} {cl : List (Str × Addr)} {Q : Value → Shared → Prop} {l : Addr} {xs : List Value} {k1 : Nat} {news : List (Addr × Obj)} {Inv : Nat → List Value → Prop} {Pv : Nat → Value → Value → Prop}
    (hh : A.handled = none) (F : Fr h₀ L s.heap m) (N : News h₀ L s.heap news) (h1 : (l, listOf xs.toArray k1) ∈ news) (hsz : xs.length ≤ sizeLine)
    (hkind : scope.kind = .function) (ha : scope.names.lookup a = some .local) (hb : scope.names.lookup b = some .local) (hab : a ≠ b)
    (hxs : ∀ i v, xs[i]? = some v → ∃ T x y o, v = .ref T ∧ (T, o) ∈ news ∧ o.cls = .type "tuple" ∧ (∃ k, o.data = .seq #[x, y] k) ∧ Pv i x y)
    (h0 : Inv 0 []) (hlen : ∀ i ys, Inv i ys → ys.length ≤ i)
    (turn : ∀ s₂ : Shared, (∃ h, s₂ = { s with heap := h }) → PairTurn prog w A h₀ L m env elt ifs a b scope cl s₂ news xs.length Pv Inv)
    (fin : ∀ D h tk zs, Fr h₀ L h m → News h₀ L h ((D, lst zs) :: news) → (∀ p ∈ news, p.1 < D) → Inv xs.length zs → Q (.ref D) { s with heap := h, toks := tk }) :
    wpAny (model prog w) A (pyIter (.ref l)) (SrcK prog w A h₀ L m env (.Tuple [.Name a pa, .Name b pb] kk tp) elt ifs scope cl Q) E s := by
  refine src_list (Inv := Inv) hh F N h1 hsz (fun I l i v s Q E hi ho q => ?_) (fun v hv => ?_) h0 hlen
    (fun s₂ hs i v ys h tk own C D m₂ E' hi hP hI F' N' hn hCL hCD hC₀ hNC hoC => ?_) fin
  · rcases ho with ⟨T, rfl⟩ | ho
    · exact wpAny_letOwnedTupleGo_listiter hi q
    · rw [ho s]; exact wpAny_pure q
  · obtain ⟨i, hi⟩ := List.getElem?_of_mem hv
    obtain ⟨T, _, _, _, rfl, _⟩ := hxs i v hi
    exact .inl ⟨T, rfl⟩
  · obtain ⟨T, x, y, o, rfl, hTm, hTc, hTd, hPv⟩ := hxs i v hP
    exact pair_assign (P := fun j v h' => j = i ∧ v = .ref T ∧ h' = h) (Pv := Pv) hh hkind ha hb hab (fun j v h' _ hP' => by
      obtain ⟨rfl, rfl, rfl⟩ := hP'
      exact ⟨T, x, y, rfl, ⟨o, (N' _ (.tail _ (List.mem_append_left _ hTm))).1, hTc, hTd⟩, hPv⟩) (turn s₂ hs) i (.ref T) ys h tk own C D m₂ E' hi ⟨rfl, rfl, rfl⟩ hI F' N' hn hCL hCD hC₀ hNC hoC
end
section
open PyProof.Rows.LCg
variable {prog : Program} {w : World} {A : Around} {E : Value → Shared → Prop} {s : Shared} {h₀ : Heap} {L : Addr} {m : Str → Option Value} {env : Env}
theorem SrcK.enum {elt : Expr} {ifs : List Expr} {a b : Str} {pa pb tp : Pos} {kk : Nat} {scope : Scope} {cl : List (Str × Addr)} {Q : Value → Shared → Prop} {l : Addr} {xs : List Value} {k1 : Nat} {news : List (Addr × Obj)} {Inv : Nat → List Value → Prop}
    (hh : A.handled = none) (F : Fr h₀ L s.heap m) (N : News h₀ L s.heap news) (h1 : (l, listOf xs.toArray k1) ∈ news) (hsz : xs.length ≤ sizeLine)
    (hkind : scope.kind = .function) (ha : scope.names.lookup a = some .local) (hb : scope.names.lookup b = some .local) (hab : a ≠ b)
    (h0 : Inv 0 []) (hlen : ∀ i ys, Inv i ys → ys.length ≤ i)
    (turn : ∀ s₂ : Shared, (∃ h, s₂ = { s with heap := h }) → PairTurn prog w A h₀ L m env elt ifs a b scope cl s₂ news xs.length (fun i x y => (∃ t, x = .int (i : Nat) t) ∧ xs[i]? = some y) Inv)
    (fin : ∀ D h tk zs, Fr h₀ L h m → News h₀ L h ((D, lst zs) :: news) → (∀ p ∈ news, p.1 < D) → Inv xs.length zs → Q (.ref D) { s with heap := h, toks := tk }) :
    wpAny (model prog w) A (call (.type "enumerate") [.ref l]) (fun xv s₁ => wpAny (model prog w) A (pyIter xv) (SrcK prog w A h₀ L m env (.Tuple [.Name a pa, .Name b pb] kk tp) elt ifs scope cl Q) E s₁) E s := by
  have hax := N _ h1
  have hl : s.heap.IsList l xs.toArray := ⟨_, hax.1, rfl, _, rfl⟩
  have hlt : l < s.heap.objs.size := Heap.lt_size hax.1
  have hLs : L < s.heap.objs.size := F.ns.lt
  refine call_enumerate_list hl fun h' hE' hI hsz' hk' => ?_
  refine wpAny_pyIter_enum hE' ?_
  have W := WalksT.enumerate (prog := prog) (w := w) hh (s.heap.objs.size + 1) s.heap.objs.size l (Nat.succ_ne_self _) (Nat.ne_of_lt (Nat.lt_succ_of_lt hlt)) (Nat.ne_of_lt hlt) xs.toArray
  refine ⟨_, _, _, _, _, _, _, news, Inv, rfl, KTurns.ofWalksU (elts := [.Name a pa, .Name b pb]) (k := kk) (pos := tp) W.toU, (fun s Q E st q => W.self 0 s Q E st q), by simpa using hsz, ⟨⟨.none, hE'⟩, hI, hl.at fun o e => hk' l o e⟩, ?_, ?_, ?_, F.keeps hk', N.grown hk', ?_, h0, hlen, ?_, ?_⟩
  · intro b hb
    show b < h'.objs.size
    rw [hsz']
    simp only [List.mem_cons, List.not_mem_nil, or_false] at hb
    rcases hb with rfl | rfl | rfl
    · exact Nat.lt_succ_self _
    · exact Nat.lt_add_of_pos_right (by decide)
    · exact Nat.lt_of_lt_of_le hlt (Nat.le_add_right _ 2)
  · intro hb
    simp only [List.mem_cons, List.not_mem_nil, or_false] at hb
    rcases hb with e | e | e
    · exact absurd (e ▸ hLs) (by simp +arith)
    · exact absurd (e ▸ hLs) (Nat.lt_irrefl _)
    · exact hax.2.1 e.symm
  · intro b hb
    simp only [List.mem_cons, List.not_mem_nil, or_false] at hb
    refine fresh_base F ?_
    rcases hb with rfl | rfl
    · exact Nat.le_succ _
    · exact Nat.le_refl _
  · intro p hp hb
    have := Heap.lt_size (N p hp).1
    simp only [List.mem_cons, List.not_mem_nil, or_false] at hb
    rcases hb with e | e
    · exact absurd (e ▸ this) (by simp +arith)
    · exact absurd (e ▸ this) (Nat.lt_irrefl _)
  · intro i v ys' h tk own C D m₂ E' hi hP hI F' N' hn hCL hCD hC₀ hNC hoC _ _
    refine pair_assign (P := fun i v h => ∃ T vals, v = .ref T ∧ (∃ t x, xs.toArray[i]? = some x ∧ vals = #[.int (i : Nat) t, x]) ∧ h.IsTuple T vals) (Pv := fun i x y => (∃ t, x = .int (i : Nat) t) ∧ xs[i]? = some y) hh hkind ha hb hab (fun i v h hi' hP' => ?_) (turn _ ⟨_, rfl⟩) i v ys' h tk own C D m₂ E' (by simpa using hi) hP hI F' N' hn hCL hCD hC₀ hNC hoC
    obtain ⟨T, vals, rfl, ⟨t, x, hx, rfl⟩, hT⟩ := hP'
    exact ⟨T, _, x, rfl, hT, ⟨t, rfl⟩, by simpa using hx⟩
  · intro D h tk zs F' N' lt hI
    exact fin D h tk zs F' N' lt (by simpa using hI)
end
section
open PyProof.Rows.LCg
variable {prog : Program} {w : World} {A : Around} {E : Value → Shared → Prop} {s : Shared} {h₀ : Heap} {L : Addr} {m : Str → Option Value} {env : Env}
theorem SrcK.text {elt : Expr} {ifs : List Expr} {a : Str} {pa : Pos} {scope : Scope} {cl : List (Str × Addr)} {Q : Value → Shared → Prop} {x : Str} {tx : Tok} {news : List (Addr × Obj)} {Inv : Nat → List Value → Prop}
    (hh : A.handled = none) (F : Fr h₀ L s.heap m) (N : News h₀ L s.heap news) (hsz : x.cps.size ≤ sizeLine)
    (hkind : scope.kind = .function) (ha : scope.names.lookup a = some .local)
    (h0 : Inv 0 []) (hlen : ∀ i ys, Inv i ys → ys.length ≤ i)
    (turn : ∀ s₂ : Shared, (∃ h, s₂ = { s with heap := h }) → NameTurn prog w A h₀ L m env elt ifs a scope cl s₂ news x.cps.size (SignAt x) Inv)
    (fin : ∀ D h tk zs, Fr h₀ L h m → News h₀ L h ((D, lst zs) :: news) → (∀ p ∈ news, p.1 < D) → Inv x.cps.size zs → Q (.ref D) { s with heap := h, toks := tk }) :
    wpAny (model prog w) A (pyIter (.str x tx)) (SrcK prog w A h₀ L m env (.Name a pa) elt ifs scope cl Q) E s := by
  have hLs : L < s.heap.objs.size := F.ns.lt
  refine wpAny_pyIter_str fun o St W hst => ?_
  have W := W A hh
  have up : ∀ b o', s.heap.get? b = some o' → (s.heap.push o).get? b = some o' := fun b o' e => Heap.get?_push_of_some _ e
  have K : KTurns prog w A (.Name a pa) s.heap.objs.size [s.heap.objs.size] [s.heap.objs.size] x.cps.size (fun i v _ => SignAt x i v) (fun i v h => SignAt x i v ∧ St (i + 1) h) St :=
    { sub := W.sub, frame := W.frame, item := fun i s Q E hi st hQ => W.item i s Q E hi st fun v h' tk hP st' hk => hQ v h' tk ⟨hP, st'⟩ hk
      go := fun i v s Q E hm hQ => wpAny_pure (hQ s.heap hm.1 hm.2 fun _ _ _ e => e)
      done := W.done }
  refine ⟨_, _, _, x.cps.size, _, _, _, news, Inv, rfl, K, (fun s Q E st q => W.self 0 s Q E st q), hsz, hst, ?_, ?_, ?_, F.keeps up, N.grown up, ?_, h0, hlen, ?_, ?_⟩
  · intro b hb
    show b < (s.heap.push _).objs.size
    rw [Heap.size_push, List.mem_singleton.mp hb]
    exact Nat.lt_succ_self _
  · intro hb
    exact absurd (List.mem_singleton.mp hb ▸ hLs) (Nat.lt_irrefl _)
  · intro b hb
    rw [List.mem_singleton.mp hb]
    exact fresh_base F (Nat.le_refl _)
  · intro p hp hb
    have := Heap.lt_size (N p hp).1
    rw [List.mem_singleton.mp hb] at this
    exact Nat.lt_irrefl _ this
  · intro i v ys' h tk own C D m₂ E' hi hP hI F' N' hn hCL hCD hC₀ hNC hoC _ _
    exact name_assign (P := fun i v _ => SignAt x i v) hkind ha (fun i v h _ hP' => hP') (turn _ ⟨_, rfl⟩) i v ys' h tk own C D m₂ E' hi hP hI F' N' hn hCL hCD hC₀ hNC hoC
  · intro D h tk zs F' N' lt hI
    exact fin D h tk zs F' N' lt hI
variable {d : Addr} {o : Obj} {kvs : List (Str × Value)} {k : Str} {t : Tok} {dflt : Value} {Q : Value → Shared → Prop}
theorem sdict_getD (ho : s.heap.get? d = some o) (hd : o.IsDictOf (strKind prog w) kvs) (lo : (d == sysModules) = false) (h : Q ((valueAt kvs k).getD dflt) { s with toks := s.toks + 1 }) :
    wpAny (model prog w) A (call (.builtin "dict.get") [.ref d, .str k t, dflt]) Q E s :=
  have hm := (Heap.dictOf_iff.mpr ⟨o, ho, hd⟩).mapOf
  call_meetsIn PySem.F.slot_dict_get hm.typeIs PySem.F.entry_dict_get (PySem.F.args_dict_get_3 _ _ _) (meets_dict_get_default (strKind prog w) d (strKind_is prog w k t) lo dflt) ⟨_, hm, h⟩
end
section
open PyProof.Rows.LCg
variable {prog : Program} {w : World} {A : Around} {E : Value → Shared → Prop} {s : Shared} {h₀ : Heap} {L : Addr} {m : Str → Option Value} {env : Env}

theorem turn_two0 (elt t1 i1 t2 i2 : Expr) (scope : Scope) (pos : Pos) (it acc : Value) (env : Env) :
    compTurn (.ListComp elt [⟨t1, i1, [], 0⟩, ⟨t2, i2, [], 0⟩] scope pos) 0 it acc env = (standAt i1.pos >>= fun _ => pyNext it >>= fun r => match r with
      | none => pure (.done .next)
      | some v => letOwnedTupleGo t1 it v >>= fun _ => assign t1 env v >>= fun _ =>
        eval i2 env >>= fun x => standAt i2.pos >>= fun _ => foldedSetIterable i2 env x >>= fun x => holding [x] (pyIter x) >>= fun it2 => runOwn (.compStart (.ListComp elt [⟨t1, i1, [], 0⟩, ⟨t2, i2, [], 0⟩] scope pos) 1 it2 acc env) env >>= fun _ =>
          again (.compLoop (.ListComp elt [⟨t1, i1, [], 0⟩, ⟨t2, i2, [], 0⟩] scope pos) 0 it acc env)) := by rfl
theorem turn_two1 (elt t1 i1 t2 i2 : Expr) (scope : Scope) (pos : Pos) (it acc : Value) (env : Env) :
    compTurn (.ListComp elt [⟨t1, i1, [], 0⟩, ⟨t2, i2, [], 0⟩] scope pos) 1 it acc env = (standAt i2.pos >>= fun _ => pyNext it >>= fun r => match r with
      | none => pure (.done .next)
      | some v => letOwnedTupleGo t2 it v >>= fun _ => assign t2 env v >>= fun _ =>
        (eval elt env >>= fun x => call (.builtin "list.append") [acc, x] >>= fun _ => pure ()) >>= fun _ =>
          again (.compLoop (.ListComp elt [⟨t1, i1, [], 0⟩, ⟨t2, i2, [], 0⟩] scope pos) 1 it acc env)) := by rfl
theorem start_two1 {elt t1 i1 t2 i2 scope pos it acc env} {R : Result → Shared → Prop}
    (h0 : codeAny (model prog w) A (.compLoop (.ListComp elt [⟨t1, i1, [], 0⟩, ⟨t2, i2, [], 0⟩] scope pos) 1 it acc env) R s)
    (h : wpAny (model prog w) A (pyIter it) (fun it' s' => codeAny (model prog w) A (.compLoop (.ListComp elt [⟨t1, i1, [], 0⟩, ⟨t2, i2, [], 0⟩] scope pos) 1 it' acc env) R s')
      (notedBy (model prog w) A env fun x s' => R (.error x) s') s) :
    codeAny (model prog w) A (.compStart (.ListComp elt [⟨t1, i1, [], 0⟩, ⟨t2, i2, [], 0⟩] scope pos) 1 it acc env) R s := by
  refine codeAny_of_tree ?_
  show wpAny _ _ ((compStart (.ListComp elt [⟨t1, i1, [], 0⟩, ⟨t2, i2, [], 0⟩] scope pos) 1 it acc env).onRaise (fun x => do noteFrame x env; standAt theWindowsPlace)) _ _ s
  refine wpAny_notedAt ?_
  unfold compStart
  show wpAny _ _ (ask >>= _) _ _ s
  refine wpAny_bind (wpAny_askSetting (wpAny_ite ?_))
  split
  · first
      | exact wpAny_bind (wpAny_pure (wpAny_pure (And.intro rfl h0)))
      | exact wpAny_pure (And.intro rfl h0)
  · first
      | exact wpAny_bind (wpAny_rule (wpAny_bind (wpAny_standAt (wpAny_bind (wpAny_mono h (fun it' s' h' => wpAny_pure (And.intro rfl h')) fun _ _ x => x)))))
      | (refine wpAny_bind (wpAny_rule ?_); show wpAny _ _ (standAt i2.pos >>= _) _ _ s; exact wpAny_bind (wpAny_standAt (wpAny_bind (wpAny_mono h (fun it' s' h' => wpAny_pure (And.intro rfl h')) fun _ _ x => x))))
theorem loop_two1 {elt t1 i1 t2 i2 : Expr} {scope : Scope} {pos : Pos} {it acc : Value} {env : Env} {R : Result → Shared → Prop} (I : Nat → Shared → Prop)
    (turn : ∀ n s, I n s → wpAny (model prog w) A (pyNext it) (fun r s₁ => match r with
      | none => R (.ok .next) s₁
      | some v => wpAny (model prog w) A (letOwnedTupleGo t2 it v) (fun _ s₀ => wpAny (model prog w) A (assign t2 env v) (fun _ s₂ =>
          wpAny (model prog w) A (eval elt env) (fun x s₄ =>
            wpAny (model prog w) A (call (.builtin "list.append") [acc, x]) (fun _ s₅ => ∃ m, m < n ∧ I m s₅) (notedBy (model prog w) A env fun e s' => R (.error e) s') s₄) (notedBy (model prog w) A env fun e s' => R (.error e) s') s₂)
          (notedBy (model prog w) A env fun e s' => R (.error e) s') s₀) (notedBy (model prog w) A env fun e s' => R (.error e) s') s₁) (notedBy (model prog w) A env fun e s' => R (.error e) s') s)
    (n : Nat) (h : I n s) : codeAny (model prog w) A (.compLoop (.ListComp elt [⟨t1, i1, [], 0⟩, ⟨t2, i2, [], 0⟩] scope pos) 1 it acc env) R s := by
  refine codeAny_loop rfl I (fun n s hI => ?_) n h
  show wpAny _ A ((compTurn (.ListComp elt [⟨t1, i1, [], 0⟩, ⟨t2, i2, [], 0⟩] scope pos) 1 it acc env).onRaise (fun x => do noteFrame x env; theTreesLotGoes x)) _ _ s
  refine wpAny_noted ?_
  rw [turn_two1]
  refine wpAny_bind (wpAny_standAt (wpAny_bind (wpAny_mono (turn n s hI) (fun r s₁ q => ?_) fun _ _ x => x)))
  match r, q with
  | none, q => exact wpAny_pure q
  | some v, q =>
    refine wpAny_bind (wpAny_mono q (fun _ s₀ q => ?_) fun _ _ x => x)
    refine wpAny_bind (wpAny_mono q (fun _ s₂ q => ?_) fun _ _ x => x)
    refine wpAny_bind (wpAny_bind (wpAny_mono q (fun x s₄ q => ?_) fun _ _ x => x))
    exact wpAny_bind (wpAny_mono q (fun _ s₅ q => wpAny_pure (wpAny_pure ⟨rfl, q⟩)) fun _ _ x => x)
theorem loop_two0 {elt t1 i1 t2 i2 : Expr} {scope : Scope} {pos : Pos} {it acc : Value} {env : Env} {R : Result → Shared → Prop} (I : Nat → Shared → Prop) (hs : ∀ x, foldedSetIterable i2 env x = pure x)
    (turn : ∀ n s, I n s → wpAny (model prog w) A (pyNext it) (fun r s₁ => match r with
      | none => R (.ok .next) s₁
      | some v => wpAny (model prog w) A (letOwnedTupleGo t1 it v) (fun _ s₀ => wpAny (model prog w) A (assign t1 env v) (fun _ s₂ =>
          wpAny (model prog w) A (eval i2 env) (fun x s₃ => wpAny (model prog w) A (pyIter x) (fun it2 s₄ =>
            codeAny (model prog w) A (.compStart (.ListComp elt [⟨t1, i1, [], 0⟩, ⟨t2, i2, [], 0⟩] scope pos) 1 it2 acc env) (fun r s' => match r with | .ok _ => ∃ m, m < n ∧ I m s' | .error e => cameBackBy (model prog w) A env (notedBy (model prog w) A env fun e s' => R (.error e) s') e s') s₄)
            (notedBy (model prog w) A env fun e s' => R (.error e) s') s₃) (notedBy (model prog w) A env fun e s' => R (.error e) s') s₂)
          (notedBy (model prog w) A env fun e s' => R (.error e) s') s₀) (notedBy (model prog w) A env fun e s' => R (.error e) s') s₁) (notedBy (model prog w) A env fun e s' => R (.error e) s') s)
    (n : Nat) (h : I n s) : codeAny (model prog w) A (.compLoop (.ListComp elt [⟨t1, i1, [], 0⟩, ⟨t2, i2, [], 0⟩] scope pos) 0 it acc env) R s := by
  refine codeAny_loop rfl I (fun n s hI => ?_) n h
  show wpAny _ A ((compTurn (.ListComp elt [⟨t1, i1, [], 0⟩, ⟨t2, i2, [], 0⟩] scope pos) 0 it acc env).onRaise (fun x => do noteFrame x env; theTreesLotGoes x)) _ _ s
  refine wpAny_noted ?_
  rw [turn_two0]
  refine wpAny_bind (wpAny_standAt (wpAny_bind (wpAny_mono (turn n s hI) (fun r s₁ q => ?_) fun _ _ x => x)))
  match r, q with
  | none, q => exact wpAny_pure q
  | some v, q =>
    refine wpAny_bind (wpAny_mono q (fun _ s₀ q => ?_) fun _ _ x => x)
    refine wpAny_bind (wpAny_mono q (fun _ s₂ q => ?_) fun _ _ x => x)
    refine wpAny_bind (wpAny_mono q (fun x s₃ q => ?_) fun _ _ x => x)
    refine wpAny_bind (wpAny_standAt (wpAny_bind (wpAny_of_eq (hs x) ?_)))
    refine wpAny_bind (wpAny_holding (wpAny_mono q (fun it2 s₄ q => ?_) fun _ _ x => x))
    refine wpAny_bind (wpAny_runOwn (codeAny_mono q fun r s' q => ?_))
    cases r with
    | ok f => exact wpAny_pure ⟨rfl, q⟩
    | error e => exact q

/-- the points made so far. -/
noncomputable def PtsTo (n : Nat) (ys : List Value) (tl : List (Addr × Obj)) : Prop := ys.length = n ∧ ∀ k v, ys[k]? = some v → ∃ (a : Addr) (t u : Tok), v = .ref a ∧ (a, ({ cls := .type "tuple", data := .seq #[.int ((k / 4 : Nat) : Int) t, .int ((k % 4 : Nat) : Int) u] } : Obj)) ∈ tl
theorem PtsTo.snoc {n : Nat} {ys : List Value} {tl : List (Addr × Obj)} {a : Addr} {t u : Tok} (h : PtsTo n ys tl) : PtsTo (n + 1) (ys ++ [.ref a]) ((a, ({ cls := .type "tuple", data := .seq #[.int ((n / 4 : Nat) : Int) t, .int ((n % 4 : Nat) : Int) u] } : Obj)) :: tl) := by
  refine ⟨by rw [List.length_append, h.1]; rfl, fun k v e => ?_⟩
  by_cases hk : k < n
  · rw [List.getElem?_append_left (by rw [h.1]; exact hk)] at e
    obtain ⟨a', t', u', rfl, hm⟩ := h.2 k v e
    exact ⟨a', t', u', rfl, .tail _ hm⟩
  · have hl := (List.getElem?_eq_some_iff.mp e).1
    rw [List.length_append, h.1, List.length_singleton] at hl
    obtain rfl : k = n := by omega
    rw [List.getElem?_append_right (by rw [h.1]; exact Nat.le_refl _), h.1, Nat.sub_self] at e
    cases e
    exact ⟨a, t, u, rfl, .head _⟩

inductive PtsInv (h₀ : Heap) (L : Addr) (m : Str → Option Value) (s₂ : Shared) (I D C : Addr) (news : List (Addr × Obj)) (k : Nat) (s' : Shared) : Prop
  | mk (h' : Heap) (tk : Nat) (i : Nat) (ys : List Value) (tl : List (Addr × Obj)) (m' : Str → Option Value) (e1 : s' = { s₂ with heap := h', toks := tk }) (e2 : i ≤ 4) (e3 : k = 4 + 1 - i) (e4 : IsRangeIter h' I (0 + (i : Nat) * 1) ((4 : Nat) - (i : Nat)) 1) (e5 : Fr h₀ L h' m) (e6 : h'.Ns C m') (e7 : News h₀ L h' ((D, lst ys) :: (tl ++ news))) (e8 : (∀ p ∈ tl, D < p.1 ∧ p.1 ≠ C ∧ p.1 ≠ I)) (e9 : PtsTo (4 * i) ys tl) : PtsInv h₀ L m s₂ I D C news k s'
theorem pts_block {elt i1 i2 : Expr} {x y : Str} {px py : Pos} {scope : Scope} {cl : List (Str × Addr)} {pos : Pos} {s₂ : Shared} {I : Addr} {news : List (Addr × Obj)} {RR : Value → Addr → Result → Shared → Prop}
    (hh : A.handled = none) (hs : ∀ (c : Env) x, foldedSetIterable i2 c x = pure x) (hst : IsRangeIter s₂.heap I 0 4 1)
    (hcell : ∀ y ∈ scope.names, y.2 ≠ .cell) (hkind : scope.kind = .function) (hx : scope.names.lookup x = some .local) (hy : scope.names.lookup y = some .local) (hxy : x ≠ y)
    (F : Fr h₀ L s₂.heap m) (N : News h₀ L s₂.heap news) (hIL : I ≠ L) (hI₀ : h₀.get? I = none) (hnI : ∀ p ∈ news, p.1 ≠ I)
    (inner : ∀ h tk C led (E' : Value → Shared → Prop), Fr h₀ L h m → News h₀ L h led →
      wpAny (model prog w) A (eval i2 (compEnvC scope cl C env)) (fun xv s' => ∃ h' tk' r a b c, s' = { s₂ with heap := h', toks := tk' } ∧ xv = .ref r ∧ Fr h₀ L h' m ∧ News h₀ L h' led ∧ IsRange h' r 0 4 1 a b c) E' { s₂ with heap := h, toks := tk })
    (elem : ∀ h tk C oC led m₂ (i j : Int) ti tj (E' : Value → Shared → Prop), Fr h₀ L h m → News h₀ L h ((C, oC) :: led) → NsObj oC m₂ → m₂ x = some (.int i ti) → m₂ y = some (.int j tj) →
      wpAny (model prog w) A (eval elt (compEnvC scope cl C env)) (fun v s' => ∃ h' tk' T, s' = { s₂ with heap := h', toks := tk' } ∧ v = .ref T ∧ (∀ p ∈ (C, oC) :: led, p.1 < T) ∧ Fr h₀ L h' m ∧ News h₀ L h' ((T, ({ cls := .type "tuple", data := .seq #[.int i ti, .int j tj] } : Obj)) :: (C, oC) :: led)) E' { s₂ with heap := h, toks := tk })
    (hRR : ∀ D C h tk m' ys tl, Fr h₀ L h m → News h₀ L h ((D, lst ys) :: (tl ++ news)) → (∀ p ∈ news, p.1 < D) → (∀ p ∈ tl, D < p.1) → h.Ns C m' → h₀.get? C = none → C ≠ L → C ≠ D → (∀ p ∈ tl ++ news, p.1 ≠ C) → PtsTo 16 ys tl → RR (.ref D) C (.ok .next) { s₂ with heap := h, toks := tk }) :
    wpAny (model prog w) A (newList []) (fun acc s₃ => wpAny (model prog w) A (newFunctionEnv scope env.globals cl [] env.qual none .none (some env)) (fun cenv s₄ =>
      codeAny (model prog w) A (.compStart (.ListComp elt [⟨.Name x px, i1, [], 0⟩, ⟨.Name y py, i2, [], 0⟩] scope pos) 0 (.ref I) acc { cenv with scope := relabel scope env }) (RR acc cenv.locals) s₄) E s₃) E s₂ := by
  refine wpAny_newObj_type (wpAny_newFunctionEnv hcell (by intro y hy; simp at hy) (fun h₁ hns₁ hsb₁ => ?_) hkind)
  dsimp only at hns₁ hsb₁ ⊢
  have hD₀ : h₀.get? s₂.heap.objs.size = none := fresh_base F (Nat.le_refl _)
  have hC₀ : h₀.get? (s₂.heap.objs.size + 1) = none := fresh_base F (Nat.le_succ _)
  have hLlt : L < s₂.heap.objs.size := F.ns.lt
  have hIlt : I < s₂.heap.objs.size := Heap.lt_size hst
  have hDL : s₂.heap.objs.size ≠ L := fun e => Nat.lt_irrefl _ (e ▸ hLlt)
  have hpN : ∀ p ∈ news, p.1 < s₂.heap.objs.size := fun p hp => Heap.lt_size (N p hp).1
  generalize hH2 : s₂.heap.push { cls := .type "list", dict := none, data := .seq ([] : List Value).toArray } = H2 at hns₁ hsb₁ ⊢
  have hC : H2.objs.size = s₂.heap.objs.size + 1 := by rw [← hH2, Heap.size_push]
  rw [← hC] at hC₀
  have hDC : s₂.heap.objs.size < H2.objs.size := by rw [hC]; exact Nat.lt_succ_self _
  have old : ∀ b o, s₂.heap.get? b = some o → h₁.get? b = some o := fun b o e => hsb₁.extBut b o (Nat.ne_of_lt (Nat.lt_trans (Heap.lt_size e) hDC)) (Heap.get?_push_of_some _ (hH2 ▸ Heap.get?_push_of_some _ e))
  have hacc : h₁.get? s₂.heap.objs.size = some (lst []) := hsb₁.extBut _ _ (Nat.ne_of_lt hDC) (Heap.get?_push_of_some _ (hH2 ▸ Heap.get?_push_size _ rfl))
  generalize hDD : s₂.heap.objs.size = D at *
  generalize hCC : H2.objs.size = C at *
  have hCL : C ≠ L := fun e => Nat.lt_asymm hDC (e ▸ hLlt)
  have hCD : C ≠ D := Ne.symm (Nat.ne_of_lt hDC)
  have hID : I ≠ D := Nat.ne_of_lt hIlt
  have hIC : I ≠ C := Nat.ne_of_lt (Nat.lt_trans hIlt hDC)
  have hNC : ∀ p ∈ news, p.1 ≠ C := fun p hp => Nat.ne_of_lt (Nat.lt_trans (hpN p hp) hDC)
  have hND : ∀ p ∈ news, p.1 ≠ D := fun p hp => Nat.ne_of_lt (hpN p hp)
  have kfr : ∀ (h h' : Heap) (J : Addr), (∀ b o, b ≠ J → h.get? b = some o → h'.get? b = some o) → J ≠ L → h₀.get? J = none → Fr h₀ L h m → Fr h₀ L h' m := fun h h' J k hJ h0 F =>
    ⟨F.ns.at' fun o e => k L o (Ne.symm hJ) e, fun b o e => k b o (fun q => by rw [q, h0] at e; cases e) (F.keep b o e), F.above⟩
  have inner_loop : ∀ (i : Nat) (ti : Tok) (R : Result → Shared → Prop) (oI : Obj) (ys : List Value) (tl : List (Addr × Obj)) (m' : Str → Option Value) (h : Heap) (tk : Nat) (J : Addr), i < 4 → m' x = some (.int (i : Nat) ti) → IsRangeIter h J 0 4 1 → J ≠ L → h₀.get? J = none → J ≠ C → J ≠ D → J ≠ I → (∀ p ∈ tl ++ news, p.1 ≠ J) →
      Fr h₀ L h m → h.Ns C m' → News h₀ L h ((I, oI) :: (D, lst ys) :: (tl ++ news)) → (∀ p ∈ tl, D < p.1 ∧ p.1 ≠ C ∧ p.1 ≠ I) → PtsTo (4 * i) ys tl →
      (∀ ys' tl' m'' h' tk', Fr h₀ L h' m → h'.Ns C m'' → News h₀ L h' ((I, oI) :: (D, lst ys') :: (tl' ++ news)) → (∀ p ∈ tl', D < p.1 ∧ p.1 ≠ C ∧ p.1 ≠ I) → PtsTo (4 * (i + 1)) ys' tl' → R (.ok .next) { s₂ with heap := h', toks := tk' }) →
      codeAny (model prog w) A (.compLoop (.ListComp elt [⟨.Name x px, i1, [], 0⟩, ⟨.Name y py, i2, [], 0⟩] scope pos) 1 (.ref J) (.ref D) (compEnvC scope cl C env)) R { s₂ with heap := h, toks := tk } := by
    intro i ti R oI ys tl m' h tk J hi4 hm' hst hJL hJ₀ hJC hJD hJI hnJ F' hn' N' htl hP hR
    have W := Walks.range (prog := prog) (w := w) hh J 0 1 4
    refine loop_two1 (fun k s' => ∃ h' tk' j ys' tl' m'', s' = { s₂ with heap := h', toks := tk' } ∧ j ≤ 4 ∧ k = 4 + 1 - j ∧ IsRangeIter h' J (0 + (j : Nat) * 1) ((4 : Nat) - (j : Nat)) 1 ∧ (∀ p ∈ tl' ++ news, p.1 ≠ J) ∧ Fr h₀ L h' m ∧ h'.Ns C m'' ∧ m'' x = some (.int (i : Nat) ti) ∧ News h₀ L h' ((I, oI) :: (D, lst ys') :: (tl' ++ news)) ∧ (∀ p ∈ tl', D < p.1 ∧ p.1 ≠ C ∧ p.1 ≠ I) ∧ PtsTo (4 * i + j) ys' tl') ?_ (4 + 1)
      ⟨h, tk, 0, ys, tl, m', rfl, Nat.zero_le _, rfl, by simpa using hst, hnJ, F', hn', hm', N', htl, hP⟩
    rintro k s' ⟨h', tk', j, ys', tl', m'', rfl, hj, rfl, hst', hnJ', F₂, hn₂, hm₂, N₂, htl', hP'⟩
    by_cases hlt : j < 4
    · refine W.item j _ _ _ hlt hst' fun v h₃ tk₃ hPv hst₃ hk₃ => ?_
      obtain ⟨tj, rfl⟩ := hPv
      have k₃ : ∀ b o, b ≠ J → h'.get? b = some o → h₃.get? b = some o := fun b o hb e => hk₃ b o (by simpa using hb) e
      refine wpAny_pure ?_
      refine wpAny_assign_Name (wpAny_storeName_local (lookup_relabel_local hy) (hn₂.at' fun o e => k₃ _ o (Ne.symm hJC) e) (fun h₄ hn₄ hs₄ => ?_) (by simp [compEnvC, relabel, hkind]))
      obtain ⟨oC, heC, hoC⟩ := ns_obj hn₄
      obtain ⟨oJ, heJ, hoJ⟩ : ∃ oJ : Obj, h₄.get? J = some oJ ∧ ∀ g : Heap, g.get? J = some oJ → IsRangeIter g J (0 + ((j + 1 : Nat) : Nat) * 1) ((4 : Nat) - ((j + 1 : Nat) : Nat)) 1 := ⟨_, hs₄.extBut J _ hJC hst₃, fun g e => e⟩
      have up : ∀ b o, b ≠ J → b ≠ C → h'.get? b = some o → h₄.get? b = some o := fun b o h1 h2 e => hs₄.extBut b o h2 (k₃ b o h1 e)
      have F₄ : Fr h₀ L h₄ m := (kfr _ _ J k₃ hJL hJ₀ F₂).change hs₄ hCL hC₀
      have N₄ : News h₀ L h₄ ((C, oC) :: (J, oJ) :: (I, oI) :: (D, lst ys') :: (tl' ++ news)) := fun p hp => by
        rcases List.mem_cons.mp hp with rfl | hp
        · exact ⟨heC, hCL, hC₀⟩
        rcases List.mem_cons.mp hp with rfl | hp
        · exact ⟨heJ, hJL, hJ₀⟩
        have z := N₂ p hp
        refine ⟨up _ _ ?_ ?_ z.1, z.2⟩
        · rcases List.mem_cons.mp hp with rfl | hp
          · exact Ne.symm hJI
          rcases List.mem_cons.mp hp with rfl | hp
          · exact Ne.symm hJD
          · exact hnJ' p hp
        · rcases List.mem_cons.mp hp with rfl | hp
          · exact hIC
          rcases List.mem_cons.mp hp with rfl | hp
          · exact Ne.symm hCD
          rcases List.mem_append.mp hp with hp | hp
          · exact (htl' p hp).2.1
          · exact hNC p hp
      refine wpAny_mono (elem h₄ _ C oC _ _ (i : Nat) (0 + (j : Nat) * 1) ti tj _ F₄ N₄ hoC (by simp [hxy, hm₂]) (by simp)) (fun v s' q => ?_) fun _ _ e => e
      obtain ⟨h₅, tk₅, T, rfl, rfl, hT, F₅, N₅⟩ := q
      have zD := (N₅ (D, lst ys') (.tail _ (.tail _ (.tail _ (.tail _ (.head _)))))).1
      refine append_at (hsz := by show ys'.toArray.size ≤ sizeLine; rw [List.size_toArray, hP'.1, sizeLine_eq]; omega) zD fun h₆ hs₆ hD₆ => ?_
      have zJ := (N₅ (J, oJ) (.tail _ (.tail _ (.head _)))).1
      have zC := (N₅ (C, oC) (.tail _ (.head _))).1
      have hTD : D < T := hT (D, lst ys') (.tail _ (.tail _ (.tail _ (.head _))))
      refine ⟨4 + 1 - (j + 1), by omega, h₆, tk₅, j + 1, ys' ++ [.ref T], (T, ({ cls := .type "tuple", data := .seq #[.int ((i : Nat) : Int) ti, .int (0 + ((j : Nat) : Int) * 1) tj] } : Obj)) :: tl', _, rfl, hlt, rfl, hoJ _ (hs₆.extBut _ _ hJD zJ), ?_, F₅.change hs₆ hDL hD₀, (hoC.ns zC).sameBut hs₆ hCD, by simp [hxy, hm₂], fun p hp => ?_, ?_, ?_⟩
      · intro p hp
        rcases List.mem_append.mp hp with hp | hp
        · rcases List.mem_cons.mp hp with rfl | hp
          · exact Ne.symm (Nat.ne_of_lt (hT (J, oJ) (.tail _ (.head _))))
          · exact hnJ' p (List.mem_append_left _ hp)
        · exact hnJ' p (List.mem_append_right _ hp)
      · rcases List.mem_cons.mp hp with rfl | hp
        · have z := N₅ (I, oI) (.tail _ (.tail _ (.tail _ (.head _))))
          exact ⟨hs₆.extBut _ _ hID z.1, z.2⟩
        rcases List.mem_cons.mp hp with rfl | hp
        · exact ⟨hD₆.trans (congrArg some (lst_snoc ys' (.ref T))), hDL, hD₀⟩
        rcases List.mem_append.mp hp with hp | hp
        · rcases List.mem_cons.mp hp with rfl | hp
          · have z := N₅ _ (.head _)
            exact ⟨hs₆.extBut _ _ (Ne.symm (Nat.ne_of_lt hTD)) z.1, z.2⟩
          · have z := N₅ p (.tail _ (.tail _ (.tail _ (.tail _ (.tail _ (List.mem_append_left _ hp))))))
            exact ⟨hs₆.extBut _ _ (Ne.symm (Nat.ne_of_lt (htl' p hp).1)) z.1, z.2⟩
        · have z := N₅ p (.tail _ (.tail _ (.tail _ (.tail _ (.tail _ (List.mem_append_right _ hp))))))
          exact ⟨hs₆.extBut _ _ (hND p hp) z.1, z.2⟩
      · intro p hp
        rcases List.mem_cons.mp hp with rfl | hp
        · exact ⟨hTD, Ne.symm (Nat.ne_of_lt (hT (C, oC) (.head _))), Ne.symm (Nat.ne_of_lt (hT (I, oI) (.tail _ (.tail _ (.head _)))))⟩
        · exact htl' p hp
      · have q := PtsTo.snoc (a := T) (t := ti) (u := tj) hP'
        rw [show (4 * i + j) / 4 = i by omega, show (4 * i + j) % 4 = j by omega] at q
        rw [show (0 : Int) + (j : Nat) * 1 = ((j : Nat) : Int) by omega]
        exact q
    · obtain rfl : j = 4 := by omega
      refine W.done _ _ _ hst' fun h₃ tk₃ hk₃ => ?_
      have k₃ : ∀ b o, b ≠ J → h'.get? b = some o → h₃.get? b = some o := fun b o hb e => hk₃ b o (by simpa using hb) e
      refine hR ys' tl' m'' h₃ tk₃ (kfr _ _ J k₃ hJL hJ₀ F₂) (hn₂.at' fun o e => k₃ _ o (Ne.symm hJC) e) (fun p hp => ?_) htl' (by rw [show 4 * (i + 1) = 4 * i + 4 by omega]; exact hP')
      have z := N₂ p hp
      refine ⟨k₃ _ _ ?_ z.1, z.2⟩
      rcases List.mem_cons.mp hp with rfl | hp
      · exact Ne.symm hJI
      rcases List.mem_cons.mp hp with rfl | hp
      · exact Ne.symm hJD
      · exact hnJ' p hp
  have W := Walks.range (prog := prog) (w := w) hh I 0 1 4
  have loop : ∀ s₃ : Shared, s₃ = { s₂ with heap := h₁, toks := s₂.toks + ([] : List (Str × Value)).length } →
      codeAny (model prog w) A (.compLoop (.ListComp elt [⟨.Name x px, i1, [], 0⟩, ⟨.Name y py, i2, [], 0⟩] scope pos) 0 (.ref I) (.ref D) (compEnvC scope cl C env)) (RR (.ref D) C) s₃ := by
    rintro s₃ rfl
    refine loop_two0 (PtsInv h₀ L m s₂ I D C news) (hs _) ?_ (4 + 1)
      ⟨h₁, _, 0, [], [], _, rfl, Nat.zero_le _, rfl, by simpa using old _ _ hst, F.keeps old, hns₁, fun p hp => ?_, (fun p hp => nomatch hp), ⟨rfl, fun k v e => by simp at e⟩⟩
    · rintro k s' ⟨h', tk, i, ys, tl, m', rfl, hi, rfl, hst', F', hn', N', htl, hP⟩
      by_cases hlt : i < 4
      · refine W.item i _ _ _ hlt hst' fun v h₃ tk₃ hPv hst₃ hk₃ => ?_
        obtain ⟨ti, rfl⟩ := hPv
        have k₃ : ∀ b o, b ≠ I → h'.get? b = some o → h₃.get? b = some o := fun b o hb e => hk₃ b o (by simpa using hb) e
        refine wpAny_pure ?_
        refine wpAny_assign_Name (wpAny_storeName_local (lookup_relabel_local hx) (hn'.at' fun o e => k₃ _ o (Ne.symm hIC) e) (fun h₄ hn₄ hs₄ => ?_) (by simp [compEnvC, relabel, hkind]))
        obtain ⟨oC, heC, hoC⟩ := ns_obj hn₄
        obtain ⟨oI, heI, hoI⟩ : ∃ oI : Obj, h₄.get? I = some oI ∧ ∀ g : Heap, g.get? I = some oI → IsRangeIter g I (0 + ((i + 1 : Nat) : Nat) * 1) ((4 : Nat) - ((i + 1 : Nat) : Nat)) 1 := ⟨_, hs₄.extBut I _ hIC hst₃, fun g e => e⟩
        have F₄ : Fr h₀ L h₄ m := (kfr _ _ I k₃ hIL hI₀ F').change hs₄ hCL hC₀
        have N₄ : News h₀ L h₄ ((C, oC) :: (I, oI) :: (D, lst ys) :: (tl ++ news)) := fun p hp => by
          rcases List.mem_cons.mp hp with rfl | hp
          · exact ⟨heC, hCL, hC₀⟩
          rcases List.mem_cons.mp hp with rfl | hp
          · exact ⟨heI, hIL, hI₀⟩
          have z := N' p hp
          refine ⟨hs₄.extBut _ _ ?_ (k₃ _ _ ?_ z.1), z.2⟩
          · rcases List.mem_cons.mp hp with rfl | hp
            · exact Ne.symm hCD
            rcases List.mem_append.mp hp with hp | hp
            · exact (htl p hp).2.1
            · exact hNC p hp
          · rcases List.mem_cons.mp hp with rfl | hp
            · exact Ne.symm hID
            rcases List.mem_append.mp hp with hp | hp
            · exact (htl p hp).2.2
            · exact hnI p hp
        refine wpAny_mono (inner h₄ _ C _ _ F₄ N₄) (fun xv s' q => ?_) fun _ _ e => e
        obtain ⟨h₅, tk₅, r, ra, rb, rc, rfl, rfl, F₅, N₅, hr⟩ := q
        refine wpAny_pyIter_range hr (by decide) ?_
        have lt5 : ∀ p ∈ (C, oC) :: (I, oI) :: (D, lst ys) :: (tl ++ news), p.1 < h₅.objs.size := fun p hp => Heap.lt_size (N₅ p hp).1
        have hL5 : L < h₅.objs.size := F₅.ns.lt
        have up5 : ∀ b o, h₅.get? b = some o → (h₅.push { cls := .type "range_iterator", data := .fields #[rawInt 0, rawInt (Builtin.Range.rangeSize 0 4 1), rawInt 1] }).get? b = some o := fun b o e => Heap.get?_push_of_some _ e
        have hJ : IsRangeIter (h₅.push { cls := .type "range_iterator", data := .fields #[rawInt 0, rawInt (Builtin.Range.rangeSize 0 4 1), rawInt 1] }) h₅.objs.size 0 4 1 := Heap.get?_push_size _ rfl
        have zC := (N₅ (C, oC) (.head _)).1
        have L5 := inner_loop i ti (fun r s' => match r with | .ok _ => ∃ k, k < 4 + 1 - i ∧ PtsInv h₀ L m s₂ I D C news k s' | .error e => cameBackBy (model prog w) A (compEnvC scope cl C env) (notedBy (model prog w) A (compEnvC scope cl C env) fun e s' => RR (.ref D) C (.error e) s') e s')
          oI ys tl _ _ tk₅ h₅.objs.size hlt (by simp) hJ (Ne.symm (Nat.ne_of_lt hL5)) (fresh_base F₅ (Nat.le_refl _)) (Ne.symm (Nat.ne_of_lt (lt5 _ (.head _)))) (Ne.symm (Nat.ne_of_lt (lt5 _ (.tail _ (.tail _ (.head _)))))) (Ne.symm (Nat.ne_of_lt (lt5 _ (.tail _ (.head _))))) (fun p hp => Nat.ne_of_lt (lt5 p (.tail _ (.tail _ (.tail _ hp))))) (F₅.keeps up5) (hoC.ns (up5 _ _ zC)) (fun p hp => ⟨up5 _ _ (N₅ p (.tail _ hp)).1, (N₅ p (.tail _ hp)).2⟩) htl hP
          (fun ys' tl' m'' h' tk' F'' hn'' N'' htl'' hP'' => ⟨4 + 1 - (i + 1), by omega, h', tk', i + 1, ys', tl', m'', rfl, hlt, rfl, hoI _ (N'' _ (.head _)).1, F'', hn'', fun p hp => N'' p (.tail _ hp), htl'', hP''⟩)
        exact start_two1 L5 (wpAny_pyIter_rangeiter hJ L5)
      · obtain rfl : i = 4 := by omega
        refine W.done _ _ _ hst' fun h₂ tk₂ hk₂ => ?_
        have k₃ : ∀ b o, b ≠ I → h'.get? b = some o → h₂.get? b = some o := fun b o hb e => hk₂ b o (by simpa using hb) e
        refine hRR D C h₂ tk₂ m' ys tl (kfr _ _ I k₃ hIL hI₀ F') (fun p hp => ?_) hpN (fun p hp => (htl p hp).1) (hn'.at' fun o e => k₃ _ o (Ne.symm hIC) e) hC₀ hCL hCD ?_ hP
        · have z := N' p hp
          refine ⟨k₃ _ _ ?_ z.1, z.2⟩
          rcases List.mem_cons.mp hp with rfl | hp
          · exact Ne.symm hID
          rcases List.mem_append.mp hp with hp | hp
          · exact (htl p hp).2.2
          · exact hnI p hp
        · intro p hp
          rcases List.mem_append.mp hp with hp | hp
          · exact (htl p hp).2.1
          · exact hNC p hp
    · rcases List.mem_cons.mp hp with rfl | hp
      · exact ⟨hacc, hDL, hD₀⟩
      · exact ⟨old _ _ (N p hp).1, (N p hp).2⟩
  have hst1 : IsRangeIter h₁ I 0 4 1 := old _ _ hst
  exact codeAny_compStart_list (loop _ rfl) (wpAny_pyIter_rangeiter hst1 (loop _ rfl))
inductive PtsSrc (prog : Program) (w : World) (A : Around) (h₀ : Heap) (L : Addr) (m : Str → Option Value) (env : Env) (elt i2 : Expr) (x y : Str) (scope : Scope) (cl : List (Str × Addr)) (Q : Value → Shared → Prop) (xv : Value) (s₁ : Shared) : Prop
  | mk (r : Addr) (a : Tok) (b : Tok) (c : Tok) (news : List (Addr × Obj)) (e1 : xv = .ref r) (e2 : A.handled = none) (e3 : IsRange s₁.heap r 0 4 1 a b c) (e4 : Fr h₀ L s₁.heap m) (e5 : News h₀ L s₁.heap news) (e6 : (∀ s₂ : Shared, (∃ g, s₂ = { s₁ with heap := g }) → ∀ h tk C led (E' : Value → Shared → Prop), Fr h₀ L h m → News h₀ L h led →       wpAny (model prog w) A (eval i2 (compEnvC scope cl C env)) (fun xv s' => ∃ h' tk' r a b c, s' = { s₂ with heap := h', toks := tk' } ∧ xv = .ref r ∧ Fr h₀ L h' m ∧ News h₀ L h' led ∧ IsRange h' r 0 4 1 a b c) E' { s₂ with heap := h, toks := tk })) (e7 : (∀ s₂ : Shared, (∃ g, s₂ = { s₁ with heap := g }) → ∀ h tk C oC led m₂ (i j : Int) ti tj (E' : Value → Shared → Prop), Fr h₀ L h m → News h₀ L h ((C, oC) :: led) → NsObj oC m₂ → m₂ x = some (.int i ti) → m₂ y = some (.int j tj) →       wpAny (model prog w) A (eval elt (compEnvC scope cl C env)) (fun v s' => ∃ h' tk' T, s' = { s₂ with heap := h', toks := tk' } ∧ v = .ref T ∧ (∀ p ∈ (C, oC) :: led, p.1 < T) ∧ Fr h₀ L h' m ∧ News h₀ L h' ((T, ({ cls := .type "tuple", data := .seq #[.int i ti, .int j tj] } : Obj)) :: (C, oC) :: led)) E' { s₂ with heap := h, toks := tk })) (e8 : (∀ D h tk ys tl, Fr h₀ L h m → News h₀ L h ((D, lst ys) :: (tl ++ news)) → (∀ p ∈ news, p.1 < D) → (∀ p ∈ tl, D < p.1) → PtsTo 16 ys tl → Q (.ref D) { s₁ with heap := h, toks := tk })) : PtsSrc prog w A h₀ L m env elt i2 x y scope cl Q xv s₁
theorem ListComp_pts {elt i1 i2 : Expr} {x y : Str} {px py : Pos} {scope : Scope} {cl : List (Str × Addr)} {pos : Pos} {Q : Value → Shared → Prop} (uF₀ : Fr h₀ L s.heap m)
    (hclos : closureFor scope env = pure cl) (hcell : ∀ y ∈ scope.names, y.2 ≠ .cell) (hkind : scope.kind = .function)
    (hnames : ∀ y ∈ scope.names, y.2 = .local → scope.names.lookup y.1 = some .local) (hx : scope.names.lookup x = some .local) (hy : scope.names.lookup y = some .local) (hxy : x ≠ y)
    (h : wpAny (model prog w) A (eval i1 env) (PtsSrc prog w A h₀ L m env elt i2 x y scope cl Q) E s)
    (hs : ∀ x, foldedSetIterable i1 env x = pure x := by intro _; rfl) (hs2 : ∀ (c : Env) x, foldedSetIterable i2 c x = pure x := by intro _ _; rfl) :
    wpAny (model prog w) A (eval (.ListComp elt [⟨.Name x px, i1, [], 0⟩, ⟨.Name y py, i2, [], 0⟩] scope pos) env) Q E s := by
  rw [eval_ListComp]
  refine wpAny_comprehension_free (use := none) rfl hs hclos hkind hnames (wpAny_mono h (fun xv s₁ q => ?_) fun _ _ e => e)
  obtain ⟨r, a, b, c, news, rfl, hh, hr, F, N, inner, elem, fin⟩ := q
  refine wpAny_pyIter_range hr (by decide) ?_
  have hLs : L < s₁.heap.objs.size := F.ns.lt
  have up : ∀ b o, s₁.heap.get? b = some o → (s₁.heap.push { cls := .type "range_iterator", data := .fields #[rawInt 0, rawInt (Builtin.Range.rangeSize 0 4 1), rawInt 1] }).get? b = some o := fun b o e => Heap.get?_push_of_some _ e
  refine pts_block hh hs2 (Heap.get?_push_size _ rfl) hcell hkind hx hy hxy (F.keeps up) (N.grown up) (Ne.symm (Nat.ne_of_lt hLs)) (fresh_base F (Nat.le_refl _)) (fun p hp => Nat.ne_of_lt (Heap.lt_size (N p hp).1)) (inner _ ⟨_, rfl⟩) (elem _ ⟨_, rfl⟩) ?_
  intro D C h tk m' ys tl F' N' lt ltl hn hC₀ hCL hCD hNC hP
  refine ⟨m', hn, fun h'' hs'' => fin D h'' tk ys tl (F'.change hs'' hCL hC₀) (fun p hp => ⟨hs''.extBut _ _ ?_ (N' p hp).1, (N' p hp).2⟩) lt ltl hP⟩
  rcases List.mem_cons.mp hp with rfl | hp
  · exact Ne.symm hCD
  · exact hNC p hp
end
end Mine
namespace Mine
section
open PyProof.Rows.LCg
variable {prog : Program} {w : World} {A : Around} {E : Value → Shared → Prop} {s : Shared} {h₀ : Heap} {L : Addr} {m : Str → Option Value} {env : Env}
/-- a made list, about to be stored under a name. -/
inductive AsgQ (h₀ : Heap) (L : Addr) (m : Str → Option Value) (y : Str) (Q : Flow → Shared → Prop) (v : Value) (s' : Shared) : Prop
  | mk (D : Addr) (ys : List Value) (news : List (Addr × Obj)) (e1 : v = .ref D) (e2 : (∀ p ∈ news, p.1 < D)) (e3 : Fr h₀ L s'.heap m) (e4 : News h₀ L s'.heap ((D, lst ys) :: news)) (e5 : ∀ h tk, Fr h₀ L h (fun z => if z = y then some (.ref D) else m z) → News h₀ L h ((D, lst ys) :: news) → Q .next { s' with heap := h, toks := tk }) : AsgQ h₀ L m y Q v s'
theorem Assign_ListComp_K {target elt iter : Expr} {ifs : List Expr} {y : Str} {py : Pos} {scope : Scope} {cl : List (Str × Addr)} {pos spos : Pos} {Q : Flow → Shared → Prop} (uF₀ : Fr h₀ L s.heap m) (hLe : env.locals = L)
    (hsw : swapsWith (.ListComp elt [⟨target, iter, ifs, 0⟩] scope pos) (some (.Name y py)) spos.line env = pure true)
    (hclos : closureFor scope env = pure cl) (hcell : ∀ y ∈ scope.names, y.2 ≠ .cell) (hkind : scope.kind = .function)
    (hnames : ∀ y ∈ scope.names, y.2 = .local → scope.names.lookup y.1 = some .local)
    (hy : env.kindOf y = some .local) (hp : (env.scope.kind == .class || (env.scope.kind == .module && env.locals != env.globals)) = false)
    (h : wpAny (model prog w) A (eval iter env) (fun xv s₁ => wpAny (model prog w) A (pyIter xv) (SrcK prog w A h₀ L m env target elt ifs scope cl (AsgQ h₀ L m y Q)) E s₁) E s)
    (hs : ∀ x, foldedSetIterable iter env x = pure x := by intro _; rfl) :
    wpAny (model prog w) A (exec (.Assign [.Name y py] (.ListComp elt [⟨target, iter, ifs, 0⟩] scope pos) spos) env) Q E s := by
  subst hLe
  rw [exec_Assign_Name_used _ _ _ _ hsw]
  refine wpAny_bind (wpAny_standAt (wpAny_bind ?_))
  show wpAny _ A (do let _ ← comprehension (.ListComp elt [⟨target, iter, ifs, 0⟩] scope pos) scope env _ (newList []) false (eval iter env) (some (assign (.Name y py) env))) _ _ s
  refine wpAny_bind (wpAny_mono (wpAny_comprehension_free (use := some (assign (.Name y py) env)) (Q := fun _ s' => Q .next s') rfl hs hclos hkind hnames
    (wpAny_mono h (fun xv s₁ q => wpAny_mono q (fun it s₂ q => ?_) fun _ _ e => e) fun _ _ e => e)) (fun _ s' hq => wpAny_pure (wpAny_pure hq)) fun _ _ e => e)
  obtain ⟨I, fp, wr, n, P, Md, St, news, Inv, rfl, W, hself, hsz, hst, hfp, hLf, hwr, F, N, hnw, h0, hlen, turn, fin⟩ := q
  refine ck_block W hself hsz hcell hkind hst hfp hLf hwr F N hnw Inv h0 hlen turn ?_
  intro D C h tk m' ys F' N' lt hn hC₀ hCL hDC hNC hI
  obtain ⟨D', ys', news', e, lt', F₁, N₁, k⟩ := fin D h tk ys F' N' lt hI
  cases e
  show wpAny _ A (assign (.Name y py) env (.ref D)) _ _ _
  refine wpAny_assign_Name (wpAny_storeName_local hy F₁.ns (fun h₂ hn₂ hs₂ => ?_) hp)
  have hL₀ : h₀.get? env.locals = none := Heap.get?_none_of_le F₁.above
  have F₂ : Fr h₀ env.locals h₂ (fun z => if z = y then some (.ref D) else m z) := ⟨hn₂, fun b o e => hs₂.extBut b o (fun q => by rw [q, hL₀] at e; cases e) (F₁.keep b o e), F₁.above⟩
  refine ⟨m', hn.sameBut hs₂ hCL, fun h'' hs'' => k h'' _ (F₂.change hs'' hCL hC₀) (fun p hp => ?_)⟩
  refine ⟨hs''.extBut _ _ ?_ (hs₂.extBut _ _ (N₁ p hp).2.1 (N₁ p hp).1), (N₁ p hp).2⟩
  rcases List.mem_cons.mp hp with rfl | hp
  · exact Nat.ne_of_lt hDC
  · exact Nat.ne_of_lt (Nat.lt_trans (lt' p hp) hDC)

theorem Assign_ListComp_pts {elt i1 i2 : Expr} {x y z : Str} {px py pz : Pos} {scope : Scope} {cl : List (Str × Addr)} {pos spos : Pos} {Q : Flow → Shared → Prop} (uF₀ : Fr h₀ L s.heap m) (hLe : env.locals = L)
    (hsw : swapsWith (.ListComp elt [⟨.Name x px, i1, [], 0⟩, ⟨.Name y py, i2, [], 0⟩] scope pos) (some (.Name z pz)) spos.line env = pure true)
    (hclos : closureFor scope env = pure cl) (hcell : ∀ y ∈ scope.names, y.2 ≠ .cell) (hkind : scope.kind = .function)
    (hnames : ∀ y ∈ scope.names, y.2 = .local → scope.names.lookup y.1 = some .local) (hx : scope.names.lookup x = some .local) (hy : scope.names.lookup y = some .local) (hxy : x ≠ y)
    (hz : env.kindOf z = some .local) (hp : (env.scope.kind == .class || (env.scope.kind == .module && env.locals != env.globals)) = false)
    (h : wpAny (model prog w) A (eval i1 env) (fun xv s₁ => ∃ r a b c news, xv = .ref r ∧ A.handled = none ∧ IsRange s₁.heap r 0 4 1 a b c ∧ Fr h₀ L s₁.heap m ∧ News h₀ L s₁.heap news ∧
      (∀ s₂ : Shared, (∃ g, s₂ = { s₁ with heap := g }) → ∀ h tk C led (E' : Value → Shared → Prop), Fr h₀ L h m → News h₀ L h led →
        wpAny (model prog w) A (eval i2 (compEnvC scope cl C env)) (fun xv s' => ∃ h' tk' r a b c, s' = { s₂ with heap := h', toks := tk' } ∧ xv = .ref r ∧ Fr h₀ L h' m ∧ News h₀ L h' led ∧ IsRange h' r 0 4 1 a b c) E' { s₂ with heap := h, toks := tk }) ∧
      (∀ s₂ : Shared, (∃ g, s₂ = { s₁ with heap := g }) → ∀ h tk C oC led m₂ (i j : Int) ti tj (E' : Value → Shared → Prop), Fr h₀ L h m → News h₀ L h ((C, oC) :: led) → NsObj oC m₂ → m₂ x = some (.int i ti) → m₂ y = some (.int j tj) →
        wpAny (model prog w) A (eval elt (compEnvC scope cl C env)) (fun v s' => ∃ h' tk' T, s' = { s₂ with heap := h', toks := tk' } ∧ v = .ref T ∧ (∀ p ∈ (C, oC) :: led, p.1 < T) ∧ Fr h₀ L h' m ∧ News h₀ L h' ((T, ({ cls := .type "tuple", data := .seq #[.int i ti, .int j tj] } : Obj)) :: (C, oC) :: led)) E' { s₂ with heap := h, toks := tk }) ∧
      (∀ D h tk ys tl, Fr h₀ L h (fun a => if a = z then some (.ref D) else m a) → News h₀ L h ((D, lst ys) :: (tl ++ news)) → (∀ p ∈ news, p.1 < D) → (∀ p ∈ tl, D < p.1) → PtsTo 16 ys tl → Q .next { s₁ with heap := h, toks := tk })) E s)
    (hs : ∀ x, foldedSetIterable i1 env x = pure x := by intro _; rfl) (hs2 : ∀ (c : Env) x, foldedSetIterable i2 c x = pure x := by intro _ _; rfl) :
    wpAny (model prog w) A (exec (.Assign [.Name z pz] (.ListComp elt [⟨.Name x px, i1, [], 0⟩, ⟨.Name y py, i2, [], 0⟩] scope pos) spos) env) Q E s := by
  subst hLe
  rw [exec_Assign_Name_used _ _ _ _ hsw]
  refine wpAny_bind (wpAny_standAt (wpAny_bind ?_))
  show wpAny _ A (do let _ ← comprehension (.ListComp elt [⟨.Name x px, i1, [], 0⟩, ⟨.Name y py, i2, [], 0⟩] scope pos) scope env _ (newList []) false (eval i1 env) (some (assign (.Name z pz) env))) _ _ s
  refine wpAny_bind (wpAny_mono (wpAny_comprehension_free (use := some (assign (.Name z pz) env)) (Q := fun _ s' => Q .next s') rfl hs hclos hkind hnames
    (wpAny_mono h (fun xv s₁ q => ?_) fun _ _ e => e)) (fun _ s' hq => wpAny_pure (wpAny_pure hq)) fun _ _ e => e)
  obtain ⟨r, a, b, c, news, rfl, hh, hr, F, N, inner, elem, fin⟩ := q
  refine wpAny_pyIter_range hr (by decide) ?_
  have hLs : env.locals < s₁.heap.objs.size := F.ns.lt
  have up : ∀ b o, s₁.heap.get? b = some o → (s₁.heap.push { cls := .type "range_iterator", data := .fields #[rawInt 0, rawInt (Builtin.Range.rangeSize 0 4 1), rawInt 1] }).get? b = some o := fun b o e => Heap.get?_push_of_some _ e
  refine pts_block hh hs2 (Heap.get?_push_size _ rfl) hcell hkind hx hy hxy (F.keeps up) (N.grown up) (Ne.symm (Nat.ne_of_lt hLs)) (fresh_base F (Nat.le_refl _)) (fun p hp => Nat.ne_of_lt (Heap.lt_size (N p hp).1)) (inner _ ⟨_, rfl⟩) (elem _ ⟨_, rfl⟩) ?_
  intro D C h tk m' ys tl F' N' lt ltl hn hC₀ hCL hCD hNC hP
  show wpAny _ A (assign (.Name z pz) env (.ref D)) _ _ _
  refine wpAny_assign_Name (wpAny_storeName_local hz F'.ns (fun h₂ hn₂ hs₂ => ?_) hp)
  have hL₀ : h₀.get? env.locals = none := Heap.get?_none_of_le F'.above
  have F₂ : Fr h₀ env.locals h₂ (fun a => if a = z then some (.ref D) else m a) := ⟨hn₂, fun b o e => hs₂.extBut b o (fun q => by rw [q, hL₀] at e; cases e) (F'.keep b o e), F'.above⟩
  refine ⟨m', hn.sameBut hs₂ hCL, fun h'' hs'' => fin D h'' _ ys tl (F₂.change hs'' hCL hC₀) (fun p hp => ⟨hs''.extBut _ _ ?_ (hs₂.extBut _ _ (N' p hp).2.1 (N' p hp).1), (N' p hp).2⟩) lt ltl hP⟩
  rcases List.mem_cons.mp hp with rfl | hp
  · exact Ne.symm hCD
  · exact hNC p hp
end
end Mine
namespace Mine
inductive Col
  | ints (ns : List Int)
  | bools (bs : List Bool)
noncomputable def ColIs (vs : List Value) : Col → Prop
  | .ints ns => IntsAre vs ns
  | .bools bs => vs = bs.map Value.bool
inductive RefsAre (led : List (Addr × Obj)) : List Value → List Col → Prop
  | nil : RefsAre led [] []
  | cons {a : Addr} {ws : List Value} {k : Nat} {c : Col} {vs : List Value} {cs : List Col} : (a, listOf ws.toArray k) ∈ led → ColIs ws c → RefsAre led vs cs → RefsAre led (.ref a :: vs) (c :: cs)
theorem RefsAre.mono {led led' : List (Addr × Obj)} {vs : List Value} {cs : List Col} (h : RefsAre led vs cs) (hs : ∀ p ∈ led, p ∈ led') : RefsAre led' vs cs := by
  induction h with
  | nil => exact .nil
  | cons hm hc _ ih => exact .cons (hs _ hm) hc ih
theorem RefsAre.length {led : List (Addr × Obj)} {vs : List Value} {cs : List Col} (h : RefsAre led vs cs) : vs.length = cs.length := by
  induction h with
  | nil => rfl
  | cons _ _ _ ih => simp [ih]
theorem RefsAre.at {led : List (Addr × Obj)} {vs : List Value} {cs : List Col} (h : RefsAre led vs cs) : ∀ {i : Nat} {c : Col}, cs[i]? = some c → ∃ a ws k, vs[i]? = some (.ref a) ∧ (a, listOf ws.toArray k) ∈ led ∧ ColIs ws c := by
  induction h with
  | nil => intro i c e; simp at e
  | @cons a ws k c' vs cs hm hc _ ih =>
    intro i c e
    cases i with
    | zero =>
      simp at e
      subst e
      exact ⟨a, ws, k, rfl, hm, hc⟩
    | succ i =>
      obtain ⟨a', ws', k', e', r⟩ := ih (i := i) (by simpa using e)
      exact ⟨a', ws', k', by simpa using e', r⟩
theorem RefsAre.snoc {led : List (Addr × Obj)} {vs : List Value} {cs : List Col} {a : Addr} {ws : List Value} {k : Nat} {c : Col} (h : RefsAre led vs cs) (hm : (a, listOf ws.toArray k) ∈ led) (hc : ColIs ws c) : RefsAre led (vs ++ [.ref a]) (cs ++ [c]) := by
  induction h with
  | nil => exact .cons hm hc .nil
  | cons hm' hc' _ ih => exact .cons hm' hc' ih
theorem RefsAre.unsnoc {led : List (Addr × Obj)} {vs : List Value} {cs : List Col} {c : Col} (h : RefsAre led vs (cs ++ [c])) : ∃ vs' a ws k, vs = vs' ++ [.ref a] ∧ (a, listOf ws.toArray k) ∈ led ∧ ColIs ws c ∧ RefsAre led vs' cs := by
  generalize e : cs ++ [c] = l at h
  induction h generalizing cs with
  | nil => simp at e
  | @cons a ws k c' vs l hm hc hr ih =>
    cases cs with
    | nil =>
      simp at e
      obtain ⟨rfl, rfl⟩ := e
      cases hr
      exact ⟨[], a, ws, k, rfl, hm, hc, .nil⟩
    | cons c2 cs2 =>
      simp at e
      obtain ⟨rfl, e⟩ := e
      obtain ⟨vs', a', ws', k', rfl, r1, r2, r3⟩ := ih e
      exact ⟨.ref a :: vs', a', ws', k', rfl, r1, r2, .cons hm hc r3⟩
theorem ints_unsnoc {vs : List Value} {ns : List Int} {n : Int} (h : IntsAre vs (ns ++ [n])) : ∃ vs' t, vs = vs' ++ [.int n t] ∧ IntsAre vs' ns := by
  generalize e : ns ++ [n] = l at h
  induction h generalizing ns with
  | nil => simp at e
  | cons n' t hr ih =>
    cases ns with
    | nil =>
      simp at e
      obtain ⟨rfl, rfl⟩ := e
      cases hr
      exact ⟨[], t, rfl, .nil⟩
    | cons c2 cs2 =>
      simp at e
      obtain ⟨rfl, e⟩ := e
      obtain ⟨vs', t', rfl, r3⟩ := ih e
      exact ⟨.int c2 t :: vs', t', rfl, .cons _ _ r3⟩
/-- a mark's deed upon two rows of ints. -/
noncomputable def opCol (m : Int) (as bs : List Int) : Option Col :=
  if m = 16 then some (.ints (List.zipWith (· * ·) as bs))
  else if m = 14 then some (.ints (List.zipWith (· + ·) as bs))
  else if m = 15 then some (.ints (List.zipWith (· - ·) as bs))
  else if m = 20 then some (.bools (List.zipWith (fun a b => decide (a < b)) as bs))
  else if m = 29 then some (.bools (List.zipWith (fun a b => decide (a ≤ b)) as bs))
  else if m = 21 then some (.bools (List.zipWith (fun a b => decide (b < a)) as bs))
  else if m = 30 then some (.bools (List.zipWith (fun a b => decide (b ≤ a)) as bs))
  else if m = 27 then some (.bools (List.zipWith (fun a b => a == b) as bs))
  else none
noncomputable def rankOf (m : Int) : Option Int := [(31, 4), (16, 3), (14, 2), (15, 2), (20, 1), (29, 1), (21, 1), (30, 1), ((27 : Int), (1 : Int))].lookup m
/-- the marks worked off before a sign of rank r. -/
inductive Reduce (r : Int) : List Int → List Col → List Int → List Col → Prop
  | none {vals : List Col} : Reduce r [] vals [] vals
  | stop {ms : List Int} {m k : Int} {vals : List Col} (h : rankOf m = some k) (hk : k < r) : Reduce r (ms ++ [m]) vals (ms ++ [m]) vals
  | inv {ms ms' : List Int} {vals vals' : List Col} {ns : List Int} (hk : r ≤ 4) (hl : ns.length = 16) : Reduce r ms (vals ++ [.ints (ns.map fun n => -n - 1)]) ms' vals' → Reduce r (ms ++ [31]) (vals ++ [.ints ns]) ms' vals'
  | op {ms ms' : List Int} {m k : Int} {vals vals' : List Col} {as bs : List Int} {c : Col} (h : rankOf m = some k) (hm : m ≠ 31) (hk : r ≤ k) (ho : opCol m as bs = some c) (ha : as.length = 16) (hb : bs.length = 16) (hba : ∀ a ∈ as, a.natAbs ≤ 1000000) (hbb : ∀ a ∈ bs, a.natAbs ≤ 1000000) : Reduce r ms (vals ++ [c]) ms' vals' → Reduce r (ms ++ [m]) (vals ++ [.ints as] ++ [.ints bs]) ms' vals'
inductive Runs (worths : List Col) : List Int → List Col → List Int → List Col → List Col → Prop
  | done {told : List Col} {marks : List Int} {vals : List Col} : Runs worths [] told marks vals told
  | push {k : Nat} {row : List Int} {told : List Col} {marks : List Int} {vals res : List Col} {c : Col} (hc : worths[k]? = some c) : Runs worths row told marks (vals ++ [c]) res → Runs worths ((256 + (k : Int)) :: row) told marks vals res
  | tell {s : Int} {row : List Int} {told : List Col} {marks marks' : List Int} {vals vals' res : List Col} {c : Col} (hs : s = 0 ∨ s = 19) (hr : Reduce 0 marks vals marks' (vals' ++ [c])) : Runs worths row (told ++ [c]) marks' vals' res → Runs worths (s :: row) told marks vals res
  | mark {s k : Int} {row : List Int} {told : List Col} {marks marks' : List Int} {vals vals' res : List Col} (hs : rankOf s = some k) (hr : Reduce k marks vals marks' vals') : Runs worths row told (marks' ++ [s]) vals' res → Runs worths (s :: row) told marks vals res
section
variable {prog : Program} {w : World} {A : Around} {E : Value → Shared → Prop} {s : Shared} {h₀ : Heap} {L d : Addr} {m : Str → Option Value} {o : Obj} {kvs : List (Int × Value)} {k : Int} {t : Tok} {v dflt : Value} {Q : Value → Shared → Prop}
theorem dict_item {value slice : PySem.Expr} (ho : s.heap.get? d = some o) (hd : o.IsDictOf (intKind prog w) kvs) (hv : valueAt kvs k = some v) (h : Q v { s with toks := s.toks + 1 })
    (hs : subscripted slice false (.ref d) (.int k t) = operate [.ref d, .int k t] (getItem (.ref d) (.int k t)) := by with_unfolding_all rfl) :
    wpAny (model prog w) A (subscriptTail value slice (.ref d) (.int k t)) Q E s :=
  have hm := (Heap.dictOf_iff.mpr ⟨o, ho, hd⟩).mapOf
  tail_any hm.typeIs slot_dict_getitem.lookup (wpAny_getItem_of (intKind_is prog w k t) hm hv h) hs
theorem dict_getD (ho : s.heap.get? d = some o) (hd : o.IsDictOf (intKind prog w) kvs) (lo : (d == sysModules) = false) (h : Q ((valueAt kvs k).getD dflt) { s with toks := s.toks + 1 }) :
    wpAny (model prog w) A (call (.builtin "dict.get") [.ref d, .int k t, dflt]) Q E s :=
  have hm := (Heap.dictOf_iff.mpr ⟨o, ho, hd⟩).mapOf
  call_meetsIn PySem.F.slot_dict_get hm.typeIs PySem.F.entry_dict_get (PySem.F.args_dict_get_3 _ _ _) (meets_dict_get_default (intKind prog w) d (intKind_is prog w k t) lo dflt) ⟨_, hm, h⟩
theorem item_last {value slice : PySem.Expr} {l : Addr} {vs : List Value} {x : Value} {u : Tok} (hl : s.heap.IsList l (vs ++ [x]).toArray) (h : Q x s)
    (hs : subscripted slice false (.ref l) (.int (-1) u) = operate [.ref l, .int (-1) u] (getItem (.ref l) (.int (-1) u)) := by with_unfolding_all rfl) (hg : ∀ r, letTemporaryGo value (.ref l) r = pure () := by intro _; with_unfolding_all rfl) :
    wpAny (model prog w) A (subscriptTail value slice (.ref l) (.int (-1) u)) Q E s :=
  subscriptTail_builtin hl.typeIs slot_list_getitem.lookup (wpAny_getItem_list_neg hl (by decide) (by simp; omega) (by decide) (by
    rw [show (-1 + (((vs ++ [x]).toArray.size : Nat) : Int)).toNat = vs.length by simp; omega]
    simp) h) hs hg
end
inductive RankPairs : List (Int × Value) → List (Int × Int) → Prop
  | nil : RankPairs [] []
  | cons {m k : Int} {t : Tok} {r : List (Int × Value)} {r' : List (Int × Int)} : RankPairs r r' → RankPairs ((m, .int k t) :: r) ((m, k) :: r')
theorem rank_find {kvs : List (Int × Value)} {ps : List (Int × Int)} (T : RankPairs kvs ps) (m : Int) : match ps.lookup m with
    | none => valueAt kvs m = none
    | some k => ∃ t, valueAt kvs m = some (.int k t) := by
  induction T with
  | nil => rfl
  | @cons n k t r r' _ ih =>
    rw [List.lookup_cons]
    unfold valueAt at ih ⊢
    rw [List.find?_cons]
    by_cases h : m = n
    · subst h
      simp
    · have h1 : (m == n) = false := by simpa using h
      have h2 : (decide (n = m)) = false := by simpa using fun e => h e.symm
      simp only [h1, h2]
      exact ih
theorem rank_getD {kvs : List (Int × Value)} {ps : List (Int × Int)} (T : RankPairs kvs ps) (m : Int) (t : Tok) : ∃ t', (valueAt kvs m).getD (.int 0 t) = .int ((ps.lookup m).getD 0) t' := by
  have := rank_find T m
  cases e : ps.lookup m with
  | none => rw [e] at this; dsimp only at this; rw [this]; exact ⟨t, rfl⟩
  | some k => rw [e] at this; obtain ⟨u, hu⟩ := this; rw [hu]; exact ⟨u, rfl⟩
inductive DeedPairs : List (Int × Value) → List (Int × Addr) → Prop
  | nil : DeedPairs [] []
  | cons {m : Int} {f : Addr} {r : List (Int × Value)} {r' : List (Int × Addr)} : DeedPairs r r' → DeedPairs ((m, .ref f) :: r) ((m, f) :: r')
theorem deed_find {kvs : List (Int × Value)} {ps : List (Int × Addr)} (T : DeedPairs kvs ps) {m : Int} {f : Addr} (h : ps.lookup m = some f) : valueAt kvs m = some (.ref f) := by
  induction T with
  | nil => cases h
  | @cons n g r r' _ ih =>
    rw [List.lookup_cons] at h
    unfold valueAt at ih ⊢
    rw [List.find?_cons]
    by_cases e : m = n
    · subst e
      simp at h
      simp [h]
    · have h1 : (m == n) = false := by simpa using e
      have h2 : (decide (n = m)) = false := by simpa using fun q => e q.symm
      simp only [h1, h2] at h ⊢
      exact ih h
noncomputable def rankPs : List (Int × Int) := [(31, 4), (16, 3), (14, 2), (15, 2), (20, 1), (29, 1), (21, 1), (30, 1), (27, 1)]
noncomputable def deedPs : List (Int × Addr) := [(16, 77), (14, 56), (15, 84), (20, 21), (29, 28), (21, 49), (30, 42), (27, 35)]
/-- what a mark's deed gives of two ints. -/
noncomputable def opEl (m a b : Int) (v : Value) : Prop :=
  if m = 16 then ∃ t, v = .int (a * b) t
  else if m = 14 then ∃ t, v = .int (a + b) t
  else if m = 15 then ∃ t, v = .int (a - b) t
  else if m = 20 then v = .bool (decide (a < b))
  else if m = 29 then v = .bool (decide (a ≤ b))
  else if m = 21 then v = .bool (decide (b < a))
  else if m = 30 then v = .bool (decide (b ≤ a))
  else if m = 27 then v = .bool (a == b)
  else False
theorem op_marks {m : Int} {as bs : List Int} {c : Col} (h : opCol m as bs = some c) : m = 16 ∨ m = 14 ∨ m = 15 ∨ m = 20 ∨ m = 29 ∨ m = 21 ∨ m = 30 ∨ m = 27 := by
  unfold opCol at h
  by_cases h1 : m = 16; · exact .inl h1
  by_cases h2 : m = 14; · exact .inr (.inl h2)
  by_cases h3 : m = 15; · exact .inr (.inr (.inl h3))
  by_cases h4 : m = 20; · exact .inr (.inr (.inr (.inl h4)))
  by_cases h5 : m = 29; · exact .inr (.inr (.inr (.inr (.inl h5))))
  by_cases h6 : m = 21; · exact .inr (.inr (.inr (.inr (.inr (.inl h6)))))
  by_cases h7 : m = 30; · exact .inr (.inr (.inr (.inr (.inr (.inr (.inl h7))))))
  by_cases h8 : m = 27; · exact .inr (.inr (.inr (.inr (.inr (.inr (.inr h8))))))
  rw [if_neg h1, if_neg h2, if_neg h3, if_neg h4, if_neg h5, if_neg h6, if_neg h7, if_neg h8] at h
  cases h
theorem claim_mono {w : World} {mean : ExcName → Option Value} {mg mb : Str → Option Value} {f : Addr} {news : List (Addr × Obj)} {dN uN : Nat} {vs : List Value} {pre : Nat → Prop} {post post' : Nat → Value → List (Addr × Obj) → Nat → Prop}
    (C : MClaim w mean mg mb f news dN uN vs pre post) (hp : ∀ t v own t', post t v own t' → post' t v own t') : MClaim w mean mg mb f news dN uN vs pre post' := by
  intro dp un gd cn cs a ccd cl outer A₀ base h₀ L m s Q E h1 h2 h3 h4 h5 h6 h7 h8 h9 k
  exact C dp un gd cn cs a ccd cl outer A₀ base h₀ L m s Q E h1 h2 h3 h4 h5 h6 h7 h8 h9 (fun v own h' tk' F N sep P => k v own h' tk' F N sep (hp _ _ _ _ P))
theorem deed_claim (w : World) (mean : ExcName → Option Value) (mg mb : Str → Option Value) {m : Int} {as bs : List Int} {c : Col} (h : opCol m as bs = some c) :
    ∃ f, deedPs.lookup m = some f ∧ keepIn (kHeap w.params) (.ref f) = true ∧ ∀ (news : List (Addr × Obj)) (a b : Int) (ta tb : Tok), a.natAbs ≤ 1000000 → b.natAbs ≤ 1000000 → MClaim w mean mg mb f news 1 8 [Value.int a ta, Value.int b tb] (fun tk => True) (fun tk v own tk' => opEl m a b v ∧ own = []) := by
  rcases op_marks h with rfl | rfl | rfl | rfl | rfl | rfl | rfl | rfl
  · exact ⟨77, rfl, by kernel_rfl, fun news a b ta tb ha hb => claim_mono (mul_claim w mean mg mb news a b ta tb ha hb) fun _ _ _ _ q => ⟨by simpa [opEl] using q.1, q.2⟩⟩
  · exact ⟨56, rfl, by kernel_rfl, fun news a b ta tb ha hb => claim_mono (add_claim w mean mg mb news a b ta tb) fun _ _ _ _ q => ⟨by simpa [opEl] using q.1, q.2⟩⟩
  · exact ⟨84, rfl, by kernel_rfl, fun news a b ta tb ha hb => claim_mono (sub_claim w mean mg mb news a b ta tb) fun _ _ _ _ q => ⟨by simpa [opEl] using q.1, q.2⟩⟩
  · exact ⟨21, rfl, by kernel_rfl, fun news a b ta tb ha hb => claim_mono (lt_claim w mean mg mb news a b ta tb) fun _ _ _ _ q => ⟨by simpa [opEl] using q.1, q.2⟩⟩
  · exact ⟨28, rfl, by kernel_rfl, fun news a b ta tb ha hb => claim_mono (le_claim w mean mg mb news a b ta tb) fun _ _ _ _ q => ⟨by simpa [opEl] using q.1, q.2⟩⟩
  · exact ⟨49, rfl, by kernel_rfl, fun news a b ta tb ha hb => claim_mono (gt_claim w mean mg mb news a b ta tb) fun _ _ _ _ q => ⟨by simpa [opEl] using q.1, q.2⟩⟩
  · exact ⟨42, rfl, by kernel_rfl, fun news a b ta tb ha hb => claim_mono (ge_claim w mean mg mb news a b ta tb) fun _ _ _ _ q => ⟨by simpa [opEl] using q.1, q.2⟩⟩
  · exact ⟨35, rfl, by kernel_rfl, fun news a b ta tb ha hb => claim_mono (eq_claim w mean mg mb news a b ta tb) fun _ _ _ _ q => ⟨by simpa [opEl] using q.1, q.2⟩⟩
theorem take_snoc {α : Type} {as : List α} {i : Nat} {a : α} (h : as[i]? = some a) : as.take (i + 1) = as.take i ++ [a] := by
  rw [List.take_add_one, h]; rfl
theorem zip_take {α β γ : Type} (f : α → β → γ) {as : List α} {bs : List β} {i : Nat} {a : α} {b : β} (ha : as[i]? = some a) (hb : bs[i]? = some b) : List.zipWith f (as.take (i + 1)) (bs.take (i + 1)) = List.zipWith f (as.take i) (bs.take i) ++ [f a b] := by
  rw [take_snoc ha, take_snoc hb, List.zipWith_append (by
    have h1 := (List.getElem?_eq_some_iff.mp ha).1
    have h2 := (List.getElem?_eq_some_iff.mp hb).1
    simp; omega)]
  rfl
noncomputable def OpInv (m : Int) (as bs : List Int) (i : Nat) (ys : List Value) : Prop := ∃ c, opCol m (as.take i) (bs.take i) = some c ∧ ColIs ys c ∧ ys.length = min i (min as.length bs.length)
theorem op_zero {m : Int} {as bs : List Int} {c : Col} (h : opCol m as bs = some c) : OpInv m as bs 0 [] := by
  rcases op_marks h with rfl | rfl | rfl | rfl | rfl | rfl | rfl | rfl
  all_goals exact ⟨_, rfl, by first | exact .nil | exact rfl, by simp⟩
theorem ints_snoc {vs : List Value} {ns : List Int} {v : Value} {n : Int} (h : IntsAre vs ns) (e : ∃ t, v = .int n t) : IntsAre (vs ++ [v]) (ns ++ [n]) := by
  obtain ⟨t, rfl⟩ := e
  exact intsSnoc h
theorem op_step {m : Int} {as bs : List Int} {c : Col} {i : Nat} {ys : List Value} {a b : Int} {v : Value} (h : opCol m as bs = some c) (hI : OpInv m as bs i ys) (ha : as[i]? = some a) (hb : bs[i]? = some b) (hv : opEl m a b v) : OpInv m as bs (i + 1) (ys ++ [v]) := by
  obtain ⟨c', hc', hy, hl⟩ := hI
  have h1 := (List.getElem?_eq_some_iff.mp ha).1
  have h2 := (List.getElem?_eq_some_iff.mp hb).1
  have hl' : (ys ++ [v]).length = min (i + 1) (min as.length bs.length) := by
    rw [List.length_append, List.length_singleton, hl]; omega
  rcases op_marks h with rfl | rfl | rfl | rfl | rfl | rfl | rfl | rfl
  · refine ⟨.ints (List.zipWith (· * ·) (as.take (i + 1)) (bs.take (i + 1))), rfl, ?_, hl'⟩
    cases hc'
    rw [zip_take _ ha hb]
    exact ints_snoc hy (by simpa [opEl] using hv)
  · refine ⟨.ints (List.zipWith (· + ·) (as.take (i + 1)) (bs.take (i + 1))), rfl, ?_, hl'⟩
    cases hc'
    rw [zip_take _ ha hb]
    exact ints_snoc hy (by simpa [opEl] using hv)
  · refine ⟨.ints (List.zipWith (· - ·) (as.take (i + 1)) (bs.take (i + 1))), rfl, ?_, hl'⟩
    cases hc'
    rw [zip_take _ ha hb]
    exact ints_snoc hy (by simpa [opEl] using hv)
  all_goals
    refine ⟨_, rfl, ?_, hl'⟩
    cases hc'
    have hy' : ys = _ := hy
    subst hy'
    simp [opEl] at hv
    subst hv
    show _ = _
    rw [zip_take _ ha hb, List.map_append]
    rfl
theorem op_done {m : Int} {as bs : List Int} {c : Col} {n : Nat} {ys : List Value} (h : opCol m as bs = some c) (ha : as.length = n) (hb : bs.length = n) (hI : OpInv m as bs n ys) : ColIs ys c ∧ ys.length = n := by
  obtain ⟨c', hc', hy, hl⟩ := hI
  rw [List.take_of_length_le (by omega), List.take_of_length_le (by omega), h] at hc'
  cases hc'
  exact ⟨hy, by rw [hl]; omega⟩
end Mine
namespace Mine
section
open PyProof.Rows.LCg
variable {prog : Program} {w : World} {A : Around} {E : Value → Shared → Prop} {s : Shared} {h₀ : Heap} {L : Addr} {m : Str → Option Value} {env : Env}
theorem CompEnd.mono' {s₁ : Shared} {I C D : Addr} {oI oC oD : Obj} {S : List (Addr × Obj) → Prop} {rest rest' : Value → List (Addr × Obj) → Prop} {y : Value} {s₂ : Shared} (h : ∀ y n, rest y n → rest' y n) (c : CompEnd h₀ L m s₁ I oI C oC D oD S rest y s₂) : CompEnd h₀ L m s₁ I oI C oC D oD S rest' y s₂ :=
  let ⟨h', tk, news', a, b, c, d, e, f⟩ := c
  ⟨h', tk, news', a, b, c, d, e, h _ _ f⟩
theorem rest_U {elt : Expr} {x : Str} {scope : Scope} {cl : List (Str × Addr)} {S : List (Addr × Obj) → Prop} {P : Nat → Value → Prop} {Fin : List Value → List (Addr × Obj) → Prop} (n : Nat) (Inv : Nat → List Value → List (Addr × Obj) → Prop)
    (turn : ∀ i ys news, i < n → Inv i ys news → ∀ v I oI C oC D m₂ h tk (E' : Value → Shared → Prop), P i v → NsObj oC m₂ → m₂ x = some v → Fr h₀ L h m → News h₀ L h ((I, oI) :: (C, oC) :: (D, lst ys) :: news) → Off3 I C D news → ((@Ne Nat I C) ∧ (@Ne Nat I D) ∧ (@Ne Nat C D)) →
      wpAny (model prog w) A (eval elt (compEnvC scope cl C env)) (CompEnd h₀ L m { s with heap := h, toks := tk } I oI C oC D (lst ys) S (fun y news' => Inv (i + 1) (ys ++ [y]) news')) E' { s with heap := h, toks := tk })
    (fin : ∀ ys news, Inv n ys news → Fin ys news) : ∀ k i ys news, i + k = n → Inv i ys news → CompRest prog w A h₀ L m env elt x scope cl s S P Fin k i ys news := by
  intro k
  induction k with
  | zero =>
    intro i ys news e h
    exact CompRest.zero (fin _ _ (by rw [← e]; exact h))
  | succ k ih =>
    intro i ys news e h
    refine CompRest.succ fun v I oI C oC D m₂ h' tk E' hP hNs hx F N off ne => ?_
    exact wpAny_mono (turn i ys news (by omega) h v I oI C oC D m₂ h' tk E' hP hNs hx F N off ne) (fun y s' c => CompEnd.mono' (fun y n hi => ih _ _ _ (by omega) hi) c) fun _ _ x => x
end
section
variable {prog : Program} {w : World} {A : Around} {E : Value → Shared → Prop} {Q : Flow → Shared → Prop} {s : Shared} {env : Env} {h₀ : Heap}

/-- the end of a turn of a for whose state is told by a datum c; own: what the iterator is made of. -/
inductive KtEnd {σ : Type} (h₀ : Heap) (L : Addr) (gg : Array GenState) (dd : Drawn) (oo : OsState) (Led : σ → List (Addr × Obj)) (ps : σ → List (Str × Value)) (stored : List Str) (m₀ : Str → Option Value) (Inv : Nat → σ → Prop) (own : List (Addr × Obj)) (wr : List Addr) (i : Nat) (f : Flow) (s₂ : Shared) : Prop
  | mk (e1 : f = .next) (c' : σ) (h' : Heap) (tk : Nat) (m' : Str → Option Value) (news' : List (Addr × Obj)) (e2 : s₂ = { heap := h', gens := gg, drawn := dd, toks := tk, os := oo }) (e3 : Fr h₀ L h' m') (e4 : News h₀ L h' news') (e5 : (∀ p ∈ Led c', p ∈ news')) (e6 : (∀ p ∈ own, p ∈ news')) (e7 : (∀ p ∈ Led c', p.1 ∉ wr)) (e8 : (∀ p ∈ ps c', m' p.1 = some p.2)) (e9 : (∀ z, (∀ p ∈ ps c', z ≠ p.1) → stored.contains z = false → m' z = m₀ z)) (e10 : Inv (i + 1) c') : KtEnd h₀ L gg dd oo Led ps stored m₀ Inv own wr i f s₂
/-- what a for loop of the walk is asked for, behind its iterator. -/
noncomputable abbrev ForAt (prog : Program) (w : World) (A : Around) (env : Env) (target : Expr) (body : List Stmt) (Q : Flow → Shared → Prop) (E : Value → Shared → Prop) (it : Value) (s₂ : Shared) : Prop :=
  codeAny (model prog w) A (.forLoop target it body [] env) (fun r s' => match r with | .ok f => Q f s' | .error e => cameBackBy (model prog w) A env E e s') s₂

theorem kt_st {σ : Type} {target : Expr} {body : List Stmt} {I : Addr} {fp wr : List Addr} {n : Nat} {P Md : Nat → Value → Heap → Prop} {St : Nat → Heap → Prop} {m₀ : Str → Option Value} (W : KTurns prog w A target I fp wr n P Md St)
    (Led : σ → List (Addr × Obj)) (ps : σ → List (Str × Value)) (stored : List Str) (Inv : Nat → σ → Prop) (c₀ : σ)
    (hLf : env.locals ∉ fp) (hwr : ∀ b ∈ wr, h₀.get? b = none) (hnw : ∀ p ∈ Led c₀, p.1 ∉ wr) (hst : St 0 s.heap) (F : Fr h₀ env.locals s.heap m₀) (N : News h₀ env.locals s.heap (Led c₀)) (hk : ∀ p ∈ ps c₀, m₀ p.1 = some p.2) (h0 : Inv 0 c₀)
    (hE : PassesOwn (model prog w) A env E)
    (turn : ∀ (i : Nat) (v : Value) (c : σ) (u : Str → Option Value) h tk own, i < n → P i v h → Inv i c → (∀ p ∈ Led c, p.1 ∉ wr) → (∀ p ∈ own, p.1 ∈ fp) → Fr h₀ env.locals h (kstB (fun z => if stored.contains z then u z else m₀ z) (ps c)) → News h₀ env.locals h (Led c ++ own) →
      wpAny (model prog w) A (assign target env v) (fun _ s₃ => wpAny (model prog w) A (execs body env) (KtEnd h₀ env.locals s.gens s.drawn s.os Led ps stored m₀ Inv own wr i) E s₃) E { s with heap := h, toks := tk })
    (done : ∀ (c : σ) (u : Str → Option Value) h tk, Inv n c → Fr h₀ env.locals h (kstB (fun z => if stored.contains z then u z else m₀ z) (ps c)) → News h₀ env.locals h (Led c) → Q .next { s with heap := h, toks := tk }) :
    ForAt prog w A env target body Q E (.ref I) s := by
  refine ktu_loop (R := fun r s' => match r with | .ok f => Q f s' | .error e => cameBackBy (model prog w) A env E e s') W hLf hwr hnw hst F N
    (fun i m news => ∃ c, news = Led c ∧ (∀ p ∈ ps c, m p.1 = some p.2) ∧ (∀ z, (∀ p ∈ ps c, z ≠ p.1) → stored.contains z = false → m z = m₀ z) ∧ Inv i c) ⟨c₀, rfl, hk, fun _ _ _ => rfl, h0⟩ ?_ ?_
  · rintro i v m₁ news₁ h₁ tk₁ own hi hP ⟨c, rfl, hk₁, hr₁, hI⟩ hnw₁ ho1 ho2 ho3 hst₁ F₁ N₁
    have N₂ : News h₀ env.locals h₁ (Led c ++ own) := fun p hp => N₁ p (by
      rcases List.mem_append.mp hp with hp | hp
      · exact List.mem_append_right _ hp
      · exact List.mem_append_left _ hp)
    refine wpAny_mono (wpAny_passesOwn hE (turn i v c m₁ h₁ tk₁ own hi hP hI hnw₁ ho1 (ksw_fr hk₁ hr₁ F₁) N₂)) (fun _ s₃ q => wpAny_mono (wpAny_passesOwn hE q) (fun f s₄ q => ?_) fun _ _ e => e) fun _ _ e => e
    obtain ⟨rfl, c', h', tk', m', news', rfl, F', N', hn, hown, hw', hk', hr', hI'⟩ := q
    refine ⟨rfl, h', tk', m', Led c', rfl, F', fun p hp => N' p ?_, hw', c', rfl, hk', hr', hI'⟩
    rcases List.mem_append.mp hp with hp | hp
    · exact hown p hp
    · exact hn p hp
  · rintro h' tk m' news' F' N' hnw' ⟨c, rfl, hk', hr', hI'⟩
    exact done c m' h' tk hI' (ksw_fr hk' hr' F') N'

theorem enum_st {σ : Type} {body : List Stmt} {xi xc : Str} {pk pv pt : Pos} {x1 : Nat} {l : Addr} {vs : List Value} {lk : Nat} {m₀ : Str → Option Value} (Led : σ → List (Addr × Obj)) (ps : σ → List (Str × Value)) (stored : List Str) (Inv : Nat → σ → Prop) (c₀ : σ)
    (hh : A.handled = none) (F : Fr h₀ env.locals s.heap m₀) (N : News h₀ env.locals s.heap (Led c₀)) (hm : (l, listOf vs.toArray lk) ∈ Led c₀) (hk : ∀ p ∈ ps c₀, m₀ p.1 = some p.2) (h0 : Inv 0 c₀)
    (hE : PassesOwn (model prog w) A env E) (ha : env.kindOf xi = some .local) (hb : env.kindOf xc = some .local) (hsc : (env.scope.kind == .class || (env.scope.kind == .module && env.locals != env.globals)) = false)
    (turn : ∀ (i : Nat) (v : Value) (t : Tok) (c : σ) (u : Str → Option Value) h tk own e it, vs[i]? = some v → Inv i c → (∀ p ∈ Led c, p.1 ∉ [e, it]) → (∀ p ∈ own, p.1 = e ∨ p.1 = it ∨ p.1 = l) → Fr h₀ env.locals h (fun z => if z = xc then some v else if z = xi then some (.int (i : Nat) t) else kstB (fun z => if stored.contains z then u z else m₀ z) (ps c) z) → News h₀ env.locals h (Led c ++ own) →
      wpAny (model prog w) A (execs body env) (KtEnd h₀ env.locals s.gens s.drawn s.os Led ps stored m₀ Inv own [e, it] i) E { s with heap := h, toks := tk })
    (done : ∀ (c : σ) (u : Str → Option Value) h tk, Inv vs.length c → Fr h₀ env.locals h (kstB (fun z => if stored.contains z then u z else m₀ z) (ps c)) → News h₀ env.locals h (Led c) → Q .next { s with heap := h, toks := tk }) :
    wpAny (model prog w) A (call (.type "enumerate") [.ref l]) (fun xv s₁ => wpAny (model prog w) A (pyIter xv) (fun it s₂ => ForAt prog w A env (.Tuple [.Name xi pk, .Name xc pv] x1 pt) body Q E it s₂) E s₁) E s := by
  have hax := N _ hm
  have hl : s.heap.IsList l vs.toArray := ⟨_, hax.1, rfl, _, rfl⟩
  have hlt : l < s.heap.objs.size := Heap.lt_size hax.1
  have hLs : env.locals < s.heap.objs.size := F.ns.lt
  refine call_enumerate_list hl fun h' hE' hI hsz hk' => ?_
  refine wpAny_pyIter_enum hE' ?_
  have W := (WalksT.enumerate (prog := prog) (w := w) hh (s.heap.objs.size + 1) s.heap.objs.size l (Nat.succ_ne_self _) (Nat.ne_of_lt (Nat.lt_succ_of_lt hlt)) (Nat.ne_of_lt hlt) vs.toArray).toU
  refine kt_st (KTurns.ofWalksU (elts := [.Name xi pk, .Name xc pv]) (k := x1) (pos := pt) W) Led ps stored Inv c₀ ?_ ?_ ?_ ⟨⟨.none, hE'⟩, hI, hl.at fun o e => hk' l o e⟩ (F.keeps hk') (N.grown hk') hk h0 hE ?_ (fun c u h tk hI' F' N' => done c u h tk (by simpa using hI') F' N')
  · intro hb
    simp only [List.mem_cons, List.not_mem_nil, or_false] at hb
    rcases hb with e | e | e
    · exact absurd (e ▸ hLs) (by simp +arith)
    · exact absurd (e ▸ hLs) (Nat.lt_irrefl _)
    · exact hax.2.1 e.symm
  · intro b hb
    simp only [List.mem_cons, List.not_mem_nil, or_false] at hb
    refine fresh_base F ?_
    rcases hb with rfl | rfl
    · exact Nat.le_succ _
    · exact Nat.le_refl _
  · intro p hp hb
    have := Heap.lt_size (N p hp).1
    simp only [List.mem_cons, List.not_mem_nil, or_false] at hb
    rcases hb with e | e
    · exact absurd (e ▸ this) (by simp +arith)
    · exact absurd (e ▸ this) (Nat.lt_irrefl _)
  · intro i v c u h tk own hi hP hI' hw ho F' N'
    obtain ⟨T, vals, rfl, ⟨t, x, hx, rfl⟩, hT⟩ := hP
    have hL₀ : h₀.get? env.locals = none := Heap.get?_none_of_le F'.above
    refine kcp_assign hh hT ha hb hsc F'.ns fun h₂ tk₂ hn₂ up => ?_
    have F₂ : Fr h₀ env.locals h₂ (fun z => if z = xc then some x else if z = xi then some (.int (i : Nat) t) else kstB (fun z => if stored.contains z then u z else m₀ z) (ps c) z) :=
      ⟨hn₂, fun b o e => up b o (fun q => by rw [q, hL₀] at e; cases e) (F'.keep b o e), F'.above⟩
    have N₂ : News h₀ env.locals h₂ (Led c ++ own) := fun p hp => ⟨up _ _ (N' p hp).2.1 (N' p hp).1, (N' p hp).2⟩
    exact turn i x t c u h₂ tk₂ own _ _ (by simpa using hx) hI' hw (fun p hp => by have := ho p hp; simpa using this) F₂ N₂

theorem range_st {σ : Type} {body : List Stmt} {x : Str} {px : Pos} {r : Addr} {a b : Int} {n : Nat} {t1 t2 t3 : Tok} {m₀ : Str → Option Value} (Led : σ → List (Addr × Obj)) (ps : σ → List (Str × Value)) (stored : List Str) (Inv : Nat → σ → Prop) (c₀ : σ)
    (hh : A.handled = none) (F : Fr h₀ env.locals s.heap m₀) (N : News h₀ env.locals s.heap (Led c₀)) (hr : IsRange s.heap r a b 1 t1 t2 t3) (hsm : Builtin.Range.small a b 1 = true) (hn : Builtin.Range.rangeSize a b 1 = ((n : Nat) : Int)) (hk : ∀ p ∈ ps c₀, m₀ p.1 = some p.2) (h0 : Inv 0 c₀)
    (hE : PassesOwn (model prog w) A env E) (ha : env.kindOf x = some .local) (hsc : (env.scope.kind == .class || (env.scope.kind == .module && env.locals != env.globals)) = false)
    (turn : ∀ (i : Nat) (t : Tok) (c : σ) (u : Str → Option Value) h tk own it, i < n → Inv i c → (∀ p ∈ Led c, p.1 ∉ [it]) → (∀ p ∈ own, p.1 = it) → Fr h₀ env.locals h (fun z => if z = x then some (.int (a + (i : Nat)) t) else kstB (fun z => if stored.contains z then u z else m₀ z) (ps c) z) → News h₀ env.locals h (Led c ++ own) →
      wpAny (model prog w) A (execs body env) (KtEnd h₀ env.locals s.gens s.drawn s.os Led ps stored m₀ Inv own [it] i) E { s with heap := h, toks := tk })
    (done : ∀ (c : σ) (u : Str → Option Value) h tk, Inv n c → Fr h₀ env.locals h (kstB (fun z => if stored.contains z then u z else m₀ z) (ps c)) → News h₀ env.locals h (Led c) → Q .next { s with heap := h, toks := tk }) :
    wpAny (model prog w) A (pyIter (.ref r)) (fun it s₂ => ForAt prog w A env (.Name x px) body Q E it s₂) E s := by
  have hLs : env.locals < s.heap.objs.size := F.ns.lt
  refine wpAny_pyIter_range hr hsm ?_
  have up : ∀ (o' : Obj) b o, s.heap.get? b = some o → (s.heap.push o').get? b = some o := fun o' b o e => Heap.get?_push_of_some _ e
  have W := Walks.range (prog := prog) (w := w) hh s.heap.objs.size a 1 n
  have K : KTurns prog w A (.Name x px) s.heap.objs.size [s.heap.objs.size] [s.heap.objs.size] n (fun i v _ => ∃ t, v = .int (a + (i : Nat) * 1) t) (fun i v h => (∃ t, v = .int (a + (i : Nat) * 1) t) ∧ IsRangeIter h s.heap.objs.size (a + ((i + 1 : Nat) : Nat) * 1) ((n : Int) - ((i + 1 : Nat) : Nat)) 1) (fun i h => IsRangeIter h s.heap.objs.size (a + (i : Nat) * 1) ((n : Int) - (i : Nat)) 1) :=
    { sub := W.sub, frame := W.frame, item := fun i s Q E hi st hQ => W.item i s Q E hi st fun v h' tk hP st' hk => hQ v h' tk ⟨hP, st'⟩ hk
      go := fun i v s Q E hm hQ => wpAny_pure (hQ s.heap hm.1 hm.2 fun _ _ _ e => e)
      done := W.done }
  refine kt_st K Led ps stored Inv c₀ ?_ ?_ ?_ ?_ (F.keeps (up _)) (N.grown (up _)) hk h0 hE ?_ done
  · intro hb
    exact absurd (List.mem_singleton.mp hb ▸ hLs) (Nat.lt_irrefl _)
  · intro b hb
    rw [List.mem_singleton.mp hb]
    exact fresh_base F (Nat.le_refl _)
  · intro p hp hb
    have := Heap.lt_size (N p hp).1
    rw [List.mem_singleton.mp hb] at this
    exact Nat.lt_irrefl _ this
  · show IsRangeIter _ _ _ _ _
    rw [hn]
    simpa using Heap.get?_push_size _ rfl
  · intro i v c u h tk own hi hP hI' hw ho F' N'
    obtain ⟨t, rfl⟩ := hP
    have hL₀ : h₀.get? env.locals = none := Heap.get?_none_of_le F'.above
    refine wpAny_assign_Name (wpAny_storeName_local ha F'.ns (fun h₂ hn₂ hs₂ => ?_) hsc)
    have F₂ : Fr h₀ env.locals h₂ (fun z => if z = x then some (.int (a + (i : Nat) * 1) t) else kstB (fun z => if stored.contains z then u z else m₀ z) (ps c) z) :=
      ⟨hn₂, fun b o e => hs₂.extBut b o (fun q => by rw [q, hL₀] at e; cases e) (F'.keep b o e), F'.above⟩
    have N₂ : News h₀ env.locals h₂ (Led c ++ own) := fun p hp => ⟨hs₂.extBut _ _ (N' p hp).2.1 (N' p hp).1, (N' p hp).2⟩
    rw [Int.mul_one] at F₂
    exact turn i t c u h₂ _ own _ hi hI' hw (fun p hp => by have := ho p hp; simpa using this) F₂ N₂
end
end Mine
namespace Mine
theorem and_claim (w : World) (mean : ExcName → Option Value) (mg mb : Str → Option Value) (news : List (Addr × Obj)) (a b : Nat) (ta tb : Tok) (ha : a < 65536) (hb : b < 65536) :
   MClaim w mean mg mb 63 news 1 8 [Value.int (a : Int) ta, Value.int (b : Int) tb] (fun tk => True) (fun tk v own tk' => (∃ t, v = .int (PySem.Builtin.bitAnd (a : Int) (b : Int)) t) ∧ own = []) := by
  dsimp only [MClaim]
  k_fill
  intros
  rename_i hret
  replace hret := Kont.mk hret
  refine wpAny_call ?_
  k_dflt cell_enter
  k_steps
  all_goals exact hret.out _ [] _ _ (by assumption) (by assumption) (fun _ _ _ hq => nomatch hq) ⟨⟨_, rfl⟩, rfl⟩
theorem contains_claim (w : World) (mean : ExcName → Option Value) (mg mb : Str → Option Value) (news : List (Addr × Obj)) (l : Addr) (vs : List Value) (k : Nat) (ns : List Int) (b : Int) (tb : Tok) (hm : (l, listOf vs.toArray k) ∈ news) (hI : IntsAre vs ns) (hl : ns.length ≤ 1000) :
   MClaim w mean mg mb 91 news 1 8 [Value.ref l, Value.int b tb] (fun tk => True) (fun tk v own tk' => v = .bool (ns.any (· == b)) ∧ own = []) := by
  dsimp only [MClaim]
  k_fill
  intros
  rename_i hret
  replace hret := Kont.mk hret
  refine wpAny_call ?_
  k_dflt cell_enter
  k_steps
  rename News _ _ _ _ => N9
  refine in_list_ints ⟨_, (N9 _ hm).1, rfl, _, rfl⟩ hI ?_
  k_steps
  all_goals exact hret.out _ [] _ _ (by assumption) (by assumption) (fun _ _ _ hq => nomatch hq) ⟨rfl, rfl⟩
end Mine
namespace Mine
theorem wpAny_inplaceOp_iadd {M : Model} {A : Around} {E : Value → Shared → Prop} {s : Shared} {a b : Value} {T id : String} {Q : Value → Shared → Prop} (ha : s.TypeIs a T) (hb : s.TypeIs b T)
    (hI : typeLookup (.type T) (dunderI "add") = pure (some (.builtin id))) (hS : isSeqSlot (some (.builtin id)) = true) (hfill : fillsNumberSlot (.type T) "add" = pure false)
    (hc : wpAny M A (call (.builtin id) [a, b]) Q E s) : wpAny M A (inplaceOp .Add a b) Q E s := by
  unfold inplaceOp
  refine wpAny_holding ?_
  have hfi : fillsInplaceSlot (.type T) "add" (Operator.Add == .Add) = pure false := by
    unfold fillsInplaceSlot
    show (typeLookup (.type T) (dunderI "add") >>= fun fi => pure (fi.isSome && !isSeqSlot fi)) = pure false
    rw [hI]
    show (pure (true && !isSeqSlot (some (.builtin id))) : Sem Bool) = pure false
    rw [hS]; rfl
  refine wpAny_bind (wpAny_typeOf ha (wpAny_bind (wpAny_of_eq hfi ?_)))
  show wpAny M A (if false = true then _ else _) Q E s
  rw [if_neg Bool.false_ne_true]
  refine wpAny_bind (wpAny_binaryOp1_none (nm := "add") ha hb hfill ?_)
  refine wpAny_bind (wpAny_of_eq (PySem.seqSlot_of hI hS) ?_)
  exact wpAny_bind (wpAny_rule hc)

theorem iadd_K {prog : Program} {w : World} {A : Around} {E : Value → Shared → Prop} {s : Shared} {h₀ : Heap} {L D b : Addr} {m : Str → Option Value} {news news' : List (Addr × Obj)} {its : Array Value} {its2 : Array Value} {n n2 : Nat} {l : List Value} {Q : Value → Shared → Prop}
    (F : Fr h₀ L s.heap m) (N : News h₀ L s.heap news) (hb : (b, listOf its2 n2) ∈ news) (e : its.toList ++ its2.toList = l) (hne : its2.toList.length ≠ 0)
    (U : Upd D (listOf its n) (listOf l.toArray (n + 1)) news news') (hz : l.length ≤ 1000)
    (h : ∀ h', Fr h₀ L h' m → News h₀ L h' news' → Q (.ref D) { s with heap := h' }) : wpAny (model prog w) A (inplaceOp .Add (.ref D) (.ref b)) Q E s := by
  obtain ⟨pre, post, rfl, rfl, a, c⟩ := U.split
  have z := N (D, listOf its n) (List.mem_append.mpr (.inr (.head _)))
  have zb := N _ hb
  have hl : its.size + its2.size = l.length := by rw [← e, List.length_append, Array.length_toList, Array.length_toList]
  refine wpAny_inplaceOp_iadd (T := "list") ⟨_, z.1, rfl⟩ ⟨_, zb.1, rfl⟩ PySem.F.slot_list_iadd.lookup (by decide +kernel) noFill_list_add ?_
  refine call_meets PySem.F.slot_list_iadd ⟨_, z.1, rfl⟩ PySem.F.entry_list_iadd (PySem.F.args_list_iadd_2 _ _)
    (PySem.AutoSeq1.list___iadd___list_list_0 D its n b its2 n2 (by
      rw [hl]; unfold Builtin.List.listTooLong; simp [sizeLine]; omega) (by rw [sizeLine_eq]; omega) (by rw [sizeLine_eq]; omega)) ⟨z.1, zb.1, h _ (F.change (Heap.SameBut.update ..) z.2.1 z.2.2) (kl_turn _ N a c ?_ ?_)⟩
  · subst e
    apply Array.toList_inj.mp
    simp
  · subst e
    simp at hne ⊢
    exact hne

local macro_rules | `(tactic| walk_at "inplaceOp Add ref") => `(tactic| (k_here; (with_reducible show wpAny _ _ (inplaceOp Operator.Add (Value.ref _) (Value.ref _)) _ _ _); k_dflt (refine' iadd_K ?F ?N ?hb ?e ?ne ?U ?hz ?_; (case F => k_asm); (case N => k_asm); (case hb => k_mem); (case e => (simp only [Array.toList_push, List.cons_append, List.nil_append, List.append_assoc]; exact rfl)); (case ne => (intro h; cases h)); (case U => k_upd); (case hz => exact Nat.le_of_ble_eq_true rfl)); intro h' F' N'))

noncomputable def symForm (n : Int) : List Int := [256, 16, 258 + n.fmod 4, if 0 ≤ (n.fdiv 4).fmod 7 - 3 then 14 else 15, 257, 16, 258 + max ((n.fdiv 4).fmod 7 - 3) (-((n.fdiv 4).fmod 7 - 3))]
noncomputable def symTail (n : Int) : List Int := [20, 29, 21, 30, 27].getD ((n.fdiv 28).fmod 5).toNat 0 ::
  (if 0 ≤ (n.fdiv 140).fmod 19 - 9 then [258 + ((n.fdiv 140).fmod 19 - 9)] else [31, 257 - ((n.fdiv 140).fmod 19 - 9)])
noncomputable def lawSymbols (n : Int) (b : Bool) : List Int := if b = true then symForm n ++ symTail n else symForm n

theorem symbols_claim (w : World) (mean : ExcName → Option Value) (mg mb : Str → Option Value) (news : List (Addr × Obj)) (n : Int) (t1 : Tok) (b : Bool) :
   MClaim w mean mg mb 171 news 1 8 [Value.int n t1, Value.bool b] (fun tk => True) (fun tk v own tk' => ∃ a vs k, v = .ref a ∧ own = [(a, listOf vs.toArray k)] ∧ IntsAre vs (lawSymbols n b)) := by
  dsimp only [MClaim]
  k_fill
  intros
  rename_i hret
  replace hret := Kont.mk hret
  refine wpAny_call ?_
  k_dflt cell_enter
  k_steps
  all_goals ((rename Kont _ => hret); (refine' hret.out (.ref _) [(_, W.listOf (List.toArray _) _)] _ _ (by assumption) (perm_cons (by assumption) ?n1 ?n2) ?sep ⟨_, _, _, rfl, rfl, ints_of_eq ?ii ?ee⟩); (case n1 => (repeat (first | exact List.Mem.head _ | assumption | refine List.Mem.tail _ ?_))); (case n2 => (intro p hp; (repeat (first | exact List.Mem.head _ | assumption | refine List.Mem.tail _ ?_)))); (case sep => first | exact sep_one (by assumption) | exact sep_one (allLt_mem (by assumption))); (case ii => (with_unfolding_all (repeat constructor))); (case ee => (simp only [lawSymbols, symForm, symTail]; (repeat' split) <;> first | rfl | (exfalso; omega) | (exfalso; simp_all; done) | (simp only [List.cons_append, List.nil_append, List.cons.injEq, and_true, true_and]; omega))))
end Mine
namespace Mine
local macro_rules | `(tactic| walk_at "execs cons") => `(tactic| (k_here; (try dsimp only); (first | (with_reducible show wpAny _ _ (execs _ _) (At _) _ _) | (refine open_K ?_; intro KO hKO)); refine cons_K ?_; intro KK tkk hKK))
local macro_rules | `(tactic| walk_at "execs nil") => `(tactic| (k_here; refine wpAny_execs_nil ?_))
local macro_rules | `(tactic| walk_at "At") => `(tactic| ((try dsimp only); first | refine NxK.next (by assumption) ?_ | refine NxK.ret (by assumption) ?_ | refine NxK.brk (by assumption) ?_ | refine NxK.cont (by assumption) ?_ | refine OpK.out (by assumption) ?_))
section
noncomputable def ptOf (i : Nat) : Int × Int := ((i / 4 : Nat), (i % 4 : Nat))
noncomputable def overOf (n p q : Int) : Int := n.fmod 4 * p + ((n.fdiv 4).fmod 7 - 3) * q - ((n.fdiv 140).fmod 19 - 9)
noncomputable def holdsB (n p q : Int) : Bool := [decide (overOf n p q < 0), decide (overOf n p q ≤ 0), decide (overOf n p q > 0), decide (overOf n p q ≥ 0), overOf n p q == 0].getD ((n.fdiv 28).fmod 5).toNat false
noncomputable def holdsL (n : Int) : List Bool := (List.range 16).map fun i => holdsB n (ptOf i).1 (ptOf i).2
/-- the points' list. -/
noncomputable def PtsAre (news : List (Addr × Obj)) (pvs : List Value) : Prop := pvs.length = 16 ∧ ∀ i v, pvs[i]? = some v → ∃ (a : Addr) (t u : Tok) (o : Obj), v = .ref a ∧ (a, o) ∈ news ∧ o.cls = .type "tuple" ∧ ∃ k, o.data = .seq #[.int (ptOf i).1 t, .int (ptOf i).2 u] k
section
variable {prog : Program} {w : World} {A : Around} {E : Value → Shared → Prop} {s : Shared} {env : Env} {h₀ : Heap}
theorem assign_pair {Q : Unit → Shared → Prop} {xi xc : Str} {pk pv pt : Pos} {x1 : Nat} {m : Str → Option Value} {news : List (Addr × Obj)} {a : Addr} {x y : Value}
    (hh : A.handled = none) (hxi : env.kindOf xi = some .local) (hxc : env.kindOf xc = some .local) (hp : (env.scope.kind == .class || (env.scope.kind == .module && env.locals != env.globals)) = false)
    (F : Fr h₀ env.locals s.heap m) (N : News h₀ env.locals s.heap news) (hT : s.heap.IsTuple a #[x, y])
    (h : ∀ h', Fr h₀ env.locals h' (fun z => if z = xc then some y else if z = xi then some x else m z) → News h₀ env.locals h' news → Q () { s with heap := h', toks := s.toks + 1 + 1 }) :
    wpAny (model prog w) A (assign (.Tuple [.Name xi pk, .Name xc pv] x1 pt) env (.ref a)) Q E s := by
  refine wpAny_assign_Tuple hh hT rfl rfl fun h₃ hx₃ => ?_
  replace hx₃ : Heap.ExtBut s.heap.objs.size s.heap h₃ := hx₃
  have up : ∀ a o, s.heap.get? a = some o → h₃.get? a = some o := fun a o x => hx₃ a o (Nat.ne_of_lt (Heap.lt_size x)) x
  have F₃ : Fr h₀ env.locals h₃ m := ⟨F.ns.at' fun o x => up _ o x, fun a o x => up a o (F.keep a o x), F.above⟩
  have N₃ : News h₀ env.locals h₃ news := fun p hp => ⟨up _ _ (N p hp).1, (N p hp).2⟩
  show wpAny _ A (do holding [y] (assign (.Name xi pk) env x); do holding [] (assign (.Name xc pv) env y); pure ()) _ _ _
  refine wpAny_bind (wpAny_holding (wpAny_assign_Name (wpAny_storeName_local hxi F₃.ns (fun h₄ hn₄ hs₄ => ?_) hp)))
  replace hs₄ : Heap.SameBut env.locals h₃ h₄ := hs₄
  have F₄ := F₃.set hn₄ hs₄
  refine wpAny_bind (wpAny_holding (wpAny_assign_Name (wpAny_storeName_local hxc F₄.ns (fun h₅ hn₅ hs₅ => wpAny_pure ?_) hp)))
  replace hs₅ : Heap.SameBut env.locals h₄ h₅ := hs₅
  exact h h₅ (F₄.set hn₅ hs₅) ((N₃.set hs₄).set hs₅)
theorem tup_bool {value slice : PySem.Expr} {l : Addr} {b0 b1 b2 b3 b4 : Bool} {i : Int} {u : Tok} {Q : Value → Shared → Prop} (ht : IsTup s.heap l #[.bool b0, .bool b1, .bool b2, .bool b3, .bool b4]) (h0 : 0 ≤ i) (h1 : i < 5) (h : Q (.bool ([b0, b1, b2, b3, b4].getD i.toNat false)) s)
    (hs : subscripted slice false (.ref l) (.int i u) = operate [.ref l, .int i u] (getItem (.ref l) (.int i u)) := by with_unfolding_all rfl) :
    wpAny (model prog w) A (subscriptTail value slice (.ref l) (.int i u)) Q E s :=
  tail_any ht.typeIs slot_tuple_getitem.lookup (getItem_tuple ht (by omega) (by omega) (seqIndex_of h0 (by simp; omega)) (x := .bool _) (by
    obtain ⟨k, rfl⟩ : ∃ k : Nat, i = k := ⟨i.toNat, by omega⟩
    rw [Int.toNat_natCast]
    match k, h1 with
    | 0, _ => rfl
    | 1, _ => rfl
    | 2, _ => rfl
    | 3, _ => rfl
    | 4, _ => rfl
    | k + 5, h => exfalso; omega) h) hs
end
theorem hol_off {D a I : Addr} {lo o it : Obj} {news : List (Addr × Obj)} (l1 : @LT.lt Nat _ a D ∧ AllLt D news) (hI : ∀ p ∈ (D, o) :: (a, lo) :: news, p.1 ≠ I) : ∀ p ∈ (a, lo) :: (news ++ [(I, it)]), p.1 ≠ D := fun p hp => by
  rcases List.mem_cons.mp hp with rfl | hp
  · exact Nat.ne_of_lt l1.1
  rcases List.mem_append.mp hp with hp | hp
  · exact Nat.ne_of_lt (allLt_mem l1.2 p hp)
  · rw [List.mem_singleton.mp hp]; exact (hI _ (List.Mem.head _)).symm
theorem mem_hol {x y z : Addr × Obj} {news r : List (Addr × Obj)} : ∀ p ∈ x :: y :: news, p ∈ z :: x :: y :: (news ++ r) := fun p hp => by
  rcases List.mem_cons.mp hp with rfl | hp
  · exact .tail _ (.head _)
  rcases List.mem_cons.mp hp with rfl | hp
  · exact .tail _ (.tail _ (.head _))
  · exact .tail _ (.tail _ (.tail _ (List.mem_append_left _ hp)))
theorem hol_hI {D a I : Addr} {lo o o' : Obj} {news : List (Addr × Obj)} (hI : ∀ p ∈ (D, o) :: (a, lo) :: news, p.1 ≠ I) : ∀ p ∈ (D, o') :: (a, lo) :: news, p.1 ≠ I := fun p hp => by
  rcases List.mem_cons.mp hp with rfl | hp
  · exact hI (D, o) (.head _)
  · exact hI p (.tail _ hp)
theorem hol_take {n : Int} {i : Nat} (hi : i < 16) : ((holdsL n).take (i + 1)).map Value.bool = ((holdsL n).take i).map Value.bool ++ [.bool (holdsB n (ptOf i).1 (ptOf i).2)] := by
  have e : (holdsL n)[i]? = some (holdsB n (ptOf i).1 (ptOf i).2) := by simp [holdsL, hi]
  rw [List.take_add_one, e, List.map_append]; rfl
theorem hol_news {h₀ h : Heap} {L D : Addr} {X' Y : List Value} {k : Nat} {z : Addr × Obj} {r : List (Addr × Obj)} (hs : X' = Y) (N : News h₀ L h (z :: (D, W.listOf Y.toArray k) :: r)) : News h₀ L h (z :: (D, W.listOf X'.toArray k) :: r) := hs ▸ N
structure HolS where
  n : Nat
  i : Nat
theorem holds_claim (w : World) (mean : ExcName → Option Value) (mg mb : Str → Option Value) (news : List (Addr × Obj)) (n : Int) (t1 : Tok) (pl : Addr) (pvs : List Value) (k : Nat) (hn : 0 ≤ n) (hpl : (pl, listOf pvs.toArray k) ∈ news) (hp : PtsAre news pvs) :
   MClaim w mean mg mb 178 news 1 8 [Value.int n t1, Value.ref pl] (fun tk => True) (fun tk v own tk' => ∃ a k, v = .ref a ∧ own = [(a, listOf ((holdsL n).map Value.bool).toArray k)]) := by
  dsimp only [MClaim]
  k_fill
  intros
  rename_i hret
  replace hret := Kont.mk hret
  refine wpAny_call ?_
  k_dflt cell_enter
  iterate 51 walk1
  refine wpAny_For ?_
  walk1
  rename Fr _ _ _ (fun y => if y = Str.ofString "told" then _ else _) => F
  rename News _ _ _ (_ :: _) => N
  refine list_st (lo := listOf pvs.toArray k) (vs := pvs) (l := pl) (fun c : HolS => (_, listOf (((holdsL n).take c.i).map Value.bool).toArray c.n) :: _) (fun _ => []) [Str.ofString "p", Str.ofString "q", Str.ofString "over"] (fun i c tk => c.i = i) [] ⟨0, 0⟩ rfl F N ⟨rfl, _, rfl⟩ ?hmem ?hfix (fun p hp => nomatch hp) rfl ?hmono (by passes_own) ?turn ?done
  case hmem => exact fun c => .tail _ (.tail _ hpl)
  case hfix => exact fun d hd => nomatch hd
  case hmono => exact fun i c t t' h1 h2 => h2
  case turn =>
    rintro i v ⟨nr, ir⟩ u h tk I it hv hi hI _ F2 N2
    clear F N
    dsimp only [kstB, List.cons_append] at F2 N2 hi hI ⊢
    subst hi
    have hU := hol_off (it := it) (by assumption) hI
    have hln : (((holdsL n).take ir).map Value.bool).length ≤ 100 := by simp [holdsL]; omega
    obtain ⟨pa, tp, tq, po, rfl, hpo, hpc, kp, hpd⟩ := hp.2 _ v hv
    refine assign_pair rfl (by with_unfolding_all rfl) (by with_unfolding_all rfl) (by with_unfolding_all rfl) F2 N2 ⟨po, (N2 _ (.tail _ (.tail _ (List.mem_append_left _ hpo)))).1, hpc, kp, hpd⟩ fun h3 F3 N3 => ?_
    clear F2 N2
    dsimp only
    iterate 60 walk1
    (k_here; (with_reducible show wpAny _ _ (subscriptTail _ _ (Value.ref _) (Value.int _ _)) _ _ _); refine' tup_bool ?tb ?t0 ?t1 ?_; (case tb => exact News.isTup (by k_asm) (.head _)); (case t0 => first | exact Int.fmod_nonneg_of_pos _ (by decide) | (rw [Int.fmod_eq_emod_of_nonneg _ (by decide)]; exact Int.emod_nonneg _ (by decide))); (case t1 => exact Int.fmod_lt_of_pos _ (by decide)))
    walk1
    (k_here; (with_reducible show wpAny _ _ (call (Value.builtin "list.append") [Value.ref _, _]) _ _ _); refine' append_K ?k1 ?k2 (Upd.tail ?ne (Upd.head (by assumption))) ?_ ?z; (case k1 => k_asm); (case k2 => k_asm); (case ne => k_ne); (case z => size_fits); intro _ _ _)
    k_steps
    have hir : ir < 16 := by
      have := (List.getElem?_eq_some_iff.mp hv).1
      have := hp.1
      omega
    rename News _ _ _ (_ :: _) => N9
    simp only [List.push_toArray] at N9
    have hs := hol_take (n := n) hir
    have N8 := hol_news hs N9
    refine ⟨rfl, ⟨nr + 1, ir + 1⟩, _, _, _, _, rfl, by assumption, N8, mem_hol, .tail _ (.tail _ (.tail _ (List.mem_append_right _ (.head _)))), hol_hI hI, by kst_all, by ksw_same, rfl⟩
  case done =>
    rintro ⟨nr, ir⟩ u h tk hi F2 N2
    clear F N
    dsimp only [kstB, List.cons_append] at F2 N2 hi ⊢
    subst hi
    rw [hp.1, List.take_of_length_le (by simp [holdsL])] at N2
    k_steps
    refine' hret.out (.ref _) [(_, W.listOf (List.toArray _) _)] _ _ (by assumption) (perm_cons (by assumption) (.head _) ?n2) (sep_one ?sp) ⟨_, _, rfl, rfl⟩
    case n2 => exact fun p hp => .tail _ (.tail _ hp)
    case sp => exact allLt_mem (by assumption : _ ∧ AllLt _ news).2
end
section
section
open PyProof.Rows.LCg PyProof.Rows.LCt
variable {prog : Program} {w : World} {A : Around} {E : Value → Shared → Prop} {s : Shared} {h₀ : Heap} {L : Addr} {m : Str → Option Value} {env : Env}
theorem CompEnd.mono {s₁ : Shared} {I C D : Addr} {oI oC oD : Obj} {S : List (Addr × Obj) → Prop} {rest rest' : Value → List (Addr × Obj) → Prop} {y : Value} {s₂ : Shared} (h : ∀ y n, rest y n → rest' y n) (c : CompEnd h₀ L m s₁ I oI C oC D oD S rest y s₂) : CompEnd h₀ L m s₁ I oI C oC D oD S rest' y s₂ :=
  let ⟨h', tk, news', a, b, c, d, e, f⟩ := c
  ⟨h', tk, news', a, b, c, d, e, h _ _ f⟩
theorem rest_test {ct elt : Expr} {x : Str} {scope : Scope} {cl : List (Str × Addr)} {S : List (Addr × Obj) → Prop} {P : Nat → Value → Prop} {Fin : List Value → List (Addr × Obj) → Prop} (n : Nat) (Inv : Nat → List Value → List (Addr × Obj) → Prop)
    (turn : ∀ i ys news, i < n → Inv i ys news → ∀ v I oI C oC D m₂ h tk (E' : Value → Shared → Prop), P i v → NsObj oC m₂ → m₂ x = some v → Fr h₀ L h m → News h₀ L h ((I, oI) :: (C, oC) :: (D, lst ys) :: news) → Off3 I C D news → ((@Ne Nat I C) ∧ (@Ne Nat I D) ∧ (@Ne Nat C D)) →
      wpAny (model prog w) A (isTrue ct (compEnvC scope cl C env) (eval ct (compEnvC scope cl C env))) (fun ok s' => if ok = true then
        wpAny (model prog w) A (eval elt (compEnvC scope cl C env)) (CompEnd h₀ L m { s with heap := h, toks := tk } I oI C oC D (lst ys) S (fun y news' => Inv (i + 1) (ys ++ [y]) news')) E' s'
        else CompEnd h₀ L m { s with heap := h, toks := tk } I oI C oC D (lst ys) S (fun _ news' => Inv (i + 1) ys news') Value.none s') E' { s with heap := h, toks := tk })
    (fin : ∀ ys news, Inv n ys news → Fin ys news) : ∀ k i ys news, i + k = n → Inv i ys news → CompRestT prog w A h₀ L m env ct elt x scope cl s S P Fin k i ys news := by
  intro k
  induction k with
  | zero =>
    intro i ys news e h
    exact CompRestT.zero (fin _ _ (by rw [← e]; exact h))
  | succ k ih =>
    intro i ys news e h
    refine CompRestT.succ fun v I oI C oC D m₂ h' tk E' hP hNs hx F N off ne => ?_
    refine wpAny_mono (turn i ys news (by omega) h v I oI C oC D m₂ h' tk E' hP hNs hx F N off ne) (fun ok s' q => ?_) fun _ _ x => x
    cases ok with
    | true =>
      simp only [if_true] at q ⊢
      exact wpAny_mono q (fun y s'' c => CompEnd.mono (fun y n hi => ih _ _ _ (by omega) hi) c) fun _ _ x => x
    | false =>
      simp only [Bool.false_eq_true, if_false] at q ⊢
      exact CompEnd.mono (fun y n hi => ih _ _ _ (by omega) hi) q
end
theorem ints_at {vs : List Value} {ns : List Int} (h : IntsAre vs ns) : ∀ {i : Nat}, i < ns.length → ∃ t, vs[i]? = some (.int (ns.getD i 0) t) := by
  induction h with
  | nil => intro i hi; simp at hi
  | cons n t _ ih =>
    intro i hi
    cases i with
    | zero => exact ⟨t, rfl⟩
    | succ i =>
      obtain ⟨u, e⟩ := ih (i := i) (by simpa using hi)
      exact ⟨u, by simpa using e⟩
/-- the greatest of the goal's values at a mask's points, and -99. -/
noncomputable def selOf (ns : List Int) (mk : Nat) (n : Nat) : List Int := ((List.range n).filter fun i => mk.testBit i).map fun i => ns.getD i 0
noncomputable def topOf (ns : List Int) (mk : Nat) : Int := (selOf ns mk 16).foldr max (-99)
theorem foldr_max {l : List Int} {b M : Int} (h1 : M ∈ b :: l) (h2 : ∀ a ∈ b :: l, a ≤ M) : M = l.foldr max b := by
  have up : ∀ l : List Int, b ≤ l.foldr max b ∧ ∀ a ∈ l, a ≤ l.foldr max b := by
    intro l
    induction l with
    | nil => exact ⟨Int.le_refl _, fun a h => nomatch h⟩
    | cons x r ih =>
      refine ⟨Int.le_trans ih.1 (Int.le_max_right _ _), fun a h => ?_⟩
      rcases List.mem_cons.mp h with rfl | h
      · exact Int.le_max_left _ _
      · exact Int.le_trans (ih.2 a h) (Int.le_max_right _ _)
  have mem : ∀ l : List Int, l.foldr max b ∈ b :: l := by
    intro l
    induction l with
    | nil => exact List.Mem.head _
    | cons x r ih =>
      show max x (r.foldr max b) ∈ _
      rcases Int.le_total x (r.foldr max b) with h | h
      · rw [Int.max_eq_right h]
        rcases List.mem_cons.mp ih with e | e
        · rw [e]; exact List.Mem.head _
        · exact .tail _ (.tail _ e)
      · rw [Int.max_eq_left h]; exact .tail _ (.head _)
  refine Int.le_antisymm ?_ (h2 _ (mem l))
  rcases List.mem_cons.mp h1 with e | e
  · rw [e]; exact (up l).1
  · exact (up l).2 _ e
theorem bit_test (mk i : Nat) : PySem.Builtin.bitAnd ((mk : Int).fdiv (2 ^ (0 + (i : Int)).toNat)) 1 = if mk.testBit i = true then 1 else 0 := by
  have e : (0 + (i : Int)).toNat = i := by omega
  rw [e, bitAnd_m1]
  have h2 : ((mk : Int).fdiv (2 ^ i)) = ((mk / 2 ^ i : Nat) : Int) := by
    rw [show ((2 : Int) ^ i) = ((2 ^ i : Nat) : Int) by push_cast; rfl]
    exact (Int.fdiv_eq_ediv_of_nonneg _ (Int.natCast_nonneg _)).trans (Int.natCast_ediv ..).symm
  rw [h2, Nat.testBit_eq_decide_div_mod_eq]
  generalize mk / 2 ^ i = q
  by_cases h : q % 2 = 1
  · rw [if_pos (by simpa using h)]; omega
  · rw [if_neg (by simpa using h)]; omega
theorem sel_yes {ns : List Int} {mk i : Nat} (h : mk.testBit i = true) : selOf ns mk (i + 1) = selOf ns mk i ++ [ns.getD i 0] := by
  simp [selOf, List.range_succ, h]
theorem sel_no {ns : List Int} {mk i : Nat} (h : mk.testBit i = false) : selOf ns mk (i + 1) = selOf ns mk i := by
  simp [selOf, List.range_succ, h]
theorem top_claim (w : World) (mean : ExcName → Option Value) (mg mb : Str → Option Value) (news : List (Addr × Obj)) (gl : Addr) (gvs : List Value) (gk : Nat) (h1 : (gl, listOf gvs.toArray gk) ∈ news) (ns : List Int) (hns : IntsAre gvs ns) (hlen : ns.length = 16) (mk : Nat) (t1 : Tok) (hm2 : mk < 65536) :
   MClaim w mean mg mb 209 news 1 8 [Value.ref gl, Value.int mk t1] (fun tk => True) (fun tk v own tk' => (∃ t, v = .int (topOf ns mk) t) ∧ own = []) := by
  dsimp only [MClaim]
  k_fill
  intros
  rename_i hret
  replace hret := Kont.mk hret
  refine wpAny_call ?_
  (k_dflt (refine' code_defC ?fB ?fF ?fX ?fN ?fT ?gA ?gF ?gK ?ho ?hc ?hr ?hb ?hk ?hd ?_ ?e1 ?e2 ?e3; (case gA => exact rfl); (case gF => exact rfl); (case gK => assumption); (case fB => k_asm); (case fF => k_asm); (case fX => k_asm); (case fN => k_asm); (case fT => k_asm); (case ho => k_is); (case hc => k_is); (case hr => ktr_room); (case hb => exact BindsTo.of_eq rfl); (case hk => exact rfl); (case hd => decide +kernel); (case e1 => exact rfl); (case e2 => exact rfl); (case e3 => exact rfl)); intro g' L' h' tk' cells' FG' F' N' Y' B' X' T' l1; (try k_lt l1); k_cells Y'; (try simp only [List.cons_append, List.nil_append] at N'); (try dsimp only); (try k_lift B'); (try k_fold))
  iterate 14 walk1
  k_dflt (refine LCt.ListComp_T (F₀ := by k_asm) (by with_unfolding_all rfl) (by decide) (by rfl) (by decide) (by rfl) ?_)
  iterate 7 walk1
  refine LCt.CompSrcT.range rfl (by assumption) (by assumption) (by assumption) (by decide) (n := 16) (by decide) (by decide) fun gg => rest_test 16 (fun i ys nw => nw = _ ∧ IntsAre ys (selOf ns mk i)) ?turn ?fin 16 0 [] _ rfl ⟨rfl, .nil⟩
  case turn =>
    rintro i ys nw hi ⟨rfl, hys⟩ v I oI C oC D m₂ h tk E' ⟨t, rfl⟩ hNs hx F N off ne
    obtain ⟨tg, hgi⟩ : ∃ tg, gvs[i]? = some (.int (ns.getD i 0) tg) := by
      obtain ⟨tg, e⟩ := ints_at hns (i := i) (by omega)
      exact ⟨tg, e⟩
    have hgi' : gvs[(0 + (i : Int)).toNat]? = some (.int (ns.getD i 0) tg) := by rw [show (0 + (i : Int)).toNat = i by omega]; exact hgi
    k_steps
    · refine item_listL ⟨_, (N _ (.tail _ (.tail _ (.tail _ (.tail _ (.tail _ (.tail _ h1))))))).1, rfl, _, rfl⟩ (by omega) (by omega) hgi' ?_
      rename _ ≠ (0 : Int) => hb
      rw [bit_test] at hb
      have hb' : mk.testBit i = true := by
        cases q : mk.testBit i with
        | true => rfl
        | false => rw [q] at hb; exact absurd rfl hb
      refine LCg.CompEnd.intro F N _ (fun p hp => hp) off trivial ⟨rfl, ?_⟩
      rw [sel_yes hb']
      exact intsSnoc hys
    · rename _ = (0 : Int) => hb
      rw [bit_test] at hb
      have hb' : mk.testBit i = false := by
        cases q : mk.testBit i with
        | false => rfl
        | true => rw [q] at hb; exact absurd hb (by decide)
      refine LCg.CompEnd.intro F N _ (fun p hp => hp) off trivial ⟨rfl, ?_⟩
      rw [sel_no hb']
      exact hys
  case fin =>
    rintro ys nw ⟨rfl, hys⟩
    intro D h tk F N off
    dsimp only
    have hsl : (selOf ns mk 16).length ≤ 16 := by
      unfold selOf
      rw [List.length_map]
      exact Nat.le_trans (List.length_filter_le _ _) (by simp)
    refine kmk_add_ints F N (vs := [.int (-99) _]) ⟨_, (N _ (.tail _ (.head _))).1, rfl, _, rfl⟩ ⟨_, (N _ (.head _)).1, rfl, _, rfl⟩ (.cons _ _ .nil) hys ?_ (by rw [sizeLine_eq]; simp; omega)
    intro D2 us h2 F2 N2 lt2 hus
    k_steps
    rename _ ∈ _ => hM
    rename ∀ a ∈ _, a ≤ _ => hM2
    have e := foldr_max hM hM2
    refine' hret.out _ [] _ _ (by assumption) ?nn (fun _ _ _ hq => nomatch hq) ⟨⟨_, by rw [e]; rfl⟩, rfl⟩
    rename News _ _ _ (_ :: _) => N9
    with_unfolding_all exact fun p hp => N9 p (.tail _ (.tail _ (.tail _ (.tail _ (.tail _ hp)))))
end
section
noncomputable def figures : Str := Str.ofString "0123456789"
noncomputable def textForm (n : Int) : Str := Str.ofString "x*" ++ Txt.item (Str.ofString "0123456789") (n.fmod 4) ++
  (if 0 ≤ (n.fdiv 4).fmod 7 - 3 then Str.ofString "+y*" ++ Txt.item (Str.ofString "0123456789") ((n.fdiv 4).fmod 7 - 3) else Str.ofString "-y*" ++ Txt.item (Str.ofString "0123456789") (-((n.fdiv 4).fmod 7 - 3)))
noncomputable def textOp (n : Int) : Str := [Str.ofString "<", Str.ofString "<=", Str.ofString ">", Str.ofString ">=", Str.ofString "=="].getD ((n.fdiv 28).fmod 5).toNat Str.empty
noncomputable def textBound (n : Int) : Str :=
  if 0 ≤ (n.fdiv 140).fmod 19 - 9 then Txt.item (Str.ofString "0123456789") ((n.fdiv 140).fmod 19 - 9) else Str.ofString "~" ++ Txt.item (Str.ofString "0123456789") (-1 - ((n.fdiv 140).fmod 19 - 9))
noncomputable def lawText (n : Int) (b : Bool) : Str := if b = true then textForm n ++ textOp n ++ textBound n else textForm n

theorem text_claim (w : World) (mean : ExcName → Option Value) (mg mb : Str → Option Value) (news : List (Addr × Obj)) (n : Int) (t1 : Tok) (b : Bool) :
   MClaim w mean mg mb 164 news 1 8 [Value.int n t1, Value.bool b] (fun tk => True) (fun tk v own tk' => (∃ t', v = .str (lawText n b) t') ∧ own = []) := by
  dsimp only [MClaim]
  k_fill
  intros
  rename_i hret
  replace hret := Kont.mk hret
  refine wpAny_call ?_
  k_dflt cell_enter
  iterate 46 walk1
  refine join_val (fun v => ∃ y t, v = .str y t ∧ y = (if 0 ≤ (n.fdiv 4).fmod 7 - 3 then Str.ofString "+y*" ++ Txt.item (Str.ofString "0123456789") ((n.fdiv 4).fmod 7 - 3) else Str.ofString "-y*" ++ Txt.item (Str.ofString "0123456789") (-((n.fdiv 4).fmod 7 - 3))) ∧ y.length ≤ 4) ?j1 ?_
  case j1 =>
    iterate 7 walk1
    · iterate 7 walk1
      exact ⟨⟨_, _, rfl, (if_pos (by assumption)).symm, by rw [Str.length_append]; exact (by decide +kernel : (Str.ofString "+y*").length + 1 ≤ 4)⟩, _, rfl⟩
    · iterate 9 walk1
      exact ⟨⟨_, _, rfl, (if_neg (by assumption)).symm, by rw [Str.length_append]; exact (by decide +kernel : (Str.ofString "-y*").length + 1 ≤ 4)⟩, _, rfl⟩
  rintro _ tkj ⟨y, tj, rfl, hy, hyl⟩
  dsimp only
  iterate 9 walk1
  · iterate 24 walk1
    k_here
    k_dflt (refine' tupText 2 ?ktbl ?ktbw ?ktbb ?ktb0 ?ktb1 ?ktbf ?_; (case ktbl => exact News.isTup (by k_asm) (by k_mem)); (case ktbw => repeat constructor); (case ktbb => decide); (case ktb0 => have := fmod_lo (n.fdiv 28) (n := 5) (by decide); omega); (case ktb1 => exact fmod_hi (n.fdiv 28) (n := 5) (by decide)); (case ktbf => have := fmod_hi (n.fdiv 28) (n := 5) (by decide); omega))
    intro _ ktbLn
    iterate 6 walk1
    refine join_val (fun v => ∃ z t, v = .str z t ∧ z = textBound n ∧ z.length ≤ 2) ?j2 ?_
    case j2 =>
      iterate 7 walk1
      · iterate 3 walk1
        k_here
        (with_reducible show wpAny _ _ (subscriptTail _ _ (Value.str _ _) (Value.int _ _)) _ _ _)
        refine KXi.item (n := 10) (by kxi_len) (by have := fmod_lo (n.fdiv 140) (n := 19) (by decide); have := fmod_hi (n.fdiv 140) (n := 19) (by decide); omega) (by have := fmod_lo (n.fdiv 140) (n := 19) (by decide); have := fmod_hi (n.fdiv 140) (n := 19) (by decide); omega) (by decide) ?_
        intro kxiE
        exact ⟨⟨_, _, rfl, (if_pos (by assumption)).symm, (by decide : (1 : Nat) ≤ 2)⟩, _, rfl⟩
      · iterate 10 walk1
        k_here
        (with_reducible show wpAny _ _ (subscriptTail _ _ (Value.str _ _) (Value.int _ _)) _ _ _)
        refine KXi.item (n := 10) (by kxi_len) (by have := fmod_lo (n.fdiv 140) (n := 19) (by decide); have := fmod_hi (n.fdiv 140) (n := 19) (by decide); omega) (by have := fmod_lo (n.fdiv 140) (n := 19) (by decide); have := fmod_hi (n.fdiv 140) (n := 19) (by decide); omega) (by decide) ?_
        intro kxiE
        walk1
        exact ⟨⟨_, _, rfl, (if_neg (by assumption)).symm, by rw [Str.length_append]; exact (by decide +kernel : (Str.ofString "~").length + 1 ≤ 2)⟩, _, rfl⟩
    rintro _ tkj2 ⟨z, tj2, rfl, hz, hzl⟩
    dsimp only
    k_steps
    all_goals (refine hret.out _ [] _ _ (by assumption) (by first | assumption | exact fun p hp => (by assumption : News _ _ _ _) p (List.mem_cons_of_mem _ hp)) (fun _ _ _ h => nomatch h) ⟨⟨_, congrArg (fun y => Value.str y _) ?_⟩, rfl⟩)
    all_goals (rename _ = true => hbt; rw [hbt]; subst hy hz; rfl)
  · k_steps
    all_goals (refine hret.out _ [] _ _ (by assumption) (by first | assumption | exact fun p hp => (by assumption : News _ _ _ _) p (List.mem_cons_of_mem _ hp)) (fun _ _ _ h => nomatch h) ⟨⟨_, congrArg (fun y => Value.str y _) ?_⟩, rfl⟩)
    all_goals (cases b <;> first | (subst hy; rfl) | (exfalso; simp_all; done))
end
section
noncomputable def partsTo (ns : List Int) (i : Nat) : List Str := (List.range i).map fun j => lawText (ns.getD j 0) (decide (0 < j))
theorem parts_snoc {ns : List Int} {i : Nat} : partsTo ns (i + 1) = partsTo ns i ++ [lawText (ns.getD i 0) (decide (0 < i))] := by simp [partsTo, List.range_succ]
/-- the symbols told, up to the i-th form. -/
noncomputable def symsTo (ns : List Int) (i : Nat) : List Int := (List.range i).flatMap fun j => lawSymbols (ns.getD j 0) (decide (0 < j)) ++ [if j < 5 then 19 else 0]
theorem syms_snoc {ns : List Int} {i : Nat} : symsTo ns (i + 1) = symsTo ns i ++ (lawSymbols (ns.getD i 0) (decide (0 < i)) ++ [if i < 5 then 19 else 0]) := by simp [symsTo, List.range_succ]
theorem sym_len (n : Int) (b : Bool) : (lawSymbols n b).length ≤ 10 := by
  have h : (if 0 ≤ (n.fdiv 140).fmod 19 - 9 then [258 + ((n.fdiv 140).fmod 19 - 9)] else [31, 257 - ((n.fdiv 140).fmod 19 - 9)]).length ≤ 2 := by
    generalize (n.fdiv 140).fmod 19 - 9 = y
    split <;> simp
  unfold lawSymbols symForm symTail
  cases b
  · simp
  · simp only [if_true, List.length_append, List.length_cons, List.length_nil]
    omega
theorem syms_len (ns : List Int) : ∀ i, (symsTo ns i).length ≤ 11 * i
  | 0 => by simp [symsTo]
  | i + 1 => by
    have h1 := syms_len ns i
    have h2 := sym_len (ns.getD i 0) (decide (0 < i))
    rw [syms_snoc]
    simp only [List.length_append, List.length_singleton]
    omega
/-- the page of a text, by the hand that writes it. -/
noncomputable def pageOf (k : Int) (x : Str) : Str := match k.toNat with
  | 0 => cdata x
  | 1 => attrib x
  | 2 => attribHtml x
  | 3 => cdataC14n x
  | _ => attribC14n x
noncomputable def ltOf (k : Int) : Str := if k = 2 then Str.ofString "<" else Str.ofString "&lt;"
noncomputable def gtOf (k : Int) : Str := if k = 4 then Str.ofString ">" else Str.ofString "&gt;"
/-- the table's word for a sign. -/
noncomputable def tabSign (k : Int) (c : Str) : Str := if c = Str.ofString "&" then Str.ofString "&amp;" else if c = Str.ofString "<" then ltOf k else if c = Str.ofString ">" then gtOf k else c
noncomputable def tabTo (k : Int) (x : Str) (i : Nat) : List Str := (x.cps.toList.take i).map fun c => tabSign k ⟨#[c]⟩
noncomputable abbrev progOf (ns : List Int) : Str := Txt.join (Str.ofString "&") (partsTo ns 6)
noncomputable def pCol (i : Nat) : List Int := (List.range i).map fun k => ((k / 4 : Nat) : Int)
noncomputable def qCol (i : Nat) : List Int := (List.range i).map fun k => ((k % 4 : Nat) : Int)
theorem pCol_snoc (i : Nat) : pCol (i + 1) = pCol i ++ [((i / 4 : Nat) : Int)] := by simp [pCol, List.range_succ]
theorem qCol_snoc (i : Nat) : qCol (i + 1) = qCol i ++ [((i % 4 : Nat) : Int)] := by simp [qCol, List.range_succ]
noncomputable def worthCols : List Col := .ints (pCol 16) :: .ints (qCol 16) :: ((List.range 10).map fun (k : Nat) => Col.ints (List.replicate 16 ((k : Nat) : Int)))
noncomputable def goalL (n : Int) : List Int := (List.range 16).map fun i => n.fmod 4 * (ptOf i).1 + ((n.fdiv 4).fmod 7 - 3) * (ptOf i).2
noncomputable def resOf (ns : List Int) : List Col := .ints (goalL (ns.getD 0 0)) :: ((List.range 5).map fun k => Col.bools (holdsL (ns.getD (k + 1) 0)))
theorem goal_len (n : Int) : (goalL n).length = 16 := by simp [goalL]
/-- a statement's mask. -/
noncomputable def maskSel (bs : List Bool) (n : Nat) : List Int := ((List.range n).filter fun i => bs.getD i false).map fun i => ((2 ^ i : Nat) : Int)
noncomputable def maskI (bs : List Bool) : Int := (maskSel bs 16).sum
noncomputable def masksTo (ns : List Int) (i : Nat) : List Int := (List.range i).map fun j => maskI (holdsL (ns.getD (j + 1) 0))
theorem masks_snoc (ns : List Int) (i : Nat) : masksTo ns (i + 1) = masksTo ns i ++ [maskI (holdsL (ns.getD (i + 1) 0))] := by simp [masksTo, List.range_succ]
/-- the and of all masks but one, the first i looked at. -/
noncomputable def fourN (ms : List Int) (out : Nat) : Nat → Int
  | 0 => 65535
  | i + 1 => if i = out then fourN ms out i else PySem.Builtin.bitAnd (fourN ms out i) (ms.getD i 0)
noncomputable def foursTo (ms : List Int) (i : Nat) : List Int := (List.range i).map fun out => fourN ms out 5
theorem fours_snoc (ms : List Int) (i : Nat) : foursTo ms (i + 1) = foursTo ms i ++ [fourN ms i 5] := by simp [foursTo, List.range_succ]
noncomputable def Low (x : Int) : Prop := ∃ n : Nat, x = (n : Int) ∧ n < 65536
theorem low_and {a b : Int} (ha : Low a) (hb : Low b) : Low (PySem.Builtin.bitAnd a b) := by
  obtain ⟨m, rfl, hm⟩ := ha
  obtain ⟨n, rfl, hn⟩ := hb
  exact ⟨m &&& n, rfl, Nat.lt_of_le_of_lt Nat.and_le_left hm⟩
theorem low_four {ms : List Int} {out : Nat} (h : ∀ m ∈ ms, Low m) (hl : ms.length = 5) : ∀ i, i ≤ 5 → Low (fourN ms out i)
  | 0, _ => ⟨65535, rfl, by decide⟩
  | i + 1, hi => by
    unfold fourN
    split
    · exact low_four h hl i (by omega)
    · exact low_and (low_four h hl i (by omega)) (h _ (by rw [List.getD_eq_getElem?_getD, List.getElem?_eq_getElem (by omega)]; exact List.getElem_mem _))
noncomputable def sharedN (ms : List Int) : Int := PySem.Builtin.bitAnd (fourN ms 0 5) (ms.getD 0 0)
noncomputable def topAt (ms gl : List Int) (i j k : Nat) : Int := topOf gl (PySem.Builtin.bitAnd (PySem.Builtin.bitAnd (ms.getD i 0) (ms.getD j 0)) (ms.getD k 0)).toNat
noncomputable def topsI (ms gl : List Int) (k j i : Nat) : List Int := (List.range i).map fun i' => topAt ms gl i' j k
noncomputable def topsJ (ms gl : List Int) (k j : Nat) : List Int := (List.range j).flatMap fun j' => topsI ms gl k j' j'
noncomputable def topsK (ms gl : List Int) (k : Nat) : List Int := (List.range k).flatMap fun k' => topsJ ms gl k' k'
theorem topsI_snoc (ms gl : List Int) (k j i : Nat) : topsI ms gl k j (i + 1) = topsI ms gl k j i ++ [topAt ms gl i j k] := by simp [topsI, List.range_succ]
theorem topsJ_snoc (ms gl : List Int) (k j : Nat) : topsJ ms gl k (j + 1) = topsJ ms gl k j ++ topsI ms gl k j j := by simp [topsJ, List.range_succ]
theorem topsK_snoc (ms gl : List Int) (k : Nat) : topsK ms gl (k + 1) = topsK ms gl k ++ topsJ ms gl k k := by simp [topsK, List.range_succ]
/-- a half plane c * p + d * q + e <= 0, with a mark that tells whose it is. -/
structure HP where
  t : Nat
  c : Int
  d : Int
  e : Int
noncomputable def lin (c d e : Int) (x : Nat) : Int := c * ((x / 4 : Nat) : Int) + d * ((x % 4 : Nat) : Int) + e
noncomputable def HP.val (h : HP) (x : Nat) : Int := lin h.c h.d h.e x
noncomputable def Sat (L : List HP) (x : Nat) : Prop := ∀ h ∈ L, h.val x ≤ 0
noncomputable def Feas (L : List HP) : Prop := ∃ x, x < 16 ∧ Sat L x
noncomputable def mid (x y : Nat) : Nat := (x / 4 + y / 4) / 2 * 4 + (x % 4 + y % 4) / 2
noncomputable def par (x : Nat) : Nat := x / 4 % 2 * 2 + x % 4 % 2
theorem mid_tab : ∀ x y : Fin 16, mid x.val y.val < 16 ∧ (par x.val = par y.val → x.val / 4 + y.val / 4 = 2 * (mid x.val y.val / 4) ∧ x.val % 4 + y.val % 4 = 2 * (mid x.val y.val % 4)) := by decide +kernel
theorem mid_lt {x y : Nat} (hx : x < 16) (hy : y < 16) : mid x y < 16 := (mid_tab ⟨x, hx⟩ ⟨y, hy⟩).1
theorem two_mul' {a b m : Nat} (h : a + b = 2 * m) : (a : Int) = 2 * (m : Int) - (b : Int) := by omega
theorem mid_lin (c d e : Int) {x y : Nat} (hx : x < 16) (hy : y < 16) (h : par x = par y) : 2 * lin c d e (mid x y) = lin c d e x + lin c d e y := by
  obtain ⟨h1, h2⟩ := (mid_tab ⟨x, hx⟩ ⟨y, hy⟩).2 h
  dsimp only at h1 h2
  unfold lin
  rw [two_mul' h1, two_mul' h2, Int.mul_sub, Int.mul_sub, Int.mul_left_comm c, Int.mul_left_comm d]
  generalize c * ((mid x y / 4 : Nat) : Int) = m
  generalize d * ((mid x y % 4 : Nat) : Int) = m'
  generalize c * ((y / 4 : Nat) : Int) = b
  generalize d * ((y % 4 : Nat) : Int) = b'
  omega
theorem first_step {P : Nat → Prop} (h0 : ¬ P 0) : ∀ t, P t → ∃ s, ¬ P s ∧ P (s + 1)
  | 0, h => absurd h h0
  | t + 1, h => by
    by_cases ht : P t
    · exact first_step h0 t ht
    · exact ⟨t, ht, h⟩
noncomputable def upd (e : Nat → Int) (i : Nat) (v : Int) : Nat → Int := fun j => if j = i then v else e j
theorem upd_self (e : Nat → Int) (i : Nat) (v : Int) : upd e i v i = v := by simp [upd]
theorem upd_ne {e : Nat → Int} {i j : Nat} {v : Int} (h : j ≠ i) : upd e i v j = e j := by simp [upd, h]
section
variable (n : Nat) (c d : Nat → Int)
noncomputable def FeasF (e : Nat → Int) : Prop := ∃ x, x < 16 ∧ ∀ i, i < n → lin (c i) (d i) (e i) x ≤ 0
variable {n c d}
theorem lin_mono {a b : Int} {e e' : Int} {x : Nat} (h : e' ≤ e) (k : lin a b e x ≤ 0) : lin a b e' x ≤ 0 := by unfold lin at k ⊢; omega
theorem FeasF.mono {e e' : Nat → Int} (h : ∀ i, e' i ≤ e i) (k : FeasF n c d e) : FeasF n c d e' := by
  obtain ⟨x, hx, k⟩ := k
  exact ⟨x, hx, fun i hi => lin_mono (h i) (k i hi)⟩
theorem tighten {e : Nat → Int} (hall : ¬ FeasF n c d e) (hk : ∀ k, k < n → ∃ x, x < 16 ∧ ∀ i, i < n → i ≠ k → lin (c i) (d i) (e i) x ≤ 0) :
    ∀ k, k ≤ n → ∃ e' : Nat → Int, (∀ i, e' i ≤ e i) ∧ ¬ FeasF n c d e' ∧ ∀ i, i < k → FeasF n c d (upd e' i (e' i - 1))
  | 0, _ => ⟨e, fun i => Int.le_refl _, hall, fun i hi => absurd hi (Nat.not_lt_zero _)⟩
  | k + 1, hkn => by
    obtain ⟨e', hle, hno, hi⟩ := tighten hall hk k (by omega)
    obtain ⟨x, hx, hx2⟩ := hk k (by omega)
    have hgo : FeasF n c d (upd e' k (e' k - ((lin (c k) (d k) (e' k) x).toNat : Nat))) := by
      refine ⟨x, hx, fun i hin => ?_⟩
      by_cases hik : i = k
      · subst hik
        rw [upd_self]
        unfold lin
        generalize c i * ((x / 4 : Nat) : Int) = u
        generalize d i * ((x % 4 : Nat) : Int) = v
        omega
      · rw [upd_ne hik]
        exact lin_mono (hle i) (hx2 i hin hik)
    obtain ⟨s, hs, hs2⟩ := first_step (P := fun t => FeasF n c d (upd e' k (e' k - (t : Nat)))) (fun h => hno (h.mono fun i => by
      by_cases hik : i = k
      · subst hik; rw [upd_self]; omega
      · rw [upd_ne hik]; exact Int.le_refl _)) _ hgo
    refine ⟨upd e' k (e' k - (s : Nat)), fun i => ?_, hs, fun i hik => ?_⟩
    · by_cases h : i = k
      · subst h; rw [upd_self]; have := hle i; omega
      · rw [upd_ne h]; exact hle i
    · by_cases h : i = k
      · subst h
        refine hs2.mono fun j => ?_
        by_cases hj : j = i
        · subst hj; rw [upd_self, upd_self, upd_self]; omega
        · rw [upd_ne hj, upd_ne hj, upd_ne hj]; exact Int.le_refl _
      · refine (hi i (by omega)).mono fun j => ?_
        by_cases hj : j = i
        · subst hj; rw [upd_self, upd_self, upd_ne h]; exact Int.le_refl _
        · rw [upd_ne hj, upd_ne hj]
          by_cases hjk : j = k
          · subst hjk; rw [upd_self]; omega
          · rw [upd_ne hjk]; exact Int.le_refl _
theorem pigeon : ∀ a b c d e : Fin 4, a = b ∨ a = c ∨ a = d ∨ a = e ∨ b = c ∨ b = d ∨ b = e ∨ c = d ∨ c = e ∨ d = e := by decide +kernel
theorem par_lt (x : Nat) : par x < 4 := by unfold par; omega
theorem two_alike (p : Nat → Nat) : ∃ i j, i < j ∧ j < 5 ∧ par (p i) = par (p j) := by
  have h := pigeon ⟨par (p 0), par_lt _⟩ ⟨par (p 1), par_lt _⟩ ⟨par (p 2), par_lt _⟩ ⟨par (p 3), par_lt _⟩ ⟨par (p 4), par_lt _⟩
  simp only [Fin.mk.injEq] at h
  rcases h with h | h | h | h | h | h | h | h | h | h
  · exact ⟨0, 1, by omega, by omega, h⟩
  · exact ⟨0, 2, by omega, by omega, h⟩
  · exact ⟨0, 3, by omega, by omega, h⟩
  · exact ⟨0, 4, by omega, by omega, h⟩
  · exact ⟨1, 2, by omega, by omega, h⟩
  · exact ⟨1, 3, by omega, by omega, h⟩
  · exact ⟨1, 4, by omega, by omega, h⟩
  · exact ⟨2, 3, by omega, by omega, h⟩
  · exact ⟨2, 4, by omega, by omega, h⟩
  · exact ⟨3, 4, by omega, by omega, h⟩
theorem core {e : Nat → Int} (hn : 5 ≤ n) (hall : ¬ FeasF n c d e) : ∃ k, k < n ∧ ¬ ∃ x, x < 16 ∧ ∀ i, i < n → i ≠ k → lin (c i) (d i) (e i) x ≤ 0 := by
  refine Classical.byContradiction fun hno => ?_
  have hk : ∀ k, k < n → ∃ x, x < 16 ∧ ∀ i, i < n → i ≠ k → lin (c i) (d i) (e i) x ≤ 0 := fun k hk => Classical.byContradiction fun h => hno ⟨k, hk, h⟩
  obtain ⟨e', hle, hinf, hf⟩ := tighten hall hk n (Nat.le_refl _)
  have hp : ∀ i, ∃ x, i < n → x < 16 ∧ ∀ j, j < n → lin (c j) (d j) (upd e' i (e' i - 1) j) x ≤ 0 := fun i => by
    by_cases hi : i < n
    · obtain ⟨x, hx, h⟩ := hf i hi
      exact ⟨x, fun _ => ⟨hx, h⟩⟩
    · exact ⟨0, fun h => absurd h hi⟩
  obtain ⟨p, hp⟩ := Classical.axiomOfChoice hp
  obtain ⟨i, j, hij, hj, hpar⟩ := two_alike p
  obtain ⟨hx, hxs⟩ := hp i (by omega)
  obtain ⟨hy, hys⟩ := hp j (by omega)
  refine hinf ⟨mid (p i) (p j), mid_lt hx hy, fun k hk => ?_⟩
  have hm := mid_lin (c k) (d k) (e' k) hx hy hpar
  have h1 := hxs k hk
  have h2 := hys k hk
  have a1 : lin (c k) (d k) (e' k) (p i) ≤ if k = i then 1 else 0 := by
    by_cases h : k = i
    · subst h; rw [upd_self] at h1; rw [if_pos rfl]; unfold lin at h1 ⊢; omega
    · rw [upd_ne h] at h1; rw [if_neg h]; exact h1
  have a2 : lin (c k) (d k) (e' k) (p j) ≤ if k = j then 1 else 0 := by
    by_cases h : k = j
    · subst h; rw [upd_self] at h2; rw [if_pos rfl]; unfold lin at h2 ⊢; omega
    · rw [upd_ne h] at h2; rw [if_neg h]; exact h2
  have hs : (if k = i then (1 : Int) else 0) + (if k = j then 1 else 0) ≤ 1 := by split <;> split <;> omega
  omega
end
theorem shrink : ∀ (n : Nat) (L : List HP), L.length ≤ n → ¬ Feas L → ∃ M : List HP, (∀ h ∈ M, h ∈ L) ∧ M.length ≤ 4 ∧ ¬ Feas M
  | 0, L, hl, hL => ⟨L, fun _ h => h, by omega, hL⟩
  | n + 1, L, hl, hL => by
    by_cases h4 : L.length ≤ 4
    · exact ⟨L, fun _ h => h, h4, hL⟩
    · have key : ¬ FeasF L.length (fun i => (L.getD i ⟨0, 0, 0, 0⟩).c) (fun i => (L.getD i ⟨0, 0, 0, 0⟩).d) (fun i => (L.getD i ⟨0, 0, 0, 0⟩).e) := by
        rintro ⟨x, hx, h⟩
        refine hL ⟨x, hx, fun hp hm => ?_⟩
        obtain ⟨i, hi, rfl⟩ := List.getElem_of_mem hm
        have := h i hi
        (try dsimp only at this)
        rw [show L.getD i ⟨0, 0, 0, 0⟩ = L[i] by simp [hi]] at this
        exact this
      obtain ⟨k, hk, hno⟩ := core (by omega) key
      have : ¬ Feas (L.eraseIdx k) := by
        rintro ⟨x, hx, h⟩
        refine hno ⟨x, hx, fun i hi hik => ?_⟩
        have := h (L[i]) (List.mem_eraseIdx_iff_getElem.mpr ⟨i, hi, hik, rfl⟩)
        (try dsimp only)
        rw [show L.getD i ⟨0, 0, 0, 0⟩ = L[i] by simp [hi]]
        exact this
      obtain ⟨M, hM, hM4, hMf⟩ := shrink n (L.eraseIdx k) (by rw [List.length_eraseIdx]; split <;> omega) this
      exact ⟨M, fun h hh => List.mem_of_mem_eraseIdx (hM h hh), hM4, hMf⟩
/-- the half planes of a statement. -/
noncomputable def hps (t : Nat) (n : Int) : List HP :=
  let c := n.fmod 4
  let d := (n.fdiv 4).fmod 7 - 3
  let b := (n.fdiv 140).fmod 19 - 9
  let o := (n.fdiv 28).fmod 5
  if o = 0 then [⟨t, c, d, -b + 1⟩] else if o = 1 then [⟨t, c, d, -b⟩] else if o = 2 then [⟨t, -c, -d, b + 1⟩] else if o = 3 then [⟨t, -c, -d, b⟩] else [⟨t, c, d, -b⟩, ⟨t, -c, -d, b⟩]
theorem hps_tag {t : Nat} {n : Int} : ∀ h ∈ hps t n, h.t = t := by
  intro h hm
  unfold hps at hm
  dsimp only at hm
  (repeat' split at hm) <;> simp at hm
  all_goals (first | (subst hm; rfl) | (rcases hm with rfl | rfl <;> rfl))
theorem hps_iff (t : Nat) (n : Int) (x : Nat) : holdsB n ((x / 4 : Nat) : Int) ((x % 4 : Nat) : Int) = true ↔ Sat (hps t n) x := by
  have o0 := Int.fmod_nonneg_of_pos (n.fdiv 28) (b := 5) (by decide)
  have o1 := Int.fmod_lt_of_pos (n.fdiv 28) (b := 5) (by decide)
  unfold holdsB overOf hps Sat HP.val lin
  dsimp only
  generalize ((x / 4 : Nat) : Int) = p
  generalize ((x % 4 : Nat) : Int) = q
  generalize n.fmod 4 = c
  generalize (n.fdiv 4).fmod 7 - 3 = d
  generalize (n.fdiv 140).fmod 19 - 9 = b
  generalize (n.fdiv 28).fmod 5 = o at o0 o1 ⊢
  have e1 : -c * p = -(c * p) := Int.neg_mul _ _
  have e2 : -d * q = -(d * q) := Int.neg_mul _ _
  have ho : o = 0 ∨ o = 1 ∨ o = 2 ∨ o = 3 ∨ o = 4 := by omega
  rcases ho with rfl | rfl | rfl | rfl | rfl
  all_goals (simp [e1, e2]; generalize c * p = u; generalize d * q = v; omega)
theorem holds_at (n : Int) {x : Nat} (hx : x < 16) : (holdsL n).getD x false = holdsB n ((x / 4 : Nat) : Int) ((x % 4 : Nat) : Int) := by
  simp [holdsL, hx, ptOf]
/-- a mask's sign at a point. -/
noncomputable def bit (m : Int) (i : Nat) : Bool := m.toNat.testBit i
theorem mask_nat (bs : List Bool) : ∀ n, ∃ m : Nat, (maskSel bs n).sum = (m : Int) ∧ m < 2 ^ n ∧ ∀ i, m.testBit i = (decide (i < n) && bs.getD i false)
  | 0 => ⟨0, rfl, by decide, fun i => by simp⟩
  | n + 1 => by
    obtain ⟨m, hs, hl, hb⟩ := mask_nat bs n
    have step : maskSel bs (n + 1) = maskSel bs n ++ if bs.getD n false = true then [((2 ^ n : Nat) : Int)] else [] := by
      unfold maskSel
      rw [List.range_succ, List.filter_append, List.map_append]
      congr 1
      by_cases h : bs.getD n false = true
      · rw [if_pos h, show List.filter (fun i => bs.getD i false) [n] = [n] by unfold List.filter; rw [h]; rfl]; rfl
      · rw [if_neg h]; simp only [Bool.not_eq_true] at h; rw [show List.filter (fun i => bs.getD i false) [n] = [] by unfold List.filter; rw [h]; rfl]; rfl
    rw [step]
    by_cases h : bs.getD n false = true
    · refine ⟨2 ^ n + m, ?_, ?_, fun i => ?_⟩
      · rw [if_pos h, List.sum_append, hs]; simp only [List.sum_cons, List.sum_nil]; omega
      · rw [Nat.pow_succ]; omega
      · rcases Nat.lt_trichotomy i n with hi | rfl | hi
        · rw [Nat.testBit_two_pow_add_gt hi, hb]
          simp [hi, Nat.lt_succ_of_lt hi]
        · rw [Nat.testBit_two_pow_add_eq, hb, h]; simp
        · rw [Nat.testBit_lt_two_pow (Nat.lt_of_lt_of_le (show 2 ^ n + m < 2 ^ (n + 1) by rw [Nat.pow_succ]; omega) (Nat.pow_le_pow_right (by decide) hi))]
          simp [Nat.not_lt.mpr hi]
    · refine ⟨m, ?_, ?_, fun i => ?_⟩
      · rw [if_neg h, List.append_nil, hs]
      · rw [Nat.pow_succ]; omega
      · rw [hb]
        by_cases hi : i = n
        · subst hi; simp only [Bool.not_eq_true] at h; rw [h]; simp
        · have : (i < n + 1) ↔ (i < n) := by omega
          simp [this]
theorem mask_low (bs : List Bool) : Low (maskI bs) := by
  obtain ⟨m, hs, hl, _⟩ := mask_nat bs 16
  exact ⟨m, hs, hl⟩
theorem mask_bit (bs : List Bool) {i : Nat} (hi : i < 16) : bit (maskI bs) i = bs.getD i false := by
  obtain ⟨m, hs, hl, hb⟩ := mask_nat bs 16
  unfold bit maskI
  rw [hs, Int.toNat_natCast, hb]
  simp [hi]
theorem bit_and {a b : Int} (ha : Low a) (hb : Low b) (i : Nat) : bit (PySem.Builtin.bitAnd a b) i = (bit a i && bit b i) := by
  obtain ⟨m, rfl, hm⟩ := ha
  obtain ⟨n, rfl, hn⟩ := hb
  show (m &&& n).testBit i = _
  rw [Nat.testBit_and]
  rfl
theorem zero_iff {a : Int} (ha : Low a) : a = 0 ↔ ∀ i, i < 16 → bit a i = false := by
  obtain ⟨m, rfl, hm⟩ := ha
  unfold bit
  rw [Int.toNat_natCast]
  constructor
  · intro h i _
    have : m = 0 := by omega
    rw [this]; simp
  · intro h
    have : m = 0 := Nat.eq_of_testBit_eq fun i => by
      by_cases hi : i < 16
      · rw [h i hi]; simp
      · rw [Nat.testBit_lt_two_pow (Nat.lt_of_lt_of_le hm (Nat.pow_le_pow_right (n := 2) (by decide) (show 16 ≤ i by omega)))]; simp
    omega
theorem low_masks (ns : List Int) : ∀ m ∈ masksTo ns 5, Low m := by
  intro m hm
  obtain ⟨j, _, rfl⟩ := List.mem_map.mp hm
  exact mask_low _
section
variable (ns : List Int)
theorem masks_at {j : Nat} (hj : j < 5) : (masksTo ns 5).getD j 0 = maskI (holdsL (ns.getD (j + 1) 0)) := by simp [masksTo, hj]
theorem mask_sat {j x : Nat} (hj : j < 5) (hx : x < 16) : bit ((masksTo ns 5).getD j 0) x = true ↔ Sat (hps j (ns.getD (j + 1) 0)) x := by
  rw [masks_at ns hj, mask_bit _ hx, holds_at _ hx]
  exact hps_iff j _ x
theorem low_at {j : Nat} (hj : j < 5) : Low ((masksTo ns 5).getD j 0) := by rw [masks_at ns hj]; exact mask_low _
theorem four_low (out : Nat) : ∀ i, i ≤ 5 → Low (fourN (masksTo ns 5) out i) := low_four (low_masks ns) (by simp [masksTo])
theorem four_bit (out : Nat) {x : Nat} (hx : x < 16) : ∀ i, i ≤ 5 → (bit (fourN (masksTo ns 5) out i) x = true ↔ ∀ j, j < i → j ≠ out → Sat (hps j (ns.getD (j + 1) 0)) x)
  | 0, _ => by
    have : bit (fourN (masksTo ns 5) out 0) x = true := by
      show (65535 : Nat).testBit x = true
      have : ∀ x : Fin 16, (65535 : Nat).testBit x.val = true := by decide
      exact this ⟨x, hx⟩
    simp [this]
  | i + 1, hi => by
    have ih := four_bit out hx i (by omega)
    unfold fourN
    by_cases h : i = out
    · rw [if_pos h, ih]
      exact ⟨fun k j hj ho => k j (by omega) ho, fun k j hj ho => k j (by omega) ho⟩
    · rw [if_neg h, bit_and (four_low ns out i (by omega)) (low_at ns (by omega)), Bool.and_eq_true, ih, mask_sat ns (by omega) hx]
      constructor
      · rintro ⟨k1, k2⟩ j hj ho
        by_cases hji : j = i
        · subst hji; exact k2
        · exact k1 j (by omega) ho
      · intro k
        exact ⟨fun j hj ho => k j (by omega) ho, k i (by omega) h⟩
theorem shared_low : Low (sharedN (masksTo ns 5)) := low_and (four_low ns 0 5 (by omega)) (low_at ns (by omega))
theorem shared_bit {x : Nat} (hx : x < 16) : bit (sharedN (masksTo ns 5)) x = true ↔ ∀ j, j < 5 → Sat (hps j (ns.getD (j + 1) 0)) x := by
  unfold sharedN
  rw [bit_and (four_low ns 0 5 (by omega)) (low_at ns (by omega)), Bool.and_eq_true, four_bit ns 0 hx 5 (by omega), mask_sat ns (by omega) hx]
  constructor
  · rintro ⟨k1, k2⟩ j hj
    by_cases h : j = 0
    · subst h; exact k2
    · exact k1 j hj h
  · intro k
    exact ⟨fun j hj _ => k j hj, k 0 (by omega)⟩
/-- all half planes of the five statements. -/
noncomputable def allHps : List HP := (List.range 5).flatMap fun j => hps j (ns.getD (j + 1) 0)
theorem all_mem {h : HP} : h ∈ allHps ns ↔ ∃ j, j < 5 ∧ h ∈ hps j (ns.getD (j + 1) 0) := by simp [allHps]
theorem all_own {h : HP} (hm : h ∈ allHps ns) : h.t < 5 ∧ h ∈ hps h.t (ns.getD (h.t + 1) 0) := by
  obtain ⟨j, hj, hh⟩ := (all_mem ns).mp hm
  have := hps_tag h hh
  subst this
  exact ⟨hj, hh⟩
theorem four_out : ∀ a b c d : Fin 5, ∃ k : Fin 5, k ≠ a ∧ k ≠ b ∧ k ≠ c ∧ k ≠ d := by decide +kernel
theorem one_out (l : List Nat) (hl : l.length ≤ 4) (h5 : ∀ a ∈ l, a < 5) : ∃ k, k < 5 ∧ k ∉ l := by
  have key : ∀ a b c d, a < 5 → b < 5 → c < 5 → d < 5 → ∃ k, k < 5 ∧ k ≠ a ∧ k ≠ b ∧ k ≠ c ∧ k ≠ d := fun a b c d ha hb hc hd => by
    obtain ⟨k, h1, h2, h3, h4⟩ := four_out ⟨a, ha⟩ ⟨b, hb⟩ ⟨c, hc⟩ ⟨d, hd⟩
    exact ⟨k.val, k.isLt, fun e => h1 (Fin.ext e), fun e => h2 (Fin.ext e), fun e => h3 (Fin.ext e), fun e => h4 (Fin.ext e)⟩
  match l, hl, h5 with
  | [], _, _ => exact ⟨0, by decide, List.not_mem_nil⟩
  | [a], _, h5 =>
    have ha := h5 a (.head _)
    obtain ⟨k, hk, h1, _⟩ := key a a a a ha ha ha ha
    exact ⟨k, hk, by simp [h1]⟩
  | [a, b], _, h5 =>
    have ha := h5 a (.head _)
    have hb := h5 b (.tail _ (.head _))
    obtain ⟨k, hk, h1, h2, _⟩ := key a b b b ha hb hb hb
    exact ⟨k, hk, by simp [h1, h2]⟩
  | [a, b, c], _, h5 =>
    have ha := h5 a (.head _)
    have hb := h5 b (.tail _ (.head _))
    have hc := h5 c (.tail _ (.tail _ (.head _)))
    obtain ⟨k, hk, h1, h2, h3, _⟩ := key a b c c ha hb hc hc
    exact ⟨k, hk, by simp [h1, h2, h3]⟩
  | [a, b, c, d], _, h5 =>
    have ha := h5 a (.head _)
    have hb := h5 b (.tail _ (.head _))
    have hc := h5 c (.tail _ (.tail _ (.head _)))
    have hd := h5 d (.tail _ (.tail _ (.tail _ (.head _))))
    obtain ⟨k, hk, h1, h2, h3, h4⟩ := key a b c d ha hb hc hd
    exact ⟨k, hk, by simp [h1, h2, h3, h4]⟩
theorem helly_law (hb : ∀ n ∈ ns, 0 ≤ n) : ((foursTo (masksTo ns 5) 5).any (· == 0)) = (sharedN (masksTo ns 5) == 0) := by
  rw [Bool.eq_iff_iff, List.any_eq_true, beq_iff_eq]
  constructor
  · rintro ⟨f, hf, h0⟩
    obtain ⟨out, ho, rfl⟩ := List.mem_map.mp hf
    have hz := (zero_iff (four_low ns out 5 (by omega))).mp (by simpa using h0)
    refine (zero_iff (shared_low ns)).mpr fun x hx => ?_
    refine Bool.eq_false_iff.mpr fun hs => ?_
    have := (four_bit ns out hx 5 (by omega)).mpr fun j hj _ => (shared_bit ns hx).mp hs j hj
    rw [hz x hx] at this
    cases this
  · intro h0
    have hz := (zero_iff (shared_low ns)).mp h0
    have hinf : ¬ Feas (allHps ns) := by
      rintro ⟨x, hx, h⟩
      have := (shared_bit ns hx).mpr fun j hj hp hm => h hp ((all_mem ns).mpr ⟨j, hj, hm⟩)
      rw [hz x hx] at this
      cases this
    obtain ⟨M, hM, hM4, hMf⟩ := shrink _ _ (Nat.le_refl _) hinf
    obtain ⟨out, ho, hout⟩ := one_out (M.map (·.t)) (by simpa using hM4) (fun a ha => by obtain ⟨h, hm, rfl⟩ := List.mem_map.mp ha; exact (all_own ns (hM h hm)).1)
    refine ⟨fourN (masksTo ns 5) out 5, List.mem_map.mpr ⟨out, List.mem_range.mpr ho, rfl⟩, ?_⟩
    rw [beq_iff_eq]
    refine (zero_iff (four_low ns out 5 (by omega))).mpr fun x hx => Bool.eq_false_iff.mpr fun hs => hMf ⟨x, hx, fun h hm => ?_⟩
    obtain ⟨k1, k2⟩ := all_own ns (hM h hm)
    exact (four_bit ns out hx 5 (by omega)).mp hs h.t k1 (fun e => hout (List.mem_map.mpr ⟨h, hm, e⟩)) h k2
end
theorem max_le_iff' {l : List Int} {b M : Int} : l.foldr max b ≤ M ↔ b ≤ M ∧ ∀ a ∈ l, a ≤ M := by
  induction l with
  | nil => simp
  | cons x l ih =>
    simp only [List.foldr_cons, List.mem_cons, forall_eq_or_imp]
    rw [Int.max_le, ih]
    exact ⟨fun h => ⟨h.2.1, h.1, h.2.2⟩, fun h => ⟨h.2.1, h.1, h.2.2⟩⟩
theorem le_max' {l : List Int} {b : Int} : b ≤ l.foldr max b ∧ ∀ a ∈ l, a ≤ l.foldr max b := max_le_iff'.mp (Int.le_refl _)
theorem sel_mem {gl : List Int} {mk : Nat} {a : Int} : a ∈ selOf gl mk 16 ↔ ∃ i, i < 16 ∧ mk.testBit i = true ∧ gl.getD i 0 = a := by
  simp only [selOf, List.mem_map, List.mem_filter, List.mem_range]
  exact ⟨fun ⟨i, ⟨h1, h2⟩, h3⟩ => ⟨i, h1, h2, h3⟩, fun ⟨i, h1, h2, h3⟩ => ⟨i, ⟨h1, h2⟩, h3⟩⟩
theorem top_le {gl : List Int} {mk : Nat} {M : Int} : topOf gl mk ≤ M ↔ -99 ≤ M ∧ ∀ i, i < 16 → mk.testBit i = true → gl.getD i 0 ≤ M := by
  unfold topOf
  rw [max_le_iff']
  refine and_congr_right fun _ => ?_
  exact ⟨fun h i hi hb => h _ (sel_mem.mpr ⟨i, hi, hb, rfl⟩), fun h a ha => by obtain ⟨i, hi, hb, rfl⟩ := sel_mem.mp ha; exact h i hi hb⟩
theorem low_top {gl : List Int} {mk : Nat} : -99 ≤ topOf gl mk := (top_le.mp (Int.le_refl _)).1
theorem at_top {gl : List Int} {mk i : Nat} (hi : i < 16) (hb : mk.testBit i = true) : gl.getD i 0 ≤ topOf gl mk := (top_le.mp (Int.le_refl _)).2 i hi hb
theorem tops_mem {ms gl : List Int} {x : Int} : x ∈ topsK ms gl 5 ↔ ∃ k j i, k < 5 ∧ j < k ∧ i < j ∧ topAt ms gl i j k = x := by
  simp only [topsK, topsJ, topsI, List.mem_flatMap, List.mem_map, List.mem_range]
  exact ⟨fun ⟨k, hk, j, hj, i, hi, e⟩ => ⟨k, j, i, hk, hj, hi, e⟩, fun ⟨k, j, i, hk, hj, hi, e⟩ => ⟨k, hk, j, hj, i, hi, e⟩⟩
theorem three_in : ∀ a b c : Fin 6, ∃ k : Fin 5, ∃ j : Fin 5, ∃ i : Fin 5, j < k ∧ i < j ∧ (a.val = 5 ∨ a.val = k.val ∨ a.val = j.val ∨ a.val = i.val) ∧ (b.val = 5 ∨ b.val = k.val ∨ b.val = j.val ∨ b.val = i.val) ∧ (c.val = 5 ∨ c.val = k.val ∨ c.val = j.val ∨ c.val = i.val) := by decide +kernel
theorem three_of (l : List Nat) (hl : l.length ≤ 3) (h6 : ∀ a ∈ l, a < 6) : ∃ k j i, k < 5 ∧ j < k ∧ i < j ∧ ∀ a ∈ l, a = 5 ∨ a = k ∨ a = j ∨ a = i := by
  have key : ∀ a b c, a < 6 → b < 6 → c < 6 → ∃ k j i, k < 5 ∧ j < k ∧ i < j ∧ (a = 5 ∨ a = k ∨ a = j ∨ a = i) ∧ (b = 5 ∨ b = k ∨ b = j ∨ b = i) ∧ (c = 5 ∨ c = k ∨ c = j ∨ c = i) := fun a b c ha hb hc => by
    obtain ⟨k, j, i, h1, h2, h3⟩ := three_in ⟨a, ha⟩ ⟨b, hb⟩ ⟨c, hc⟩
    exact ⟨k.val, j.val, i.val, k.isLt, h1, h2, h3⟩
  match l, hl with
  | [], _ => exact ⟨2, 1, 0, by omega, by omega, by omega, by simp⟩
  | [a], _ =>
    obtain ⟨k, j, i, h1, h2, h3, h4, h5, h7⟩ := key a a a (h6 a (by simp)) (h6 a (by simp)) (h6 a (by simp))
    exact ⟨k, j, i, h1, h2, h3, by simpa using h4⟩
  | [a, b], _ =>
    obtain ⟨k, j, i, h1, h2, h3, h4, h5, h7⟩ := key a b b (h6 a (by simp)) (h6 b (by simp)) (h6 b (by simp))
    exact ⟨k, j, i, h1, h2, h3, by simpa using ⟨h4, h5⟩⟩
  | [a, b, c], _ =>
    obtain ⟨k, j, i, h1, h2, h3, h4, h5, h7⟩ := key a b c (h6 a (by simp)) (h6 b (by simp)) (h6 c (by simp))
    exact ⟨k, j, i, h1, h2, h3, by simpa using ⟨h4, h5, h7⟩⟩
section
variable (ns : List Int)
theorem goal_at {n : Int} {x : Nat} (hx : x < 16) : (goalL n).getD x 0 = lin (n.fmod 4) ((n.fdiv 4).fmod 7 - 3) 0 x := by
  simp [goalL, hx, ptOf, lin]
theorem triple_low {i j k : Nat} (hi : i < 5) (hj : j < 5) (hk : k < 5) : Low (PySem.Builtin.bitAnd (PySem.Builtin.bitAnd ((masksTo ns 5).getD i 0) ((masksTo ns 5).getD j 0)) ((masksTo ns 5).getD k 0)) := low_and (low_and (low_at ns hi) (low_at ns hj)) (low_at ns hk)
theorem triple_bit {i j k x : Nat} (hi : i < 5) (hj : j < 5) (hk : k < 5) (hx : x < 16) : bit (PySem.Builtin.bitAnd (PySem.Builtin.bitAnd ((masksTo ns 5).getD i 0) ((masksTo ns 5).getD j 0)) ((masksTo ns 5).getD k 0)) x = true ↔
    Sat (hps i (ns.getD (i + 1) 0)) x ∧ Sat (hps j (ns.getD (j + 1) 0)) x ∧ Sat (hps k (ns.getD (k + 1) 0)) x := by
  rw [bit_and (low_and (low_at ns hi) (low_at ns hj)) (low_at ns hk), bit_and (low_at ns hi) (low_at ns hj), Bool.and_eq_true, Bool.and_eq_true, mask_sat ns hi hx, mask_sat ns hj hx, mask_sat ns hk hx, and_assoc]
theorem scarf_law (hb : ∀ n ∈ ns, 0 ≤ n) : sharedN (masksTo ns 5) ≠ 0 → (∀ x ∈ topsK (masksTo ns 5) (goalL (ns.getD 0 0)) 5, topOf (goalL (ns.getD 0 0)) (sharedN (masksTo ns 5)).toNat ≤ x) ∧ ((topsK (masksTo ns 5) (goalL (ns.getD 0 0)) 5).any (· == topOf (goalL (ns.getD 0 0)) (sharedN (masksTo ns 5)).toNat)) = true := by
  intro h0
  have hge : ∀ x ∈ topsK (masksTo ns 5) (goalL (ns.getD 0 0)) 5, topOf (goalL (ns.getD 0 0)) (sharedN (masksTo ns 5)).toNat ≤ x := by
    intro x hx
    obtain ⟨k, j, i, hk, hj, hi, rfl⟩ := tops_mem.mp hx
    refine top_le.mpr ⟨low_top, fun y hy hyb => ?_⟩
    have hs := (shared_bit ns hy).mp hyb
    exact at_top hy ((triple_bit ns (by omega) (by omega) hk hy).mpr ⟨hs i (by omega), hs j (by omega), hs k hk⟩)
  refine ⟨hge, ?_⟩
  obtain ⟨x0, hx0, hs0⟩ : ∃ x, x < 16 ∧ bit (sharedN (masksTo ns 5)) x = true := Classical.byContradiction fun hno => h0 ((zero_iff (shared_low ns)).mpr fun i hi => Bool.eq_false_iff.mpr fun hb => hno ⟨i, hi, hb⟩)
  have hsat0 := (shared_bit ns hx0).mp hs0
  generalize hbest : topOf (goalL (ns.getD 0 0)) (sharedN (masksTo ns 5)).toNat = best at hge ⊢
  let g : HP := ⟨5, -(ns.getD 0 0).fmod 4, -(((ns.getD 0 0).fdiv 4).fmod 7 - 3), best + 1⟩
  have hgv : ∀ x, x < 16 → (g.val x ≤ 0 ↔ best < (goalL (ns.getD 0 0)).getD x 0) := fun x hx => by
    rw [goal_at hx]
    show lin (-(ns.getD 0 0).fmod 4) (-(((ns.getD 0 0).fdiv 4).fmod 7 - 3)) (best + 1) x ≤ 0 ↔ _
    unfold lin
    rw [Int.neg_mul, Int.neg_mul]
    omega
  have hinf : ¬ Feas (g :: allHps ns) := by
    rintro ⟨x, hx, h⟩
    have h1 := (hgv x hx).mp (h g (.head _))
    have h2 : bit (sharedN (masksTo ns 5)) x = true := (shared_bit ns hx).mpr fun j hj hp hm => h hp (.tail _ ((all_mem ns).mpr ⟨j, hj, hm⟩))
    have h3 := at_top (gl := goalL (ns.getD 0 0)) hx h2
    rw [hbest] at h3
    omega
  obtain ⟨M, hM, hM4, hMf⟩ := shrink _ _ (Nat.le_refl _) hinf
  have hg : g ∈ M := Classical.byContradiction fun hng => hMf ⟨x0, hx0, fun h hm => by
    rcases List.mem_cons.mp (hM h hm) with rfl | hm'
    · exact absurd hm hng
    · obtain ⟨k1, k2⟩ := all_own ns hm'
      exact hsat0 h.t k1 h k2⟩
  obtain ⟨M1, M2, rfl⟩ := List.append_of_mem hg
  have htag : ∀ h ∈ M1 ++ M2, h = g ∨ (h.t < 5 ∧ h ∈ hps h.t (ns.getD (h.t + 1) 0)) := fun h hm => by
    have : h ∈ M1 ++ g :: M2 := by
      rcases List.mem_append.mp hm with hm | hm
      · exact List.mem_append_left _ hm
      · exact List.mem_append_right _ (.tail _ hm)
    rcases List.mem_cons.mp (hM h this) with rfl | hm'
    · exact .inl rfl
    · exact .inr (all_own ns hm')
  obtain ⟨k, j, i, hk, hj, hi, h3⟩ := three_of ((M1 ++ M2).map (·.t)) (by simp at hM4 ⊢; omega) (fun a ha => by
    obtain ⟨h, hm, rfl⟩ := List.mem_map.mp ha
    rcases htag h hm with rfl | ⟨h1, _⟩
    · exact (by decide : (5 : Nat) < 6)
    · show h.t < 6; omega)
  have hmem : topAt (masksTo ns 5) (goalL (ns.getD 0 0)) i j k ∈ topsK (masksTo ns 5) (goalL (ns.getD 0 0)) 5 := tops_mem.mpr ⟨k, j, i, hk, hj, hi, rfl⟩
  refine List.any_eq_true.mpr ⟨_, hmem, ?_⟩
  rw [beq_iff_eq]
  refine Int.le_antisymm (top_le.mpr ⟨by rw [← hbest]; exact low_top, fun x hx hxb => ?_⟩) (hge _ hmem)
  have ht := (triple_bit ns (by omega) (by omega) hk hx).mp hxb
  refine Classical.byContradiction fun hgt => hMf ⟨x, hx, fun h hm => ?_⟩
  have hgx : g.val x ≤ 0 := (hgv x hx).mpr (by omega)
  have own : ∀ h ∈ M1 ++ M2, h.val x ≤ 0 := fun h hm => by
    rcases htag h hm with rfl | ⟨k1, k2⟩
    · exact hgx
    · rcases h3 h.t (List.mem_map.mpr ⟨h, hm, rfl⟩) with e | e | e | e
      · omega
      · exact ht.2.2 h (e ▸ k2)
      · exact ht.2.1 h (e ▸ k2)
      · exact ht.1 h (e ▸ k2)
  rcases List.mem_append.mp hm with hm | hm
  · exact own h (List.mem_append_left _ hm)
  · rcases List.mem_cons.mp hm with rfl | hm
    · exact hgx
    · exact own h (List.mem_append_right _ hm)
end
/-- a text of codes. -/
noncomputable def mk (l : List Nat) : Str := ⟨l.toArray⟩
theorem mk_inj {a b : List Nat} (h : mk a = mk b) : a = b := by simpa [mk] using h
theorem mk_codes (x : Str) : mk x.cps.toList = x := by cases x; simp [mk]
theorem mk_append (a b : List Nat) : mk a ++ mk b = mk (a ++ b) := by
  show Str.append (mk a) (mk b) = _
  simp [mk, Str.append]
theorem mk_len (a : List Nat) : (mk a).length = a.length := by simp [mk, Str.length]
theorem str_ext {x y : Str} (h : x.cps.toList = y.cps.toList) : x = y := by rw [← mk_codes x, ← mk_codes y, h]
noncomputable def tokListL : List (List Nat × Int) := [([33], 54), ([33, 61], 28), ([37], 24), ([37, 61], 40), ([38], 19), ([38, 61], 41), ([40], 7), ([41], 8), ([42], 16), ([42, 42], 35), ([42, 42, 61], 46), ([42, 61], 38), ([43], 14), ([43, 61], 36), ([44], 12), ([45], 15), ([45, 61], 37), ([45, 62], 51), ([46], 23), ([46, 46, 46], 52), ([47], 17), ([47, 47], 47), ([47, 47, 61], 48), ([47, 61], 39), ([58], 11), ([58, 61], 53), ([59], 13), ([60], 20), ([60, 60], 33), ([60, 60, 61], 44), ([60, 61], 29), ([61], 22), ([61, 61], 27), ([62], 21), ([62, 61], 30), ([62, 62], 34), ([62, 62, 61], 45), ([64], 49), ([64, 61], 50), ([91], 9), ([93], 10), ([94], 32), ([94, 61], 43), ([123], 25), ([124], 18), ([124, 61], 42), ([125], 26), ([126], 31)]
theorem tok_pairs : tokPairs = tokListL.map fun p => (mk p.1, p.2) := by kernel_rfl
noncomputable def beqL : List Nat → List Nat → Bool
  | [], [] => true
  | a :: x, b :: y => Nat.beq a b && beqL x y
  | _, _ => false
theorem beqL_iff : ∀ {x y : List Nat}, beqL x y = true ↔ x = y
  | [], [] => by simp [beqL]
  | [], _ :: _ => by simp [beqL]
  | _ :: _, [] => by simp [beqL]
  | a :: x, b :: y => by
    unfold beqL
    rw [Bool.and_eq_true, beqL_iff, Nat.beq_eq, List.cons.injEq]
noncomputable def lookL (w : List Nat) : List (List Nat × Int) → Option Int
  | [] => none
  | (k, v) :: r => if beqL w k = true then some v else lookL w r
/-- figures and small letters stand in no operator. -/
noncomputable def plainC (c : Nat) : Bool := (Nat.ble 48 c && Nat.ble c 57) || (Nat.ble 97 c && Nat.ble c 122)
noncomputable def tokL (w : List Nat) : Option Int := match w.any plainC with
  | true => none
  | false => lookL w tokListL
theorem look_mk (w : List Nat) : ∀ ps : List (List Nat × Int), (ps.map fun p => (mk p.1, p.2)).lookup (mk w) = lookL w ps
  | [] => rfl
  | (k, v) :: r => by
    have ih := look_mk w r
    show (match mk w == mk k with | true => some v | false => (r.map fun p => (mk p.1, p.2)).lookup (mk w)) = (if beqL w k = true then some v else lookL w r)
    by_cases h : w = k
    · subst h
      rw [if_pos (beqL_iff.mpr rfl), beq_self_eq_true]
    · rw [if_neg (fun e => h (beqL_iff.mp e)), show (mk w == mk k) = false from beq_eq_false_iff_ne.mpr fun e => h (mk_inj e)]
      exact ih
theorem look_free {z : Nat} (w : List Nat) (hz : z ∈ w) : ∀ ps : List (List Nat × Int), (∀ p ∈ ps, z ∉ p.1) → lookL w ps = none
  | [], _ => rfl
  | (k, v) :: r, h => by
    unfold lookL
    rw [if_neg (fun e => h (k, v) (.head _) (by rw [← beqL_iff.mp e]; exact hz))]
    exact look_free w hz r fun p hp => h p (.tail _ hp)
theorem tokL_look (w : List Nat) : tokL w = lookL w tokListL := by
  unfold tokL
  cases h : w.any plainC with
  | false => rfl
  | true =>
    obtain ⟨z, hz, hp⟩ := List.any_eq_true.mp h
    refine (look_free w hz _ fun p hm hc => ?_).symm
    have : (tokListL.all fun p => p.1.all fun c => !plainC c) = true := by decide
    have h1 := List.all_eq_true.mp (List.all_eq_true.mp this p hm) z hc
    rw [hp] at h1
    cases h1
theorem tok_mk (w : List Nat) : tokVal (mk w) = tokL w := by
  rw [tokL_look]
  unfold tokVal
  rw [tok_pairs]
  exact look_mk w _
theorem look_mem {w : List Nat} {v : Int} : ∀ {ps : List (List Nat × Int)}, lookL w ps = some v → (w, v) ∈ ps
  | (k, u) :: r, h => by
    unfold lookL at h
    split at h
    · rename_i e
      rw [beqL_iff] at e
      cases h
      rw [e]
      exact .head _
    · exact .tail _ (look_mem h)
theorem tok_amp {w : List Nat} (h : tokL w = some 19) : w = [38] := by
  rw [tokL_look] at h
  have : (tokListL.all fun p => !(p.2 == 19) || beqL p.1 [38]) = true := by decide
  simpa [beqL_iff] using List.all_eq_true.mp this _ (look_mem h)
noncomputable def digit (z : Nat) : Bool := Nat.ble 48 z && Nat.ble z 57
theorem tok_free {z : Nat} (hd : digit z = true) {w : List Nat} (hz : z ∈ w) : tokL w = none := by
  unfold tokL
  rw [show w.any plainC = true from List.any_eq_true.mpr ⟨z, hz, by unfold digit at hd; unfold plainC; rw [hd]; rfl⟩]
/-- the size of the first piece. -/
noncomputable def sizeL (l : List Nat) : Nat := if (tokL (l.take 1)).isSome then (if (tokL (l.take 3)).isSome then 3 else if (tokL (l.take 2)).isSome then 2 else 1) else 1
theorem sizeL_pos (l : List Nat) : 1 ≤ sizeL l := by unfold sizeL; (repeat' split) <;> omega
noncomputable def cutL : Nat → List Nat → List (List Nat)
  | 0, _ => []
  | f + 1, l => if l.isEmpty = true then [] else l.take (sizeL l) :: cutL f (l.drop (sizeL l))
theorem cutL_more : ∀ (f : Nat) (l : List Nat), l.length ≤ f → cutL (f + 1) l = cutL f l
  | 0, l, h => by
    have : l = [] := List.length_eq_zero_iff.mp (by omega)
    subst this; rfl
  | f + 1, l, h => by
    show (if l.isEmpty = true then [] else l.take (sizeL l) :: cutL (f + 1) (l.drop (sizeL l))) = (if l.isEmpty = true then [] else l.take (sizeL l) :: cutL f (l.drop (sizeL l)))
    by_cases he : l.isEmpty = true
    · rw [if_pos he, if_pos he]
    · rw [if_neg he, if_neg he, cutL_more f (l.drop (sizeL l)) (by have := sizeL_pos l; rw [List.length_drop]; omega)]
/-- the pieces of a row of codes. -/
noncomputable def cutW (l : List Nat) : List (List Nat) := cutL l.length l
theorem cutL_enough : ∀ (k : Nat) (l : List Nat), cutL (l.length + k) l = cutW l
  | 0, l => rfl
  | k + 1, l => (cutL_more (l.length + k) l (by omega)).trans (cutL_enough k l)
theorem cutL_ge {f : Nat} {l : List Nat} (h : l.length ≤ f) : cutL f l = cutW l := by
  obtain ⟨k, rfl⟩ : ∃ k, f = l.length + k := ⟨f - l.length, by omega⟩
  exact cutL_enough k l
theorem cutW_cons {l : List Nat} (h : l ≠ []) : cutW l = l.take (sizeL l) :: cutW (l.drop (sizeL l)) := by
  obtain ⟨a, r, rfl⟩ := List.exists_cons_of_ne_nil h
  show cutL (r.length + 1) (a :: r) = _
  rw [cutL, if_neg (by simp)]
  congr 1
  refine cutL_ge ?_
  have := sizeL_pos (a :: r)
  rw [List.length_drop, List.length_cons]
  omega
theorem in_take {z : Nat} {l : List Nat} (hl : z ∈ l) {s : Nat} (hs : l.length ≤ s) : z ∈ l.take s := by rw [List.take_of_length_le hs]; exact hl
theorem tok_take {z : Nat} (hd : digit z = true) {l : List Nat} (hz : l.getLast? = some z) (v : List Nat) (s : Nat) : tokL ((l ++ v).take s) = tokL (l.take s) := by
  by_cases hs : s ≤ l.length
  · rw [List.take_append_of_le_length hs]
  · have hm := List.mem_of_getLast? hz
    rw [tok_free hd (in_take hm (by omega)), tok_free hd (w := (l ++ v).take s)]
    rw [List.take_append]
    exact List.mem_append_left _ (in_take hm (by omega))
theorem size_app {z : Nat} (hd : digit z = true) {l : List Nat} (hz : l.getLast? = some z) (v : List Nat) : sizeL (l ++ v) = sizeL l := by
  unfold sizeL
  rw [tok_take hd hz v 1, tok_take hd hz v 2, tok_take hd hz v 3]
theorem size_le {z : Nat} (hd : digit z = true) {l : List Nat} (hz : l.getLast? = some z) : sizeL l ≤ l.length := by
  have hm := List.mem_of_getLast? hz
  have h1 : 1 ≤ l.length := List.length_pos_of_mem hm
  have key : ∀ s, (tokL (l.take s)).isSome = true → s ≤ l.length := fun s h => Classical.byContradiction fun hn => by
    rw [tok_free hd (in_take hm (by omega))] at h
    cases h
  unfold sizeL
  split
  · split
    · rename_i h; exact key 3 h
    · split
      · rename_i h; exact key 2 h
      · exact h1
  · exact h1
/-- what is cut in one is cut in parts that end with a figure. -/
theorem cut_app {z : Nat} (hd : digit z = true) : ∀ (n : Nat) (l : List Nat), l.length ≤ n → l.getLast? = some z → ∀ v, cutW (l ++ v) = cutW l ++ cutW v
  | 0, l, hn, hz, v => by
    have : l = [] := List.length_eq_zero_iff.mp (by omega)
    subst this
    cases hz
  | n + 1, l, hn, hz, v => by
    have hne : l ≠ [] := by rintro rfl; cases hz
    have h1 := sizeL_pos l
    have h2 := size_le hd hz
    rw [cutW_cons (l := l ++ v) (by simp [hne]), size_app hd hz, List.take_append_of_le_length h2, List.drop_append_of_le_length h2, cutW_cons hne, List.cons_append]
    congr 1
    by_cases he : l.drop (sizeL l) = []
    · rw [he]; rfl
    · refine cut_app hd n _ (by rw [List.length_drop]; omega) ?_ v
      rw [List.getLast?_drop, if_neg (by intro h; exact he (List.drop_eq_nil_of_le h))]
      exact hz
noncomputable def ends (l : List Nat) : Bool := match l.getLast? with
  | some z => digit z
  | none => false
theorem cut_chunks : ∀ chs : List (List Nat), (∀ c ∈ chs, ends c = true) → cutW chs.flatten = chs.flatMap cutW
  | [], _ => rfl
  | c :: r, h => by
    have h1 := h c (.head _)
    unfold ends at h1
    rw [List.flatten_cons, List.flatMap_cons, ← cut_chunks r fun c hc => h c (.tail _ hc)]
    cases hz : c.getLast? with
    | none => rw [hz] at h1; cases h1
    | some z => rw [hz] at h1; exact cut_app h1 _ c (Nat.le_refl _) hz _
theorem item_codes (x : Str) {k : Nat} {c : Nat} (h : x.cps.toList[k]? = some c) : Txt.item x (k : Int) = mk [c] := by
  have hk : k < x.length := by have := (List.getElem?_eq_some_iff.mp h).1; simpa [Str.length] using this
  unfold Txt.item Txt.charAt
  have h2 : ¬ ((k : Int) < 0) := by omega
  rw [show seqIndex? (k : Int) x.length = some k by simp [seqIndex?, h2, hk]]
  simp [mk]
  rw [show x.cps[k]? = some c by simpa using h]
  rfl
theorem inTok_mk (w : List Nat) : inTok (mk w) = (tokL w).isSome := by unfold inTok; rw [tok_mk]
theorem slice_mk (x : Str) {k : Nat} (hk : k ≤ x.length) (s : Nat) : Txt.slice x (some (k : Int)) (some ((k : Int) + (s : Nat))) = mk ((x.cps.toList.drop k).take s) := by
  rw [slice_list x (by omega) (by omega) (by omega)]
  show mk _ = mk _
  congr 2
  omega
theorem cutSize_mk (x : Str) {k : Nat} (hk : k < x.length) : cutSize x (k : Int) = sizeL (x.cps.toList.drop k) := by
  have hk' : k < x.cps.toList.length := by simpa [Str.length] using hk
  have h1 : (x.cps.toList.drop k).take 1 = [x.cps.toList[k]] := by rw [List.drop_eq_getElem_cons hk']; rfl
  unfold cutSize sizeL
  rw [item_codes x (List.getElem?_eq_getElem hk'), inTok_mk, h1]
  split
  · unfold cutDown
    rw [slice_mk x (by omega) 3, inTok_mk]
    split
    · rfl
    · unfold cutDown
      rw [slice_mk x (by omega) 2, inTok_mk]
      split
      · rfl
      · rfl
  · rfl
theorem cutFrom_mk (x : Str) : ∀ (f k : Nat), cutFrom x f (k : Int) = (cutL f (x.cps.toList.drop k)).map mk
  | 0, k => rfl
  | f + 1, k => by
    unfold cutFrom cutL
    by_cases hk : k < x.length
    · have hne : ¬ (x.cps.toList.drop k).isEmpty = true := by
        rw [List.isEmpty_iff, List.drop_eq_nil_iff]
        simpa [Str.length] using hk
      rw [if_pos (by omega), if_neg hne, cutSize_mk x hk, slice_mk x (by omega), List.map_cons]
      congr 1
      rw [← Int.natCast_add, cutFrom_mk x f, List.drop_drop]
    · have he : (x.cps.toList.drop k).isEmpty = true := by
        rw [List.isEmpty_iff, List.drop_eq_nil_iff]
        simpa [Str.length] using hk
      rw [if_neg (by omega), if_pos he]
      rfl
theorem cut_mk (x : Str) : cut x = (cutW x.cps.toList).map mk := by
  have := cutFrom_mk x x.length 0
  rw [List.drop_zero] at this
  unfold cut
  rw [show ((0 : Int)) = ((0 : Nat) : Int) from rfl, this, show x.length = x.cps.toList.length by simp [Str.length]]
  rfl
theorem cut_len (x : Str) : (cut x).length ≤ x.length := by
  have : ∀ (f : Nat) (k : Int), (cutFrom x f k).length ≤ f := by
    intro f
    induction f with
    | zero => intro k; exact Nat.le_refl _
    | succ f ih =>
      intro k
      unfold cutFrom
      split
      · rw [List.length_cons]; have := ih (k + (cutSize x k : Nat)); omega
      · exact Nat.zero_le _
  exact this _ _
noncomputable def cN (n : Int) : Nat := (n.fmod 4).toNat
noncomputable def dN (n : Int) : Nat := ((n.fdiv 4).fmod 7).toNat
noncomputable def oN (n : Int) : Nat := ((n.fdiv 28).fmod 5).toNat
noncomputable def bN (n : Int) : Nat := ((n.fdiv 140).fmod 19).toNat
theorem mod_nat (n : Int) {k : Int} (hk : 0 < k) : n.fmod k = ((n.fmod k).toNat : Int) := by have := Int.fmod_nonneg_of_pos n hk; omega
theorem mod_lt (n : Int) {k : Int} (hk : 0 < k) : ((n.fmod k).toNat : Int) < k := by have := Int.fmod_nonneg_of_pos n hk; have := Int.fmod_lt_of_pos n hk; omega
theorem cN_lt (n : Int) : cN n < 4 := by have := mod_lt n (k := 4) (by decide); unfold cN; omega
theorem dN_lt (n : Int) : dN n < 7 := by have := mod_lt (n.fdiv 4) (k := 7) (by decide); unfold dN; omega
theorem oN_lt (n : Int) : oN n < 5 := by have := mod_lt (n.fdiv 28) (k := 5) (by decide); unfold oN; omega
theorem bN_lt (n : Int) : bN n < 19 := by have := mod_lt (n.fdiv 140) (k := 19) (by decide); unfold bN; omega
noncomputable def chA (c : Nat) : List Nat := [120, 42, 48 + c]
noncomputable def chB (i : Nat) : List Nat := if Nat.ble 3 i = true then [43, 121, 42, 48 + (i - 3)] else [45, 121, 42, 48 + (3 - i)]
noncomputable def opL (o : Nat) : List Nat := [[60], [60, 61], [62], [62, 61], [61, 61]].getD o []
noncomputable def chT (o j : Nat) : List Nat := opL o ++ if Nat.ble 9 j = true then [48 + (j - 9)] else [126, 48 + (8 - j)]
theorem figs : (Str.ofString "0123456789").cps.toList = [48, 49, 50, 51, 52, 53, 54, 55, 56, 57] := by kernel_rfl
theorem fig {k : Nat} (h : k < 10) : Txt.item (Str.ofString "0123456789") (k : Int) = mk [48 + k] := by
  refine item_codes _ ?_
  rw [figs]
  have : ∀ k : Fin 10, ([48, 49, 50, 51, 52, 53, 54, 55, 56, 57] : List Nat)[k.val]? = some (48 + k.val) := by decide
  exact this ⟨k, h⟩
theorem s_xm : Str.ofString "x*" = mk [120, 42] := by kernel_rfl
theorem s_py : Str.ofString "+y*" = mk [43, 121, 42] := by kernel_rfl
theorem s_my : Str.ofString "-y*" = mk [45, 121, 42] := by kernel_rfl
theorem s_am : Str.ofString "&" = mk [38] := by kernel_rfl
theorem s_ti : Str.ofString "~" = mk [126] := by kernel_rfl
theorem s_ops : [Str.ofString "<", Str.ofString "<=", Str.ofString ">", Str.ofString ">=", Str.ofString "=="] = [[60], [60, 61], [62], [62, 61], [61, 61]].map mk := by kernel_rfl
theorem form_mk (n : Int) : textForm n = mk (chA (cN n) ++ chB (dN n)) := by
  have hc := cN_lt n
  have hd := dN_lt n
  unfold textForm chA chB
  rw [mod_nat n (k := 4) (by decide), mod_nat (n.fdiv 4) (k := 7) (by decide)]
  show Str.ofString "x*" ++ Txt.item (Str.ofString "0123456789") ((cN n : Nat) : Int) ++ (if 0 ≤ ((dN n : Nat) : Int) - 3 then Str.ofString "+y*" ++ Txt.item (Str.ofString "0123456789") (((dN n : Nat) : Int) - 3) else Str.ofString "-y*" ++ Txt.item (Str.ofString "0123456789") (-(((dN n : Nat) : Int) - 3))) = _
  generalize cN n = c at hc ⊢
  generalize dN n = d at hd ⊢
  rw [fig (by omega), s_xm, s_py, s_my, mk_append]
  by_cases h : 3 ≤ d
  · rw [if_pos (by omega), if_pos (Nat.ble_eq.mpr h), show ((d : Nat) : Int) - 3 = ((d - 3 : Nat) : Int) by omega, fig (by omega), mk_append, mk_append]
    rfl
  · rw [if_neg (by omega), if_neg (by rw [Nat.ble_eq]; exact h), show -(((d : Nat) : Int) - 3) = ((3 - d : Nat) : Int) by omega, fig (by omega), mk_append, mk_append]
    rfl
theorem op_mk (n : Int) : textOp n = mk (opL (oN n)) := by
  have ho := oN_lt n
  unfold textOp
  rw [s_ops]
  show (([[60], [60, 61], [62], [62, 61], [61, 61]] : List (List Nat)).map mk).getD (oN n) Str.empty = mk (opL (oN n))
  generalize oN n = o at ho ⊢
  have : o = 0 ∨ o = 1 ∨ o = 2 ∨ o = 3 ∨ o = 4 := by omega
  rcases this with rfl | rfl | rfl | rfl | rfl <;> rfl
theorem bound_mk (n : Int) : textBound n = mk (if Nat.ble 9 (bN n) = true then [48 + (bN n - 9)] else [126, 48 + (8 - bN n)]) := by
  have hb := bN_lt n
  unfold textBound
  rw [mod_nat (n.fdiv 140) (k := 19) (by decide)]
  show (if 0 ≤ ((bN n : Nat) : Int) - 9 then Txt.item (Str.ofString "0123456789") (((bN n : Nat) : Int) - 9) else Str.ofString "~" ++ Txt.item (Str.ofString "0123456789") (-1 - (((bN n : Nat) : Int) - 9))) = _
  generalize bN n = b at hb ⊢
  by_cases h : 9 ≤ b
  · rw [if_pos (by omega), if_pos (Nat.ble_eq.mpr h), show ((b : Nat) : Int) - 9 = ((b - 9 : Nat) : Int) by omega, fig (by omega)]
  · rw [if_neg (by omega), if_neg (by rw [Nat.ble_eq]; exact h), show -1 - (((b : Nat) : Int) - 9) = ((8 - b : Nat) : Int) by omega, fig (by omega), s_ti, mk_append]
    rfl
noncomputable def fTxt (n : Int) : List Nat := chA (cN n) ++ chB (dN n)
noncomputable def tTxt (n : Int) : List Nat := chA (cN n) ++ chB (dN n) ++ chT (oN n) (bN n)
theorem text_f (n : Int) : lawText n false = mk (fTxt n) := form_mk n
theorem text_t (n : Int) : lawText n true = mk (tTxt n) := by
  show textForm n ++ textOp n ++ textBound n = _
  rw [form_mk, op_mk, bound_mk, mk_append, mk_append]
  unfold tTxt chT
  rw [List.append_assoc]
theorem parts_six (ns : List Int) : partsTo ns 6 = [mk (fTxt (ns.getD 0 0)), mk (tTxt (ns.getD 1 0)), mk (tTxt (ns.getD 2 0)), mk (tTxt (ns.getD 3 0)), mk (tTxt (ns.getD 4 0)), mk (tTxt (ns.getD 5 0))] := by
  rw [← text_f, ← text_t, ← text_t, ← text_t, ← text_t, ← text_t]
  rfl
/-- the program in pieces that end with a figure. -/
noncomputable def stCh (n : Int) : List (List Nat) := [38 :: chA (cN n), chB (dN n), chT (oN n) (bN n)]
noncomputable def chunks (ns : List Int) : List (List Nat) := [chA (cN (ns.getD 0 0)), chB (dN (ns.getD 0 0))] ++ (List.range 5).flatMap fun j => stCh (ns.getD (j + 1) 0)
theorem prog_mk (ns : List Int) : progOf ns = mk (chunks ns).flatten := by
  unfold progOf
  rw [parts_six, s_am]
  show Builtin.Str.glued _ _ = _
  rw [StrLaws.glued_eq_join]
  show mk (fTxt (ns.getD 0 0)) ++ mk [38] ++ (mk (tTxt (ns.getD 1 0)) ++ mk [38] ++ (mk (tTxt (ns.getD 2 0)) ++ mk [38] ++ (mk (tTxt (ns.getD 3 0)) ++ mk [38] ++ (mk (tTxt (ns.getD 4 0)) ++ mk [38] ++ mk (tTxt (ns.getD 5 0)))))) = _
  simp only [mk_append]
  congr 1
  simp [chunks, stCh, fTxt, tTxt, List.range, List.range.loop]
theorem endA : ∀ c : Fin 4, ends (chA c.val) = true := by decide
theorem endA' : ∀ c : Fin 4, ends (38 :: chA c.val) = true := by decide
theorem endB : ∀ i : Fin 7, ends (chB i.val) = true := by decide
theorem endT : ∀ o : Fin 5, ∀ j : Fin 19, ends (chT o.val j.val) = true := by decide
/-- what holds of each kind of chunk holds of all. -/
theorem chunk_all {P : List Nat → Prop} (ns : List Int) (hA : ∀ c : Fin 4, P (chA c.val)) (hA' : ∀ c : Fin 4, P (38 :: chA c.val)) (hB : ∀ i : Fin 7, P (chB i.val)) (hT : ∀ o : Fin 5, ∀ j : Fin 19, P (chT o.val j.val)) : ∀ c ∈ chunks ns, P c := by
  intro c hc
  rcases List.mem_append.mp hc with hc | hc
  · simp only [List.mem_cons, List.not_mem_nil, or_false] at hc
    rcases hc with rfl | rfl
    · exact hA ⟨_, cN_lt _⟩
    · exact hB ⟨_, dN_lt _⟩
  · obtain ⟨j, _, hc⟩ := List.mem_flatMap.mp hc
    simp only [stCh, List.mem_cons, List.not_mem_nil, or_false] at hc
    rcases hc with rfl | rfl | rfl
    · exact hA' ⟨_, cN_lt _⟩
    · exact hB ⟨_, dN_lt _⟩
    · exact hT ⟨_, oN_lt _⟩ ⟨_, bN_lt _⟩
theorem cut_prog (ns : List Int) : cut (progOf ns) = ((chunks ns).flatMap cutW).map mk := by
  rw [cut_mk, prog_mk]
  show (cutW (chunks ns).flatten).map mk = _
  rw [cut_chunks _ (chunk_all ns endA endA' endB endT)]
/-- lengths. -/
theorem lenA : ∀ c : Fin 4, (chA c.val).length = 3 := by decide
theorem lenB : ∀ i : Fin 7, (chB i.val).length = 4 := by decide
theorem lenT : ∀ o : Fin 5, ∀ j : Fin 19, (chT o.val j.val).length ≤ 4 := by decide
theorem fTxt_len (n : Int) : (fTxt n).length = 7 := by
  have h1 := lenA ⟨_, cN_lt n⟩
  have h2 := lenB ⟨_, dN_lt n⟩
  dsimp only at h1 h2
  unfold fTxt
  rw [List.length_append]
  omega
theorem tTxt_len (n : Int) : 7 ≤ (tTxt n).length ∧ (tTxt n).length ≤ 11 := by
  have h0 := fTxt_len n
  have h1 := lenT ⟨_, oN_lt n⟩ ⟨_, bN_lt n⟩
  dsimp only at h1
  unfold tTxt
  unfold fTxt at h0
  rw [List.length_append]
  omega
theorem prog_size (ns : List Int) : 7 ≤ (progOf ns).length ∧ (progOf ns).length ≤ 67 := by
  unfold progOf
  rw [parts_six]
  show 7 ≤ (Builtin.Str.glued _ _).length ∧ (Builtin.Str.glued _ _).length ≤ 67
  rw [size_glued]
  have h0 := fTxt_len (ns.getD 0 0)
  have h1 := tTxt_len (ns.getD 1 0)
  have h2 := tTxt_len (ns.getD 2 0)
  have h3 := tTxt_len (ns.getD 3 0)
  have h4 := tTxt_len (ns.getD 4 0)
  have h5 := tTxt_len (ns.getD 5 0)
  simp only [List.map_cons, List.map_nil, List.sum_cons, List.sum_nil, List.length_cons, List.length_nil, mk_len, s_am]
  omega
theorem prog_len (ns : List Int) : (Txt.join (Str.ofString "&") (partsTo ns 6)).length ≤ 80 := by have := (prog_size ns).2; unfold progOf at this; omega
theorem prog_len3 (ns : List Int) : 3 < (progOf ns).length := by have := (prog_size ns).1; omega
theorem parts_weight (ns : List Int) : ((partsTo ns 6).map (·.length)).sum + (partsTo ns 6).length ≤ 1048576 := by
  rw [parts_six]
  have h0 := fTxt_len (ns.getD 0 0)
  have h1 := tTxt_len (ns.getD 1 0)
  have h2 := tTxt_len (ns.getD 2 0)
  have h3 := tTxt_len (ns.getD 3 0)
  have h4 := tTxt_len (ns.getD 4 0)
  have h5 := tTxt_len (ns.getD 5 0)
  simp only [List.map_cons, List.map_nil, List.sum_cons, List.sum_nil, List.length_cons, List.length_nil, mk_len]
  omega
noncomputable def letters : List Nat := [120, 121, 48, 49, 50, 51, 52, 53, 54, 55, 56, 57]
theorem letters_eq : signsOf (Str.ofString "xy0123456789") = letters.map fun c => mk [c] := by kernel_rfl
noncomputable def idxL (w : List Nat) : List Nat → Nat
  | [] => 0
  | y :: r => if beqL [y] w = true then 0 else idxL w r + 1
theorem idx_mk (w : List Nat) : ∀ l : List Nat, idx (mk w) (l.map fun c => mk [c]) = idxL w l
  | [] => rfl
  | y :: r => by
    show (if mk [y] = mk w then 0 else idx (mk w) (r.map fun c => mk [c]) + 1) = (if beqL [y] w = true then 0 else idxL w r + 1)
    rw [idx_mk w r]
    by_cases h : [y] = w
    · rw [if_pos (congrArg mk h), if_pos (beqL_iff.mpr h)]
    · rw [if_neg (fun e => h (mk_inj e)), if_neg (fun e => h (beqL_iff.mp e))]
noncomputable def numL (w : List Nat) : Int := match tokL w with
  | some i => i
  | none => 256 + (idxL w letters : Nat)
theorem num_mk (w : List Nat) : numOf (mk w) = numL w := by
  unfold numOf numL
  rw [tok_mk, letters_eq, idx_mk]
  all_goals (cases tokL w <;> rfl)
noncomputable def nA (c : Nat) : List Int := [256, 16, 258 + (c : Int)]
noncomputable def nB (i : Nat) : List Int := [if 0 ≤ (i : Int) - 3 then 14 else 15, 257, 16, 258 + max ((i : Int) - 3) (-((i : Int) - 3))]
noncomputable def nT (o j : Nat) : List Int := [20, 29, 21, 30, 27].getD o 0 :: (if 0 ≤ (j : Int) - 9 then [258 + ((j : Int) - 9)] else [31, 257 - ((j : Int) - 9)])
theorem numA : ∀ c : Fin 4, (cutW (chA c.val)).map numL = nA c.val := by decide +kernel
theorem numA' : ∀ c : Fin 4, (cutW (38 :: chA c.val)).map numL = 19 :: nA c.val := by decide +kernel
theorem numB : ∀ i : Fin 7, (cutW (chB i.val)).map numL = nB i.val := by decide +kernel
theorem numT : ∀ o : Fin 5, ∀ j : Fin 19, (cutW (chT o.val j.val)).map numL = nT o.val j.val := by decide +kernel
theorem symF (n : Int) : lawSymbols n false = nA (cN n) ++ nB (dN n) := by
  show symForm n = _
  unfold symForm
  rw [mod_nat n (k := 4) (by decide), mod_nat (n.fdiv 4) (k := 7) (by decide)]
  rfl
theorem symT (n : Int) : lawSymbols n true = nA (cN n) ++ nB (dN n) ++ nT (oN n) (bN n) := by
  show symForm n ++ symTail n = _
  unfold symForm symTail
  rw [mod_nat n (k := 4) (by decide), mod_nat (n.fdiv 4) (k := 7) (by decide), mod_nat (n.fdiv 140) (k := 19) (by decide)]
  rfl
theorem row_prog (ns : List Int) : rowOf (cut (progOf ns)) = symsTo ns 6 := by
  unfold rowOf
  rw [cut_prog, List.map_map]
  have e : (numOf ∘ mk) = numL := funext fun w => num_mk w
  rw [e, List.map_flatMap]
  have st : ∀ n : Int, (stCh n).flatMap (fun c => (cutW c).map numL) = 19 :: lawSymbols n true := fun n => by
    have h1 := numA' ⟨_, cN_lt n⟩
    have h2 := numB ⟨_, dN_lt n⟩
    have h3 := numT ⟨_, oN_lt n⟩ ⟨_, bN_lt n⟩
    dsimp only at h1 h2 h3
    simp only [stCh, List.flatMap_cons, List.flatMap_nil, h1, h2, h3, symT, List.append_nil, List.cons_append, List.append_assoc]
  have h1 := numA ⟨_, cN_lt (ns.getD 0 0)⟩
  have h2 := numB ⟨_, dN_lt (ns.getD 0 0)⟩
  dsimp only at h1 h2
  unfold chunks
  rw [List.flatMap_append, List.flatMap_assoc]
  simp only [st, List.flatMap_cons, List.flatMap_nil, h1, h2]
  unfold symsTo
  simp [List.range, List.range.loop, symF]
theorem sgA : ∀ c : Fin 4, (cutW (chA c.val)).all (fun w => (tokL w).isSome || letters.any fun y => beqL w [y]) = true := by decide +kernel
theorem sgA' : ∀ c : Fin 4, (cutW (38 :: chA c.val)).all (fun w => (tokL w).isSome || letters.any fun y => beqL w [y]) = true := by decide +kernel
theorem sgB : ∀ i : Fin 7, (cutW (chB i.val)).all (fun w => (tokL w).isSome || letters.any fun y => beqL w [y]) = true := by decide +kernel
theorem sgT : ∀ o : Fin 5, ∀ j : Fin 19, (cutW (chT o.val j.val)).all (fun w => (tokL w).isSome || letters.any fun y => beqL w [y]) = true := by decide +kernel
theorem prog_signs (ns : List Int) : ∀ p ∈ cut (progOf ns), tokVal p = none → p ∈ signsOf (Str.ofString "xy0123456789") := by
  intro p hp hn
  rw [cut_prog] at hp
  obtain ⟨w, hw, rfl⟩ := List.mem_map.mp hp
  obtain ⟨c, hc, hw⟩ := List.mem_flatMap.mp hw
  have := List.all_eq_true.mp (chunk_all (P := fun c => (cutW c).all (fun w => (tokL w).isSome || letters.any fun y => beqL w [y]) = true) ns sgA sgA' sgB sgT c hc) w hw
  rw [tok_mk] at hn
  rw [hn] at this
  obtain ⟨y, hy, e⟩ := List.any_eq_true.mp (by simpa using this : (letters.any fun y => beqL w [y]) = true)
  rw [beqL_iff.mp e, letters_eq]
  exact List.mem_map.mpr ⟨y, hy, rfl⟩
/-- the page's codes of a sign. -/
noncomputable def pgC (k c : Nat) : List Nat := if Nat.beq c 38 then [38, 97, 109, 112, 59] else if Nat.beq c 60 then (if Nat.beq k 2 then [60] else [38, 108, 116, 59]) else if Nat.beq c 62 then (if Nat.beq k 4 then [62] else [38, 103, 116, 59]) else [c]
noncomputable def alpha : List Nat := [120, 121, 42, 43, 45, 60, 61, 62, 126, 38, 48, 49, 50, 51, 52, 53, 54, 55, 56, 57]
theorem rep_flat (c : Nat) (z : List Nat) (f : Nat → List Nat) (l : List Nat) : rep c z (l.flatMap f) = l.flatMap fun d => rep c z (f d) := by
  unfold rep
  rw [List.flatMap_assoc]
theorem esc_flat {x : Str} {l : List Nat} {f : Nat → List Nat} (h : x.cps.toList = l.flatMap f) (c : Nat) (z : List Nat) : (escStep (mk [c]) (mk z) x).cps.toList = l.flatMap fun d => rep c z (f d) := by
  have := esc_rep x (mk z) c
  show (escStep ⟨#[c]⟩ (mk z) x).cps.toList = _
  rw [this, h, rep_flat]
  rfl
theorem s_amp : Str.ofString "&amp;" = mk [38, 97, 109, 112, 59] := by kernel_rfl
theorem s_l : Str.ofString "<" = mk [60] := by kernel_rfl
theorem s_lt : Str.ofString "&lt;" = mk [38, 108, 116, 59] := by kernel_rfl
theorem s_g : Str.ofString ">" = mk [62] := by kernel_rfl
theorem s_gt : Str.ofString "&gt;" = mk [38, 103, 116, 59] := by kernel_rfl
theorem s_q : Str.ofString "\"" = mk [34] := by kernel_rfl
theorem s_quot : Str.ofString "&quot;" = mk [38, 113, 117, 111, 116, 59] := by kernel_rfl
theorem s_r : Str.ofString "\r" = mk [13] := by kernel_rfl
theorem s_n : Str.ofString "\n" = mk [10] := by kernel_rfl
theorem s_t : Str.ofString "\t" = mk [9] := by kernel_rfl
theorem s_13 : Str.ofString "&#13;" = mk [38, 35, 49, 51, 59] := by kernel_rfl
theorem s_10 : Str.ofString "&#10;" = mk [38, 35, 49, 48, 59] := by kernel_rfl
theorem s_09 : Str.ofString "&#09;" = mk [38, 35, 48, 57, 59] := by kernel_rfl
theorem s_xD : Str.ofString "&#xD;" = mk [38, 35, 120, 68, 59] := by kernel_rfl
theorem s_x9 : Str.ofString "&#x9;" = mk [38, 35, 120, 57, 59] := by kernel_rfl
theorem s_xA : Str.ofString "&#xA;" = mk [38, 35, 120, 65, 59] := by kernel_rfl
theorem flat_id (l : List Nat) : l = l.flatMap fun d => [d] := by induction l with
  | nil => rfl
  | cons a l ih => rw [List.flatMap_cons, ← ih]; rfl
theorem flat_congr {l : List Nat} {f g : Nat → List Nat} (h : ∀ d ∈ l, f d = g d) : l.flatMap f = l.flatMap g := by
  induction l with
  | nil => rfl
  | cons a l ih => rw [List.flatMap_cons, List.flatMap_cons, h a (.head _), ih fun d hd => h d (.tail _ hd)]
theorem page_codes {k : Nat} (hk : k < 5) {l : List Nat} (hl : ∀ d ∈ l, d ∈ alpha) : (pageOf (k : Int) (mk l)).cps.toList = l.flatMap (pgC k) := by
  have h0 : (mk l).cps.toList = l.flatMap fun d => [d] := flat_id l
  have hk' : k = 0 ∨ k = 1 ∨ k = 2 ∨ k = 3 ∨ k = 4 := by omega
  rcases hk' with rfl | rfl | rfl | rfl | rfl
  · show (cdata (mk l)).cps.toList = _
    unfold cdata
    rw [s_am, s_amp, s_l, s_lt, s_g, s_gt, esc_flat (esc_flat (esc_flat h0 _ _) _ _) _ _]
    refine flat_congr fun d hd => ?_
    have : alpha.all (fun d => rep 62 [38, 103, 116, 59] (rep 60 [38, 108, 116, 59] (rep 38 [38, 97, 109, 112, 59] [d])) == pgC 0 d) = true := by decide +kernel
    exact eq_of_beq (List.all_eq_true.mp this d (hl d hd))
  · show (attrib (mk l)).cps.toList = _
    unfold attrib
    rw [s_am, s_amp, s_l, s_lt, s_g, s_gt, s_q, s_quot, s_r, s_13, s_n, s_10, s_t, s_09, esc_flat (esc_flat (esc_flat (esc_flat (esc_flat (esc_flat (esc_flat h0 _ _) _ _) _ _) _ _) _ _) _ _) _ _]
    refine flat_congr fun d hd => ?_
    have : alpha.all (fun d => rep 9 [38, 35, 48, 57, 59] (rep 10 [38, 35, 49, 48, 59] (rep 13 [38, 35, 49, 51, 59] (rep 34 [38, 113, 117, 111, 116, 59] (rep 62 [38, 103, 116, 59] (rep 60 [38, 108, 116, 59] (rep 38 [38, 97, 109, 112, 59] [d])))))) == pgC 1 d) = true := by decide +kernel
    exact eq_of_beq (List.all_eq_true.mp this d (hl d hd))
  · show (attribHtml (mk l)).cps.toList = _
    unfold attribHtml
    rw [s_am, s_amp, s_g, s_gt, s_q, s_quot, esc_flat (esc_flat (esc_flat h0 _ _) _ _) _ _]
    refine flat_congr fun d hd => ?_
    have : alpha.all (fun d => rep 34 [38, 113, 117, 111, 116, 59] (rep 62 [38, 103, 116, 59] (rep 38 [38, 97, 109, 112, 59] [d])) == pgC 2 d) = true := by decide +kernel
    exact eq_of_beq (List.all_eq_true.mp this d (hl d hd))
  · show (cdataC14n (mk l)).cps.toList = _
    unfold cdataC14n
    rw [s_am, s_amp, s_l, s_lt, s_g, s_gt, s_r, s_xD, esc_flat (esc_flat (esc_flat (esc_flat h0 _ _) _ _) _ _) _ _]
    refine flat_congr fun d hd => ?_
    have : alpha.all (fun d => rep 13 [38, 35, 120, 68, 59] (rep 62 [38, 103, 116, 59] (rep 60 [38, 108, 116, 59] (rep 38 [38, 97, 109, 112, 59] [d]))) == pgC 3 d) = true := by decide +kernel
    exact eq_of_beq (List.all_eq_true.mp this d (hl d hd))
  · show (attribC14n (mk l)).cps.toList = _
    unfold attribC14n
    rw [s_am, s_amp, s_l, s_lt, s_q, s_quot, s_t, s_x9, s_n, s_xA, s_r, s_xD, esc_flat (esc_flat (esc_flat (esc_flat (esc_flat (esc_flat h0 _ _) _ _) _ _) _ _) _ _) _ _]
    refine flat_congr fun d hd => ?_
    have : alpha.all (fun d => rep 13 [38, 35, 120, 68, 59] (rep 10 [38, 35, 120, 65, 59] (rep 9 [38, 35, 120, 57, 59] (rep 34 [38, 113, 117, 111, 116, 59] (rep 60 [38, 108, 116, 59] (rep 38 [38, 97, 109, 112, 59] [d]))))) == pgC 4 d) = true := by decide +kernel
    exact eq_of_beq (List.all_eq_true.mp this d (hl d hd))
theorem alA : ∀ c : Fin 4, ∀ d ∈ chA c.val, d ∈ alpha := by decide
theorem alA' : ∀ c : Fin 4, ∀ d ∈ 38 :: chA c.val, d ∈ alpha := by decide
theorem alB : ∀ i : Fin 7, ∀ d ∈ chB i.val, d ∈ alpha := by decide
theorem alT : ∀ o : Fin 5, ∀ j : Fin 19, ∀ d ∈ chT o.val j.val, d ∈ alpha := by decide
theorem prog_alpha (ns : List Int) : ∀ d ∈ (chunks ns).flatten, d ∈ alpha := by
  intro d hd
  obtain ⟨c, hc, hd⟩ := List.mem_flatten.mp hd
  exact chunk_all (P := fun c => ∀ d ∈ c, d ∈ alpha) ns alA alA' alB alT c hc d hd
theorem hand_nat {k : Int} (h0 : 0 ≤ k) (h5 : k < 5) : ∃ m : Nat, k = (m : Int) ∧ m < 5 := ⟨k.toNat, by omega, by omega⟩
theorem page_mk {k : Nat} (hk : k < 5) (ns : List Int) : pageOf (k : Int) (progOf ns) = mk ((chunks ns).flatten.flatMap (pgC k)) := by
  refine str_ext ?_
  rw [prog_mk, page_codes hk (prog_alpha ns)]
  rfl
theorem tab_mk {k : Nat} (hk : k < 5) (c : Nat) : tabSign (k : Int) ⟨#[c]⟩ = mk (pgC k c) := by
  unfold tabSign ltOf gtOf pgC
  rw [s_am, s_amp, s_l, s_lt, s_g, s_gt]
  have e : ∀ a : Nat, ((⟨#[c]⟩ : Str) = mk [a]) = (c = a) := fun a => propext ⟨fun h => by simpa using mk_inj (a := [c]) h, fun h => by rw [h]; rfl⟩
  simp only [e, Nat.beq_eq]
  have e2 : ((k : Int) = 2) = (k = 2) := propext (by omega)
  have e4 : ((k : Int) = 4) = (k = 4) := propext (by omega)
  simp only [e2, e4]
  (repeat' split) <;> rfl
theorem join_flat (l : List (List Nat)) : Txt.join (Str.ofString "") (l.map mk) = mk l.flatten := by
  show Builtin.Str.glued _ _ = _
  rw [StrLaws.glued_eq_join, show Str.ofString "" = mk [] by kernel_rfl]
  induction l with
  | nil => rfl
  | cons a l ih =>
    cases l with
    | nil => simp [Str.join]
    | cons b r =>
      show mk a ++ mk [] ++ Str.join (mk []) ((b :: r).map mk) = _
      rw [ih, mk_append, mk_append]
      simp
theorem tab_codes {k : Nat} (hk : k < 5) (l : List Nat) : tabTo (k : Int) (mk l) (mk l).cps.size = (l.map (pgC k)).map mk := by
  unfold tabTo
  rw [show (mk l).cps.toList.take (mk l).cps.size = l by simp [mk], List.map_map]
  exact List.map_congr_left fun c _ => tab_mk hk c
theorem page_tab {k : Int} (ns : List Int) (h0 : 0 ≤ k) (h5 : k < 5) : Txt.join (Str.ofString "") (tabTo k (Txt.join (Str.ofString "&") (partsTo ns 6)) (Txt.join (Str.ofString "&") (partsTo ns 6)).cps.size) = pageOf k (Txt.join (Str.ofString "&") (partsTo ns 6)) := by
  obtain ⟨m, rfl, hm⟩ := hand_nat h0 h5
  show Txt.join _ (tabTo _ (progOf ns) (progOf ns).cps.size) = pageOf _ (progOf ns)
  rw [page_mk hm, prog_mk, tab_codes hm, join_flat, List.flatMap]
theorem pgC_len (k c : Nat) : 1 ≤ (pgC k c).length ∧ (pgC k c).length ≤ 5 := by
  unfold pgC
  (repeat' split) <;> simp
theorem flat_len (k : Nat) : ∀ l : List Nat, l.length ≤ (l.flatMap (pgC k)).length ∧ (l.flatMap (pgC k)).length ≤ 5 * l.length
  | [] => by simp
  | a :: l => by
    have h1 := flat_len k l
    have h2 := pgC_len k a
    rw [List.flatMap_cons, List.length_append, List.length_cons]
    omega
theorem page_len {k : Int} (ns : List Int) (h0 : 0 ≤ k) (h5 : k < 5) : 3 < (pageOf k (progOf ns)).length ∧ (pageOf k (progOf ns)).length ≤ 10000 := by
  obtain ⟨m, rfl, hm⟩ := hand_nat h0 h5
  have h := prog_size ns
  rw [prog_mk, mk_len] at h
  have h2 := flat_len m (chunks ns).flatten
  rw [page_mk hm, mk_len]
  omega
theorem sum_len (k : Nat) : ∀ l : List Nat, (((l.map (pgC k)).map mk).map (·.length)).sum ≤ 5 * l.length
  | [] => by simp
  | a :: l => by
    have h1 := sum_len k l
    have h2 := pgC_len k a
    simp only [List.map_cons, List.sum_cons, mk_len, List.length_cons]
    omega
theorem tab_weight' {k : Int} {x : Str} (h0 : 0 ≤ k) (h5 : k < 5) (h : x.length ≤ 80) : ((tabTo k x x.cps.size).map (·.length)).sum + (tabTo k x x.cps.size).length ≤ 1048576 := by
  obtain ⟨m, rfl, hm⟩ := hand_nat h0 h5
  rw [← mk_codes x, tab_codes hm]
  have h1 := sum_len m x.cps.toList
  have h2 : x.cps.toList.length ≤ 80 := by simpa [Str.length] using h
  rw [List.length_map, List.length_map]
  omega
/-- a reader of pieces. -/
noncomputable def bareF : Nat → List (List Nat) → Option (List Nat)
  | 0, _ => none
  | f + 1, ws => match ws with
    | [] => some []
    | w :: r => if beqL w [38] = true then
        (match r with
        | a :: b :: c :: d :: r' => if beqL a [97] && beqL b [109] && beqL c [112] && beqL d [59] then (bareF f r').map (38 :: ·)
            else if beqL a [108] && beqL b [116] && beqL c [59] then (bareF f (d :: r')).map (60 :: ·)
            else if beqL a [103] && beqL b [116] && beqL c [59] then (bareF f (d :: r')).map (62 :: ·) else none
        | _ => none)
      else (bareF f r).map (w ++ ·)
theorem s_a : Str.ofString "a" = mk [97] := by kernel_rfl
theorem s_m : Str.ofString "m" = mk [109] := by kernel_rfl
theorem s_p : Str.ofString "p" = mk [112] := by kernel_rfl
theorem s_se : Str.ofString ";" = mk [59] := by kernel_rfl
theorem s_ll : Str.ofString "l" = mk [108] := by kernel_rfl
theorem s_tt : Str.ofString "t" = mk [116] := by kernel_rfl
theorem s_gg : Str.ofString "g" = mk [103] := by kernel_rfl
theorem bareF_spec : ∀ (f : Nat) (ws : List (List Nat)) (t : List Nat), bareF f ws = some t → Bare (ws.map mk) (mk t)
  | 0, _, _, h => by cases h
  | f + 1, [], t, h => by cases h; exact Bare.nil
  | f + 1, w :: r, t, h => by
    unfold bareF at h
    dsimp only at h
    split at h
    · rename_i hw
      rw [beqL_iff] at hw
      subst hw
      split at h
      · rename_i a b c d r'
        split at h
        · rename_i hc
          simp only [Bool.and_eq_true, beqL_iff] at hc
          obtain ⟨⟨⟨rfl, rfl⟩, rfl⟩, rfl⟩ := hc
          obtain ⟨t', ht, rfl⟩ := Option.map_eq_some_iff.mp h
          have := Bare.amp (bareF_spec f r' t' ht)
          rw [s_am, s_a, s_m, s_p, s_se, mk_append] at this
          exact this
        · split at h
          · rename_i hc
            simp only [Bool.and_eq_true, beqL_iff] at hc
            obtain ⟨⟨rfl, rfl⟩, rfl⟩ := hc
            obtain ⟨t', ht, rfl⟩ := Option.map_eq_some_iff.mp h
            have := Bare.lt (bareF_spec f (d :: r') t' ht)
            rw [s_am, s_ll, s_tt, s_se, s_l, mk_append] at this
            exact this
          · split at h
            · rename_i hc
              simp only [Bool.and_eq_true, beqL_iff] at hc
              obtain ⟨⟨rfl, rfl⟩, rfl⟩ := hc
              obtain ⟨t', ht, rfl⟩ := Option.map_eq_some_iff.mp h
              have := Bare.gt (bareF_spec f (d :: r') t' ht)
              rw [s_am, s_gg, s_tt, s_se, s_g, mk_append] at this
              exact this
            · cases h
      · cases h
    · rename_i hn
      obtain ⟨t', ht, rfl⟩ := Option.map_eq_some_iff.mp h
      rw [← mk_append]
      refine Bare.one (fun e => hn ?_) (bareF_spec f r t' ht)
      rw [tok_mk] at e
      exact beqL_iff.mpr (tok_amp e)
theorem str_assoc (a b c : Str) : a ++ b ++ c = a ++ (b ++ c) := by
  rw [← mk_codes a, ← mk_codes b, ← mk_codes c]
  simp only [mk_append, List.append_assoc]
theorem bare_app {a b : List Str} {s t : Str} (h : Bare a s) (k : Bare b t) : Bare (a ++ b) (s ++ t) := by
  induction h with
  | nil => rw [show Str.empty ++ t = t by rw [← mk_codes t]; exact mk_append [] _]; exact k
  | one h _ ih => rw [str_assoc]; exact .one h ih
  | amp _ ih => rw [str_assoc]; exact .amp ih
  | lt _ ih => rw [str_assoc]; exact .lt ih
  | gt _ ih => rw [str_assoc]; exact .gt ih
noncomputable def okB (k : Nat) (c : List Nat) : Bool := ends (c.flatMap (pgC k)) && (bareF 20 (cutW (c.flatMap (pgC k)))).any (beqL c)
/-- the hands that write alike. -/
noncomputable def hand (k : Nat) : Nat := if Nat.beq k 2 = true then 2 else if Nat.beq k 4 = true then 4 else 0
theorem okB_hand {k : Nat} (hk : k < 5) (c : List Nat) : okB k c = okB (hand k) c := by
  have e : pgC k = pgC (hand k) := by
    have : k = 0 ∨ k = 1 ∨ k = 2 ∨ k = 3 ∨ k = 4 := by omega
    rcases this with rfl | rfl | rfl | rfl | rfl <;> rfl
  unfold okB
  rw [e]
theorem hand_lt (k : Nat) : ∃ h : Fin 3, hand k = 2 * h.val := by
  unfold hand
  (repeat' split)
  · exact ⟨1, rfl⟩
  · exact ⟨2, rfl⟩
  · exact ⟨0, rfl⟩
theorem okA0 : ∀ h : Fin 3, ∀ c : Fin 4, okB (2 * h.val) (chA c.val) = true := by decide +kernel
theorem okA1 : ∀ h : Fin 3, ∀ c : Fin 4, okB (2 * h.val) (38 :: chA c.val) = true := by decide +kernel
theorem okB0 : ∀ h : Fin 3, ∀ i : Fin 7, okB (2 * h.val) (chB i.val) = true := by decide +kernel
theorem okT0 : ∀ h : Fin 3, ∀ o : Fin 5, ∀ j : Fin 19, okB (2 * h.val) (chT o.val j.val) = true := by decide +kernel
theorem bare_chunks (k : Nat) : ∀ chs : List (List Nat), (∀ c ∈ chs, okB k c = true) → Bare ((chs.flatMap fun c => cutW (c.flatMap (pgC k))).map mk) (mk chs.flatten)
  | [], _ => Bare.nil
  | c :: r, h => by
    have h1 := (Bool.and_eq_true_iff.mp (h c (.head _))).2
    have h2 := bare_chunks k r fun c hc => h c (.tail _ hc)
    cases hb : bareF 20 (cutW (c.flatMap (pgC k))) with
    | none => rw [hb] at h1; cases h1
    | some t =>
      rw [hb] at h1
      obtain rfl : c = t := beqL_iff.mp h1
      rw [List.flatMap_cons, List.map_append, List.flatten_cons, ← mk_append]
      exact bare_app (bareF_spec _ _ _ hb) h2
theorem bare_page {k : Int} (ns : List Int) (h0 : 0 ≤ k) (h5 : k < 5) : Bare (cut (pageOf k (progOf ns))) (progOf ns) := by
  obtain ⟨m, rfl, hm⟩ := hand_nat h0 h5
  obtain ⟨h3, e3⟩ := hand_lt m
  have hall := chunk_all (P := fun c => okB m c = true) ns (fun c => by rw [okB_hand hm, e3]; exact okA0 h3 c) (fun c => by rw [okB_hand hm, e3]; exact okA1 h3 c) (fun c => by rw [okB_hand hm, e3]; exact okB0 h3 c) (fun o j => by rw [okB_hand hm, e3]; exact okT0 h3 o j)
  rw [cut_mk, page_mk hm]
  show Bare ((cutW ((chunks ns).flatten.flatMap (pgC m))).map mk) _
  rw [prog_mk, show (chunks ns).flatten.flatMap (pgC m) = ((chunks ns).map fun c => c.flatMap (pgC m)).flatten by rw [← List.flatMap_def, ← List.flatMap_assoc, List.flatMap_id'],
    cut_chunks _ (fun c hc => by
      obtain ⟨c', hc', rfl⟩ := List.mem_map.mp hc
      exact (Bool.and_eq_true_iff.mp (hall c' hc')).1), List.flatMap_map]
  exact bare_chunks m _ hall
/-- a row over the sixteen points. -/
noncomputable def rowI (f : Nat → Int) : List Int := (List.range 16).map f
noncomputable def rowB (f : Nat → Bool) : List Bool := (List.range 16).map f
theorem zip_row {γ : Type} (op : Int → Int → γ) (f g : Nat → Int) : List.zipWith op (rowI f) (rowI g) = (List.range 16).map fun i => op (f i) (g i) := by
  unfold rowI
  rw [List.zipWith_map, List.zipWith_self]
theorem row_len (f : Nat → Int) : (rowI f).length = 16 := by simp [rowI]
theorem row_all {f : Nat → Int} {b : Nat} (h : ∀ i, i < 16 → (f i).natAbs ≤ b) : ∀ a ∈ rowI f, a.natAbs ≤ b := fun a ha => by
  obtain ⟨i, hi, rfl⟩ := List.mem_map.mp ha
  exact h i (List.mem_range.mp hi)
theorem worth_x : worthCols[0]? = some (.ints (rowI fun i => ((i / 4 : Nat) : Int))) := rfl
theorem worth_y : worthCols[1]? = some (.ints (rowI fun i => ((i % 4 : Nat) : Int))) := rfl
theorem rep_row (z : Int) : List.replicate 16 z = rowI fun _ => z := by
  simp [rowI, List.map_const']
theorem worth_n {k : Nat} (h : k < 10) : worthCols[k + 2]? = some (.ints (rowI fun _ => (k : Int))) := by
  unfold worthCols
  rw [List.getElem?_cons_succ, List.getElem?_cons_succ, List.getElem?_map, List.getElem?_range h, Option.map_some, rep_row]
section
variable {row : List Int} {told : List Col} {res : List Col}
noncomputable abbrev fx (c : Int) : Nat → Int := fun i => ((i / 4 : Nat) : Int) * c
noncomputable abbrev fy (d : Int) : Nat → Int := fun i => ((i % 4 : Nat) : Int) * d
noncomputable abbrev fl (s : Int) (c d : Int) : Nat → Int := fun i => if s = 14 then fx c i + fy d i else fx c i - fy d i
theorem op_mul (f g : Nat → Int) : opCol 16 (rowI f) (rowI g) = some (.ints (rowI fun i => f i * g i)) := by
  unfold opCol; rw [if_pos rfl, zip_row]; rfl
theorem op_add (f g : Nat → Int) : opCol 14 (rowI f) (rowI g) = some (.ints (rowI fun i => f i + g i)) := by
  unfold opCol; rw [if_neg (by decide), if_pos rfl, zip_row]; rfl
theorem op_sub (f g : Nat → Int) : opCol 15 (rowI f) (rowI g) = some (.ints (rowI fun i => f i - g i)) := by
  unfold opCol; rw [if_neg (by decide), if_neg (by decide), if_pos rfl, zip_row]; rfl
theorem q4 {i : Nat} (h : i < 16) : ((i / 4 : Nat) : Int) ≤ 3 := by omega
theorem r4 (i : Nat) : ((i % 4 : Nat) : Int) ≤ 3 := by omega
theorem small_mul {a b : Int} (ha : 0 ≤ a) (ha3 : a ≤ 3) (hb : 0 ≤ b) (hb9 : b ≤ 9) : 0 ≤ a * b ∧ a * b ≤ 27 := by
  have : a = 0 ∨ a = 1 ∨ a = 2 ∨ a = 3 := by omega
  rcases this with rfl | rfl | rfl | rfl <;> omega
theorem fx_le {c : Nat} (hc : c < 10) {i : Nat} (h : i < 16) : (fx c i).natAbs ≤ 27 := by
  have := small_mul (a := ((i / 4 : Nat) : Int)) (b := (c : Int)) (by omega) (q4 h) (by omega) (by omega)
  show (((i / 4 : Nat) : Int) * (c : Int)).natAbs ≤ 27
  omega
theorem fy_le {d : Nat} (hd : d < 10) {i : Nat} (h : i < 16) : (fy d i).natAbs ≤ 27 := by
  have := small_mul (a := ((i % 4 : Nat) : Int)) (b := (d : Int)) (by omega) (r4 i) (by omega) (by omega)
  show (((i % 4 : Nat) : Int) * (d : Int)).natAbs ≤ 27
  omega
theorem fl_le {s : Int} {c d : Nat} (hc : c < 10) (hd : d < 10) {i : Nat} (h : i < 16) : (fl s c d i).natAbs ≤ 54 := by
  have h1 := fx_le hc h
  have h2 := fy_le hd h
  unfold fl
  split <;> omega
/-- what a form's symbols leave upon the pile when a sign of rank r at most two comes. -/
theorem reduce_form {r s : Int} {c d : Nat} (hs : s = 14 ∨ s = 15) (hr : r ≤ 2) (hc : c < 10) (hd : d < 10) {ms : List Int} {vals : List Col} {ms' : List Int} {vals' : List Col}
    (k : Reduce r ms (vals ++ [.ints (rowI (fl s c d))]) ms' vals') :
    Reduce r (ms ++ [s] ++ [16]) (vals ++ [.ints (rowI (fx c))] ++ [.ints (rowI fun i => ((i % 4 : Nat) : Int))] ++ [.ints (rowI fun _ => (d : Int))]) ms' vals' := by
  refine Reduce.op (k := 3) rfl (by decide) (by omega) (op_mul _ _) (row_len _) (row_len _) (row_all fun i hi => by have := r4 i; omega) (row_all fun i hi => by omega) ?_
  rcases hs with rfl | rfl
  · refine Reduce.op (k := 2) rfl (by decide) hr (op_add _ _) (row_len _) (row_len _) (row_all fun i hi => Nat.le_trans (fx_le hc hi) (by decide)) (row_all fun i hi => Nat.le_trans (fy_le hd hi) (by decide)) ?_
    exact k
  · refine Reduce.op (k := 2) rfl (by decide) hr (op_sub _ _) (row_len _) (row_len _) (row_all fun i hi => Nat.le_trans (fx_le hc hi) (by decide)) (row_all fun i hi => Nat.le_trans (fy_le hd hi) (by decide)) ?_
    exact k
/-- a form's symbols, worked off as far as they are. -/
theorem runs_form {s : Int} {c d : Nat} (hs : s = 14 ∨ s = 15) (hc : c < 10) (hd : d < 10)
    (k : Runs worthCols row told [s, 16] [.ints (rowI (fx c)), .ints (rowI fun i => ((i % 4 : Nat) : Int)), .ints (rowI fun _ => (d : Int))] res) :
    Runs worthCols ([256, 16, 258 + (c : Int), s, 257, 16, 258 + (d : Int)] ++ row) told [] [] res := by
  refine Runs.push (k := 0) worth_x ?_
  refine Runs.mark (s := 16) (k := 3) rfl Reduce.none ?_
  rw [show (258 + (c : Int)) = 256 + ((c + 2 : Nat) : Int) by omega]
  refine Runs.push (worth_n hc) ?_
  have hr : ∃ k, rankOf s = some k ∧ k = 2 := by rcases hs with rfl | rfl <;> exact ⟨2, rfl, rfl⟩
  obtain ⟨_, hr, rfl⟩ := hr
  refine Runs.mark (s := s) hr (Reduce.op (ms := []) (vals := []) (k := 3) rfl (by decide) (by decide) (op_mul _ _) (row_len _) (row_len _) (row_all fun i hi => by have := q4 hi; omega) (row_all fun i hi => by omega) Reduce.none) ?_
  refine Runs.push (k := 1) worth_y ?_
  refine Runs.mark (s := 16) (k := 3) rfl (Reduce.stop (ms := []) hr (by decide)) ?_
  rw [show (258 + (d : Int)) = 256 + ((d + 2 : Nat) : Int) by omega]
  exact Runs.push (worth_n hd) k
/-- a whole first form. -/
theorem runs_first {s e : Int} {c d : Nat} (hs : s = 14 ∨ s = 15) (he : e = 0 ∨ e = 19) (hc : c < 10) (hd : d < 10)
    (k : Runs worthCols row (told ++ [.ints (rowI (fl s c d))]) [] [] res) :
    Runs worthCols ([256, 16, 258 + (c : Int), s, 257, 16, 258 + (d : Int)] ++ e :: row) told [] [] res :=
  runs_form hs hc hd (Runs.tell he (reduce_form (ms := []) (vals := []) hs (by decide) hc hd Reduce.none) k)
noncomputable def cmpI (o : Int) (a b : Int) : Bool := if o = 20 then decide (a < b) else if o = 29 then decide (a ≤ b) else if o = 21 then decide (b < a) else if o = 30 then decide (b ≤ a) else a == b
theorem op_cmp {o : Int} (ho : o = 20 ∨ o = 29 ∨ o = 21 ∨ o = 30 ∨ o = 27) (f g : Nat → Int) : opCol o (rowI f) (rowI g) = some (.bools (rowB fun i => cmpI o (f i) (g i))) := by
  rcases ho with rfl | rfl | rfl | rfl | rfl <;> (unfold opCol cmpI; simp only [zip_row]; rfl)
theorem rank_cmp {o : Int} (ho : o = 20 ∨ o = 29 ∨ o = 21 ∨ o = 30 ∨ o = 27) : rankOf o = some 1 ∧ o ≠ 31 := by rcases ho with rfl | rfl | rfl | rfl | rfl <;> exact ⟨rfl, by decide⟩
theorem inv_row (z : Int) : (rowI fun _ => z).map (fun n => -n - 1) = rowI fun _ => -z - 1 := by unfold rowI; rw [List.map_map]; rfl
/-- a whole statement: its bound a figure, or a figure behind ~. -/
theorem runs_stat {s o e : Int} {c d b : Nat} {t : List Int} {z : Int} (hs : s = 14 ∨ s = 15) (ho : o = 20 ∨ o = 29 ∨ o = 21 ∨ o = 30 ∨ o = 27) (he : e = 0 ∨ e = 19) (hc : c < 10) (hd : d < 10) (hb : b < 10)
    (ht : (t = [258 + (b : Int)] ∧ z = b) ∨ (t = [31, 258 + (b : Int)] ∧ z = -(b : Int) - 1))
    (k : Runs worthCols row (told ++ [.bools (rowB fun i => cmpI o (fl s c d i) z)]) [] [] res) :
    Runs worthCols ([256, 16, 258 + (c : Int), s, 257, 16, 258 + (d : Int)] ++ (o :: t ++ e :: row)) told [] [] res := by
  obtain ⟨hr, h31⟩ := rank_cmp ho
  refine runs_form hs hc hd ?_
  refine Runs.mark hr (reduce_form (ms := []) (vals := []) hs (by decide) hc hd Reduce.none) ?_
  have fin : ∀ z : Int, z.natAbs ≤ 1000000 → Reduce 0 ([] ++ [o]) ([] ++ [.ints (rowI (fl s c d))] ++ [.ints (rowI fun _ => z)]) [] ([] ++ [.bools (rowB fun i => cmpI o (fl s c d i) z)]) := fun z hz =>
    Reduce.op hr h31 (by decide) (op_cmp ho _ _) (row_len _) (row_len _) (row_all fun i hi => Nat.le_trans (fl_le (s := s) hc hd hi) (by decide)) (row_all fun i hi => hz) Reduce.none
  rcases ht with ⟨rfl, rfl⟩ | ⟨rfl, rfl⟩
  · show Runs worthCols ((258 + (b : Int)) :: e :: row) _ _ _ _
    rw [show (258 + (b : Int)) = 256 + ((b + 2 : Nat) : Int) by omega]
    exact Runs.push (worth_n hb) (Runs.tell he (fin _ (by omega)) k)
  · show Runs worthCols (31 :: (258 + (b : Int)) :: e :: row) _ _ _ _
    refine Runs.mark (k := 4) rfl (Reduce.stop (ms := []) hr (by decide)) ?_
    rw [show (258 + (b : Int)) = 256 + ((b + 2 : Nat) : Int) by omega]
    refine Runs.push (worth_n hb) (Runs.tell he ?_ k)
    refine Reduce.inv (r := 0) (ms := [] ++ [o]) (vals := [] ++ [.ints (rowI (fl s c d))]) (by decide) (row_len _) ?_
    rw [inv_row]
    exact fin _ (by omega)
end
noncomputable def sgn (n : Int) : Int := if 0 ≤ ((dN n : Nat) : Int) - 3 then 14 else 15
noncomputable def absD (n : Int) : Nat := if 3 ≤ dN n then dN n - 3 else 3 - dN n
noncomputable def opN (n : Int) : Int := [20, 29, 21, 30, 27].getD (oN n) 0
noncomputable def bdN (n : Int) : Nat := if 9 ≤ bN n then bN n - 9 else 8 - bN n
noncomputable def bdT (n : Int) : List Int := if 9 ≤ bN n then [258 + (bdN n : Int)] else [31, 258 + (bdN n : Int)]
theorem sgn_or (n : Int) : sgn n = 14 ∨ sgn n = 15 := by unfold sgn; split <;> simp
theorem op_tab : ∀ o : Fin 5, ([20, 29, 21, 30, 27] : List Int).getD o.val 0 = 20 ∨ ([20, 29, 21, 30, 27] : List Int).getD o.val 0 = 29 ∨ ([20, 29, 21, 30, 27] : List Int).getD o.val 0 = 21 ∨ ([20, 29, 21, 30, 27] : List Int).getD o.val 0 = 30 ∨ ([20, 29, 21, 30, 27] : List Int).getD o.val 0 = 27 := by decide
theorem opN_or (n : Int) : opN n = 20 ∨ opN n = 29 ∨ opN n = 21 ∨ opN n = 30 ∨ opN n = 27 := op_tab ⟨_, oN_lt n⟩
theorem absD_lt (n : Int) : absD n < 10 := by have := dN_lt n; unfold absD; split <;> omega
theorem bdN_lt (n : Int) : bdN n < 10 := by have := bN_lt n; unfold bdN; split <;> omega
theorem nB_tab : ∀ i : Fin 7, nB i.val = [if 0 ≤ ((i.val : Nat) : Int) - 3 then 14 else 15, 257, 16, 258 + ((if 3 ≤ i.val then i.val - 3 else 3 - i.val : Nat) : Int)] := by decide
theorem nT_tab : ∀ o : Fin 5, ∀ j : Fin 19, nT o.val j.val = ([20, 29, 21, 30, 27] : List Int).getD o.val 0 :: (if 9 ≤ j.val then [258 + ((if 9 ≤ j.val then j.val - 9 else 8 - j.val : Nat) : Int)] else [31, 258 + ((if 9 ≤ j.val then j.val - 9 else 8 - j.val : Nat) : Int)]) := by decide
theorem symF' (n : Int) : lawSymbols n false = [256, 16, 258 + (cN n : Int), sgn n, 257, 16, 258 + (absD n : Int)] := by
  rw [symF]
  exact congrArg (nA (cN n) ++ ·) (nB_tab ⟨_, dN_lt n⟩)
theorem symT' (n : Int) : lawSymbols n true = [256, 16, 258 + (cN n : Int), sgn n, 257, 16, 258 + (absD n : Int)] ++ (opN n :: bdT n) := by
  rw [symT, ← symF, symF']
  exact congrArg (_ ++ ·) (nT_tab ⟨_, oN_lt n⟩ ⟨_, bN_lt n⟩)
/-- the form's value, as the symbols tell it. -/
theorem form_val (n : Int) (i : Nat) : fl (sgn n) (cN n) (absD n) i = n.fmod 4 * ((i / 4 : Nat) : Int) + ((n.fdiv 4).fmod 7 - 3) * ((i % 4 : Nat) : Int) := by
  rw [mod_nat n (k := 4) (by decide), mod_nat (n.fdiv 4) (k := 7) (by decide)]
  show (if sgn n = 14 then ((i / 4 : Nat) : Int) * ((cN n : Nat) : Int) + ((i % 4 : Nat) : Int) * ((absD n : Nat) : Int) else ((i / 4 : Nat) : Int) * ((cN n : Nat) : Int) - ((i % 4 : Nat) : Int) * ((absD n : Nat) : Int)) = ((cN n : Nat) : Int) * ((i / 4 : Nat) : Int) + (((dN n : Nat) : Int) - 3) * ((i % 4 : Nat) : Int)
  unfold sgn absD
  generalize ((i / 4 : Nat) : Int) = p
  generalize ((i % 4 : Nat) : Int) = q
  rw [Int.mul_comm p]
  by_cases h : 3 ≤ dN n
  · have hs : (if 0 ≤ ((dN n : Nat) : Int) - 3 then (14 : Int) else 15) = 14 := if_pos (by omega)
    rw [hs, if_pos rfl, if_pos h, Int.mul_comm q, show ((dN n - 3 : Nat) : Int) = ((dN n : Nat) : Int) - 3 by omega]
  · have hs : (if 0 ≤ ((dN n : Nat) : Int) - 3 then (14 : Int) else 15) = 15 := if_neg (by omega)
    rw [hs, if_neg (show ¬ (15 : Int) = 14 by decide), if_neg h, Int.mul_comm q, show ((3 - dN n : Nat) : Int) = -(((dN n : Nat) : Int) - 3) by omega, Int.neg_mul]
    omega
theorem goal_row (n : Int) : goalL n = rowI (fl (sgn n) (cN n) (absD n)) := by
  unfold goalL rowI
  exact List.map_congr_left fun i _ => (form_val n i).symm
noncomputable def bdZ (n : Int) : Int := (n.fdiv 140).fmod 19 - 9
theorem bd_tab : ∀ j : Fin 19, (9 ≤ j.val → ((j.val : Nat) : Int) - 9 = ((j.val - 9 : Nat) : Int)) ∧ (¬ 9 ≤ j.val → ((j.val : Nat) : Int) - 9 = -((8 - j.val : Nat) : Int) - 1) := by decide
theorem bd_or (n : Int) : (bdT n = [258 + (bdN n : Int)] ∧ bdZ n = bdN n) ∨ (bdT n = [31, 258 + (bdN n : Int)] ∧ bdZ n = -(bdN n : Int) - 1) := by
  have h := bd_tab ⟨_, bN_lt n⟩
  unfold bdZ
  rw [mod_nat (n.fdiv 140) (k := 19) (by decide)]
  unfold bdT bdN
  by_cases h9 : 9 ≤ bN n
  · left
    rw [if_pos h9, if_pos h9]
    exact ⟨rfl, h.1 h9⟩
  · right
    rw [if_neg h9, if_neg h9]
    exact ⟨rfl, h.2 h9⟩
theorem holds_row (n : Int) : holdsL n = rowB fun i => cmpI (opN n) (fl (sgn n) (cN n) (absD n) i) (bdZ n) := by
  unfold holdsL rowB
  refine List.map_congr_left fun i _ => ?_
  rw [form_val]
  have ho := oN_lt n
  unfold holdsB overOf bdZ ptOf opN cmpI
  show [_, _, _, _, _].getD (oN n) false = _
  dsimp only
  generalize n.fmod 4 * ((i / 4 : Nat) : Int) + ((n.fdiv 4).fmod 7 - 3) * ((i % 4 : Nat) : Int) = v
  generalize (n.fdiv 140).fmod 19 - 9 = b
  generalize oN n = o at ho ⊢
  have : o = 0 ∨ o = 1 ∨ o = 2 ∨ o = 3 ∨ o = 4 := by omega
  rcases this with rfl | rfl | rfl | rfl | rfl <;> simp <;> (try omega)
  rw [Bool.eq_iff_iff, beq_iff_eq, beq_iff_eq]
  omega
theorem runs_stats (n : Int) {e : Int} (he : e = 0 ∨ e = 19) {row : List Int} {told res : List Col} (k : Runs worthCols row (told ++ [.bools (holdsL n)]) [] [] res) : Runs worthCols (lawSymbols n true ++ [e] ++ row) told [] [] res := by
  rw [symT', List.append_assoc, List.append_assoc]
  rw [holds_row] at k
  exact runs_stat (row := row) (sgn_or n) (opN_or n) he (by have := cN_lt n; omega) (absD_lt n) (bdN_lt n) (bd_or n) k
theorem runs_firsts (n : Int) {e : Int} (he : e = 0 ∨ e = 19) {row : List Int} {told res : List Col} (k : Runs worthCols row (told ++ [.ints (goalL n)]) [] [] res) : Runs worthCols (lawSymbols n false ++ [e] ++ row) told [] [] res := by
  rw [symF', List.append_assoc]
  rw [goal_row] at k
  exact runs_first (row := row) (sgn_or n) he (by have := cN_lt n; omega) (absD_lt n) k
theorem runs_prog (ns : List Int) (hl : ns.length = 6) (hb : ∀ n ∈ ns, 0 ≤ n) : Runs worthCols (symsTo ns 6) [] [] [] (resOf ns) := by
  have e : symsTo ns 6 = lawSymbols (ns.getD 0 0) false ++ [19] ++ (lawSymbols (ns.getD 1 0) true ++ [19] ++ (lawSymbols (ns.getD 2 0) true ++ [19] ++ (lawSymbols (ns.getD 3 0) true ++ [19] ++ (lawSymbols (ns.getD 4 0) true ++ [19] ++ (lawSymbols (ns.getD 5 0) true ++ [0] ++ []))))) := by
    unfold symsTo
    simp [List.range, List.range.loop]
  rw [e]
  refine runs_firsts _ (.inr rfl) (runs_stats _ (.inr rfl) (runs_stats _ (.inr rfl) (runs_stats _ (.inr rfl) (runs_stats _ (.inr rfl) (runs_stats _ (.inl rfl) ?_)))))
  exact Runs.done
end
section
local macro_rules | `(tactic| walk_at "eval Dict") => `(tactic| (k_here; k_dflt (refine' kdn_eval (knd := PySem.intKind _ _) ?F ?N ?b ?a ?l ?e ?n ?_; (case F => k_asm); (case N => first | k_asm | exact News.nil); (case b => exact Top.nolimit (by k_asm)); (case a => rfl); (case l => rfl); (case e => exact List.cons_ne_nil _ _); (case n => exact Nat.le_of_ble_eq_true rfl)); intro d' h' o' F' N' l1 lo' hd'; (try k_lt l1)))
structure RunS where
  tv : List Value
  tn : Nat
  mv : List Value
  mn : Nat
  vv : List Value
  vn : Nat
  co : Obj
  cols : List (Addr × Obj)
  told : List Col
  marks : List Int
  vals : List Col
/-- the ledger of the run. -/
@[reducible] noncomputable def runLed (V M T dr dd cc : Addr) (o1 o2 : Obj) (news : List (Addr × Obj)) (c : RunS) : List (Addr × Obj) :=
  (V, listOf c.vv.toArray c.vn) :: (M, listOf c.mv.toArray c.mn) :: (T, listOf c.tv.toArray c.tn) :: (dr, o1) :: (dd, o2) :: (cc, c.co) :: (c.cols ++ news)
structure RunP (V M T dr dd cc : Addr) (news : List (Addr × Obj)) (wcols : List Col) (row : List Int) (res : List Col) (i : Nat) (c : RunS) : Prop where
  vals : RefsAre (c.cols ++ news) c.vv c.vals
  told : RefsAre (c.cols ++ news) c.tv c.told
  marks : IntsAre c.mv c.marks
  cell : ∃ v, c.co.data = .cell v
  off : ∀ p ∈ c.cols, p.1 ≠ V ∧ p.1 ≠ M ∧ p.1 ≠ T ∧ p.1 ≠ dr ∧ p.1 ≠ dd ∧ p.1 ≠ cc ∧ ∀ q ∈ news, @LT.lt Nat _ q.1 p.1
  lenV : c.vals.length ≤ i
  lenT : c.told.length ≤ i
  lenM : c.marks.length ≤ i
  run : Runs wcols (row.drop i) c.told c.marks c.vals res
theorem ints_item {vs : List Value} {ns : List Int} (h : IntsAre vs ns) {i : Nat} {v : Value} (e : vs[i]? = some v) : ∃ n t, v = .int n t ∧ ns[i]? = some n := by
  have hi : i < ns.length := by
    have := (List.getElem?_eq_some_iff.mp e).1
    have := h.length
    omega
  obtain ⟨t, e'⟩ := ints_at h hi
  rw [e] at e'
  cases e'
  exact ⟨_, t, rfl, by rw [List.getD_eq_getElem?_getD, List.getElem?_eq_getElem hi]; rfl⟩
noncomputable def RunTail (wcols : List Col) (rest : List Int) (told : List Col) (marks' : List Int) (vals2 : List Col) (sy : Int) (res : List Col) : Prop :=
  ((sy = 0 ∨ sy = 19) ∧ ∃ vals' c, vals2 = vals' ++ [c] ∧ Runs wcols rest (told ++ [c]) marks' vals' res) ∨ ((∃ k, rankOf sy = some k) ∧ Runs wcols rest told (marks' ++ [sy]) vals2 res)
theorem rank_lt {m k : Int} (h : rankOf m = some k) : m < 256 ∧ 1 ≤ k ∧ k ≤ 4 := by
  unfold rankOf at h
  have := List.lookup_eq_some_iff.mp h
  obtain ⟨l1, l2, e, _⟩ := this
  have hm : (m, k) ∈ rankPs := by unfold rankPs; rw [e]; simp
  exact of_decide_eq_true (List.all_eq_true.mp (show (rankPs.all fun p => decide (p.1 < 256 ∧ 1 ≤ p.2 ∧ p.2 ≤ 4)) = true by decide) _ hm)
theorem runs_cons {wcols : List Col} {sy : Int} {rest : List Int} {told : List Col} {marks : List Int} {vals res : List Col} (h : Runs wcols (sy :: rest) told marks vals res) :
    (∃ (k : Nat) (c : Col), sy = 256 + (k : Int) ∧ wcols[k]? = some c ∧ Runs wcols rest told marks (vals ++ [c]) res) ∨
    (sy < 256 ∧ ∃ marks' vals2, Reduce ((rankOf sy).getD 0) marks vals marks' vals2 ∧ RunTail wcols rest told marks' vals2 sy res) := by
  cases h with
  | push hc h => exact .inl ⟨_, _, rfl, hc, h⟩
  | tell hs hr h =>
    refine .inr ⟨by omega, _, _, ?_, .inl ⟨hs, _, _, rfl, h⟩⟩
    rcases hs with rfl | rfl
    · exact hr
    · exact hr
  | mark hs hr h =>
    refine .inr ⟨(rank_lt hs).1, _, _, ?_, .inr ⟨⟨_, hs⟩, h⟩⟩
    rw [hs]; exact hr
structure RunW (V M T dr dd cc I : Addr) (news : List (Addr × Obj)) (told0 : List Col) (i : Nat) (c : RunS) : Prop where
  vals : RefsAre (c.cols ++ news) c.vv c.vals
  told : RefsAre (c.cols ++ news) c.tv c.told
  marks : IntsAre c.mv c.marks
  cell : ∃ v, c.co.data = .cell v
  off : ∀ p ∈ c.cols, p.1 ≠ V ∧ p.1 ≠ M ∧ p.1 ≠ T ∧ p.1 ≠ dr ∧ p.1 ≠ dd ∧ p.1 ≠ cc ∧ ∀ q ∈ news, @LT.lt Nat _ q.1 p.1
  offI : ∀ p ∈ c.cols, p.1 ≠ I
  lenV : c.vals.length ≤ i
  lenM : c.marks.length ≤ i
  same : c.told = told0
theorem run_tail {X I : Addr} {it : Obj} {cols news : List (Addr × Obj)} (h1 : ∀ p ∈ cols, p.1 ≠ X) (h2 : ∀ p ∈ news, p.1 < X) (h3 : X ≠ I) : ∀ p ∈ cols ++ news ++ [(I, it)], p.1 ≠ X := fun p hp => by
  rcases List.mem_append.mp hp with hp | hp
  · rcases List.mem_append.mp hp with hp | hp
    · exact h1 p hp
    · exact Nat.ne_of_lt (h2 p hp)
  · rw [List.mem_singleton.mp hp]; exact h3.symm
theorem run_offV {V M T dr dd cc : Addr} {o1 o2 o3 o4 o5 : Obj} {X : Prop} {rest : List (Addr × Obj)} (l : @LT.lt Nat _ M V ∧ @LT.lt Nat _ T V ∧ @LT.lt Nat _ dr V ∧ @LT.lt Nat _ dd V ∧ @LT.lt Nat _ cc V ∧ X) (h : ∀ p ∈ rest, p.1 ≠ V) : ∀ p ∈ (M, o1) :: (T, o2) :: (dr, o3) :: (dd, o4) :: (cc, o5) :: rest, p.1 ≠ V := fun p hp => by
  rcases List.mem_cons.mp hp with rfl | hp
  · exact Nat.ne_of_lt l.1
  rcases List.mem_cons.mp hp with rfl | hp
  · exact Nat.ne_of_lt l.2.1
  rcases List.mem_cons.mp hp with rfl | hp
  · exact Nat.ne_of_lt l.2.2.1
  rcases List.mem_cons.mp hp with rfl | hp
  · exact Nat.ne_of_lt l.2.2.2.1
  rcases List.mem_cons.mp hp with rfl | hp
  · exact Nat.ne_of_lt l.2.2.2.2.1
  · exact h p hp
theorem run_sub {x y a b c d e f r : Addr × Obj} {cols news : List (Addr × Obj)} : ∀ p ∈ a :: b :: c :: d :: e :: f :: x :: (cols ++ news ++ [r]), p ∈ x :: y :: a :: b :: c :: d :: e :: f :: ((cols ++ news) ++ [r]) := fun p hp => by
  simp only [List.cons_append, List.mem_cons, List.mem_append, List.not_mem_nil, or_false] at hp ⊢
  grind
theorem run_hI {V M T dr dd cc I : Addr} {o1 o2 : Obj} {news : List (Addr × Obj)} {c c' : RunS} (hI : ∀ p ∈ runLed V M T dr dd cc o1 o2 news c, p.1 ≠ I) (hc : ∀ p ∈ c'.cols, p.1 ≠ I) : ∀ p ∈ runLed V M T dr dd cc o1 o2 news c', p.1 ≠ I := fun p hp => by
  rcases List.mem_cons.mp hp with rfl | hp
  · exact (hI (V, listOf c.vv.toArray c.vn) (.head _) : V ≠ I)
  rcases List.mem_cons.mp hp with rfl | hp
  · exact (hI (M, listOf c.mv.toArray c.mn) (.tail _ (.head _)) : M ≠ I)
  rcases List.mem_cons.mp hp with rfl | hp
  · exact (hI (T, listOf c.tv.toArray c.tn) (.tail _ (.tail _ (.head _))) : T ≠ I)
  rcases List.mem_cons.mp hp with rfl | hp
  · exact hI (dr, _) (.tail _ (.tail _ (.tail _ (.head _))))
  rcases List.mem_cons.mp hp with rfl | hp
  · exact hI (dd, _) (.tail _ (.tail _ (.tail _ (.tail _ (.head _)))))
  rcases List.mem_cons.mp hp with rfl | hp
  · exact (hI (cc, c.co) (.tail _ (.tail _ (.tail _ (.tail _ (.tail _ (.head _)))))) : cc ≠ I)
  rcases List.mem_append.mp hp with hp | hp
  · exact hc p hp
  · exact hI p (.tail _ (.tail _ (.tail _ (.tail _ (.tail _ (.tail _ (List.mem_append_right _ hp)))))))
theorem run_colsI {V M T dr dd cc I : Addr} {o1 o2 : Obj} {news : List (Addr × Obj)} {c : RunS} (hI : ∀ p ∈ runLed V M T dr dd cc o1 o2 news c, p.1 ≠ I) : ∀ p ∈ c.cols, p.1 ≠ I := fun p hp => hI p (.tail _ (.tail _ (.tail _ (.tail _ (.tail _ (.tail _ (List.mem_append_left _ hp)))))))
local macro_rules | `(tactic| k_all) => `(tactic| assumption)
theorem run_offT {T dr dd cc : Addr} {o3 o4 o5 : Obj} {X : Prop} {rest : List (Addr × Obj)} (l : @LT.lt Nat _ dr T ∧ @LT.lt Nat _ dd T ∧ @LT.lt Nat _ cc T ∧ X) (h : ∀ p ∈ rest, p.1 ≠ T) : ∀ p ∈ (dr, o3) :: (dd, o4) :: (cc, o5) :: rest, p.1 ≠ T := fun p hp => by
  rcases List.mem_cons.mp hp with rfl | hp
  · exact Nat.ne_of_lt l.1
  rcases List.mem_cons.mp hp with rfl | hp
  · exact Nat.ne_of_lt l.2.1
  rcases List.mem_cons.mp hp with rfl | hp
  · exact Nat.ne_of_lt l.2.2.1
  · exact h p hp
theorem run_offM {M T dr dd cc : Addr} {o2 o3 o4 o5 : Obj} {X : Prop} {rest : List (Addr × Obj)} (l : @LT.lt Nat _ T M ∧ @LT.lt Nat _ dr M ∧ @LT.lt Nat _ dd M ∧ @LT.lt Nat _ cc M ∧ X) (h : ∀ p ∈ rest, p.1 ≠ M) : ∀ p ∈ (T, o2) :: (dr, o3) :: (dd, o4) :: (cc, o5) :: rest, p.1 ≠ M := fun p hp => by
  rcases List.mem_cons.mp hp with rfl | hp
  · exact Nat.ne_of_lt l.1
  rcases List.mem_cons.mp hp with rfl | hp
  · exact Nat.ne_of_lt l.2.1
  rcases List.mem_cons.mp hp with rfl | hp
  · exact Nat.ne_of_lt l.2.2.1
  rcases List.mem_cons.mp hp with rfl | hp
  · exact Nat.ne_of_lt l.2.2.2.1
  · exact h p hp
theorem ColIs.length_of {vs : List Value} {ns : List Int} (h : ColIs vs (.ints ns)) : vs.length = ns.length := IntsAre.length h
theorem run_claim (w : World) (mean : ExcName → Option Value) (mg mb : Str → Option Value) (news : List (Addr × Obj)) (rl wl : Addr) (rvs wvs : List Value) (rk wk : Nat) (h1 : (rl, listOf rvs.toArray rk) ∈ news) (h2 : (wl, listOf wvs.toArray wk) ∈ news) (row : List Int) (hrow : IntsAre rvs row) (hlen : row.length ≤ 1000) (wcols : List Col) (hw : RefsAre news wvs wcols) (hwl : wcols.length ≤ 100)
   (res : List Col) (hR : Runs wcols row [] [] [] res) :
   MClaim w mean mg mb 204 news 4 256 [Value.ref rl, Value.ref wl] (fun tk => True) (fun tk v own tk' => ∃ T tv tn cols, v = .ref T ∧ own = (T, listOf tv.toArray tn) :: cols ∧ RefsAre (cols ++ news) tv res) := by
  dsimp only [MClaim]
  k_fill
  intros
  rename_i hret
  replace hret := Kont.mk hret
  refine wpAny_call ?_
  (k_dflt (refine' code_defC ?fB ?fF ?fX ?fN ?fT ?gA ?gF ?gK ?ho ?hc ?hr ?hb ?hk ?hd ?_ ?e1 ?e2 ?e3; (case gA => exact rfl); (case gF => exact rfl); (case gK => assumption); (case fB => k_asm); (case fF => k_asm); (case fX => k_asm); (case fN => k_asm); (case fT => k_asm); (case ho => k_is); (case hc => k_is); (case hr => ktr_room); (case hb => exact BindsTo.of_eq rfl); (case hk => exact rfl); (case hd => decide +kernel); (case e1 => exact rfl); (case e2 => exact rfl); (case e3 => exact rfl)); intro gg LL h' tk' cells' FG F' N' Y' BB XX TT lL; (try k_lt lL); k_cells Y'; (try simp only [List.cons_append, List.nil_append] at N'); (try dsimp only); (try k_lift BB); (try k_fold))
  k_steps
  refine wpAny_For ?_
  walk1
  rename Fr _ _ _ (fun y => if y = Str.ofString "values" then _ else _) => F
  rename News _ _ _ (_ :: _) => N
  rename_i co hco _ _ _ _ _ dd _ _ lo2 _ _ _ odd hdd _ _ _ _ dr _ _ lo1 _ _ _ odr hdr hfr _ _ _ _ T _ lT _ _ _ _ M _ lM _ V _ lV _ _ tkv htkv
  obtain ⟨rkvs, hrD, hrP⟩ : ∃ kvs, odr.IsDictOf (intKind PySem.Challenge.rw_xn0020_01.row.prog w) kvs ∧ RankPairs kvs rankPs := ⟨_, hdr, by with_unfolding_all (repeat constructor)⟩
  obtain ⟨dkvs, hdD, hdP⟩ : ∃ kvs, odd.IsDictOf (intKind PySem.Challenge.rw_xn0020_01.row.prog w) kvs ∧ DeedPairs kvs deedPs := ⟨_, hdd, by with_unfolding_all (repeat constructor)⟩
  clear hdr hdd hfr
  refine list_st (lo := listOf rvs.toArray rk) (vs := rvs) (l := rl) (runLed V M T dr dd (LL + 1) odr odd news) (fun _ => []) [Str.ofString "symbol", Str.ofString "mark", Str.ofString "right"] (fun i c _ => RunP V M T dr dd (LL + 1) news wcols row res i c) [] ⟨[], 0, [], 0, [], 0, _, [], [], [], []⟩ rfl F N ⟨rfl, _, rfl⟩ ?hmem ?hfix (fun p hp => nomatch hp) ?hp ?hmono (by passes_own) ?turn ?done
  case hmem => exact fun c => .tail _ (.tail _ (.tail _ (.tail _ (.tail _ (.tail _ (List.mem_append_right _ h1))))))
  case hfix => exact fun d hd => nomatch hd
  case hp => exact ⟨.nil, .nil, .nil, ⟨_, hco⟩, (fun p hp => nomatch hp), Nat.le_refl _, Nat.le_refl _, Nat.le_refl _, hR⟩
  case hmono => exact fun i c t t' _ h => h
  case turn =>
    rintro i v ⟨tv, tn, mv, mn, vv, vn, cob, cols, told, marks, vals⟩ u h tk I it hv hP hI _ F2 N2
    clear F N
    obtain ⟨hvals, htold, hmarks, ⟨cv, hcob⟩, hoff, hlv, hlt, hlm, hrun⟩ := hP
    dsimp only [kstB, runLed, List.cons_append] at F2 N2 hI hvals htold hmarks hcob hoff hlv hlt hlm hrun ⊢
    obtain ⟨sy, ty, rfl, hsy⟩ := ints_item hrow hv
    have hlr := hrow.length
    have hlvv := hvals.length
    have hlmm := hmarks.length
    have hltt := htold.length
    have hil : i < row.length := (List.getElem?_eq_some_iff.mp hsy).1
    have hdrop : row.drop i = sy :: row.drop (i + 1) := by rw [List.drop_eq_getElem_cons hil]; congr 1; exact (List.getElem?_eq_some_iff.mp hsy).2
    rw [hdrop] at hrun
    have nV := hI (V, listOf vv.toArray vn) (.head _)
    have nM := hI (M, listOf mv.toArray mn) (.tail _ (.head _))
    have nT := hI (T, listOf tv.toArray tn) (.tail _ (.tail _ (.head _)))
    have nC := hI (LL + 1, cob) (.tail _ (.tail _ (.tail _ (.tail _ (.tail _ (.head _))))))
    dsimp only at nV nM nT nC
    have hIall : ∀ c' : RunS, (∀ p ∈ c'.cols, p.1 ≠ I) → ∀ p ∈ runLed V M T dr dd (LL + 1) odr odd news c', p.1 ≠ I := fun c' h => run_hI (c := ⟨tv, tn, mv, mn, vv, vn, cob, cols, told, marks, vals⟩) hI h
    have tV := run_tail (it := it) (fun p hp => (hoff p hp).1) (allLt_mem lV.2.2.2.2.2) (hI _ (.head _))
    have tM := run_tail (it := it) (fun p hp => (hoff p hp).2.1) (allLt_mem lM.2.2.2.2) (hI _ (.tail _ (.head _)))
    have tT := run_tail (it := it) (fun p hp => (hoff p hp).2.2.1) (allLt_mem lT.2.2.2) (hI _ (.tail _ (.tail _ (.head _))))
    have tC := run_tail (it := it) (fun p hp => (hoff p hp).2.2.2.2.2.1) (fun p hp => Nat.lt_succ_of_lt (lL p hp)) (hI _ (.tail _ (.tail _ (.tail _ (.tail _ (.tail _ (.head _)))))))
    generalize hrest : row.drop (i + 1) = rest at hrun
    rcases runs_cons hrun with ⟨k, c, rfl, hc, hrun⟩ | ⟨hsy256, marks', vals2, hred, htl⟩
    · obtain ⟨ca, cws, ck, hca, hcm, hcc⟩ := hw.at hc
      k_steps
      refine' use_claim (by k_asm) (by k_asm) (by k_asm) (by k_asm) (by k_asm) (by first | exact rfl | assumption) (claim_toks (nont_claim w mean mg mb _ _ _)) (by ktr_room) (by ktr_units) trivial ?_
      rintro _ _ h3 tk3 F3 N3 sep3 ⟨htk3, rfl, rfl⟩
      rw [show decide (256 ≤ 256 + (k : Int)) = true from decide_eq_true (by omega)]
      dsimp only [List.nil_append] at N3 ⊢
      k_steps
      refine item_listL ⟨_, (N3 _ (.tail _ (.tail _ (.tail _ (.tail _ (.tail _ (.tail _ (List.mem_append_left _ (List.mem_append_right _ h2)))))))) ).1, rfl, _, rfl⟩ (by omega) (by have := (List.getElem?_eq_some_iff.mp hc).1; omega) (x := .ref ca) (by rw [show (256 + (k : Int) - 256).toNat = k by omega]; exact hca) ?_
      k_steps
      rename News _ _ _ (_ :: _) => N9
      simp only [List.push_toArray] at N9
      try refine OpK.out (by assumption) ?_
      refine ⟨rfl, ⟨tv, tn, mv, mn, vv ++ [.ref ca], _, cob, cols, told, marks, vals ++ [c]⟩, _, _, _, _, rfl, by assumption, N9, fun p hp => (show p ∈ runLed V M T dr dd (LL + 1) odr odd news ⟨tv, tn, mv, mn, vv ++ [.ref ca], _, cob, cols, told, marks, vals ++ [c]⟩ ++ [(I, it)] from List.mem_append_left _ hp),
        (show (I, it) ∈ runLed V M T dr dd (LL + 1) odr odd news ⟨tv, tn, mv, mn, vv ++ [.ref ca], _, cob, cols, told, marks, vals ++ [c]⟩ ++ [(I, it)] from List.mem_append_right _ (.head _)), run_hI (c := ⟨tv, tn, mv, mn, vv, vn, cob, cols, told, marks, vals⟩) hI (run_colsI (c := ⟨tv, tn, mv, mn, vv, vn, cob, cols, told, marks, vals⟩) hI), by kst_all, by ksw_same,
        ⟨hvals.snoc (List.mem_append_right _ hcm) hcc, htold, hmarks, ⟨_, hcob⟩, hoff, ?_, ?_, ?_, ?_⟩⟩
      · simp; omega
      · dsimp only; omega
      · dsimp only; omega
      · dsimp only; rw [hrest]; exact hrun
    · k_steps
      refine' use_claim (by k_asm) (by k_asm) (by k_asm) (by k_asm) (by k_asm) (by first | exact rfl | assumption) (claim_toks (nont_claim w mean mg mb _ _ _)) (by ktr_room) (by ktr_units) trivial ?_
      rintro _ _ h3 tk3 F3 N3 sep3 ⟨htk3, rfl, rfl⟩
      rw [show decide (256 ≤ sy) = false from decide_eq_false (by omega)]
      dsimp only [List.nil_append] at N3 ⊢
      iterate 3 walk1
      rename Fr _ _ _ _ => F4
      rename News _ _ _ _ => N4
      refine' while_jn (fun c => runLed V M T dr dd (LL + 1) odr odd news c ++ [(I, it)]) (fun _ => []) [Str.ofString "mark", Str.ofString "right"] (fun c _ => RunW V M T dr dd (LL + 1) I news told i c ∧ Reduce ((rankOf sy).getD 0) c.marks c.vals marks' vals2) (fun c _ => RunW V M T dr dd (LL + 1) I news told i c ∧ c.marks = marks' ∧ c.vals = vals2) (fun c => c.marks.length) ⟨tv, tn, mv, mn, vv, vn, cob, cols, told, marks, vals⟩ F4 N4 (fun p hp => nomatch hp) ?hp2 ?turn2 ?done2
      case hp2 => exact ⟨⟨hvals, htold, hmarks, ⟨_, hcob⟩, hoff, run_colsI (c := ⟨tv, tn, mv, mn, vv, vn, cob, cols, told, marks, vals⟩) hI, hlv, hlm, rfl⟩, hred⟩
      case turn2 =>
        rintro ⟨tv, tn, mv, mn, vv, vn, cob, cols, told2, marks, vals⟩ u2 h5 tk5 ⟨⟨hvals, htold, hmarks, ⟨cv, hcob⟩, hoff, hoffI, hlv, hlm, rfl⟩, hred⟩ F5 N5
        clear F4 N4
        dsimp only [kstB, runLed, List.cons_append] at F5 N5 hvals htold hmarks hcob hoff hoffI hlv hlm hred ⊢
        have tV := run_tail (it := it) (fun p hp => (hoff p hp).1) (allLt_mem lV.2.2.2.2.2) nV
        have tM := run_tail (it := it) (fun p hp => (hoff p hp).2.1) (allLt_mem lM.2.2.2.2) nM
        have tT := run_tail (it := it) (fun p hp => (hoff p hp).2.2.1) (allLt_mem lT.2.2.2) nT
        have tC := run_tail (it := it) (fun p hp => (hoff p hp).2.2.2.2.2.1) (fun p hp => Nat.lt_succ_of_lt (lL p hp)) nC
        iterate 6 walk1
        rename Fr _ _ _ _ => F6
        rename News _ _ _ _ => N6
        refine' ne_intsK ⟨_, (N6 _ (.tail _ (.tail _ (.head _)))).1, rfl, _, rfl⟩ hmarks ⟨_, (N6 _ (.head _)).1, rfl, _, rfl⟩ (us := []) .nil (by ktr_units) ?_
        generalize hmk : marks = mk at hred
        cases hred with
        | none =>
          subst hmk
          rw [show (!decide (([] : List Int) = [])) = false from rfl]
          iterate 3 walk1
          exact ⟨⟨tv, tn, mv, mn, vv, vn, cob, cols, told2, [], vals2⟩, _, _, _, _, rfl, by assumption, N6, fun p hp => .tail _ hp, by kst_all, by ksw_same, ⟨hvals, htold, hmarks, ⟨_, hcob⟩, hoff, hoffI, hlv, hlm, rfl⟩, rfl, rfl⟩
        | @stop ms m k _ h hk =>
          subst hmk
          rw [show (!decide (ms ++ [m] = [])) = true by simp]
          obtain ⟨mv', tm, rfl, hm'⟩ := ints_unsnoc hmarks
          iterate 11 walk1
          refine item_last ⟨_, (N6 _ (.tail _ (.tail _ (.head _)))).1, rfl, _, rfl⟩ ?_
          have hrf := rank_find hrP m
          rw [show rankPs.lookup m = some k from h] at hrf
          obtain ⟨tk9, hrf⟩ := hrf
          have hdrm : ((dr, odr) : Addr × Obj) ∈ (V, listOf vv.toArray vn) :: (M, listOf (mv' ++ [Value.int m tm]).toArray mn) :: (T, listOf tv.toArray tn) :: (dr, odr) :: (dd, odd) :: (LL + 1, cob) :: ((cols ++ news) ++ [(I, it)]) := .tail _ (.tail _ (.tail _ (.head _)))
          refine dict_item (N6 _ (.tail _ hdrm)).1 hrD hrf ?_
          iterate 9 walk1
          refine dict_getD (N6 _ (.tail _ hdrm)).1 hrD lo1 ?_
          obtain ⟨tg9, hg9⟩ := rank_getD hrP sy _
          rw [hg9]
          rw [show (rankPs.lookup sy).getD 0 = (rankOf sy).getD 0 from rfl]
          iterate 4 walk1
          try refine OpK.out (by assumption) ?_
          refine ⟨⟨tv, tn, mv' ++ [.int m tm], mn, vv, vn, cob, cols, told2, ms ++ [m], vals2⟩, _, _, _, _, rfl, by assumption, N6, fun p hp => .tail _ hp, by kst_all, by ksw_same, ⟨hvals, htold, hmarks, ⟨_, hcob⟩, hoff, hoffI, hlv, hlm, rfl⟩, rfl, rfl⟩
        | @inv ms ms' vs0 vs9 ns hk hl hred =>
          subst hmk
          rw [show (!decide (ms ++ [(31 : Int)] = [])) = true by simp]
          obtain ⟨mv', tm, rfl, hm'⟩ := ints_unsnoc hmarks
          iterate 11 walk1
          refine item_last ⟨_, (N6 _ (.tail _ (.tail _ (.head _)))).1, rfl, _, rfl⟩ ?_
          have hrf := rank_find hrP 31
          rw [show rankPs.lookup 31 = some 4 from rfl] at hrf
          obtain ⟨tk9, hrf⟩ := hrf
          have hdrm : ((dr, odr) : Addr × Obj) ∈ (V, listOf vv.toArray vn) :: (M, listOf (mv' ++ [Value.int 31 tm]).toArray mn) :: (T, listOf tv.toArray tn) :: (dr, odr) :: (dd, odd) :: (LL + 1, cob) :: ((cols ++ news) ++ [(I, it)]) := .tail _ (.tail _ (.tail _ (.head _)))
          refine dict_item (N6 _ (.tail _ hdrm)).1 hrD hrf ?_
          iterate 9 walk1
          refine dict_getD (N6 _ (.tail _ hdrm)).1 hrD lo1 ?_
          obtain ⟨tg9, hg9⟩ := rank_getD hrP sy _
          rw [hg9]
          rw [show (rankPs.lookup sy).getD 0 = (rankOf sy).getD 0 from rfl]
          iterate 4 walk1
          iterate 7 walk1
          refine' kl_pop ?pF ?pN (kpa_last (Value.int 31 tm) mv') ?pU ?pz ?_
          case pF => assumption
          case pN => assumption
          case pU => k_upd
          case pz => (have hq9 := hm'.length; simp [sizeLine_eq]; simp at hlm; omega)
          intro h7 F7 N7
          obtain ⟨vv1, b, bws, bk, rfl, hbm, hbc, hvals1⟩ := hvals.unsnoc
          iterate 8 walk1
          refine' kl_pop ?pF ?pN (kpa_last (Value.ref b) vv1) ?pU ?pz ?_
          case pF => assumption
          case pN => assumption
          case pU => k_upd
          case pz => (have hq9 := hvals1.length; simp [sizeLine_eq]; simp at hlv; omega)
          intro h8 F8 N8
          iterate 10 walk1
          (repeat (fail_if_success (with_reducible show wpAny _ _ (eval (Expr.ListComp _ _ _ _) _) _ _ _)); walk1)
          k_dflt (refine ListComp_K (uF₀ := by k_asm) (by with_unfolding_all rfl) (by decide) (by rfl) (by decide) ?_)
          walk1
          rename Fr _ _ _ _ => F10
          rename News _ _ _ _ => N10
          have hlb := hbc.length_of
          refine SrcK.list (Inv := fun i ys => IntsAre ys ((ns.take i).map fun n => -n - 1) ∧ ys.length ≤ i) rfl F10 N10 (.tail _ (.tail _ (.tail _ (.tail _ (.tail _ (.tail _ (.tail _ (List.mem_append_left _ hbm)))))))) (by rw [sizeLine_eq]; omega) (by rfl) (by rfl) ⟨.nil, Nat.le_refl _⟩ (fun i ys hI => hI.2) ?zturn ?zfin
          case zturn =>
            rintro s₂ ⟨hh2, rfl⟩ i x ys h tk own C oC D m₂ E' hi hx hI hNs hm1 F11 N11 off
            refine wpAny_tests_nil ?_
            simp only [if_true]
            obtain ⟨xa, xt, rfl, hxa⟩ := ints_item hbc hx
            (repeat (fail_if_success (with_reducible show wpAny _ _ (call (Value.ref _) _) _ _ _)); walk1)
            refine' use_claim (by k_asm) (by k_asm) (by k_asm) (by k_asm) (by k_asm) (by first | exact rfl | assumption) (claim_toks (inv_claim w mean mg mb _ xa xt)) (by ktr_room) (by ktr_units) trivial ?_
            rintro _ _ h12 tk12 F12 N12 sep12 ⟨htk12, hv12, rfl⟩
            exact ⟨h12, tk12, rfl, F12, N12, by rw [take_snoc hxa, List.map_append]; exact ints_snoc hI.1 hv12, by rw [List.length_append, List.length_singleton]; exact Nat.succ_le_succ hI.2⟩
          case zfin =>
            intro D h tk zs F11 N11 lt hI
            have hzc : ColIs zs (.ints (ns.map fun n => -n - 1)) := by
              have q := hI.1
              rw [List.take_of_length_le (by omega)] at q
              exact q
            walk1
            refine' append_K F11 N11 (Upd.tail ?n1 (Upd.tail ?n2 (Upd.head ?n3))) ?_ ?z
            case n1 => exact Ne.symm (Nat.ne_of_lt (lt (V, _) (.tail _ (.head _))))
            case n2 => k_ne
            case n3 => exact run_offV lV tV
            case z => (have hq9 := hvals1.length; simp [sizeLine_eq]; simp at hlv; omega)
            intro h12 F12 N12
            iterate 4 walk1
            rename Fr _ _ _ _ => F13
            rename News _ _ _ _ => N13
            simp only [List.push_toArray] at N13
            have hoD : ∀ X : Addr, (∃ o, (X, o) ∈ _) → D ≠ X := fun X ⟨o, ho⟩ => Ne.symm (Nat.ne_of_lt (lt (X, o) ho))
            have hv3 : RefsAre ((D, LCg.lst zs) :: cols ++ news) (vv1 ++ [.ref D]) (vs0 ++ [.ints (ns.map fun n => -n - 1)]) := (hvals1.mono fun p hp => .tail _ hp).snoc (a := D) (ws := zs) (k := zs.length) (.head _) hzc
            try refine OpK.out (by assumption) ?_
            refine ⟨⟨tv, tn, mv', mn + 1, vv1 ++ [.ref D], _, cob, (D, LCg.lst zs) :: cols, told2, ms, vs0 ++ [.ints (ns.map fun n => -n - 1)]⟩, _, _, _, _, rfl, by assumption, N13, (by intro p hp; dsimp only [runLed, List.cons_append] at hp; exact run_sub p hp), by kst_all, by ksw_same, ⟨⟨hv3, htold.mono fun p hp => .tail _ hp, hm', ⟨_, hcob⟩, ?_, ?_, ?_, ?_, rfl⟩, hred⟩, ?_⟩
            · intro p hp
              rcases List.mem_cons.mp hp with rfl | hp
              · exact ⟨hoD V ⟨_, .tail _ (.head _)⟩, hoD M ⟨_, .tail _ (.tail _ (.head _))⟩, hoD T ⟨_, .tail _ (.tail _ (.tail _ (.head _)))⟩, hoD dr ⟨_, .tail _ (.tail _ (.tail _ (.tail _ (.head _))))⟩, hoD dd ⟨_, .tail _ (.tail _ (.tail _ (.tail _ (.tail _ (.head _)))))⟩, hoD (LL + 1) ⟨_, .tail _ (.tail _ (.tail _ (.tail _ (.tail _ (.tail _ (.head _))))))⟩, fun q hq => lt q (.tail _ (.tail _ (.tail _ (.tail _ (.tail _ (.tail _ (.tail _ (List.mem_append_left _ (List.mem_append_right _ hq)))))))))⟩
              · exact hoff p hp
            · intro p hp
              rcases List.mem_cons.mp hp with rfl | hp
              · exact hoD I ⟨it, .tail _ (.tail _ (.tail _ (.tail _ (.tail _ (.tail _ (.tail _ (List.mem_append_right _ (.head _))))))))⟩
              · exact hoffI p hp
            · dsimp only; simp at hlv ⊢; omega
            · dsimp only; simp at hlm; omega
            · dsimp only; simp
        | @op ms ms' m k vs0 vs9 as bs c h hm hk ho ha hb hba hbb hred =>
          subst hmk
          rw [show (!decide (ms ++ [m] = [])) = true by simp]
          obtain ⟨mv', tm, rfl, hm'⟩ := ints_unsnoc hmarks
          iterate 11 walk1
          refine item_last ⟨_, (N6 _ (.tail _ (.tail _ (.head _)))).1, rfl, _, rfl⟩ ?_
          have hrf := rank_find hrP m
          rw [show rankPs.lookup m = some k from h] at hrf
          obtain ⟨tk9, hrf⟩ := hrf
          have hdrm : ((dr, odr) : Addr × Obj) ∈ (V, listOf vv.toArray vn) :: (M, listOf (mv' ++ [Value.int m tm]).toArray mn) :: (T, listOf tv.toArray tn) :: (dr, odr) :: (dd, odd) :: (LL + 1, cob) :: ((cols ++ news) ++ [(I, it)]) := .tail _ (.tail _ (.tail _ (.head _)))
          refine dict_item (N6 _ (.tail _ hdrm)).1 hrD hrf ?_
          iterate 9 walk1
          refine dict_getD (N6 _ (.tail _ hdrm)).1 hrD lo1 ?_
          obtain ⟨tg9, hg9⟩ := rank_getD hrP sy _
          rw [hg9]
          rw [show (rankPs.lookup sy).getD 0 = (rankOf sy).getD 0 from rfl]
          iterate 4 walk1
          iterate 7 walk1
          refine' kl_pop ?pF ?pN (kpa_last (Value.int m tm) mv') ?pU ?pz ?_
          case pF => assumption
          case pN => assumption
          case pU => k_upd
          case pz => (have hq9 := hm'.length; simp [sizeLine_eq]; simp at hlm; omega)
          intro h7 F7 N7
          obtain ⟨vv1, b, bws, bk, rfl, hbm, hbc, hvals1⟩ := hvals.unsnoc
          obtain ⟨vv2, a, aws, ak, rfl, ham, hac, hvals2⟩ := hvals1.unsnoc
          iterate 8 walk1
          refine' kl_pop ?pF ?pN (kpa_last (Value.ref b) (vv2 ++ [Value.ref a])) ?pU ?pz ?_
          case pF => assumption
          case pN => assumption
          case pU => k_upd
          case pz => (have hq9 := hvals2.length; simp [sizeLine_eq]; simp at hlv; omega)
          intro h8 F8 N8
          iterate 10 walk1
          · exfalso; omega
          obtain ⟨fa, hfa, hkeep, hdeed⟩ := deed_claim w mean mg mb ho
          iterate 5 walk1
          rename News _ _ _ _ => N8
          refine dict_item (N8 (dd, odd) (.tail _ (.tail _ (.tail _ (.tail _ (.tail _ (.head _))))))).1 hdD (deed_find hdP hfa) ?_
          refine' storeX_C ?F ?N ?c ?U ?d ?_ ?a ?b
          case a => rfl
          case b => rfl
          case F => k_asm
          case N => exact N8
          case c => rfl
          case U => k_updF
          case d => exact hcob
          intro h9 o9 F9 N9 d9
          (try dsimp only at N9)
          iterate 7 walk1
          (repeat (fail_if_success (with_reducible show wpAny _ _ (eval (Expr.ListComp _ _ _ _) _) _ _ _)); walk1)
          k_dflt (refine ListComp_K (uF₀ := by k_asm) (by with_unfolding_all rfl) (by decide) (by rfl) (by decide) ?_)
          iterate 8 walk1
          refine' kl_pop ?pF ?pN (kpa_last (Value.ref a) vv2) ?pU ?pz ?_
          case pF => assumption
          case pN => assumption
          case pU => k_upd
          case pz => (have hq9 := hvals2.length; simp [sizeLine_eq]; simp at hlv; omega)
          intro h10 F10 N10
          (repeat (fail_if_success (with_reducible show wpAny _ _ (call (Value.type "zip") _) _ _ _)); walk1)
          have hla := hac.length_of
          have hlb := hbc.length_of
          refine SrcK.zip (Inv := OpInv m as bs) rfl F10 N10 (.tail _ (.tail _ (.tail _ (.tail _ (.tail _ (.tail _ (.tail _ (List.mem_append_left _ ham)))))))) (.tail _ (.tail _ (.tail _ (.tail _ (.tail _ (.tail _ (.tail _ (List.mem_append_left _ hbm)))))))) (by rw [sizeLine_eq]; omega) (by rfl) (by rfl) (by rfl) (by decide) (op_zero ho) (fun i ys hI => by obtain ⟨_, _, _, q⟩ := hI; omega) ?zturn ?zfin
          case zturn =>
            rintro s₂ ⟨hh2, rfl⟩ i x y ys h tk own C oC D m₂ E' hi ⟨hx, hy⟩ hI hNs hm1 hm2 F11 N11 off
            refine wpAny_tests_nil ?_
            simp only [if_true]
            obtain ⟨xa, xt, rfl, hxa⟩ := ints_item hac hx
            obtain ⟨ya, yt, rfl, hya⟩ := ints_item hbc hy
            iterate 3 walk1
            k_dflt (refine' callWith_K ?k1 hkeep ?_)
            case k1 => k_asm
            (repeat (fail_if_success (with_reducible show wpAny _ _ (call (Value.ref _) _) _ _ _)); walk1)
            refine' use_claim (by k_asm) (by k_asm) (by k_asm) (by k_asm) (by k_asm) (by first | exact rfl | assumption) (claim_toks (hdeed _ xa ya xt yt (hba _ (List.mem_of_getElem? hxa)) (hbb _ (List.mem_of_getElem? hya)))) (by ktr_room) (by ktr_units) trivial ?_
            rintro _ _ h12 tk12 F12 N12 sep12 ⟨htk12, hv12, rfl⟩
            exact ⟨h12, tk12, rfl, F12, N12, op_step ho hI hxa hya hv12⟩
          case zfin =>
            intro D h tk zs F11 N11 lt hI
            obtain ⟨hzc, hzl⟩ := op_done ho (n := 16) ha hb (by rw [hla, hlb, ha, hb] at hI; exact hI)
            walk1
            refine' append_K F11 N11 (Upd.tail ?n1 (Upd.tail ?n2 (Upd.head ?n3))) ?_ ?z
            case n1 => exact Ne.symm (Nat.ne_of_lt (lt (V, _) (.tail _ (.head _))))
            case n2 => k_ne
            case n3 => exact run_offV lV tV
            case z => (have hq9 := hvals2.length; simp [sizeLine_eq]; simp at hlv; omega)
            intro h12 F12 N12
            iterate 4 walk1
            rename Fr _ _ _ _ => F13
            rename News _ _ _ _ => N13
            simp only [List.push_toArray] at N13
            have hoD : ∀ X : Addr, (∃ o, (X, o) ∈ _) → D ≠ X := fun X ⟨o, ho⟩ => Ne.symm (Nat.ne_of_lt (lt (X, o) ho))
            have hv3 : RefsAre ((D, LCg.lst zs) :: cols ++ news) (vv2 ++ [.ref D]) (vs0 ++ [c]) := (hvals2.mono fun p hp => .tail _ hp).snoc (a := D) (ws := zs) (k := zs.length) (.head _) hzc
            try refine OpK.out (by assumption) ?_
            refine ⟨⟨tv, tn, mv', mn + 1, vv2 ++ [.ref D], _, o9, (D, LCg.lst zs) :: cols, told2, ms, vs0 ++ [c]⟩, _, _, _, _, rfl, by assumption, N13, (by intro p hp; dsimp only [runLed, List.cons_append] at hp; exact run_sub p hp), by kst_all, by ksw_same, ⟨⟨hv3, htold.mono fun p hp => .tail _ hp, hm', ⟨_, d9⟩, ?_, ?_, ?_, ?_, rfl⟩, hred⟩, ?_⟩
            · intro p hp
              rcases List.mem_cons.mp hp with rfl | hp
              · exact ⟨hoD V ⟨_, .tail _ (.head _)⟩, hoD M ⟨_, .tail _ (.tail _ (.head _))⟩, hoD T ⟨_, .tail _ (.tail _ (.tail _ (.head _)))⟩, hoD dr ⟨_, .tail _ (.tail _ (.tail _ (.tail _ (.head _))))⟩, hoD dd ⟨_, .tail _ (.tail _ (.tail _ (.tail _ (.tail _ (.head _)))))⟩, hoD (LL + 1) ⟨_, .tail _ (.tail _ (.tail _ (.tail _ (.tail _ (.tail _ (.head _))))))⟩, fun q hq => lt q (.tail _ (.tail _ (.tail _ (.tail _ (.tail _ (.tail _ (.tail _ (List.mem_append_left _ (List.mem_append_right _ hq)))))))))⟩
              · exact hoff p hp
            · intro p hp
              rcases List.mem_cons.mp hp with rfl | hp
              · exact hoD I ⟨it, .tail _ (.tail _ (.tail _ (.tail _ (.tail _ (.tail _ (.tail _ (List.mem_append_right _ (.head _))))))))⟩
              · exact hoffI p hp
            · dsimp only; simp at hlv ⊢; omega
            · dsimp only; simp at hlm; omega
            · dsimp only; simp
      case done2 =>
        rintro ⟨tv, tn, mv, mn, vv, vn, cob, cols, told2, marks, vals⟩ u2 h5 tk5 ⟨⟨hvals, htold2, hmarks, ⟨cv, hcob⟩, hoff, hoffI, hlv, hlm, hsame⟩, hm1, hv1⟩ F5 N5
        clear F4 N4
        dsimp only [kstB, runLed, List.cons_append] at F5 N5 hvals htold2 hmarks hcob hoff hoffI hlv hlm hm1 hv1 hsame ⊢
        subst hm1 hv1 hsame
        have tV := run_tail (it := it) (fun p hp => (hoff p hp).1) (allLt_mem lV.2.2.2.2.2) nV
        have tM := run_tail (it := it) (fun p hp => (hoff p hp).2.1) (allLt_mem lM.2.2.2.2) nM
        have tT := run_tail (it := it) (fun p hp => (hoff p hp).2.2.1) (allLt_mem lT.2.2.2) nT
        have tC := run_tail (it := it) (fun p hp => (hoff p hp).2.2.2.2.2.1) (fun p hp => Nat.lt_succ_of_lt (lL p hp)) nC
        (repeat (fail_if_success (with_reducible show wpAny _ _ (call (Value.ref _) _) _ _ _)); walk1)
        refine' use_claim (by k_asm) (by k_asm) (by k_asm) (by k_asm) (by k_asm) (by first | exact rfl | assumption) (claim_toks (eof_claim w mean mg mb _ _ _)) (by ktr_room) (by ktr_units) trivial ?_
        rintro _ _ h6 tk6 F6 N6 sep6 ⟨htk6, rfl, rfl⟩
        rcases htl with ⟨hs, vals', c, hvc, hrun2⟩ | ⟨⟨k, hk⟩, hrun2⟩
        · subst hvc
          obtain ⟨vv1, b, bws, bk, rfl, hbm, hbc, hvals1⟩ := hvals.unsnoc
          rcases hs with rfl | rfl
          · rw [show ((0 : Int) == 0) = true from rfl]
            dsimp only [List.nil_append] at N6 ⊢
            (repeat (fail_if_success (with_reducible show wpAny _ _ (call (Value.builtin "list.pop") [_]) _ _ _)); walk1)
            refine' kl_pop ?pF ?pN (kpa_last (Value.ref b) vv1) ?pU ?pz ?_
            case pF => assumption
            case pN => assumption
            case pU => k_upd
            case pz => (have hq9 := hvals1.length; simp [sizeLine_eq]; simp at hlv; omega)
            intro h8 F8 N8
            (repeat (fail_if_success (with_reducible show wpAny _ _ (call (Value.builtin "list.append") [_, _]) _ _ _)); walk1)
            refine' append_K F8 N8 (Upd.tail ?n1 (Upd.tail ?n2 (Upd.head ?n3))) ?_ ?z
            case n1 => k_ne
            case n2 => k_ne
            case n3 => exact run_offT lT tT
            case z => (have hq9 := htold2.length; simp [sizeLine_eq]; omega)
            intro h12 F12 N12
            iterate 6 walk1
            rename News _ _ _ _ => N13
            simp only [List.push_toArray] at N13
            try refine OpK.out (by assumption) ?_
            refine ⟨rfl, ⟨tv ++ [.ref b], _, mv, mn, vv1, _, cob, cols, told2 ++ [c], marks, vals'⟩, _, _, _, _, rfl, by assumption, N13, fun p hp => (show p ∈ runLed V M T dr dd (LL + 1) odr odd news ⟨tv ++ [.ref b], _, mv, mn, vv1, _, cob, cols, told2 ++ [c], marks, vals'⟩ ++ [(I, it)] from List.mem_append_left _ hp),
              (show (I, it) ∈ runLed V M T dr dd (LL + 1) odr odd news ⟨tv ++ [.ref b], _, mv, mn, vv1, _, cob, cols, told2 ++ [c], marks, vals'⟩ ++ [(I, it)] from List.mem_append_right _ (.head _)), hIall _ hoffI, by kst_all, by ksw_same,
              ⟨hvals1, htold2.snoc hbm hbc, hmarks, ⟨_, hcob⟩, hoff, ?_, ?_, ?_, ?_⟩⟩
            · dsimp only; simp at hlv; omega
            · dsimp only; simp; omega
            · dsimp only; omega
            · dsimp only; rw [hrest]; exact hrun2
          · rw [show ((19 : Int) == 0) = false from rfl]
            dsimp only [List.nil_append] at N6 ⊢
            (repeat (fail_if_success (with_reducible show wpAny _ _ (call (Value.builtin "list.pop") [_]) _ _ _)); walk1)
            refine' kl_pop ?pF ?pN (kpa_last (Value.ref b) vv1) ?pU ?pz ?_
            case pF => assumption
            case pN => assumption
            case pU => k_upd
            case pz => (have hq9 := hvals1.length; simp [sizeLine_eq]; simp at hlv; omega)
            intro h8 F8 N8
            (repeat (fail_if_success (with_reducible show wpAny _ _ (call (Value.builtin "list.append") [_, _]) _ _ _)); walk1)
            refine' append_K F8 N8 (Upd.tail ?n1 (Upd.tail ?n2 (Upd.head ?n3))) ?_ ?z
            case n1 => k_ne
            case n2 => k_ne
            case n3 => exact run_offT lT tT
            case z => (have hq9 := htold2.length; simp [sizeLine_eq]; omega)
            intro h12 F12 N12
            iterate 6 walk1
            rename News _ _ _ _ => N13
            simp only [List.push_toArray] at N13
            try refine OpK.out (by assumption) ?_
            refine ⟨rfl, ⟨tv ++ [.ref b], _, mv, mn, vv1, _, cob, cols, told2 ++ [c], marks, vals'⟩, _, _, _, _, rfl, by assumption, N13, fun p hp => (show p ∈ runLed V M T dr dd (LL + 1) odr odd news ⟨tv ++ [.ref b], _, mv, mn, vv1, _, cob, cols, told2 ++ [c], marks, vals'⟩ ++ [(I, it)] from List.mem_append_left _ hp),
              (show (I, it) ∈ runLed V M T dr dd (LL + 1) odr odd news ⟨tv ++ [.ref b], _, mv, mn, vv1, _, cob, cols, told2 ++ [c], marks, vals'⟩ ++ [(I, it)] from List.mem_append_right _ (.head _)), hIall _ hoffI, by kst_all, by ksw_same,
              ⟨hvals1, htold2.snoc hbm hbc, hmarks, ⟨_, hcob⟩, hoff, ?_, ?_, ?_, ?_⟩⟩
            · dsimp only; simp at hlv; omega
            · dsimp only; simp; omega
            · dsimp only; omega
            · dsimp only; rw [hrest]; exact hrun2
        · have hr := rank_lt hk
          have hr0 : sy ≠ 0 ∧ sy ≠ 19 := by constructor <;> (rintro rfl; cases hk)
          rw [show (sy == 0) = false by simpa using hr0.1]
          dsimp only [List.nil_append] at N6 ⊢
          (repeat (fail_if_success (with_reducible show wpAny _ _ (call (Value.builtin "list.append") [_, _]) _ _ _)); walk1)
          · exfalso; omega
          (repeat (fail_if_success (with_reducible show wpAny _ _ (call (Value.builtin "list.append") [_, _]) _ _ _)); walk1)
          refine' append_K ?pF ?pN (Upd.tail ?n1 (Upd.head ?n3)) ?_ ?z
          case pF => assumption
          case pN => assumption
          case n1 => k_ne
          case n3 => exact run_offM lM tM
          case z => (have hq9 := hmarks.length; simp [sizeLine_eq]; omega)
          intro h12 F12 N12
          iterate 6 walk1
          rename News _ _ _ _ => N13
          simp only [List.push_toArray] at N13
          try refine OpK.out (by assumption) ?_
          refine ⟨rfl, ⟨tv, tn, mv ++ [.int sy ty], _, vv, vn, cob, cols, told2, marks ++ [sy], vals⟩, _, _, _, _, rfl, by assumption, N13, fun p hp => (show p ∈ runLed V M T dr dd (LL + 1) odr odd news ⟨tv, tn, mv ++ [.int sy ty], _, vv, vn, cob, cols, told2, marks ++ [sy], vals⟩ ++ [(I, it)] from List.mem_append_left _ hp),
            (show (I, it) ∈ runLed V M T dr dd (LL + 1) odr odd news ⟨tv, tn, mv ++ [.int sy ty], _, vv, vn, cob, cols, told2, marks ++ [sy], vals⟩ ++ [(I, it)] from List.mem_append_right _ (.head _)), hIall _ hoffI, by kst_all, by ksw_same,
            ⟨hvals, htold2, intsSnoc hmarks, ⟨_, hcob⟩, hoff, ?_, ?_, ?_, ?_⟩⟩
          · dsimp only; omega
          · dsimp only; omega
          · dsimp only; simp; omega
          · dsimp only; rw [hrest]; exact hrun2
  case done =>
    rintro ⟨tv, tn, mv, mn, vv, vn, cob, cols, told, marks, vals⟩ u h tk hP F2 N2
    obtain ⟨hvals, htold, hmarks, ⟨cv, hcob⟩, hoff, hlv, hlt, hlm, hrun⟩ := hP
    dsimp only [kstB, runLed, List.cons_append] at F2 N2 hvals htold hmarks hcob hoff hlv hlt hlm hrun ⊢
    iterate 7 walk1
    rename News _ _ _ _ => N9
    refine' hret.out (.ref T) ((T, W.listOf tv.toArray tn) :: cols) _ _ (by assumption) (fun p hp => N9 p ?n1) ?sep ⟨T, tv, tn, cols, rfl, rfl, ?fin⟩
    case n1 =>
      simp only [List.cons_append, List.mem_cons, List.mem_append] at hp ⊢
      grind
    case sep =>
      intro p hp q hq
      rcases List.mem_cons.mp hq with rfl | hq
      · exact allLt_mem lT.2.2.2 p hp
      · exact (hoff q hq).2.2.2.2.2.2 p hp
    case fin =>
      have hlr := hrow.length
      rw [List.drop_of_length_le (by omega)] at hrun
      cases hrun
      exact htold
end
section
structure CellS where
  vs : List Value
  ns : List Int
  k : Nat
noncomputable def cellP (i : Nat) (c : CellS) : Prop := IntsAre c.vs c.ns ∧ c.ns.length = 6 ∧ ∀ n ∈ c.ns, 0 ≤ n ∧ n ≤ 2000 + 1000000 * (i : Int)
theorem cells_start : ∀ n ∈ [(17 : Int), 1297, 1353, 1725, 1333, 1830], 0 ≤ n ∧ n ≤ 2000 + 1000000 * ((0 : Nat) : Int) := by decide
theorem off4 {a b c d D : Addr} {oa ob oc od : Obj} {own : List (Addr × Obj)} (l : @LT.lt Nat _ a D ∧ @LT.lt Nat _ b D ∧ @LT.lt Nat _ c D ∧ @LT.lt Nat _ d D) (ho : ∀ p ∈ own, p.1 ≠ D) : ∀ p ∈ (a, oa) :: (b, ob) :: (c, oc) :: (d, od) :: own, p.1 ≠ D := fun p hp => by
  rcases List.mem_cons.mp hp with rfl | hp
  · exact Nat.ne_of_lt l.1
  rcases List.mem_cons.mp hp with rfl | hp
  · exact Nat.ne_of_lt l.2.1
  rcases List.mem_cons.mp hp with rfl | hp
  · exact Nat.ne_of_lt l.2.2.1
  rcases List.mem_cons.mp hp with rfl | hp
  · exact Nat.ne_of_lt l.2.2.2
  · exact ho p hp
theorem own_off {own : List (Addr × Obj)} {e it l D : Addr} (ho : ∀ p ∈ own, p.1 = e ∨ p.1 = it ∨ p.1 = l) (hD : D ∉ [e, it]) (hl : l ≠ D) : ∀ p ∈ own, p.1 ≠ D := fun p hp q => by
  rcases ho p hp with h | h | h
  · exact hD (by rw [← q, h]; exact .head _)
  · exact hD (by rw [← q, h]; exact .tail _ (.head _))
  · exact hl (by rw [← h, q])
theorem cells_step {ns ns' : List Int} {i : Nat} {n : Int} {vs' : List Value} {k' : Nat} (hI : IntsAre vs' ns') (e : ns' = ns.set (((i : Nat) : Int).fmod 6).toNat (ns.getD (((i : Nat) : Int).fmod 6).toNat 0 + n.fmod (10 ^ (6 : Int).toNat))) (hl : ns.length = 6) (hb : ∀ n ∈ ns, 0 ≤ n ∧ n ≤ 2000 + 1000000 * (i : Int)) :
    cellP (i + 1) ⟨vs', ns', k'⟩ := by
  subst e
  refine ⟨hI, by simpa using hl, fun x hx => ?_⟩
  have hm : 0 ≤ n.fmod (10 ^ (6 : Int).toNat) ∧ n.fmod (10 ^ (6 : Int).toNat) < 1000000 := ⟨Int.fmod_nonneg_of_pos _ (by decide), Int.fmod_lt_of_pos _ (by decide)⟩
  dsimp only at hx
  generalize n.fmod (10 ^ (6 : Int).toNat) = y at hm hx
  rw [Int.natCast_add]
  rcases List.mem_or_eq_of_mem_set hx with hx | rfl
  · have := hb x hx
    omega
  · have hj : (((i : Nat) : Int).fmod 6).toNat < ns.length := by
      have h1 := Int.fmod_nonneg_of_pos (i : Int) (b := 6) (by decide)
      have h2 := Int.fmod_lt_of_pos (i : Int) (b := 6) (by decide)
      omega
    have := hb _ (show ns.getD (((i : Nat) : Int).fmod 6).toNat 0 ∈ ns by rw [List.getD_eq_getElem?_getD, List.getElem?_eq_getElem hj]; exact List.getElem_mem hj)
    omega
theorem hw_set {a b c d e f : Addr} {oa ob ob' oc od oe og : Obj} {X : List Addr} (hw : ∀ p ∈ [(a, oa), (b, ob), (c, oc), (d, od), (e, oe), (f, og)], p.1 ∉ X) : ∀ p ∈ [(a, oa), (b, ob'), (c, oc), (d, od), (e, oe), (f, og)], p.1 ∉ X := fun p hp => by
  have h1 := hw (b, ob) (.tail _ (.head _))
  rcases List.mem_cons.mp hp with rfl | hp
  · exact hw _ (.head _)
  rcases List.mem_cons.mp hp with rfl | hp
  · exact h1
  · exact hw p (.tail _ (.tail _ hp))
theorem sub6 {a b c d e f : Addr × Obj} {own : List (Addr × Obj)} : ∀ p ∈ [a, b, c, d, e, f], p ∈ a :: b :: c :: d :: e :: f :: own := fun p hp => by
  simp only [List.mem_cons, List.not_mem_nil, or_false] at hp ⊢
  grind
theorem own6 {a b c d e f : Addr × Obj} {own : List (Addr × Obj)} : ∀ p ∈ own, p ∈ a :: b :: c :: d :: e :: f :: own := fun p hp => .tail _ (.tail _ (.tail _ (.tail _ (.tail _ (.tail _ hp)))))
theorem parts_step {ys : List Value} {ns : List Int} {i : Nat} {v : Value} (h : StrsAre ys (partsTo ns i)) (e : ∃ t, v = .str (lawText (ns.getD i 0) (decide (0 < i))) t) : StrsAre (ys ++ [v]) (partsTo ns (i + 1)) := by
  obtain ⟨t, rfl⟩ := e
  rw [parts_snoc]
  exact strs_snoc h
structure SymS where
  vs : List Value
  k : Nat
theorem ints_append {us vs : List Value} {ns ms : List Int} (h : IntsAre us ns) (k : IntsAre vs ms) : IntsAre (us ++ vs) (ns ++ ms) := by
  induction h with
  | nil => exact k
  | cons n t _ ih => exact .cons n t ih
theorem off5 {a b c d e D : Addr} {oa ob oc od oe : Obj} {own : List (Addr × Obj)} (h : a ≠ D) (l : @LT.lt Nat _ b D ∧ @LT.lt Nat _ c D ∧ @LT.lt Nat _ d D ∧ @LT.lt Nat _ e D) (ho : ∀ p ∈ own, p.1 ≠ D) : ∀ p ∈ (a, oa) :: (b, ob) :: (c, oc) :: (d, od) :: (e, oe) :: own, p.1 ≠ D := fun p hp => by
  rcases List.mem_cons.mp hp with rfl | hp
  · exact h
  · exact off4 l ho p hp
theorem sub_L2 {a b c d e f g x : Addr × Obj} : ∀ p ∈ [a, d, e, f, g, x], p ∈ [a, b, c, d, e, f, g, x] := fun p hp => by
  simp only [List.mem_cons, List.not_mem_nil, or_false] at hp ⊢
  grind
theorem add_hz {vs us : List Value} {ns ms : List Int} {i : Nat} (h : IntsAre vs (symsTo ns i)) (hi : i < 6) (hu : IntsAre us ms) (hm : ms.length ≤ 11) : (vs ++ us).length ≤ 1000 := by
  have h1 := h.length
  have h2 := hu.length
  have h3 := syms_len ns i
  rw [List.length_append]
  omega
theorem sub_3 {x y z a : Addr × Obj} {r : List (Addr × Obj)} : ∀ p ∈ a :: r, p ∈ x :: y :: z :: a :: r := fun p hp => .tail _ (.tail _ (.tail _ hp))
theorem hw_head {a b c d e f : Addr} {oa oa' ob oc od oe og : Obj} {X : List Addr} (hw : ∀ p ∈ [(a, oa), (b, ob), (c, oc), (d, od), (e, oe), (f, og)], p.1 ∉ X) : ∀ p ∈ [(a, oa'), (b, ob), (c, oc), (d, od), (e, oe), (f, og)], p.1 ∉ X := fun p hp => by
  have h1 := hw (a, oa) (.head _)
  rcases List.mem_cons.mp hp with rfl | hp
  · exact h1
  · exact hw p (.tail _ hp)
theorem esc_claim (w : World) (mean : ExcName → Option Value) (mg mb : Str → Option Value) {k : Int} (h0 : 0 ≤ k) (h5 : k < 5) :
    ∃ f, [Value.ref 129, Value.ref 136, Value.ref 143, Value.ref 150, Value.ref 157][k.toNat]? = some (.ref f) ∧ keepIn (kHeap w.params) (.ref f) = true ∧ ∀ (news : List (Addr × Obj)) (x : Str) (t : Tok), x.length ≤ 80 → MClaim w mean mg mb f news 1 8 [Value.str x t] (fun tk => True) (fun tk v own tk' => (∃ t', v = .str (pageOf k x) t') ∧ own = []) := by
  have hk : k = 0 ∨ k = 1 ∨ k = 2 ∨ k = 3 ∨ k = 4 := by omega
  rcases hk with rfl | rfl | rfl | rfl | rfl
  · exact ⟨129, rfl, by kernel_rfl, fun news x t hx => cdata_claim w mean mg mb news x t hx⟩
  · exact ⟨136, rfl, by kernel_rfl, fun news x t hx => attrib_claim w mean mg mb news x t hx⟩
  · exact ⟨143, rfl, by kernel_rfl, fun news x t hx => attribHtml_claim w mean mg mb news x t hx⟩
  · exact ⟨150, rfl, by kernel_rfl, fun news x t hx => cdataC14n_claim w mean mg mb news x t hx⟩
  · exact ⟨157, rfl, by kernel_rfl, fun news x t hx => attribC14n_claim w mean mg mb news x t hx⟩
theorem seqIdx {k : Int} {n : Nat} (h0 : 0 ≤ k) (h1 : k < n) : seqIndex? k n = some k.toNat := by
  have h2 : ¬ k < 0 := by omega
  simp [seqIndex?, h2, h0, h1]
theorem tab_val {A B C c : Str} {t1 t2 t3 t : Tok} : ∃ t', (valueAt [(Str.ofString "&", Value.str A t1), (Str.ofString "<", Value.str B t2), (Str.ofString ">", Value.str C t3)] c).getD (.str c t) = .str (if c = Str.ofString "&" then A else if c = Str.ofString "<" then B else if c = Str.ofString ">" then C else c) t' := by
  unfold valueAt
  by_cases h1 : Str.ofString "&" = c
  · subst h1
    exact ⟨t1, by simp⟩
  · by_cases h2 : Str.ofString "<" = c
    · subst h2
      exact ⟨t2, by rw [if_neg (fun e => h1 e.symm)]; simp [List.find?, h1]⟩
    · by_cases h3 : Str.ofString ">" = c
      · subst h3
        exact ⟨t3, by rw [if_neg (fun e => h1 e.symm), if_neg (fun e => h2 e.symm)]; simp [List.find?, h1, h2]⟩
      · exact ⟨t, by rw [if_neg (fun e => h1 e.symm), if_neg (fun e => h2 e.symm), if_neg (fun e => h3 e.symm)]; simp [List.find?, h1, h2, h3]⟩
theorem tab_step {k : Int} {x : Str} {i c : Nat} {ys : List Value} {v : Value} (hc : x.cps[i]? = some c) (h : StrsAre ys (tabTo k x i)) (e : ∃ t, v = .str (tabSign k ⟨#[c]⟩) t) : StrsAre (ys ++ [v]) (tabTo k x (i + 1)) := by
  obtain ⟨t, rfl⟩ := e
  have : tabTo k x (i + 1) = tabTo k x i ++ [tabSign k ⟨#[c]⟩] := by
    unfold tabTo
    rw [take_snoc (a := c) (by simpa using hc), List.map_append]
    rfl
  rw [this]
  exact strs_snoc h
theorem fr_name {h₀ h : Heap} {L : Addr} {m : Str → Option Value} {x : Str} {v : Value} (F : Fr h₀ L h m) (e : m x = some v) : Fr h₀ L h (fun y => if y = x then some v else m y) := by
  have : (fun y => if y = x then some v else m y) = m := by
    funext y
    by_cases h : y = x
    · rw [if_pos h, h, e]
    · rw [if_neg h]
  rw [this]
  exact F
theorem pts_at {n : Nat} {ys : List Value} {tl news : List (Addr × Obj)} (h : PtsTo n ys tl) (hs : ∀ p ∈ tl, p ∈ news) : ∀ i v, ys[i]? = some v → ∃ T x y o, v = .ref T ∧ (T, o) ∈ news ∧ o.cls = .type "tuple" ∧ (∃ k, o.data = .seq #[x, y] k) ∧ ∃ t u, x = .int ((i / 4 : Nat) : Int) t ∧ y = .int ((i % 4 : Nat) : Int) u := fun i v e => by
  obtain ⟨a, t, u, rfl, hm⟩ := h.2 i v e
  exact ⟨a, _, _, _, rfl, hs _ hm, rfl, ⟨_, rfl⟩, t, u, rfl, rfl⟩
theorem sub_pts {D r l a b c d : Addr × Obj} {tl : List (Addr × Obj)} : ∀ p ∈ D :: r :: l :: a :: b :: c :: d :: tl, p ∈ D :: (tl ++ [r, l, a, b, c, d]) := fun p hp => by
  simp only [List.mem_cons, List.mem_append, List.not_mem_nil, or_false] at hp ⊢
  grind
theorem rep_col {i : Nat} {x : Value} {t : Tok} (h : IntsAre (List.replicate (16 : Int).toNat [Value.int (0 + (i : Int)) t]).flatten (List.replicate (16 : Int).toNat [0 + (i : Int)]).flatten) : ColIs (List.replicate (16 : Int).toNat [Value.int (0 + (i : Int)) t]).flatten (.ints (List.replicate 16 ((i : Nat) : Int))) := by
  have e : (List.replicate (16 : Int).toNat [0 + (i : Int)]).flatten = List.replicate 16 ((i : Nat) : Int) := by
    rw [Int.zero_add]
    rfl
  rw [e] at h
  exact h
theorem range_map_snoc {α : Type} (f : Nat → α) (i : Nat) : (List.range (i + 1)).map f = (List.range i).map f ++ [f i] := by simp [List.range_succ]
theorem sub_kt {a b i c d : Addr × Obj} {r : List (Addr × Obj)} : ∀ p ∈ i :: c :: d :: a :: r, p ∈ a :: b :: i :: c :: d :: r := fun p hp => by
  simp only [List.mem_cons] at hp ⊢
  grind
theorem not_cell {h₀ h : Heap} {L : Addr} {led : List (Addr × Obj)} (N : News h₀ L h led) {X : List Addr} (hX : ∀ x ∈ X, ∃ o v, (x, o) ∈ led ∧ o.data = .cell v) {a : Addr} {o : Obj} (hm : (a, o) ∈ led) (hd : ∀ v, o.data ≠ .cell v) : (a, o) ∈ led.filter fun p => !(X.contains p.1) := by
  refine List.mem_filter.mpr ⟨hm, ?_⟩
  cases hc : X.contains a with
  | false => rfl
  | true =>
    obtain ⟨o', v, hm', hd'⟩ := hX a (by simpa using hc)
    have e1 := (N _ hm).1
    have e2 := (N _ hm').1
    dsimp only at e1 e2
    rw [e1] at e2
    cases e2
    exact absurd hd' (hd v)
theorem refs_filter {h₀ h : Heap} {L : Addr} {led : List (Addr × Obj)} (N : News h₀ L h led) {X : List Addr} (hX : ∀ x ∈ X, ∃ o v, (x, o) ∈ led ∧ o.data = .cell v) {vs : List Value} {cs : List Col} (R : RefsAre led vs cs) : RefsAre (led.filter fun p => !(X.contains p.1)) vs cs := by
  induction R with
  | nil => exact .nil
  | cons hm hc _ ih => exact .cons (not_cell N hX hm (fun v e => nomatch e)) hc ih
theorem pts_filter {h₀ h : Heap} {L : Addr} {led : List (Addr × Obj)} (N : News h₀ L h led) {X : List Addr} (hX : ∀ x ∈ X, ∃ o v, (x, o) ∈ led ∧ o.data = .cell v) {n : Nat} {ys : List Value} {tl : List (Addr × Obj)} (hP : PtsTo n ys tl) (hs : ∀ p ∈ tl, p ∈ led) : PtsTo n ys (led.filter fun p => !(X.contains p.1)) := by
  refine ⟨hP.1, fun k v e => ?_⟩
  obtain ⟨a, t, u, rfl, hm⟩ := hP.2 k v e
  exact ⟨a, t, u, rfl, not_cell N hX (hs _ hm) (fun v e => nomatch e)⟩
theorem filter_off {led : List (Addr × Obj)} {X : List Addr} : ∀ p ∈ led.filter (fun p => !(X.contains p.1)), p.1 ∉ X := fun p hp hx => by
  have := (List.mem_filter.mp hp).2
  simp [hx] at this
theorem ckC {h₀ h : Heap} {L TT Dp lc c4 c3 c2 c1 : Addr} {tobj pobj lobj o4 o3 o2 o1 : Obj} {led tl : List (Addr × Obj)} {tvs pys : List Value} {res : List Col} (N : News h₀ L h ((TT, tobj) :: led)) (R : RefsAre led tvs res) (hP : PtsTo 16 pys tl) (hs : ∀ p ∈ tl, p ∈ led)
    (mp : (Dp, pobj) ∈ led) (ml : (lc, lobj) ∈ led) (m4 : (c4, o4) ∈ led) (m3 : (c3, o3) ∈ led) (m2 : (c2, o2) ∈ led) (m1 : (c1, o1) ∈ led) (h4 : ∃ v, o4.data = .cell v) (h3 : ∃ v, o3.data = .cell v) (h2 : ∃ v, o2.data = .cell v) (h1 : ∃ v, o1.data = .cell v) :
    ∃ R : List (Addr × Obj), News h₀ L h ((TT, tobj) :: (Dp, pobj) :: (lc, lobj) :: (c4, o4) :: (c3, o3) :: (c2, o2) :: (c1, o1) :: R) ∧ (∀ p ∈ R, p.1 ∉ [c4, c3, c2, c1]) ∧ RefsAre R tvs res ∧ PtsTo 16 pys R := by
  have N' : News h₀ L h led := fun p hp => N p (.tail _ hp)
  have hX : ∀ x ∈ [c4, c3, c2, c1], ∃ o v, (x, o) ∈ led ∧ o.data = .cell v := by
    intro x hx
    simp only [List.mem_cons, List.not_mem_nil, or_false] at hx
    rcases hx with rfl | rfl | rfl | rfl
    · obtain ⟨v, e⟩ := h4; exact ⟨_, v, m4, e⟩
    · obtain ⟨v, e⟩ := h3; exact ⟨_, v, m3, e⟩
    · obtain ⟨v, e⟩ := h2; exact ⟨_, v, m2, e⟩
    · obtain ⟨v, e⟩ := h1; exact ⟨_, v, m1, e⟩
  refine ⟨led.filter fun p => !([c4, c3, c2, c1].contains p.1), fun p hp => ?_, filter_off, refs_filter N' hX R, pts_filter N' hX hP hs⟩
  simp only [List.mem_cons] at hp
  rcases hp with rfl | rfl | rfl | rfl | rfl | rfl | rfl | hp
  · exact N _ (.head _)
  · exact N' _ mp
  · exact N' _ ml
  · exact N' _ m4
  · exact N' _ m3
  · exact N' _ m2
  · exact N' _ m1
  · exact N' _ (List.mem_filter.mp hp).1
theorem pts_are {n : Nat} {ys : List Value} {tl news : List (Addr × Obj)} (h : PtsTo 16 ys tl) (hs : ∀ p ∈ tl, p ∈ news) : PtsAre news ys := by
  refine ⟨h.1, fun i v e => ?_⟩
  obtain ⟨a, t, u, rfl, hm⟩ := h.2 i v e
  exact ⟨a, t, u, _, rfl, hs _ hm, rfl, _, rfl⟩
theorem goal_snoc {n : Int} {i : Nat} (hi : i < 16) : (goalL n).take (i + 1) = (goalL n).take i ++ [n.fmod 4 * (ptOf i).1 + ((n.fdiv 4).fmod 7 - 3) * (ptOf i).2] := by
  refine take_snoc ?_
  simp [goalL, hi]
theorem goal_step {zs : List Value} {n : Int} {i : Nat} {t : Tok} (h : IntsAre zs ((goalL n).take i)) (hi : i < 16) : IntsAre (zs ++ [.int (n.fmod 4 * ((i / 4 : Nat) : Int) + ((n.fdiv 4).fmod 7 - 3) * ((i % 4 : Nat) : Int)) t]) ((goalL n).take (i + 1)) := by
  rw [goal_snoc hi]
  exact intsSnoc h
structure MaskS where
  vs : List Value
  k : Nat
  od : Obj
@[reducible] noncomputable def maskLed (Dm G TT Dp lc c4 c3 c2 c1 : Addr) (gobj tobj pobj lobj o4 o2 o1 : Obj) (R : List (Addr × Obj)) (c : MaskS) : List (Addr × Obj) :=
  (Dm, listOf c.vs.toArray c.k) :: (G, gobj) :: (TT, tobj) :: (Dp, pobj) :: (lc, lobj) :: (c4, o4) :: (c3, c.od) :: (c2, o2) :: (c1, o1) :: R
theorem cells_apart {LL : Nat} {x : Addr} (h : @LT.lt Nat _ (LL + 1 + 1 + 1 + 1) x) : x ≠ LL + 1 + 1 + 1 := by
  intro e
  subst e
  exact Nat.lt_asymm h (Nat.lt_succ_self _)
theorem cells_off {LL : Nat} {o2 oc : Obj} {R own : List (Addr × Obj)} (hR : ∀ p ∈ R, p.1 ∉ [LL + 1 + 1 + 1 + 1, LL + 1 + 1 + 1, LL + 1 + 1, LL + 1]) (ho : ∀ p ∈ own, p.1 ≠ LL + 1 + 1 + 1) : ∀ p ∈ ((LL + 1 + 1, o2) : Addr × Obj) :: (LL + 1, oc) :: (R ++ own), p.1 ≠ LL + 1 + 1 + 1 := fun p hp e => by
  rcases List.mem_cons.mp hp with rfl | hp
  · exact absurd (show (LL + 1 + 1 : Nat) = LL + 1 + 1 + 1 from e) (by omega)
  rcases List.mem_cons.mp hp with rfl | hp
  · exact absurd (show (LL + 1 : Nat) = LL + 1 + 1 + 1 from e) (by omega)
  rcases List.mem_append.mp hp with hp | hp
  · exact hR p hp (by rw [e]; exact .tail _ (.head _))
  · exact ho p hp e
theorem res_at (ns : List Int) {i : Nat} (h : i < 5) : (resOf ns)[i + 1]? = some (.bools (holdsL (ns.getD (i + 1) 0))) := by
  simp [resOf, h]
theorem off_masks {Dm a1 a2 a3 a4 a5 a6 a7 a8 : Addr} {b1 b2 b3 b4 b5 b6 b7 b8 : Obj} {R own : List (Addr × Obj)} (l : @LT.lt Nat _ a1 Dm ∧ @LT.lt Nat _ a2 Dm ∧ @LT.lt Nat _ a3 Dm ∧ @LT.lt Nat _ a4 Dm ∧ @LT.lt Nat _ a5 Dm ∧ @LT.lt Nat _ a6 Dm ∧ @LT.lt Nat _ a7 Dm ∧ @LT.lt Nat _ a8 Dm ∧ AllLt Dm R) (ho : ∀ p ∈ own, p.1 ≠ Dm) :
    ∀ p ∈ (a1, b1) :: (a2, b2) :: (a3, b3) :: (a4, b4) :: (a5, b5) :: (a6, b6) :: (a7, b7) :: (a8, b8) :: (R ++ own), p.1 ≠ Dm := fun p hp => by
  obtain ⟨l1, l2, l3, l4, l5, l6, l7, l8, lR⟩ := l
  rcases List.mem_cons.mp hp with rfl | hp
  · exact Nat.ne_of_lt l1
  rcases List.mem_cons.mp hp with rfl | hp
  · exact Nat.ne_of_lt l2
  rcases List.mem_cons.mp hp with rfl | hp
  · exact Nat.ne_of_lt l3
  rcases List.mem_cons.mp hp with rfl | hp
  · exact Nat.ne_of_lt l4
  rcases List.mem_cons.mp hp with rfl | hp
  · exact Nat.ne_of_lt l5
  rcases List.mem_cons.mp hp with rfl | hp
  · exact Nat.ne_of_lt l6
  rcases List.mem_cons.mp hp with rfl | hp
  · exact Nat.ne_of_lt l7
  rcases List.mem_cons.mp hp with rfl | hp
  · exact Nat.ne_of_lt l8
  rcases List.mem_append.mp hp with hp | hp
  · exact Nat.ne_of_lt (allLt_mem lR p hp)
  · exact ho p hp
theorem mask_sub {x1 x2 x3 x4 m a1 a2 a3 a4 a5 a6 a7 a8 : Addr × Obj} {R own : List (Addr × Obj)} : ∀ p ∈ m :: a1 :: a2 :: a3 :: a4 :: a5 :: a6 :: a7 :: a8 :: R, p ∈ x1 :: x2 :: x3 :: x4 :: m :: a1 :: a2 :: a3 :: a4 :: a5 :: a6 :: a7 :: a8 :: (R ++ own) := fun p hp => by
  have : p ∈ m :: a1 :: a2 :: a3 :: a4 :: a5 :: a6 :: a7 :: a8 :: (R ++ own) := by
    simp only [List.mem_cons, List.mem_append] at hp ⊢
    grind
  exact .tail _ (.tail _ (.tail _ (.tail _ this)))
theorem mask_own {x1 x2 x3 x4 m a1 a2 a3 a4 a5 a6 a7 a8 : Addr × Obj} {R own : List (Addr × Obj)} : ∀ p ∈ own, p ∈ x1 :: x2 :: x3 :: x4 :: m :: a1 :: a2 :: a3 :: a4 :: a5 :: a6 :: a7 :: a8 :: (R ++ own) := fun p hp =>
  .tail _ (.tail _ (.tail _ (.tail _ (.tail _ (.tail _ (.tail _ (.tail _ (.tail _ (.tail _ (.tail _ (.tail _ (.tail _ (List.mem_append_right _ hp)))))))))))))
theorem hw_mask {Dm G TT Dp lc c4 c3 c2 c1 : Addr} {gobj tobj pobj lobj o4 o2 o1 : Obj} {R : List (Addr × Obj)} {X : List Addr} {c c' : MaskS} (hw : ∀ p ∈ maskLed Dm G TT Dp lc c4 c3 c2 c1 gobj tobj pobj lobj o4 o2 o1 R c, p.1 ∉ X) : ∀ p ∈ maskLed Dm G TT Dp lc c4 c3 c2 c1 gobj tobj pobj lobj o4 o2 o1 R c', p.1 ∉ X := fun p hp => by
  have h1 := hw (Dm, listOf c.vs.toArray c.k) (.head _)
  have h3 := hw (c3, c.od) (.tail _ (.tail _ (.tail _ (.tail _ (.tail _ (.tail _ (.head _)))))))
  rcases List.mem_cons.mp hp with rfl | hp
  · exact h1
  rcases List.mem_cons.mp hp with rfl | hp
  · exact hw (G, gobj) (.tail _ (.head _))
  rcases List.mem_cons.mp hp with rfl | hp
  · exact hw (TT, tobj) (.tail _ (.tail _ (.head _)))
  rcases List.mem_cons.mp hp with rfl | hp
  · exact hw (Dp, pobj) (.tail _ (.tail _ (.tail _ (.head _))))
  rcases List.mem_cons.mp hp with rfl | hp
  · exact hw (lc, lobj) (.tail _ (.tail _ (.tail _ (.tail _ (.head _)))))
  rcases List.mem_cons.mp hp with rfl | hp
  · exact hw (c4, o4) (.tail _ (.tail _ (.tail _ (.tail _ (.tail _ (.head _))))))
  rcases List.mem_cons.mp hp with rfl | hp
  · exact h3
  · exact hw p (.tail _ (.tail _ (.tail _ (.tail _ (.tail _ (.tail _ (.tail _ hp)))))))
theorem sel_step_t {bs : List Bool} {ys : List Value} {j : Nat} {v : Value} (h : IntsAre ys (maskSel bs j)) (hb : bs[j]? = some true) (e : ∃ t, v = .int ((2 ^ j : Nat) : Int) t) : IntsAre (ys ++ [v]) (maskSel bs (j + 1)) := by
  have : maskSel bs (j + 1) = maskSel bs j ++ [((2 ^ j : Nat) : Int)] := by simp [maskSel, List.range_succ, hb]
  rw [this]
  exact ints_snoc h e
theorem sel_step_f {bs : List Bool} {ys : List Value} {j : Nat} (h : IntsAre ys (maskSel bs j)) (hb : bs[j]? = some false) : IntsAre ys (maskSel bs (j + 1)) := by
  have : maskSel bs (j + 1) = maskSel bs j := by simp [maskSel, List.range_succ, hb]
  rw [this]
  exact h
theorem shift_val (j : Nat) : (1 : Int) * 2 ^ (0 + (j : Int)).toNat = ((2 ^ j : Nat) : Int) := by
  rw [show (0 + (j : Int)).toNat = j by omega, Int.one_mul]
  exact (Int.natCast_pow 2 j).symm
theorem and_low (w : World) (mean : ExcName → Option Value) (mg mb : Str → Option Value) (news : List (Addr × Obj)) (a b : Int) (ta tb : Tok) (ha : Low a) (hb : Low b) :
   MClaim w mean mg mb 63 news 1 8 [Value.int a ta, Value.int b tb] (fun tk => True) (fun tk v own tk' => (∃ t, v = .int (PySem.Builtin.bitAnd a b) t) ∧ own = []) := by
  obtain ⟨m, rfl, hm⟩ := ha
  obtain ⟨n, rfl, hn⟩ := hb
  exact and_claim w mean mg mb news m n ta tb hm hn
structure FourS where
  vs : List Value
  k : Nat
structure IntS where
  m : Int
  t : Tok
theorem off3f {D a1 a2 a3 : Addr} {b1 b2 b3 : Obj} {own : List (Addr × Obj)} (l : @LT.lt Nat _ a1 D ∧ @LT.lt Nat _ a2 D ∧ @LT.lt Nat _ a3 D) (ho : ∀ p ∈ own, p.1 ≠ D) : ∀ p ∈ (a1, b1) :: (a2, b2) :: (a3, b3) :: own, p.1 ≠ D := fun p hp => by
  rcases List.mem_cons.mp hp with rfl | hp
  · exact Nat.ne_of_lt l.1
  rcases List.mem_cons.mp hp with rfl | hp
  · exact Nat.ne_of_lt l.2.1
  rcases List.mem_cons.mp hp with rfl | hp
  · exact Nat.ne_of_lt l.2.2
  · exact ho p hp
theorem topsI_len (ms gl : List Int) (k j i : Nat) : (topsI ms gl k j i).length = i := by simp [topsI]
theorem topsJ_len (ms gl : List Int) (k : Nat) : ∀ j, (topsJ ms gl k j).length ≤ j * j
  | 0 => by simp [topsJ]
  | j + 1 => by
    have := topsJ_len ms gl k j
    rw [topsJ_snoc, List.length_append, topsI_len]
    have e : (j + 1) * (j + 1) = j * j + j + j + 1 := by rw [Nat.add_mul, Nat.mul_add]; omega
    omega
theorem topsK_len (ms gl : List Int) {k : Nat} (h : k ≤ 5) : (topsK ms gl k).length ≤ 125 := by
  have aux : ∀ k, k ≤ 5 → (topsK ms gl k).length ≤ 25 * k := by
    intro k
    induction k with
    | zero => intro _; simp [topsK]
    | succ k ih =>
      intro hk
      have h1 := ih (by omega)
      have h2 := topsJ_len ms gl k k
      have h3 : k * k ≤ 4 * 4 := Nat.mul_le_mul (by omega) (by omega)
      rw [topsK_snoc, List.length_append]
      omega
  have := aux k h
  omega
theorem tops_len {ms gl : List Int} {k j i : Nat} (hk : k < 5) (hj : j < k) (hi : i < j) : (topsK ms gl k ++ topsJ ms gl k j ++ topsI ms gl k j i).length ≤ 1000 := by
  have h1 := topsK_len ms gl (k := k) (by omega)
  have h2 := topsJ_len ms gl k j
  have h3 : j * j ≤ 4 * 4 := Nat.mul_le_mul (by omega) (by omega)
  rw [List.length_append, List.length_append, topsI_len]
  omega
theorem small_to {k : Nat} (hk : k < 5) : Builtin.Range.small 0 (0 + (k : Int)) 1 = true ∧ Builtin.Range.rangeSize 0 (0 + (k : Int)) 1 = ((k : Nat) : Int) := by
  have : k = 0 ∨ k = 1 ∨ k = 2 ∨ k = 3 ∨ k = 4 := by omega
  rcases this with rfl | rfl | rfl | rfl | rfl <;> exact ⟨by decide, by decide⟩
theorem led4_sub {a a' b c d : Addr × Obj} {own : List (Addr × Obj)} : ∀ p ∈ a :: b :: c :: d :: own, p ∈ a :: b :: c :: d :: own := fun p hp => hp
theorem hw_first {Dt : Addr} {o o' : Obj} {r : List (Addr × Obj)} {X : List Addr} (hw : ∀ p ∈ (Dt, o) :: r, p.1 ∉ X) : ∀ p ∈ (Dt, o') :: r, p.1 ∉ X := fun p hp => by
  have h1 := hw (Dt, o) (.head _)
  rcases List.mem_cons.mp hp with rfl | hp
  · exact h1
  · exact hw p (.tail _ hp)
theorem mem4l {a b c d : Addr × Obj} {own : List (Addr × Obj)} : ∀ p ∈ [a, b, c, d], p ∈ a :: b :: c :: d :: own := fun p hp => by
  simp only [List.mem_cons, List.not_mem_nil, or_false] at hp ⊢
  grind
theorem mem4l' {a b c d : Addr × Obj} {r own : List (Addr × Obj)} : ∀ p ∈ a :: b :: c :: d :: r, p ∈ a :: b :: c :: d :: (r ++ own) := fun p hp => by
  simp only [List.mem_cons, List.mem_append] at hp ⊢
  grind
theorem mem4o {a b c d : Addr × Obj} {own : List (Addr × Obj)} : ∀ p ∈ own, p ∈ a :: b :: c :: d :: own := fun p hp => .tail _ (.tail _ (.tail _ (.tail _ hp)))
theorem mem4r {a b c d : Addr × Obj} {own own2 : List (Addr × Obj)} : ∀ p ∈ own2, p ∈ a :: b :: c :: d :: (own ++ own2) := fun p hp => .tail _ (.tail _ (.tail _ (.tail _ (List.mem_append_right _ hp))))
theorem own3_off {a b c : List (Addr × Obj)} {D : Addr} (h1 : ∀ p ∈ a, p.1 ≠ D) (h2 : ∀ p ∈ b, p.1 ≠ D) (h3 : ∀ p ∈ c, p.1 ≠ D) : ∀ p ∈ a ++ b ++ c, p.1 ≠ D := fun p hp => by
  rcases List.mem_append.mp hp with hp | hp
  · rcases List.mem_append.mp hp with hp | hp
    · exact h1 p hp
    · exact h2 p hp
  · exact h3 p hp
theorem fr_name2 {h₀ h : Heap} {L : Addr} {m : Str → Option Value} {x y : Str} {v u : Value} (F : Fr h₀ L h m) (e : m x = some v) (e2 : m y = some u) : Fr h₀ L h (fun z => if z = x then some v else if z = y then some u else m z) := by
  have := fr_name (x := x) (v := v) (fr_name F e2) (by
    show (if x = y then some u else m x) = some v
    by_cases h : x = y
    · rw [if_pos h, ← e2, ← h, e]
    · rw [if_neg h, e])
  exact this
theorem fr_name3 {h₀ h : Heap} {L : Addr} {m : Str → Option Value} {x y z : Str} {v u t : Value} (F : Fr h₀ L h m) (e : m x = some v) (e2 : m y = some u) (e3 : m z = some t) : Fr h₀ L h (fun a => if a = x then some v else if a = y then some u else if a = z then some t else m a) := by
  have := fr_name (x := x) (v := v) (fr_name2 F e2 e3) (by
    show (if x = y then some u else if x = z then some t else m x) = some v
    by_cases h : x = y
    · rw [if_pos h, ← e2, ← h, e]
    · rw [if_neg h]
      by_cases h : x = z
      · rw [if_pos h, ← e3, ← h, e]
      · rw [if_neg h, e])
  exact this
theorem cell_apart4 {LL : Nat} {x : Addr} (h : @LT.lt Nat _ (LL + 1 + 1 + 1 + 1) x) : x ≠ LL + 1 + 1 + 1 + 1 := fun e => by
  subst e
  exact Nat.lt_irrefl _ h
end
section
local macro_rules | `(tactic| k_qdec) => `(tactic| decide +kernel)
noncomputable def lawA : (G : Prop) ×' (Kont G → PySem.Challenge.rw_xn0020_01.Holds) := ⟨_, fun hGoal => hd.2 (by
  delta hd kH
  dsimp only
  k_go0
  (all_goals try k_fold)
  rename World => w
  rename Shared => s₁
  iterate 20 walk1
  refine wpAny_For ?_
  (repeat (fail_if_success (with_reducible show wpAny _ _ (call (Value.type "enumerate") [_]) _ _ _)); walk1)
  rename News _ _ _ _ => N
  rename Fr _ _ _ (fun _ => _) => F
  rename_i o4 o3 o2 o1 left2 left1 left0 right0 X0 KO hKO KK1 tk1 hKK1 lc h2 ltc h1 oc hoc KK2 tk2 hKK2 ls svs h0' hsI hsC hsL lts
  obtain ⟨m0, F⟩ : ∃ m0, Fr s₁.heap s₁.heap.objs.size h0' m0 := ⟨_, F⟩
  refine enum_st (fun c : CellS => [(ls, listOf svs.toArray 0), (lc, listOf c.vs.toArray c.k), (s₁.heap.objs.size + 1 + 1 + 1 + 1, o4), (s₁.heap.objs.size + 1 + 1 + 1, o3), (s₁.heap.objs.size + 1 + 1, o2), (s₁.heap.objs.size + 1, oc)]) (fun _ => []) [Str.ofString "place", Str.ofString "number"] cellP ⟨_, [17, 1297, 1353, 1725, 1333, 1830], _⟩ rfl F N (.head _) (fun p hp => nomatch hp) ⟨by repeat constructor, rfl, cells_start⟩ (by passes_own) rfl rfl rfl ?turn ?done
  case turn =>
    rintro i v t ⟨vs, ns, k⟩ u h tk own e it hv ⟨hI, hl, hb⟩ hw ho F2 N2
    obtain ⟨n, tn, rfl, hn⟩ := ints_item hsI hv
    dsimp only [kstB, List.cons_append, List.nil_append] at hI hl hb hw F2 N2 ⊢
    have hi0 := Int.fmod_nonneg_of_pos (i : Int) (b := 6) (by decide)
    have hi1 := Int.fmod_lt_of_pos (i : Int) (b := 6) (by decide)
    iterate 16 walk1
    rename Fr _ _ _ (fun _ => _) => F2
    rename News _ _ _ _ => N2
    have hlo := own_off ho (hw (lc, listOf vs.toArray k) (.tail _ (.head _))) (Ne.symm (Nat.ne_of_lt lts.1))
    refine ksa_set F2 N2 (Upd.tail (Ne.symm (Nat.ne_of_lt lts.1)) (Upd.head (off4 ltc hlo))) hI (by omega) (by omega) (by omega) ?_
    intro h3 F3 N3 hI3 hl3 _
    iterate 2 walk1
    try refine OpK.out (by assumption) ?_
    exact ⟨rfl, ⟨_, _, _⟩, _, _, _, _, rfl, F3, N3, sub6, own6, hw_set hw, (fun p hp => nomatch hp), by ksw_same, cells_step hI3 rfl hl hb⟩
  case done =>
    rintro ⟨cvs, cns, ck⟩ u h tk ⟨hcI, hcl, hcb⟩ F2 N2
    clear F N
    dsimp only [kstB, List.cons_append, List.nil_append] at hcI hcl hcb F2 N2 ⊢
    obtain ⟨m1, F2⟩ : ∃ m1, Fr s₁.heap s₁.heap.objs.size h m1 := ⟨_, F2⟩
    (repeat (fail_if_success (with_reducible show wpAny _ _ (eval (Expr.ListComp _ _ _ _) _) _ _ _)); walk1)
    k_dflt (refine ListComp_K (uF₀ := by k_asm) (by with_unfolding_all rfl) (by decide) (by rfl) (by decide) ?_)
    (repeat (fail_if_success (with_reducible show wpAny _ _ (call (Value.type "enumerate") [_]) _ _ _)); walk1)
    rename Fr _ _ _ _ => F3
    rename News _ _ _ _ => N3
    have hcvl := hcI.length
    refine SrcK.enum (Inv := fun i ys => StrsAre ys (partsTo cns i) ∧ ys.length ≤ i) rfl F3 N3 (.tail _ (.head _)) (by rw [sizeLine_eq]; omega) (by rfl) (by rfl) (by rfl) (by decide) ⟨.nil, Nat.le_refl _⟩ (fun i ys hI => hI.2) ?zturn ?zfin
    case zturn =>
      rintro s₂ ⟨hh2, rfl⟩ i x y ys h tk own C oC D m₂ E' hi ⟨⟨t, rfl⟩, hy⟩ hI hNs hm1 hm2 F4 N4 off
      refine wpAny_tests_nil ?_
      simp only [if_true]
      obtain ⟨n, tn, rfl, hn⟩ := ints_item hcI hy
      (repeat (fail_if_success (with_reducible show wpAny _ _ (call (Value.ref _) _) _ _ _)); walk1)
      refine' use_claim (by k_asm) (by k_asm) (by k_asm) (by k_asm) (by k_asm) (by first | exact rfl | assumption) (claim_toks (text_claim w _ _ _ _ n tn _)) (by ktr_room) (by ktr_units) trivial ?_
      rintro _ _ h12 tk12 F12 N12 sep12 ⟨htk12, hv12, rfl⟩
      refine ⟨h12, tk12, rfl, F12, N12, parts_step hI.1 ?_, by rw [List.length_append, List.length_singleton]; exact Nat.succ_le_succ hI.2⟩
      obtain ⟨t', rfl⟩ := hv12
      exact ⟨t', by rw [List.getD_eq_getElem?_getD, hn, show decide (0 < (i : Int)) = decide (0 < i) by simp]; rfl⟩
    case zfin =>
      intro D h tk zs F11 N11 lt hI
      (repeat (fail_if_success (with_reducible show wpAny _ _ (call (Value.builtin "str.join") [_, _]) _ _ _)); walk1)
      have hz6 := hI.1
      rw [show cvs.length = 6 by omega] at hz6
      refine join_listW ⟨_, (N11 _ (.head _)).1, rfl, _, rfl⟩ (ys := partsTo cns 6) hz6 (by decide) (parts_weight cns) ?_
      intro t5 k5
      dsimp only
      generalize hprog : Txt.join (Str.ofString "&") (partsTo cns 6) = program
      (repeat (fail_if_success (with_reducible show wpAny _ _ (exec (Stmt.For _ _ _ _ _) _) _ _ _)); walk1)
      refine wpAny_For ?_
      (repeat (fail_if_success (with_reducible show wpAny _ _ (call (Value.type "enumerate") [_]) _ _ _)); walk1)
      rename Fr _ _ _ _ => F3
      rename News _ _ _ _ => N3
      rename_i ds hq1 ltd hq2 KKq tkq hKKq
      refine enum_st (fun c : SymS => [(ds, listOf c.vs.toArray c.k), (lc, listOf cvs.toArray ck), (s₁.heap.objs.size + 1 + 1 + 1 + 1, o4), (s₁.heap.objs.size + 1 + 1 + 1, o3), (s₁.heap.objs.size + 1 + 1, o2), (s₁.heap.objs.size + 1, oc)]) (fun _ => [(Str.ofString "symbols", .ref ds)]) [Str.ofString "place", Str.ofString "n", Str.ofString "symbols"] (fun i c => IntsAre c.vs (symsTo cns i)) ⟨[], 0⟩ rfl F3 (fun p hp => N3 p (sub_L2 p hp)) (.tail _ (.head _)) (by kst_all) .nil (by passes_own) rfl rfl rfl ?turn2 ?done2
      case turn2 =>
        rintro i v t ⟨vs, k⟩ u2 h tk own e it hv hI hw ho F4 N4
        obtain ⟨n, tn, rfl, hn⟩ := ints_item hcI hv
        dsimp only [kstB, List.cons_append, List.nil_append] at hI hw F4 N4 ⊢
        have hi6 : i < 6 := by have := (List.getElem?_eq_some_iff.mp hn).1; omega
        have hlo := own_off ho (hw (ds, listOf vs.toArray k) (.head _)) (Nat.ne_of_lt ltd.2.2.1)
        (repeat (fail_if_success (with_reducible show wpAny _ _ (call (Value.ref _) _) _ _ _)); walk1)
        refine' use_claim (by k_asm) (by k_asm) (by k_asm) (by k_asm) (by k_asm) (by first | exact rfl | assumption) (claim_toks (symbols_claim w _ _ _ _ n tn _)) (by ktr_room) (by ktr_units) trivial ?_
        rintro _ _ h5 tk5 F5 N5 sep5 ⟨htk5, a, avs, ak, rfl, rfl, hav⟩
        dsimp only [List.cons_append, List.nil_append] at N5 ⊢
        by_cases h5 : i < 5
        · (repeat (fail_if_success (with_reducible show wpAny _ _ (binaryOp Operator.Add (Value.ref _) (Value.ref _)) _ _ _)); walk1)
          rename Fr _ _ _ _ => F6
          rename News _ _ _ _ => N6
          rename_i bb hq3 lb
          refine kmk_add_ints F6 N6 ⟨_, (N6 _ (.tail _ (.head _))).1, rfl, _, rfl⟩ ⟨_, (N6 _ (.head _)).1, rfl, _, rfl⟩ hav (.cons 19 _ .nil) ?_ (by have := sym_len n (decide (0 < (i : Int))); rw [sizeLine_eq]; simp only [List.length_singleton]; omega)
          intro D2 us h7 F7 N7 lt7 hus
          (repeat (fail_if_success (with_reducible show wpAny _ _ (inplaceOp Operator.Add (Value.ref _) (Value.ref _)) _ _ _)); walk1)
          have hul := hus.length
          have hsl := sym_len n (decide (0 < (i : Int)))
          rw [List.length_append, List.length_singleton] at hul
          refine iadd_K F7 N7 (.head _) rfl (by show us.length ≠ 0; omega) (Upd.tail (Ne.symm (Nat.ne_of_lt (lt7 _ (.tail _ (.tail _ (.head _)))))) (Upd.tail (Ne.symm (Nat.ne_of_lt lb.2.1)) (Upd.tail (Ne.symm (Nat.ne_of_lt (sep5 _ (.head _) _ (.head _)))) (Upd.head (off5 (Nat.ne_of_lt ltd.2.2.1) ltd.2.2.2 hlo))))) (add_hz hI hi6 hus (by rw [List.length_append, List.length_singleton]; omega)) ?_
          intro h8 F8 N8
          iterate 3 walk1
          rename Fr _ _ _ _ => F9
          rename News _ _ _ _ => N9
          try refine OpK.out (by assumption) ?_
          refine ⟨rfl, ⟨vs ++ us, k + 1⟩, _, _, _, _, rfl, F9, N9, (fun p hp => sub_3 p (sub6 p hp)), (fun p hp => sub_3 p (own6 p hp)), hw_head hw, by kst_all, by ksw_same, ?_⟩
          show IntsAre (vs ++ us) (symsTo cns (i + 1))
          rw [syms_snoc, if_pos h5]
          refine ints_append hI ?_
          rw [List.getD_eq_getElem?_getD, hn, show decide (0 < i) = decide (0 < (i : Int)) by simp]
          exact hus
        · (repeat (fail_if_success (with_reducible show wpAny _ _ (binaryOp Operator.Add (Value.ref _) (Value.ref _)) _ _ _)); walk1)
          rename Fr _ _ _ _ => F6
          rename News _ _ _ _ => N6
          rename_i bb hq3 lb
          refine kmk_add_ints F6 N6 ⟨_, (N6 _ (.tail _ (.head _))).1, rfl, _, rfl⟩ ⟨_, (N6 _ (.head _)).1, rfl, _, rfl⟩ hav (.cons 0 _ .nil) ?_ (by have := sym_len n (decide (0 < (i : Int))); rw [sizeLine_eq]; simp only [List.length_singleton]; omega)
          intro D2 us h7 F7 N7 lt7 hus
          (repeat (fail_if_success (with_reducible show wpAny _ _ (inplaceOp Operator.Add (Value.ref _) (Value.ref _)) _ _ _)); walk1)
          have hul := hus.length
          have hsl := sym_len n (decide (0 < (i : Int)))
          rw [List.length_append, List.length_singleton] at hul
          refine iadd_K F7 N7 (.head _) rfl (by show us.length ≠ 0; omega) (Upd.tail (Ne.symm (Nat.ne_of_lt (lt7 _ (.tail _ (.tail _ (.head _)))))) (Upd.tail (Ne.symm (Nat.ne_of_lt lb.2.1)) (Upd.tail (Ne.symm (Nat.ne_of_lt (sep5 _ (.head _) _ (.head _)))) (Upd.head (off5 (Nat.ne_of_lt ltd.2.2.1) ltd.2.2.2 hlo))))) (add_hz hI hi6 hus (by rw [List.length_append, List.length_singleton]; omega)) ?_
          intro h8 F8 N8
          iterate 3 walk1
          rename Fr _ _ _ _ => F9
          rename News _ _ _ _ => N9
          try refine OpK.out (by assumption) ?_
          refine ⟨rfl, ⟨vs ++ us, k + 1⟩, _, _, _, _, rfl, F9, N9, (fun p hp => sub_3 p (sub6 p hp)), (fun p hp => sub_3 p (own6 p hp)), hw_head hw, by kst_all, by ksw_same, ?_⟩
          show IntsAre (vs ++ us) (symsTo cns (i + 1))
          rw [syms_snoc, if_neg h5]
          refine ints_append hI ?_
          rw [List.getD_eq_getElem?_getD, hn, show decide (0 < i) = decide (0 < (i : Int)) by simp]
          exact hus
      case done2 =>
        rintro ⟨yvs, yk⟩ u3 h tk hyI F4 N4
        rw [show cvs.length = 6 by omega] at hyI
        clear F3 N3
        dsimp only [kstB, List.cons_append, List.nil_append] at hyI F4 N4 ⊢
        have hpl : program.length ≤ 80 := hprog ▸ prog_len cns
        iterate 13 walk1
        have hk0 := Int.fmod_nonneg_of_pos cns.sum (b := 5) (by decide)
        have hk5 := Int.fmod_lt_of_pos cns.sum (b := 5) (by decide)
        generalize hhand : cns.sum.fmod 5 = hand at hk0 hk5 ⊢
        (repeat (fail_if_success (with_reducible show wpAny _ _ (subscriptTail _ _ _ _) _ _ _)); walk1)
        obtain ⟨fe, hfe, hfk, hesc⟩ := esc_claim w _ _ _ hk0 hk5
        rename News _ _ _ _ => N6
        refine item_tupleT (News.isTup N6 (.head _)) (by omega) (by omega) (seqIdx (n := 5) hk0 hk5) hfe ?_
        k_dflt (refine' callWith_K ?k1 hfk ?_)
        case k1 => k_asm
        (repeat (fail_if_success (with_reducible show wpAny _ _ (call (Value.ref _) _) _ _ _)); walk1)
        refine' use_claim (by k_asm) (by k_asm) (by k_asm) (by k_asm) (by k_asm) (by first | exact rfl | assumption) (claim_toks (hesc _ program _ hpl)) (by ktr_room) (by ktr_units) trivial ?_
        rintro _ _ h5 tk5 F5 N5 sep5 ⟨htk5, ⟨tp, rfl⟩, rfl⟩
        dsimp only [List.nil_append] at N5 ⊢
        (repeat (fail_if_success (with_reducible show wpAny _ _ (eval (Expr.IfExp _ _ _ _) _) _ _ _)); walk1)
        refine join_val (fun v => ∃ t, v = .str (ltOf hand) t) ?lt1 ?_
        case lt1 =>
          iterate 7 walk1
          · walk1
            exact ⟨⟨_, by rw [ltOf, if_pos (by assumption)]⟩, _, rfl⟩
          · walk1
            exact ⟨⟨_, by rw [ltOf, if_neg (by assumption)]⟩, _, rfl⟩
        rintro _ tk6 ⟨tl, rfl⟩
        (repeat (fail_if_success (with_reducible show wpAny _ _ (eval (Expr.IfExp _ _ _ _) _) _ _ _)); walk1)
        refine join_val (fun v => ∃ t, v = .str (gtOf hand) t) ?gt1 ?_
        case gt1 =>
          iterate 7 walk1
          · walk1
            exact ⟨⟨_, by rw [gtOf, if_pos (by assumption)]⟩, _, rfl⟩
          · walk1
            exact ⟨⟨_, by rw [gtOf, if_neg (by assumption)]⟩, _, rfl⟩
        rintro _ tk7 ⟨tg, rfl⟩
        (repeat (fail_if_success (with_reducible show wpAny _ _ (eval (Expr.ListComp _ _ _ _) _) _ _ _)); walk1)
        k_dflt (refine ListComp_K (uF₀ := by k_asm) (by with_unfolding_all rfl) (by decide) (by rfl) (by decide) ?_)
        walk1
        rename Fr _ _ _ _ => F8
        rename News _ _ _ _ => N8
        rename Obj.IsDictOf _ _ _ => htab
        rename Obj => ot
        rename _ = Data.cell (some (Value.ref _)) => hot
        refine SrcK.text (Inv := fun i ys => StrsAre ys (tabTo hand program i) ∧ ys.length ≤ i) rfl F8 N8 (by have : program.cps.size ≤ 80 := hpl; rw [sizeLine_eq]; omega) (by rfl) (by rfl) ⟨.nil, Nat.le_refl _⟩ (fun i ys hI => hI.2) ?tturn ?tfin
        case tturn =>
          rintro s₂ ⟨hh2, rfl⟩ i x ys h tk own C oC D m₂ E' hi ⟨c, tc, hc, rfl⟩ hI hNs hm1 F9 N9 off
          refine wpAny_tests_nil ?_
          simp only [if_true]
          (repeat (fail_if_success (with_reducible show wpAny _ _ (call (Value.builtin "dict.get") [_, _, _]) _ _ _)); walk1)
          refine sdict_getD (N9 _ (.tail _ (.tail _ (.head _)))).1 htab (by assumption) ?_
          exact ⟨_, _, rfl, F9, N9, tab_step hc hI.1 tab_val, by rw [List.length_append, List.length_singleton]; exact Nat.succ_le_succ hI.2⟩
        case tfin =>
          intro D h tk zs F11 N11 lt hI
          (repeat (fail_if_success (with_reducible show wpAny _ _ (call (Value.builtin "str.join") [_, _]) _ _ _)); walk1)
          refine join_listW ⟨_, (N11 _ (.head _)).1, rfl, _, rfl⟩ hI.1 (by decide) (tab_weight' hk0 hk5 hpl) ?_
          intro t6 k6
          rw [show Txt.join (Str.ofString "") (tabTo hand program program.cps.size) = pageOf hand program by rw [← hprog]; exact page_tab cns hk0 hk5]
          (repeat (fail_if_success (with_reducible show wpAny _ _ (compareOp CmpOp.NotEq _ _) _ _ _)); walk1)
          iterate 3 walk1
          · rename (_ != _) = true => hq
            simp at hq
          (repeat (fail_if_success (with_reducible show wpAny _ _ (call (Value.ref _) _) _ _ _)); walk1)
          have hpl1 := page_len cns hk0 hk5
          have hpl3 := prog_len3 cns
          have hbp := bare_page cns hk0 hk5
          have hrp := row_prog cns
          have hps := prog_signs cns
          dsimp only [progOf] at hpl1 hpl3 hbp hrp hps
          rw [hprog] at hpl1 hpl3 hbp hrp hps
          refine' use_claim (by k_asm) (by k_asm) (by k_asm) (by k_asm) (by k_asm) (by first | exact rfl | assumption) (claim_toks (bare_claim w _ _ _ _ (pageOf hand program) _ hpl1.2 hpl1.1 program (by omega) (Nat.le_trans (cut_len _) hpl1.2) hbp)) (by ktr_room) (by ktr_units) trivial ?_
          rintro _ _ h5 tk5 F5 N5 sep5 ⟨htk5, ⟨tq, rfl⟩, rfl⟩
          dsimp only [List.nil_append] at N5 ⊢
          (repeat (fail_if_success (with_reducible show wpAny _ _ (call (Value.ref _) _) _ _ _)); walk1)
          refine' use_claim (by k_asm) (by k_asm) (by k_asm) (by k_asm) (by k_asm) (by first | exact rfl | assumption) (claim_toks (row_claim w _ _ _ _ program _ (by omega) hpl3 (Nat.le_trans (cut_len _) (by omega)) hps)) (by ktr_room) (by ktr_units) trivial ?_
          rintro _ _ h6 tk6 F6 N6 sep6 ⟨htk6, ra, rvs, rk, rfl, rfl, hrI⟩
          dsimp only [List.cons_append, List.nil_append] at N6 ⊢
          rw [hrp] at hrI
          (repeat (fail_if_success (with_reducible show wpAny _ _ (compareOp CmpOp.NotEq _ _) _ _ _)); walk1)
          rename Fr _ _ _ _ => FA
          rename News _ _ _ _ => NA
          refine' ne_intsK ⟨_, (NA (ra, listOf rvs.toArray rk) (.head _)).1, rfl, _, rfl⟩ hrI ⟨_, (NA (ds, listOf yvs.toArray yk) (by simp)).1, rfl, _, rfl⟩ hyI (by ktr_units) ?_
          rw [show (!decide (symsTo cns 6 = symsTo cns 6)) = false by simp]
          obtain ⟨m6, F⟩ : ∃ m6 : Str → Option Value, Fr s₁.heap s₁.heap.objs.size _ (fun y => if y = Str.ofString "row" then some (.ref ra) else m6 y) := ⟨_, fr_name FA rfl⟩
          have N : News s₁.heap s₁.heap.objs.size _ [(ra, listOf rvs.toArray rk), (lc, listOf cvs.toArray ck), (s₁.heap.objs.size + 1 + 1 + 1 + 1, o4), (s₁.heap.objs.size + 1 + 1 + 1, o3), (s₁.heap.objs.size + 1 + 1, ot), (s₁.heap.objs.size + 1, oc)] := fun p hp => NA p (by simp only [List.mem_cons, List.not_mem_nil, or_false] at hp ⊢; grind)
          clear FA NA
          have key : Kont (∃ (ra : Addr) (rvs : List Value) (rk : Nat) (lc : Addr) (cvs : List Value) (cns : List Int) (ck : Nat) (o4 o3 o2 oc : Obj) (m6 : Str → Option Value), Fr s₁.heap s₁.heap.objs.size _ (fun y => if y = Str.ofString "row" then some (.ref ra) else m6 y) ∧
              News s₁.heap s₁.heap.objs.size _ [(ra, listOf rvs.toArray rk), (lc, listOf cvs.toArray ck), (s₁.heap.objs.size + 1 + 1 + 1 + 1, o4), (s₁.heap.objs.size + 1 + 1 + 1, o3), (s₁.heap.objs.size + 1 + 1, o2), (s₁.heap.objs.size + 1, oc)] ∧ IntsAre cvs cns ∧ cns.length = 6 ∧ (∀ n ∈ cns, 0 ≤ n) ∧ oc.data = .cell (some (.ref lc)) ∧ (∃ v, o4.data = .cell v) ∧ (∃ v, o3.data = .cell v) ∧ (∃ v, o2.data = .cell v) ∧ IntsAre rvs (symsTo cns 6) ∧
              ((@LT.lt Nat _ (s₁.heap.objs.size + 1 + 1 + 1 + 1) lc) ∧ (@LT.lt Nat _ (s₁.heap.objs.size + 1 + 1 + 1) lc) ∧ (@LT.lt Nat _ (s₁.heap.objs.size + 1 + 1) lc) ∧ (@LT.lt Nat _ (s₁.heap.objs.size + 1) lc))) :=
            ⟨⟨ra, rvs, rk, lc, cvs, cns, ck, o4, o3, ot, oc, m6, F, N, hcI, hcl, fun n hn => (hcb n hn).1, hoc, ⟨_, left2⟩, ⟨_, left1⟩, ⟨_, hot⟩, hrI, ltc⟩⟩
          clear F N
          rename NxK _ _ _ _ _ _ _ => hKnow
          revert hKnow
          repeat (rename NxK _ _ _ _ _ _ _ => zK; clear zK)
          repeat (rename_i zz; revert zz)
          try revert ek
          try revert qk
          try revert key
          try revert m6
          try revert NA
          try revert FA
          try revert hrI
          try revert rk
          try revert rvs
          try revert ra
          try revert htk6
          try revert sep6
          try revert F6
          try revert h6
          try revert tq
          try revert hps
          try revert hrp
          try revert hbp
          try revert hpl3
          try revert hpl1
          try revert hq
          try revert k6
          try revert t6
          try revert hot
          try revert ot
          try revert htab
          try revert N8
          try revert F8
          try revert tg
          try revert tk7
          try revert tl
          try revert tk6
          try revert tp
          try revert htk5
          try revert sep5
          try revert N5
          try revert F5
          try revert tk5
          try revert h5
          try revert N6
          try revert hesc
          try revert hfk
          try revert hfe
          try revert fe
          try revert hhand
          try revert hand
          try revert hk5
          try revert hk0
          try revert hpl
          try revert N4
          try revert F4
          try revert hyI
          try revert u3
          try revert yk
          try revert yvs
          try revert htkq
          try revert tkq
          try revert hgeq
          try revert hq2
          try revert ltd
          try revert hq1
          try revert ds
          try revert hprog
          try revert program
          try revert k5
          try revert t5
          try revert hz6
          try revert hI
          try revert lt
          try revert N11
          try revert F11
          try revert zs
          try revert D
          try revert hcvl
          try revert N3
          try revert F3
          try revert N2
          try revert F2
          try revert m1
          try revert hcb
          try revert hcl
          try revert hcI
          try revert tk
          try revert h
          try revert u
          try revert ck
          try revert cns
          try revert cvs
          try revert N
          try revert F
          try revert m0
          try revert lts
          try revert hsL
          try revert hsC
          try revert hsI
          try revert h0'
          try revert svs
          try revert ls
          try revert htk2
          try revert tk2
          try revert hge1
          try revert hoc
          try revert oc
          try revert h1
          try revert ltc
          try revert h2
          try revert lc
          try revert htk1
          try revert tk1
          try revert X0
          try revert right0
          try revert left0
          try revert left1
          try revert left2
          try revert o1
          try revert o2
          try revert o3
          try revert o4
          try revert hKKq
          try revert KKq
          try revert hKK2
          try revert KK2
          try revert hKK1
          try revert KK1
          try revert hKO
          try revert KO
          try revert s₁
          try revert w
          exact hGoal.out)⟩
noncomputable def lawB : (G : Prop) ×' (Kont G → lawA.1) := ⟨_, fun hGoal => by
  delta lawA
  k_fill
  intro w s₁
  intros
  rename Kont _ => key0
  repeat (rename Fr _ _ _ _ => zF; clear zF)
  repeat (rename News _ _ _ _ => zN; clear zN)
  repeat (rename CarriedAll _ _ => zC; clear zC)
  repeat (rename PyProof.V.FlatPairs _ _ _ => zC; clear zC)
  obtain ⟨ra, rvs, rk, lc, cvs, cns, ck, o4, o3, o2, oc, m6, F, N, hcI, hcl, hcb, hoc, ⟨v4, ho4⟩, ⟨v3, ho3⟩, ⟨v2, ho2⟩, hrI, ltc⟩ := key0.out
  clear key0
  (repeat (fail_if_success (with_reducible show wpAny _ _ (exec _ _) _ _ _)); walk1)
  k_dflt (refine Assign_ListComp_pts (uF₀ := by k_asm) (by rfl) (by with_unfolding_all rfl) (by with_unfolding_all rfl) (by decide) (by rfl) (by decide) (by rfl) (by rfl) (by decide) (by rfl) (by rfl) ?_)
  (repeat (fail_if_success (with_reducible show wpAny _ _ (call (Value.type "range") _) _ _ _)); walk1)
  walk1
  refine ⟨_, _, _, _, _, rfl, rfl, by assumption, by assumption, by assumption, ?inner, ?elem, ?pfin⟩
  case inner =>
    rintro s₂ ⟨g, rfl⟩ h tk C led E' F2 N2
    dsimp only
    (repeat (fail_if_success (with_reducible show wpAny _ _ (call (Value.type "range") _) _ _ _)); walk1)
    walk1
    exact ⟨_, _, _, _, _, _, rfl, rfl, by assumption, by assumption, by assumption⟩
  case elem =>
    rintro s₂ ⟨g, rfl⟩ h tk C oC led m₂ i j ti tj E' F2 N2 hNs hm1 hm2
    dsimp only
    iterate 7 walk1
    rename_i T0 hq0 lq0
    exact ⟨_, _, _, rfl, rfl, allLt_mem (l := (C, oC) :: led) lq0, by assumption, by assumption⟩
  case pfin =>
    intro Dp h tk pys tl F2 N2 lt ltl hP
    replace N2 := fun p hp => N2 p (sub_pts p hp)
    have hyl := hP.1
    (repeat (fail_if_success (with_reducible show wpAny _ _ (eval (Expr.ListComp _ _ _ _) _) _ _ _)); walk1)
    k_dflt (refine ListComp_K (uF₀ := by k_asm) (by with_unfolding_all rfl) (by decide) (by rfl) (by decide) ?_)
    walk1
    rename Fr _ _ _ _ => F3
    rename News _ _ _ _ => N3
    refine SrcK.pairs (Inv := fun i zs => IntsAre zs (pCol i) ∧ zs.length ≤ i) (Pv := fun i x y => ∃ t u, x = .int ((i / 4 : Nat) : Int) t ∧ y = .int ((i % 4 : Nat) : Int) u) rfl F3 N3 (.head _) (by rw [hyl, sizeLine_eq]; omega) (by rfl) (by rfl) (by rfl) (by decide) (pts_at hP (fun p hp => .tail _ (.tail _ (.tail _ (.tail _ (.tail _ (.tail _ (.tail _ hp)))))))) ⟨.nil, Nat.le_refl _⟩ (fun i ys hI => hI.2) ?p1 ?f1
    case p1 =>
      rintro s₂ ⟨hh2, rfl⟩ i x y ys h tk own C oC D m₂ E' hi ⟨t, u, rfl, rfl⟩ hI hNs hm1 hm2 F4 N4 off
      refine wpAny_tests_nil ?_
      simp only [if_true]
      walk1
      exact ⟨_, _, rfl, F4, N4, by rw [pCol_snoc]; exact ints_snoc hI.1 ⟨_, rfl⟩, by rw [List.length_append, List.length_singleton]; exact Nat.succ_le_succ hI.2⟩
    case f1 =>
      intro A1 h tk as F4 N4 ltA hA
      rw [hyl] at hA
      (repeat (fail_if_success (with_reducible show wpAny _ _ (eval (Expr.ListComp _ _ _ _) _) _ _ _)); walk1)
      k_dflt (refine ListComp_K (uF₀ := by k_asm) (by with_unfolding_all rfl) (by decide) (by rfl) (by decide) ?_)
      walk1
      rename Fr _ _ _ _ => F5
      rename News _ _ _ _ => N5
      refine SrcK.pairs (Inv := fun i zs => IntsAre zs (qCol i) ∧ zs.length ≤ i) (Pv := fun i x y => ∃ t u, x = .int ((i / 4 : Nat) : Int) t ∧ y = .int ((i % 4 : Nat) : Int) u) rfl F5 N5 (.tail _ (.head _)) (by rw [hyl, sizeLine_eq]; omega) (by rfl) (by rfl) (by rfl) (by decide) (pts_at hP (fun p hp => .tail _ (.tail _ (.tail _ (.tail _ (.tail _ (.tail _ (.tail _ (.tail _ hp))))))))) ⟨.nil, Nat.le_refl _⟩ (fun i ys hI => hI.2) ?p2 ?f2
      case p2 =>
        rintro s₂ ⟨hh2, rfl⟩ i x y ys h tk own C oC D m₂ E' hi ⟨t, u, rfl, rfl⟩ hI hNs hm1 hm2 F4 N4 off
        refine wpAny_tests_nil ?_
        simp only [if_true]
        walk1
        exact ⟨_, _, rfl, F4, N4, by rw [qCol_snoc]; exact ints_snoc hI.1 ⟨_, rfl⟩, by rw [List.length_append, List.length_singleton]; exact Nat.succ_le_succ hI.2⟩
      case f2 =>
        intro A2 h tk bs F6 N6 ltB hB
        rw [hyl] at hB
        (repeat (fail_if_success (with_reducible show wpAny _ _ (eval (Expr.ListComp _ _ _ _) _) _ _ _)); walk1)
        k_dflt (refine LCg.ListComp_U (F₀ := by k_asm) (by with_unfolding_all rfl) (by decide) (by rfl) (by decide) (by rfl) ?_)
        (repeat (fail_if_success (with_reducible show wpAny _ _ (call (Value.type "range") _) _ _ _)); walk1)
        walk1
        rename Fr _ _ _ _ => F7
        rename News _ _ _ _ => N7
        refine LCg.CompSrc.range rfl F7 N7 (by assumption) (by decide) (n := 10) (by decide) (by decide) fun g9 => rest_U 10 (fun i ys nw => ∃ cl, nw = cl ++ _ ∧ RefsAre cl ys ((List.range i).map fun (k : Nat) => Col.ints (List.replicate 16 ((k : Nat) : Int)))) ?kt ?kf 10 0 [] _ rfl ⟨[], rfl, .nil⟩
        case kt =>
          rintro i ys nw hi ⟨cl, rfl, hys⟩ v I oI C oC D m₂ h tk E' ⟨t, rfl⟩ hNs hx F8 N8 off ne
          iterate 7 walk1
          rename Fr _ _ _ _ => F9
          rename News _ _ _ _ => N9
          refine KM.mul F9 N9 ⟨_, (N9 _ (.head _)).1, rfl, _, rfl⟩ (vs := [.int (0 + (i : Int)) t]) (.cons _ _ .nil) (by decide) (by decide) (Nat.le_of_ble_eq_true rfl) ?_
          intro D2 h9 F10 N10 lt9 hI9 _ _ _ _ _
          refine LCg.CompEnd.intro F10 N10 ((D2, _) :: (cl ++ _)) (fun p hp => sub_kt p hp) ⟨⟨?o1, ?o2, ?o3⟩, off⟩ trivial ⟨_ :: cl, rfl, ?o4⟩
          case o1 => exact Ne.symm (Nat.ne_of_lt (lt9 (I, oI) (.tail _ (.head _))))
          case o2 => exact Ne.symm (Nat.ne_of_lt (lt9 (C, oC) (.tail _ (.tail _ (.head _)))))
          case o3 => exact Ne.symm (Nat.ne_of_lt (lt9 (D, LCg.lst ys) (.tail _ (.tail _ (.tail _ (.head _))))))
          case o4 =>
            rw [range_map_snoc]
            exact (hys.mono fun p hp => .tail _ hp).snoc (.head _) (rep_col (x := .none) hI9)
        case kf =>
          rintro ys nw ⟨cl, rfl, hys⟩
          intro D h tk F8 N8 off
          have hyl2 := hys.length
          rw [List.length_map, List.length_range] at hyl2
          refine add_lists F8 N8 ⟨_, (N8 _ (.tail _ (List.mem_append_right _ (.head _)))).1, rfl, _, rfl⟩ ⟨_, (N8 _ (.head _)).1, rfl, _, rfl⟩ (vs := [.ref A1, .ref A2]) (ws := ys) ?_ (by rw [sizeLine_eq, hyl2]; simp)
          intro h9 F9 N9
          dsimp only at F9 N9 ⊢
          (repeat (fail_if_success (with_reducible show wpAny _ _ (call (Value.ref _) _) _ _ _)); walk1)
          rename News _ _ _ _ => NA
          have hsl := syms_len cns 6
          refine' use_claim (by k_asm) (by k_asm) (by k_asm) NA (by k_asm) (by first | exact rfl | assumption) (claim_toks ?hrc) ?room ?unit ?ppre ?_
          case hrc => exact run_claim w _ _ _ _ ra h.objs.size rvs ([.ref A1, .ref A2] ++ ys) rk 0 (.tail _ (.tail _ (List.mem_append_right _ (.tail _ (.tail _ (.tail _ (.tail _ (.head _)))))))) (.head _) (symsTo cns 6) hrI (by omega) worthCols (.cons (k := as.length) (.tail _ (.tail _ (List.mem_append_right _ (.tail _ (.tail _ (.head _)))))) (show ColIs as (.ints (pCol 16)) from hA.1) (.cons (k := bs.length) (.tail _ (.tail _ (List.mem_append_right _ (.tail _ (.head _))))) (show ColIs bs (.ints (qCol 16)) from hB.1) (hys.mono fun p hp => .tail _ (.tail _ (List.mem_append_left _ hp))))) (by decide) (resOf cns) (runs_prog cns hcl hcb)
          case ppre => trivial
          case room => ktr_room
          case unit => ktr_units
          rintro _ _ h10 tk10 F10 N10 sep10 ⟨htk10, TT, tvs, tn, cols, rfl, rfl, hT⟩
          dsimp only at F10 N10 ⊢
          iterate 2 walk1
          rename Fr _ _ _ _ => FB
          rename News _ _ _ _ => NB
          obtain ⟨R, NC, hRo, hRT, hRP⟩ := ckC (Dp := Dp) (pobj := LCg.lst pys) (lc := lc) (lobj := listOf cvs.toArray ck) (c4 := s₁.heap.objs.size + 1 + 1 + 1 + 1) (o4 := o4) (c3 := s₁.heap.objs.size + 1 + 1 + 1) (o3 := o3) (c2 := s₁.heap.objs.size + 1 + 1) (o2 := o2) (c1 := s₁.heap.objs.size + 1) (o1 := oc) NB hT hP (by intro p hp; simp [hp]) (by simp) (by simp) (by simp) (by simp) (by simp) (by simp) ⟨_, ho4⟩ ⟨_, ho3⟩ ⟨_, ho2⟩ ⟨_, hoc⟩
          clear NB
          (repeat (fail_if_success (with_reducible show wpAny _ _ (exec _ _) _ _ _)); walk1)
          obtain ⟨t0, hc0⟩ := ints_at hcI (i := 0) (by omega)
          have hc0' : cvs[(0 : Int).toNat]? = some (.int (cns.getD 0 0) t0) := hc0
          k_dflt (refine Assign_ListComp_K (uF₀ := by k_asm) (by rfl) (by with_unfolding_all rfl) (by with_unfolding_all rfl) (by decide) (by rfl) (by decide) (by rfl) (by rfl) ?_)
          walk1
          rename Fr _ _ _ _ => F3
          rename News _ _ _ _ => N3
          refine SrcK.pairs (Inv := fun i zs => IntsAre zs ((goalL (cns.getD 0 0)).take i) ∧ zs.length ≤ i) (Pv := fun i x y => ∃ t u, x = .int ((i / 4 : Nat) : Int) t ∧ y = .int ((i % 4 : Nat) : Int) u) rfl F3 N3 (.tail _ (.head _)) (by rw [hyl, sizeLine_eq]; omega) (by rfl) (by rfl) (by rfl) (by decide) (pts_at hRP (fun p hp => .tail _ (.tail _ (.tail _ (.tail _ (.tail _ (.tail _ (.tail _ hp)))))))) ⟨.nil, Nat.le_refl _⟩ (fun i ys hI => hI.2) ?g1 ?g2
          case g1 =>
            rintro s₂ ⟨hh2, rfl⟩ i x y ys h tk own C oC D m₂ E' hi ⟨t, u, rfl, rfl⟩ hI hNs hm1 hm2 F4 N4 off
            rw [hyl] at hi
            refine wpAny_tests_nil ?_
            simp only [if_true]
            have hlcm : News _ _ _ _ := N4
            (repeat (fail_if_success (with_reducible show wpAny _ _ (subscriptTail _ _ _ _) _ _ _)); walk1)
            refine item_listL ⟨_, (hlcm (lc, listOf cvs.toArray ck) (.tail _ (.tail _ (.tail _ (.tail _ (.head _)))))).1, rfl, _, rfl⟩ (by decide) (by decide) hc0' ?_
            have b1 := Int.fmod_nonneg_of_pos (cns.getD 0 0) (b := 4) (by decide)
            have b2 := Int.fmod_lt_of_pos (cns.getD 0 0) (b := 4) (by decide)
            have b3 := Int.fmod_nonneg_of_pos ((cns.getD 0 0).fdiv 4) (b := 7) (by decide)
            have b4 := Int.fmod_lt_of_pos ((cns.getD 0 0).fdiv 4) (b := 7) (by decide)
            have b5 : ((i / 4 : Nat) : Int) ≤ 3 := by omega
            have b6 : ((i % 4 : Nat) : Int) ≤ 3 := by omega
            (repeat (fail_if_success (with_reducible show wpAny _ _ (subscriptTail _ _ _ _) _ _ _)); walk1)
            refine item_listL ⟨_, (hlcm (lc, listOf cvs.toArray ck) (.tail _ (.tail _ (.tail _ (.tail _ (.head _)))))).1, rfl, _, rfl⟩ (by decide) (by decide) hc0' ?_
            iterate 9 walk1
            exact ⟨_, _, rfl, F4, N4, goal_step hI.1 hi, by rw [List.length_append, List.length_singleton]; exact Nat.succ_le_succ hI.2⟩
          case g2 =>
            intro G h tk gs F4 N4 ltG hG
            refine ⟨G, gs, _, rfl, ltG, F4, N4, fun h tk F5 N5 => ?_⟩
            have hgI := hG.1
            rw [hyl, List.take_of_length_le (by rw [goal_len]; exact Nat.le_refl _)] at hgI
            dsimp only
            obtain ⟨ta, tws, tk0, hta, htam, htac⟩ := hRT.at (i := 0) (c := .ints (goalL (cns.getD 0 0))) rfl
            (repeat (fail_if_success (with_reducible show wpAny _ _ (subscriptTail _ _ _ _) _ _ _)); walk1)
            rename News _ _ _ _ => N6
            refine item_listL ⟨_, (N6 (TT, listOf tvs.toArray tn) (.tail _ (.head _))).1, rfl, _, rfl⟩ (by decide) (by decide) (show tvs[(0 : Int).toNat]? = some (.ref ta) from hta) ?_
            (repeat (fail_if_success (with_reducible show wpAny _ _ (compareOp CmpOp.NotEq _ _) _ _ _)); walk1)
            refine' ne_intsK ⟨_, (N6 (ta, listOf tws.toArray tk0) (.tail _ (.tail _ (.tail _ (.tail _ (.tail _ (.tail _ (.tail _ (.tail _ htam))))))))).1, rfl, _, rfl⟩ htac ⟨_, (N6 (G, LCg.lst gs) (.head _)).1, rfl, _, rfl⟩ hgI (by ktr_units) ?_
            rw [show (!decide (goalL (cns.getD 0 0) = goalL (cns.getD 0 0))) = false by simp]
            rename Fr _ _ _ _ => FA
            obtain ⟨m7, F⟩ : ∃ m7 : Str → Option Value, Fr s₁.heap s₁.heap.objs.size _ (fun y => if y = Str.ofString "goal" then some (.ref G) else if y = Str.ofString "told" then some (.ref TT) else if y = Str.ofString "points" then some (.ref Dp) else m7 y) := ⟨_, fr_name3 FA rfl rfl rfl⟩
            have N := N6
            clear FA
            have hRo := hRo
            have hlt : ∀ x ∈ [G, TT, Dp, lc], @LT.lt Nat _ (s₁.heap.objs.size + 1 + 1 + 1 + 1) x := fun x hx => by
              simp only [List.mem_cons, List.not_mem_nil, or_false] at hx
              rcases hx with rfl | rfl | rfl | rfl
              · exact ltG (s₁.heap.objs.size + 1 + 1 + 1 + 1, o4) (.tail _ (.tail _ (.tail _ (.head _))))
              · exact sep10 (s₁.heap.objs.size + 1 + 1 + 1 + 1, o4) (by simp) _ (.head _)
              · exact lt (s₁.heap.objs.size + 1 + 1 + 1 + 1, o4) (.tail _ (.tail _ (.head _)))
              · exact ltc.1
            have key : Kont (∃ (G : Addr) (gs : List Value) (TT : Addr) (tvs : List Value) (tn : Nat) (Dp : Addr) (pys : List Value) (lc : Addr) (cvs : List Value) (cns : List Int) (ck : Nat) (o4 o3 o2 oc : Obj) (R : List (Addr × Obj)) (m6 : Str → Option Value),
                Fr s₁.heap s₁.heap.objs.size _ (fun y => if y = Str.ofString "goal" then some (.ref G) else if y = Str.ofString "told" then some (.ref TT) else if y = Str.ofString "points" then some (.ref Dp) else m6 y) ∧
                News s₁.heap s₁.heap.objs.size _ ((G, LCg.lst gs) :: (TT, listOf tvs.toArray tn) :: (Dp, LCg.lst pys) :: (lc, listOf cvs.toArray ck) :: (s₁.heap.objs.size + 1 + 1 + 1 + 1, o4) :: (s₁.heap.objs.size + 1 + 1 + 1, o3) :: (s₁.heap.objs.size + 1 + 1, o2) :: (s₁.heap.objs.size + 1, oc) :: R) ∧ IntsAre cvs cns ∧ cns.length = 6 ∧ (∀ n ∈ cns, 0 ≤ n) ∧ oc.data = .cell (some (.ref lc)) ∧ (∃ v, o4.data = .cell v) ∧ (∃ v, o3.data = .cell v) ∧ IntsAre gs (goalL (cns.getD 0 0)) ∧ RefsAre R tvs (resOf cns) ∧ PtsTo 16 pys R ∧
                (∀ p ∈ R, p.1 ∉ [s₁.heap.objs.size + 1 + 1 + 1 + 1, s₁.heap.objs.size + 1 + 1 + 1, s₁.heap.objs.size + 1 + 1, s₁.heap.objs.size + 1]) ∧
                (∀ x ∈ [G, TT, Dp, lc], @LT.lt Nat _ (s₁.heap.objs.size + 1 + 1 + 1 + 1) x)) :=
              ⟨⟨G, gs, TT, tvs, tn, Dp, pys, lc, cvs, cns, ck, o4, o3, o2, oc, R, m7, F, N, hcI, hcl, hcb, hoc, ⟨_, ho4⟩, ⟨_, ho3⟩, hgI, hRT, hRP, hRo, hlt⟩⟩
            clear F N
            rename NxK _ _ _ _ _ _ _ => hKnow
            revert hKnow
            repeat (rename NxK _ _ _ _ _ _ _ => zK; clear zK)
            repeat (rename_i zz; revert zz)
            try revert ek
            try revert qk
            try revert key
            try revert hlt
            try revert m7
            try revert htac
            try revert htam
            try revert hta
            try revert tk0
            try revert tws
            try revert ta
            try revert hgI
            try revert hG
            try revert ltG
            try revert gs
            try revert G
            try revert hc0'
            try revert hc0
            try revert t0
            try revert hRP
            try revert hRT
            try revert hRo
            try revert NC
            try revert R
            try revert NB
            try revert FB
            try revert hT
            try revert cols
            try revert tn
            try revert tvs
            try revert TT
            try revert htk10
            try revert sep10
            try revert N10
            try revert F10
            try revert tk10
            try revert h10
            try revert hsl
            try revert NA
            try revert N9
            try revert F9
            try revert h9
            try revert hyl2
            try revert off
            try revert N8
            try revert F8
            try revert D
            try revert hys
            try revert cl
            try revert ys
            try revert N7
            try revert F7
            try revert hB
            try revert ltB
            try revert N6
            try revert F6
            try revert bs
            try revert A2
            try revert N5
            try revert F5
            try revert hA
            try revert ltA
            try revert N4
            try revert F4
            try revert as
            try revert A1
            try revert N3
            try revert F3
            try revert hyl
            try revert hP
            try revert ltl
            try revert lt
            try revert N2
            try revert F2
            try revert tl
            try revert pys
            try revert tk
            try revert h
            try revert Dp
            try revert ltc
            try revert hrI
            try revert ho2
            try revert v2
            try revert ho3
            try revert v3
            try revert ho4
            try revert v4
            try revert hoc
            try revert hcb
            try revert hcl
            try revert hcI
            try revert N
            try revert F
            try revert m6
            try revert oc
            try revert o2
            try revert o3
            try revert o4
            try revert ck
            try revert cns
            try revert cvs
            try revert lc
            try revert rk
            try revert rvs
            try revert ra
            try revert key0
            try revert hKKq
            try revert KKq
            try revert hKK2
            try revert KK2
            try revert hKK1
            try revert KK1
            try revert hKO
            try revert KO
            try revert s₁
            try revert w
            exact hGoal.out⟩
noncomputable def lawC : (G : Prop) ×' (Kont G → lawB.1) := ⟨_, fun hGoal => by
  delta lawB
  k_fill
  intro w s₁
  intros
  rename Kont _ => key0
  repeat (rename Fr _ _ _ _ => zF; clear zF)
  repeat (rename News _ _ _ _ => zN; clear zN)
  repeat (rename CarriedAll _ _ => zC; clear zC)
  repeat (rename PyProof.V.FlatPairs _ _ _ => zC; clear zC)
  obtain ⟨G, gs, TT, tvs, tn, Dp, pys, lc, cvs, cns, ck, o4, o3, o2, oc, R, m6, F, N, hcI, hcl, hcb, hoc, ⟨v4, ho4⟩, ⟨v3, ho3⟩, hgI, hRT, hRP, hRo, hlt⟩ := key0.out
  clear key0
  (repeat (fail_if_success (with_reducible show wpAny _ _ (exec (Stmt.For _ _ _ _ _) _) _ _ _)); walk1)
  rename_i Dm hq0 ltm hq1 hq2 hq3 KKq tkq hKKq
  refine wpAny_For ?_
  (repeat (fail_if_success (with_reducible show wpAny _ _ (call (Value.type "range") _) _ _ _)); walk1)
  walk1
  rename Fr _ _ _ _ => F3
  rename News _ _ _ _ => N3
  rename IsRange _ _ _ _ _ _ _ _ => hrg
  refine range_st (maskLed Dm G TT Dp lc (s₁.heap.objs.size + 1 + 1 + 1 + 1) (s₁.heap.objs.size + 1 + 1 + 1) (s₁.heap.objs.size + 1 + 1) (s₁.heap.objs.size + 1) (LCg.lst gs) (listOf tvs.toArray tn) (LCg.lst pys) (listOf cvs.toArray ck) o4 o2 oc R) (fun _ => []) [Str.ofString "k"] (fun i c => IntsAre c.vs (masksTo cns i) ∧ ∃ v, c.od.data = .cell v) ⟨[], 0, o3⟩ rfl F3 N3 hrg (by decide) (n := 5) (by decide) (fun p hp => nomatch hp) ⟨.nil, _, ho3⟩ (by passes_own) rfl rfl ?turn ?done
  case turn =>
    rintro i t ⟨vs, k, od⟩ u h tk own it hi ⟨hI, vd, hod⟩ hw ho F5 N5
    dsimp only [kstB, maskLed, List.cons_append] at hI hod hw F5 N5 ⊢
    obtain ⟨tc, hck⟩ := ints_at hcI (i := i + 1) (by omega)
    have hck' : cvs[(1 + (i : Int)).toNat]? = some (.int (cns.getD (i + 1) 0) tc) := by rw [show (1 + (i : Int)).toNat = i + 1 by omega]; exact hck
    have hcn : 0 ≤ cns.getD (i + 1) 0 := hcb _ (by rw [List.getD_eq_getElem?_getD, List.getElem?_eq_getElem (by omega)]; exact List.getElem_mem _)
    (repeat (fail_if_success (with_reducible show wpAny _ _ (subscriptTail _ _ _ _) _ _ _)); walk1)
    refine item_listL ⟨_, (N5 (lc, listOf cvs.toArray ck) (.tail _ (.tail _ (.tail _ (.tail _ (.head _)))))).1, rfl, _, rfl⟩ (by omega) (by omega) hck' ?_
    (repeat (fail_if_success (with_reducible show wpAny _ _ (call (Value.ref _) _) _ _ _)); walk1)
    refine' use_claim (by k_asm) (by k_asm) (by k_asm) N5 (by k_asm) (by first | exact rfl | assumption) (claim_toks (holds_claim w _ _ _ _ (cns.getD (i + 1) 0) tc Dp pys pys.length hcn (.tail _ (.tail _ (.tail _ (.head _)))) (pts_are (n := 16) hRP (fun p hp => .tail _ (.tail _ (.tail _ (.tail _ (.tail _ (.tail _ (.tail _ (.tail _ (.tail _ (List.mem_append_left _ hp)))))))))))))  (by ktr_room) (by ktr_units) trivial ?_
    rintro _ _ h6 tk6 F6 N6 sep6 ⟨htk6, ad, ak, rfl, rfl⟩
    dsimp only [List.cons_append, List.nil_append] at F6 N6 ⊢
    have hgt : ∀ x ∈ [Dm, G, TT, Dp, lc], @LT.lt Nat _ (s₁.heap.objs.size + 1 + 1 + 1 + 1) x := fun x hx => by
      rcases List.mem_cons.mp hx with rfl | hx
      · exact ltm.2.2.2.2.1
      · exact hlt x hx
    refine' storeX_C F6 N6 ?sc ?sU hod ?_ ?sa ?sb
    case sa => rfl
    case sb => rfl
    case sc => rfl
    case sU => exact .tail (cells_apart (Nat.lt_trans (hgt Dm (.head _)) (sep6 _ (.head _) _ (.head _)))) (.tail (cells_apart (hgt _ (.head _))) (.tail (cells_apart (hgt _ (.tail _ (.head _)))) (.tail (cells_apart (hgt _ (.tail _ (.tail _ (.head _))))) (.tail (cells_apart (hgt _ (.tail _ (.tail _ (.tail _ (.head _)))))) (.tail (cells_apart (hgt _ (.tail _ (.tail _ (.tail _ (.tail _ (.head _))))))) (.tail (Nat.succ_ne_self _) (.head (cells_off hRo (fun p hp e => hw (s₁.heap.objs.size + 1 + 1 + 1, od) (.tail _ (.tail _ (.tail _ (.tail _ (.tail _ (.tail _ (.head _))))))) (by rw [← e, ho p hp]; exact .head _)))))))))) 
    intro h7 od7 F7 N7 d7
    (try dsimp only at N7)
    obtain ⟨ca, cws, cwk, hca, hcam, hcac⟩ := hRT.at (res_at cns hi)
    have hca' : tvs[(1 + (i : Int)).toNat]? = some (.ref ca) := by rw [show (1 + (i : Int)).toNat = i + 1 by omega]; exact hca
    have hcws : cws = (holdsL (cns.getD (i + 1) 0)).map Value.bool := hcac
    subst hcws
    (repeat (fail_if_success (with_reducible show wpAny _ _ (eval (Expr.ListComp _ _ _ _) _) _ _ _)); walk1)
    k_dflt (refine ListComp_K (uF₀ := by k_asm) (by with_unfolding_all rfl) (by decide) (by rfl) (by decide) ?_)
    (repeat (fail_if_success (with_reducible show wpAny _ _ (subscriptTail _ _ _ _) _ _ _)); walk1)
    refine item_listL ⟨_, (N7 (TT, listOf tvs.toArray tn) (.tail _ (.tail _ (.tail _ (.head _))))).1, rfl, _, rfl⟩ (by omega) (by omega) hca' ?_
    (repeat (fail_if_success (with_reducible show wpAny _ _ (call (Value.type "zip") _) _ _ _)); walk1)
    rename Fr _ _ _ _ => F8
    rename News _ _ _ _ => N8
    have hl16 : (holdsL (cns.getD (i + 1) 0)).length = 16 := by simp [holdsL]
    refine SrcK.zip (Inv := fun _ ys => ys = []) rfl F8 N8 (.tail _ (.tail _ (.tail _ (.tail _ (.tail _ (.tail _ (.tail _ (.tail _ (.tail _ (.tail _ (List.mem_append_left _ hcam))))))))))) (.head _) (by rw [List.length_map, hl16, sizeLine_eq]; decide) (by rfl) (by rfl) (by rfl) (by decide) rfl (fun i ys hI => by subst hI; exact Nat.zero_le _) ?z1 ?z2
    case z1 =>
      rintro s₂ ⟨hh2, rfl⟩ j x y ys h tk own C oC D m₂ E' hj ⟨hx, hy⟩ hI hNs hm1 hm2 F9 N9 off
      rw [hx] at hy
      obtain rfl : x = y := Option.some.inj hy
      obtain ⟨bj, hbj, rfl⟩ : ∃ bj, (holdsL (cns.getD (i + 1) 0))[j]? = some bj ∧ Value.bool bj = x := by simpa using hx
      refine wpAny_tests_one ?_
      iterate 4 walk1
      rw [show (bj != bj) = false by cases bj <;> rfl]
      walk1
      exact ⟨_, _, rfl, F9, N9, hI⟩
    case z2 =>
      intro D h tk zs F9 N9 lt9 hI
      obtain rfl : zs = [] := hI
      (repeat (fail_if_success (with_reducible show wpAny _ _ (compareOp CmpOp.NotEq _ _) _ _ _)); walk1)
      rename Fr _ _ _ _ => F10
      rename News _ _ _ _ => N10
      rename_i le hq4 lle
      refine' ne_intsK ⟨_, (N10 (D, LCg.lst []) (.tail _ (.head _))).1, rfl, _, rfl⟩ (ns := []) .nil ⟨_, (N10 _ (.head _)).1, rfl, _, rfl⟩ (us := []) .nil (by ktr_units) ?_
      rw [show (!decide (([] : List Int) = [])) = false from rfl]
      (repeat (fail_if_success (with_reducible show wpAny _ _ (eval (Expr.ListComp _ _ _ _) _) _ _ _)); walk1)
      k_dflt (refine LCt.ListComp_T (F₀ := by k_asm) (by with_unfolding_all rfl) (by decide) (by rfl) (by decide) (by rfl) ?_)
      (repeat (fail_if_success (with_reducible show wpAny _ _ (call (Value.type "range") _) _ _ _)); walk1)
      walk1
      rename Fr _ _ _ _ => F11
      rename News _ _ _ _ => N11
      rename IsRange _ _ _ _ _ _ _ _ => hr2
      refine LCt.CompSrcT.range rfl F11 N11 hr2 (by decide) (n := 16) (by decide) (by decide) fun gg => rest_test 16 (fun i' ys nw => nw = _ ∧ IntsAre ys (maskSel (holdsL (cns.getD (i + 1) 0)) i')) ?mt ?mf 16 0 [] _ rfl ⟨rfl, .nil⟩
      case mt =>
        rintro j ys nw hj ⟨rfl, hys⟩ v I oI C oC D2 m₂ h tk E' ⟨t2, rfl⟩ hNs hx F12 N12 off ne
        obtain ⟨bj, hbj⟩ : ∃ b, (holdsL (cns.getD (i + 1) 0))[j]? = some b := ⟨_, List.getElem?_eq_getElem (by omega)⟩
        (repeat (fail_if_success (with_reducible show wpAny _ _ (subscriptTail _ _ _ _) _ _ _)); walk1)
        refine item_listL ⟨_, (N12 (ad, listOf ((holdsL (cns.getD (i + 1) 0)).map Value.bool).toArray ak) (.tail _ (.tail _ (.tail _ (.tail _ (.tail _ (.head _))))))).1, rfl, _, rfl⟩ (by omega) (by omega) (x := .bool bj) (by rw [show (0 + (j : Int)).toNat = j by omega, List.getElem?_map, hbj]; rfl) ?_
        cases bj with
        | true =>
          iterate 6 walk1
          refine LCg.CompEnd.intro F12 N12 _ (fun p hp => hp) off trivial ⟨rfl, ?_⟩
          rw [shift_val]
          exact sel_step_t hys hbj ⟨_, rfl⟩
        | false =>
          iterate 1 walk1
          rw [if_neg Bool.false_ne_true]
          exact LCg.CompEnd.intro F12 N12 _ (fun p hp => hp) off trivial ⟨rfl, sel_step_f hys hbj⟩
      case mf =>
        rintro ys nw ⟨rfl, hys⟩
        intro D2 h tk F12 N12 off
        dsimp only
        iterate 3 walk1
        rename Fr _ _ _ _ => F13
        rename News _ _ _ _ => N13
        have hvl := hI.length
        have hownD : ∀ p ∈ own, p.1 ≠ Dm := fun p hp e => hw (Dm, listOf vs.toArray k) (.head _) (by rw [← e, ho p hp]; exact .head _)
        refine append_K F13 N13 (Upd.tail (Ne.symm off.2.2.2.1) (Upd.tail (Ne.symm (Nat.ne_of_lt lle.2.2.1)) (Upd.tail (Ne.symm (Nat.ne_of_lt (lt9 (Dm, listOf vs.toArray k) (.tail _ (.head _))))) (Upd.tail (Ne.symm (Nat.ne_of_lt (sep6 _ (.head _) _ (.head _)))) (Upd.head (off_masks ltm hownD)))))) ?_ (by rw [List.size_toArray, hvl, sizeLine_eq]; simp [masksTo]; omega)
        intro h14 F14 N14
        simp only [List.push_toArray] at N14
        iterate 2 walk1
        try refine OpK.out (by assumption) ?_
        refine ⟨rfl, ⟨vs ++ [_], k + 1, od7⟩, _, _, _, _, rfl, F14, N14, mask_sub, mask_own, hw_mask (c := ⟨vs, k, od⟩) hw, (fun p hp => nomatch hp), by ksw_same, ?_, ⟨_, d7⟩⟩
        show IntsAre _ (masksTo cns (i + 1))
        rw [masks_snoc]
        exact intsSnoc hI
  case done =>
    rintro ⟨mvs, mk, od⟩ u h tk ⟨hmI, vd, hod⟩ F5 N5
    dsimp only [kstB, maskLed, List.cons_append] at hmI hod F5 N5 ⊢
    have hgm : @LT.lt Nat _ (s₁.heap.objs.size + 1 + 1 + 1 + 1) Dm := ltm.2.2.2.2.1
    have hgG : @LT.lt Nat _ (s₁.heap.objs.size + 1 + 1 + 1 + 1) G := hlt G (.head _)
    obtain ⟨m8, F⟩ : ∃ m8 : Str → Option Value, Fr s₁.heap s₁.heap.objs.size _ (fun y => if y = Str.ofString "masks" then some (.ref Dm) else if y = Str.ofString "goal" then some (.ref G) else m8 y) := ⟨_, fr_name2 F5 rfl rfl⟩
    have N : News s₁.heap s₁.heap.objs.size _ [(Dm, listOf mvs.toArray mk), (G, LCg.lst gs), (s₁.heap.objs.size + 1 + 1 + 1 + 1, o4)] := fun p hp => N5 p (by simp only [List.mem_cons, List.not_mem_nil, or_false] at hp ⊢; grind)
    clear F5 N5
    have key : Kont (∃ (Dm : Addr) (mvs : List Value) (mk : Nat) (G : Addr) (gs : List Value) (cns : List Int) (o4 : Obj) (m6 : Str → Option Value),
        Fr s₁.heap s₁.heap.objs.size _ (fun y => if y = Str.ofString "masks" then some (.ref Dm) else if y = Str.ofString "goal" then some (.ref G) else m6 y) ∧
        News s₁.heap s₁.heap.objs.size _ [(Dm, listOf mvs.toArray mk), (G, LCg.lst gs), (s₁.heap.objs.size + 1 + 1 + 1 + 1, o4)] ∧ IntsAre mvs (masksTo cns 5) ∧ IntsAre gs (goalL (cns.getD 0 0)) ∧ (∃ v, o4.data = .cell v) ∧ (∀ n ∈ cns, 0 ≤ n) ∧ (∀ x ∈ [Dm, G], @LT.lt Nat _ (s₁.heap.objs.size + 1 + 1 + 1 + 1) x)) :=
      ⟨⟨Dm, mvs, mk, G, gs, cns, o4, m8, F, N, hmI, hgI, ⟨_, ho4⟩, hcb, fun x hx => by
        simp only [List.mem_cons, List.not_mem_nil, or_false] at hx
        rcases hx with rfl | rfl
        · exact hgm
        · exact hgG⟩⟩
    clear F N
    rename NxK _ _ _ _ _ _ _ => hKnow
    revert hKnow
    repeat (rename NxK _ _ _ _ _ _ _ => zK; clear zK)
    repeat (rename_i zz; revert zz)
    try revert ek
    try revert qk
    try revert key
    try revert m8
    try revert hgG
    try revert hgm
    try revert N5
    try revert F5
    try revert hod
    try revert vd
    try revert hmI
    try revert tk
    try revert h
    try revert u
    try revert od
    try revert mk
    try revert mvs
    try revert hrg
    try revert N3
    try revert F3
    try revert htkq
    try revert tkq
    try revert hgeq
    try revert hq3
    try revert hq2
    try revert hq1
    try revert ltm
    try revert hq0
    try revert Dm
    try revert hlt
    try revert hRo
    try revert hRP
    try revert hRT
    try revert hgI
    try revert ho3
    try revert v3
    try revert ho4
    try revert v4
    try revert hoc
    try revert hcb
    try revert hcl
    try revert hcI
    try revert N
    try revert F
    try revert m6
    try revert R
    try revert oc
    try revert o2
    try revert o3
    try revert o4
    try revert ck
    try revert cns
    try revert cvs
    try revert lc
    try revert pys
    try revert Dp
    try revert tn
    try revert tvs
    try revert TT
    try revert gs
    try revert G
    try revert key0
    try revert hKKq
    try revert KKq
    try revert hKK2
    try revert KK2
    try revert hKK1
    try revert KK1
    try revert hKO
    try revert KO
    try revert s₁
    try revert w
    exact hGoal.out⟩
noncomputable def lawD : (G : Prop) ×' (Kont G → lawC.1) := ⟨_, fun hGoal => by
  delta lawC
  k_fill
  intro w s₁
  intros
  rename Kont _ => key0
  repeat (rename Fr _ _ _ _ => zF; clear zF)
  repeat (rename News _ _ _ _ => zN; clear zN)
  repeat (rename CarriedAll _ _ => zC; clear zC)
  repeat (rename PyProof.V.FlatPairs _ _ _ => zC; clear zC)
  obtain ⟨Dm, mvs, mk, G, gs, cns, o4, m6, F, N, hmI, hgI, ⟨v4, ho4⟩, hcb, hlt⟩ := key0.out
  clear key0
  have hlow := low_masks cns
  have hml : (masksTo cns 5).length = 5 := by simp [masksTo]
  have hhel := helly_law cns hcb
  have hsc := scarf_law cns hcb
  generalize masksTo cns 5 = ms at hmI hlow hml hhel hsc
  walk_at "At"
  walk_at "execs cons"
  (repeat (fail_if_success (with_reducible show wpAny _ _ (exec (Stmt.For _ _ _ _ _) _) _ _ _)); walk1)
  rename_i Df hq0 ltf hq1 hq2 hq3 KKq tkq hKKq
  refine wpAny_For ?_
  (repeat (fail_if_success (with_reducible show wpAny _ _ (call (Value.type "range") _) _ _ _)); walk1)
  walk1
  rename Fr _ _ _ _ => F3
  rename News _ _ _ _ => N3
  rename IsRange _ _ _ _ _ _ _ _ => hrg
  refine range_st (fun c : FourS => [(Df, listOf c.vs.toArray c.k), (Dm, listOf mvs.toArray mk), (G, LCg.lst gs), (s₁.heap.objs.size + 1 + 1 + 1 + 1, o4)]) (fun _ => []) [Str.ofString "out", Str.ofString "mask", Str.ofString "k"] (fun i c => IntsAre c.vs (foursTo ms i)) ⟨[], 0⟩ rfl F3 N3 hrg (by decide) (n := 5) (by decide) (fun p hp => nomatch hp) .nil (by passes_own) rfl rfl ?turn ?done
  case turn =>
    rintro i t ⟨vs, k⟩ u h tk own it hi hI hw ho F5 N5
    dsimp only [kstB, List.cons_append, List.nil_append] at hI hw F5 N5 ⊢
    (repeat (fail_if_success (with_reducible show wpAny _ _ (exec (Stmt.For _ _ _ _ _) _) _ _ _)); walk1)
    refine wpAny_For ?_
    (repeat (fail_if_success (with_reducible show wpAny _ _ (call (Value.type "range") _) _ _ _)); walk1)
    walk1
    rename Fr _ _ _ _ => F6
    rename News _ _ _ _ => N6
    rename IsRange _ _ _ _ _ _ _ _ => hr2
    refine range_st (fun c : IntS => (Df, listOf vs.toArray k) :: (Dm, listOf mvs.toArray mk) :: (G, LCg.lst gs) :: (s₁.heap.objs.size + 1 + 1 + 1 + 1, o4) :: own) (fun c => [(Str.ofString "mask", .int c.m c.t)]) [Str.ofString "mask", Str.ofString "k"] (fun j c => c.m = fourN ms i j) ⟨65535, _⟩ rfl F6 N6 hr2 (by decide) (n := 5) (by decide) (by kst_all) rfl (by passes_own) rfl rfl ?turn2 ?done2
    case turn2 =>
      rintro j t2 ⟨m, mt⟩ u2 h tk own2 it2 hj hJ hw2 ho2 F7 N7
      dsimp only [kstB, List.cons_append, List.nil_append] at hJ hw2 F7 N7 ⊢
      iterate 8 walk1
      · have hji : j ≠ i := by
          intro e
          subst e
          first
            | omega
            | simp_all
        obtain ⟨tj, hjm0⟩ := ints_at hmI (i := j) (by omega)
        have hjm : mvs[(0 + (j : Int)).toNat]? = some (.int (ms.getD j 0) tj) := by
          rw [show (0 + (j : Int)).toNat = j by omega]
          exact hjm0
        (repeat (fail_if_success (with_reducible show wpAny _ _ (subscriptTail _ _ _ _) _ _ _)); walk1)
        rename News _ _ _ _ => N8
        refine item_listL ⟨_, (N8 (Dm, listOf mvs.toArray mk) (.tail _ (.head _))).1, rfl, _, rfl⟩ (by omega) (by omega) hjm ?_
        (repeat (fail_if_success (with_reducible show wpAny _ _ (call (Value.ref _) _) _ _ _)); walk1)
        have hml1 : Low m := hJ ▸ low_four hlow hml j (by omega)
        have hml2 : Low (ms.getD j 0) := hlow _ (by rw [List.getD_eq_getElem?_getD, List.getElem?_eq_getElem (by omega)]; exact List.getElem_mem _)
        refine' use_claim (by k_asm) (by k_asm) (by k_asm) N8 (by k_asm) (by first | exact rfl | assumption) (claim_toks (and_low w _ _ _ _ m (ms.getD j 0) _ _ hml1 hml2)) (by ktr_room) (by ktr_units) trivial ?_
        rintro _ _ h9 tk9 F9 N9 sep9 ⟨htk9, ⟨t9, rfl⟩, rfl⟩
        dsimp only [List.nil_append] at F9 N9 ⊢
        iterate 5 walk1
        rename Fr _ _ _ _ => F10
        rename News _ _ _ _ => N10
        try refine OpK.out (by assumption) ?_
        refine ⟨rfl, ⟨_, _⟩, _, _, _, _, rfl, F10, N10, fun p hp => ?ts, fun p hp => ?to, hw2, by kst_all, by ksw_same, ?ti⟩
        case ts => simp only [List.mem_cons, List.mem_append] at hp ⊢; grind
        case to => simp only [List.mem_cons, List.mem_append] at hp ⊢; grind
        case ti =>
          show _ = fourN ms i (j + 1)
          unfold fourN
          rw [if_neg hji, hJ]
      · have hji : j = i := by
          first
            | omega
            | simp_all
        iterate 3 walk1
        rename Fr _ _ _ _ => F10
        rename News _ _ _ _ => N10
        try refine OpK.out (by assumption) ?_
        refine ⟨rfl, ⟨m, mt⟩, _, _, _, _, rfl, F10, N10, fun p hp => ?fs, fun p hp => ?fo, hw2, by kst_all, by ksw_same, ?fi⟩
        case fs => simp only [List.mem_cons, List.mem_append] at hp ⊢; grind
        case fo => simp only [List.mem_cons, List.mem_append] at hp ⊢; grind
        case fi =>
          show m = fourN ms i (j + 1)
          unfold fourN
          rw [if_pos hji, hJ]
    case done2 =>
      rintro ⟨m, mt⟩ u2 h tk hJ F7 N7
      dsimp only [kstB, List.cons_append, List.nil_append] at hJ F7 N7 ⊢
      (repeat (fail_if_success (with_reducible show wpAny _ _ (call (Value.builtin "list.append") [_, _]) _ _ _)); walk1)
      have hvl := hI.length
      have hownD : ∀ p ∈ own, p.1 ≠ Df := fun p hp e => hw (Df, listOf vs.toArray k) (.head _) (by rw [← e, ho p hp]; exact .head _)
      refine append_K F7 N7 (Upd.head (off3f ltf hownD)) ?_ (by rw [List.size_toArray, hvl, sizeLine_eq]; simp [foursTo]; omega)
      intro h14 F14 N14
      simp only [List.push_toArray] at N14
      iterate 2 walk1
      try refine OpK.out (by assumption) ?_
      refine ⟨rfl, ⟨vs ++ [.int m mt], k + 1⟩, _, _, _, _, rfl, F14, N14, fun p hp => ?as, fun p hp => ?ao, fun p hp => ?aw, (fun p hp => nomatch hp), by ksw_same, ?ai⟩
      case as => simp only [List.mem_cons, List.mem_append, List.not_mem_nil, or_false] at hp ⊢; grind
      case ao => simp only [List.mem_cons, List.mem_append] at hp ⊢; grind
      case aw =>
        rcases List.mem_cons.mp hp with rfl | hp
        · exact hw (Df, listOf vs.toArray k) (.head _)
        · exact hw p (.tail _ hp)
      case ai =>
        show IntsAre _ (foursTo ms (i + 1))
        rw [fours_snoc, ← hJ]
        exact intsSnoc hI
  case done =>
    rintro ⟨fvs, fk⟩ u h tk hfI F5 N5
    dsimp only [kstB, List.cons_append] at hfI F5 N5 ⊢
    obtain ⟨tf, hf0⟩ := ints_at hfI (i := 0) (by simp [foursTo])
    obtain ⟨tm, hm0⟩ := ints_at hmI (i := 0) (by omega)
    have hl1 : Low (fourN ms 0 5) := low_four hlow hml 5 (by omega)
    have hl2 : Low (ms.getD 0 0) := hlow _ (by rw [List.getD_eq_getElem?_getD, List.getElem?_eq_getElem (by omega)]; exact List.getElem_mem _)
    (repeat (fail_if_success (with_reducible show wpAny _ _ (subscriptTail _ _ _ _) _ _ _)); walk1)
    refine item_listL ⟨_, (N5 (Df, listOf fvs.toArray fk) (.head _)).1, rfl, _, rfl⟩ (by decide) (by decide) (show fvs[(0 : Int).toNat]? = some (.int (fourN ms 0 5) tf) from hf0) ?_
    (repeat (fail_if_success (with_reducible show wpAny _ _ (subscriptTail _ _ _ _) _ _ _)); walk1)
    refine item_listL ⟨_, (N5 (Dm, listOf mvs.toArray mk) (.tail _ (.head _))).1, rfl, _, rfl⟩ (by decide) (by decide) (show mvs[(0 : Int).toNat]? = some (.int (ms.getD 0 0) tm) from hm0) ?_
    (repeat (fail_if_success (with_reducible show wpAny _ _ (call (Value.ref _) _) _ _ _)); walk1)
    refine' use_claim (by k_asm) (by k_asm) (by k_asm) N5 (by k_asm) (by first | exact rfl | assumption) (claim_toks (and_low w _ _ _ _ (fourN ms 0 5) (ms.getD 0 0) _ _ hl1 hl2)) (by ktr_room) (by ktr_units) trivial ?_
    rintro _ _ h9 tk9 F9 N9 sep9 ⟨htk9, ⟨t9, rfl⟩, rfl⟩
    dsimp only [List.nil_append] at F9 N9 ⊢
    have hsl := low_and hl1 hl2
    rw [show PySem.Builtin.bitAnd (fourN ms 0 5) (ms.getD 0 0) = sharedN ms from rfl] at hsl ⊢
    generalize hsh : sharedN ms = sh at hsl hhel hsc ⊢
    (repeat (fail_if_success (with_reducible show wpAny _ _ (call (Value.ref _) _) _ _ _)); walk1)
    rename News _ _ _ _ => N10
    refine' use_claim (by k_asm) (by k_asm) (by k_asm) N10 (by k_asm) (by first | exact rfl | assumption) (claim_toks (contains_claim w _ _ _ _ Df fvs fk (foursTo ms 5) 0 _ (.head _) hfI (by simp [foursTo]))) (by ktr_room) (by ktr_units) trivial ?_
    rintro _ _ h11 tk11 F11 N11 sep11 ⟨htk11, rfl, rfl⟩
    dsimp only [List.nil_append] at F11 N11 ⊢
    rw [hhel]
    iterate 5 walk1
    rw [show ((sh == 0) != (sh == 0)) = false by cases (sh == 0) <;> rfl]
    iterate 12 walk1
    · k_steps
    · obtain ⟨shn, rfl, hshn⟩ := hsl
      (repeat (fail_if_success (with_reducible show wpAny _ _ (call (Value.ref _) _) _ _ _)); walk1)
      rename News _ _ _ _ => N12
      refine' use_claim (by k_asm) (by k_asm) (by k_asm) N12 (by k_asm) (by first | exact rfl | assumption) (claim_toks (top_claim w _ _ _ _ G gs gs.length (.tail _ (.tail _ (.head _))) (goalL (cns.getD 0 0)) hgI (goal_len _) shn _ hshn)) (by ktr_room) (by ktr_units) trivial ?_
      rintro _ _ h13 tk13 F13 N13 sep13 ⟨htk13, ⟨t13, rfl⟩, rfl⟩
      dsimp only [List.nil_append] at F13 N13 ⊢
      have hsc2 := hsc (by assumption)
      rw [show ((shn : Nat) : Int).toNat = shn from rfl] at hsc2
      refine' storeX_C F13 N13 ?sc2 ?sU2 ho4 ?_ ?sa2 ?sb2
      case sa2 => rfl
      case sb2 => rfl
      case sc2 => rfl
      case sU2 => exact .tail (cell_apart4 ltf.2.2) (.tail (cell_apart4 (hlt Dm (.head _))) (.tail (cell_apart4 (hlt G (.tail _ (.head _)))) (.head (fun p hp => nomatch hp))))
      intro h15 ob F15 N15 hob
      walk1
      have hgm : @LT.lt Nat _ (s₁.heap.objs.size + 1 + 1 + 1 + 1) Dm := hlt Dm (.head _)
      obtain ⟨m9, F⟩ : ∃ m9 : Str → Option Value, Fr s₁.heap s₁.heap.objs.size _ (fun y => if y = Str.ofString "masks" then some (.ref Dm) else if y = Str.ofString "goal" then some (.ref G) else m9 y) := ⟨_, fr_name2 F15 rfl rfl⟩
      have N : News s₁.heap s₁.heap.objs.size _ [(Dm, listOf mvs.toArray mk), (G, LCg.lst gs), (s₁.heap.objs.size + 1 + 1 + 1 + 1, ob)] := fun p hp => N15 p (.tail _ hp)
      clear F15 N15
      have hgl := goal_len (cns.getD 0 0)
      generalize hbst : topOf (goalL (cns.getD 0 0)) shn = bst at hsc2 hob
      generalize goalL (cns.getD 0 0) = gl at hgI hgl hsc2
      have hge := hsc2.1
      have hin := hsc2.2
      have key : Kont (∃ (Dm : Addr) (mvs : List Value) (mk : Nat) (G : Addr) (gs : List Value) (ms gl : List Int) (o4 : Obj) (bst : Int) (tb : Tok) (m6 : Str → Option Value),
          Fr s₁.heap s₁.heap.objs.size _ (fun y => if y = Str.ofString "masks" then some (.ref Dm) else if y = Str.ofString "goal" then some (.ref G) else m6 y) ∧
          News s₁.heap s₁.heap.objs.size _ [(Dm, listOf mvs.toArray mk), (G, LCg.lst gs), (s₁.heap.objs.size + 1 + 1 + 1 + 1, o4)] ∧ IntsAre mvs ms ∧ ms.length = 5 ∧ (∀ m ∈ ms, Low m) ∧ IntsAre gs gl ∧ gl.length = 16 ∧ o4.data = .cell (some (.int bst tb)) ∧ (∀ x ∈ topsK ms gl 5, bst ≤ x) ∧ ((topsK ms gl 5).any (· == bst)) = true) :=
        ⟨⟨Dm, mvs, mk, G, gs, ms, gl, ob, bst, _, m9, F, N, hmI, hml, hlow, hgI, hgl, hob, hge, hin⟩⟩
      clear F N
      rename NxK _ _ _ _ _ _ _ => hKnow
      revert hKnow
      repeat (rename NxK _ _ _ _ _ _ _ => zK; clear zK)
      repeat (rename_i zz; revert zz)
      try revert ek
      try revert qk
      try revert key
      try revert hin
      try revert hge
      try revert hbst
      try revert bst
      try revert gl
      try revert hgl
      try revert m9
      try revert hgm
      try revert hob
      try revert N15
      try revert F15
      try revert ob
      try revert h15
      try revert hsc2
      try revert t13
      try revert htk13
      try revert sep13
      try revert N13
      try revert F13
      try revert tk13
      try revert h13
      try revert N12
      try revert hshn
      try revert shn
      try revert htk11
      try revert sep11
      try revert N11
      try revert F11
      try revert tk11
      try revert h11
      try revert N10
      try revert hsl
      try revert hsh
      try revert sh
      try revert t9
      try revert htk9
      try revert sep9
      try revert N9
      try revert F9
      try revert tk9
      try revert h9
      try revert hl2
      try revert hl1
      try revert hm0
      try revert tm
      try revert hf0
      try revert tf
      try revert N5
      try revert F5
      try revert hfI
      try revert tk
      try revert h
      try revert u
      try revert fk
      try revert fvs
      try revert hrg
      try revert N3
      try revert F3
      try revert htkq
      try revert tkq
      try revert hgeq
      try revert hq3
      try revert hq2
      try revert hq1
      try revert ltf
      try revert hq0
      try revert Df
      try revert hsc
      try revert hhel
      try revert hml
      try revert hlow
      try revert ms
      try revert hlt
      try revert hcb
      try revert ho4
      try revert v4
      try revert hgI
      try revert hmI
      try revert N
      try revert F
      try revert m6
      try revert o4
      try revert cns
      try revert gs
      try revert G
      try revert mk
      try revert mvs
      try revert Dm
      try revert key0
      try revert hKKq
      try revert KKq
      try revert hKK2
      try revert KK2
      try revert hKK1
      try revert KK1
      try revert hKO
      try revert KO
      try revert s₁
      try revert w
      exact hGoal.out⟩
theorem lawE : lawD.1 := by
  delta lawD
  k_fill
  intro w s₁
  intros
  rename Kont _ => key0
  repeat (rename Fr _ _ _ _ => zF; clear zF)
  repeat (rename News _ _ _ _ => zN; clear zN)
  repeat (rename CarriedAll _ _ => zC; clear zC)
  repeat (rename PyProof.V.FlatPairs _ _ _ => zC; clear zC)
  obtain ⟨Dm, mvs, mk, G, gs, ms, gl, o4, bst, tb, m6, F, N, hmI, hml, hlow, hgI, hgl, ho4, hge, hin⟩ := key0.out
  clear key0
  walk_at "execs cons"
  (repeat (fail_if_success (with_reducible show wpAny _ _ (exec (Stmt.For _ _ _ _ _) _) _ _ _)); walk1)
  rename_i Dt hq0 ltt hq1 hq2 hq3 KKq tkq hKKq
  refine wpAny_For ?_
  (repeat (fail_if_success (with_reducible show wpAny _ _ (call (Value.type "range") _) _ _ _)); walk1)
  walk1
  rename Fr _ _ _ _ => F3
  rename News _ _ _ _ => N3
  rename IsRange _ _ _ _ _ _ _ _ => hrg
  refine range_st (fun c : FourS => [(Dt, listOf c.vs.toArray c.k), (Dm, listOf mvs.toArray mk), (G, LCg.lst gs), (s₁.heap.objs.size + 1 + 1 + 1 + 1, o4)]) (fun _ => []) [Str.ofString "k", Str.ofString "j", Str.ofString "i"] (fun i c => IntsAre c.vs (topsK ms gl i)) ⟨[], 0⟩ rfl F3 N3 hrg (by decide) (n := 5) (by decide) (fun p hp => nomatch hp) .nil (by passes_own) rfl rfl ?turnK ?doneK
  case turnK =>
    rintro kk t ⟨vs, n⟩ u h tk own it hk hI hw ho F5 N5
    dsimp only [kstB, List.cons_append, List.nil_append] at hI hw F5 N5 ⊢
    have hownK : ∀ p ∈ own, p.1 ≠ Dt := fun p hp e => hw (Dt, listOf vs.toArray n) (.head _) (by rw [← e, ho p hp]; exact .head _)
    (repeat (fail_if_success (with_reducible show wpAny _ _ (exec (Stmt.For _ _ _ _ _) _) _ _ _)); walk1)
    refine wpAny_For ?_
    (repeat (fail_if_success (with_reducible show wpAny _ _ (call (Value.type "range") _) _ _ _)); walk1)
    walk1
    rename Fr _ _ _ _ => F6
    rename News _ _ _ _ => N6
    rename IsRange _ _ _ _ _ _ _ _ => hr2
    refine range_st (fun c : FourS => (Dt, listOf c.vs.toArray c.k) :: (Dm, listOf mvs.toArray mk) :: (G, LCg.lst gs) :: (s₁.heap.objs.size + 1 + 1 + 1 + 1, o4) :: own) (fun _ => []) [Str.ofString "j", Str.ofString "i"] (fun j c => IntsAre c.vs (topsK ms gl kk ++ topsJ ms gl kk j)) ⟨vs, n⟩ rfl F6 N6 hr2 (small_to hk).1 (n := kk) (small_to hk).2 (fun p hp => nomatch hp) (by simpa [topsJ] using hI) (by passes_own) rfl rfl ?turnJ ?doneJ
    case turnJ =>
      rintro j tj ⟨vs, n⟩ u2 h tk own2 it2 hj hI2 hw2 ho2 F7 N7
      dsimp only [kstB, List.cons_append, List.nil_append] at hI2 hw2 F7 N7 ⊢
      have hownJ : ∀ p ∈ own2, p.1 ≠ Dt := fun p hp e => hw2 (Dt, listOf vs.toArray n) (.head _) (by rw [← e, ho2 p hp]; exact .head _)
      (repeat (fail_if_success (with_reducible show wpAny _ _ (exec (Stmt.For _ _ _ _ _) _) _ _ _)); walk1)
      refine wpAny_For ?_
      (repeat (fail_if_success (with_reducible show wpAny _ _ (call (Value.type "range") _) _ _ _)); walk1)
      walk1
      rename Fr _ _ _ _ => F8
      rename News _ _ _ _ => N8
      rename IsRange _ _ _ _ _ _ _ _ => hr3
      refine range_st (fun c : FourS => (Dt, listOf c.vs.toArray c.k) :: (Dm, listOf mvs.toArray mk) :: (G, LCg.lst gs) :: (s₁.heap.objs.size + 1 + 1 + 1 + 1, o4) :: (own ++ own2)) (fun _ => []) [Str.ofString "i"] (fun i c => IntsAre c.vs (topsK ms gl kk ++ topsJ ms gl kk j ++ topsI ms gl kk j i)) ⟨vs, n⟩ rfl F8 N8 hr3 (small_to (k := j) (by omega)).1 (n := j) (small_to (k := j) (by omega)).2 (fun p hp => nomatch hp) (by simpa [topsI] using hI2) (by passes_own) rfl rfl ?turnI ?doneI
      case turnI =>
        rintro i ti ⟨vs, n⟩ u3 h tk own3 it3 hi hI3 hw3 ho3 F9 N9
        dsimp only [kstB, List.cons_append, List.nil_append] at hI3 hw3 F9 N9 ⊢
        have hownI : ∀ p ∈ own3, p.1 ≠ Dt := fun p hp e => hw3 (Dt, listOf vs.toArray n) (.head _) (by rw [← e, ho3 p hp]; exact .head _)
        obtain ⟨t1, hm1⟩ := ints_at hmI (i := i) (by omega)
        obtain ⟨t2, hm2⟩ := ints_at hmI (i := j) (by omega)
        obtain ⟨t3, hm3⟩ := ints_at hmI (i := kk) (by omega)
        have low_at : ∀ a, a < 5 → Low (ms.getD a 0) := fun a ha => hlow _ (by rw [List.getD_eq_getElem?_getD, List.getElem?_eq_getElem (by omega)]; exact List.getElem_mem _)
        have hL1 := low_at i (by omega)
        have hL2 := low_at j (by omega)
        have hL3 := low_at kk (by omega)
        have hmm : ∀ {X : List (Addr × Obj)}, ((Dm, listOf mvs.toArray mk) : Addr × Obj) ∈ (Dt, listOf vs.toArray n) :: (Dm, listOf mvs.toArray mk) :: X := .tail _ (.head _)
        (repeat (fail_if_success (with_reducible show wpAny _ _ (subscriptTail _ _ _ _) _ _ _)); walk1)
        refine item_listL ⟨_, (N9 _ hmm).1, rfl, _, rfl⟩ (by omega) (by omega) (show mvs[(0 + (i : Int)).toNat]? = some (.int (ms.getD i 0) t1) by rw [show (0 + (i : Int)).toNat = i by omega]; exact hm1) ?_
        (repeat (fail_if_success (with_reducible show wpAny _ _ (subscriptTail _ _ _ _) _ _ _)); walk1)
        refine item_listL ⟨_, (N9 _ hmm).1, rfl, _, rfl⟩ (by omega) (by omega) (show mvs[(0 + (j : Int)).toNat]? = some (.int (ms.getD j 0) t2) by rw [show (0 + (j : Int)).toNat = j by omega]; exact hm2) ?_
        (repeat (fail_if_success (with_reducible show wpAny _ _ (call (Value.ref _) _) _ _ _)); walk1)
        refine' use_claim (by k_asm) (by k_asm) (by k_asm) N9 (by k_asm) (by first | exact rfl | assumption) (claim_toks (and_low w _ _ _ _ _ _ _ _ hL1 hL2)) (by ktr_room) (by ktr_units) trivial ?_
        rintro _ _ h10 tk10 F10 N10 sep10 ⟨htk10, ⟨t10, rfl⟩, rfl⟩
        dsimp only [List.nil_append] at F10 N10 ⊢
        (repeat (fail_if_success (with_reducible show wpAny _ _ (subscriptTail _ _ _ _) _ _ _)); walk1)
        refine item_listL ⟨_, (N10 _ hmm).1, rfl, _, rfl⟩ (by omega) (by omega) (show mvs[(0 + (kk : Int)).toNat]? = some (.int (ms.getD kk 0) t3) by rw [show (0 + (kk : Int)).toNat = kk by omega]; exact hm3) ?_
        (repeat (fail_if_success (with_reducible show wpAny _ _ (call (Value.ref _) _) _ _ _)); walk1)
        refine' use_claim (by k_asm) (by k_asm) (by k_asm) N10 (by k_asm) (by first | exact rfl | assumption) (claim_toks (and_low w _ _ _ _ _ _ _ _ (low_and hL1 hL2) hL3)) (by ktr_room) (by ktr_units) trivial ?_
        rintro _ _ h11 tk11 F11 N11 sep11 ⟨htk11, ⟨t11, rfl⟩, rfl⟩
        dsimp only [List.nil_append] at F11 N11 ⊢
        obtain ⟨q, hq, hq5⟩ := low_and (low_and hL1 hL2) hL3
        have hqt : q = (PySem.Builtin.bitAnd (PySem.Builtin.bitAnd (ms.getD i 0) (ms.getD j 0)) (ms.getD kk 0)).toNat := by rw [hq]; rfl
        rw [hq]
        (repeat (fail_if_success (with_reducible show wpAny _ _ (call (Value.ref _) _) _ _ _)); walk1)
        refine' use_claim (by k_asm) (by k_asm) (by k_asm) N11 (by k_asm) (by first | exact rfl | assumption) (claim_toks (top_claim w _ _ _ _ G gs gs.length (.tail _ (.tail _ (.head _))) gl hgI hgl q _ hq5)) (by ktr_room) (by ktr_units) trivial ?_
        rintro _ _ h12 tk12 F12 N12 sep12 ⟨htk12, ⟨t12, rfl⟩, rfl⟩
        dsimp only [List.nil_append] at F12 N12 ⊢
        (repeat (fail_if_success (with_reducible show wpAny _ _ (call (Value.builtin "list.append") [_, _]) _ _ _)); walk1)
        have hvl := hI3.length
        have htl := tops_len (ms := ms) (gl := gl) hk hj hi
        refine append_K F12 N12 (Upd.head (off3f ltt (own3_off hownK hownJ hownI))) ?_ (by rw [List.size_toArray, hvl, sizeLine_eq]; omega)
        intro h14 F14 N14
        simp only [List.push_toArray] at N14
        iterate 2 walk1
        try refine OpK.out (by assumption) ?_
        refine ⟨rfl, ⟨vs ++ [.int (topOf gl q) t12], n + 1⟩, _, _, _, _, rfl, F14, N14, mem4l', mem4r, hw_first hw3, (fun p hp => nomatch hp), by ksw_same, ?_⟩
        show IntsAre _ (topsK ms gl kk ++ topsJ ms gl kk j ++ topsI ms gl kk j (i + 1))
        rw [topsI_snoc, ← List.append_assoc]
        refine ints_snoc hI3 ⟨t12, ?_⟩
        rw [topAt, hqt]
      case doneI =>
        rintro ⟨vs, n⟩ u3 h tk hI3 F9 N9
        dsimp only [kstB, List.cons_append, List.nil_append] at hI3 F9 N9 ⊢
        iterate 2 walk1
        try refine OpK.out (by assumption) ?_
        refine ⟨rfl, ⟨vs, n⟩, _, _, _, _, rfl, F9, N9, mem4l', mem4r, hw_first hw2, (fun p hp => nomatch hp), by ksw_same, ?_⟩
        show IntsAre _ (topsK ms gl kk ++ topsJ ms gl kk (j + 1))
        rw [topsJ_snoc, ← List.append_assoc]
        exact hI3
    case doneJ =>
      rintro ⟨vs, n⟩ u2 h tk hI2 F7 N7
      dsimp only [kstB, List.cons_append, List.nil_append] at hI2 F7 N7 ⊢
      iterate 2 walk1
      try refine OpK.out (by assumption) ?_
      refine ⟨rfl, ⟨vs, n⟩, _, _, _, _, rfl, F7, N7, mem4l, mem4o, hw_first hw, (fun p hp => nomatch hp), by ksw_same, ?_⟩
      show IntsAre _ (topsK ms gl (kk + 1))
      rw [topsK_snoc]
      exact hI2
  case doneK =>
    rintro ⟨tvs, tn⟩ u h tk htI F5 N5
    dsimp only [kstB, List.cons_append, List.nil_append] at htI F5 N5 ⊢
    have htl := htI.length
    have htk := topsK_len ms gl (k := 5) (by omega)
    (repeat (fail_if_success (with_reducible show wpAny _ _ (eval (Expr.ListComp _ _ _ _) _) _ _ _)); walk1)
    k_dflt (refine ListComp_K (uF₀ := by k_asm) (by with_unfolding_all rfl) (by decide) (by rfl) (by decide) ?_)
    walk1
    rename Fr _ _ _ _ => F6
    rename News _ _ _ _ => N6
    refine SrcK.list (Inv := fun _ ys => ys = []) rfl F6 N6 (.head _) (by rw [htl, sizeLine_eq]; omega) (by rfl) (by rfl) rfl (fun i ys hI => by subst hI; exact Nat.zero_le _) ?e1 ?e2
    case e1 =>
      rintro s₂ ⟨hh2, rfl⟩ j x ys h tk own C oC D m₂ E' hj hx hI hNs hm1 F9 N9 off
      obtain ⟨n, nt, rfl, hn⟩ := ints_item htI hx
      have hgn := hge n (List.mem_of_getElem? hn)
      refine wpAny_tests_one ?_
      (repeat (fail_if_success (with_reducible show wpAny _ _ (call (Value.ref _) _) _ _ _)); walk1)
      refine' use_claim (by k_asm) (by k_asm) (by k_asm) N9 (by k_asm) (by first | exact rfl | assumption) (claim_toks (ge_claim w _ _ _ _ n bst _ _)) (by ktr_room) (by ktr_units) trivial ?_
      rintro _ _ h10 tk10 F10 N10 sep10 ⟨htk10, rfl, rfl⟩
      rw [show decide (bst ≤ n) = true from decide_eq_true hgn]
      dsimp only [List.nil_append] at F10 N10 ⊢
      iterate 2 walk1
      exact ⟨_, _, rfl, F10, N10, hI⟩
    case e2 =>
      intro D h tk zs F9 N9 lt9 hI
      obtain rfl : zs = [] := hI
      (repeat (fail_if_success (with_reducible show wpAny _ _ (compareOp CmpOp.Eq (Value.ref _) (Value.ref _)) _ _ _)); walk1)
      rename News _ _ _ _ => N10
      refine' eq_intsK ⟨_, (N10 (D, LCg.lst []) (.tail _ (.head _))).1, rfl, _, rfl⟩ (ns := []) .nil ⟨_, (N10 _ (.head _)).1, rfl, _, rfl⟩ (us := []) .nil (by ktr_units) ?_
      rw [show (decide (([] : List Int) = [])) = true from rfl]
      (repeat (fail_if_success (with_reducible show wpAny _ _ (call (Value.ref _) _) _ _ _)); walk1)
      rename News _ _ _ _ => N11
      refine' use_claim (by k_asm) (by k_asm) (by k_asm) N11 (by k_asm) (by first | exact rfl | assumption) (claim_toks (contains_claim w _ _ _ _ Dt tvs tn (topsK ms gl 5) bst _ (.tail _ (.tail _ (.head _))) htI (by omega))) (by ktr_room) (by ktr_units) trivial ?_
      rintro _ _ h12 tk12 F12 N12 sep12 ⟨htk12, rfl, rfl⟩
      rw [hin]
      dsimp only [List.nil_append] at F12 N12 ⊢
      k_steps
theorem lawAll : PySem.Challenge.rw_xn0020_01.Holds := lawA.2 ⟨lawB.2 ⟨lawC.2 ⟨lawD.2 ⟨lawE⟩⟩⟩⟩
end
end Mine
theorem PySem.Challenge.cw_xn0020_01_holds : PySem.Challenge.rw_xn0020_01.Holds :=
  Mine.lawAll
