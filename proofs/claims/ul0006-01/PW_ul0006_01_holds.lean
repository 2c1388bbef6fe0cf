import PyProof.Rows.All
import Wide.All
import OpenK.AllK
import Wide.FinOn
import Lean
import PySem.Challenge.RW_ul0006_01
open PySem PySem.W PyProof.Rows PySem.Calls PySem.Spec
set_option Elab.async false
namespace Mine
/-- the i-th statement of the text, in a list -/
def stAt (i : Nat) : List Stmt := (PySem.Challenge.pw_ul0006_01.main.body.drop i).take 1
/-- a def's parameters, its body, its scope, as the text has them -/
def fP (i : Nat) : Arguments := match stAt i with
  | .FunctionDef (args := p) .. :: _ => p
  | _ => { posonlyargs := [], args := [], vararg := none, kwonlyargs := [], kw_defaults := [], kwarg := none, defaults := [] }
def fB (i : Nat) : List Stmt := match stAt i with
  | .FunctionDef (body := b) .. :: _ => b
  | _ => []
def fS (i : Nat) : Scope := match stAt i with
  | .FunctionDef (scope := s) .. :: _ => s
  | _ => { kind := .function, names := [], isGenerator := false, isCoroutine := false }
def fPos (i : Nat) : Pos := match stAt i with
  | .FunctionDef (pos := p) .. :: _ => p
  | _ => { line := 0, col := 0, endLine := 0, endCol := 0 }
set_option maxRecDepth 100000 in
noncomputable def hd.heap_39 : Params → Frag := fun P => (nat_lit 2, { cls := Value.none, data := Data.dict #[] }) :: (nat_lit 3, { cls := Value.type "dict", data := Data.dict #[{ hash := PyData.keyHash P (Str.ofString "__name__"), key := Value.str (Str.ofString "__name__") 165, val := Value.str (Str.ofString "law_ul0006_01") 314 }, { hash := PyData.keyHash P (Str.ofString "__doc__"), key := Value.str (Str.ofString "__doc__") 166, val := Value.none }, { hash := PyData.keyHash P (Str.ofString "__package__"), key := Value.str (Str.ofString "__package__") 167, val := Value.none }, { hash := PyData.keyHash P (Str.ofString "__loader__"), key := Value.str (Str.ofString "__loader__") 168, val := Value.builtin "__main__.__loader__#opaque" }, { hash := PyData.keyHash P (Str.ofString "__spec__"), key := Value.str (Str.ofString "__spec__") 169, val := Value.none }, { hash := PyData.keyHash P (Str.ofString "__annotations__"), key := Value.str (Str.ofString "__annotations__") 170, val := Value.ref 6 }, { hash := PyData.keyHash P (Str.ofString "__builtins__"), key := Value.str (Str.ofString "__builtins__") 171, val := Value.ref 4 }, { hash := PyData.keyHash P (Str.ofString "__file__"), key := Value.str (Str.ofString "__file__") 173, val := Value.str (Str.ofString "/claim/cut.py") 172 }, { hash := PyData.keyHash P (Str.ofString "__cached__"), key := Value.str (Str.ofString "__cached__") 174, val := Value.none }, { hash := PyData.keyHash P (Str.ofString "_DIV_LIMIT"), key := Value.str (Str.ofString "_DIV_LIMIT") 190, val := Value.int 4000 189 }, { hash := PyData.keyHash P (Str.ofString "_div2n1n"), key := Value.str (Str.ofString "_div2n1n") 207, val := Value.ref 21 }, { hash := PyData.keyHash P (Str.ofString "_div3n2n"), key := Value.str (Str.ofString "_div3n2n") 221, val := Value.ref 28 }, { hash := PyData.keyHash P (Str.ofString "_int2digits"), key := Value.str (Str.ofString "_int2digits") 232, val := Value.ref 35 }, { hash := PyData.keyHash P (Str.ofString "_digits2int"), key := Value.str (Str.ofString "_digits2int") 243, val := Value.ref 42 }, { hash := PyData.keyHash P (Str.ofString "_divmod_pos"), key := Value.str (Str.ofString "_divmod_pos") 258, val := Value.ref 49 }, { hash := PyData.keyHash P (Str.ofString "_iter_escaped_chars"), key := Value.str (Str.ofString "_iter_escaped_chars") 270, val := Value.ref 56 }, { hash := PyData.keyHash P (Str.ofString "_strip_quoted_realnames"), key := Value.str (Str.ofString "_strip_quoted_realnames") 282, val := Value.ref 63 }, { hash := PyData.keyHash P (Str.ofString "_check_parenthesis"), key := Value.str (Str.ofString "_check_parenthesis") 292, val := Value.ref 70 }, { hash := PyData.keyHash P (Str.ofString "_strcoll"), key := Value.str (Str.ofString "_strcoll") 302, val := Value.ref 77 }, { hash := PyData.keyHash P (Str.ofString "CHAR_MAX"), key := Value.str (Str.ofString "CHAR_MAX") 304, val := Value.int 127 303 }, { hash := PyData.keyHash P (Str.ofString "_grouping_intervals"), key := Value.str (Str.ofString "_grouping_intervals") 313, val := Value.ref 84 }, { hash := PyData.keyHash P (Str.ofString "_law_words"), key := Value.str (Str.ofString "_law_words") 321, val := Value.ref 89 }, { hash := PyData.keyHash P (Str.ofString "_law_fills"), key := Value.str (Str.ofString "_law_fills") 331, val := Value.ref 96 }, { hash := PyData.keyHash P (Str.ofString "_law_text"), key := Value.str (Str.ofString "_law_text") 344, val := Value.ref 103 }, { hash := PyData.keyHash P (Str.ofString "_law_hooks"), key := Value.str (Str.ofString "_law_hooks") 350, val := Value.ref 108 }, { hash := PyData.keyHash P (Str.ofString "_law_product"), key := Value.str (Str.ofString "_law_product") 360, val := Value.ref 115 }, { hash := PyData.keyHash P (Str.ofString "_law_counts"), key := Value.str (Str.ofString "_law_counts") 366, val := Value.ref 120 }, { hash := PyData.keyHash P (Str.ofString "law"), key := Value.str (Str.ofString "law") 372, val := Value.ref 125 }] 28 }) :: (nat_lit 6, { cls := Value.type "dict", data := Data.dict #[] }) :: (nat_lit 15, { cls := Value.type "tuple", data := Data.seq #[] }) :: (nat_lit 17, { cls := Value.type "tuple", data := Data.seq #[Value.str (Str.ofString "a") 194, Value.str (Str.ofString "b") 195, Value.str (Str.ofString "n") 196, Value.str (Str.ofString "pad") 197, Value.str (Str.ofString "half_n") 198, Value.str (Str.ofString "mask") 199, Value.str (Str.ofString "b1") 200, Value.str (Str.ofString "b2") 201, Value.str (Str.ofString "q1") 202, Value.str (Str.ofString "r") 203, Value.str (Str.ofString "q2") 204] }) :: (nat_lit 18, { cls := Value.type "tuple", data := Data.seq #[] }) :: (nat_lit 20, { cls := Value.type "code", data := Data.fields #[Value.str (Str.ofString "_div2n1n") 191, Value.str (Str.ofString "_div2n1n") 192, Value.str (Str.ofString "/claim/cut.py") 193, Value.int 3 0, Value.int 3 0, Value.int 0 0, Value.int 0 0, Value.int 3 0, Value.ref 15, Value.bool true, Value.int 181 0, Value.ref 16, Value.none, Value.ref 17, Value.ref 18, Value.ref 19, Value.int 205 0, Value.int 3 0, Value.str (Str.ofString "/claim/cut.py") 206] }) :: (nat_lit 21, { cls := Value.type "function", data := Data.func { name := Str.ofString "_div2n1n", qualname := Str.ofString "_div2n1n", params := Mine.fP 2, body := FuncBody.stmts (Mine.fB 2), scope := Mine.fS 2, globals := 3, closure := [], defaults := Value.none, kwdefaults := Value.none, pyModule := Value.str (Str.ofString "cpy313._pylong") 187, code := Value.ref 20 } }) :: (nat_lit 22, { cls := Value.type "tuple", data := Data.seq #[] }) :: (nat_lit 24, { cls := Value.type "tuple", data := Data.seq #[Value.str (Str.ofString "a12") 211, Value.str (Str.ofString "a3") 212, Value.str (Str.ofString "b") 213, Value.str (Str.ofString "b1") 214, Value.str (Str.ofString "b2") 215, Value.str (Str.ofString "n") 216, Value.str (Str.ofString "q") 217, Value.str (Str.ofString "r") 218] }) :: (nat_lit 25, { cls := Value.type "tuple", data := Data.seq #[] }) :: (nat_lit 27, { cls := Value.type "code", data := Data.fields #[Value.str (Str.ofString "_div3n2n") 208, Value.str (Str.ofString "_div3n2n") 209, Value.str (Str.ofString "/claim/cut.py") 210, Value.int 19 0, Value.int 6 0, Value.int 0 0, Value.int 0 0, Value.int 3 0, Value.ref 22, Value.bool true, Value.int 181 0, Value.ref 23, Value.none, Value.ref 24, Value.ref 25, Value.ref 26, Value.int 219 0, Value.int 19 0, Value.str (Str.ofString "/claim/cut.py") 220] }) :: (nat_lit 28, { cls := Value.type "function", data := Data.func { name := Str.ofString "_div3n2n", qualname := Str.ofString "_div3n2n", params := Mine.fP 3, body := FuncBody.stmts (Mine.fB 3), scope := Mine.fS 3, globals := 3, closure := [], defaults := Value.none, kwdefaults := Value.none, pyModule := Value.str (Str.ofString "cpy313._pylong") 187, code := Value.ref 27 } }) :: (nat_lit 29, { cls := Value.type "tuple", data := Data.seq #[] }) :: (nat_lit 31, { cls := Value.type "tuple", data := Data.seq #[Value.str (Str.ofString "a") 225, Value.str (Str.ofString "n") 226] }) :: (nat_lit 32, { cls := Value.type "tuple", data := Data.seq #[Value.str (Str.ofString "n") 227, Value.str (Str.ofString "a_digits") 228, Value.str (Str.ofString "inner") 229] }) :: (nat_lit 34, { cls := Value.type "code", data := Data.fields #[Value.str (Str.ofString "_int2digits") 222, Value.str (Str.ofString "_int2digits") 223, Value.str (Str.ofString "/claim/cut.py") 224, Value.int 29 0, Value.int 2 0, Value.int 0 0, Value.int 0 0, Value.int 3 0, Value.ref 29, Value.bool true, Value.int 181 0, Value.ref 30, Value.none, Value.ref 31, Value.ref 32, Value.ref 33, Value.int 230 0, Value.int 29 0, Value.str (Str.ofString "/claim/cut.py") 231] }) :: (nat_lit 35, { cls := Value.type "function", data := Data.func { name := Str.ofString "_int2digits", qualname := Str.ofString "_int2digits", params := Mine.fP 4, body := FuncBody.stmts (Mine.fB 4), scope := Mine.fS 4, globals := 3, closure := [], defaults := Value.none, kwdefaults := Value.none, pyModule := Value.str (Str.ofString "cpy313._pylong") 187, code := Value.ref 34 } }) :: (nat_lit 36, { cls := Value.type "tuple", data := Data.seq #[] }) :: (nat_lit 38, { cls := Value.type "tuple", data := Data.seq #[Value.str (Str.ofString "digits") 236, Value.str (Str.ofString "n") 237] }) :: (nat_lit 39, { cls := Value.type "tuple", data := Data.seq #[Value.str (Str.ofString "digits") 238, Value.str (Str.ofString "n") 239, Value.str (Str.ofString "inner") 240] }) :: (nat_lit 41, { cls := Value.type "code", data := Data.fields #[Value.str (Str.ofString "_digits2int") 233, Value.str (Str.ofString "_digits2int") 234, Value.str (Str.ofString "/claim/cut.py") 235, Value.int 45 0, Value.int 2 0, Value.int 0 0, Value.int 0 0, Value.int 3 0, Value.ref 36, Value.bool true, Value.int 181 0, Value.ref 37, Value.none, Value.ref 38, Value.ref 39, Value.ref 40, Value.int 241 0, Value.int 45 0, Value.str (Str.ofString "/claim/cut.py") 242] }) :: (nat_lit 42, { cls := Value.type "function", data := Data.func { name := Str.ofString "_digits2int", qualname := Str.ofString "_digits2int", params := Mine.fP 5, body := FuncBody.stmts (Mine.fB 5), scope := Mine.fS 5, globals := 3, closure := [], defaults := Value.none, kwdefaults := Value.none, pyModule := Value.str (Str.ofString "cpy313._pylong") 187, code := Value.ref 41 } }) :: (nat_lit 43, { cls := Value.type "tuple", data := Data.seq #[] }) :: (nat_lit 45, { cls := Value.type "tuple", data := Data.seq #[Value.str (Str.ofString "a") 247, Value.str (Str.ofString "b") 248, Value.str (Str.ofString "n") 249, Value.str (Str.ofString "a_digits") 250, Value.str (Str.ofString "r") 251, Value.str (Str.ofString "q_digits") 252, Value.str (Str.ofString "a_digit") 253, Value.str (Str.ofString "q_digit") 254, Value.str (Str.ofString "q") 255] }) :: (nat_lit 46, { cls := Value.type "tuple", data := Data.seq #[] }) :: (nat_lit 48, { cls := Value.type "code", data := Data.fields #[Value.str (Str.ofString "_divmod_pos") 244, Value.str (Str.ofString "_divmod_pos") 245, Value.str (Str.ofString "/claim/cut.py") 246, Value.int 54 0, Value.int 2 0, Value.int 0 0, Value.int 0 0, Value.int 3 0, Value.ref 43, Value.bool true, Value.int 181 0, Value.ref 44, Value.none, Value.ref 45, Value.ref 46, Value.ref 47, Value.int 256 0, Value.int 54 0, Value.str (Str.ofString "/claim/cut.py") 257] }) :: (nat_lit 49, { cls := Value.type "function", data := Data.func { name := Str.ofString "_divmod_pos", qualname := Str.ofString "_divmod_pos", params := Mine.fP 6, body := FuncBody.stmts (Mine.fB 6), scope := Mine.fS 6, globals := 3, closure := [], defaults := Value.none, kwdefaults := Value.none, pyModule := Value.str (Str.ofString "cpy313._pylong") 187, code := Value.ref 48 } }) :: (nat_lit 50, { cls := Value.type "tuple", data := Data.seq #[] }) :: (nat_lit 52, { cls := Value.type "tuple", data := Data.seq #[Value.str (Str.ofString "addr") 264, Value.str (Str.ofString "pos") 265, Value.str (Str.ofString "escape") 266, Value.str (Str.ofString "ch") 267] }) :: (nat_lit 53, { cls := Value.type "tuple", data := Data.seq #[] }) :: (nat_lit 55, { cls := Value.type "code", data := Data.fields #[Value.str (Str.ofString "_iter_escaped_chars") 261, Value.str (Str.ofString "_iter_escaped_chars") 262, Value.str (Str.ofString "/claim/cut.py") 263, Value.int 66 0, Value.int 1 0, Value.int 0 0, Value.int 0 0, Value.int 35 0, Value.ref 50, Value.bool true, Value.int 181 0, Value.ref 51, Value.none, Value.ref 52, Value.ref 53, Value.ref 54, Value.int 268 0, Value.int 66 0, Value.str (Str.ofString "/claim/cut.py") 269] }) :: (nat_lit 56, { cls := Value.type "function", data := Data.func { name := Str.ofString "_iter_escaped_chars", qualname := Str.ofString "_iter_escaped_chars", params := Mine.fP 8, body := FuncBody.stmts (Mine.fB 8), scope := Mine.fS 8, globals := 3, closure := [], defaults := Value.none, kwdefaults := Value.none, pyModule := Value.str (Str.ofString "cpy313.email.utils") 259, code := Value.ref 55 } }) :: (nat_lit 57, { cls := Value.type "tuple", data := Data.seq #[] }) :: (nat_lit 59, { cls := Value.type "tuple", data := Data.seq #[Value.str (Str.ofString "addr") 274, Value.str (Str.ofString "start") 275, Value.str (Str.ofString "open_pos") 276, Value.str (Str.ofString "result") 277, Value.str (Str.ofString "pos") 278, Value.str (Str.ofString "ch") 279] }) :: (nat_lit 60, { cls := Value.type "tuple", data := Data.seq #[] }) :: (nat_lit 62, { cls := Value.type "code", data := Data.fields #[Value.str (Str.ofString "_strip_quoted_realnames") 271, Value.str (Str.ofString "_strip_quoted_realnames") 272, Value.str (Str.ofString "/claim/cut.py") 273, Value.int 79 0, Value.int 1 0, Value.int 0 0, Value.int 0 0, Value.int 3 0, Value.ref 57, Value.bool true, Value.int 181 0, Value.ref 58, Value.none, Value.ref 59, Value.ref 60, Value.ref 61, Value.int 280 0, Value.int 79 0, Value.str (Str.ofString "/claim/cut.py") 281] }) :: (nat_lit 63, { cls := Value.type "function", data := Data.func { name := Str.ofString "_strip_quoted_realnames", qualname := Str.ofString "_strip_quoted_realnames", params := Mine.fP 9, body := FuncBody.stmts (Mine.fB 9), scope := Mine.fS 9, globals := 3, closure := [], defaults := Value.none, kwdefaults := Value.none, pyModule := Value.str (Str.ofString "cpy313.email.utils") 259, code := Value.ref 62 } }) :: (nat_lit 64, { cls := Value.type "tuple", data := Data.seq #[] }) :: (nat_lit 66, { cls := Value.type "tuple", data := Data.seq #[Value.str (Str.ofString "addr") 286, Value.str (Str.ofString "opens") 287, Value.str (Str.ofString "pos") 288, Value.str (Str.ofString "ch") 289] }) :: (nat_lit 67, { cls := Value.type "tuple", data := Data.seq #[] }) :: (nat_lit 69, { cls := Value.type "code", data := Data.fields #[Value.str (Str.ofString "_check_parenthesis") 283, Value.str (Str.ofString "_check_parenthesis") 284, Value.str (Str.ofString "/claim/cut.py") 285, Value.int 97 0, Value.int 1 0, Value.int 0 0, Value.int 0 0, Value.int 3 0, Value.ref 64, Value.bool true, Value.int 181 0, Value.ref 65, Value.none, Value.ref 66, Value.ref 67, Value.ref 68, Value.int 290 0, Value.int 97 0, Value.str (Str.ofString "/claim/cut.py") 291] }) :: (nat_lit 70, { cls := Value.type "function", data := Data.func { name := Str.ofString "_check_parenthesis", qualname := Str.ofString "_check_parenthesis", params := Mine.fP 10, body := FuncBody.stmts (Mine.fB 10), scope := Mine.fS 10, globals := 3, closure := [], defaults := Value.none, kwdefaults := Value.none, pyModule := Value.str (Str.ofString "cpy313.email.utils") 259, code := Value.ref 69 } }) :: (nat_lit 71, { cls := Value.type "tuple", data := Data.seq #[] }) :: (nat_lit 73, { cls := Value.type "tuple", data := Data.seq #[Value.str (Str.ofString "a") 298, Value.str (Str.ofString "b") 299] }) :: (nat_lit 74, { cls := Value.type "tuple", data := Data.seq #[] }) :: (nat_lit 76, { cls := Value.type "code", data := Data.fields #[Value.str (Str.ofString "_strcoll") 295, Value.str (Str.ofString "_strcoll") 296, Value.str (Str.ofString "/claim/cut.py") 297, Value.int 109 0, Value.int 2 0, Value.int 0 0, Value.int 0 0, Value.int 3 0, Value.ref 71, Value.bool true, Value.int 181 0, Value.ref 72, Value.none, Value.ref 73, Value.ref 74, Value.ref 75, Value.int 300 0, Value.int 109 0, Value.str (Str.ofString "/claim/cut.py") 301] }) :: (nat_lit 77, { cls := Value.type "function", data := Data.func { name := Str.ofString "_strcoll", qualname := Str.ofString "_strcoll", params := Mine.fP 12, body := FuncBody.stmts (Mine.fB 12), scope := Mine.fS 12, globals := 3, closure := [], defaults := Value.none, kwdefaults := Value.none, pyModule := Value.str (Str.ofString "cpy313.locale") 293, code := Value.ref 76 } }) :: (nat_lit 78, { cls := Value.type "tuple", data := Data.seq #[] }) :: (nat_lit 80, { cls := Value.type "tuple", data := Data.seq #[Value.str (Str.ofString "grouping") 308, Value.str (Str.ofString "last_interval") 309, Value.str (Str.ofString "interval") 310] }) :: (nat_lit 81, { cls := Value.type "tuple", data := Data.seq #[] }) :: (nat_lit 83, { cls := Value.type "code", data := Data.fields #[Value.str (Str.ofString "_grouping_intervals") 305, Value.str (Str.ofString "_grouping_intervals") 306, Value.str (Str.ofString "/claim/cut.py") 307, Value.int 112 0, Value.int 1 0, Value.int 0 0, Value.int 0 0, Value.int 35 0, Value.ref 78, Value.bool true, Value.int 181 0, Value.ref 79, Value.none, Value.ref 80, Value.ref 81, Value.ref 82, Value.int 311 0, Value.int 112 0, Value.str (Str.ofString "/claim/cut.py") 312] }) :: (nat_lit 84, { cls := Value.type "function", data := Data.func { name := Str.ofString "_grouping_intervals", qualname := Str.ofString "_grouping_intervals", params := Mine.fP 14, body := FuncBody.stmts (Mine.fB 14), scope := Mine.fS 14, globals := 3, closure := [], defaults := Value.none, kwdefaults := Value.none, pyModule := Value.str (Str.ofString "cpy313.locale") 293, code := Value.ref 83 } }) :: (nat_lit 85, { cls := Value.type "tuple", data := Data.seq #[] }) :: (nat_lit 88, { cls := Value.type "code", data := Data.fields #[Value.str (Str.ofString "_law_words") 316, Value.str (Str.ofString "_law_words") 317, Value.str (Str.ofString "/claim/cut.py") 318, Value.int 125 0, Value.int 1 0, Value.int 0 0, Value.int 0 0, Value.int 3 0, Value.ref 85, Value.bool true, Value.int 181 0, Value.ref 86, Value.none, Value.none, Value.none, Value.ref 87, Value.int 319 0, Value.int 125 0, Value.str (Str.ofString "/claim/cut.py") 320] }) :: (nat_lit 89, { cls := Value.type "function", data := Data.func { name := Str.ofString "_law_words", qualname := Str.ofString "_law_words", params := Mine.fP 16, body := FuncBody.stmts (Mine.fB 16), scope := Mine.fS 16, globals := 3, closure := [], defaults := Value.none, kwdefaults := Value.none, pyModule := Value.str (Str.ofString "law_ul0006_01") 314, code := Value.ref 88 } }) :: (nat_lit 90, { cls := Value.type "tuple", data := Data.seq #[] }) :: (nat_lit 92, { cls := Value.type "tuple", data := Data.seq #[Value.str (Str.ofString "word") 325, Value.str (Str.ofString "rows") 326, Value.str (Str.ofString "filled") 327, Value.str (Str.ofString "k") 328] }) :: (nat_lit 93, { cls := Value.type "tuple", data := Data.seq #[] }) :: (nat_lit 95, { cls := Value.type "code", data := Data.fields #[Value.str (Str.ofString "_law_fills") 322, Value.str (Str.ofString "_law_fills") 323, Value.str (Str.ofString "/claim/cut.py") 324, Value.int 130 0, Value.int 2 0, Value.int 0 0, Value.int 0 0, Value.int 3 0, Value.ref 90, Value.bool true, Value.int 181 0, Value.ref 91, Value.none, Value.ref 92, Value.ref 93, Value.ref 94, Value.int 329 0, Value.int 130 0, Value.str (Str.ofString "/claim/cut.py") 330] }) :: (nat_lit 96, { cls := Value.type "function", data := Data.func { name := Str.ofString "_law_fills", qualname := Str.ofString "_law_fills", params := Mine.fP 17, body := FuncBody.stmts (Mine.fB 17), scope := Mine.fS 17, globals := 3, closure := [], defaults := Value.none, kwdefaults := Value.none, pyModule := Value.str (Str.ofString "law_ul0006_01") 314, code := Value.ref 95 } }) :: (nat_lit 97, { cls := Value.type "tuple", data := Data.seq #[] }) :: (nat_lit 99, { cls := Value.type "tuple", data := Data.seq #[Value.str (Str.ofString "word") 335, Value.str (Str.ofString "rows") 336, Value.str (Str.ofString "hidden") 337, Value.str (Str.ofString "letters") 338, Value.str (Str.ofString "text") 339, Value.str (Str.ofString "k") 340, Value.str (Str.ofString "own") 341] }) :: (nat_lit 100, { cls := Value.type "tuple", data := Data.seq #[] }) :: (nat_lit 102, { cls := Value.type "code", data := Data.fields #[Value.str (Str.ofString "_law_text") 332, Value.str (Str.ofString "_law_text") 333, Value.str (Str.ofString "/claim/cut.py") 334, Value.int 137 0, Value.int 4 0, Value.int 0 0, Value.int 0 0, Value.int 3 0, Value.ref 97, Value.bool true, Value.int 181 0, Value.ref 98, Value.none, Value.ref 99, Value.ref 100, Value.ref 101, Value.int 342 0, Value.int 137 0, Value.str (Str.ofString "/claim/cut.py") 343] }) :: (nat_lit 103, { cls := Value.type "function", data := Data.func { name := Str.ofString "_law_text", qualname := Str.ofString "_law_text", params := Mine.fP 18, body := FuncBody.stmts (Mine.fB 18), scope := Mine.fS 18, globals := 3, closure := [], defaults := Value.none, kwdefaults := Value.none, pyModule := Value.str (Str.ofString "law_ul0006_01") 314, code := Value.ref 102 } }) :: (nat_lit 104, { cls := Value.type "tuple", data := Data.seq #[] }) :: (nat_lit 107, { cls := Value.type "code", data := Data.fields #[Value.str (Str.ofString "_law_hooks") 345, Value.str (Str.ofString "_law_hooks") 346, Value.str (Str.ofString "/claim/cut.py") 347, Value.int 145 0, Value.int 1 0, Value.int 0 0, Value.int 0 0, Value.int 3 0, Value.ref 104, Value.bool true, Value.int 181 0, Value.ref 105, Value.none, Value.none, Value.none, Value.ref 106, Value.int 348 0, Value.int 145 0, Value.str (Str.ofString "/claim/cut.py") 349] }) :: (nat_lit 108, { cls := Value.type "function", data := Data.func { name := Str.ofString "_law_hooks", qualname := Str.ofString "_law_hooks", params := Mine.fP 19, body := FuncBody.stmts (Mine.fB 19), scope := Mine.fS 19, globals := 3, closure := [], defaults := Value.none, kwdefaults := Value.none, pyModule := Value.str (Str.ofString "law_ul0006_01") 314, code := Value.ref 107 } }) :: (nat_lit 109, { cls := Value.type "tuple", data := Data.seq #[] }) :: (nat_lit 111, { cls := Value.type "tuple", data := Data.seq #[Value.str (Str.ofString "sizes") 354, Value.str (Str.ofString "width") 355, Value.str (Str.ofString "product") 356, Value.str (Str.ofString "size") 357] }) :: (nat_lit 112, { cls := Value.type "tuple", data := Data.seq #[] }) :: (nat_lit 114, { cls := Value.type "code", data := Data.fields #[Value.str (Str.ofString "_law_product") 351, Value.str (Str.ofString "_law_product") 352, Value.str (Str.ofString "/claim/cut.py") 353, Value.int 151 0, Value.int 2 0, Value.int 0 0, Value.int 0 0, Value.int 3 0, Value.ref 109, Value.bool true, Value.int 181 0, Value.ref 110, Value.none, Value.ref 111, Value.ref 112, Value.ref 113, Value.int 358 0, Value.int 151 0, Value.str (Str.ofString "/claim/cut.py") 359] }) :: (nat_lit 115, { cls := Value.type "function", data := Data.func { name := Str.ofString "_law_product", qualname := Str.ofString "_law_product", params := Mine.fP 20, body := FuncBody.stmts (Mine.fB 20), scope := Mine.fS 20, globals := 3, closure := [], defaults := Value.none, kwdefaults := Value.none, pyModule := Value.str (Str.ofString "law_ul0006_01") 314, code := Value.ref 114 } }) :: (nat_lit 116, { cls := Value.type "tuple", data := Data.seq #[] }) :: (nat_lit 119, { cls := Value.type "code", data := Data.fields #[Value.str (Str.ofString "_law_counts") 361, Value.str (Str.ofString "_law_counts") 362, Value.str (Str.ofString "/claim/cut.py") 363, Value.int 156 0, Value.int 2 0, Value.int 0 0, Value.int 0 0, Value.int 3 0, Value.ref 116, Value.bool true, Value.int 181 0, Value.ref 117, Value.none, Value.none, Value.none, Value.ref 118, Value.int 364 0, Value.int 156 0, Value.str (Str.ofString "/claim/cut.py") 365] }) :: (nat_lit 120, { cls := Value.type "function", data := Data.func { name := Str.ofString "_law_counts", qualname := Str.ofString "_law_counts", params := Mine.fP 21, body := FuncBody.stmts (Mine.fB 21), scope := Mine.fS 21, globals := 3, closure := [], defaults := Value.none, kwdefaults := Value.none, pyModule := Value.str (Str.ofString "law_ul0006_01") 314, code := Value.ref 119 } }) :: (nat_lit 121, { cls := Value.type "tuple", data := Data.seq #[] }) :: (nat_lit 124, { cls := Value.type "code", data := Data.fields #[Value.str (Str.ofString "law") 367, Value.str (Str.ofString "law") 368, Value.str (Str.ofString "/claim/cut.py") 369, Value.int 158 0, Value.int 1 0, Value.int 0 0, Value.int 0 0, Value.int 3 0, Value.ref 121, Value.bool true, Value.int 181 0, Value.ref 122, Value.none, Value.none, Value.none, Value.ref 123, Value.int 370 0, Value.int 158 0, Value.str (Str.ofString "/claim/cut.py") 371] }) :: (nat_lit 125, { cls := Value.type "function", data := Data.func { name := Str.ofString "law", qualname := Str.ofString "law", params := Mine.fP 22, body := FuncBody.stmts (Mine.fB 22), scope := Mine.fS 22, globals := 3, closure := [], defaults := Value.none, kwdefaults := Value.none, pyModule := Value.str (Str.ofString "law_ul0006_01") 314, code := Value.ref 124 } }) :: []
/-- the statements that lay a name once -/
def hd.view_39 : Program := { PySem.Challenge.rw_ul0006_01.row.toRowW.1 with main := { PySem.Challenge.rw_ul0006_01.row.toRowW.1.main with body := [1, 2, 3, 4, 5, 6, 8, 9, 10, 12, 13, 14, 16, 17, 18, 19, 20, 21, 22].flatMap stAt } }
def asL : List Addr := [2, 3, 6, 15, 17, 18, 20, 21, 22, 24, 25, 27, 28, 29, 31, 32, 34, 35, 36, 38, 39, 41, 42, 43, 45, 46, 48, 49, 50, 52, 53, 55, 56, 57, 59, 60, 62, 63, 64, 66, 67, 69, 70, 71, 73, 74, 76, 77, 78, 80, 81, 83, 84, 85, 88, 89, 90, 92, 93, 95, 96, 97, 99, 100, 102, 103, 104, 107, 108, 109, 111, 112, 114, 115, 116, 119, 120, 121, 124, 125]
theorem as_eq : ∀ P, asL = (hd.heap_39 P).map (·.1) := fun _ => by kernel_rfl
noncomputable abbrev HH : Hook := kmHook hd.heap_39 asL as_eq [37, 30]
set_option maxRecDepth 100000 in
theorem left0 : LeftO PySem.Challenge.rw_ul0006_01.row.prog hd.view_39 [] (fun s => xlAt hd.view_39 [] s && recOk (RowW.records PySem.Challenge.rw_ul0006_01.row.toRowW) s) (Hook.obs HH) (Hook.val HH) 1314 := fun w => by kernel_rfl
def lawD : DefRec := { name := Str.ofString "law", params := fP 22, body := fB 22, scope := fS 22, pos := fPos 22 }
set_option maxRecDepth 100000 in
theorem lawDef : defOf hd.view_39 PySem.Challenge.rw_ul0006_01.row.name = some (lawD, []) := by kernel_rfl
set_option maxRecDepth 100000 in
theorem saidLooks : looksOpen PySem.Challenge.rw_ul0006_01.row.prog = true := (congrFun PySem.W.Fast.te12908688711261696721 _).trans (by kernel_rfl)
set_option maxRecDepth 100000 in
theorem lawSaid : PySem.Challenge.rw_ul0006_01.wellSaid = true := by
  unfold OpenLaw.wellSaid OpenRow.wellSaid OpenRow.partSaid
  rw [saidLooks, PySem.W.Fast.named_eq, PySem.W.Fast.te8326940854005059898, PySem.W.Fast.te17119622794617984870]
  kernel_rfl
set_option maxRecDepth 100000 in
theorem lawThe : PySem.Challenge.rw_ul0006_01.row.prog.theDef PySem.Challenge.rw_ul0006_01.row.name = some (lawD.params, lawD.body, lawD.scope) := by kernel_rfl
set_option maxRecDepth 100000 in
theorem lawKw : kwWritten? lawD.params.kwonlyargs lawD.params.kw_defaults = some [] := by kernel_rfl
set_option maxRecDepth 100000 in
theorem lawOk : (chainsOk hd.view_39 && opensWell PySem.Challenge.rw_ul0006_01.row.prog && (frees PySem.Challenge.rw_ul0006_01.row.toRowW && PySem.Challenge.rw_ul0006_01.row.within.isEmpty)) = true := by kernel_rfl
set_option maxRecDepth 100000 in
theorem lawBare : PySem.Challenge.rw_ul0006_01.row.prog.bare := ⟨rfl, rfl, rfl, rfl, rfl, by decide +kernel⟩
set_option maxRecDepth 100000 in
theorem lawPromised : PySem.Challenge.rw_ul0006_01.row.toRowW.promised := by w_witness2
set_option maxRecDepth 100000 in
theorem hd (call : WalkO hd.view_39 [] (XL hd.view_39 []) (Hook.says (kmHook hd.heap_39 asL as_eq [37, 30])) PySem.Challenge.rw_ul0006_01.row.toRowW lawD [] fun f vs => PySem.call f vs) : PySem.Challenge.rw_ul0006_01.Holds :=
  holds_law lawSaid fun said => holds_open (q := hd.view_39) (loose := []) (Xt := fun s => xlAt hd.view_39 [] s && recOk (RowW.records PySem.Challenge.rw_ul0006_01.row.toRowW) s) (XP := XL hd.view_39 []) (Yf := Hook.obs HH) (Ya := Hook.val HH) (YP := Hook.says HH) (N := 1314)
    left0 (Hook.of HH) (Hook.keeps HH) (fun s e => xl_of s (Bool.and_eq_true_iff.mp e).1) XL.keeps lawDef lawThe lawKw (fun s e => recFacts_of (Bool.and_eq_true_iff.mp e).2) rfl said lawOk lawBare lawPromised call
end Mine
namespace Mine
theorem ar0 {x0 : Nat}  : (x0 + (1 : Nat)) ≠ (((x0 + (1 : Nat)) + (1 : Nat)) + (1 : Nat)) := by lia
theorem ar1 {x0 : Nat} {x1 : Int} (h0 : x1 ≤ ((64 : Int) * (40000 : Int))) (h1 : ((x0 : Nat) : Int) ≤ ((40000 : Int) + ((64 : Int) * (40002 : Int)))) : (((x0 : Nat) : Int) + x1) ≤ ((2 : Int) ^ 27) := by lia
theorem ar2 {x0 : Int} {x1 : Int} {x2 : Int} {x3 : Int} (h0 : (0 : Int) ≤ x0) (h1 : x1 = ((x0 + x3) / (2 : Int))) (h2 : x0 < x3) (h3 : x3 ≤ x2) (h4 : (x0 + (1 : Int)) ≠ x3) : ((0 : Int) ≤ x0) ∧ ((x0 < x1) ∧ (x1 ≤ x2)) := by lia
theorem ar3 {x0 : Int} {x1 : Int} {x2 : Int} {x3 : Int} {x4 : Int} {x5 : Int} {x6 : Int} {x7 : Int} {x8 : Int} (h0 : x1 < x4) (h1 : x0 ≤ x5) (h2 : x5 = ((x6 + x7) - x4)) (h3 : x3 = (x6 + x8)) (h4 : x2 = (x7 - x8)) : ((x0 + x1) - x2) < x3 := by lia
theorem ar4 {x0 : Nat} {x1 : Int} {x2 : Int} {x3 : Int} (h0 : (x1 + x2) = ((((x0 : Nat) : Int) + x3) - (1 : Int))) (h1 : x2 < x3) : ((x0 : Nat) : Int) ≤ x1 := by lia
theorem ar5 {x0 : Int} (h0 : x0 ≤ (1204 : Int)) : x0 ≤ (40000 : Int) := Int.le_trans h0 (by decide)
theorem ar6 {x0 : Nat} {x1 : Nat} {x2 : Nat} (h0 : x0 = x1) (h1 : x1 < x2) (h2 : x2 ≤ (64 : Nat)) : x0 ≤ (16777216 : Nat) := by lia
theorem ar7 {x0 : Int} (h0 : x0 < (1205 : Int)) : x0 ≤ (1204 : Int) := Int.le_of_lt_add_one h0
theorem ar8   : (0 : Int) ≤ (0 : Int) := Int.le_refl _
theorem ar9 {x0 : Int} {x1 : Int} (h0 : x0 < x1) : x0 ≤ (x1 - (1 : Int)) := Int.le_sub_one_of_lt h0
theorem ar10 {x0 : Int} (h0 : x0 ≤ (6 : Int)) : (Int.toNat x0) ≤ (64 : Nat) := by lia
theorem ar11 {x0 : Nat} (h0 : x0 ≤ (1000 : Nat)) : ((x0 : Nat) : Int) < ((2 : Int) ^ 62) := by lia
theorem ar12 {x0 : Nat} {x1 : Nat} (h0 : x0 = x1) (h1 : x1 ≤ (64 : Nat)) : x0 < ((2 : Nat) ^ 62) := by lia
theorem ar13 {x0 : Int} {x1 : Int} {x2 : Int} {x3 : Int} {x4 : Int} {x5 : Int} {x6 : Int} {x7 : Int} (h0 : (0 : Int) ≤ x2) (h1 : x1 < x4) (h2 : x0 ≤ x5) (h3 : x5 = (x6 - x4)) (h4 : x3 = (x6 + x7)) (h5 : (0 : Int) ≤ x7) : ((x0 + x1) - x2) < x3 := by lia
theorem ar14 {x0 : Nat} {x1 : Nat} (h0 : (x0 + (4 : Nat)) < x1) : x0 < x1 := by lia
theorem ar15 {x0 : Int} {x1 : Nat} (h0 : ((x1 : Nat) : Int) = x0) : (Int.toNat (x0 - (0 : Int))) = x1 := by lia
theorem ar16 {x0 : Int} {x1 : Int} {x2 : Int}  : (Int.toNat (((((Int.toNat ((192 : Int) + (x0 % (1000 : Int)))) : Nat) : Int) + (1 : Int)) + (x1 % (500 : Int)))) < (Int.toNat (((((Int.toNat (((((Int.toNat ((192 : Int) + (x0 % (1000 : Int)))) : Nat) : Int) + (1 : Int)) + (x1 % (500 : Int)))) : Nat) : Int) + (1 : Int)) + (x2 % (500 : Int)))) := by lia
theorem ar17   : (0 : Int) < (((((((((((1 : Nat) + (1 : Nat)) + (1 : Nat)) + (1 : Nat)) + (1 : Nat)) + (1 : Nat)) + (1 : Nat)) + (1 : Nat)) + (1 : Nat)) : Nat) : Int) := by decide
theorem ar18 {x0 : Int} {x1 : Nat} {x2 : Nat} (h0 : x1 = (3 : Nat)) (h1 : ((0 : Int) ≤ x0) ∧ (x0 < ((x2 : Nat) : Int))) (h2 : x2 ≤ (3 : Nat)) : ((0 : Int) ≤ x0) ∧ (x0 < ((x1 : Nat) : Int)) := by lia
theorem ar19 {x0 : Int} (h0 : (1 : Int) ≤ x0) : x0 = ((((Int.toNat (x0 - (1 : Int))) + (1 : Nat)) : Nat) : Int) := by lia
theorem ar20 {x0 : Nat} {x1 : Nat} (h0 : (x0 + (200 : Nat)) < x1) : x0 < x1 := by lia
theorem ar21 {x0 : Int} (h0 : x0 < (1205 : Int)) : x0 ≤ (40000 : Int) := by lia
theorem ar22 {x0 : Int} {x1 : Int} (h0 : ((1 : Int) ≤ x0) ∧ (x0 ≤ (((2 : Int) * x1) - (1 : Int)))) : x0 < (x1 * (2 : Int)) := by lia
theorem ar23 {x0 : Int} {x1 : Nat} (h0 : x0 < ((x1 : Nat) : Int)) (h1 : x1 ≤ (3 : Nat)) : x0 < ((2 : Int) ^ 63) := by lia
theorem ar24 {x0 : Nat} {x1 : Nat} {x2 : Nat} (h0 : x1 < x2) (h1 : x2 < x0) : (x0 + (2 : Nat)) ≠ x1 := by lia
theorem ar25 {x0 : Int} {x1 : Nat} {x2 : Int} (h0 : x0 = (((x1 : Nat) : Int) + (1 : Int))) (h1 : x1 < (Int.toNat (x2 - (1 : Int)))) (h2 : x2 ≤ (6 : Int)) : x0 < ((2 : Int) ^ 63) := by lia
theorem ar26 {x0 : Int} {x1 : Nat} {x2 : Int} {x3 : Nat} (h0 : ((x1 : Nat) : Int) = x2) (h1 : x0 = (((x3 : Nat) : Int) + (1 : Int))) (h2 : x3 < (Int.toNat (x2 - (1 : Int)))) : (Int.toNat x0) < x1 := by lia
theorem ar27 {x0 : Nat}  : x0 ≠ (x0 + (2 : Nat)) := Nat.ne_of_lt (Nat.lt_add_of_pos_right (by decide))
theorem ar28 {x0 : Nat} {x1 : Nat} {x2 : Nat} {x3 : Prop} (h0 : x2 < x0) (h1 : ((((x1 + (1 : Nat)) + (1 : Nat)) + (1 : Nat)) < x2) ∧ ((((x1 + (1 : Nat)) + (1 : Nat)) < x2) ∧ (((x1 + (1 : Nat)) < x2) ∧ (((37 : Nat) < x2) ∧ (x3))))) : x0 ≠ (((x1 + (1 : Nat)) + (1 : Nat)) + (1 : Nat)) := by lia
theorem ar29 {x0 : Nat}  : (x0 + (2 : Nat)) ≠ x0 := Nat.ne_of_gt (Nat.lt_add_of_pos_right (by decide))
theorem ar30   : (((4 : Nat) + (3 : Nat)) + (800 : Nat)) < (9900 : Nat) := by decide
theorem ar31 {x0 : Nat} {x1 : Nat} {x2 : Nat} (h0 : x1 ≤ (3 : Nat)) (h1 : x0 ≤ ((20 : Nat) * x2)) (h2 : x2 < (3 : Nat)) : (x0 + x1) ≤ (16777216 : Nat) := by lia
theorem ar32 {x0 : Int} (h0 : x0 ≤ (6 : Int)) : x0 ≤ (1000 : Int) := Int.le_trans h0 (by decide)
theorem ar33 {x0 : Int} {x1 : Int} (h0 : ((1 : Int) ≤ x0) ∧ (x0 ≤ (((2 : Int) * x1) - (1 : Int)))) : (0 : Int) ≤ x0 := Int.le_of_lt (h0.1)
theorem ar34   : (0 : Nat) ≤ (16777216 : Nat) := by decide
theorem ar35 {x0 : Int} (h0 : (0 : Int) < x0) : (0 : Int) ≤ x0 := Int.le_of_lt (h0)
theorem ar36 {x0 : Nat} {x1 : Int} (h0 : ((x0 : Nat) : Int) = x1) : ((x0 : Nat) : Int) ≤ x1 := by lia
theorem ar37 {x0 : Nat} {x1 : Nat} {x2 : Nat} (h0 : x0 ≤ ((20 : Nat) * x2)) (h1 : x1 ≤ (3 : Nat)) : (x0 + x1) ≤ (((20 : Nat) * x2) + (3 : Nat)) := by lia
theorem ar38 {x0 : Nat} (h0 : x0 ≤ (63 : Nat)) : x0 ≤ (16777216 : Nat) := Nat.le_trans h0 (by decide)
theorem ar39 {x0 : Int} (h0 : (0 : Int) < x0) : x0 ≠ (0 : Int) := Int.ne_of_gt h0
theorem ar40 {x0 : Nat} {x1 : Nat} (h0 : (x0 + (4 : Nat)) < x1) : (x0 + (3 : Nat)) < x1 := Nat.le_of_lt (h0)
theorem ar41 {x0 : Nat} {x1 : Nat} {x2 : Nat} (h0 : (x0 < x2) ∨ (((x2 + (3 : Nat)) < x0) ∧ (x0 < x1))) (h1 : (x2 + (4 : Nat)) < x1) : x0 < x1 := by lia
theorem ar42 {x0 : Int} {x1 : Nat} (h0 : x0 = (((x1 + (1 : Nat)) : Nat) : Int)) : (Int.toNat (x0 - (1 : Int))) = x1 := by lia
theorem ar43 {x0 : Int} {x1 : Nat} {x2 : Nat} (h0 : x1 = (3 : Nat)) (h1 : x0 < ((x2 : Nat) : Int)) (h2 : x2 ≤ (3 : Nat)) : (Int.toNat x0) < x1 := by lia
theorem ar44 {x0 : Int} {x1 : Int} {x2 : Int} {x3 : Int} {x4 : Int} (h0 : x1 < x3) (h1 : x4 = (x2 - x3)) (h2 : x0 ≤ x4) : (x0 + x1) < x2 := by lia
theorem ar45 {x0 : Int} {x1 : Nat} {x2 : Int} {x3 : Nat} (h0 : x1 = (Int.toNat x2)) (h1 : x0 = (((x3 : Nat) : Int) + (1 : Int))) (h2 : x3 < (Int.toNat (x2 - (1 : Int)))) : (Int.toNat x0) < x1 := by lia
theorem ar46 {x0 : Int} {x1 : Nat} {x2 : Nat} (h0 : x0 ≤ ((x2 : Nat) : Int)) (h1 : x1 = x2) : x0 ≤ ((x1 : Nat) : Int) := h1 ▸ h0
theorem ar47 {x0 : Int} {x1 : Int} (h0 : x1 = x0) (h1 : (3 : Int) ≤ x1) (h2 : x1 ≤ (6 : Int)) : (x0 = (3 : Int)) ∨ ((x0 = (4 : Int)) ∨ ((x0 = (5 : Int)) ∨ (x0 = (6 : Int)))) := by lia
theorem ar48 {x0 : Int} (h0 : x0 ≤ (16000 : Int)) : (x0 / (2 : Int)) ≤ (16000 : Int) := by lia
theorem ar49 {x0 : Nat} {x1 : Nat} {x2 : Nat} {x3 : Prop} (h0 : (x2 < x1) ∧ (((((x0 + (1 : Nat)) + (1 : Nat)) + (1 : Nat)) < x1) ∧ ((((x0 + (1 : Nat)) + (1 : Nat)) < x1) ∧ (((x0 + (1 : Nat)) < x1) ∧ (((30 : Nat) < x1) ∧ (x3)))))) : (((x0 + (1 : Nat)) + (1 : Nat)) + (1 : Nat)) < x1 := h0.2.1
theorem ar50 {x0 : Nat} {x1 : Nat} {x2 : Nat} (h0 : (x0 < x1) ∨ (((x1 + (3 : Nat)) < x0) ∧ (x0 < x2))) : x0 ≠ (x1 + (2 : Nat)) := by lia
theorem ar51   : (((0 : Nat) + (1 : Nat)) + (1 : Nat)) ≤ (16777216 : Nat) := by decide
theorem ar52   : (0 : Int) < ((2 : Int) ^ 63) := by decide
theorem ar53 {x0 : Nat} {x1 : Nat} {x2 : Nat} {x3 : Nat} (h0 : x0 ≤ x3) (h1 : x1 ≤ x2) : (x0 + x1) ≤ (x2 + x3) := by lia
theorem ar54 {x0 : Int} {x1 : Nat} (h0 : ((x1 : Nat) : Int) = x0) (h1 : x1 ≤ (16000 : Nat)) : x0 ≤ (40000 : Int) := by lia
theorem ar55 {x0 : Int} {x1 : Nat} (h0 : (Int.toNat (x0 - (0 : Int))) = x1) (h1 : x1 ≤ (64 : Nat)) : x0 < ((2 : Int) ^ 63) := by lia
theorem ar56   : (-((2 : Int) ^ 62)) ≤ (0 : Int) := by decide
theorem ar57 {x0 : Nat} {x1 : Nat} (h0 : (x0 + (4 : Nat)) < x1) : (x0 + (1 : Nat)) < x1 := by lia
theorem ar58 {x0 : Nat} {x1 : Int} {x2 : Int} {x3 : Nat} {x4 : Int} (h0 : (x0 + ((Int.toNat (x4 - x2)) + (1 : Nat))) < x3) (h1 : x1 = ((x2 + x4) / (2 : Int))) (h2 : x2 < x4) : ((x0 + (1 : Nat)) + ((Int.toNat (x1 - x2)) + (1 : Nat))) < x3 := by lia
theorem ar59 {x0 : Nat} {x1 : Nat} {x2 : Nat} {x3 : Prop} (h0 : (x0 < x1) ∧ (((((x2 + (1 : Nat)) + (1 : Nat)) + (1 : Nat)) < x1) ∧ ((((x2 + (1 : Nat)) + (1 : Nat)) < x1) ∧ (((x2 + (1 : Nat)) < x1) ∧ (((30 : Nat) < x1) ∧ (x3)))))) : x0 < x1 := h0.1
theorem ar60 {x0 : Int} (h0 : (1 : Int) ≤ x0) : (0 : Int) ≤ x0 := Int.le_of_lt (h0)
theorem ar61 {x0 : Int} {x1 : Int} {x2 : Int} (h0 : x0 ≤ ((4000 : Int) * x2)) (h1 : x2 = ((2 : Int) * x1)) : (x0 / (2 : Int)) ≤ ((4000 : Int) * x1) := by lia
theorem ar62 {x0 : Int} {x1 : Nat} {x2 : Nat} (h0 : (0 : Int) ≤ x0) (h1 : x1 = x2) (h2 : x0 < ((x2 : Nat) : Int)) : (Int.toNat x0) < x1 := by lia
theorem ar64 {x0 : Nat} {x1 : Prop} (h0 : ((30 : Nat) < x0) ∧ (x1)) : (30 : Nat) ≠ (((x0 + (1 : Nat)) + (1 : Nat)) + (1 : Nat)) := by lia
theorem ar65 {x0 : Nat} {x1 : Nat} (h0 : (x0 + (4 : Nat)) < x1) : (x0 + (2 : Nat)) < x1 := by lia
theorem ar66 {x0 : Int} (h0 : (((Int.toNat x0) : Nat) : Int) = x0) : (0 : Int) ≤ x0 := by lia
theorem ar67 {x0 : Int} {x1 : Int} {x2 : Int} (h0 : x1 ≤ x0) (h1 : (0 : Int) < x2) : (0 : Int) ≤ ((x0 - x1) + x2) := by lia
theorem ar69   : (0 : Int) < ((2 : Int) ^ 62) := by decide
theorem ar70 {x0 : Int} (h0 : x0 ≤ (6 : Int)) : x0 ≤ ((2 : Int) ^ 24) := Int.le_trans h0 (by decide)
theorem ar71 {x0 : Nat}  : (x0 + (1 : Nat)) ≠ (x0 + (3 : Nat)) := by lia
theorem ar72 {x0 : Nat} {x1 : Nat} {x2 : Nat} (h0 : (x0 - x2) = (x1 + (1 : Nat))) : ((x0 - (1 : Nat)) - ((x1 + (1 : Nat)) - (1 : Nat))) = x2 := by lia
theorem ar73 {x0 : Int} (h0 : x0 ≤ (1000 : Int)) : x0 < ((2 : Int) ^ 62) := Int.lt_of_le_of_lt h0 (by decide)
theorem ar74 {x0 : Int} {x1 : Nat} (h0 : (Int.toNat x0) = (x1 + (1 : Nat))) (h1 : x1 < (3 : Nat)) : x0 < ((2 : Int) ^ 63) := by lia
theorem ar75 {x0 : Nat}  : (x0 + (1 : Nat)) ≤ (x0 + (3 : Nat)) := Nat.lt_add_of_pos_right (by decide)
theorem ar76 {x0 : Int}  : (x0 % (3 : Int)) < ((2 : Int) ^ 63) := by lia
theorem ar77 {x0 : Nat}  : x0 ≤ (x0 + (3 : Nat)) := Nat.le_add_right _ _
theorem ar78 {x0 : Int} (h0 : (0 : Int) ≤ x0) : (0 : Int) ≤ (x0 * (2 : Int)) := by lia
theorem ar79 {x0 : Nat} {x1 : Nat} {x2 : Nat} (h0 : (x0 + (((2 : Nat) * (x1 + (1 : Nat))) + (1 : Nat))) < x2) : ((x0 + (1 : Nat)) + (((2 : Nat) * x1) + (2 : Nat))) < x2 := by lia
theorem ar80 {x0 : Int} {x1 : Nat} {x2 : Int} {x3 : Int} (h0 : x2 ≤ ((x1 : Nat) : Int)) (h1 : x0 = ((x3 + x2) / (2 : Int))) (h2 : x3 < x2) : x0 ≤ ((x1 : Nat) : Int) := by lia
theorem ar81 {x0 : Nat} {x1 : Prop} (h0 : ((30 : Nat) < x0) ∧ (x1)) : (((x0 + (1 : Nat)) + (1 : Nat)) + (1 : Nat)) ≠ (30 : Nat) := by lia
theorem ar82 {x0 : Int} (h0 : ((0 : Int) ≤ x0) ∧ (x0 < (3 : Int))) : (x0 = (0 : Int)) ∨ ((x0 = (1 : Int)) ∨ (x0 = (2 : Int))) := by lia
theorem ar83 {x0 : Int} {x1 : Int} {x2 : Int} (h0 : x0 = ((x1 + x2) / (2 : Int))) (h1 : x1 < x2) : ((Int.toNat (x0 - x1)) + (1 : Nat)) < ((Int.toNat (x2 - x1)) + (1 : Nat)) := by lia
theorem ar84 {x0 : Nat} {x1 : Nat} (h0 : x0 = x1) (h1 : x1 ≤ (64 : Nat)) : ((x0 : Nat) : Int) < (9223372036854775808 : Int) := by lia
theorem ar85 {x0 : Nat} {x1 : Nat} (h0 : x0 ≤ ((60 : Nat) * x1)) (h1 : x1 ≤ (16000 : Nat)) : x0 ≤ (1000000 : Nat) := by lia
theorem ar86 {x0 : Int} {x1 : Int} (h0 : x0 = ((x1 + (1 : Int)) / (2 : Int))) (h1 : (1 : Int) ≤ x1) : (0 : Int) ≤ x0 := by lia
theorem ar87 {x0 : Int} {x1 : Nat} {x2 : Nat} {x3 : Int} {x4 : Int} (h0 : x1 = x2) (h1 : x3 ≤ ((x2 : Nat) : Int)) (h2 : x0 = ((x4 + x3) / (2 : Int))) (h3 : x4 < x3) : x0 ≤ ((x1 : Nat) : Int) := by lia
theorem ar88 {x0 : Nat} {x1 : Int} {x2 : Int} (h0 : x2 ≤ x1) (h1 : (Int.toNat x2) = x0) : x0 ≤ (Int.toNat x1) := by lia
theorem ar89 {x0 : Int} (h0 : (32 : Int) ≤ x0) : (1 : Int) ≤ x0 := Int.le_trans (by decide) h0
theorem ar90 {x0 : Int} (h0 : x0 < (10 : Int)) : x0 ≠ (127 : Int) := by lia
theorem ar91 {x0 : Int}  : (0 : Int) ≤ (x0 % (4 : Int)) := Int.emod_nonneg _ (by decide)
theorem ar92   : (((4 : Nat) + (3 : Nat)) + (3200 : Nat)) < (9900 : Nat) := by decide
theorem ar94 {x0 : Int} {x1 : Int} {x2 : Int} (h0 : x0 < (0 : Int)) (h1 : x2 < x1) (h2 : (0 : Int) ≤ x2) : (Int.toNat (-(x0 + x1))) < (Int.toNat (-x0)) := by lia
theorem ar95 {x0 : Int} {x1 : Nat} (h0 : x0 = (((x1 : Nat) : Int) + (1 : Int))) : (0 : Int) ≤ (x0 - (1 : Int)) := by lia
theorem ar96 {x0 : Int} (h0 : x0 ≤ ((2 : Int) ^ 24)) : x0 < ((2 : Int) ^ 63) := Int.lt_of_le_of_lt h0 (by decide)
theorem ar97 {x0 : Int} {x1 : Int} {x2 : Int} (h0 : x1 = ((x2 + x0) / (2 : Int))) (h1 : x2 < x0) (h2 : (x2 + (1 : Int)) ≠ x0) : ((Int.toNat (x0 - x1)) + (1 : Nat)) < ((Int.toNat (x0 - x2)) + (1 : Nat)) := by lia
theorem ar98 {x0 : Nat} {x1 : Nat} (h0 : (x0 + (300 : Nat)) < x1) : ((x0 + (1 : Nat)) + (200 : Nat)) < x1 := by lia
theorem ar100 {x0 : Nat} {x1 : Nat} {x2 : Nat} (h0 : (x0 + ((8 : Nat) * (((2 : Nat) * (x1 + (1 : Nat))) + (1 : Nat)))) < x2) : ((x0 + (3 : Nat)) + ((8 : Nat) * (((2 : Nat) * x1) + (2 : Nat)))) < x2 := by lia
theorem ar101 {x0 : Nat} {x1 : Nat} {x2 : Nat} (h0 : x0 ≤ x1) (h1 : x1 < x2) (h2 : x2 ≤ (729 : Nat)) : x0 ≤ (1000 : Nat) := by lia
theorem ar102 {x0 : Int} {x1 : Int} {x2 : Nat} (h0 : x0 ≤ x1) (h1 : (Int.toNat x0) = x2) : ((Int.toNat x0) + ((Int.toNat x1) - x2)) = (Int.toNat x1) := by lia
theorem ar103 {x0 : Int}  : (x0 % (4 : Int)) < (4 : Int) := Int.emod_lt_of_pos _ (by decide)
theorem ar104 {x0 : Nat}  : ((x0 + (1 : Nat)) + (1 : Nat)) = ((2 : Nat) + x0) := by lia
theorem ar106 {x0 : Int} {x1 : Int} {x2 : Nat} (h0 : (Int.natAbs x0) < x2) (h1 : ((x2 : Nat) : Int) = x1) : x0 < x1 := by lia
theorem ar107 {x0 : Nat} (h0 : (x0 + (1600 : Nat)) < (9900 : Nat)) : ((x0 + (3 : Nat)) + (800 : Nat)) < (9900 : Nat) := by lia
theorem ar108 {x0 : Nat} {x1 : Nat} (h0 : (x1 + (3 : Nat)) < x0) : (x0 + (1 : Nat)) ≠ (x1 + (3 : Nat)) := by lia
theorem ar109 {x0 : Int} (h0 : (2 : Int) ≤ x0) : (0 : Int) ≤ x0 := Int.le_trans (by decide) h0
theorem ar110 {x0 : Nat} {x1 : Nat} {x2 : Nat} {x3 : Nat} (h0 : (x0 < x2) ∨ (x0 = x1)) (h1 : (x3 + (3 : Nat)) < x1) (h2 : (x2 + (1 : Nat)) < x3) : x0 ≠ (x1 + (1 : Nat)) := by lia
theorem ar111 {x0 : Nat} {x1 : Nat} (h0 : x0 = x1) : x0 ≤ (x1 + (1 : Nat)) := by lia
theorem ar112 {x0 : Nat} {x1 : Nat} {x2 : Nat} {x3 : Nat} {x4 : Nat} (h0 : (x2 + (3 : Nat)) < x1) (h1 : (x3 + (1 : Nat)) < x2) (h2 : (x0 = (x3 + (1 : Nat))) ∨ ((x0 = x3) ∨ (((x1 + (2 : Nat)) ≤ x0) ∨ (x0 = x4)))) (h3 : x4 < x3) : x0 ≠ (x1 + (1 : Nat)) := by lia
theorem ar113 {x0 : Nat} {x1 : Nat} {x2 : Nat} (h0 : (x0 + (1 : Nat)) < x2) (h1 : (x2 + (3 : Nat)) < x1) : x0 < x1 := by lia
theorem ar114 {x0 : Nat} {x1 : Nat} {x2 : Nat} (h0 : (x0 + (((2 : Nat) * x2) + (2 : Nat))) < x1) : x0 < x1 := by lia
theorem ar115   : (8 : Int) < (((((((((((1 : Nat) + (1 : Nat)) + (1 : Nat)) + (1 : Nat)) + (1 : Nat)) + (1 : Nat)) + (1 : Nat)) + (1 : Nat)) + (1 : Nat)) : Nat) : Int) := Int.le_refl _
theorem ar116 {x0 : Nat} (h0 : (1 : Nat) ≤ x0) : x0 = ((x0 - (1 : Nat)) + (1 : Nat)) := by lia
theorem ar117 {x0 : Nat} {x1 : Nat} {x2 : Nat} (h0 : x1 < x2) (h1 : x2 < x0) : x0 ≠ x1 := Nat.ne_of_gt (Nat.lt_trans h0 h1)
theorem ar118 {x0 : Nat} (h0 : x0 < (4 : Nat)) : (0 : Int) < ((4 : Int) - ((x0 : Nat) : Int)) := by lia
theorem ar119 {x0 : Nat} {x1 : Int} {x2 : Int} {x3 : Nat} {x4 : Int} (h0 : (x0 + ((8 : Nat) * ((Int.toNat (x1 - x4)) + (1 : Nat)))) < x3) (h1 : x2 = ((x4 + x1) / (2 : Int))) (h2 : x4 < x1) (h3 : (x4 + (1 : Int)) ≠ x1) : ((x0 + (3 : Nat)) + ((8 : Nat) * ((Int.toNat (x1 - x2)) + (1 : Nat)))) < x3 := by lia
theorem ar123 {x0 : Int} {x1 : Int} {x2 : Int} {x3 : Nat} (h0 : (x0 + (1 : Int)) = x1) (h1 : x1 ≤ x2) (h2 : ((x3 : Nat) : Int) = x2) (h3 : x3 ≤ (64 : Nat)) : x0 < ((2 : Int) ^ 63) := by lia
theorem ar124 {x0 : Nat}  : (x0 + (1 : Nat)) ≠ (x0 + (2 : Nat)) := Nat.ne_of_lt (Nat.lt_succ_self _)
theorem ar125 {x0 : Int} {x1 : Int} {x2 : Int} {x3 : Nat} (h0 : x1 = ((x2 + x0) / (2 : Int))) (h1 : (0 : Int) ≤ x2) (h2 : x0 ≤ ((x3 : Nat) : Int)) (h3 : x3 ≤ (64 : Nat)) : (Int.toNat (x0 - x1)) ≤ (64 : Nat) := by lia
theorem ar126 {x0 : Int} {x1 : Nat} (h0 : ((0 : Int) ≤ x0) ∧ (x0 < ((x1 : Nat) : Int))) (h1 : x1 ≤ (3 : Nat)) : ((0 : Int) ≤ x0) ∧ (x0 < (3 : Int)) := by lia
theorem ar127 {x0 : Int} {x1 : Int} (h0 : ¬(x1 < x0)) : (0 : Int) = (((Int.toNat (x0 - x1)) : Nat) : Int) := by lia
theorem ar128 {x0 : Nat} {x1 : Nat} {x2 : Nat} {x3 : Nat} (h0 : x1 = (1 : Nat)) (h1 : x2 < (3 : Nat)) (h2 : x0 ≤ ((((20 : Nat) * x2) + (3 : Nat)) + x3)) (h3 : x3 < (6 : Nat)) : (x0 + x1) ≤ (16777216 : Nat) := by lia
theorem ar130 {x0 : Nat} {x1 : Nat} (h0 : x0 < x1) : x0 ≠ (x1 + (2 : Nat)) := by lia
theorem ar131 {x0 : Nat}  : ((x0 + (1 : Nat)) + (1 : Nat)) ≠ (((x0 + (1 : Nat)) + (1 : Nat)) + (1 : Nat)) := Nat.ne_of_lt (Nat.lt_add_of_pos_right (by decide))
theorem ar133 {x0 : Nat} {x1 : Int} (h0 : x0 = ((Int.toNat x1) + (1 : Nat))) (h1 : (Int.toNat (x1 + (1 : Int))) = ((Int.toNat x1) + (1 : Nat))) : ((x0 : Nat) : Int) = (x1 + (1 : Int)) := by lia
theorem ar134 {x0 : Int} {x1 : Nat} (h0 : ((x1 : Nat) : Int) = x0) : (-((2 : Int) ^ 63)) ≤ x0 := by lia
theorem ar136 {x0 : Int} (h0 : x0 ≤ (100 : Int)) : x0 < ((2 : Int) ^ 62) := Int.lt_of_le_of_lt h0 (by decide)
theorem ar137 {x0 : Int} {x1 : Nat} (h0 : x0 < ((x1 : Nat) : Int)) (h1 : (0 : Int) ≤ x0) : (Int.toNat x0) < x1 := by lia
theorem ar138 {x0 : Nat} {x1 : Nat}  : (min x0 x1) ≤ x0 := by lia
theorem ar139 {x0 : Int} (h0 : (2 : Int) ≤ x0) : (0 : Int) ≤ ((1 : Int) + x0) := by lia
theorem ar140 {x0 : Nat} (h0 : x0 ≤ (100 : Nat)) : ¬(((x0 : Nat) : Int) ≥ ((2 : Int) ^ 63)) := by lia
theorem ar141 {x0 : Nat}  : (((x0 : Nat) : Int) - (0 : Int)) = ((x0 : Nat) : Int) := rfl
theorem ar142 {x0 : Nat} {x1 : Nat} (h0 : (x1 + (2 : Nat)) < x0) : x0 ≠ (x1 + (2 : Nat)) := Nat.ne_of_gt (h0)
theorem ar143 {x0 : Nat} {x1 : Nat} (h0 : ¬((x1 + (1 : Nat)) ≤ x0)) : x0 ≤ x1 := Nat.not_lt.mp h0
theorem ar144 {x0 : Nat} {x1 : Nat} {x2 : Nat} (h0 : (x0 < x1) ∨ (((x1 + (3 : Nat)) < x0) ∧ (x0 < x2))) : x0 ≠ x1 := by lia
theorem ar145 {x0 : Int} (h0 : (0 : Int) ≤ x0) : (-((2 : Int) ^ 62)) ≤ x0 := Int.le_trans (by decide) h0
theorem ar146 {x0 : Int} (h0 : (1 : Int) ≤ x0) : (0 : Int) ≤ (x0 + (1 : Int)) := by lia
theorem ar147 {x0 : Nat} (h0 : x0 ≤ (100 : Nat)) : x0 ≤ (16777216 : Nat) := Nat.le_trans h0 (by decide)
theorem ar148 {x0 : Nat} (h0 : x0 ≤ (2 : Nat)) : (x0 = (0 : Nat)) ∨ ((x0 = (1 : Nat)) ∨ (x0 = (2 : Nat))) := by lia
theorem ar149 {x0 : Nat} {x1 : Nat} (h0 : (x0 + (2400 : Nat)) < x1) : ((x0 + (3 : Nat)) + (1600 : Nat)) < x1 := by lia
theorem ar150 {x0 : Nat} {x1 : Nat} {x2 : Nat} (h0 : x0 ≤ x1) (h1 : x1 < x2) (h2 : x2 ≤ (4 : Nat)) : x0 ≤ (16777216 : Nat) := by lia
theorem ar151 {x0 : Int} {x1 : Int} {x2 : Int}  : (0 : Int) ≤ (((((Int.toNat (((((Int.toNat ((192 : Int) + (x0 % (1000 : Int)))) : Nat) : Int) + (1 : Int)) + (x1 % (500 : Int)))) : Nat) : Int) + (1 : Int)) + (x2 % (500 : Int))) := by lia
theorem ar152 {x0 : Nat} {x1 : Nat} {x2 : Nat} {x3 : Prop} (h0 : (x1 < x0) ∧ (((((x2 + (1 : Nat)) + (1 : Nat)) + (1 : Nat)) < x0) ∧ ((((x2 + (1 : Nat)) + (1 : Nat)) < x0) ∧ (((x2 + (1 : Nat)) < x0) ∧ (((30 : Nat) < x0) ∧ (x3)))))) : x0 ≠ (30 : Nat) := Nat.ne_of_gt (h0.2.2.2.2.1)
theorem ar153 {x0 : Int}  : (x0 * (2 : Int)) = ((2 : Int) * x0) := by lia
theorem ar154 {x0 : Int} {x1 : Int} (h0 : x1 ≤ x0) (h1 : (32 : Int) ≤ x1) : (0 : Int) < x0 := by lia
theorem ar157   : (((301 : Nat) + (1 : Nat)) + (200 : Nat)) < (1000 : Nat) := by decide
theorem ar158 {x0 : Nat} {x1 : Nat} {x2 : Int} (h0 : ((x1 : Nat) : Int) = x2) (h1 : (((x0 : Nat) : Int) - x2) ≤ (4000 : Int)) : x0 ≤ (x1 + (4000 : Nat)) := by lia
theorem ar159 {x0 : Nat} {x1 : Int} (h0 : x0 < (Int.toNat x1)) (h1 : x1 ≤ (6 : Int)) : x0 ≤ (16777215 : Nat) := by lia
theorem ar160 {x0 : Nat}  : x0 ≠ (x0 + (3 : Nat)) := Nat.ne_of_lt (Nat.lt_add_of_pos_right (by decide))
theorem ar161 {x0 : Nat} {x1 : Nat} {x2 : Int} {x3 : Int} {x4 : Int} (h0 : ((x1 : Nat) : Int) = x2) (h1 : (x2 + x3) = ((((x0 : Nat) : Int) + x4) - (1 : Int))) (h2 : x3 < x4) : x0 ≤ x1 := by lia
theorem ar162 {x0 : Nat} {x1 : Nat} (h0 : x0 < x1) (h1 : x1 ≤ (3 : Nat)) : ((x0 : Nat) : Int) < ((2 : Int) ^ 63) := by lia
theorem ar163 {x0 : Nat} {x1 : Nat} {x2 : Nat} {x3 : Prop} (h0 : ((x1 + (2 : Nat)) < x0) ∧ ((x2 < x0) ∧ (x3))) : x0 ≠ ((x1 + (1 : Nat)) + (1 : Nat)) := Nat.ne_of_gt (h0.1)
theorem ar165   : (((4 : Nat) + (3 : Nat)) + (1600 : Nat)) < (9900 : Nat) := by decide
theorem ar167 {x0 : Nat}  : (x0 + (2 : Nat)) ≠ (x0 + (3 : Nat)) := Nat.ne_of_lt (Nat.lt_succ_self _)
theorem ar168 {x0 : Int} {x1 : Int} {x2 : Int} {x3 : Int} {x4 : Int} (h0 : x3 < x2) (h1 : x4 = (x1 + x3)) (h2 : x0 < x4) : x0 < (x1 + ((1 : Int) * x2)) := by lia
theorem ar169 {x0 : Int} {x1 : Nat} (h0 : ((0 : Int) ≤ x0) ∧ (x0 < ((0 : Int) + ((x1 : Nat) : Int)))) (h1 : x1 ≤ (3 : Nat)) : x0 < ((2 : Int) ^ 63) := by lia
theorem ar170 {x0 : Int} {x1 : Int} {x2 : Int} (h0 : x1 = ((x0 + x2) / (2 : Int))) (h1 : x0 < x2) (h2 : (x0 + (1 : Int)) ≠ x2) : x0 < x1 := by lia
theorem ar171 {x0 : Nat} {x1 : Int} (h0 : x0 < (Int.toNat x1)) (h1 : x1 ≤ (6 : Int)) : x0 ≤ (100 : Nat) := by lia
theorem ar172 {x0 : Nat} (h0 : x0 ≠ (0 : Nat)) : (0 : Nat) < x0 := by lia
theorem ar173   : ((0 : Nat) + (1 : Nat)) ≤ (16777216 : Nat) := by decide
theorem ar174 {x0 : Nat} (h0 : x0 ≤ (2 : Nat)) : x0 ≤ (16777216 : Nat) := Nat.le_trans h0 (by decide)
theorem ar175 {x0 : Int} {x1 : Int} (h0 : x0 = ((2 : Int) * x1)) : (Int.toNat x0) = ((Int.toNat x1) + (Int.toNat x1)) := by lia
theorem ar176 {x0 : Int} {x1 : Int} {x2 : Nat} (h0 : x0 ≤ ((x2 : Nat) : Int)) (h1 : (0 : Int) ≤ x1) : (min ((Int.toNat x0) - (Int.toNat x1)) (x2 - (Int.toNat x1))) = (Int.toNat (x0 - x1)) := by rw [Nat.min_eq_left (Nat.sub_le_sub_right (Int.toNat_le.2 h0) _), ← Int.toNat_sub', Int.toNat_of_nonneg h1]
theorem ar177 {x0 : Nat} {x1 : Nat} (h0 : x0 < x1) (h1 : x1 ≤ (3 : Nat)) : (((1 : Nat) + ((24001 : Nat) * x0)) + (24001 : Nat)) ≤ (134217728 : Nat) := by lia
theorem ar179 {x0 : Nat} {x1 : Nat} {x2 : Nat} {x3 : Prop} (h0 : (x1 < x0) ∧ (((x2 + (1 : Nat)) < x0) ∧ (x3))) : x0 ≠ x1 := Nat.ne_of_gt (h0.1)
theorem ar180 {x0 : Nat}  : (0 : Int) ≤ ((x0 : Nat) : Int) := Int.natCast_nonneg _
theorem ar181 {x0 : Int} (h0 : x0 ≤ (40000 : Int)) : (Int.toNat x0) ≤ (40000 : Nat) := by lia
theorem ar182 {x0 : Nat} {x1 : Nat} (h0 : x1 ≠ x0) : x0 ≠ x1 := (h0).symm
theorem ar183 {x0 : Nat} {x1 : Nat} {x2 : Nat} {x3 : Nat} {x4 : Nat} {x5 : Nat} (h0 : x2 < x1) (h1 : (x1 + (4 : Nat)) < x3) (h2 : x4 < x2) (h3 : (x0 = x2) ∨ ((x0 = x4) ∨ ((x3 ≤ x0) ∨ (x0 = x5)))) (h4 : x5 < x4) : x0 ≠ (x1 + (3 : Nat)) := by lia
theorem ar184 {x0 : Int} (h0 : (0 : Int) ≤ x0) (h1 : x0 < (3 : Int)) : (x0 = (0 : Int)) ∨ ((x0 = (1 : Int)) ∨ (x0 = (2 : Int))) := by lia
theorem ar185 {x0 : Nat} {x1 : Nat} (h0 : x0 ≤ ((40000 : Nat) + x1)) (h1 : x1 ≤ ((64 : Nat) * (40002 : Nat))) : ((x0 : Nat) : Int) ≤ ((40000 : Int) + ((64 : Int) * (40002 : Int))) := by lia
theorem ar186 {x0 : Nat} {x1 : Nat} (h0 : x0 ≤ x1) (h1 : ¬(x0 < x1)) : x0 = x1 := by lia
theorem ar189 {x0 : Int} {x1 : Int} (h0 : x0 ≤ ((64 : Int) * x1)) (h1 : x1 ≤ (40000 : Int)) : x0 ≤ ((64 : Int) * (40000 : Int)) := by lia
theorem ar190 {x0 : Nat} {x1 : Nat} {x2 : Nat} (h0 : (x0 + ((8 : Nat) * (((2 : Nat) * x1) + (2 : Nat)))) < x2) : ((x0 + (3 : Nat)) + ((8 : Nat) * (((2 : Nat) * x1) + (1 : Nat)))) < x2 := by lia
theorem ar191 {x0 : Nat} {x1 : Nat} (h0 : (x0 + (2 : Nat)) < x1) : x0 ≠ x1 := by lia
theorem ar192 {x0 : Int} {x1 : Nat} {x2 : Nat} {x3 : Int} (h0 : x2 = (Int.toNat (x3 - x0))) (h1 : x0 ≤ x3) (h2 : x3 ≤ ((x1 : Nat) : Int)) (h3 : (0 : Int) ≤ x0) : (((min (Int.toNat x0) x1) + x2) + (x1 - (Int.toNat x3))) = x1 := by rw [h0, Nat.min_eq_left (Int.toNat_le.2 (Int.le_trans h1 h2)), ← Int.toNat_add h3 (Int.sub_nonneg_of_le h1), Int.add_comm, Int.sub_add_cancel, Nat.add_sub_cancel' (Int.toNat_le.2 h2)]
theorem ar193 {x0 : Int} {x1 : Int} {x2 : Nat}  : (min ((Int.toNat x0) - (Int.toNat x1)) (x2 - (Int.toNat x1))) ≤ x2 := Nat.le_trans (Nat.min_le_right _ _) (Nat.sub_le _ _)
theorem ar194 {x0 : Int} (h0 : ¬(x0 < (0 : Int))) : (0 : Int) ≤ x0 := Int.not_lt.mp h0
theorem ar195 {x0 : Nat} (h0 : (x0 + (1600 : Nat)) < (9900 : Nat)) : ((x0 + (3 : Nat)) + ((8 : Nat) * (((2 : Nat) * (2 : Nat)) + (1 : Nat)))) < (9900 : Nat) := by lia
theorem ar196 {x0 : Int} {x1 : Int} {x2 : Int} {x3 : Nat} (h0 : (0 : Int) ≤ x1) (h1 : x0 = ((x1 + x2) / (2 : Int))) (h2 : x1 < x2) (h3 : x2 ≤ ((x3 : Nat) : Int)) (h4 : x3 ≤ (64 : Nat)) : (Int.natAbs (x0 - x1)) < ((2 : Nat) ^ 64) := by lia
theorem ar197 {x0 : Int} (h0 : (0 : Int) ≤ x0) : (Int.toNat (x0 + (1 : Int))) = ((Int.toNat x0) + (1 : Nat)) := by lia
theorem ar198   : ((64 : Nat) + (64 : Nat)) ≤ (134217728 : Nat) := by decide
theorem ar199 {x0 : Int} {x1 : Nat} (h0 : (Int.toNat x0) = (x1 + (1 : Nat))) : (0 : Int) ≤ x0 := by lia
theorem ar201 {x0 : Nat}  : x0 ≤ (x0 + (2 : Nat)) := Nat.le_add_right _ _
theorem ar202 {x0 : Int} {x1 : Nat} {x2 : Int} (h0 : x0 = (((x1 : Nat) : Int) + (1 : Int))) (h1 : x1 < (Int.toNat (x2 - (1 : Int)))) (h2 : x2 ≤ (6 : Int)) : (x0 - (1 : Int)) < ((2 : Int) ^ 63) := by lia
theorem ar203 {x0 : Nat} {x1 : Nat} {x2 : Nat} (h0 : x0 = x1) (h1 : x1 ≤ x2) (h2 : x2 ≤ ((3 : Nat) ^ 6)) : x0 ≤ (729 : Nat) := by lia
theorem ar204 {x0 : Int} (h0 : (x0 = (2 : Int)) ∨ (x0 = (3 : Int))) : x0 ≠ (0 : Int) := by lia
theorem ar205 {x0 : Nat} (h0 : (x0 + (1 : Nat)) ≤ (3 : Nat)) : (((5 : Nat) - (1 : Nat)) - x0) ≠ (0 : Nat) := by lia
theorem ar206 {x0 : Nat} (h0 : x0 ≤ (3 : Nat)) : ((x0 : Nat) : Int) < ((2 : Int) ^ 63) := by lia
theorem ar207 {x0 : Int} {x1 : Int} (h0 : ((1 : Int) ≤ x0) ∧ (x0 ≤ x1)) (h1 : (x1 = (2 : Int)) ∨ (x1 = (3 : Int))) : (x0 = (1 : Int)) ∨ ((x0 = (2 : Int)) ∨ (x0 = (3 : Int))) := by lia
theorem ar209 {x0 : Int} (h0 : (Int.toNat x0) ≤ (16000 : Nat)) : ((((2 : Nat) * (Int.toNat x0)) + (2 : Nat)) + (Int.toNat x0)) ≤ (134217728 : Nat) := by lia
theorem ar210 {x0 : Nat} {x1 : Nat} {x2 : Nat} (h0 : (x2 + (1 : Nat)) ≤ x1) (h1 : x0 ≤ ((((15 : Nat) * x2) + (7 : Nat)) + ((x2 * (4 : Nat)) + (1 : Nat)))) : x0 ≤ ((60 : Nat) * x1) := by lia
theorem ar211 {x0 : Int} {x1 : Nat} (h0 : ((0 : Int) ≤ x0) ∧ (x0 < ((0 : Int) + ((x1 : Nat) : Int)))) : (0 : Int) ≤ x0 := h0.1
theorem ar212 {x0 : Int} {x1 : Nat} (h0 : ((x1 : Nat) : Int) = x0) : (0 : Int) ≤ x0 := by lia
theorem ar213 {x0 : Int} {x1 : Int}  : (Int.toNat ((192 : Int) + (x0 % (1000 : Int)))) < (Int.toNat (((((Int.toNat ((192 : Int) + (x0 % (1000 : Int)))) : Nat) : Int) + (1 : Int)) + (x1 % (500 : Int)))) := by lia
theorem ar214 {x0 : Int} {x1 : Nat} (h0 : ((x1 : Nat) : Int) = x0) (h1 : x1 ≤ (64 : Nat)) : x0 ≤ (64 : Int) := by lia
theorem ar215 {x0 : Nat} {x1 : Nat} {x2 : Nat} {x3 : Nat} {x4 : Nat} (h0 : (x2 + (3 : Nat)) < x1) (h1 : (x3 + (1 : Nat)) < x2) (h2 : (x0 = (x3 + (1 : Nat))) ∨ ((x0 = x3) ∨ (((x1 + (2 : Nat)) ≤ x0) ∨ (x0 = x4)))) (h3 : x4 < x3) : x0 ≠ x1 := by lia
theorem ar217 {x0 : Nat}  : (Int.toNat (((x0 : Nat) : Int) - (0 : Int))) = x0 := rfl
theorem ar219   : (2 : Int) < ((2 : Int) ^ 63) := by decide
theorem ar220 {x0 : Nat} {x1 : Nat} (h0 : x0 < x1) : x0 ≠ x1 := Nat.ne_of_lt (h0)
theorem ar222 {x0 : Int} (h0 : ((0 : Int) ≤ x0) ∧ (x0 ≤ (60 : Int))) : x0 ≤ (100 : Int) := Int.le_trans h0.2 (by decide)
theorem ar223 {x0 : Nat}  : x0 ≤ x0 := Nat.le_refl _
theorem ar224 {x0 : Nat} {x1 : Nat} (h0 : x0 = (x1 + (1 : Nat))) : ¬(x0 ≤ x1) := by lia
theorem ar225 {x0 : Nat} {x1 : Nat} (h0 : x0 < x1) : x0 < (x1 + (2 : Nat)) := by lia
theorem ar226 {x0 : Nat} {x1 : Nat} {x2 : Nat} (h0 : x0 ≤ ((1 : Nat) + x2)) (h1 : x2 ≤ ((6 : Nat) * (x1 + (2 : Nat)))) : x0 ≤ ((1 : Nat) + ((6 : Nat) * (x1 + (2 : Nat)))) := by lia
theorem ar227   : (0 : Int) ≤ (8 : Int) := by decide
theorem ar228 {x0 : Int} {x1 : Int} {x2 : Int} {x3 : Int} (h0 : (x0 + x3) ≤ x2) (h1 : x1 < x3) : (x0 + x1) < x2 := by lia
theorem ar229 {x0 : Nat} {x1 : Nat} {x2 : Nat} (h0 : x0 = x2) (h1 : (x2 + (2 : Nat)) < x1) : x0 ≤ x1 := by lia
theorem ar231 {x0 : Nat} {x1 : Nat} (h0 : (x0 + (400 : Nat)) < x1) : ((x0 + (1 : Nat)) + (300 : Nat)) < x1 := by lia
theorem ar232 {x0 : Int} {x1 : Nat} {x2 : Int} {x3 : Nat} (h0 : x0 < x2) (h1 : x1 = x3) (h2 : x2 ≤ ((x3 : Nat) : Int)) : x0 < ((x1 : Nat) : Int) := by lia
theorem ar234 {x0 : Int} {x1 : Nat} {x2 : Nat} (h0 : x1 = x2) (h1 : x0 < ((x2 : Nat) : Int)) : (x0 - (1 : Int)) < ((x1 : Nat) : Int) := by lia
theorem ar235 {x0 : Int}  : (0 : Int) ≤ (x0 % (3 : Int)) := Int.emod_nonneg _ (by decide)
theorem ar236 {x0 : Nat} {x1 : Int} {x2 : Int} (h0 : x1 ≤ (16000 : Int)) (h1 : x2 = ((2 : Int) * x1)) (h2 : x0 ≤ ((2 : Nat) * (Int.toNat x2))) : (((x0 : Nat) : Int) + x1) ≤ ((2 : Int) ^ 27) := by lia
theorem ar237 {x0 : Nat} {x1 : Nat} {x2 : Int} {x3 : Nat} {x4 : Nat} (h0 : x1 < (Int.toNat x2)) (h1 : x2 ≤ (3 : Int)) (h2 : x0 ≤ ((3 : Nat) * x3)) (h3 : x3 < x4) (h4 : x4 ≤ (3 : Nat)) : (x0 + x1) ≤ ((1048576 : Nat) * (16 : Nat)) := by lia
theorem ar238 {x0 : Nat} (h0 : ((x0 : Nat) : Int) = ((((1 : Nat) : Nat) : Int) * (0 : Int))) : x0 ≤ (3 : Nat) := by lia
theorem ar241 {x0 : Nat} {x1 : Nat} (h0 : x0 ≤ ((20 : Nat) * (x1 - (1 : Nat)))) (h1 : x1 ≤ (3 : Nat)) : x0 ≤ (100 : Nat) := by lia
theorem ar242 {x0 : Nat} {x1 : Nat} (h0 : (x0 + (3200 : Nat)) < x1) : ((x0 + (3 : Nat)) + (2400 : Nat)) < x1 := by lia
theorem ar243 {x0 : Nat}  : x0 < (x0 + (2 : Nat)) := Nat.le_succ _
theorem ar244 {x0 : Nat} {x1 : Nat} (h0 : x1 < x0) : ((x0 + (1 : Nat)) - (x1 + (1 : Nat))) < ((x0 + (1 : Nat)) - x1) := by lia
theorem ar245 {x0 : Int} {x1 : Int} {x2 : Int} {x3 : Int} (h0 : x0 < x2) (h1 : x1 = x3) (h2 : x2 < x3) : x0 < x1 := by lia
theorem ar246 {x0 : Int} (h0 : (5 : Int) ≤ x0) : (0 : Int) ≤ x0 := Int.le_trans (by decide) h0
theorem ar247 {x0 : Int} (h0 : (0 : Int) < x0) : x0 < (x0 * (2 : Int)) := by lia
theorem ar248 {x0 : Nat} {x1 : Int} (h0 : x1 ≤ (1204 : Int)) (h1 : x0 ≤ (12 : Nat)) : (((1 : Nat) + ((8000 : Nat) * x0)) + ((1 : Nat) + ((6 : Nat) * ((Int.toNat x1) + (2 : Nat))))) ≤ (134217728 : Nat) := by lia
theorem ar249 {x0 : Nat} {x1 : Nat} {x2 : Int} (h0 : x0 ≤ x1) (h1 : ((x1 : Nat) : Int) = x2) (h2 : x2 ≤ (16 : Int)) : x0 ≤ (64 : Nat) := by lia
theorem ar250 {x0 : Int} (h0 : ((0 : Int) ≤ x0) ∧ (x0 ≤ (60 : Int))) : (Int.toNat x0) ≤ (64 : Nat) := by lia
theorem ar251 {x0 : Nat} {x1 : Nat} (h0 : (x1 + (1 : Nat)) ≤ ((x0 + (1 : Nat)) + (4000 : Nat))) : ¬((((x0 / (30 : Nat)) + (1 : Nat)) + (150 : Nat)) < ((x1 / (30 : Nat)) + (1 : Nat))) := by lia
theorem ar252 {x0 : Nat} (h0 : x0 = (3 : Nat)) : x0 ≤ (3 : Nat) := by lia
theorem ar253 {x0 : Nat} {x1 : Nat} (h0 : (x0 < x1) ∨ ((x1 + (3 : Nat)) < x0)) : x0 ≠ (x1 + (3 : Nat)) := by lia
theorem ar254 {x0 : Int} {x1 : Nat} (h0 : ((0 : Int) ≤ x0) ∧ (x0 ≤ (60 : Int))) : (x0 - ((x1 : Nat) : Int)) ≤ ((2 : Int) ^ 24) := by lia
theorem ar255 {x0 : Nat} {x1 : Int} (h0 : ((x0 : Nat) : Int) = x1) (h1 : x1 ≤ (16 : Int)) : x0 ≤ (16 : Nat) := by lia
theorem ar256 {x0 : Nat} {x1 : Nat} {x2 : Nat} (h0 : (x2 + (3 : Nat)) < x1) (h1 : x0 ≤ (x2 + (3 : Nat))) : x0 ≠ x1 := by lia
theorem ar257 {x0 : Int} {x1 : Int} (h0 : x1 = x0) (h1 : (3 : Int) ≤ x1) : (3 : Int) ≤ x0 := by lia
theorem ar258 {x0 : Nat} {x1 : Nat} {x2 : Nat} {x3 : Nat} (h0 : (x2 + (3 : Nat)) < x1) (h1 : x0 < x3) (h2 : (x3 + (1 : Nat)) < x2) : x0 ≠ x1 := by lia
theorem ar259 {x0 : Nat}  : x0 ≤ (x0 + (1 : Nat)) := Nat.le_succ _
theorem ar260   : (0 : Int) ≤ (1 : Int) := by decide
theorem ar261 {x0 : Nat} {x1 : Nat} {x2 : Nat} (h0 : (x0 + (((2 : Nat) * x2) + (1 : Nat))) < x1) : x0 < x1 := by lia
theorem ar262 {x0 : Int}  : (Int.toNat ((x0 + (1 : Int)) - (1 : Int))) = (Int.toNat x0) := by lia
theorem ar263 {x0 : Int} (h0 : (0 : Int) ≤ x0) (h1 : x0 ≤ (40000 : Int)) : (Int.natAbs x0) < ((2 : Nat) ^ 64) := by lia
theorem ar264 {x0 : Nat} (h0 : x0 ≤ (64 : Nat)) : ((x0 : Nat) : Int) ≤ ((2 : Int) ^ 24) := by lia
theorem ar265 {x0 : Nat} {x1 : Nat} {x2 : Nat} (h0 : x0 = x1) (h1 : x1 ≤ x2) (h2 : x2 ≤ ((1000 : Nat) * (1000 : Nat))) : x0 ≤ ((1000000 : Nat) + (0 : Nat)) := by lia
theorem ar266 {x0 : Int} {x1 : Int} (h0 : x0 ≤ x1) (h1 : (0 : Int) < x1) : x0 < (x1 * (2 : Int)) := by lia
theorem ar267 {x0 : Nat} {x1 : Int} (h0 : x1 ≤ ((64 : Int) * (40000 : Int))) (h1 : x0 ≤ ((64 : Nat) * (40000 : Nat))) : (((x0 : Nat) : Int) + x1) ≤ ((2 : Int) ^ 27) := by lia
theorem ar268 {x0 : Int} {x1 : Int} {x2 : Nat} (h0 : (x0 + (1 : Int)) = x1) (h1 : x1 ≤ ((x2 : Nat) : Int)) (h2 : x2 ≤ (64 : Nat)) : x0 < ((2 : Int) ^ 63) := by lia
theorem ar269 {x0 : Int} (h0 : (3 : Int) ≤ x0) : (0 : Int) ≤ (x0 + (1 : Int)) := by lia
theorem ar270 {x0 : Int} {x1 : Int} (h0 : x1 < x0) (h1 : (0 : Int) ≤ x1) : x0 ≠ (0 : Int) := by lia
theorem ar271 {x0 : Nat} {x1 : Nat} {x2 : Nat} {x3 : Prop} (h0 : (x2 < x1) ∧ (((((x0 + (1 : Nat)) + (1 : Nat)) + (1 : Nat)) < x1) ∧ ((((x0 + (1 : Nat)) + (1 : Nat)) < x1) ∧ (((x0 + (1 : Nat)) < x1) ∧ (((30 : Nat) < x1) ∧ (x3)))))) : (x0 + (1 : Nat)) < x1 := h0.2.2.2.1
theorem ar273 {x0 : Int} {x1 : Int} (h0 : x0 ≤ (3 : Int)) (h1 : (0 : Int) ≤ x1) : (x0 - x1) ≤ (3 : Int) := by lia
theorem ar274 {x0 : Nat} {x1 : Int} (h0 : ((x0 : Nat) : Int) = x1) (h1 : x1 ≤ (16000 : Int)) : (((x0 : Nat) : Int) + x1) ≤ ((2 : Int) ^ 27) := by lia
theorem ar275 {x0 : Nat} {x1 : Nat} (h0 : (5 : Int) ≤ ((x1 : Nat) : Int)) : (0 : Int) ≤ ((((x0 : Nat) : Int) + ((x1 : Nat) : Int)) - (1 : Int)) := by lia
theorem ar276 {x0 : Int} {x1 : Int} (h0 : x0 < x1) (h1 : (0 : Int) ≤ x0) : (Int.natAbs x0) ≤ (Int.natAbs x1) := by lia
theorem ar277 {x0 : Nat} {x1 : Nat} (h0 : x0 = (1 : Nat)) : x0 ≤ ((1 : Nat) + x1) := by lia
theorem ar278 {x0 : Nat} {x1 : Int} (h0 : ((x0 : Nat) : Int) = x1) : x0 ≤ (Int.toNat x1) := by lia
theorem ar279   : (((301 : Nat) + (1 : Nat)) + (100 : Nat)) < (1000 : Nat) := by decide
theorem ar280 {x0 : Nat} {x1 : Nat} (h0 : (x0 + (300 : Nat)) < x1) : x0 < x1 := by lia
theorem ar281 {x0 : Nat} {x1 : Nat} {x2 : Nat} (h0 : (x1 + (1 : Nat)) < x2) (h1 : (x2 + (3 : Nat)) < x0) : (x0 + (1 : Nat)) ≠ x1 := by lia
theorem ar282 {x0 : Int} {x1 : Nat} (h0 : ((x1 : Nat) : Int) = x0) : (Int.toNat (((1 : Int) * x0) - (1 : Int))) = (x1 - (1 : Nat)) := by lia
theorem ar284 {x0 : Int} {x1 : Nat} (h0 : ((x1 : Nat) : Int) = x0) (h1 : (0 : Nat) < x1) : (1 : Int) ≤ x0 := by lia
theorem ar285 {x0 : Nat} (h0 : x0 < (2 : Nat)) : (x0 + (1 : Nat)) ≤ (2 : Nat) := h0
theorem ar286 {x0 : Nat} {x1 : Nat} {x2 : Nat} (h0 : x0 < x2) (h1 : x2 ≤ (1000 : Nat)) : (min x0 x1) ≤ (1000 : Nat) := by lia
theorem ar287 {x0 : Nat} (h0 : x0 ≤ (2 : Nat)) (h1 : ¬(x0 < (2 : Nat))) : x0 = (2 : Nat) := by lia
theorem ar288 {x0 : Nat} {x1 : Nat} {x2 : Nat} (h0 : x1 < x2) (h1 : x2 < x0) : (x0 + (3 : Nat)) ≠ x1 := by lia
theorem ar289 {x0 : Nat} {x1 : Int} (h0 : x0 < (Int.toNat x1)) (h1 : x1 ≤ (6 : Int)) : x0 ≤ (6 : Nat) := by lia
theorem ar291 {x0 : Int} {x1 : Int} {x2 : Int} (h0 : x0 = ((x2 + x1) / (2 : Int))) (h1 : x2 < x1) : x0 < x1 := by lia
theorem ar292 {x0 : Nat} {x1 : Nat} (h0 : (x1 + (3 : Nat)) < x0) : ((x0 + (1 : Nat)) < x1) ∨ (((x1 + (3 : Nat)) < (x0 + (1 : Nat))) ∧ ((x0 + (1 : Nat)) < (x0 + (2 : Nat)))) := by lia
theorem ar293 {x0 : Nat} {x1 : Nat} (h0 : x0 ≤ x1) (h1 : x1 ≤ (4 : Nat)) : x0 ≤ (16777216 : Nat) := Nat.le_trans (Nat.le_trans h0 h1) (by decide)
theorem ar294 {x0 : Int} (h0 : (0 : Int) ≤ x0) : (((Int.toNat x0) : Nat) : Int) = x0 := by lia
theorem ar295 {x0 : Int} {x1 : Int}  : (0 : Int) ≤ (((((Int.toNat ((192 : Int) + (x0 % (1000 : Int)))) : Nat) : Int) + (1 : Int)) + (x1 % (500 : Int))) := by lia
theorem ar297 {x0 : Int} {x1 : Int} (h0 : ((0 : Int) ≤ x1) ∧ (x1 < x0)) : (0 : Int) < x0 := by lia
theorem ar298 {x0 : Nat} {x1 : Int} {x2 : Nat} {x3 : Nat} (h0 : (x0 + (100 : Nat)) < x2) (h1 : (Int.toNat (x1 - (0 : Int))) = x3) (h2 : x3 ≤ (64 : Nat)) : ((x0 + (1 : Nat)) + ((Int.toNat (x1 - (0 : Int))) + (1 : Nat))) < x2 := by lia
theorem ar299 {x0 : Nat} {x1 : Nat} (h0 : x0 ≤ x1) : (x0 + (1 : Nat)) ≤ (x1 + (1 : Nat)) := Nat.lt_succ_of_le h0
theorem ar300 {x0 : Int} {x1 : Int} (h0 : x0 < (0 : Int)) : (x0 + x1) < x1 := by lia
theorem ar301 {x0 : Int} {x1 : Nat} {x2 : Nat} (h0 : (0 : Int) ≤ x0) (h1 : x0 < ((x2 : Nat) : Int)) (h2 : x1 = x2) : (Int.toNat x0) < x1 := by lia
theorem ar302 {x0 : Nat} {x1 : Nat} {x2 : Nat} {x3 : Prop} (h0 : (x2 < x1) ∧ (((((x0 + (1 : Nat)) + (1 : Nat)) + (1 : Nat)) < x1) ∧ ((((x0 + (1 : Nat)) + (1 : Nat)) < x1) ∧ (((x0 + (1 : Nat)) < x1) ∧ (((30 : Nat) < x1) ∧ (x3)))))) : ((x0 + (1 : Nat)) + (1 : Nat)) < x1 := h0.2.2.1
theorem ar303 {x0 : Nat} {x1 : Nat} {x2 : Nat} {x3 : Prop} (h0 : (x2 < x0) ∧ (((((x1 + (1 : Nat)) + (1 : Nat)) + (1 : Nat)) < x0) ∧ ((((x1 + (1 : Nat)) + (1 : Nat)) < x0) ∧ (((x1 + (1 : Nat)) < x0) ∧ (((30 : Nat) < x0) ∧ (x3)))))) : x0 ≠ ((x1 + (1 : Nat)) + (1 : Nat)) := Nat.ne_of_gt (h0.2.2.1)
theorem ar304 {x0 : Nat} {x1 : Nat} {x2 : Nat} {x3 : Nat} (h0 : x1 ≤ (6 : Nat)) (h1 : x0 ≤ (((1 : Nat) + x2) + (x1 + (1 : Nat)))) (h2 : x2 ≤ ((9 : Nat) * x3)) (h3 : ((x3 : Nat) : Int) < (1205 : Int)) : x0 ≤ (16000 : Nat) := by lia
theorem ar306 {x0 : Int} (h0 : x0 ≤ (3 : Int)) : (x0 + (1 : Int)) ≤ (1000 : Int) := Int.lt_of_le_of_lt h0 (by decide)
theorem ar307 {x0 : Int} {x1 : Int} (h0 : (32 : Int) ≤ x1) (h1 : ((0 : Int) ≤ x0) ∧ (x0 ≤ (30 : Int))) : ((0 : Int) ≤ x0) ∧ (x0 < x1) := by lia
theorem ar308 {x0 : Int} (h0 : (0 : Int) < x0) : (0 : Int) ≤ (((1 : Int) * x0) - (1 : Int)) := by lia
theorem ar309 {x0 : Nat} {x1 : Int} (h0 : x0 ≤ ((2 : Nat) * (Int.toNat x1))) (h1 : x1 ≤ (16000 : Int)) : (((x0 : Nat) : Int) + (1 : Int)) ≤ ((2 : Int) ^ 27) := by lia
theorem ar310 {x0 : Nat} {x1 : Int} {x2 : Int} (h0 : x0 = (1 : Nat)) (h1 : x1 = ((x2 + (1 : Int)) / (2 : Int))) (h2 : x2 ≤ (16000 : Int)) : (((x0 : Nat) : Int) + x1) ≤ ((2 : Int) ^ 27) := by lia
theorem ar313 {x0 : Nat} {x1 : Int} (h0 : x0 = (((Int.toNat x1) - (1 : Nat)) + (1 : Nat))) (h1 : (Int.toNat x1) = (((Int.toNat x1) - (1 : Nat)) + (1 : Nat))) : ((x0 : Nat) : Int) = x1 := by lia
theorem ar314 {x0 : Nat} {x1 : Prop} (h0 : ((30 : Nat) < x0) ∧ (x1)) : (x0 + (1 : Nat)) ≠ (30 : Nat) := by lia
theorem ar315 {x0 : Int} (h0 : (1 : Int) ≤ x0) : (1 : Int) ≤ ((x0 + (1 : Int)) / (2 : Int)) := by lia
theorem ar316 {x0 : Int} (h0 : x0 < (1205 : Int)) : (Int.toNat x0) ≤ (1204 : Nat) := by lia
theorem ar318 {x0 : Nat} {x1 : Nat} (h0 : x0 ≤ (x1 + (1 : Nat))) (h1 : ¬(x0 ≤ x1)) : x0 = (x1 + (1 : Nat)) := by lia
theorem ar320 {x0 : Nat} {x1 : Prop} (h0 : ((37 : Nat) < x0) ∧ (x1)) : (((x0 + (1 : Nat)) + (1 : Nat)) + (1 : Nat)) ≠ (37 : Nat) := by lia
theorem ar321 {x0 : Nat} {x1 : Nat} {x2 : Nat} {x3 : Nat} (h0 : x2 < x1) (h1 : x0 < x3) (h2 : x3 < x2) : x0 ≠ (x1 + (3 : Nat)) := by lia
theorem ar322 {x0 : Int} {x1 : Nat} {x2 : Nat} (h0 : ((0 : Int) ≤ x0) ∧ (x0 ≤ (60 : Int))) (h1 : x1 = x2) (h2 : x2 ≤ (64 : Nat)) : (-((2 : Int) ^ 63)) ≤ (x0 - ((x1 : Nat) : Int)) := by lia
theorem ar324 {x0 : Nat} {x1 : Nat} (h0 : (x0 + (200 : Nat)) < x1) : ((x0 + (1 : Nat)) + (100 : Nat)) < x1 := by lia
theorem ar325 {x0 : Int} (h0 : (0 : Int) ≤ x0) : (0 : Int) ≤ (x0 + (1 : Int)) := by lia
theorem ar326 {x0 : Nat} {x1 : Nat} (h0 : x0 ≤ x1) : x0 ≤ (x1 + (1 : Nat)) := by lia
theorem ar327 {x0 : Nat} {x1 : Int} {x2 : Nat} (h0 : x0 ≤ (Int.toNat x1)) (h1 : ((x2 : Nat) : Int) = x1) (h2 : x2 ≤ (16000 : Nat)) : x0 ≤ (40000 : Nat) := by lia
theorem ar328 {x0 : Int} {x1 : Nat} (h0 : x0 = ((x1 : Nat) : Int)) : (Int.toNat x0) = x1 := by lia
theorem ar329 {x0 : Int}  : (192 : Nat) ≤ (Int.toNat ((192 : Int) + (x0 % (1000 : Int)))) := by lia
theorem ar330 {x0 : Int} (h0 : x0 ≤ (3 : Int)) : x0 ≤ (1000 : Int) := Int.le_trans h0 (by decide)
theorem ar331   : (2 : Int) < (((((((((((1 : Nat) + (1 : Nat)) + (1 : Nat)) + (1 : Nat)) + (1 : Nat)) + (1 : Nat)) + (1 : Nat)) + (1 : Nat)) + (1 : Nat)) : Nat) : Int) := by decide
theorem ar332 {x0 : Nat} {x1 : Nat} {x2 : Nat} (h0 : x0 < x2) (h1 : (x2 + (4 : Nat)) < x1) : x0 < x1 := by lia
theorem ar333 {x0 : Nat} {x1 : Nat} {x2 : Prop} (h0 : ((37 : Nat) < x1) ∧ ((x0 < x1) ∧ (x2))) : x0 ≠ (((x1 + (1 : Nat)) + (1 : Nat)) + (1 : Nat)) := by lia
theorem ar334 {x0 : Nat} {x1 : Nat} {x2 : Nat} {x3 : Prop} (h0 : x0 < x1) (h1 : ((x1 = x2) ∧ ((x3) ∧ (x1 ≤ (4 : Nat)))) ∨ ((x1 < x2) ∧ (x1 = (4 : Nat)))) : x0 < (4 : Nat) := by lia
theorem ar335 {x0 : Int} {x1 : Nat} {x2 : Int} (h0 : (0 : Int) ≤ x0) (h1 : x0 < x2) (h2 : ((x1 : Nat) : Int) = x2) : (Int.natAbs x0) < x1 := by lia
theorem ar336 {x0 : Int} (h0 : (1 : Int) ≤ x0) : (Int.toNat x0) = (((Int.toNat x0) - (1 : Nat)) + (1 : Nat)) := by lia
theorem ar337 {x0 : Nat} (h0 : (5 : Int) ≤ ((x0 : Nat) : Int)) : (5 : Nat) ≤ x0 := by lia
theorem ar338 {x0 : Nat} {x1 : Nat} {x2 : Nat} (h0 : (x0 - x2) = (x1 + (1 : Nat))) : ((x0 - (1 : Nat)) - x1) = x2 := by lia
theorem ar339 {x0 : Int}  : ((2 : Nat) * (Int.toNat x0)) = ((Int.toNat x0) + (Int.toNat x0)) := by lia
theorem ar340 {x0 : Nat}  : (x0 + (1 : Nat)) ≠ x0 := Nat.ne_of_gt (Nat.lt_add_of_pos_right (by decide))
theorem ar341 {x0 : Int} {x1 : Int} (h0 : x1 ≤ x0) (h1 : (0 : Int) < x1) : (0 : Int) < x0 := Int.lt_of_lt_of_le h1 h0
theorem ar342 {x0 : Int} (h0 : (0 : Int) < x0) (h1 : x0 ≤ (40000 : Int)) : (Int.natAbs x0) < ((2 : Nat) ^ 64) := by lia
theorem ar343 {x0 : Int} {x1 : Int} (h0 : x0 ≤ (3 : Int)) (h1 : (0 : Int) ≤ x1) : (x0 - x1) ≤ (((1048576 : Nat) : Nat) : Int) := by lia
theorem ar344 {x0 : Int}  : (0 : Int) ≤ ((192 : Int) + (x0 % (1000 : Int))) := by lia
theorem ar345 {x0 : Nat} (h0 : (5 : Int) ≤ ((x0 : Nat) : Int)) : (1 : Nat) ≤ x0 := by lia
theorem ar346 {x0 : Int} {x1 : Int} {x2 : Int} {x3 : Int} (h0 : (x2 + x3) = x0) (h1 : x1 = x3) : ((x0 + x1) - ((2 : Int) * x1)) = x2 := by lia
theorem ar347 {x0 : Int} {x1 : Nat} (h0 : x0 = ((x1 : Nat) : Int)) : (Int.toNat (x0 + (1 : Int))) = (x1 + (1 : Nat)) := by lia
theorem ar348 {x0 : Nat} {x1 : Nat} {x2 : Nat} (h0 : (x2 + (2 : Nat)) < x1) (h1 : x0 < x2) : x0 ≠ x1 := by lia
theorem ar349 {x0 : Int} (h0 : (0 : Int) < x0) : ((0 : Int) ≤ (0 : Int)) ∧ (((0 : Int) < x0) ∧ (x0 ≤ x0)) := by lia
theorem ar350 {x0 : Nat} {x1 : Nat} {x2 : Prop} (h0 : (x1 < x0) ∧ (x2)) : x0 ≠ x1 := Nat.ne_of_gt (h0.1)
theorem ar352   : (0 : Int) ≤ (3 : Int) := by decide
theorem ar353 {x0 : Int} {x1 : Int} (h0 : x0 = (x1 / (2 : Int))) (h1 : (1 : Int) ≤ x1) : (0 : Int) ≤ x0 := by lia
theorem ar354 {x0 : Nat} {x1 : Nat} {x2 : Nat} (h0 : (x2 + (1 : Nat)) ≤ x1) (h1 : x0 ≤ ((max (((15 : Nat) * x2) + (7 : Nat)) (((9 : Nat) * x2) + (13 : Nat))) + (1 : Nat))) : x0 ≤ ((60 : Nat) * x1) := by lia
theorem ar355 {x0 : Int} (h0 : x0 ≤ (6 : Int)) : (Int.toNat x0) ≤ (12 : Nat) := by lia
theorem ar356 {x0 : Nat} (h0 : (1 : Nat) ≤ x0) : (0 : Int) < ((x0 : Nat) : Int) := by lia
theorem ar357 {x0 : Int} (h0 : ((2 : Int) ≤ x0) ∧ (x0 ≤ (6 : Int))) : (1 : Int) ≤ x0 := Int.le_of_lt (h0.1)
theorem ar358 {x0 : Nat}  : x0 ≤ (((x0 + (1 : Nat)) + (1 : Nat)) + (1 : Nat)) := by lia
theorem ar359 {x0 : Int} {x1 : Nat} (h0 : x0 = (((x1 : Nat) : Int) + (1 : Int))) : (Int.toNat (x0 - (1 : Int))) = x1 := by lia
theorem ar360 {x0 : Int} {x1 : Int} (h0 : x0 = ((4 : Int) + (x1 % (2 : Int)))) : (x0 = (4 : Int)) ∨ (x0 = (5 : Int)) := by lia
theorem ar361 {x0 : Nat} {x1 : Nat} (h0 : ((x0 : Nat) : Int) < (((x1 : Nat) : Int) + (1 : Int))) : x0 ≤ x1 := by lia
theorem ar363 {x0 : Nat} {x1 : Nat} (h0 : (x0 + (3200 : Nat)) < x1) : ((x0 + (3 : Nat)) + (1600 : Nat)) < x1 := by lia
theorem ar364 {x0 : Int} (h0 : (1 : Int) ≤ x0) : (Int.toNat (x0 + (1 : Int))) = ((Int.toNat x0) + (1 : Nat)) := by lia
theorem ar365 {x0 : Int} {x1 : Int} (h0 : x1 = x0) (h1 : x1 ≤ (6 : Int)) : x0 ≤ (6 : Int) := by lia
theorem ar366 {x0 : Int} {x1 : Nat} (h0 : ((0 : Int) + ((x1 : Nat) : Int)) = x0) : x0 = ((x1 : Nat) : Int) := by lia
theorem ar367 {x0 : Int} {x1 : Int} {x2 : Int} {x3 : Int} (h0 : x0 < x2) (h1 : (0 : Int) < x2) (h2 : x1 = (x3 * (2 : Int))) (h3 : x3 = (x2 * (2 : Int))) : (x0 * (2 : Int)) < x1 := by lia
theorem ar368 {x0 : Int} (h0 : (3 : Int) ≤ x0) (h1 : x0 ≤ (6 : Int)) : (x0 = (3 : Int)) ∨ ((x0 = (4 : Int)) ∨ ((x0 = (5 : Int)) ∨ (x0 = (6 : Int)))) := by lia
theorem ar369 {x0 : Nat} {x1 : Nat} {x2 : Nat} (h0 : x1 < x2) (h1 : x2 < x0) : (x0 + (1 : Nat)) ≠ x1 := by lia
theorem ar370 {x0 : Int} (h0 : x0 ≤ (16000 : Int)) : (Int.toNat x0) ≤ (16000 : Nat) := by lia
theorem ar371 {x0 : Int} {x1 : Nat} (h0 : ((0 : Int) ≤ x0) ∧ (x0 < ((0 : Int) + ((x1 : Nat) : Int)))) : x0 < ((x1 : Nat) : Int) := by lia
theorem ar372 {x0 : Nat}  : x0 ≤ ((x0 + (1 : Nat)) + (1 : Nat)) := by lia
theorem ar373 {x0 : Int} {x1 : Int} (h0 : ((1 : Int) ≤ x0) ∧ (x0 ≤ x1)) (h1 : ((0 : Int) < x1) ∧ (x1 < (10 : Int))) : ((0 : Int) < x0) ∧ (x0 < (10 : Int)) := by lia
theorem ar374 {x0 : Int} {x1 : Int} (h0 : x0 = ((3 : Int) + (x1 % (2 : Int)))) : (x0 = (3 : Int)) ∨ (x0 = (4 : Int)) := by lia
theorem ar375 {x0 : Nat} {x1 : Nat} {x2 : Prop} (h0 : ((((x1 + (1 : Nat)) + (1 : Nat)) + (1 : Nat)) < x0) ∧ ((((x1 + (1 : Nat)) + (1 : Nat)) < x0) ∧ (((x1 + (1 : Nat)) < x0) ∧ (((30 : Nat) < x0) ∧ (x2))))) : x0 ≠ (((x1 + (1 : Nat)) + (1 : Nat)) + (1 : Nat)) := Nat.ne_of_gt (h0.1)
theorem ar376 {x0 : Nat}  : (x0 + (1 : Nat)) ≠ ((x0 + (1 : Nat)) + (1 : Nat)) := Nat.ne_of_lt (Nat.lt_add_of_pos_right (by decide))
theorem ar377 {x0 : Int} (h0 : (0 : Int) ≤ x0) : ((Int.toNat (x0 + (1 : Int))) - (Int.toNat x0)) = (1 : Nat) := by lia
theorem ar378 {x0 : Nat} {x1 : Int} {x2 : Nat} (h0 : x0 ≤ (16000 : Nat)) (h1 : ((x2 : Nat) : Int) = x1) (h2 : x2 ≤ (16000 : Nat)) : (((x0 : Nat) : Int) + x1) ≤ ((2 : Int) ^ 27) := by lia
theorem ar380 {x0 : Int} {x1 : Nat} (h0 : x0 = ((x1 : Nat) : Int)) : (0 : Int) ≤ x0 := by lia
theorem ar381 {x0 : Nat} {x1 : Nat} (h0 : x0 ≤ ((1000000 : Nat) + x1)) : (x0 + (1 : Nat)) ≤ ((1000000 : Nat) + (x1 + (1 : Nat))) := Nat.lt_succ_of_le h0
theorem ar382   : (3 : Int) < ((2 : Int) ^ 63) := by decide
theorem ar383 {x0 : Nat}  : (x0 + (3 : Nat)) ≠ (x0 + (2 : Nat)) := Nat.ne_of_gt (Nat.lt_succ_self _)
theorem ar385 {x0 : Nat} {x1 : Nat} (h0 : x1 < x0) : (x0 - x1) = (((x0 - (1 : Nat)) - x1) + (1 : Nat)) := by lia
theorem ar386 {x0 : Nat} {x1 : Nat} (h0 : (x0 + (1600 : Nat)) < x1) : ((x0 + (3 : Nat)) + (800 : Nat)) < x1 := by lia
theorem ar387 {x0 : Nat} {x1 : Nat} (h0 : x0 ≤ x1) (h1 : x1 ≤ (64 : Nat)) : x0 ≤ (64 : Nat) := Nat.le_trans h0 h1
theorem ar388 {x0 : Nat} {x1 : Int} (h0 : x0 = (Int.toNat x1)) (h1 : x1 ≤ (6 : Int)) : x0 ≤ (6 : Nat) := by lia
theorem ar389 {x0 : Nat} {x1 : Nat} {x2 : Nat} (h0 : (x0 < x1) ∨ (((x1 + (3 : Nat)) < x0) ∧ (x0 < x2))) : x0 ≠ (x1 + (3 : Nat)) := by lia
theorem ar390 {x0 : Nat} {x1 : Nat} (h0 : ((x0 : Nat) : Int) < ((x1 : Nat) : Int)) : x0 < x1 := by lia
theorem ar391 {x0 : Nat} (h0 : x0 < (4 : Nat)) : x0 ≤ (16777216 : Nat) := by lia
theorem ar392 {x0 : Nat} {x1 : Nat} (h0 : x1 < x0) : ((x0 - (1 : Nat)) - x1) < x0 := by lia
theorem ar393 {x0 : Int} {x1 : Int} {x2 : Int} (h0 : x1 = ((x0 + x2) / (2 : Int))) (h1 : x0 < x2) : x0 ≤ x1 := by lia
theorem ar394   : (1 : Int) < ((2 : Int) ^ 63) := by decide
theorem ar395   : (0 : Int) ≤ (2 : Int) := by decide
theorem ar396 {x0 : Nat} {x1 : Nat} {x2 : Nat} {x3 : Nat} {x4 : Nat} {x5 : Nat} (h0 : x2 < x1) (h1 : (x1 + (4 : Nat)) < x3) (h2 : x4 < x2) (h3 : (x0 = x2) ∨ ((x0 = x4) ∨ ((x3 ≤ x0) ∨ (x0 = x5)))) (h4 : x5 < x4) : (x0 < x1) ∨ ((x1 + (3 : Nat)) < x0) := by lia
theorem ar397 {x0 : Int} (h0 : x0 ≤ (40000 : Int)) : ((Int.toNat x0) + (2 : Nat)) ≤ (40002 : Nat) := by lia
theorem ar398 {x0 : Nat}  : (x0 + (3 : Nat)) ≠ x0 := Nat.ne_of_gt (Nat.lt_add_of_pos_right (by decide))
theorem ar399 {x0 : Int}  : (Int.toNat x0) = (Int.toNat (x0 - (0 : Int))) := by lia
theorem ar400 {x0 : Nat} {x1 : Int} (h0 : ((x0 : Nat) : Int) = x1) (h1 : (x1 % (2 : Int)) ≠ (0 : Int)) : x0 = (((Int.toNat x1) - (1 : Nat)) + (1 : Nat)) := by lia
theorem ar401 {x0 : Int} {x1 : Int} (h0 : (x0 * (1 : Int)) ≤ x1) : x0 ≤ ((1 : Int) + x1) := by lia
theorem ar402 {x0 : Nat} {x1 : Nat} (h0 : x0 ≤ x1) (h1 : x1 ≤ ((1204 : Nat) * (16 : Nat))) : x0 ≤ (1000000 : Nat) := Nat.le_trans (Nat.le_trans h0 h1) (by decide)
theorem ar403 {x0 : Nat} {x1 : Nat} {x2 : Nat} (h0 : (x0 + (x2 + (1 : Nat))) = x1) : x0 < x1 := by lia
theorem ar404 {x0 : Nat}  : (-((2 : Int) ^ 63)) ≤ ((x0 : Nat) : Int) := Int.natCast_nonneg _
theorem ar405 {x0 : Nat} {x1 : Int} (h0 : ((x0 : Nat) : Int) = x1) (h1 : x1 ≤ (16000 : Int)) : (((x0 : Nat) : Int) + (1 : Int)) ≤ ((2 : Int) ^ 27) := by lia
theorem ar406 {x0 : Nat} {x1 : Nat} {x2 : Prop} (h0 : ((((x1 + (1 : Nat)) + (1 : Nat)) + (1 : Nat)) < x0) ∧ ((((x1 + (1 : Nat)) + (1 : Nat)) < x0) ∧ (((x1 + (1 : Nat)) < x0) ∧ (((30 : Nat) < x0) ∧ (x2))))) : x0 ≠ ((x1 + (1 : Nat)) + (1 : Nat)) := Nat.ne_of_gt (h0.2.1)
theorem ar408 {x0 : Nat} {x1 : Nat} {x2 : Prop} (h0 : ((30 : Nat) < x1) ∧ ((x0 < x1) ∧ (x2))) : x0 ≠ (((x1 + (1 : Nat)) + (1 : Nat)) + (1 : Nat)) := by lia
theorem ar409 {x0 : Nat} {x1 : Nat} {x2 : Nat} (h0 : (x0 + (x1 + (1 : Nat))) = x2) : ((x0 + (1 : Nat)) + x1) = x2 := by lia
theorem ar410 {x0 : Nat} (h0 : (x0 + (200 : Nat)) < (1000 : Nat)) : x0 < (1000 : Nat) := by lia
theorem ar411 {x0 : Nat} {x1 : Nat} {x2 : Nat} (h0 : x0 ≤ ((1000000 : Nat) + x1)) (h1 : x1 < x2) (h2 : x2 ≤ (1000 : Nat)) : x0 ≤ (16777216 : Nat) := by lia
theorem ar412 {x0 : Nat} {x1 : Nat} {x2 : Nat} (h0 : x2 < (x1 + (1 : Nat))) (h1 : x0 < x2) : x0 < x1 := by lia
theorem ar413 {x0 : Nat} {x1 : Int} (h0 : x0 ≤ ((1 : Nat) + ((8000 : Nat) * (Int.toNat x1)))) (h1 : x1 ≤ (3 : Int)) : x0 ≤ (24001 : Nat) := by lia
theorem ar414 {x0 : Nat} {x1 : Nat} {x2 : Nat} {x3 : Prop} (h0 : (x1 < x0) ∧ (((((x2 + (1 : Nat)) + (1 : Nat)) + (1 : Nat)) < x0) ∧ ((((x2 + (1 : Nat)) + (1 : Nat)) < x0) ∧ (((x2 + (1 : Nat)) < x0) ∧ (((30 : Nat) < x0) ∧ (x3)))))) : (30 : Nat) < x0 := h0.2.2.2.2.1
theorem ar415 {x0 : Nat} {x1 : Nat} {x2 : Prop} (h0 : ((((x1 + (1 : Nat)) + (1 : Nat)) + (1 : Nat)) < x0) ∧ ((((x1 + (1 : Nat)) + (1 : Nat)) < x0) ∧ (((x1 + (1 : Nat)) < x0) ∧ (((30 : Nat) < x0) ∧ (x2))))) : x0 ≠ (30 : Nat) := Nat.ne_of_gt (h0.2.2.2.1)
theorem ar416 {x0 : Nat}  : ((0 : Nat) + x0) = x0 := by lia
theorem ar417 {x0 : Int} {x1 : Int} {x2 : Int} (h0 : x2 ≤ x1) (h1 : x0 = (x2 * (2 : Int))) : x0 ≤ (x1 * (2 : Int)) := by lia
theorem ar418 {x0 : Nat} (h0 : x0 = (0 : Nat)) : x0 ≤ (0 : Nat) := by lia
theorem ar419 {x0 : Int} (h0 : x0 ≤ (16000 : Int)) : ((x0 + (1 : Int)) / (2 : Int)) ≤ (16000 : Int) := by lia
theorem ar420 {x0 : Nat} {x1 : Nat} {x2 : Nat} {x3 : Nat} {x4 : Prop} (h0 : (x2 < x0) ∧ ((x3 < x0) ∧ (((((x1 + (1 : Nat)) + (1 : Nat)) + (1 : Nat)) < x0) ∧ ((((x1 + (1 : Nat)) + (1 : Nat)) < x0) ∧ (((x1 + (1 : Nat)) < x0) ∧ (((30 : Nat) < x0) ∧ (x4))))))) : x0 ≠ (((x1 + (1 : Nat)) + (1 : Nat)) + (1 : Nat)) := Nat.ne_of_gt (h0.2.2.1)
theorem ar421 {x0 : Nat} {x1 : Nat} {x2 : Nat} (h0 : (x0 + (1 : Nat)) < x2) (h1 : (x2 + (3 : Nat)) < x1) : x0 ≤ x1 := by lia
theorem ar423 {x0 : Int} (h0 : (2 : Int) ≤ x0) : x0 = (((((Int.toNat (x0 - (2 : Int))) + (1 : Nat)) + (1 : Nat)) : Nat) : Int) := by lia
theorem ar424 {x0 : Int} {x1 : Int} {x2 : Int}  : (Int.toNat (((((Int.toNat (((((Int.toNat ((192 : Int) + (x0 % (1000 : Int)))) : Nat) : Int) + (1 : Int)) + (x1 % (500 : Int)))) : Nat) : Int) + (1 : Int)) + (x2 % (500 : Int)))) ≤ (3000 : Nat) := by lia
theorem ar425 {x0 : Nat} (h0 : (x0 + (100 : Nat)) < (1000 : Nat)) : x0 < (1000 : Nat) := by lia
theorem ar426 {x0 : Int} (h0 : (0 : Int) < x0) : (0 : Int) < (x0 * (2 : Int)) := by lia
theorem ar428 {x0 : Nat} {x1 : Nat} {x2 : Nat} {x3 : Prop} (h0 : (x2 < x0) ∧ (((((x1 + (1 : Nat)) + (1 : Nat)) + (1 : Nat)) < x0) ∧ ((((x1 + (1 : Nat)) + (1 : Nat)) < x0) ∧ (((x1 + (1 : Nat)) < x0) ∧ (((30 : Nat) < x0) ∧ (x3)))))) : x0 ≠ (((x1 + (1 : Nat)) + (1 : Nat)) + (1 : Nat)) := Nat.ne_of_gt (h0.2.1)
theorem ar429 {x0 : Nat} {x1 : Nat} {x2 : Nat} (h0 : x1 = x2) (h1 : (x0 + (0 : Nat)) = x2) : x0 = x1 := by lia
theorem ar430 {x0 : Nat} {x1 : Nat} (h0 : x0 < x1) : x0 ≠ (x1 + (1 : Nat)) := by lia
theorem ar431 {x0 : Int} {x1 : Int} {x2 : Nat} {x3 : Nat} {x4 : Int} (h0 : x3 = (Int.toNat (x0 - x1))) (h1 : x1 ≤ x0) (h2 : (0 : Int) ≤ x1) (h3 : x0 ≤ x4) (h4 : x4 ≤ ((x2 : Nat) : Int)) : (Int.toNat x0) = ((min (Int.toNat x1) x2) + x3) := by rw [h0, Nat.min_eq_left (Int.toNat_le.2 (Int.le_trans h1 (Int.le_trans h3 h4))), ← Int.toNat_add h2 (Int.sub_nonneg_of_le h1), Int.add_comm, Int.sub_add_cancel]
theorem ar432 {x0 : Nat} {x1 : Nat} (h0 : (x0 + (3 : Nat)) < x1) : (x0 + (4 : Nat)) < (x1 + (2 : Nat)) := by lia
theorem ar433 {x0 : Int} {x1 : Int} {x2 : Int} (h0 : (0 : Int) ≤ x0) (h1 : ((0 : Int) ≤ x1) ∧ (x1 < x2)) : (0 : Int) ≤ (x0 + x1) := by lia
theorem ar434 {x0 : Nat} {x1 : Int} (h0 : x0 ≤ ((max ((max (((2 : Nat) * (Int.toNat x1)) + (2 : Nat)) ((Int.toNat x1) + ((Int.toNat x1) + (1 : Nat)))) + (1 : Nat)) (Int.toNat x1)) + (1 : Nat))) (h1 : (Int.toNat x1) ≤ (16000 : Nat)) : (((x0 : Nat) : Int) + x1) ≤ ((2 : Int) ^ 27) := by lia
theorem ar435 {x0 : Int}  : ((x0 * (2 : Int)) / (2 : Int)) = x0 := by lia
theorem ar436 {x0 : Nat} {x1 : Nat} {x2 : Nat} {x3 : Nat} {x4 : Nat} {x5 : Prop} (h0 : x2 < x1) (h1 : (x0 < x2) ∧ ((x3 < x2) ∧ (((((x4 + (1 : Nat)) + (1 : Nat)) + (1 : Nat)) < x2) ∧ ((((x4 + (1 : Nat)) + (1 : Nat)) < x2) ∧ (((x4 + (1 : Nat)) < x2) ∧ (((30 : Nat) < x2) ∧ (x5))))))) : x0 < x1 := by lia
theorem ar437 {x0 : Int} (h0 : (x0 % (2 : Int)) = (0 : Int)) : x0 = ((2 : Int) * (x0 / (2 : Int))) := by lia
theorem ar438 {x0 : Nat} {x1 : Int} (h0 : x0 ≤ (Int.toNat x1)) (h1 : (Int.toNat x1) ≤ (16000 : Nat)) : (((x0 : Nat) : Int) + x1) ≤ ((2 : Int) ^ 27) := by lia
theorem ar439 {x0 : Int} {x1 : Nat} {x2 : Nat} (h0 : ((x2 : Nat) : Int) = x0) : (Int.toNat (x0 - ((x1 : Nat) : Int))) = (x2 - x1) := by lia
theorem ar440 {x0 : Int}  : (x0 % (4 : Int)) < ((2 : Int) ^ 63) := by lia
theorem ar441 {x0 : Int} (h0 : ((0 : Int) ≤ x0) ∧ (x0 ≤ (4 : Int))) : (Int.toNat x0) ≤ (4 : Nat) := by lia
theorem ar443 {x0 : Nat} (h0 : x0 ≤ (101 : Nat)) : x0 ≤ (1000 : Nat) := Nat.le_trans h0 (by decide)
theorem ar444 {x0 : Nat} {x1 : Int} {x2 : Int} (h0 : x0 = (1 : Nat)) (h1 : x1 = (x2 / (2 : Int))) (h2 : x2 ≤ (16000 : Int)) : (((x0 : Nat) : Int) + x1) ≤ ((2 : Int) ^ 27) := by lia
theorem ar445 {x0 : Int} (h0 : x0 ≤ ((2 : Int) ^ 24)) : x0 ≤ (16777216 : Int) := h0
theorem ar446 {x0 : Int} {x1 : Nat} (h0 : ((x1 : Nat) : Int) = x0) : (Int.toNat x0) = x1 := by lia
theorem ar447 {x0 : Int} (h0 : (0 : Int) < x0) : (2 : Int) ≤ (x0 * (2 : Int)) := by lia
theorem ar448 {x0 : Nat} {x1 : Nat} {x2 : Nat} {x3 : Nat} {x4 : Prop} (h0 : (x2 < x1) ∧ (((((x3 + (1 : Nat)) + (1 : Nat)) + (1 : Nat)) < x1) ∧ ((((x3 + (1 : Nat)) + (1 : Nat)) < x1) ∧ (((x3 + (1 : Nat)) < x1) ∧ (((30 : Nat) < x1) ∧ ((x0 < x1) ∧ (x4))))))) : x0 < x1 := h0.2.2.2.2.2.1
theorem ar450 {x0 : Nat} {x1 : Nat} {x2 : Nat} {x3 : Int} (h0 : x2 ≤ ((15 : Nat) * x1)) (h1 : x0 ≤ (((1 : Nat) + x2) + (Int.toNat x3))) (h2 : (Int.toNat x3) ≤ (6 : Nat)) : x0 ≤ (((15 : Nat) * x1) + (7 : Nat)) := by lia
theorem ar451   : (((((0 : Nat) + (1 : Nat)) + (1 : Nat)) + (1 : Nat)) + (1 : Nat)) ≤ (16777216 : Nat) := by decide
theorem ar452 {x0 : Nat} (h0 : ((x0 : Nat) : Int) < (1205 : Int)) : x0 ≤ (1204 : Nat) := by lia
theorem ar453 {x0 : Nat} {x1 : Int} (h0 : x0 ≤ ((max ((1 : Nat) + ((Int.toNat x1) + (1 : Nat))) (1 : Nat)) + (1 : Nat))) : x0 ≤ ((Int.toNat x1) + (4 : Nat)) := by lia
theorem ar454 {x0 : Nat} {x1 : Nat} {x2 : Nat} {x3 : Nat} (h0 : x0 ≤ ((((20 : Nat) * x2) + (3 : Nat)) + x3)) (h1 : x1 ≤ (1 : Nat)) : (x0 + x1) ≤ ((((20 : Nat) * x2) + (3 : Nat)) + (x3 + (1 : Nat))) := by lia
theorem ar455 {x0 : Nat} {x1 : Int} (h0 : x0 ≤ (100000 : Nat)) (h1 : x1 ≤ ((1204 : Int) * (10 : Int))) : (((x0 : Nat) : Int) + x1) ≤ ((2 : Int) ^ 27) := by lia
theorem ar456 {x0 : Int} {x1 : Int} (h0 : ((1 : Int) ≤ x0) ∧ (x0 < ((1 : Int) + (((Int.toNat x1) : Nat) : Int)))) (h1 : x1 ≤ (3 : Int)) : ((0 : Int) ≤ x0) ∧ (x0 ≤ (6 : Int)) := by lia
theorem ar459 {x0 : Nat} {x1 : Nat} {x2 : Nat} (h0 : ((x1 - (1 : Nat)) - ((x0 + (1 : Nat)) - (1 : Nat))) = x2) (h1 : (x2 + (1 : Nat)) < x1) : ((x0 + (1 : Nat)) - (1 : Nat)) ≠ (0 : Nat) := by lia
theorem ar460 {x0 : Int} {x1 : Nat} (h0 : ((1 : Int) + ((x1 : Nat) : Int)) = x0) : x0 = (((x1 : Nat) : Int) + (1 : Int)) := by lia
theorem ar461 {x0 : Int} {x1 : Int} (h0 : x1 = x0) (h1 : (0 : Int) < x1) : x0 ≠ (0 : Int) := by lia
theorem ar463 {x0 : Nat}  : (((x0 + (1 : Nat)) + (1 : Nat)) + (1 : Nat)) ≠ ((x0 + (1 : Nat)) + (1 : Nat)) := Nat.ne_of_gt (Nat.lt_add_of_pos_right (by decide))
theorem ar464 {x0 : Nat}  : (x0 + (2 : Nat)) ≠ (x0 + (1 : Nat)) := Nat.ne_of_gt (Nat.lt_succ_self _)
theorem ar466 {x0 : Int} (h0 : x0 ≤ (3 : Int)) : x0 < ((2 : Int) ^ 63) := Int.lt_of_le_of_lt h0 (by decide)
theorem ar467 {x0 : Nat} {x1 : Nat} (h0 : x1 < x0) : ¬(x0 < x1) := by lia
theorem ar468 {x0 : Nat} (h0 : x0 ≤ (2 : Nat)) : (x0 + (1 : Nat)) ≤ (3 : Nat) := Nat.lt_of_le_of_lt h0 (by decide)
theorem ar469 {x0 : Int} {x1 : Int} {x2 : Int} (h0 : ((x0 = (2 : Int)) ∧ ((x1 = (1 : Int)) ∧ (x2 = (3 : Int)))) ∨ (((x0 = (2 : Int)) ∧ ((x1 = (1 : Int)) ∧ (x2 = (4 : Int)))) ∨ (((x0 = (2 : Int)) ∧ ((x1 = (2 : Int)) ∧ (x2 = (4 : Int)))) ∨ (((x0 = (2 : Int)) ∧ ((x1 = (2 : Int)) ∧ (x2 = (5 : Int)))) ∨ (((x0 = (3 : Int)) ∧ ((x1 = (1 : Int)) ∧ (x2 = (4 : Int)))) ∨ (((x0 = (3 : Int)) ∧ ((x1 = (1 : Int)) ∧ (x2 = (5 : Int)))) ∨ (((x0 = (3 : Int)) ∧ ((x1 = (2 : Int)) ∧ (x2 = (5 : Int)))) ∨ ((x0 = (3 : Int)) ∧ ((x1 = (3 : Int)) ∧ (x2 = (6 : Int))))))))))) : ((0 : Int) < x0) ∧ (x0 < (10 : Int)) := by lia
theorem ar470 {x0 : Nat} {x1 : Nat} (h0 : x0 = x1) (h1 : x1 ≤ (64 : Nat)) : x0 ≤ (16777216 : Nat) := by lia
theorem ar471 {x0 : Nat} {x1 : Nat} {x2 : Nat} (h0 : (x0 - x1) = (x2 + (1 : Nat))) : (x0 - (x1 + (1 : Nat))) = x2 := by lia
theorem ar472 {x0 : Nat}  : (-((2 : Int) ^ 62)) ≤ ((x0 : Nat) : Int) := Int.natCast_nonneg _
theorem ar473 {x0 : Nat} {x1 : Int} (h0 : x0 = (Int.toNat x1)) : (x0 - (1 : Nat)) = (Int.toNat (x1 - (1 : Int))) := by lia
theorem ar474 {x0 : Int} (h0 : (0 : Int) < x0) : (0 : Int) ≤ (x0 - (1 : Int)) := Int.le_sub_one_of_lt h0
theorem ar475 {x0 : Nat} (h0 : x0 ≤ (3 : Nat)) : x0 < ((2 : Nat) ^ 62) := Nat.lt_of_le_of_lt h0 (by decide)
theorem ar477 {x0 : Int} {x1 : Int} {x2 : Int} (h0 : x0 = ((x1 + x2) / (2 : Int))) (h1 : x1 < x2) : (0 : Int) ≤ (x0 - x1) := by lia
theorem ar478 {x0 : Nat} (h0 : (0 : Nat) < x0) : x0 = ((x0 - (1 : Nat)) + (1 : Nat)) := by lia
theorem ar479 {x0 : Nat} (h0 : (x0 + (1 : Nat)) ≤ (3 : Nat)) : x0 ≤ (3 : Nat) := Nat.le_of_lt (h0)
theorem ar480 {x0 : Nat} {x1 : Nat} {x2 : Nat} (h0 : (x0 + (1 : Nat)) < x2) (h1 : (x2 + (3 : Nat)) < x1) : (x0 + (1 : Nat)) < (x1 + (2 : Nat)) := by lia
theorem ar481 {x0 : Nat} (h0 : x0 ≤ (3 : Nat)) : ((x0 : Nat) : Int) < ((2 : Int) ^ 62) := by lia
theorem ar482 {x0 : Nat} {x1 : Nat} {x2 : Nat} {x3 : Nat} {x4 : Nat} {x5 : Nat} (h0 : x0 = x1) (h1 : x1 ≤ x2) (h2 : x2 < x3) (h3 : x3 ≤ (x4 + (1 : Nat))) (h4 : x4 = x5) (h5 : x5 ≤ (100 : Nat)) : x0 ≤ (1000 : Nat) := by lia
theorem ar483 {x0 : Int} (h0 : (x0 = (2 : Int)) ∨ (x0 = (3 : Int))) : x0 ≤ (3 : Int) := by lia
theorem ar484 {x0 : Int} {x1 : Int}  : (((((Int.toNat ((192 : Int) + (x0 % (1000 : Int)))) : Nat) : Int) + (1 : Int)) + (x1 % (500 : Int))) ≤ (1114111 : Int) := by lia
theorem ar485 {x0 : Nat} {x1 : Nat} {x2 : Prop} (h0 : ((x1 + (1 : Nat)) < x0) ∧ (x2)) : x0 ≠ (x1 + (1 : Nat)) := Nat.ne_of_gt (h0.1)
theorem ar486 {x0 : Int} {x1 : Int} {x2 : Int}  : (((((Int.toNat (((((Int.toNat ((192 : Int) + (x0 % (1000 : Int)))) : Nat) : Int) + (1 : Int)) + (x1 % (500 : Int)))) : Nat) : Int) + (1 : Int)) + (x2 % (500 : Int))) ≤ (1114111 : Int) := by lia
theorem ar487 {x0 : Int} (h0 : (5 : Int) ≤ x0) : x0 = (((Int.toNat x0) : Nat) : Int) := by lia
theorem ar488   : (((301 : Nat) + (1 : Nat)) + (400 : Nat)) < (1000 : Nat) := by decide
theorem ar489 {x0 : Nat} {x1 : Nat} {x2 : Nat} {x3 : Nat} {x4 : Nat} {x5 : Prop} (h0 : x2 < x0) (h1 : (x3 < x2) ∧ ((x4 < x2) ∧ (((((x1 + (1 : Nat)) + (1 : Nat)) + (1 : Nat)) < x2) ∧ ((((x1 + (1 : Nat)) + (1 : Nat)) < x2) ∧ (((x1 + (1 : Nat)) < x2) ∧ (((30 : Nat) < x2) ∧ (x5))))))) : x0 ≠ (((x1 + (1 : Nat)) + (1 : Nat)) + (1 : Nat)) := by lia
theorem ar490 {x0 : Int} {x1 : Int} {x2 : Int} (h0 : x0 ≤ ((4000 : Int) * x2)) (h1 : x2 = ((2 : Int) * x1)) : ((x0 + (1 : Int)) / (2 : Int)) ≤ ((4000 : Int) * x1) := by lia
theorem ar491 {x0 : Int} {x1 : Int} {x2 : Int} (h0 : x0 = ((x2 + x1) / (2 : Int))) (h1 : x2 < x1) : x0 ≤ x1 := by lia
theorem ar492 {x0 : Nat} {x1 : Int} {x2 : Int} {x3 : Nat} {x4 : Int} (h0 : (x0 + ((Int.toNat (x1 - x4)) + (1 : Nat))) < x3) (h1 : x2 = ((x4 + x1) / (2 : Int))) (h2 : x4 < x1) (h3 : (x4 + (1 : Int)) ≠ x1) : ((x0 + (1 : Nat)) + ((Int.toNat (x1 - x2)) + (1 : Nat))) < x3 := by lia
theorem ar494 {x0 : Int} {x1 : Int} {x2 : Int} (h0 : x2 = ((x1 + x0) / (2 : Int))) : (Int.toNat (x0 - x1)) = ((Int.toNat (x2 - x1)) + (Int.toNat (x0 - x2))) := by lia
theorem ar495   : ((((0 : Nat) + (1 : Nat)) + (1 : Nat)) + (1 : Nat)) ≤ (16777216 : Nat) := by decide
theorem ar496 {x0 : Nat} {x1 : Nat} (h0 : (x0 + (100 : Nat)) < x1) : x0 < x1 := by lia
theorem ar497 {x0 : Int} {x1 : Nat} (h0 : ((x1 : Nat) : Int) = x0) : (((Int.toNat x0) : Nat) : Int) = x0 := h0 ▸ h0
theorem ar498 {x0 : Nat} {x1 : Nat} (h0 : (x0 + (2 : Nat)) < x1) : x0 < x1 := by lia
theorem ar499 {x0 : Int}  : (x0 % (3 : Int)) < (3 : Int) := Int.emod_lt_of_pos _ (by decide)
theorem ar500 {x0 : Nat} {x1 : Nat} (h0 : (x0 < x1) ∨ ((x1 + (3 : Nat)) < x0)) : x0 ≠ x1 := by lia
theorem ar501 {x0 : Int} (h0 : ((0 : Int) ≤ x0) ∧ (x0 ≤ (4 : Int))) : ((0 : Int) ≤ x0) ∧ (x0 ≤ (10 : Int)) := by lia
theorem ar502 {x0 : Nat} {x1 : Int} {x2 : Nat} {x3 : Nat} (h0 : (x0 + (800 : Nat)) < x2) (h1 : (Int.toNat (x1 - (0 : Int))) = x3) (h2 : x3 ≤ (64 : Nat)) : ((x0 + (3 : Nat)) + ((8 : Nat) * ((Int.toNat (x1 - (0 : Int))) + (1 : Nat)))) < x2 := by lia
theorem ar503 {x0 : Nat} {x1 : Nat} {x2 : Nat} {x3 : Nat} (h0 : x1 ≤ (3 : Nat)) (h1 : x0 ≤ ((((20 : Nat) * x2) + (3 : Nat)) + x3)) (h2 : x3 ≤ (6 : Nat)) : (x0 + x1) ≤ ((20 : Nat) * (x2 + (1 : Nat))) := by lia
theorem ar504 {x0 : Nat} {x1 : Int} (h0 : x1 = ((x0 : Nat) : Int)) (h1 : x1 < ((61 : Int) + (1 : Int))) : x0 ≤ (64 : Nat) := by lia
theorem ar505 {x0 : Nat} {x1 : Nat} {x2 : Nat} (h0 : ((x1 + (2 : Nat)) < x0) ∧ (x0 ≠ x2)) : x0 ≠ (x1 + (1 : Nat)) := by lia
theorem ar506 {x0 : Int} {x1 : Int} (h0 : x1 ≤ x0) (h1 : (0 : Int) < x1) : (0 : Int) ≤ x0 := Int.le_of_lt (Int.lt_of_lt_of_le h1 h0)
theorem ar507 {x0 : Int} {x1 : Nat} (h0 : x0 < ((x1 : Nat) : Int)) : (x0 + (1 : Int)) ≤ ((x1 : Nat) : Int) := h0
theorem ar508 {x0 : Nat} {x1 : Nat} {x2 : Nat} (h0 : (x0 < x1) ∨ (((x1 + (3 : Nat)) < x0) ∧ (x0 < x2))) : (x0 < x1) ∨ ((x1 + (3 : Nat)) < x0) := by lia
theorem ar509 {x0 : Int} {x1 : Int} (h0 : x0 = x1) (h1 : x1 ≤ (6 : Int)) : x0 ≤ (6 : Int) := by lia
theorem ar510 {x0 : Nat} {x1 : Nat} (h0 : x0 ≤ x1) (h1 : x1 ≤ ((40000 : Nat) * (64 : Nat))) : x0 ≤ ((64 : Nat) * (40000 : Nat)) := Nat.le_trans h0 h1
theorem ar511 {x0 : Nat} {x1 : Nat} (h0 : (x1 + (4 : Nat)) < x0) : (x0 - (1 : Nat)) ≠ (x1 + (3 : Nat)) := by lia
theorem ar512 {x0 : Nat} {x1 : Nat} (h0 : (x0 < x1) ∨ ((x1 + (3 : Nat)) < x0)) : x0 ≠ (x1 + (2 : Nat)) := by lia
theorem ar513 {x0 : Int} (h0 : (Int.toNat x0) ≤ (16000 : Nat)) : (((Int.toNat x0) + (4 : Nat)) + (Int.toNat x0)) ≤ (134217728 : Nat) := by lia
theorem ar514 {x0 : Nat} (h0 : x0 ≤ (6 : Nat)) : (x0 = (0 : Nat)) ∨ ((x0 = (1 : Nat)) ∨ ((x0 = (2 : Nat)) ∨ ((x0 = (3 : Nat)) ∨ ((x0 = (4 : Nat)) ∨ ((x0 = (5 : Nat)) ∨ (x0 = (6 : Nat))))))) := by lia
theorem ar515 {x0 : Nat} {x1 : Nat} {x2 : Nat} {x3 : Nat} (h0 : x0 ≤ ((((20 : Nat) * x2) + (3 : Nat)) + x3)) (h1 : x1 = (1 : Nat)) : (x0 + x1) ≤ ((((20 : Nat) * x2) + (3 : Nat)) + (x3 + (1 : Nat))) := by lia
theorem ar516 {x0 : Nat} (h0 : ¬((0 : Int) < ((x0 : Nat) : Int))) : ((x0 : Nat) : Int) = (0 : Int) := by lia
theorem ar517 {x0 : Nat}  : x0 ≠ (x0 + (1 : Nat)) := Nat.ne_of_lt (Nat.lt_add_of_pos_right (by decide))
theorem ar519 {x0 : Nat} (h0 : x0 ≤ (729 : Nat)) : x0 ≤ (1000 : Nat) := Nat.le_trans h0 (by decide)
theorem ar520 {x0 : Int} (h0 : ((2 : Int) ≤ x0) ∧ (x0 ≤ (6 : Int))) : ((0 : Int) ≤ x0) ∧ (x0 ≤ (6 : Int)) := by lia
theorem ar521 {x0 : Int} {x1 : Int} (h0 : x0 = ((2 : Int) + (x1 % (2 : Int)))) : (x0 = (2 : Int)) ∨ (x0 = (3 : Int)) := by lia
theorem ar522 {x0 : Nat} {x1 : Nat} (h0 : x0 ≤ x1) : (x0 + ((0 : Nat) + (1 : Nat))) ≤ (x1 + (1 : Nat)) := Nat.lt_succ_of_le h0
theorem ar523 {x0 : Int} (h0 : (1 : Int) ≤ x0) (h1 : (x0 % (2 : Int)) = (0 : Int)) : (1 : Int) ≤ (x0 / (2 : Int)) := by lia
theorem ar524 {x0 : Nat} {x1 : Nat} {x2 : Nat} {x3 : Nat} {x4 : Prop} (h0 : (x0 < x1) ∧ ((x2 < x1) ∧ (((((x3 + (1 : Nat)) + (1 : Nat)) + (1 : Nat)) < x1) ∧ ((((x3 + (1 : Nat)) + (1 : Nat)) < x1) ∧ (((x3 + (1 : Nat)) < x1) ∧ (((30 : Nat) < x1) ∧ (x4))))))) : x0 < x1 := h0.1
theorem ar525 {x0 : Int} {x1 : Nat} (h0 : (Int.toNat x0) = (x1 + (1 : Nat))) : (0 : Int) ≤ (x0 - (1 : Int)) := by lia
theorem ar526 {x0 : Int} (h0 : (0 : Int) ≤ x0) (h1 : x0 ≠ (0 : Int)) : (0 : Int) < x0 := by lia
theorem ar527 {x0 : Nat} {x1 : Nat} (h0 : (x0 + (300 : Nat)) < x1) : (x0 + (1 : Nat)) < x1 := by lia
theorem ar528 {x0 : Nat} {x1 : Nat} {x2 : Nat} {x3 : Nat} (h0 : (x1 + (3 : Nat)) < x2) (h1 : (x0 < x3) ∨ (x0 = x2)) (h2 : (x3 + (1 : Nat)) < x1) : (x0 < x1) ∨ (((x1 + (3 : Nat)) < x0) ∧ (x0 < (x2 + (2 : Nat)))) := by lia
theorem ar530 {x0 : Int} {x1 : Int} (h0 : (0 : Int) ≤ x0) (h1 : x1 ≤ (3 : Int)) : (-((2 : Int) ^ 63)) ≤ (x0 - x1) := by lia
theorem ar531 {x0 : Nat} {x1 : Nat} (h0 : (x1 - x0) = (0 : Nat)) (h1 : x0 ≤ x1) : x0 = x1 := by lia
theorem ar532 {x0 : Int} {x1 : Nat} {x2 : Int} {x3 : Nat} (h0 : ((x1 : Nat) : Int) = x2) (h1 : x0 = (((x3 : Nat) : Int) + (1 : Int))) (h2 : x3 < (Int.toNat (x2 - (1 : Int)))) : (Int.toNat (x0 - (1 : Int))) < x1 := by lia
theorem ar533 {x0 : Int} {x1 : Nat} {x2 : Nat} (h0 : x1 = x2) (h1 : x0 < ((x2 : Nat) : Int)) : x0 < ((x1 : Nat) : Int) := by lia
theorem ar535 {x0 : Nat} {x1 : Nat} (h0 : x0 < x1) (h1 : x1 ≤ (6 : Nat)) : x0 < (6 : Nat) := Nat.lt_of_lt_of_le h0 h1
theorem ar536 {x0 : Int} (h0 : (5 : Int) ≤ x0) : (0 : Int) < x0 := Int.le_trans (by decide) h0
theorem ar537 {x0 : Nat} {x1 : Nat} {x2 : Nat} {x3 : Nat} (h0 : x2 = x1) (h1 : x2 ≤ (101 : Nat)) (h2 : x0 ≤ x3) (h3 : x3 ≤ ((101 : Nat) * (100 : Nat))) : (x0 + x1) ≤ (1048576 : Nat) := by lia
theorem ar538 {x0 : Int} (h0 : (0 : Int) ≤ x0) : (-((2 : Int) ^ 63)) ≤ x0 := Int.le_trans (by decide) h0
theorem ar539 {x0 : Nat} {x1 : Nat} {x2 : Nat} {x3 : Nat} (h0 : x1 ≤ (3 : Nat)) (h1 : x2 ≤ (6 : Nat)) (h2 : x0 ≤ ((((20 : Nat) * x3) + (3 : Nat)) + x2)) (h3 : x3 < (3 : Nat)) : (x0 + x1) ≤ (16777216 : Nat) := by lia
theorem ar540 {x0 : Nat} {x1 : Nat} {x2 : Nat} {x3 : Nat} {x4 : Nat} {x5 : Nat} (h0 : x1 ≤ x3) (h1 : x3 ≤ (100 : Nat)) (h2 : x4 = x2) (h3 : x4 ≤ (101 : Nat)) (h4 : x0 ≤ x5) (h5 : x5 ≤ ((101 : Nat) * (100 : Nat))) : ((x0 + (x1 + (0 : Nat))) + (x2 + ((0 : Nat) + (1 : Nat)))) ≤ (1048576 : Nat) := by lia
theorem ar541 {x0 : Int} {x1 : Nat} (h0 : x0 = (((x1 : Nat) : Int) + (1 : Int))) : (Int.toNat x0) = (x1 + (1 : Nat)) := by lia
theorem ar542 {x0 : Int} (h0 : (2 : Int) ≤ x0) : (1 : Int) ≤ x0 := Int.le_of_lt (h0)
theorem ar543 {x0 : Nat} {x1 : Prop} (h0 : ((30 : Nat) < x0) ∧ (x1)) : (30 : Nat) ≠ ((x0 + (1 : Nat)) + (1 : Nat)) := by lia
theorem ar545 {x0 : Nat} (h0 : x0 ≤ (3 : Nat)) : x0 ≤ (1000 : Nat) := Nat.le_trans h0 (by decide)
theorem ar546 {x0 : Nat} {x1 : Nat} {x2 : Nat} (h0 : (x1 - x2) = (x0 + (1 : Nat))) : x0 = (x1 - (x2 + (1 : Nat))) := by lia
theorem ar547 {x0 : Nat} {x1 : Nat}  : (((x0 + (x1 + (1 : Nat))) - (1 : Nat)) - x1) = x0 := by lia
theorem ar548   : ((301 : Nat) + (1 : Nat)) < (1000 : Nat) := by decide
theorem ar549 {x0 : Nat} {x1 : Int} (h0 : x0 ≤ ((max ((Int.toNat x1) + ((Int.toNat x1) + (1 : Nat))) (Int.toNat x1)) + (1 : Nat))) : x0 ≤ (((2 : Nat) * (Int.toNat x1)) + (2 : Nat)) := by lia
theorem ar550 {x0 : Nat}  : ¬((((x0 / (30 : Nat)) + (1 : Nat)) + (150 : Nat)) < (0 : Nat)) := by lia
theorem ar551 {x0 : Int} {x1 : Nat} {x2 : Nat} (h0 : (Int.toNat x0) = x1) (h1 : x1 < x2) (h2 : x2 ≤ (3 : Nat)) : x0 < ((2 : Int) ^ 63) := by lia
theorem ar552 {x0 : Nat} {x1 : Nat} {x2 : Nat} (h0 : x0 ≤ ((1 : Nat) + x1)) (h1 : x1 ≤ ((3 : Nat) * (((3 : Nat) * x2) + (4 : Nat)))) (h2 : ((x2 : Nat) : Int) < (1205 : Int)) : x0 ≤ (16000 : Nat) := by lia
theorem ar554 {x0 : Nat} {x1 : Int} (h0 : ((x0 : Nat) : Int) ≤ x1) : x0 ≤ (Int.toNat x1) := by lia
theorem ar555 {x0 : Int}  : x0 = ((0 : Int) + x0) := by lia
theorem ar556 {x0 : Int} {x1 : Int} (h0 : (0 : Int) ≤ x1) (h1 : (0 : Int) ≤ x0) : (0 : Int) ≤ (x0 + x1) := by lia
theorem ar557 {x0 : Int} {x1 : Int} (h0 : x1 = x0) (h1 : (3 : Int) ≤ x1) : (1 : Int) ≤ x0 := by lia
theorem ar558 {x0 : Nat} {x1 : Nat} {x2 : Nat} (h0 : x0 ≤ ((1 : Nat) + x2)) (h1 : x2 ≤ ((3 : Nat) * (((3 : Nat) * x1) + (4 : Nat)))) : x0 ≤ (((9 : Nat) * x1) + (13 : Nat)) := by lia
theorem ar559 {x0 : Nat} {x1 : Nat} {x2 : Nat} {x3 : Nat} (h0 : (x2 + (1 : Nat)) < x1) (h1 : (x0 < x2) ∨ (x0 = x3)) (h2 : (x1 + (3 : Nat)) < x3) : x0 ≠ (x1 + (3 : Nat)) := by lia
theorem ar560 {x0 : Int}  : ((192 : Int) + (x0 % (1000 : Int))) ≤ (1114111 : Int) := by lia
theorem ar561 {x0 : Nat} {x1 : Nat}  : (x0 - (x1 + (1 : Nat))) = ((x0 - (1 : Nat)) - x1) := by lia
theorem ar562 {x0 : Nat} {x1 : Nat} (h0 : x0 ≤ x1) : (x0 + (x1 - x0)) = x1 := by lia
theorem ar563 {x0 : Int} {x1 : Int} (h0 : ¬(x1 < x0)) : x0 ≤ x1 := Int.not_lt.mp h0
theorem ar564 {x0 : Nat} {x1 : Nat} (h0 : (x0 + (400 : Nat)) < x1) : ((x0 + (1 : Nat)) + (200 : Nat)) < x1 := by lia
theorem ar565 {x0 : Nat} {x1 : Nat} {x2 : Prop} (h0 : ((x0 + (1 : Nat)) < x1) ∧ (x2)) : (x0 + (1 : Nat)) ≠ x1 := Nat.ne_of_lt (h0.1)
theorem ar566 {x0 : Int} {x1 : Int} {x2 : Int} {x3 : Int} (h0 : x1 ≤ x2) (h1 : x0 = ((x3 + x1) / (2 : Int))) (h2 : x3 < x1) (h3 : (0 : Int) ≤ x3) : ((0 : Int) ≤ x0) ∧ ((x0 < x1) ∧ (x1 ≤ x2)) := by lia
theorem ar567 {x0 : Nat} {x1 : Nat} (h0 : (x0 + (400 : Nat)) < x1) : x0 < x1 := by lia
theorem ar568 {x0 : Nat} {x1 : Nat} (h0 : x0 < x1) (h1 : x1 ≤ (12 : Nat)) : x0 ≤ (12 : Nat) := by lia
theorem ar570 {x0 : Int} {x1 : Nat} (h0 : ((x1 : Nat) : Int) = x0) (h1 : x1 ≤ (16000 : Nat)) : x0 ≤ ((4000 : Int) * ((2 : Int) ^ 2)) := by lia
theorem ar571 {x0 : Int} (h0 : x0 ≤ (6 : Int)) : (Int.toNat x0) ≤ (6 : Nat) := by lia
theorem ar572 {x0 : Int} (h0 : (0 : Int) < x0) : (x0 - (0 : Int)) = (((Int.toNat x0) : Nat) : Int) := by lia
theorem ar573 {x0 : Nat}  : (x0 + (1 : Nat)) < (x0 + (2 : Nat)) := Nat.le_refl _
theorem ar574 {x0 : Nat} {x1 : Nat} {x2 : Int} (h0 : x0 ≤ (((1 : Nat) + ((8000 : Nat) * x1)) + ((1 : Nat) + ((6 : Nat) * ((Int.toNat x2) + (2 : Nat)))))) (h1 : x2 ≤ (1204 : Int)) : x0 ≤ ((1 : Nat) + ((8000 : Nat) * (x1 + (1 : Nat)))) := by lia
theorem ar576 {x0 : Int} {x1 : Nat} (h0 : x0 = ((x1 : Nat) : Int)) : (0 : Int) ≤ (x0 + (1 : Int)) := by lia
theorem ar577   : (1 : Int) < (((((((((((1 : Nat) + (1 : Nat)) + (1 : Nat)) + (1 : Nat)) + (1 : Nat)) + (1 : Nat)) + (1 : Nat)) + (1 : Nat)) + (1 : Nat)) : Nat) : Int) := by decide
theorem ar578 {x0 : Nat} {x1 : Nat} {x2 : Nat} (h0 : (x0 + (1 : Nat)) < x2) (h1 : (x2 + (3 : Nat)) < x1) : x0 ≤ (x1 + (1 : Nat)) := by lia
theorem ar579 {x0 : Nat} {x1 : Nat} (h0 : (x1 + (2 : Nat)) < x0) : x0 ≠ (x1 + (1 : Nat)) := by lia
theorem ar580 {x0 : Nat} (h0 : ¬((0 : Int) < ((x0 : Nat) : Int))) : (0 : Int) = ((x0 : Nat) : Int) := by lia
theorem ar581 {x0 : Nat} (h0 : (x0 + (200 : Nat)) < (1000 : Nat)) : ((x0 + (1 : Nat)) + (100 : Nat)) < (1000 : Nat) := by lia
theorem ar582 {x0 : Nat} {x1 : Nat} (h0 : (x0 + (1 : Nat)) < x1) : (x0 ≤ x0) ∧ ((x0 ≤ (x1 + (1 : Nat))) ∧ (x0 ≤ x1)) := by lia
theorem ar583 {x0 : Nat} {x1 : Nat} {x2 : Nat} {x3 : Nat} (h0 : (x0 < x1) ∨ (x0 = x2)) (h1 : (x1 + (1 : Nat)) < x3) (h2 : (x3 + (3 : Nat)) < x2) : x0 ≠ x1 := by lia
theorem ar584 {x0 : Int} (h0 : (0 : Int) ≤ x0) : ¬((0 : Int) ≤ ((-x0) - (1 : Int))) := by lia
theorem ar585 {x0 : Nat} {x1 : Nat} {x2 : Nat} (h0 : x1 < x0) (h1 : x2 < x1) (h2 : (192 : Nat) ≤ x2) : ¬((x0 = (34 : Nat)) ∨ ((x0 = (40 : Nat)) ∨ ((x0 = (41 : Nat)) ∨ (x0 = (92 : Nat))))) := by lia
theorem ar586 {x0 : Nat} {x1 : Nat} {x2 : Nat} {x3 : Nat} (h0 : x1 ≤ (1 : Nat)) (h1 : x2 < (3 : Nat)) (h2 : x0 ≤ ((((20 : Nat) * x2) + (3 : Nat)) + x3)) (h3 : x3 < (6 : Nat)) : (x0 + x1) ≤ (16777216 : Nat) := by lia
theorem ar587 {x0 : Int} {x1 : Int} (h0 : x0 ≤ x1) : ((Int.toNat x0) + ((Int.toNat x1) - (Int.toNat x0))) = (Int.toNat x1) := by lia
theorem ar588 {x0 : Nat} {x1 : Nat} (h0 : x1 = x0) : x0 ≤ x1 := by lia
theorem ar589 {x0 : Int} {x1 : Nat} {x2 : Int} {x3 : Nat} (h0 : x1 = (Int.toNat x2)) (h1 : x0 = (((x3 : Nat) : Int) + (1 : Int))) (h2 : x3 < (Int.toNat (x2 - (1 : Int)))) : (Int.toNat (x0 - (1 : Int))) < x1 := by lia
theorem ar590 {x0 : Nat} {x1 : Int} {x2 : Int} {x3 : Nat} {x4 : Int} (h0 : (x0 + ((8 : Nat) * ((Int.toNat (x4 - x2)) + (1 : Nat)))) < x3) (h1 : x1 = ((x2 + x4) / (2 : Int))) (h2 : x2 < x4) : ((x0 + (3 : Nat)) + ((8 : Nat) * ((Int.toNat (x1 - x2)) + (1 : Nat)))) < x3 := by lia
theorem ar591 {x0 : Nat} {x1 : Nat} {x2 : Nat} (h0 : (x2 + (3 : Nat)) < x1) (h1 : x0 ≤ (x2 + (3 : Nat))) : x0 ≠ (x1 + (1 : Nat)) := by lia
theorem ar592 {x0 : Int} {x1 : Nat}  : (x0 + (((x1 : Nat) : Int) * (1 : Int))) = (x0 + ((x1 : Nat) : Int)) := by lia
theorem ar593 {x0 : Nat} {x1 : Int} (h0 : x0 ≤ (3 : Nat)) : x0 ≤ ((16777216 : Nat) + (Int.toNat (x1 + (1 : Int)))) := by lia
theorem ar594 {x0 : Int} {x1 : Nat} (h0 : (Int.toNat x0) = (x1 + (1 : Nat))) (h1 : x1 < (3 : Nat)) : (x0 - (1 : Int)) < ((2 : Int) ^ 63) := by lia
theorem ar595 {x0 : Int} {x1 : Int} {x2 : Int} {x3 : Nat} (h0 : (0 : Int) ≤ x1) (h1 : x0 = ((x1 + x2) / (2 : Int))) (h2 : x2 ≤ ((x3 : Nat) : Int)) (h3 : x3 ≤ (64 : Nat)) : (x0 - x1) ≤ (64 : Int) := by lia
theorem ar596 {x0 : Int} (h0 : (0 : Int) ≤ x0) : x0 = (((Int.toNat x0) : Nat) : Int) := by lia
theorem ar597 {x0 : Int}  : ((-((-x0) - (1 : Int))) - (1 : Int)) = x0 := by lia
theorem ar598 {x0 : Nat} {x1 : Int} {x2 : Int} (h0 : ((x0 : Nat) : Int) = x1) (h1 : x1 = ((2 : Int) * x2)) (h2 : (1 : Int) ≤ x2) : x0 = (((Int.toNat x1) - (1 : Nat)) + (1 : Nat)) := by lia
theorem ar599 {x0 : Int} {x1 : Nat} {x2 : Int} {x3 : Int} {x4 : Int} (h0 : ((x1 : Nat) : Int) = x2) (h1 : x3 ≤ x2) (h2 : x0 = ((x4 + x3) / (2 : Int))) (h3 : x4 < x3) : x0 ≤ ((x1 : Nat) : Int) := by lia
theorem ar600 {x0 : Nat} {x1 : Nat} {x2 : Nat} (h0 : (x0 + (1 : Nat)) < x2) (h1 : (x2 + (3 : Nat)) < x1) : x0 < (x1 + (1 : Nat)) := by lia
theorem ar602 {x0 : Nat} (h0 : (x0 + (200 : Nat)) < (1000 : Nat)) : ((x0 + (1 : Nat)) + (((2 : Nat) * (2 : Nat)) + (1 : Nat))) < (1000 : Nat) := by lia
theorem ar604 {x0 : Int} {x1 : Nat} (h0 : ((x1 : Nat) : Int) = x0) (h1 : (0 : Nat) < x1) : (0 : Int) < x0 := by lia
theorem ar605 {x0 : Int} {x1 : Int} (h0 : x0 ≤ ((4000 : Int) * x1)) (h1 : x1 ≤ (4 : Int)) : x0 ≤ (16000 : Int) := by lia
theorem ar606 {x0 : Int} {x1 : Int} {x2 : Int} {x3 : Int} {x4 : Nat} (h0 : (0 : Int) ≤ x1) (h1 : x0 = ((x1 + x2) / (2 : Int))) (h2 : x1 < x2) (h3 : x2 ≤ x3) (h4 : ((x4 : Nat) : Int) = x3) (h5 : x4 ≤ (64 : Nat)) : (Int.natAbs (x0 - x1)) < ((2 : Nat) ^ 64) := by lia
theorem ar607 {x0 : Nat} {x1 : Nat} (h0 : x1 < x0) (h1 : (192 : Nat) ≤ x1) : ¬((x0 = (34 : Nat)) ∨ ((x0 = (40 : Nat)) ∨ ((x0 = (41 : Nat)) ∨ (x0 = (92 : Nat))))) := by lia
theorem ar608 {x0 : Int} {x1 : Nat} (h0 : x0 < ((x1 : Nat) : Int)) (h1 : x1 ≤ (3 : Nat)) : (x0 - (1 : Int)) < ((2 : Int) ^ 63) := by lia
theorem ar609 {x0 : Int} {x1 : Nat} (h0 : ((x1 : Nat) : Int) = x0) : x0 ≤ ((x1 : Nat) : Int) := by lia
theorem ar610 {x0 : Nat}  : ((4 : Int) - (((x0 : Nat) : Int) + (1 : Int))) = (((4 : Int) - ((x0 : Nat) : Int)) - (1 : Int)) := by lia
theorem ar611 {x0 : Int} (h0 : x0 ≤ (100 : Int)) : (Int.toNat x0) ≤ (16777216 : Nat) := by lia
theorem ar612 {x0 : Int} {x1 : Int} {x2 : Int} (h0 : x1 = x0) (h1 : x1 ≤ ((64 : Int) * x2)) (h2 : x2 ≤ (40000 : Int)) : x0 ≤ ((64 : Int) * (40000 : Int)) := by lia
theorem ar613 {x0 : Nat} (h0 : (192 : Nat) ≤ x0) : ¬((x0 = (34 : Nat)) ∨ ((x0 = (40 : Nat)) ∨ ((x0 = (41 : Nat)) ∨ (x0 = (92 : Nat))))) := by lia
theorem ar614 {x0 : Nat} {x1 : Nat} {x2 : Prop} (h0 : ((((x1 + (1 : Nat)) + (1 : Nat)) + (1 : Nat)) < x0) ∧ ((((x1 + (1 : Nat)) + (1 : Nat)) < x0) ∧ (((x1 + (1 : Nat)) < x0) ∧ (((37 : Nat) < x0) ∧ (x2))))) : x0 ≠ (((x1 + (1 : Nat)) + (1 : Nat)) + (1 : Nat)) := Nat.ne_of_gt (h0.1)
theorem ar615 {x0 : Nat} {x1 : Int} (h0 : (0 : Int) < x1) : (0 : Int) ≤ ((((x0 : Nat) : Int) + x1) - (1 : Int)) := by lia
theorem ar617 {x0 : Nat} {x1 : Prop} (h0 : ((37 : Nat) < x0) ∧ (x1)) : (37 : Nat) ≠ (((x0 + (1 : Nat)) + (1 : Nat)) + (1 : Nat)) := by lia
theorem ar618 {x0 : Int} (h0 : ((1 : Int) ≤ x0) ∧ (x0 ≤ (6 : Int))) : ((0 : Int) ≤ x0) ∧ (x0 ≤ (6 : Int)) := by lia
theorem ar620 {x0 : Int} {x1 : Int} {x2 : Int} (h0 : x1 ≤ x2) (h1 : x2 ≤ x0) : ((Int.toNat x0) - (Int.toNat x1)) = (((Int.toNat x2) - (Int.toNat x1)) + ((Int.toNat x0) - (Int.toNat x2))) := ((Nat.add_comm _ _).trans (Nat.sub_add_sub_cancel (Int.toNat_le_toNat h1) (Int.toNat_le_toNat h0))).symm
theorem ar621 {x0 : Int} {x1 : Nat} (h0 : ((0 : Int) ≤ x0) ∧ (x0 < ((0 : Int) + ((x1 : Nat) : Int)))) (h1 : x1 ≤ (3 : Nat)) : (x0 = (0 : Int)) ∨ ((x0 = (1 : Int)) ∨ (x0 = (2 : Int))) := by lia
theorem ar622 {x0 : Nat} (h0 : x0 ≤ (1000 : Nat)) : x0 ≤ (16777216 : Nat) := Nat.le_trans h0 (by decide)
theorem ar623   : (3 : Int) < (((((((((((1 : Nat) + (1 : Nat)) + (1 : Nat)) + (1 : Nat)) + (1 : Nat)) + (1 : Nat)) + (1 : Nat)) + (1 : Nat)) + (1 : Nat)) : Nat) : Int) := by decide
theorem ar624 {x0 : Nat} (h0 : x0 ≤ (3 : Nat)) : x0 ≤ (16777216 : Nat) := Nat.le_trans h0 (by decide)
theorem ar625 {x0 : Int} (h0 : (0 : Int) < x0) : ¬(x0 ≤ (0 : Int)) := by lia
theorem ar626 {x0 : Int} (h0 : (x0 = (2 : Int)) ∨ (x0 = (3 : Int))) : (0 : Int) < x0 := by lia
theorem ar627 {x0 : Int} {x1 : Int} (h0 : x0 = x1) (h1 : x1 ≤ (6 : Int)) : (Int.toNat x0) ≤ (6 : Nat) := by lia
theorem ar628 {x0 : Int} {x1 : Nat} {x2 : Int} {x3 : Int} (h0 : (0 : Int) ≤ x0) (h1 : ((x1 : Nat) : Int) = x2) (h2 : x0 < x3) (h3 : x3 ≤ x2) : (Int.toNat x0) < x1 := by lia
theorem ar629 {x0 : Int} (h0 : ¬((0 : Int) < x0)) : (0 : Int) = (((Int.toNat x0) : Nat) : Int) := by lia
theorem ar630 {x0 : Int} {x1 : Int} (h0 : (x1 + (1 : Int)) = x0) : (Int.toNat (x0 - x1)) = (1 : Nat) := by lia
theorem ar631 {x0 : Nat} {x1 : Int} {x2 : Nat} (h0 : ((0 : Int) ≤ x1) ∧ (x1 ≤ (60 : Int))) (h1 : x0 = x2) (h2 : x2 ≤ (64 : Nat)) : (x0 + (Int.toNat (x1 - ((x0 : Nat) : Int)))) ≤ (16777216 : Nat) := by lia
theorem ar632 {x0 : Int} (h0 : (0 : Int) < x0) (h1 : x0 ≤ (40000 : Int)) : (Int.natAbs x0) < (1073741824 : Nat) := by lia
theorem ar633 {x0 : Int} (h0 : (0 : Int) ≤ x0) (h1 : x0 < (4 : Int)) : (x0 = (0 : Int)) ∨ ((x0 = (1 : Int)) ∨ ((x0 = (2 : Int)) ∨ (x0 = (3 : Int)))) := by lia
theorem ar634 {x0 : Int} {x1 : Int} (h0 : ((1 : Int) ≤ x0) ∧ (x0 < ((1 : Int) + (((Int.toNat x1) : Nat) : Int)))) (h1 : x1 ≤ (6 : Int)) : ((0 : Int) ≤ x0) ∧ (x0 ≤ (6 : Int)) := by lia
theorem ar635 {x0 : Int} (h0 : ((0 : Int) ≤ x0) ∧ (x0 ≤ (30 : Int))) : x0 < ((2 : Int) ^ 5) := Int.lt_of_le_of_lt h0.2 (by decide)
theorem ar636 {x0 : Int} (h0 : ((0 : Int) ≤ x0) ∧ (x0 ≤ (4 : Int))) : x0 = (((Int.toNat x0) : Nat) : Int) := by lia
theorem ar640 {x0 : Nat} {x1 : Nat} {x2 : Nat} (h0 : (x0 + (((2 : Nat) * x1) + (2 : Nat))) < x2) : ((x0 + (1 : Nat)) + (((2 : Nat) * x1) + (1 : Nat))) < x2 := by lia
theorem ar641 {x0 : Int} {x1 : Int} (h0 : x0 ≠ x1) (h1 : x0 < (x1 + (1 : Int))) : x0 < x1 := by lia
theorem ar642 {x0 : Nat} {x1 : Nat} {x2 : Prop} (h0 : ((30 : Nat) < x1) ∧ ((x0 < x1) ∧ (x2))) : x0 ≠ ((x1 + (1 : Nat)) + (1 : Nat)) := by lia
theorem ar643 {x0 : Int} {x1 : Nat} (h0 : x0 = (((x1 : Nat) : Int) + (1 : Int))) : (0 : Int) ≤ x0 := by lia
theorem ar644 {x0 : Nat} {x1 : Nat} {x2 : Nat} {x3 : Nat} (h0 : x2 < x1) (h1 : x0 < x3) (h2 : x3 < x2) : (x0 < x1) ∨ ((x1 + (3 : Nat)) < x0) := by lia
theorem ar645 {x0 : Int}  : x0 ≤ ((1 : Int) + x0) := by lia
theorem ar647 {x0 : Int} {x1 : Int} {x2 : Int} {x3 : Int} {x4 : Nat} (h0 : (0 : Int) ≤ x1) (h1 : x0 = ((x1 + x2) / (2 : Int))) (h2 : x2 ≤ x3) (h3 : ((x4 : Nat) : Int) = x3) (h4 : x4 ≤ (64 : Nat)) : (x0 - x1) ≤ (64 : Int) := by lia
theorem ar648 {x0 : Nat} {x1 : Nat} (h0 : x0 < x1) : (¬(x0 = (x1 + (1 : Nat)))) ∧ (¬(x0 = x1)) := by lia
theorem ar649 {x0 : Int} {x1 : Int} (h0 : x0 = ((5 : Int) + ((x1 + (3 : Int)) % (1200 : Int)))) : ((5 : Int) ≤ x0) ∧ (x0 < (1205 : Int)) := by lia
theorem ar650 {x0 : Int} {x1 : Nat} (h0 : ((x1 : Nat) : Int) = x0) : (Int.toNat (x0 - (1 : Int))) = (x1 - (1 : Nat)) := by lia
theorem ar652 {x0 : Nat} {x1 : Nat} (h0 : (x0 + (2 : Nat)) < x1) : x0 ≤ x1 := by lia
theorem ar654 {x0 : Int} {x1 : Nat} (h0 : ((0 : Int) ≤ x0) ∧ (x0 < ((0 : Int) + ((x1 : Nat) : Int)))) : (Int.toNat x0) < x1 := by lia
theorem ar656 {x0 : Nat} {x1 : Nat} {x2 : Nat} {x3 : Nat} {x4 : Nat} (h0 : (x0 = x1) ∨ ((x0 = x4) ∨ (x0 = x3))) (h1 : x2 ≤ x4) : (x0 = x1) ∨ ((x2 ≤ x0) ∨ (x0 = x3)) := by lia
theorem ar657 {x0 : Nat} {x1 : Nat} (h0 : (x0 + (2 : Nat)) < x1) : (x0 + (1 : Nat)) ≠ x1 := by lia
theorem ar659 {x0 : Nat} {x1 : Nat} (h0 : (x0 + (1 : Nat)) < x1) : (¬(x0 = (x1 + (1 : Nat)))) ∧ (¬(x0 = x1)) := by lia
theorem ar660 {x0 : Int} (h0 : (2 : Int) ≤ x0) : (0 : Int) < x0 := Int.le_of_lt (h0)
theorem ar661 {x0 : Nat} {x1 : Nat} {x2 : Prop} {x3 : Prop} {x4 : Prop} {x5 : Prop} {x6 : Prop} (h0 : x1 < (2 : Nat)) (h1 : ((x2) ∧ ((x0 = (5 : Nat)) ∧ (x3))) ∨ (((x4) ∨ (x5)) ∧ ((x0 = (2 : Nat)) ∧ (x6)))) : (x0 - x1) = (((x0 - x1) - (1 : Nat)) + (1 : Nat)) := by lia
theorem ar662 {x0 : Int} {x1 : Int} (h0 : x1 < x0) : (x0 - x1) = (((Int.toNat (x0 - x1)) : Nat) : Int) := by lia
theorem ar663 {x0 : Nat} (h0 : x0 ≤ (2 : Nat)) : ((((0 : Nat) + (1 : Nat)) + (1 : Nat)) + x0) ≤ (16777216 : Nat) := by lia
theorem ar664 {x0 : Int} {x1 : Int} {x2 : Int} (h0 : x2 < x1) (h1 : x0 = ((1 : Int) + x2)) (h2 : (0 : Int) ≤ x2) : ((1 : Int) ≤ x0) ∧ (x0 ≤ x1) := by lia
theorem ar665 {x0 : Nat} (h0 : x0 = (4 : Nat)) : ((4 : Int) - ((x0 : Nat) : Int)) ≤ (0 : Int) := by lia
theorem ar667 {x0 : Nat} {x1 : Prop} (h0 : ((37 : Nat) < x0) ∧ (x1)) : (x0 + (1 : Nat)) ≠ (37 : Nat) := by lia
theorem ar668 {x0 : Nat} {x1 : Nat} (h0 : x0 < x1) : x0 < (x1 + (1 : Nat)) := by lia
theorem ar669 {x0 : Int} (h0 : x0 < (1205 : Int)) : x0 < ((2 : Int) ^ 11) := Int.le_trans h0 (by decide)
theorem ar670 {x0 : Nat} {x1 : Prop} (h0 : ((37 : Nat) < x0) ∧ (x1)) : ((x0 + (1 : Nat)) + (1 : Nat)) ≠ (37 : Nat) := by lia
theorem ar671 {x0 : Nat} {x1 : Nat} {x2 : Nat} (h0 : (x1 - x0) = (x2 + (1 : Nat))) : x0 < x1 := by lia
theorem ar672 {x0 : Int} {x1 : Int} (h0 : x0 < x1) : (x0 + (1 : Int)) ≤ x1 := h0
theorem ar674 {x0 : Nat} {x1 : Nat} (h0 : x1 = x0) (h1 : x1 ≤ (101 : Nat)) : x0 ≤ (101 : Nat) := by lia
theorem ar675 {x0 : Nat} {x1 : Nat} (h0 : x0 ≤ ((1000000 : Nat) + x1)) : x0 ≤ ((1000000 : Nat) + (x1 + (1 : Nat))) := by lia
theorem ar677   : (8 : Int) < ((2 : Int) ^ 63) := by decide
theorem ar678 {x0 : Nat} {x1 : Nat} (h0 : (x0 + (400 : Nat)) < x1) : (x0 + (1 : Nat)) < x1 := by lia
theorem ar679 {x0 : Int} (h0 : x0 ≤ (6 : Int)) : (x0 + (1 : Int)) ≤ (1000 : Int) := Int.lt_of_le_of_lt h0 (by decide)
theorem ar680 {x0 : Nat} {x1 : Int} {x2 : Nat} {x3 : Nat} (h0 : (Int.toNat x1) ≤ (6 : Nat)) (h1 : x0 ≤ (((1 : Nat) + x2) + (Int.toNat x1))) (h2 : x2 ≤ ((15 : Nat) * x3)) (h3 : ((x3 : Nat) : Int) < (1205 : Int)) : x0 ≤ (100000 : Nat) := by lia
theorem ar681 {x0 : Nat} (h0 : x0 ≤ (3 : Nat)) : (x0 = (0 : Nat)) ∨ ((x0 = (1 : Nat)) ∨ ((x0 = (2 : Nat)) ∨ (x0 = (3 : Nat)))) := by lia
theorem ar682 {x0 : Int} {x1 : Int} (h0 : x0 = ((2 : Int) * x1)) : ((Int.toNat x0) - (1 : Nat)) = (((Int.toNat x1) - (1 : Nat)) + (Int.toNat x1)) := by lia
theorem ar683 {x0 : Int} (h0 : (x0 % (2 : Int)) ≠ (0 : Int)) : (x0 + (1 : Int)) = ((2 : Int) * ((x0 + (1 : Int)) / (2 : Int))) := by lia
theorem ar684 {x0 : Int} {x1 : Int} {x2 : Int} {x3 : Int} {x4 : Int} (h0 : x4 = (x1 + x3)) (h1 : x0 < x4) : ((x0 - x1) + x2) ≤ ((x2 + x3) - (1 : Int)) := by lia
theorem ar685 {x0 : Nat} {x1 : Int} (h0 : x1 ≤ (16000 : Int)) (h1 : x0 = (1 : Nat)) : (((x0 : Nat) : Int) + x1) ≤ ((2 : Int) ^ 27) := by lia
theorem ar686 {x0 : Nat} {x1 : Nat} (h0 : (x1 + (2 : Nat)) < x0) : x0 ≠ x1 := by lia
theorem ar687 {x0 : Int}  : (x0 < (1 : Int)) ∨ ((x0 = (1 : Int)) ∨ ((1 : Int) < x0)) := by lia
theorem ar688 {x0 : Nat} (h0 : x0 ≤ (6 : Nat)) : (x0 + (1 : Nat)) ≤ (12 : Nat) := Nat.lt_of_le_of_lt h0 (by decide)
theorem ar689 {x0 : Nat} {x1 : Prop} (h0 : ((30 : Nat) < x0) ∧ (x1)) : ((x0 + (1 : Nat)) + (1 : Nat)) ≠ (30 : Nat) := by lia
theorem ar690 {x0 : Nat} {x1 : Nat} {x2 : Nat} {x3 : Nat} (h0 : (x3 + (1 : Nat)) < x1) (h1 : x0 < x3) : (x0 < x1) ∨ (((x1 + (3 : Nat)) < x0) ∧ (x0 < (x2 + (2 : Nat)))) := by lia
theorem ar691 {x0 : Nat} {x1 : Nat} {x2 : Nat} {x3 : Nat} {x4 : Nat} (h0 : x0 = x1) (h1 : x1 ≤ x2) (h2 : x2 ≤ (x3 + (1 : Nat))) (h3 : x3 = x4) (h4 : x4 ≤ (100 : Nat)) : x0 ≤ (101 : Nat) := by lia
theorem ar692 {x0 : Int} (h0 : x0 ≤ (3 : Int)) : (Int.toNat x0) ≤ (12 : Nat) := by lia
end Mine
local macro_rules | `(tactic| omega) => `(tactic| first | k_extra "ar" | omega (config := {}))

local macro_rules | `(tactic| walk_at $s:str) => `(tactic| k_extra $s)
local macro_rules | `(tactic| k_all) => `(tactic| k_extra "kall")
local macro_rules | `(tactic| k_mem) => `(tactic| k_extra "k_mem")

namespace Mine
open PySem.Builtin.Int (intBits)

theorem bits_lt {x : Int} {m : Nat} (h : intBits x ≤ m) (h0 : 0 ≤ x) : x < 2 ^ m := by
  k_with_none
  k_with "ar" => (first | with_reducible exact ar106 (by assumption) (by assumption))
  have := intBits_le_iff.mp h
  have e : ((2 ^ m : Nat) : Int) = (2 : Int) ^ m := by norm_cast
  omega
theorem bits_of_lt {x : Int} {m : Nat} (h : x < 2 ^ m) (h0 : 0 ≤ x) : intBits x ≤ m := by
  k_with_none
  k_with "ar" => (first | with_reducible exact ar335 (by assumption) (by assumption) (by assumption))
  refine intBits_le_iff.mpr ?_
  have e : ((2 ^ m : Nat) : Int) = (2 : Int) ^ m := by norm_cast
  omega
theorem bits_ge {x : Int} {m : Nat} (h : intBits x = m + 1) (h0 : 0 ≤ x) : 2 ^ m ≤ x := by
  k_with_none
  k_with "ar" => (first | with_reducible exact ar224 (by assumption) | with_reducible exact ar563 (by assumption))
  have : ¬ intBits x ≤ m := by omega
  have : ¬ x < 2 ^ m := fun q => this (bits_of_lt q h0)
  omega
theorem bits_eq {x : Int} {m : Nat} (h1 : 2 ^ m ≤ x) (h2 : x < 2 ^ (m + 1)) : intBits x = m + 1 := by
  k_with_none
  k_with "ar" => (first | with_reducible exact ar506 (by assumption) (by assumption) | with_reducible exact ar318 (by assumption) (by assumption))
  have p : (0 : Int) < 2 ^ m := Int.pow_pos (by decide)
  have a := bits_of_lt h2 (by omega)
  have : ¬ intBits x ≤ m := fun q => by
    have := bits_lt q (by omega)
    omega
  omega
theorem bits_pos {x : Int} (h : 0 < x) : 0 < intBits x := by
  k_with_none
  k_with "ar" => (first | with_reducible exact ar418 (by assumption) | with_reducible exact ar35 (by assumption))
  rcases Nat.eq_zero_or_pos (intBits x) with e | e
  · have := bits_lt (m := 0) (by omega) (by omega : 0 ≤ x)
    simp at this
    omega
  · exact e
theorem two_pos (m : Nat) : (0 : Int) < 2 ^ m := Int.pow_pos (by decide)

/-- a division by a number of as many bits but four thousand is done at once -/
theorem noPyl {x y : Int} (h : intBits x ≤ intBits y + 4000) : Builtin.divisionGoesByPylong x y = false := by
  k_with_none
  k_with "ar" => (first | with_reducible exact ar251 (by assumption) | with_reducible exact ar550)
  unfold Builtin.divisionGoesByPylong
  unfold intBits at h
  simp only [beq_iff_eq, gt_iff_lt, Bool.and_eq_false_imp, decide_eq_true_eq, decide_eq_false_iff_not] at h ⊢
  intro h1
  split at h1
  · omega
  · rename_i hy
    simp only [if_neg hy] at h ⊢
    split at h
    · rename_i hx; simp only [if_pos hx]; omega
    · rename_i hx; simp only [if_neg hx]; omega

theorem and_mask {x : Int} (h0 : 0 ≤ x) (m : Nat) : Builtin.bitAnd x (1 * 2 ^ m - 1) = x % 2 ^ m := by
  k_with_none
  k_with "ar" => (first | with_reducible exact ar308 (by assumption) | with_reducible exact ar282 (by assumption) | with_reducible exact ar294 (by assumption))
  have p := two_pos m
  unfold Builtin.bitAnd
  rw [decide_eq_true h0, decide_eq_true (by omega : (0:Int) ≤ 1 * 2 ^ m - 1)]
  have e : (1 * 2 ^ m - 1 : Int).toNat = 2 ^ m - 1 := by
    have : ((2 ^ m : Nat) : Int) = (2 : Int) ^ m := by norm_cast
    omega
  show ((x.toNat &&& (1 * 2 ^ m - 1 : Int).toNat : Nat) : Int) = _
  rw [e, Nat.and_two_pow_sub_one_eq_mod]
  have : ((2 ^ m : Nat) : Int) = (2 : Int) ^ m := by norm_cast
  rw [Int.natCast_emod, this]
  congr 1
  omega

theorem or_nat {x y : Int} (hx : 0 ≤ x) (hy : 0 ≤ y) : Builtin.bitOr x y = ((x.toNat ||| y.toNat : Nat) : Int) := by
  k_with_none
  k_with "ar" => (first | with_reducible exact ar584 (by assumption) | with_reducible exact ar597)
  unfold Builtin.bitOr Builtin.bitAnd
  have a : ¬ (0 ≤ Builtin.bitNot x) := by unfold Builtin.bitNot; omega
  have b : ¬ (0 ≤ Builtin.bitNot y) := by unfold Builtin.bitNot; omega
  rw [decide_eq_false a, decide_eq_false b]
  have e : ∀ z, Builtin.bitNot (Builtin.bitNot z) = z := by intro z; unfold Builtin.bitNot; omega
  show Builtin.bitNot (Builtin.bitNot (((Builtin.bitNot (Builtin.bitNot x)).toNat ||| (Builtin.bitNot (Builtin.bitNot y)).toNat : Nat) : Int)) = _
  rw [e, e, e]
theorem or_add {x y : Int} {m : Nat} (hx : 0 ≤ x) (hy : 0 ≤ y) (h : y < 2 ^ m) : Builtin.bitOr (x * 2 ^ m) y = x * 2 ^ m + y := by
  k_with_none
  k_with "ar" => (first | with_reducible exact ar35 (by assumption) | with_reducible exact ar390 (by assumption))
  rw [or_nat (Int.mul_nonneg hx (by have := two_pos m; omega)) hy]
  obtain ⟨a, rfl⟩ := Int.eq_ofNat_of_zero_le hx
  obtain ⟨b, rfl⟩ := Int.eq_ofNat_of_zero_le hy
  have e : ((2 ^ m : Nat) : Int) = (2 : Int) ^ m := by norm_cast
  rw [← e] at h ⊢
  have h' : b < 2 ^ m := by omega
  have e2 : ((a : Int) * ((2 ^ m : Nat) : Int)) = ((a * 2 ^ m : Nat) : Int) := by push_cast; rfl
  rw [e2, Int.toNat_natCast, Int.toNat_natCast]
  have := Nat.two_pow_add_eq_or_of_lt h' a
  rw [Nat.mul_comm, ← this]
  push_cast
  rfl
theorem or_zero {y : Int} (hy : 0 ≤ y) : Builtin.bitOr 0 y = y := by
  have := or_add (x := 0) (y := y) (m := intBits y) (by decide) hy (bits_lt (Nat.le_refl _) hy)
  simpa using this
end Mine
namespace Mine
open PySem.Builtin.Int (intBits)

theorem divmod_of {a b q r : Int} (e : q * b + r = a) (h0 : 0 ≤ r) (h1 : r < b) : q = a / b ∧ r = a % b := by
  k_with_none
  k_with "ar" => (first | with_reducible exact ar270 (by assumption) (by assumption) | with_reducible exact ar555)
  have hb : b ≠ 0 := by omega
  subst e
  constructor
  · rw [Int.add_comm, Int.add_mul_ediv_right _ _ hb, Int.ediv_eq_zero_of_lt h0 h1]; omega
  · rw [Int.add_comm, Int.add_mul_emod_self_right, Int.emod_eq_of_lt h0 h1]

theorem d3_eq {a12 a3 b b1 b2 P : Int} (hb : b = b1 * P + b2) : (P - 1) * b + ((a12 - b1 * P + b1) * P + a3 - (P - 1) * b2) = a12 * P + a3 := by
  subst hb; grind
theorem d3_eq_r {a12 b b1 b2 P : Int} (hP : 0 < P) (hq : a12 / P = b1) (hb1 : 0 < b1) (_hb : b = b1 * P + b2) : 0 ≤ a12 - b1 * P + b1 := by
  k_with_none
  k_with "ar" => (first | with_reducible exact ar39 (by assumption) | with_reducible exact ar67 (by assumption) (by assumption))
  have := Int.mul_ediv_self_le (x := a12) (k := P) (by omega)
  rw [hq, Int.mul_comm] at this
  omega
theorem d3_eq_lt {a12 a3 b b1 b2 P : Int} (hP : 0 < P) (hb : b = b1 * P + b2) (h3 : a3 < P) (h12 : a12 < b) : (a12 - b1 * P + b1) * P + a3 - (P - 1) * b2 < b := by
  k_with_none
  k_with "ar" => (first | with_reducible exact ar684 (by assumption) (by assumption) | with_reducible exact ar35 (by assumption) | with_reducible exact ar3 (by assumption) (by assumption) (by assumption) (by assumption) (by assumption))
  have h : a12 - b1 * P + b1 ≤ b1 + b2 - 1 := by omega
  have := Int.mul_le_mul_of_nonneg_right h (by omega : 0 ≤ P)
  have e : (b1 + b2 - 1) * P = b1 * P + b2 * P - P := by grind
  have e2 : (P - 1) * b2 = b2 * P - b2 := by grind
  omega
theorem d3_ne {a12 a3 b b1 b2 P : Int} (hb : b = b1 * P + b2) : (a12 / b1) * b + ((a12 % b1) * P + a3 - (a12 / b1) * b2) = a12 * P + a3 := by
  have := Int.mul_ediv_add_emod a12 b1
  subst hb
  generalize a12 / b1 = q at *
  generalize a12 % b1 = r at *
  grind
theorem d3_ne_lt {a12 a3 b b1 b2 P : Int} (hP : 0 < P) (hb1 : 0 < b1) (hb : b = b1 * P + b2) (h20 : 0 ≤ b2) (h3 : a3 < P) (h0 : 0 ≤ a12) : (a12 % b1) * P + a3 - (a12 / b1) * b2 < b := by
  k_with_none
  k_with "ar" => (first | with_reducible exact ar9 (by assumption) | with_reducible exact ar35 (by assumption) | with_reducible exact ar13 (by assumption) (by assumption) (by assumption) (by assumption) (by assumption) (by assumption))
  have h1 := Int.emod_lt_of_pos a12 hb1
  have h2 : a12 % b1 ≤ b1 - 1 := by omega
  have := Int.mul_le_mul_of_nonneg_right h2 (by omega : 0 ≤ P)
  have e : (b1 - 1) * P = b1 * P - P := by grind
  have := Int.mul_nonneg (Int.ediv_nonneg h0 (by omega : 0 ≤ b1)) h20
  omega
theorem d3_ne_top {a12 b b1 b2 P : Int} (hP : 0 < P) (hb : b = b1 * P + b2) (h2 : b2 < P) (h12 : a12 < b) (hq : a12 / P ≠ b1) : a12 < b1 * P := by
  k_with_none
  k_with "ar" => (first | with_reducible exact ar168 (by assumption) (by assumption) (by assumption) | with_reducible exact ar641 (by assumption) (by assumption))
  have h : a12 / P < b1 + 1 := (Int.ediv_lt_iff_lt_mul hP).mpr (by rw [Int.add_mul]; omega)
  exact (Int.ediv_lt_iff_lt_mul hP).mp (by omega)

/-- the two halves -/
theorem d2_two {a b P : Int} (hP : 0 < P) (hb : 0 < b) :
    ((a / P) / b) * P + ((((a / P) % b) * P + a % P) / b) = a / b ∧ (((a / P) % b) * P + a % P) % b = a % b := by
  k_with_none
  k_with "ar" => (first | with_reducible exact ar39 (by assumption))
  have e1 := Int.mul_ediv_add_emod (a / P) b
  have e2 := Int.mul_ediv_add_emod a P
  generalize hq : a / P / b = q1 at *
  generalize hr : a / P % b = r1 at *
  generalize hc : a % P = c at *
  have e : (q1 * P) * b + (r1 * P + c) = a := by
    rw [← e2, ← e1]; grind
  have e3 := Int.mul_ediv_add_emod (r1 * P + c) b
  have e4 : (q1 * P + (r1 * P + c) / b) * b + (r1 * P + c) % b = a := by
    rw [← e]
    generalize (r1 * P + c) / b = x at *
    generalize (r1 * P + c) % b = y at *
    grind
  have := divmod_of e4 (Int.emod_nonneg _ (by omega)) (Int.emod_lt_of_pos _ hb)
  exact ⟨this.1, this.2⟩
theorem d2_second_lt {b P : Int} (r c : Int) (hP : 0 < P) (_hb : 0 < b) (h : r < b) (hc : c < P) : r * P + c < b * P := by
  k_with_none
  k_with "ar" => (first | with_reducible exact ar9 (by assumption) | with_reducible exact ar35 (by assumption) | with_reducible exact ar44 (by assumption) (by assumption) (by assumption))
  have h1 : r ≤ b - 1 := by omega
  have := Int.mul_le_mul_of_nonneg_right h1 (by omega : 0 ≤ P)
  have e : (b - 1) * P = b * P - P := by grind
  omega
theorem ediv_mul_emod_ediv (a : Int) {P : Int} (h : 0 < P) : (a / (P * P)) * P + (a / P) % P = a / P := by
  k_with_none
  k_with "ar" => (first | with_reducible exact ar35 (by assumption))
  have h1 := Int.mul_ediv_add_emod (a / P) P
  have : a / P / P = a / (P * P) := Int.ediv_ediv_of_nonneg (by omega)
  rw [this] at h1
  rw [Int.mul_comm]; exact h1

/-- the pad -/
theorem pad_div {a b : Int} (_hb : 0 < b) : (a * 2) / (b * 2) = a / b := Int.mul_ediv_mul_of_pos_left a b (by decide)
theorem pad_mod {a b : Int} (_hb : 0 < b) : ((a * 2) % (b * 2)) / 2 = a % b := by
  k_with_none
  k_with "ar" => (first | with_reducible exact ar435)
  have e : a * 2 % (b * 2) = (a % b) * 2 := by
    rw [Int.emod_def, Int.emod_def, pad_div _hb]
    grind
  rw [e]
  omega
end Mine
namespace Mine
open PySem.Builtin.Int (intBits)
abbrev PR : Program := PySem.Challenge.rw_ul0006_01.row.toRowW.1
abbrev tupO (x : Int) (tx : Tok) (y : Int) (ty : Tok) : Obj := { cls := .type "tuple", data := .seq #[.int x tx, .int y ty] }

/-- a place where the walk is to stop -/
def Stop (P : Prop) : Prop := P
theorem Stop.mk {P : Prop} (h : Stop P) : P := h
theorem Stop.of {P : Prop} (h : P) : Stop P := h

theorem lt1 {d e : Addr} {l : List (Addr × Obj)} (h : (@LT.lt Nat _ e d) ∧ AllLt d l) : ∀ q ∈ l, q.1 < d := ktn_ltOf h.2
theorem lt2 {d e f : Addr} {l : List (Addr × Obj)} (h : (@LT.lt Nat _ e d) ∧ (@LT.lt Nat _ f d) ∧ AllLt d l) : ∀ q ∈ l, q.1 < d := ktn_ltOf h.2.2
theorem lt3 {d e f g : Addr} {l : List (Addr × Obj)} (h : (@LT.lt Nat _ e d) ∧ (@LT.lt Nat _ f d) ∧ (@LT.lt Nat _ g d) ∧ AllLt d l) : ∀ q ∈ l, q.1 < d := ktn_ltOf h.2.2.2
theorem News.sub {h₀ h : Heap} {L : Addr} {l l' : List (Addr × Obj)} (N : News h₀ L h l) (hs : ∀ p ∈ l', p ∈ l) : News h₀ L h l' := fun p hp => N p (hs p hp)

/-- two ints of a frame, turned by a while -/
abbrev two (x y : Str) (q : Int) (tq : Tok) (r : Int) (tr : Tok) (m : Str → Option Value) : Str → Option Value := fun z => if z = y then some (.int r tr) else if z = x then some (.int q tq) else m z

def TwoEnd (h₀ : Heap) (L : Addr) (x y : Str) (m : Str → Option Value) (news : List (Addr × Obj)) (P : Int → Int → Prop) (s : Shared) (n : Nat) (μ : Int → Int → Nat) (f : Flow) (s₃ : Shared) : Prop :=
  f = .next ∧ ∃ h' tk q tq r tr m', s₃ = { s with heap := h', toks := tk } ∧ Fr h₀ L h' m' ∧ News h₀ L h' news ∧ m' x = some (.int q tq) ∧ m' y = some (.int r tr) ∧ (∀ z, z ≠ x → z ≠ y → m' z = m z) ∧ P q r ∧ μ q r < n
theorem TwoEnd.intro {h₀ h' : Heap} {L : Addr} {x y : Str} {m m' : Str → Option Value} {news : List (Addr × Obj)} {P : Int → Int → Prop} {s : Shared} {n tk : Nat} {μ : Int → Int → Nat} {q r : Int} {tq tr : Tok}
    (F : Fr h₀ L h' m') (N : News h₀ L h' news) (hx : m' x = some (.int q tq)) (hy : m' y = some (.int r tr)) (hm : ∀ z, z ≠ x → z ≠ y → m' z = m z) (hP : P q r) (hμ : μ q r < n) :
    TwoEnd h₀ L x y m news P s n μ .next { s with heap := h', toks := tk } := ⟨rfl, h', tk, q, tq, r, tr, m', rfl, F, N, hx, hy, hm, hP, hμ⟩

theorem While_two {prog : Program} {w : World} {A : Around} {E : Value → Shared → Prop} {Q : Flow → Shared → Prop} {s : Shared} {env : Env} {h₀ : Heap} {L : Addr} {test : Expr} {body : List Stmt} {pos : Pos}
    {m m₀ : Str → Option Value} {news : List (Addr × Obj)} {x y : Str} {q₀ r₀ : Int} {tq₀ tr₀ : Tok} (P : Int → Int → Prop) (μ : Int → Int → Nat) (hxy : x ≠ y)
    (F : Fr h₀ L s.heap m) (N : News h₀ L s.heap news) (hx : m x = some (.int q₀ tq₀)) (hy : m y = some (.int r₀ tr₀)) (hm : ∀ z, z ≠ x → z ≠ y → m z = m₀ z) (hP : P q₀ r₀)
    (turn : ∀ q tq r tr h₁ tk₁, P q r → Fr h₀ L h₁ (two x y q tq r tr m₀) → News h₀ L h₁ news →
      wpAny (model prog w) A (isTrue test env (eval test env)) (fun b s₂ =>
        if b = true then wpAny (model prog w) A (execs body env) (TwoEnd h₀ L x y m₀ news P s (μ q r) μ) E s₂ else Q .next s₂) E { s with heap := h₁, toks := tk₁ })
    (hE : PassesOwn (model prog w) A env E := by passes_own) :
    wpAny (model prog w) A (exec (.While test body [] pos) env) Q E s := by
  refine While_inv2 (fun n m₁ news₁ => news₁ = news ∧ ∃ q tq r tr, m₁ = two x y q tq r tr m₀ ∧ P q r ∧ n = μ q r) (n₀ := μ q₀ r₀) F N ⟨rfl, q₀, tq₀, r₀, tr₀, ?_, hP, rfl⟩ ?_ hE
  · funext z
    by_cases h1 : z = y
    · subst h1; simp [two, hy]
    · by_cases h2 : z = x
      · subst h2; simp [two, h1, hx]
      · simp [two, h1, h2, hm z h2 h1]
  · rintro n m₁ news₁ h₁ tk₁ F₁ N₁ ⟨rfl, q, tq, r, tr, rfl, hP₁, rfl⟩
    refine wpAny_mono (turn q tq r tr h₁ tk₁ hP₁ F₁ N₁) (fun b s₂ h₂ => ?_) fun _ _ e => e
    cases b with
    | false => exact h₂
    | true =>
      simp only [if_true] at h₂ ⊢
      refine wpAny_mono h₂ (fun f s₃ h₃ => ?_) fun _ _ e => e
      obtain ⟨rfl, h', tk, q', tq', r', tr', m', rfl, F', N', hx', hy', hm', hP', hμ⟩ := h₃
      refine ⟨h', tk, m', news₁, μ q' r', rfl, F', N', hμ, rfl, q', tq', r', tr', ?_, hP', rfl⟩
      funext z
      by_cases h1 : z = y
      · subst h1; simp [two, hy']
      · by_cases h2 : z = x
        · subst h2; simp [two, h1, hx']
        · simp [two, h1, h2, hm' z h2 h1]
end Mine
namespace Mine
open PySem.Builtin.Int (intBits)
theorem fill0 (c : OpenLaw) (k : Params → Frag) (h : (fun (a : OpenLaw) (b : Params → Frag) => a = c ∧ b = k) PySem.Challenge.rw_ul0006_01 hd.heap_39) : (fun (a : OpenLaw) (b : Params → Frag) => a = c ∧ b = k) PySem.Challenge.rw_ul0006_01 hd.heap_39 := by
  k_fill
  exact h

def D2 (w : World) (p : Program) (loose : List Str) (mean : ExcName → Option Value) (mg mb : Str → Option Value) (k : Nat) : Prop :=
  ∀ {dp un : Nat} {gd : Option (List Code)} {cn : Str} {cs : Scope} {a : Addr} {ccd : Value} {cl : List (Str × Addr)} {outer : List Env} {A₀ : Around} {base h₀ : Heap} {L : Addr} {m : Str → Option Value} {news : List (Addr × Obj)} {s : Shared}
  {Q E : Value → Shared → Prop}, Below A₀ base outer h₀ → Fr h₀ L s.heap m → (hd.heap_39 w.params).In h₀ → News h₀ L s.heap news → Top p loose mean mg mb h₀ → cs.kind = .function →
  ∀ {x y n : Int} {tx ty tn : Tok}, 0 < y → (intBits y : Int) = n → 0 ≤ x → x < y * 2 ^ n.toNat → n ≤ 4000 * 2 ^ k → dp + (2 * k + 1) < recursionLimit → un + 8 * (2 * k + 1) < cLine →
  (∀ t tq tr h' tk', Fr h₀ L h' m → News h₀ L h' ((t, tupO (x / y) tq (x % y) tr) :: news) → (∀ q ∈ news, q.1 < t) → Q (.ref t) { s with heap := h', toks := tk' }) →
  wpAny (model PR w) (ktrTop dp un gd cn cs L a ccd cl outer) (call (.ref 21) [.int x tx, .int y ty, .int n tn]) Q E s

theorem shl_ok {x : Int} {n : Int} {M : Nat} (h : intBits x ≤ M) (hM : (M : Int) + n ≤ 2 ^ 27) : (intBits x : Int) + n ≤ 2 ^ 27 := by omega

section
variable {w : World} {p : Program} {loose : List Str} {mean : ExcName → Option Value} {mg mb : Str → Option Value}
  {dp un : Nat} {gd : Option (List Code)} {cn : Str} {cs : Scope} {a : Addr} {ccd : Value} {cl : List (Str × Addr)} {outer : List Env} {A₀ : Around} {base h₀ : Heap} {L : Addr} {m : Str → Option Value} {news : List (Addr × Obj)} {s : Shared}
  {Q E : Value → Shared → Prop}
  (B : Below A₀ base outer h₀) (F : Fr h₀ L s.heap m) (X : (hd.heap_39 w.params).In h₀) (N : News h₀ L s.heap news) (T : Top p loose mean mg mb h₀) (hk : cs.kind = .function)
include B F X N T hk

set_option maxRecDepth 100000 in
set_option maxHeartbeats 8000000 in
theorem t_div3 {k : Nat} (H : D2 w p loose mean mg mb k) {a12 a3 b b1 b2 n : Int} {t1 t2 t3 t4 t5 t6 : Tok}
  (hb : b = b1 * 2 ^ n.toNat + b2) (h20 : 0 ≤ b2) (h2 : b2 < 2 ^ n.toNat) (h30 : 0 ≤ a3) (h3 : a3 < 2 ^ n.toNat) (h0 : 0 ≤ a12) (h12 : a12 < b) (hb1 : 0 < b1) (hn : (intBits b1 : Int) = n) (hnk : n ≤ 4000 * 2 ^ k) (hn0 : n ≤ 16000)
  (hd : dp + (2 * k + 2) < recursionLimit) (hu : un + 8 * (2 * k + 2) < cLine)
  (hret : ∀ t tq tr h' tk', Fr h₀ L h' m → News h₀ L h' ((t, tupO ((a12 * 2 ^ n.toNat + a3) / b) tq ((a12 * 2 ^ n.toNat + a3) % b) tr) :: news) → (∀ q ∈ news, q.1 < t) → Q (.ref t) { s with heap := h', toks := tk' }) :
    wpAny (model PR w) (ktrTop dp un gd cn cs L a ccd cl outer) (call (.ref 28) [.int a12 t1, .int a3 t2, .int b t3, .int b1 t4, .int b2 t5, .int n t6]) Q E s := by
  k_with_none
  k_with "binaryOp LShift int int" => (refine lshift_int (by omega) (by assumption) ?_)
  k_with "binaryOp RShift int int" => (refine rshift_int (by omega) ?_)
  k_with "binaryOp Mult int int" => (refine mul_int ?_ (by assumption))
  k_with "call ref" => ((with_reducible show wpAny _ _ (call (Value.ref 21) _ _) _ _ _); k_extra "call_div2")
  k_with "exec While Compare cons nil" => (refine Stop.mk ?_)
  k_with "ar" => (first | with_reducible exact ar212 (by assumption) | with_reducible exact ar370 (by assumption) | with_reducible exact ar278 (by assumption) | with_reducible exact ar247 (by assumption) | with_reducible exact ar35 (by assumption) | with_reducible exact ar549 (by assumption) | with_reducible exact ar276 (by assumption) (by assumption) | with_reducible exact ar685 (by assumption) (by assumption) | with_reducible exact ar274 (by assumption) (by assumption) | with_reducible exact ar434 (by assumption) (by assumption) | with_reducible exact ar39 (by assumption) | with_reducible exact ar438 (by assumption) (by assumption) | with_reducible exact ar453 (by assumption) | with_reducible exact ar513 (by assumption) | with_reducible exact ar209 (by assumption) | with_reducible exact ar114 (by assumption) | with_reducible exact ar300 (by assumption) | with_reducible exact ar94 (by assumption) (by assumption) (by assumption) | with_reducible exact ar194 (by assumption) | with_reducible exact ar640 (by assumption) | with_reducible exact ar190 (by assumption))
  have hnn : (0 : Int) ≤ n := by omega
  have hP := two_pos n.toNat
  have hnt : n.toNat ≤ 16000 := by omega
  have B2 : intBits b2 ≤ n.toNat := bits_of_lt h2 h20
  have B1 : intBits b1 ≤ n.toNat := by omega
  have BP : intBits ((2 : Int) ^ n.toNat) ≤ n.toNat + 1 := by
    refine bits_of_lt ?_ (by omega)
    rw [Int.pow_succ]; omega
  have Bb : intBits b ≤ 2 * n.toNat + 2 := by
    rw [hb]
    have := intBits_add_le (intBits_mul_le B1 BP) B2
    omega
  have Ba : intBits a12 ≤ 2 * n.toNat + 2 := intBits_le_of_natAbs (by omega) Bb
  have f1 : (intBits 1 : Int) + n ≤ 2 ^ 27 := by
    have : intBits 1 = 1 := by decide +kernel
    omega
  have f2 : (intBits b1 : Int) + n ≤ 2 ^ 27 := by omega
  have f3 : (intBits (a12 - b1 * 2 ^ n.toNat + b1) : Int) + n ≤ 2 ^ 27 := by
    have := intBits_add_le (intBits_sub_le Ba (intBits_mul_le B1 BP)) B1
    omega
  have f4 : (intBits (a12 % b1) : Int) + n ≤ 2 ^ 27 := by
    have : intBits (a12 % b1) ≤ n.toNat := intBits_le_of_natAbs (by have := Int.emod_nonneg a12 (by omega : b1 ≠ 0); have := Int.emod_lt_of_pos a12 hb1; omega) B1
    omega
  have f5 : IntMulOk (1 * 2 ^ n.toNat - 1) b2 := by
    have h1 : intBits 1 ≤ 1 := by decide +kernel
    have : intBits (1 * 2 ^ n.toNat - 1) ≤ n.toNat + 4 := by
      have := intBits_sub_le (intBits_mul_le h1 BP) h1
      omega
    exact IntMulOk.of_le this B2 (by omega)
  have f6 : IntMulOk (a12 / b1) b2 := by
    have : intBits (a12 / b1) ≤ 2 * n.toNat + 2 := by
      rw [← Int.fdiv_eq_ediv_of_nonneg _ (by omega)]
      exact intBits_fdiv_le Ba
    exact IntMulOk.of_le this B2 (by omega)
  have g1 : a12.fdiv (2 ^ n.toNat) = b1 → a12 / 2 ^ n.toNat = b1 := fun e => by rw [← Int.fdiv_eq_ediv_of_nonneg _ (by omega)]; exact e
  have g2 : a12.fdiv (2 ^ n.toNat) ≠ b1 → a12 < b1 * 2 ^ n.toNat := fun e => d3_ne_top hP hb h2 h12 (by rw [← Int.fdiv_eq_ediv_of_nonneg _ (by omega)]; exact e)
  have k1 : a12.fdiv (2 ^ n.toNat) = b1 → (1 * 2 ^ n.toNat - 1) * b + (Builtin.bitOr ((a12 - b1 * 2 ^ n.toNat + b1) * 2 ^ n.toNat) a3 - (1 * 2 ^ n.toNat - 1) * b2) = a12 * 2 ^ n.toNat + a3 ∧ Builtin.bitOr ((a12 - b1 * 2 ^ n.toNat + b1) * 2 ^ n.toNat) a3 - (1 * 2 ^ n.toNat - 1) * b2 < b := fun e => by
    rw [or_add (d3_eq_r hP (g1 e) hb1 hb) h30 h3, Int.one_mul]
    exact ⟨d3_eq hb, d3_eq_lt hP hb h3 h12⟩
  have k2 : (a12 / b1) * b + (Builtin.bitOr ((a12 % b1) * 2 ^ n.toNat) a3 - (a12 / b1) * b2) = a12 * 2 ^ n.toNat + a3 ∧ Builtin.bitOr ((a12 % b1) * 2 ^ n.toNat) a3 - (a12 / b1) * b2 < b := by
    rw [or_add (Int.emod_nonneg _ (by omega)) h30 h3]
    exact ⟨d3_ne hb, d3_ne_lt hP hb1 hb h20 h3 h0⟩
  k_with_none
  k_with "binaryOp LShift int int" => (refine lshift_int (by omega) (by assumption) ?_)
  k_with "binaryOp RShift int int" => (refine rshift_int (by omega) ?_)
  k_with "binaryOp Mult int int" => (refine mul_int ?_ (by assumption))
  k_with "call ref" => ((with_reducible show wpAny _ _ (call (Value.ref 21) _ _) _ _ _); k_extra "call_div2")
  k_with "exec While Compare cons nil" => (refine Stop.mk ?_)
  k_with "ar" => (first | with_reducible exact ar212 (by assumption) | with_reducible exact ar370 (by assumption) | with_reducible exact ar278 (by assumption) | with_reducible exact ar247 (by assumption) | with_reducible exact ar35 (by assumption) | with_reducible exact ar549 (by assumption) | with_reducible exact ar276 (by assumption) (by assumption) | with_reducible exact ar685 (by assumption) (by assumption) | with_reducible exact ar274 (by assumption) (by assumption) | with_reducible exact ar434 (by assumption) (by assumption) | with_reducible exact ar39 (by assumption) | with_reducible exact ar438 (by assumption) (by assumption) | with_reducible exact ar453 (by assumption) | with_reducible exact ar513 (by assumption) | with_reducible exact ar209 (by assumption) | with_reducible exact ar114 (by assumption) | with_reducible exact ar300 (by assumption) | with_reducible exact ar94 (by assumption) (by assumption) (by assumption) | with_reducible exact ar194 (by assumption) | with_reducible exact ar640 (by assumption) | with_reducible exact ar190 (by assumption))
  w_top off
  k_with "call_div2" => (refine' H ?B ?F ?X ?N ?T ?hk ?c1 ?c2 ?c3 ?c4 ?c5 ?c6 ?c7 ?_; (case B => k_asm); (case F => k_asm); (case X => k_asm); (case N => k_asm); (case T => k_asm); (case hk => exact rfl); (case c1 => omega); (case c2 => omega); (case c3 => omega); (case c4 => exact g2 (by assumption)); (case c5 => omega); (case c6 => (ktr_room)); (case c7 => ktr_units); k_whole; intro t' tq' tr' h' tk' F' N' l'; (try k_lt l'); (try dsimp only); (try k_fold))
  refine wpAny_call ?_
  k_dflt ktr_enter
  k_steps
  all_goals (
    refine Stop.of ?_
    refine' While_two (x := Str.ofString "q") (y := Str.ofString "r") (fun q r => q * b + r = a12 * 2 ^ n.toNat + a3 ∧ r < b) (fun _ r => (-r).toNat) (by decide) ?F ?N ?hx ?hy (fun _ _ _ => rfl) ?hP ?turn ?E; (case F => k_asm); (case N => k_asm); (case hx => exact rfl); (case hy => exact rfl); (case E => passes_own)
    case hP => first | exact k1 (by assumption) | exact k2
    case turn =>
      intro q tq r tr h1 tk1 hP1 F1 N1
      k_steps
      · refine TwoEnd.intro (by k_asm) (by k_asm) rfl rfl (fun z h1 h2 => by simp [two, h1, h2]) ⟨by rw [← hP1.1]; grind, by omega⟩ (by omega)
      · obtain ⟨e1, e2⟩ := divmod_of hP1.1 (by omega) hP1.2
        subst e1 e2
        exact hret _ _ _ _ _ (by k_asm) (News.sub (by k_asm) (fun p hp => by rcases List.mem_cons.mp hp with rfl | hp <;> first | exact List.Mem.head _ | simp [hp])) (by first | assumption | exact ktn_ltOf (by assumption) | exact lt1 (by assumption) | exact lt2 (by assumption)))
end
end Mine
namespace Mine
open PySem.Builtin.Int (intBits)

structure Halves (X Y N h : Int) (k : Nat) : Prop where
  Y0 : 0 < Y
  YN : (intBits Y : Int) = N
  X0 : 0 ≤ X
  XY : X < Y * 2 ^ N.toNat
  N2 : N = 2 * h
  h1 : 1 ≤ h
  hk : h ≤ 4000 * 2 ^ k
  h16 : h ≤ 16000

theorem Halves.facts {X Y N h : Int} {k : Nat} (H : Halves X Y N h k) : ∃ P : Int, P = 2 ^ h.toNat ∧ 0 < P ∧ (2 : Int) ^ N.toNat = P * P ∧ X.fdiv (2 ^ N.toNat) = X / (P * P) ∧ Builtin.bitAnd (X.fdiv (2 ^ h.toNat)) (1 * 2 ^ h.toNat - 1) = (X / P) % P ∧
    Y.fdiv (2 ^ h.toNat) = Y / P ∧ Builtin.bitAnd Y (1 * 2 ^ h.toNat - 1) = Y % P ∧ Builtin.bitAnd X (1 * 2 ^ h.toNat - 1) = X % P ∧ Y = (Y / P) * P + Y % P ∧ 0 ≤ Y % P ∧ Y % P < P ∧ 0 < Y / P ∧ (intBits (Y / P) : Int) = h := by
  k_with_none
  k_with "ar" => (first | with_reducible exact ar175 (by assumption) | with_reducible exact ar35 (by assumption) | with_reducible exact ar39 (by assumption) | with_reducible exact ar598 (by assumption) (by assumption) (by assumption) | with_reducible exact ar278 (by assumption) | with_reducible exact ar682 (by assumption) | with_reducible exact ar341 (by assumption) (by assumption) | with_reducible exact ar336 (by assumption) | with_reducible exact ar313 (by assumption) (by assumption))
  obtain ⟨Y0, YN, X0, XY, N2, h1, hk, h16⟩ := H
  have hP := two_pos h.toNat
  have e0 : (2 : Int) ^ N.toNat = 2 ^ h.toNat * 2 ^ h.toNat := by
    rw [← Int.pow_add]; congr 1; omega
  have hX : X.fdiv (2 ^ h.toNat) = X / 2 ^ h.toNat := Int.fdiv_eq_ediv_of_nonneg _ (by omega)
  refine ⟨2 ^ h.toNat, rfl, hP, e0, ?_, ?_, ?_, ?_, ?_, ?_, Int.emod_nonneg _ (by omega), Int.emod_lt_of_pos _ hP, ?_, ?_⟩
  · rw [e0]; exact Int.fdiv_eq_ediv_of_nonneg _ (Int.mul_nonneg (by omega) (by omega))
  · rw [hX]; exact and_mask (Int.ediv_nonneg X0 (by omega)) _
  · exact Int.fdiv_eq_ediv_of_nonneg _ (by omega)
  · exact and_mask (by omega) _
  · exact and_mask X0 _
  · have := Int.mul_ediv_add_emod Y (2 ^ h.toNat)
    rw [Int.mul_comm] at this; exact this.symm
  all_goals (
    have b1 : (2 : Int) ^ (N.toNat - 1) ≤ Y := bits_ge (by omega) (by omega)
    have b2 : Y < (2 : Int) ^ N.toNat := bits_lt (by omega) (by omega)
    have e1 : (2 : Int) ^ (N.toNat - 1) = 2 ^ (h.toNat - 1) * 2 ^ h.toNat := by
      rw [← Int.pow_add]; congr 1; omega
    have c1 : (2 : Int) ^ (h.toNat - 1) ≤ Y / 2 ^ h.toNat := (Int.le_ediv_iff_mul_le hP).mpr (by rw [← e1]; exact b1)
    have c2 : Y / 2 ^ h.toNat < (2 : Int) ^ h.toNat := (Int.ediv_lt_iff_lt_mul hP).mpr (by rw [← e0]; exact b2))
  · have := two_pos (h.toNat - 1); omega
  · have e : h.toNat = (h.toNat - 1) + 1 := by omega
    have := bits_eq (m := h.toNat - 1) c1 (by rw [← e]; exact c2)
    omega

theorem Halves.h0 {X Y N h : Int} {k : Nat} (H : Halves X Y N h k) : 0 ≤ h := by have := H.h1; omega
theorem Halves.shl {X Y N h : Int} {k : Nat} (H : Halves X Y N h k) : (intBits (X / 2 ^ h.toNat / Y) : Int) + h ≤ 2 ^ 27 := by
  k_with_none
  k_with "ar" => (first | with_reducible exact ar278 (by assumption) | with_reducible exact ar35 (by assumption) | with_reducible exact ar339 | with_reducible exact ar245 (by assumption) (by assumption) (by assumption) | with_reducible exact ar236 (by assumption) (by assumption) (by assumption))
  obtain ⟨Y0, YN, X0, XY, N2, h1, hk, h16⟩ := H
  have bx : intBits X ≤ 2 * N.toNat := by
    refine bits_of_lt ?_ X0
    have h1 : Y < 2 ^ N.toNat := bits_lt (by omega) (by omega)
    have h2 := two_pos N.toNat
    have e : (2 : Int) ^ (2 * N.toNat) = 2 ^ N.toNat * 2 ^ N.toNat := by rw [← Int.pow_add]; congr 1; omega
    have := Int.mul_lt_mul_of_pos_right h1 h2
    omega
  have hP := two_pos h.toNat
  have : intBits (X / 2 ^ h.toNat / Y) ≤ 2 * N.toNat := by
    rw [← Int.fdiv_eq_ediv_of_nonneg _ (by omega), ← Int.fdiv_eq_ediv_of_nonneg _ (by omega)]
    exact intBits_fdiv_le (intBits_fdiv_le bx)
  omega

section
variable {w : World} {p : Program} {loose : List Str} {mean : ExcName → Option Value} {mg mb : Str → Option Value}
  {dp un : Nat} {gd : Option (List Code)} {cn : Str} {cs : Scope} {a : Addr} {ccd : Value} {cl : List (Str × Addr)} {outer : List Env} {A₀ : Around} {base h₀ : Heap} {L : Addr} {m : Str → Option Value} {news : List (Addr × Obj)} {s : Shared}
  {Q E : Value → Shared → Prop} {k : Nat} {x y N h : Int}

theorem t_first (HD : D2 w p loose mean mg mb k) (HV : Halves x y N h k) (B : Below A₀ base outer h₀) (F : Fr h₀ L s.heap m) (X : (hd.heap_39 w.params).In h₀) (Nw : News h₀ L s.heap news) (T : Top p loose mean mg mb h₀) (hk : cs.kind = .function)
  {t1 t2 t3 t4 t5 t6 : Tok} (hd : dp + (2 * k + 2) < recursionLimit) (hu : un + 8 * (2 * k + 2) < cLine)
  (hret : ∀ t tq tr h' tk', Fr h₀ L h' m → News h₀ L h' ((t, tupO ((x / 2 ^ h.toNat) / y) tq ((x / 2 ^ h.toNat) % y) tr) :: news) → (∀ q ∈ news, q.1 < t) → Q (.ref t) { s with heap := h', toks := tk' }) :
    wpAny (model PR w) (ktrTop dp un gd cn cs L a ccd cl outer) (call (.ref 28) [.int (x.fdiv (2 ^ N.toNat)) t1, .int (Builtin.bitAnd (x.fdiv (2 ^ h.toNat)) (1 * 2 ^ h.toNat - 1)) t2, .int y t3, .int (y.fdiv (2 ^ h.toNat)) t4, .int (Builtin.bitAnd y (1 * 2 ^ h.toNat - 1)) t5, .int h t6]) Q E s := by
  k_with_none
  k_with "ar" => (first | with_reducible exact ar39 (by assumption) | with_reducible exact ar35 (by assumption))
  obtain ⟨P, rfl, hP, e0, e1, e2, e3, e4, e5, e6, e7, e8, e9, e10⟩ := HV.facts
  have ex : x / (2 ^ h.toNat * 2 ^ h.toNat) < y := (Int.ediv_lt_iff_lt_mul (Int.mul_pos hP hP)).mpr (by rw [← e0]; exact HV.XY)
  have ed := ediv_mul_emod_ediv x hP
  rw [e1, e2, e3, e4]
  refine t_div3 B F X Nw T hk HD e6 e7 e8 (Int.emod_nonneg _ (by omega)) (Int.emod_lt_of_pos _ hP) (Int.ediv_nonneg HV.X0 (Int.mul_nonneg (by omega) (by omega))) ex e9 e10 HV.hk HV.h16 hd hu ?_
  rw [ed]
  exact hret

theorem t_second (HD : D2 w p loose mean mg mb k) (HV : Halves x y N h k) (B : Below A₀ base outer h₀) (F : Fr h₀ L s.heap m) (X : (hd.heap_39 w.params).In h₀) (Nw : News h₀ L s.heap news) (T : Top p loose mean mg mb h₀) (hk : cs.kind = .function)
  {t1 t2 t3 t4 t5 t6 : Tok} (hd : dp + (2 * k + 2) < recursionLimit) (hu : un + 8 * (2 * k + 2) < cLine)
  (hret : ∀ q t tq tr h' tk', Builtin.bitOr ((x / 2 ^ h.toNat) / y * 2 ^ h.toNat) q = x / y → Fr h₀ L h' m → News h₀ L h' ((t, tupO q tq (x % y) tr) :: news) → (∀ q ∈ news, q.1 < t) → Q (.ref t) { s with heap := h', toks := tk' }) :
    wpAny (model PR w) (ktrTop dp un gd cn cs L a ccd cl outer) (call (.ref 28) [.int ((x / 2 ^ h.toNat) % y) t1, .int (Builtin.bitAnd x (1 * 2 ^ h.toNat - 1)) t2, .int y t3, .int (y.fdiv (2 ^ h.toNat)) t4, .int (Builtin.bitAnd y (1 * 2 ^ h.toNat - 1)) t5, .int h t6]) Q E s := by
  k_with_none
  k_with "ar" => (first | with_reducible exact ar39 (by assumption) | with_reducible exact ar35 (by assumption))
  obtain ⟨P, rfl, hP, e0, e1, e2, e3, e4, e5, e6, e7, e8, e9, e10⟩ := HV.facts
  rw [e3, e4, e5]
  have y0 := HV.Y0
  have r0 := Int.emod_nonneg (x / 2 ^ h.toNat) (by omega : y ≠ 0)
  have r1 := Int.emod_lt_of_pos (x / 2 ^ h.toNat) y0
  have c0 := Int.emod_nonneg x (by omega : (2 : Int) ^ h.toNat ≠ 0)
  have c1 := Int.emod_lt_of_pos x hP
  obtain ⟨d1, d2⟩ := d2_two (a := x) hP y0
  refine t_div3 B F X Nw T hk HD e6 e7 e8 c0 c1 r0 r1 e9 e10 HV.hk HV.h16 hd hu ?_
  rw [d2]
  refine fun t tq tr h' tk' => hret _ t tq tr h' tk' ?_
  rw [or_add (Int.ediv_nonneg (Int.ediv_nonneg HV.X0 (by omega)) (by omega)) (Int.ediv_nonneg (by have := Int.mul_nonneg r0 (by omega : (0:Int) ≤ 2 ^ h.toNat); omega) (by omega)) ?_]
  · exact d1
  · exact (Int.ediv_lt_iff_lt_mul y0).mpr (by have := d2_second_lt _ _ hP y0 r1 c1; rw [Int.mul_comm y] at this; exact this)
end
end Mine
namespace Mine
open PySem.Builtin.Int (intBits)

section

set_option maxRecDepth 100000 in
set_option maxHeartbeats 8000000 in
theorem t_div2 {w : World} {p : Program} {loose : List Str} {mean : ExcName → Option Value} {mg mb : Str → Option Value} {k : Nat} (hk2 : k ≤ 2) (H : ∀ j, k = j + 1 → D2 w p loose mean mg mb j) : D2 w p loose mean mg mb k := by
  k_with_none
  k_with "binaryOp LShift int int" => (refine lshift_int (by omega) (by assumption) ?_)
  k_with "binaryOp LShift int int" => (k_extra "shl")
  k_with "inplaceOp LShift int int" => (refine ilshift_int (by omega) (by assumption) ?_)
  k_with "binaryOp RShift int int" => (refine rshift_int (by omega) ?_)
  k_with "inplaceOp RShift int int" => (refine irshift_int (by omega) ?_)
  k_with "call builtin:divmod" => (k_extra "divm")
  k_with "call ref" => ((with_reducible show wpAny _ _ (call (Value.ref 28) _ _) _ _ _); k_extra "call_div3")
  k_with "ar" => (first | with_reducible exact ar158 (by assumption) (by assumption) | with_reducible exact ar39 (by assumption) | with_reducible exact ar35 (by assumption) | with_reducible exact ar148 (by assumption) | with_reducible exact ar605 (by assumption) (by assumption) | with_reducible exact ar284 (by assumption) (by assumption) | with_reducible exact ar278 (by assumption) | with_reducible exact ar339 | with_reducible exact ar245 (by assumption) (by assumption) (by assumption) | with_reducible exact ar309 (by assumption) (by assumption) | with_reducible exact ar405 (by assumption) (by assumption) | with_reducible exact ar444 (by assumption) (by assumption) (by assumption) | with_reducible exact ar310 (by assumption) (by assumption) (by assumption) | with_reducible exact ar400 (by assumption) (by assumption) | with_reducible exact ar364 (by assumption) | with_reducible exact ar153 | with_reducible exact ar426 (by assumption) | with_reducible exact ar417 (by assumption) (by assumption) | with_reducible exact ar133 (by assumption) (by assumption) | with_reducible exact ar78 (by assumption) | with_reducible exact ar367 (by assumption) (by assumption) (by assumption) (by assumption) | with_reducible exact ar683 (by assumption) | with_reducible exact ar315 (by assumption) | with_reducible exact ar490 (by assumption) (by assumption) | with_reducible exact ar419 (by assumption) | with_reducible exact ar437 (by assumption) | with_reducible exact ar523 (by assumption) (by assumption) | with_reducible exact ar61 (by assumption) (by assumption) | with_reducible exact ar48 (by assumption) | with_reducible exact ar261 (by assumption) | with_reducible exact ar260 | with_reducible exact ar86 (by assumption) (by assumption) | with_reducible exact ar146 (by assumption) | with_reducible exact ar79 (by assumption) | with_reducible exact ar100 (by assumption) | with_reducible exact ar353 (by assumption) (by assumption) | with_reducible exact ar60 (by assumption))
  intro dp un gd cn cs a ccd cl outer A₀ base h₀ L m news s Q E B F X N T hk x y n tx ty tn hy hyn hx hxy hnk hd hu hret
  have hpy : (intBits x : Int) - n ≤ 4000 → Builtin.divisionGoesByPylong x y = false := fun h => noPyl (by omega)
  have hy0 : y ≠ 0 := by omega
  have e1 : x.fdiv y = x / y := Int.fdiv_eq_ediv_of_nonneg _ (by omega)
  have e2 : x.fmod y = x % y := Int.fmod_eq_emod_of_nonneg _ (by omega)
  have t1 : (2 : Int) ^ (1 : Int).toNat = 2 := by decide
  have hkn : n ≤ 16000 := by
    have : (2 : Int) ^ k ≤ 4 := by
      have : k = 0 ∨ k = 1 ∨ k = 2 := by omega
      rcases this with rfl | rfl | rfl <;> decide
    omega
  have hn1 : 1 ≤ n := by have := bits_pos hy; omega
  have bx : intBits x ≤ 2 * n.toNat := by
    refine bits_of_lt ?_ hx
    have h1 : y < 2 ^ n.toNat := bits_lt (by omega) (by omega)
    have h2 := two_pos n.toNat
    have e : (2 : Int) ^ (2 * n.toNat) = 2 ^ n.toNat * 2 ^ n.toNat := by rw [← Int.pow_add]; congr 1; omega
    have := Int.mul_lt_mul_of_pos_right h1 h2
    omega
  have nh0 : n.fdiv (2 ^ (1:Int).toNat) = n / 2 := by rw [t1]; exact Int.fdiv_eq_ediv_of_nonneg _ (by decide)
  have nh1 : (n + 1).fdiv (2 ^ (1:Int).toNat) = (n + 1) / 2 := by rw [t1]; exact Int.fdiv_eq_ediv_of_nonneg _ (by decide)
  have f1 : (intBits x : Int) + 1 ≤ 2 ^ 27 := by omega
  have f2 : (intBits y : Int) + 1 ≤ 2 ^ 27 := by omega
  have i1 : intBits 1 = 1 := by decide +kernel
  have f3 : (intBits 1 : Int) + n.fdiv (2 ^ (1:Int).toNat) ≤ 2 ^ 27 := by omega
  have f4 : (intBits 1 : Int) + (n+1).fdiv (2 ^ (1:Int).toNat) ≤ 2 ^ 27 := by omega
  have HV1 : Builtin.bitAnd n 1 ≠ 0 → ∀ j, k = j + 1 → Halves (x * 2 ^ (1:Int).toNat) (y * 2 ^ (1:Int).toNat) (n + 1) ((n + 1).fdiv (2 ^ (1:Int).toNat)) j := fun hb j hj => by
    rw [bitAnd_m1] at hb
    rw [nh1, t1]
    have b1 : (2 : Int) ^ (n.toNat - 1) ≤ y := bits_ge (by omega) (by omega)
    have b2 : y < (2 : Int) ^ n.toNat := bits_lt (by omega) (by omega)
    have c1 : (2 : Int) ^ n.toNat = 2 ^ (n.toNat - 1) * 2 := by rw [← Int.pow_succ]; congr 1; omega
    have c2 : (2 : Int) ^ (n.toNat + 1) = 2 ^ n.toNat * 2 := Int.pow_succ ..
    have c3 : (n + 1).toNat = n.toNat + 1 := by omega
    have hk' : (2 : Int) ^ k = 2 * 2 ^ j := by rw [hj, Int.pow_succ]; omega
    refine ⟨by omega, ?_, by omega, ?_, by omega, by omega, by omega, by omega⟩
    · have := bits_eq (x := y * 2) (m := n.toNat) (by omega) (by omega)
      omega
    · rw [c3, c2]
      have h3 : y * (2 ^ n.toNat * 2) = y * 2 ^ n.toNat * 2 := by grind
      have h4 : y * 2 * (2 ^ n.toNat * 2) = y * (2 ^ n.toNat * 2) * 2 := by grind
      have h5 := Int.mul_pos hy (two_pos n.toNat)
      omega
  have HV0 : Builtin.bitAnd n 1 = 0 → ∀ j, k = j + 1 → Halves x y n (n.fdiv (2 ^ (1:Int).toNat)) j := fun hb j hj => by
    rw [bitAnd_m1] at hb
    rw [nh0]
    have hk' : (2 : Int) ^ k = 2 * 2 ^ j := by rw [hj, Int.pow_succ]; omega
    exact ⟨hy, hyn, hx, hxy, by omega, by omega, by omega, by omega⟩
  have hj : ¬ (intBits x : Int) - n ≤ 4000 → ∃ j, k = j + 1 := fun h => by
    rcases k with _ | j
    · have : n ≤ 4000 := by simpa using hnk
      omega
    · exact ⟨j, rfl⟩
  have er0 : ∀ q : Int, True := fun _ => trivial
  k_with_none
  k_with "binaryOp LShift int int" => (refine lshift_int (by omega) (by assumption) ?_)
  k_with "binaryOp LShift int int" => (k_extra "shl")
  k_with "inplaceOp LShift int int" => (refine ilshift_int (by omega) (by assumption) ?_)
  k_with "binaryOp RShift int int" => (refine rshift_int (by omega) ?_)
  k_with "inplaceOp RShift int int" => (refine irshift_int (by omega) ?_)
  k_with "call builtin:divmod" => (k_extra "divm")
  k_with "call ref" => ((with_reducible show wpAny _ _ (call (Value.ref 28) _ _) _ _ _); k_extra "call_div3")
  k_with "ar" => (first | with_reducible exact ar158 (by assumption) (by assumption) | with_reducible exact ar39 (by assumption) | with_reducible exact ar35 (by assumption) | with_reducible exact ar148 (by assumption) | with_reducible exact ar605 (by assumption) (by assumption) | with_reducible exact ar284 (by assumption) (by assumption) | with_reducible exact ar278 (by assumption) | with_reducible exact ar339 | with_reducible exact ar245 (by assumption) (by assumption) (by assumption) | with_reducible exact ar309 (by assumption) (by assumption) | with_reducible exact ar405 (by assumption) (by assumption) | with_reducible exact ar444 (by assumption) (by assumption) (by assumption) | with_reducible exact ar310 (by assumption) (by assumption) (by assumption) | with_reducible exact ar400 (by assumption) (by assumption) | with_reducible exact ar364 (by assumption) | with_reducible exact ar153 | with_reducible exact ar426 (by assumption) | with_reducible exact ar417 (by assumption) (by assumption) | with_reducible exact ar133 (by assumption) (by assumption) | with_reducible exact ar78 (by assumption) | with_reducible exact ar367 (by assumption) (by assumption) (by assumption) (by assumption) | with_reducible exact ar683 (by assumption) | with_reducible exact ar315 (by assumption) | with_reducible exact ar490 (by assumption) (by assumption) | with_reducible exact ar419 (by assumption) | with_reducible exact ar437 (by assumption) | with_reducible exact ar523 (by assumption) (by assumption) | with_reducible exact ar61 (by assumption) (by assumption) | with_reducible exact ar48 (by assumption) | with_reducible exact ar261 (by assumption) | with_reducible exact ar260 | with_reducible exact ar86 (by assumption) (by assumption) | with_reducible exact ar146 (by assumption) | with_reducible exact ar79 (by assumption) | with_reducible exact ar100 (by assumption) | with_reducible exact ar353 (by assumption) (by assumption) | with_reducible exact ar60 (by assumption))
  w_top off
  k_with "divm" => (refine' divmod_N ?F ?N ?h0 ?_ ?hp; (case F => k_asm); (case N => k_asm); (case h0 => exact hy0); (case hp => exact Or.inl (hpy (by assumption))); intro h' F' N'; rw [e1, e2] at N')
  k_with "shl" => (first | refine lshift_int (HV1 (by assumption) _ rfl).h0 (HV1 (by assumption) _ rfl).shl ?_ | refine lshift_int (HV0 (by assumption) _ rfl).h0 (HV0 (by assumption) _ rfl).shl ?_)
  k_with "call_div3" => (obtain ⟨j, rfl⟩ := hj (by assumption); (first | refine' t_first (H _ rfl) (HV1 (by assumption) _ rfl) ?B ?F ?X ?N ?T ?hk ?c6 ?c7 ?_ | refine' t_first (H _ rfl) (HV0 (by assumption) _ rfl) ?B ?F ?X ?N ?T ?hk ?c6 ?c7 ?_); (case B => k_asm); (case F => k_asm); (case X => k_asm); (case N => k_asm); (case T => k_asm); (case hk => exact rfl); (case c6 => (ktr_room)); (case c7 => ktr_units); k_whole; intro t' tq' tr' h' tk' F' N' l'; (try k_lt l'); (try dsimp only); (try k_fold))
  k_with "call_div3" => (have hQ := er0; (first | refine' t_second (H _ rfl) (HV1 (by assumption) _ rfl) ?B ?F ?X ?N ?T ?hk ?c6 ?c7 ?_ | refine' t_second (H _ rfl) (HV0 (by assumption) _ rfl) ?B ?F ?X ?N ?T ?hk ?c6 ?c7 ?_); (case B => k_asm); (case F => k_asm); (case X => k_asm); (case N => k_asm); (case T => k_asm); (case hk => exact rfl); (case c6 => (ktr_room)); (case c7 => ktr_units); k_whole; intro q' t' tq' tr' h' tk' hq' F' N' l'; (try k_lt l'); (try dsimp only); (try k_fold))
  refine wpAny_call ?_
  k_dflt ktr_enter
  k_steps
  all_goals first
    | exact absurd (by assumption : Builtin.bitAnd n 1 = 0) (by assumption)
    | (have e5 : x / y = Builtin.bitOr (x * 2 ^ (1:Int).toNat / 2 ^ ((n + 1).fdiv (2 ^ (1:Int).toNat)).toNat / (y * 2 ^ (1:Int).toNat) * 2 ^ ((n + 1).fdiv (2 ^ (1:Int).toNat)).toNat) q' := by
         rw [hq', t1]; exact (pad_div hy).symm
       have e6 : x % y = (x * 2 ^ (1:Int).toNat % (y * 2 ^ (1:Int).toNat)).fdiv (2 ^ (1:Int).toNat) := by
         rw [t1, Int.fdiv_eq_ediv_of_nonneg _ (by decide)]; exact (pad_mod hy).symm
       rw [e5, e6] at hret
       exact hret _ _ _ _ _ (by k_asm) (News.sub (by k_asm) (fun p hp => by rcases List.mem_cons.mp hp with rfl | hp <;> first | exact List.Mem.head _ | simp [hp])) (by first | assumption | exact ktn_ltOf (by assumption) | exact lt1 (by assumption) | exact lt2 (by assumption) | exact lt3 (by assumption)))
    | (rw [← hq'] at hret
       exact hret _ _ _ _ _ (by k_asm) (News.sub (by k_asm) (fun p hp => by rcases List.mem_cons.mp hp with rfl | hp <;> first | exact List.Mem.head _ | simp [hp])) (by first | assumption | exact ktn_ltOf (by assumption) | exact lt1 (by assumption) | exact lt2 (by assumption) | exact lt3 (by assumption)))
    | exact hret _ _ _ _ _ (by k_asm) (by k_asm) (fun q hq => Heap.lt_size ((by assumption : News _ _ _ news) q hq).1)
theorem div2_0 {w : World} {p : Program} {loose : List Str} {mean : ExcName → Option Value} {mg mb : Str → Option Value} : D2 w p loose mean mg mb 0 := t_div2 (Nat.zero_le _) fun j hj => absurd hj.symm (Nat.succ_ne_zero j)
theorem div2_1 {w : World} {p : Program} {loose : List Str} {mean : ExcName → Option Value} {mg mb : Str → Option Value} : D2 w p loose mean mg mb 1 := t_div2 (Nat.le_succ 1) fun _ hj => (Nat.succ.inj hj) ▸ div2_0
theorem div2_2 {w : World} {p : Program} {loose : List Str} {mean : ExcName → Option Value} {mg mb : Str → Option Value} : D2 w p loose mean mg mb 2 := t_div2 (Nat.le_refl 2) fun _ hj => (Nat.succ.inj hj) ▸ div2_1
end
end Mine
namespace Mine
open PySem.Builtin.Int (intBits)

def RecSpec (w : World) (p : Program) (loose : List Str) (mean : ExcName → Option Value) (mg mb : Str → Option Value) (f : Addr) (need : List (Addr × Obj)) (args : List Value) (d : Nat) (Post : Value → Prop) : Prop :=
  ∀ {dp un : Nat} {gd : Option (List Code)} {cn : Str} {cs : Scope} {a : Addr} {ccd : Value} {cl : List (Str × Addr)} {outer : List Env} {A₀ : Around} {base h₀ : Heap} {L : Addr} {m : Str → Option Value} {news : List (Addr × Obj)} {s : Shared}
  {Q E : Value → Shared → Prop}, Below A₀ base outer h₀ → Fr h₀ L s.heap m → (hd.heap_39 w.params).In h₀ → News h₀ L s.heap news → Top p loose mean mg mb h₀ → cs.kind = .function →
  (∀ q ∈ need, q ∈ news) → dp + d < recursionLimit → un + 8 * d < cLine →
  (∀ r h' tk', Fr h₀ L h' m → News h₀ L h' news → Post r → Q r { s with heap := h', toks := tk' }) →
  wpAny (model PR w) (ktrTop dp un gd cn cs L a ccd cl outer) (call (.ref f) args) Q E s

theorem rec_ind {h9 g9 : Heap} {L9 : Addr} {w : World} {p : Program} {loose : List Str} {mean : ExcName → Option Value} {mg mb : Str → Option Value} {f : Addr} {need : List (Addr × Obj)}
    {name qual : Str} {params : Arguments} {body : List Stmt} {scope : Scope} {clos : List (Str × Addr)} {doc pm ctv : Value} {c' : Addr} {oc : Obj} {vs : Array Value} {t : Tok} (_N9 : News g9 L9 h9 need)
    (hf : (f, fnMade name qual params body scope clos doc pm c' ctv) ∈ need) (hc : (c', oc) ∈ need) (hdt : oc.data = .fields vs) (hv : vs[1]? = some (.str qual t))
    {σ : Type} (args : σ → List Value) (binds : σ → List (Str × Value)) (μ : σ → Nat) (Pre : σ → Prop) (Post : σ → Value → Prop)
    (hbind : ∀ x, bindArgs (fnX name qual params body scope clos .none .none doc pm none (.ref c') ctv) ⟨args x, []⟩ = pure (binds x)) (hloc : ∀ x, ∀ y ∈ binds x, scope.names.lookup y.1 = some .local)
    (hco : scope.isCoroutine = false) (hgen : scope.isGenerator = false) (hk : scope.kind = .function) (hcell : ∀ x ∈ scope.names, x.2 ≠ .cell) (hμ : ∀ x, 0 < μ x)
    (step : ∀ x, Pre x → (∀ y, μ y < μ x → Pre y → RecSpec w p loose mean mg mb f need (args y) (μ y) (Post y)) →
      ∀ {dp un : Nat} {gd : Option (List Code)} {cn : Str} {cs : Scope} {a : Addr} {ccd : Value} {cl : List (Str × Addr)} {outer : List Env} {base h₀ g h₁ : Heap} {L L' : Addr} {m : Str → Option Value} {news : List (Addr × Obj)} {s : Shared} {tk : Nat}
      {Q E : Value → Shared → Prop}, Below (ktrTop dp un gd cn cs L a ccd cl outer) base (envX cn cs L a ccd cl :: outer) g → Fr h₀ L g m → Fr g L' h₁ (fun y => (binds x).reverse.lookup y) → (hd.heap_39 w.params).In g → News g L' h₁ news → Top p loose mean mg mb g → (hd.heap_39 w.params).In h₀ → Top p loose mean mg mb h₀ →
      (∀ q ∈ need, q ∈ news) → dp + μ x < recursionLimit → un + 8 * μ x < cLine →
      (∀ r h' tk', Fr h₀ L h' m → News h₀ L h' news → Post x r → Q r { s with heap := h', toks := tk' }) →
      wpAny (model PR w) ((ktrTop dp un gd cn cs L a ccd cl outer).deeper (envX qual scope L' f (.ref c') clos)) (execs body (envX qual scope L' f (.ref c') clos))
        (fun fl s' => LeaveK h₀ L m g (fun r s' => match r with | .ok (.ret v) => Q v s' | .ok _ => False | .error e => E e s') (match fl with | .ret v => v | _ => .none) s')
        (fun e s' => wpAny (model PR w) ((ktrTop dp un gd cn cs L a ccd cl outer).deeper (envX qual scope L' f (.ref c') clos)) (leaving (envX qual scope L' f (.ref c') clos) e) (fun _ s'' => E e s'') (fun e' s'' => E e' s'') s')
        { s with heap := h₁, toks := tk }) :
    ∀ x, Pre x → RecSpec w p loose mean mg mb f need (args x) (μ x) (Post x) := by
  k_with_none
  k_with "ar" => (first | with_reducible exact ar412 (by assumption) (by assumption))
  have all : ∀ n x, μ x < n → Pre x → RecSpec w p loose mean mg mb f need (args x) (μ x) (Post x) := by
    intro n
    induction n with
    | zero => intro x h; exact absurd h (Nat.not_lt_zero _)
    | succ n ih =>
      intro x hx hp dp un gd cn cs a ccd cl outer A₀ base h₀ L m news s Q E B F X N T hkk hneed hd hu hret
      have hp1 := hμ x
      refine wpAny_call ?_
      refine code_nest (base := base) (outer := outer) (env := envX cn cs L a ccd cl) B F X N T rfl rfl hkk (hneed _ hf) (codeRec_news N (hneed _ hc) hdt hv) (Nat.lt_of_le_of_lt (Nat.le_add_right _ _) hd) (BindsTo.of_eq (hbind x)) (hloc x) ?_ hco hgen hk hcell
      intro g L' h₁ FG F' N' B' X' T'
      exact step x hp (fun y hy hpy => ih y (by omega) hpy) B' FG F' X' N' T' X T hneed hd hu hret
  exact fun x hp => all (μ x + 1) x (Nat.lt_succ_self _) hp
end Mine
namespace Mine
open PySem.Builtin.Int (intBits)

/-- the number whose figures, the last first, are ds -/
noncomputable def evalD (q : Int) : List Int → Int
  | [] => 0
  | d :: r => d + q * evalD q r
theorem evalD_append (q : Int) : ∀ a b : List Int, evalD q (a ++ b) = evalD q a + q ^ a.length * evalD q b
  | [], b => by simp [evalD]
  | d :: r, b => by
    rw [List.cons_append, evalD, evalD_append q r b, evalD, List.length_cons, Int.pow_succ]
    grind
theorem evalD_nonneg {q : Int} (hq : 0 ≤ q) : ∀ {ds : List Int}, (∀ d ∈ ds, 0 ≤ d) → 0 ≤ evalD q ds
  | [], _ => by simp [evalD]
  | d :: r, h => by
    have h1 := h d (.head _)
    have h2 := Int.mul_nonneg hq (evalD_nonneg hq (ds := r) fun x hx => h x (.tail _ hx))
    rw [evalD]; omega
theorem evalD_bits {D n : Nat} : ∀ {ds : List Int}, (∀ d ∈ ds, intBits d ≤ D) → intBits (evalD (2 ^ n) ds) ≤ D + ds.length * (n + 2)
  | [], _ => by simp [evalD, intBits]
  | d :: r, h => by
    have h1 := h d (.head _)
    have h2 := evalD_bits (D := D) (n := n) (ds := r) fun x hx => h x (.tail _ hx)
    have BP : intBits ((2 : Int) ^ n) ≤ n + 1 := by
      refine bits_of_lt ?_ (by have := two_pos n; omega)
      have := two_pos n
      rw [Int.pow_succ]; omega
    have h3 := intBits_add_le h1 (intBits_mul_le BP h2)
    rw [evalD, List.length_cons, Nat.add_mul]
    generalize r.length * (n + 2) = z at *
    omega

noncomputable def cut (ns : List Int) (l r : Int) : List Int := (ns.drop l.toNat).take (r.toNat - l.toNat)
theorem cut_length {ns : List Int} {l r : Int} (h0 : 0 ≤ l) (h1 : l ≤ r) (h2 : r ≤ ns.length) : (cut ns l r).length = (r - l).toNat := by
  k_with_none
  k_with "ar" => (first | with_reducible exact ar176 (by assumption) (by assumption))
  unfold cut
  rw [List.length_take, List.length_drop]
  omega
theorem cut_split {ns : List Int} {l m r : Int} (h0 : 0 ≤ l) (h1 : l ≤ m) (h2 : m ≤ r) : cut ns l r = cut ns l m ++ cut ns m r := by
  k_with_none
  k_with "ar" => (first | with_reducible exact ar620 (by assumption) (by assumption) | with_reducible exact ar587 (by assumption))
  unfold cut
  have e1 : r.toNat - l.toNat = (m.toNat - l.toNat) + (r.toNat - m.toNat) := by omega
  rw [e1, List.take_add, List.drop_drop]
  congr 3
  omega
theorem cut_one {ns : List Int} {l : Int} {d : Int} (h0 : 0 ≤ l) (h : ns[l.toNat]? = some d) : cut ns l (l + 1) = [d] := by
  k_with_none
  k_with "ar" => (first | with_reducible exact ar377 (by assumption))
  unfold cut
  have e : (l + 1).toNat - l.toNat = 1 := by omega
  rw [e]
  obtain ⟨hl, rfl⟩ := List.getElem?_eq_some_iff.mp h
  rw [List.drop_eq_getElem_cons hl]
  rfl
theorem cut_all (ns : List Int) : cut ns 0 (ns.length : Int) = ns := by
  unfold cut
  simp
theorem cut_mem {ns : List Int} {l r : Int} {x : Int} (h : x ∈ cut ns l r) : x ∈ ns := List.mem_of_mem_drop (List.mem_of_mem_take h)

section
variable {prog : Program} {w : World} {A : Around} {E : Value → Shared → Prop} {s : Shared} {Q : Value → Shared → Prop}
theorem my_item {value slice : Expr} {l : Addr} {its : Array Value} {k : Int} {u : Tok} {v : Value} (hl : s.heap.IsList l its) (h0 : 0 ≤ k) (hhi : k < 2 ^ 63) (hx : its[k.toNat]? = some v) (h : Q v s)
    (hs : subscripted slice false (.ref l) (.int k u) = operate [.ref l, .int k u] (getItem (.ref l) (.int k u)) := by with_unfolding_all rfl) :
    wpAny (model prog w) A (subscriptTail value slice (.ref l) (.int k u)) Q E s :=
  tail_any hl.typeIs slot_list_getitem.lookup (wpAny_getItem_list hl h0 hhi hx h) hs
theorem len_is {l : Addr} {items : Array Value} {c : Int} (hl : s.heap.IsList l items) (hc : (items.size : Int) = c) (hfit : c < 2 ^ 63) (h : Q (.int c (s.toks + 1)) { s with toks := s.toks + 1 + 1 }) :
    wpAny (model prog w) A (call (.builtin "len") [.ref l]) Q E s := len_list hl (by omega) (by rw [hc]; exact h)
theorem rshift_is {a b c : Int} {t u : Tok} (hn : 0 ≤ b) (hc : a.fdiv (2 ^ b.toNat) = c) (h : Q (.int c s.toks) { s with toks := s.toks + 1 }) : wpAny (model prog w) A (binaryOp .RShift (.int a t) (.int b u)) Q E s := rshift_int hn (by rw [hc]; exact h)
end
end Mine
namespace Mine
open PySem.Builtin.Int (intBits)

/-- the table of a def's inner code: empty, or with the code of its inner def -/
def TabIs (P : Addr) (qual : Str) (line col : Int) (l : List (Addr × Obj)) : Prop :=
  l = [(P, tabObj #[])] ∨ ∃ c' oc vs t, l = [(P, tabObj #[rawInt line, rawInt col, .ref c']), (c', oc)] ∧ oc.data = .fields vs ∧ vs[1]? = some (.str qual t)

theorem tab_hit {g h : Heap} {L : Addr} {l news : List (Addr × Obj)} {P c' : Addr} {qual : Str} {line col : Int} {oc : Obj} {vs : Array Value} {t : Tok} (_N : News g L h l) (hP : (P, tabObj #[rawInt line, rawInt col, .ref c']) ∈ l) (hc : (c', oc) ∈ l)
    (hd : oc.data = .fields vs) (hv : vs[1]? = some (.str qual t)) (hn : ∀ q ∈ news, q ∈ l) : ∃ tb', TabIs P qual line col tb' ∧ ∀ q ∈ tb' ++ news, q ∈ l :=
  ⟨[(P, tabObj #[rawInt line, rawInt col, .ref c']), (c', oc)], .inr ⟨c', oc, vs, t, rfl, hd, hv⟩, fun q hq => by
    rcases List.mem_cons.mp hq with rfl | hq
    · exact hP
    · rcases List.mem_cons.mp hq with rfl | hq
      · exact hc
      · exact hn q hq⟩

section
variable {w : World} {p : Program} {loose : List Str} {mean : ExcName → Option Value} {mg mb : Str → Option Value}
  {dp un : Nat} {gd : Option (List Code)} {cn : Str} {cs : Scope} {a : Addr} {ccd : Value} {cl : List (Str × Addr)} {outer : List Env} {A₀ : Around} {base h₀ : Heap} {L : Addr} {m : Str → Option Value} {news : List (Addr × Obj)} {s : Shared}
  {Q E : Value → Shared → Prop}

set_option maxRecDepth 100000 in
set_option maxHeartbeats 8000000 in
theorem t_d2i {tb : List (Addr × Obj)} {d : Addr} {vs : List Value} {ns : List Int} {ep : Nat} {n : Int} {tn : Tok} (B : Below A₀ base outer h₀) (F : Fr h₀ L s.heap m) (X : (hd.heap_39 w.params).In h₀) (N : News h₀ L s.heap (tb ++ news)) (T : Top p loose mean mg mb h₀) (hk : cs.kind = .function)
  (C : CodeHd base 41 37) (hoff : ∀ q ∈ news, q.1 ≠ 37) (htb : TabIs 37 (Str.ofString "_digits2int.<locals>.inner") 47 4 tb)
  (hD : (d, listOf vs.toArray ep) ∈ news) (hi : IntsAre vs ns) (hlen : ns.length ≤ 64) (h0 : 0 ≤ n) (hn : n ≤ 40000) (hds : ∀ x ∈ ns, 0 ≤ x ∧ intBits x ≤ 40000)
  (hd : dp + 100 < recursionLimit) (hu : un + 800 < cLine)
  (hret : ∀ t tb' h' tk', Fr h₀ L h' m → News h₀ L h' (tb' ++ news) → TabIs 37 (Str.ofString "_digits2int.<locals>.inner") 47 4 tb' → Q (.int (evalD (2 ^ n.toNat) ns) t) { s with heap := h', toks := tk' }) :
    wpAny (model PR w) (ktrTop dp un gd cn cs L a ccd cl outer) (call (.ref 42) [.ref d, .int n tn]) Q E s := by
  k_with_none
  k_with "truthy ref" => k_extra "truthy"
  k_with "call builtin:len" => k_extra "len"
  k_with "call ref" => k_extra "call_rec"
  k_with "subscriptTail Name Name ref int" => k_extra "item"
  k_with "binaryOp Mult int int" => k_extra "mul"
  k_with "binaryOp LShift int int" => k_extra "shl"
  k_with "binaryOp RShift int int" => (k_extra "shr")
  k_with "exec Return some IfExp" => (refine Stop.mk ?_)
  k_with "ar" => (first | with_reducible exact ar193 | with_reducible exact ar387 (by assumption) (by assumption) | with_reducible exact ar397 (by assumption) | with_reducible exact ar185 (by assumption) (by assumption) | with_reducible exact ar425 (by assumption) | with_reducible exact ar320 (by assumption) | with_reducible exact ar670 (by assumption) | with_reducible exact ar667 (by assumption) | with_reducible exact ar28 (by assumption) (by assumption) | with_reducible exact ar614 (by assumption) | with_reducible exact ar131 | with_reducible exact ar0 | with_reducible exact ar617 (by assumption) | with_reducible exact ar358 | with_reducible exact ar628 (by assumption) (by assumption) (by assumption) (by assumption) | with_reducible exact ar477 (by assumption) (by assumption) | with_reducible exact ar647 (by assumption) (by assumption) (by assumption) (by assumption) (by assumption) | with_reducible exact ar189 (by assumption) (by assumption) | with_reducible exact ar606 (by assumption) (by assumption) (by assumption) (by assumption) (by assumption) (by assumption) | with_reducible exact ar263 (by assumption) (by assumption) | with_reducible exact ar198 | with_reducible exact ar1 (by assumption) (by assumption) | with_reducible exact ar393 (by assumption) (by assumption) | with_reducible exact ar491 (by assumption) (by assumption) | with_reducible exact ar599 (by assumption) (by assumption) (by assumption) (by assumption) | with_reducible exact ar123 (by assumption) (by assumption) (by assumption) (by assumption) | with_reducible exact ar260 | with_reducible exact ar97 (by assumption) (by assumption) (by assumption) | with_reducible exact ar566 (by assumption) (by assumption) (by assumption) (by assumption) | with_reducible exact ar492 (by assumption) (by assumption) (by assumption) (by assumption) | with_reducible exact ar119 (by assumption) (by assumption) (by assumption) (by assumption) | with_reducible exact ar83 (by assumption) (by assumption) | with_reducible exact ar2 (by assumption) (by assumption) (by assumption) (by assumption) (by assumption) | with_reducible exact ar58 (by assumption) (by assumption) (by assumption) | with_reducible exact ar590 (by assumption) (by assumption) (by assumption) | with_reducible exact ar84 (by assumption) (by assumption) | with_reducible exact ar349 (by assumption) | with_reducible exact ar333 (by assumption))
  have hvl : vs.length = ns.length := hi.length
  obtain ⟨len, hle⟩ : ∃ len : Int, (ns.length : Int) = len := ⟨_, rfl⟩
  have cutb : ∀ l r, (intBits (evalD (2 ^ n.toNat) (cut ns l r)) : Int) ≤ 40000 + 64 * 40002 := fun l r => by
    have h1 := evalD_bits (D := 40000) (n := n.toNat) (ds := cut ns l r) fun x hx => (hds x (cut_mem hx)).2
    have h2 : (cut ns l r).length ≤ 64 := by
      have : (cut ns l r).length ≤ ns.length := by unfold cut; rw [List.length_take, List.length_drop]; omega
      omega
    have h3 : (cut ns l r).length * (n.toNat + 2) ≤ 64 * 40002 := Nat.mul_le_mul h2 (by omega)
    omega
  k_with_none
  k_with "truthy ref" => k_extra "truthy"
  k_with "call builtin:len" => k_extra "len"
  k_with "call ref" => k_extra "call_rec"
  k_with "subscriptTail Name Name ref int" => k_extra "item"
  k_with "binaryOp Mult int int" => k_extra "mul"
  k_with "binaryOp LShift int int" => k_extra "shl"
  k_with "binaryOp RShift int int" => (k_extra "shr")
  k_with "exec Return some IfExp" => (refine Stop.mk ?_)
  k_with "ar" => (first | with_reducible exact ar193 | with_reducible exact ar387 (by assumption) (by assumption) | with_reducible exact ar397 (by assumption) | with_reducible exact ar185 (by assumption) (by assumption) | with_reducible exact ar425 (by assumption) | with_reducible exact ar320 (by assumption) | with_reducible exact ar670 (by assumption) | with_reducible exact ar667 (by assumption) | with_reducible exact ar28 (by assumption) (by assumption) | with_reducible exact ar614 (by assumption) | with_reducible exact ar131 | with_reducible exact ar0 | with_reducible exact ar617 (by assumption) | with_reducible exact ar358 | with_reducible exact ar628 (by assumption) (by assumption) (by assumption) (by assumption) | with_reducible exact ar477 (by assumption) (by assumption) | with_reducible exact ar647 (by assumption) (by assumption) (by assumption) (by assumption) (by assumption) | with_reducible exact ar189 (by assumption) (by assumption) | with_reducible exact ar606 (by assumption) (by assumption) (by assumption) (by assumption) (by assumption) (by assumption) | with_reducible exact ar263 (by assumption) (by assumption) | with_reducible exact ar198 | with_reducible exact ar1 (by assumption) (by assumption) | with_reducible exact ar393 (by assumption) (by assumption) | with_reducible exact ar491 (by assumption) (by assumption) | with_reducible exact ar599 (by assumption) (by assumption) (by assumption) (by assumption) | with_reducible exact ar123 (by assumption) (by assumption) (by assumption) (by assumption) | with_reducible exact ar260 | with_reducible exact ar97 (by assumption) (by assumption) (by assumption) | with_reducible exact ar566 (by assumption) (by assumption) (by assumption) (by assumption) | with_reducible exact ar492 (by assumption) (by assumption) (by assumption) (by assumption) | with_reducible exact ar119 (by assumption) (by assumption) (by assumption) (by assumption) | with_reducible exact ar83 (by assumption) (by assumption) | with_reducible exact ar2 (by assumption) (by assumption) (by assumption) (by assumption) (by assumption) | with_reducible exact ar58 (by assumption) (by assumption) (by assumption) | with_reducible exact ar590 (by assumption) (by assumption) (by assumption) | with_reducible exact ar84 (by assumption) (by assumption) | with_reducible exact ar349 (by assumption) | with_reducible exact ar333 (by assumption))
  w_top off
  rcases htb with rfl | ⟨c', oc, vc, tc, rfl, hoc, hvc⟩
  all_goals (
    k_with_none
    k_with "truthy ref" => k_extra "truthy"
    k_with "call builtin:len" => k_extra "len"
    k_with "call ref" => k_extra "call_rec"
    k_with "subscriptTail Name Name ref int" => k_extra "item"
    k_with "binaryOp Mult int int" => k_extra "mul"
    k_with "binaryOp LShift int int" => k_extra "shl"
    k_with "binaryOp RShift int int" => (k_extra "shr")
    k_with "exec Return some IfExp" => (refine Stop.mk ?_)
    k_with "ar" => (first | with_reducible exact ar193 | with_reducible exact ar387 (by assumption) (by assumption) | with_reducible exact ar397 (by assumption) | with_reducible exact ar185 (by assumption) (by assumption) | with_reducible exact ar425 (by assumption) | with_reducible exact ar320 (by assumption) | with_reducible exact ar670 (by assumption) | with_reducible exact ar667 (by assumption) | with_reducible exact ar28 (by assumption) (by assumption) | with_reducible exact ar614 (by assumption) | with_reducible exact ar131 | with_reducible exact ar0 | with_reducible exact ar617 (by assumption) | with_reducible exact ar358 | with_reducible exact ar628 (by assumption) (by assumption) (by assumption) (by assumption) | with_reducible exact ar477 (by assumption) (by assumption) | with_reducible exact ar647 (by assumption) (by assumption) (by assumption) (by assumption) (by assumption) | with_reducible exact ar189 (by assumption) (by assumption) | with_reducible exact ar606 (by assumption) (by assumption) (by assumption) (by assumption) (by assumption) (by assumption) | with_reducible exact ar263 (by assumption) (by assumption) | with_reducible exact ar198 | with_reducible exact ar1 (by assumption) (by assumption) | with_reducible exact ar393 (by assumption) (by assumption) | with_reducible exact ar491 (by assumption) (by assumption) | with_reducible exact ar599 (by assumption) (by assumption) (by assumption) (by assumption) | with_reducible exact ar123 (by assumption) (by assumption) (by assumption) (by assumption) | with_reducible exact ar260 | with_reducible exact ar97 (by assumption) (by assumption) (by assumption) | with_reducible exact ar566 (by assumption) (by assumption) (by assumption) (by assumption) | with_reducible exact ar492 (by assumption) (by assumption) (by assumption) (by assumption) | with_reducible exact ar119 (by assumption) (by assumption) (by assumption) (by assumption) | with_reducible exact ar83 (by assumption) (by assumption) | with_reducible exact ar2 (by assumption) (by assumption) (by assumption) (by assumption) (by assumption) | with_reducible exact ar58 (by assumption) (by assumption) (by assumption) | with_reducible exact ar590 (by assumption) (by assumption) (by assumption) | with_reducible exact ar84 (by assumption) (by assumption) | with_reducible exact ar349 (by assumption) | with_reducible exact ar333 (by assumption))
    k_with "kall" => (first | exact hoff | exact fun p hp => Nat.ne_of_lt (Nat.lt_of_lt_of_le (hNews p hp) (by omega)))
    (try simp only [List.cons_append, List.nil_append] at N)
    refine wpAny_call ?_
    k_dflt (refine' code_defC ?k1 ?k2 ?k3 ?k4 ?k5 ?kA ?kF ?kK ?k6 ?k7 ?k8 ?k9 ?kB ?kD ?_ ?c2 ?c3 ?c4; (case kA => exact rfl); (case kF => exact rfl); (case kK => assumption); (case k1 => k_asm); (case k2 => k_asm); (case k3 => k_asm); (case k4 => k_asm); (case k5 => k_asm); (case k6 => k_is); (case k7 => k_is); (case k8 => ktr_room); (case k9 => exact BindsTo.of_eq rfl); (case kB => exact rfl); (case kD => decide +kernel); (case c2 => exact rfl); (case c3 => exact rfl); (case c4 => exact rfl); k_whole; intro g' L' h' tk' cells' FG' F' N' Y' B' X' T' l1; (have hNews : ∀ p ∈ news, p.1 < L' := fun p hp => l1 p (by simp [hp])); (try k_lt l1); k_cells Y'; (try simp only [List.cons_append, List.nil_append] at N'); (try dsimp only); (try k_fold))
    k_steps
    (rename News _ _ _ _ => N9)
    have key := rec_ind (w := w) (p := p) (loose := loose) (mean := mean) (mg := mg) (mb := mb) N9 (by k_mem) (by k_mem) (by assumption) (by assumption) (σ := Int × Tok × Int × Tok) (fun x => [.int x.1 x.2.1, .int x.2.2.1 x.2.2.2]) (fun x => [(Str.ofString "L", .int x.1 x.2.1), (Str.ofString "R", .int x.2.2.1 x.2.2.2)]) (fun x => (x.2.2.1 - x.1).toNat + 1)
      (fun x => 0 ≤ x.1 ∧ x.1 < x.2.2.1 ∧ x.2.2.1 ≤ len) (fun x v => ∃ t, v = .int (evalD (2 ^ n.toNat) (cut ns x.1 x.2.2.1)) t) (fun _ => rfl) (fun _ => locs rfl) rfl rfl rfl (by decide) (fun _ => Nat.succ_pos _) ?step
    case step =>
      clear hret hd hu B F X N T
      rintro ⟨l, tl, r, tr⟩ ⟨hl0, hlr, hrl⟩ IH dp un gd cn cs a ccd cl outer base h₀ g h₁ L L' m news9 s tk Q E B F F' X N T X0 T0 hneed hd hu hret
      dsimp only at hl0 hlr hrl hd hu hret F'
      have hneed0 := hneed
      simp only [List.mem_cons, forall_eq_or_imp] at hneed
      obtain ⟨m1, m2, m3, m4, m5, m6, mrest⟩ := hneed
      have mD := mrest _ hD
      obtain ⟨x0, hx0⟩ : ∃ x, ns[l.toNat]? = some x := ⟨ns[l.toNat], List.getElem?_eq_getElem (by omega)⟩
      obtain ⟨tx, hx1⟩ := hi.get _ _ hx0
      have t1 : (2 : Int) ^ (1 : Int).toNat = 2 := by decide
      obtain ⟨mid, hmid0⟩ : ∃ mid, (l + r).fdiv (2 ^ (1:Int).toNat) = mid := ⟨_, rfl⟩
      have hmid : mid = (l + r) / 2 := by rw [← hmid0, t1]; exact Int.fdiv_eq_ediv_of_nonneg _ (by decide)
      have hmn : 0 ≤ (mid - l) * n := Int.mul_nonneg (by omega) h0
      have hmb : (mid - l) * n ≤ 64 * 40000 := by
        have e1 := Int.mul_le_mul_of_nonneg_right (show mid - l ≤ 64 by omega) h0
        omega
      have f1 : IntMulOk (mid - l) n := IntMulOk.of_le (m := 64) (n := 64) (intBits_le_iff.mpr (by omega)) (intBits_le_iff.mpr (by omega)) (by omega)
      have f2 : (intBits (evalD (2 ^ n.toNat) (cut ns (mid) r)) : Int) + (mid - l) * n ≤ 2 ^ 27 := by
        have := cutb (mid) r
        omega
      have fv1 : l + 1 = r → x0 = evalD (2 ^ n.toNat) (cut ns l r) := fun e => by
        rw [← e, cut_one hl0 hx0]; simp [evalD]
      have fv2 : l + 1 ≠ r → evalD (2 ^ n.toNat) (cut ns mid r) * 2 ^ ((mid - l) * n).toNat + evalD (2 ^ n.toNat) (cut ns l mid) = evalD (2 ^ n.toNat) (cut ns l r) := fun e => by
        rw [cut_split (m := mid) (r := r) hl0 (by omega) (by omega), evalD_append, cut_length hl0 (by omega) (by omega)]
        have : ((mid - l) * n).toNat = n.toNat * (mid - l).toNat := by
          rw [Int.toNat_mul (by omega) h0, Nat.mul_comm]
        rw [this, Int.pow_mul, Int.mul_comm, Int.add_comm]
      k_with_none
      k_with "truthy ref" => k_extra "truthy"
      k_with "call builtin:len" => k_extra "len"
      k_with "call ref" => k_extra "call_rec"
      k_with "subscriptTail Name Name ref int" => k_extra "item"
      k_with "binaryOp Mult int int" => k_extra "mul"
      k_with "binaryOp LShift int int" => k_extra "shl"
      k_with "binaryOp RShift int int" => (k_extra "shr")
      k_with "exec Return some IfExp" => (refine Stop.mk ?_)
      k_with "ar" => (first | with_reducible exact ar193 | with_reducible exact ar387 (by assumption) (by assumption) | with_reducible exact ar397 (by assumption) | with_reducible exact ar185 (by assumption) (by assumption) | with_reducible exact ar425 (by assumption) | with_reducible exact ar320 (by assumption) | with_reducible exact ar670 (by assumption) | with_reducible exact ar667 (by assumption) | with_reducible exact ar28 (by assumption) (by assumption) | with_reducible exact ar614 (by assumption) | with_reducible exact ar131 | with_reducible exact ar0 | with_reducible exact ar617 (by assumption) | with_reducible exact ar358 | with_reducible exact ar628 (by assumption) (by assumption) (by assumption) (by assumption) | with_reducible exact ar477 (by assumption) (by assumption) | with_reducible exact ar647 (by assumption) (by assumption) (by assumption) (by assumption) (by assumption) | with_reducible exact ar189 (by assumption) (by assumption) | with_reducible exact ar606 (by assumption) (by assumption) (by assumption) (by assumption) (by assumption) (by assumption) | with_reducible exact ar263 (by assumption) (by assumption) | with_reducible exact ar198 | with_reducible exact ar1 (by assumption) (by assumption) | with_reducible exact ar393 (by assumption) (by assumption) | with_reducible exact ar491 (by assumption) (by assumption) | with_reducible exact ar599 (by assumption) (by assumption) (by assumption) (by assumption) | with_reducible exact ar123 (by assumption) (by assumption) (by assumption) (by assumption) | with_reducible exact ar260 | with_reducible exact ar97 (by assumption) (by assumption) (by assumption) | with_reducible exact ar566 (by assumption) (by assumption) (by assumption) (by assumption) | with_reducible exact ar492 (by assumption) (by assumption) (by assumption) (by assumption) | with_reducible exact ar119 (by assumption) (by assumption) (by assumption) (by assumption) | with_reducible exact ar83 (by assumption) (by assumption) | with_reducible exact ar2 (by assumption) (by assumption) (by assumption) (by assumption) (by assumption) | with_reducible exact ar58 (by assumption) (by assumption) (by assumption) | with_reducible exact ar590 (by assumption) (by assumption) (by assumption) | with_reducible exact ar84 (by assumption) (by assumption) | with_reducible exact ar349 (by assumption) | with_reducible exact ar333 (by assumption))
      k_with "item" => (refine my_item (News.isList (by k_asm) mD) (by omega) (by omega) (show vs.toArray[l.toNat]? = some (.int x0 tx) by simpa using hx1) ?_; (try dsimp only))
      k_with "mul" => (refine mul_int ?_ f1)
      k_with "shr" => (refine rshift_is (by omega) hmid0 ?_)
      k_with "shl" => (refine lshift_int hmn f2 ?_)
      k_with "call_rec" => (refine' IH (_, _, _, _) ?c1 ?c2 ?B ?F ?X ?N ?T ?hk hneed0 ?hd ?hu ?_; (case B => k_asm); (case F => k_asm); (case X => k_asm); (case N => k_asm); (case T => k_asm); (case hk => exact rfl); (case c1 => (dsimp only; omega)); (case c2 => (dsimp only; omega)); (case hd => (dsimp only; omega)); (case hu => (dsimp only; omega)); k_whole; intro r' h' tk' F' N' hP'; obtain ⟨t', e'⟩ := hP'; subst e'; (try dsimp only); (try k_fold))
      (try dsimp only)
      (with_reducible show wpAny _ _ _ _ _ _)
      k_fold
      k_steps
      · exact hret _ _ _ (by k_asm) (by k_asm) ⟨_, congrArg (fun z => Value.int z _) (fv1 (by assumption))⟩
      · exact hret _ _ _ (by k_asm) (by k_asm) ⟨_, congrArg (fun z => Value.int z _) (fv2 (by assumption))⟩
    k_with_none
    k_with "truthy ref" => k_extra "truthy"
    k_with "call builtin:len" => k_extra "len"
    k_with "call ref" => k_extra "call_rec"
    k_with "subscriptTail Name Name ref int" => k_extra "item"
    k_with "binaryOp Mult int int" => k_extra "mul"
    k_with "binaryOp LShift int int" => k_extra "shl"
    k_with "binaryOp RShift int int" => (k_extra "shr")
    k_with "exec Return some IfExp" => (refine Stop.mk ?_)
    k_with "ar" => (first | with_reducible exact ar193 | with_reducible exact ar387 (by assumption) (by assumption) | with_reducible exact ar397 (by assumption) | with_reducible exact ar185 (by assumption) (by assumption) | with_reducible exact ar425 (by assumption) | with_reducible exact ar320 (by assumption) | with_reducible exact ar670 (by assumption) | with_reducible exact ar667 (by assumption) | with_reducible exact ar28 (by assumption) (by assumption) | with_reducible exact ar614 (by assumption) | with_reducible exact ar131 | with_reducible exact ar0 | with_reducible exact ar617 (by assumption) | with_reducible exact ar358 | with_reducible exact ar628 (by assumption) (by assumption) (by assumption) (by assumption) | with_reducible exact ar477 (by assumption) (by assumption) | with_reducible exact ar647 (by assumption) (by assumption) (by assumption) (by assumption) (by assumption) | with_reducible exact ar189 (by assumption) (by assumption) | with_reducible exact ar606 (by assumption) (by assumption) (by assumption) (by assumption) (by assumption) (by assumption) | with_reducible exact ar263 (by assumption) (by assumption) | with_reducible exact ar198 | with_reducible exact ar1 (by assumption) (by assumption) | with_reducible exact ar393 (by assumption) (by assumption) | with_reducible exact ar491 (by assumption) (by assumption) | with_reducible exact ar599 (by assumption) (by assumption) (by assumption) (by assumption) | with_reducible exact ar123 (by assumption) (by assumption) (by assumption) (by assumption) | with_reducible exact ar260 | with_reducible exact ar97 (by assumption) (by assumption) (by assumption) | with_reducible exact ar566 (by assumption) (by assumption) (by assumption) (by assumption) | with_reducible exact ar492 (by assumption) (by assumption) (by assumption) (by assumption) | with_reducible exact ar119 (by assumption) (by assumption) (by assumption) (by assumption) | with_reducible exact ar83 (by assumption) (by assumption) | with_reducible exact ar2 (by assumption) (by assumption) (by assumption) (by assumption) (by assumption) | with_reducible exact ar58 (by assumption) (by assumption) (by assumption) | with_reducible exact ar590 (by assumption) (by assumption) (by assumption) | with_reducible exact ar84 (by assumption) (by assumption) | with_reducible exact ar349 (by assumption) | with_reducible exact ar333 (by assumption))
    obtain ⟨tb', hti, htm⟩ := tab_hit (news := news) (P := 37) (qual := Str.ofString "_digits2int.<locals>.inner") (line := 47) (col := 4) N9 (by first | exact (.tail _ (.tail _ (.tail _ (.tail _ (.tail _ (.head _)))))) | exact (.tail _ (.tail _ (.tail _ (.tail _ (.head _)))))) (by first | exact (.tail _ (.head _)) | exact (.tail _ (.tail _ (.tail _ (.tail _ (.tail _ (.head _))))))) (by assumption) (by assumption) (fun q hq => .tail _ (.tail _ (.tail _ (.tail _ (.tail _ (.tail _ hq))))))
    have hszi : (vs.toArray.size : Int) = len := by simp [hvl, hle]
    have hL9 := News.isList N9 (show (d, listOf vs.toArray ep) ∈ _ from .tail _ (.tail _ (.tail _ (.tail _ (.tail _ (.tail _ hD))))))
    k_with "truthy" => (refine wpAny_truthy_list hL9 (by simp; omega) ?_; (try dsimp only))
    k_with "len" => (refine len_is hL9 hszi (by omega) ?_; (try dsimp only))
    k_with "call_rec" => (refine' key (_, _, _, _) ?c2 ?B ?F ?X ?N ?T ?hk (fun q hq => hq) ?hd ?hu ?_; (case B => k_asm); (case F => k_asm); (case X => k_asm); (case N => k_asm); (case T => k_asm); (case hk => exact rfl); (case c2 => (dsimp only; have := hne (by assumption); omega)); (case hd => (dsimp only; omega)); (case hu => (dsimp only; omega)); k_whole; intro r' h' tk' F' N' hP'; obtain ⟨t', e'⟩ := hP'; subst e'; (try dsimp only); (try k_fold))
    have hle64 : len ≤ 64 := by omega
    have hne : vs.toArray.isEmpty = false → 0 < len := fun e => by
      rcases vs with _ | ⟨v, vs⟩
      · simp at e
      · simp at hvl; omega
    have hem : vs.toArray.isEmpty = true → (0 : Int) = evalD (2 ^ n.toNat) ns := fun e => by
      have : ns = [] := by
        apply List.eq_nil_of_length_eq_zero
        rw [← hvl]
        simpa using e
      rw [this]; rfl
    have hfull : evalD (2 ^ n.toNat) (cut ns 0 len) = evalD (2 ^ n.toNat) ns := by rw [← hle, cut_all]
    k_steps
    · rw [hem (by assumption)]
      exact hret _ tb' _ _ (by k_asm) (News.sub (by k_asm) htm) hti
    · rw [hfull]
      exact hret _ tb' _ _ (by k_asm) (News.sub (by k_asm) htm) hti)
end
end Mine
namespace Mine
open PySem.Builtin.Int (intBits)

/-- k figures of x to the base q, the last first -/
noncomputable def digs (q : Int) : Int → Nat → List Int
  | _, 0 => []
  | x, k + 1 => (x % q) :: digs q (x / q) k
theorem digs_len (q : Int) : ∀ (k : Nat) (x : Int), (digs q x k).length = k
  | 0, _ => rfl
  | k + 1, x => by rw [digs, List.length_cons, digs_len q k]
theorem digs_add {q : Int} (hq : 0 < q) (j : Nat) : ∀ (i : Nat) (x : Int), digs q x (i + j) = digs q x i ++ digs q (x / q ^ i) j
  | 0, x => by simp [digs]
  | i + 1, x => by
    have e : i + 1 + j = (i + j) + 1 := by omega
    rw [e, digs, digs_add hq j i, digs, List.cons_append, Int.pow_succ, Int.mul_comm, Int.ediv_ediv_of_nonneg (by omega)]
theorem emod_mul_ediv' {x q p : Int} (hq : 0 < q) : x % (q * p) / q = (x / q) % p := by
  k_with_none
  k_with "ar" => (first | with_reducible exact ar35 (by assumption) | with_reducible exact ar39 (by assumption))
  have e : x % (q * p) = x % q + q * ((x / q) % p) := by
    have h1 := Int.emod_def x (q * p)
    have h2 := Int.emod_def (x / q) p
    have h3 := Int.emod_def x q
    rw [Int.ediv_ediv_of_nonneg (by omega)] at h2
    rw [h1, h2, h3]
    grind
  rw [e, Int.add_mul_ediv_left _ _ (by omega), Int.ediv_eq_zero_of_lt (Int.emod_nonneg _ (by omega)) (Int.emod_lt_of_pos _ hq), Int.zero_add]
theorem digs_mod {q : Int} (hq : 0 < q) : ∀ (i : Nat) (x : Int), digs q (x % q ^ i) i = digs q x i
  | 0, x => rfl
  | i + 1, x => by
    have h1 : x % q ^ (i + 1) % q = x % q := Int.emod_emod_of_dvd x ⟨q ^ i, by rw [Int.pow_succ, Int.mul_comm]⟩
    have h2 : x % q ^ (i + 1) / q = (x / q) % q ^ i := by
      rw [Int.pow_succ, Int.mul_comm]
      exact emod_mul_ediv' hq
    rw [digs, digs, h1, h2, digs_mod hq i]
theorem digs_split {q : Int} (hq : 0 < q) (i j : Nat) (x : Int) : digs q x (i + j) = digs q (x % q ^ i) i ++ digs q (x / q ^ i) j := by rw [digs_add hq, digs_mod hq]
theorem digs_one {q x : Int} (h0 : 0 ≤ x) (h : x < q) : digs q x 1 = [x] := by simp [digs, Int.emod_eq_of_lt h0 h]
theorem digs_eval {q : Int} (hq : 0 < q) : ∀ {ds : List Int}, (∀ d ∈ ds, 0 ≤ d ∧ d < q) → digs q (evalD q ds) ds.length = ds
  | [], _ => rfl
  | d :: r, h => by
    have h1 := h d (.head _)
    rw [evalD, List.length_cons, digs, Int.add_mul_emod_self_left, Int.emod_eq_of_lt h1.1 h1.2, Int.add_mul_ediv_left _ _ (by omega), Int.ediv_eq_zero_of_lt h1.1 h1.2, Int.zero_add, digs_eval hq fun x hx => h x (.tail _ hx)]
theorem eval_digs {q : Int} (hq : 0 < q) : ∀ (k : Nat) (x : Int), evalD q (digs q x k) = x % q ^ k
  | 0, x => by simp [digs, evalD, Int.emod_one]
  | k + 1, x => by
    rw [digs, evalD, eval_digs hq k]
    have h2 : x % q ^ (k + 1) / q = (x / q) % q ^ k := by
      rw [Int.pow_succ, Int.mul_comm]
      exact emod_mul_ediv' hq
    have h1 : x % q ^ (k + 1) % q = x % q := Int.emod_emod_of_dvd x ⟨q ^ k, by rw [Int.pow_succ, Int.mul_comm]⟩
    rw [← h1, ← h2]
    exact Int.emod_add_mul_ediv _ _
theorem digs_bound {q : Int} (hq : 0 < q) : ∀ (k : Nat) (x : Int), ∀ d ∈ digs q x k, 0 ≤ d ∧ d < q
  | 0, _, d, h => by cases h
  | k + 1, x, d, h => by
    rcases List.mem_cons.mp h with rfl | h
    · exact ⟨Int.emod_nonneg _ (by omega), Int.emod_lt_of_pos _ hq⟩
    · exact digs_bound hq k _ d h
theorem digs_zero (q : Int) : ∀ k : Nat, digs q 0 k = List.replicate k 0
  | 0 => rfl
  | k + 1 => by rw [digs, List.replicate_succ, Int.zero_emod, Int.zero_ediv, digs_zero q k]

theorem xor_mod {x : Int} {s : Nat} (h : 0 ≤ x) : Builtin.bitXor x (x.fdiv (2 ^ s) * 2 ^ s) = x % 2 ^ s := by
  k_with_none
  k_with "ar" => (first | with_reducible exact ar35 (by assumption) | with_reducible exact ar346 (by assumption) (by assumption))
  have hP := two_pos s
  rw [Int.fdiv_eq_ediv_of_nonneg _ (by omega)]
  have h1 : 0 ≤ x / 2 ^ s := Int.ediv_nonneg h (by omega)
  have h2 : 0 ≤ x / 2 ^ s * 2 ^ s := Int.mul_nonneg h1 (by omega)
  have e : Builtin.bitAnd x (x / 2 ^ s * 2 ^ s) = x / 2 ^ s * 2 ^ s := by
    rw [bitAnd_pp h h2]
    obtain ⟨n, rfl⟩ := Int.eq_ofNat_of_zero_le h
    have e2 : ((n : Int) / 2 ^ s * 2 ^ s) = ((n / 2 ^ s * 2 ^ s : Nat) : Int) := by simp
    rw [e2, Int.toNat_natCast, Int.toNat_natCast]
    congr 1
    rw [← Nat.shiftRight_eq_div_pow, ← Nat.shiftLeft_eq]
    apply Nat.eq_of_testBit_eq
    intro i
    rw [Nat.testBit_and, Nat.testBit_shiftLeft, Nat.testBit_shiftRight]
    by_cases hs : s ≤ i
    · simp [hs]
    · simp [hs]
  rw [bitXor_and, e]
  have := Int.emod_add_mul_ediv x (2 ^ s)
  have e3 : x / 2 ^ s * 2 ^ s = 2 ^ s * (x / 2 ^ s) := Int.mul_comm _ _
  omega

noncomputable def splice (ns : List Int) (l r : Int) (ds : List Int) : List Int := ns.take l.toNat ++ ds ++ ns.drop r.toNat
theorem splice_len {ns ds : List Int} {l r : Int} (h0 : 0 ≤ l) (h1 : l ≤ r) (h2 : r ≤ ns.length) (hd : ds.length = (r - l).toNat) : (splice ns l r ds).length = ns.length := by
  k_with_none
  k_with "ar" => (first | with_reducible exact ar192 (by assumption) (by assumption) (by assumption) (by assumption))
  unfold splice
  simp only [List.length_append, List.length_take, List.length_drop]
  omega
theorem splice_two {ns d1 d2 : List Int} {l m r : Int} (h0 : 0 ≤ l) (h1 : l ≤ m) (h2 : m ≤ r) (h3 : r ≤ ns.length) (hd : d1.length = (m - l).toNat) :
    splice (splice ns l m d1) m r d2 = splice ns l r (d1 ++ d2) := by
  k_with_none
  k_with "ar" => (first | with_reducible exact ar431 (by assumption) (by assumption) (by assumption) (by assumption) (by assumption) | with_reducible exact ar88 (by assumption) (by assumption) | with_reducible exact ar102 (by assumption) (by assumption))
  unfold splice
  have e1 : m.toNat = (ns.take l.toNat ++ d1).length := by simp only [List.length_append, List.length_take]; omega
  have e2 : (ns.take l.toNat ++ d1 ++ ns.drop m.toNat).take m.toNat = ns.take l.toNat ++ d1 := by
    conv => lhs; arg 1; rw [e1]
    exact List.take_left
  have e3 : (ns.take l.toNat ++ d1 ++ ns.drop m.toNat).drop r.toNat = ns.drop r.toNat := by
    rw [List.drop_append, List.drop_eq_nil_of_le (by omega), List.nil_append, List.drop_drop]
    congr 1
    omega
  rw [e2, e3]
  simp [List.append_assoc]
theorem splice_one {ns : List Int} {l : Int} {x : Int} (h0 : 0 ≤ l) (h : l < ns.length) : ns.set l.toNat x = splice ns l (l + 1) [x] := by
  k_with_none
  k_with "ar" => (first | with_reducible exact ar197 (by assumption) | with_reducible exact ar137 (by assumption) (by assumption))
  unfold splice
  have e : (l + 1).toNat = l.toNat + 1 := by omega
  rw [e, List.set_eq_take_append_cons_drop, if_pos (by omega)]
  simp
theorem splice_all {ns ds : List Int} (h : (ns.length : Int) ≤ r) : splice ns 0 r ds = ds := by
  k_with_none
  k_with "ar" => (first | with_reducible exact ar554 (by assumption))
  unfold splice
  rw [List.drop_eq_nil_of_le (by omega)]
  simp

theorem ki_setL_of {v : Value} : ∀ {l : List Value} {k : Nat}, k < l.length → ki_setL l k v = some (l.set k v)
  | [], _, h => absurd h (Nat.not_lt_zero _)
  | x :: r, 0, _ => rfl
  | x :: r, k + 1, h => by
    unfold ki_setL
    rw [ki_setL_of (l := r) (k := k) (Nat.lt_of_succ_lt_succ h)]
    rfl
theorem ints_set : ∀ {vs : List Value} {ns : List Int}, IntsAre vs ns → ∀ (k : Nat) (x : Int) (t : Tok), IntsAre (vs.set k (.int x t)) (ns.set k x)
  | _, _, .nil, _, _, _ => .nil
  | _, _, .cons _ _ r, 0, x, t => .cons x t r
  | _, _, .cons n u r, k + 1, x, t => .cons n u (ints_set r k x t)
section
variable {prog : Program} {w : World} {A : Around} {E : Value → Shared → Prop} {s : Shared} {h₀ : Heap} {L : Addr} {m : Str → Option Value} {news : List (Addr × Obj)}
theorem mul_one {l : Addr} {c x : Int} {t u : Tok} {Q : Value → Shared → Prop} (Fm : Fr h₀ L s.heap m) (N : News h₀ L s.heap news) (hl : s.heap.IsList l #[.int c t]) (hlo : -(2 ^ 63 : Int) ≤ x) (hhi : x ≤ 2 ^ 24)
    (h : ∀ D vs h', Fr h₀ L h' m → News h₀ L h' ((D, listOf vs.toArray 0) :: news) → (∀ p ∈ news, p.1 < D) → IntsAre vs (List.replicate x.toNat c) → Q (.ref D) { s with heap := h' }) : wpAny (model prog w) A (binaryOp .Mult (.ref l) (.int x u)) Q E s := by
  k_with_none
  k_with "ar" => (first | with_reducible exact ar96 (by assumption) | with_reducible exact ar445 (by assumption))
  refine KM.mul (vs := [.int c t]) (ns := [c]) Fm N hl (by repeat constructor) hlo (by omega) (by simp; omega) ?_
  intro D h' F' N' l1 i1 _ _ _ _ _
  refine h D _ h' F' N' l1 ?_
  have := i1
  rwa [lm_rep_flat_one c] at this
theorem set_head {D : Addr} {vs : List Value} {ns : List Int} {ep : Nat} {k x : Int} {t tx : Tok} {Q : Unit → Shared → Prop} (Fm : Fr h₀ L s.heap m) (N : News h₀ L s.heap ((D, listOf vs.toArray ep) :: news)) (hD : ∀ p ∈ news, p.1 ≠ D) (hi : IntsAre vs ns) (h0 : 0 ≤ k) (hk : k < ns.length) (hfit : k < 2 ^ 63)
    (h : ∀ h' vs', Fr h₀ L h' m → News h₀ L h' ((D, listOf vs'.toArray ep) :: news) → IntsAre vs' (ns.set k.toNat x) → Q () { s with heap := h' }) : wpAny (model prog w) A (setItem (.ref D) (.int k t) (.int x tx)) Q E s := by
  k_with_none
  k_with "ar" => (first | with_reducible exact ar301 (by assumption) (by assumption) (by assumption))
  have hv : vs.length = ns.length := hi.length
  refine ki_set (its := vs.toArray) (n := ep) Fm N h0 hfit (ki_setL_of (by simp; omega)) (.head hD) fun h' F' N' => ?_
  refine h h' _ F' N' ?_
  simp only [List.toList_toArray]
  exact ints_set hi k.toNat x tx
end
end Mine
namespace Mine
open PySem.Builtin.Int (intBits)

/-- a nested def that turns a list of ints at D -/
def RecSpecM (w : World) (p : Program) (loose : List Str) (mean : ExcName → Option Value) (mg mb : Str → Option Value) (f : Addr) (need : List (Addr × Obj)) (D : Addr) (ep len : Nat) (args : List Value) (d : Nat) (Post : List Int → List Int) : Prop :=
  ∀ {dp un : Nat} {gd : Option (List Code)} {cn : Str} {cs : Scope} {a : Addr} {ccd : Value} {cl : List (Str × Addr)} {outer : List Env} {A₀ : Around} {base h₀ : Heap} {L : Addr} {m : Str → Option Value} {news : List (Addr × Obj)} {s : Shared}
  {Q E : Value → Shared → Prop} {vs : List Value} {ns : List Int}, Below A₀ base outer h₀ → Fr h₀ L s.heap m → (hd.heap_39 w.params).In h₀ → News h₀ L s.heap ((D, listOf vs.toArray ep) :: news) → IntsAre vs ns → ns.length = len → (∀ q ∈ news, q.1 ≠ D) → Top p loose mean mg mb h₀ → cs.kind = .function →
  (∀ q ∈ need, q ∈ news) → dp + d < recursionLimit → un + 8 * d < cLine →
  (∀ r vs' h' tk', Fr h₀ L h' m → News h₀ L h' ((D, listOf vs'.toArray ep) :: news) → IntsAre vs' (Post ns) → Q r { s with heap := h', toks := tk' }) →
  wpAny (model PR w) (ktrTop dp un gd cn cs L a ccd cl outer) (call (.ref f) args) Q E s

theorem rec_indM {h9 g9 : Heap} {L9 : Addr} {w : World} {p : Program} {loose : List Str} {mean : ExcName → Option Value} {mg mb : Str → Option Value} {f : Addr} {need : List (Addr × Obj)} {D : Addr} {ep len : Nat}
    {name qual : Str} {params : Arguments} {body : List Stmt} {scope : Scope} {clos : List (Str × Addr)} {doc pm ctv : Value} {c' : Addr} {oc : Obj} {vc : Array Value} {t : Tok} (_N9 : News g9 L9 h9 need)
    (hf : (f, fnMade name qual params body scope clos doc pm c' ctv) ∈ need) (hc : (c', oc) ∈ need) (hdt : oc.data = .fields vc) (hv : vc[1]? = some (.str qual t))
    {σ : Type} (args : σ → List Value) (binds : σ → List (Str × Value)) (μ : σ → Nat) (Pre : σ → Prop) (Post : σ → List Int → List Int)
    (hbind : ∀ x, bindArgs (fnX name qual params body scope clos .none .none doc pm none (.ref c') ctv) ⟨args x, []⟩ = pure (binds x)) (hloc : ∀ x, ∀ y ∈ binds x, scope.names.lookup y.1 = some .local)
    (hco : scope.isCoroutine = false) (hgen : scope.isGenerator = false) (hk : scope.kind = .function) (hcell : ∀ x ∈ scope.names, x.2 ≠ .cell) (hμ : ∀ x, 0 < μ x)
    (step : ∀ x, Pre x → (∀ y, μ y < μ x → Pre y → RecSpecM w p loose mean mg mb f need D ep len (args y) (μ y) (Post y)) →
      ∀ {dp un : Nat} {gd : Option (List Code)} {cn : Str} {cs : Scope} {a : Addr} {ccd : Value} {cl : List (Str × Addr)} {outer : List Env} {base h₀ g h₁ : Heap} {L L' : Addr} {m : Str → Option Value} {news : List (Addr × Obj)} {s : Shared} {tk : Nat}
      {Q E : Value → Shared → Prop} {vs : List Value} {ns : List Int}, Below (ktrTop dp un gd cn cs L a ccd cl outer) base (envX cn cs L a ccd cl :: outer) g → Fr h₀ L g m → Fr g L' h₁ (fun y => (binds x).reverse.lookup y) → (hd.heap_39 w.params).In g → News g L' h₁ ((D, listOf vs.toArray ep) :: news) → IntsAre vs ns → ns.length = len → (∀ q ∈ news, q.1 ≠ D) → Top p loose mean mg mb g → (hd.heap_39 w.params).In h₀ → Top p loose mean mg mb h₀ →
      (∀ q ∈ need, q ∈ news) → dp + μ x < recursionLimit → un + 8 * μ x < cLine →
      (∀ r vs' h' tk', Fr h₀ L h' m → News h₀ L h' ((D, listOf vs'.toArray ep) :: news) → IntsAre vs' (Post x ns) → Q r { s with heap := h', toks := tk' }) →
      wpAny (model PR w) ((ktrTop dp un gd cn cs L a ccd cl outer).deeper (envX qual scope L' f (.ref c') clos)) (execs body (envX qual scope L' f (.ref c') clos))
        (fun fl s' => LeaveK h₀ L m g (fun r s' => match r with | .ok (.ret v) => Q v s' | .ok _ => False | .error e => E e s') (match fl with | .ret v => v | _ => .none) s')
        (fun e s' => wpAny (model PR w) ((ktrTop dp un gd cn cs L a ccd cl outer).deeper (envX qual scope L' f (.ref c') clos)) (leaving (envX qual scope L' f (.ref c') clos) e) (fun _ s'' => E e s'') (fun e' s'' => E e' s'') s')
        { s with heap := h₁, toks := tk }) :
    ∀ x, Pre x → RecSpecM w p loose mean mg mb f need D ep len (args x) (μ x) (Post x) := by
  k_with_none
  k_with "exec If" => k_extra "if"
  k_with "binaryOp FloorDiv int int" => k_extra "fdiv"
  k_with "binaryOp Mult ref int" => k_extra "rep"
  k_with "call builtin:len" => k_extra "len"
  k_with "call ref" => k_extra "call_rec"
  k_with "k_mem" => (refine List.mem_cons_of_mem _ ?_; ktr_member)
  k_with "setItem ref int" => k_extra "set"
  k_with "binaryOp Mult int int" => k_extra "mul"
  k_with "binaryOp LShift int int" => k_extra "shl"
  k_with "binaryOp RShift int int" => k_extra "shr"
  k_with "binaryOp BitXor int int" => k_extra "xor"
  k_with "ar" => (first | with_reducible exact ar412 (by assumption) (by assumption))
  have all : ∀ n x, μ x < n → Pre x → RecSpecM w p loose mean mg mb f need D ep len (args x) (μ x) (Post x) := by
    intro n
    induction n with
    | zero => intro x h; exact absurd h (Nat.not_lt_zero _)
    | succ n ih =>
      intro x hx hp dp un gd cn cs a ccd cl outer A₀ base h₀ L m news s Q E vs ns B F X N hi hlen hD T hkk hneed hd hu hret
      have hp1 := hμ x
      refine wpAny_call ?_
      refine code_nest (base := base) (outer := outer) (env := envX cn cs L a ccd cl) B F X N T rfl rfl hkk (.tail _ (hneed _ hf)) (codeRec_news N (.tail _ (hneed _ hc)) hdt hv) (Nat.lt_of_le_of_lt (Nat.le_add_right _ _) hd) (BindsTo.of_eq (hbind x)) (hloc x) ?_ hco hgen hk hcell
      intro g L' h₁ FG F' N' B' X' T'
      exact step x hp (fun y hy hpy => ih y (by omega) hpy) B' FG F' X' N' hi hlen hD T' X T hneed hd hu hret
  exact fun x hp => all (μ x + 1) x (Nat.lt_succ_self _) hp

theorem News.pull1 {h₀ h : Heap} {L : Addr} {a b : Addr × Obj} {l : List (Addr × Obj)} (N : News h₀ L h (a :: b :: l)) : News h₀ L h (b :: a :: l) := fun q hq => N q (by
  rcases List.mem_cons.mp hq with rfl | hq
  · exact .tail _ (.head _)
  · rcases List.mem_cons.mp hq with rfl | hq
    · exact .head _
    · exact .tail _ (.tail _ hq))
theorem News.pull2 {h₀ h : Heap} {L : Addr} {a b c : Addr × Obj} {l : List (Addr × Obj)} (N : News h₀ L h (a :: b :: c :: l)) : News h₀ L h (c :: a :: b :: l) := fun q hq => N q (by
  rcases List.mem_cons.mp hq with rfl | hq
  · exact .tail _ (.tail _ (.head _))
  · rcases List.mem_cons.mp hq with rfl | hq
    · exact .head _
    · rcases List.mem_cons.mp hq with rfl | hq
      · exact .tail _ (.head _)
      · exact .tail _ (.tail _ (.tail _ hq)))
theorem ne_cons {D c : Addr} {o : Obj} {l : List (Addr × Obj)} (h : c ≠ D) (t : ∀ q ∈ l, q.1 ≠ D) : ∀ q ∈ (c, o) :: l, q.1 ≠ D := fun q hq => by
  rcases List.mem_cons.mp hq with rfl | hq
  · exact h
  · exact t q hq
theorem neh {h₀ h : Heap} {L D : Addr} {o : Obj} {l : List (Addr × Obj)} (_N : News h₀ L h ((D, o) :: l)) (t : ∀ q ∈ l, q.1 ≠ D) : ∀ q ∈ l, q.1 ≠ D := t
theorem cons_sub {e : Addr × Obj} {l l' : List (Addr × Obj)} (h : ∀ q ∈ l, q ∈ l') : ∀ q ∈ e :: l, q ∈ e :: l' := fun q hq => by
  rcases List.mem_cons.mp hq with rfl | hq
  · exact .head _
  · exact .tail _ (h q hq)
theorem i2d_kk {x n : Int} {kk : Nat} (h0 : 0 < n) (hx : 0 ≤ x) (hkk : ((intBits x : Int) + n - 1) / n = kk) : (x ≠ 0 → 0 < (kk : Int)) ∧ x < (2 ^ n.toNat) ^ ((kk : Int) - 0).toNat := by
  k_with_none
  k_with "exec If" => k_extra "if"
  k_with "binaryOp FloorDiv int int" => k_extra "fdiv"
  k_with "binaryOp Mult ref int" => k_extra "rep"
  k_with "call builtin:len" => k_extra "len"
  k_with "call ref" => k_extra "call_rec"
  k_with "k_mem" => (refine List.mem_cons_of_mem _ ?_; ktr_member)
  k_with "setItem ref int" => k_extra "set"
  k_with "binaryOp Mult int int" => k_extra "mul"
  k_with "binaryOp LShift int int" => k_extra "shl"
  k_with "binaryOp RShift int int" => k_extra "shr"
  k_with "binaryOp BitXor int int" => k_extra "xor"
  k_with "ar" => (first | with_reducible exact ar217 | with_reducible exact ar526 (by assumption) (by assumption) | with_reducible exact ar516 (by assumption) | with_reducible exact ar4 (by assumption) (by assumption) | with_reducible exact ar35 (by assumption) | with_reducible exact ar161 (by assumption) (by assumption) (by assumption))
  have e0 : ((kk : Int) - 0).toNat = kk := by omega
  have h1 := Int.mul_ediv_add_emod ((intBits x : Int) + n - 1) n
  have h2 := Int.emod_lt_of_pos ((intBits x : Int) + n - 1) h0
  rw [hkk] at h1
  constructor
  · intro e
    have hb : 0 < intBits x := bits_pos (by omega)
    false_or_by_contra
    rename_i hc
    have : (kk : Int) = 0 := by omega
    rw [this] at h1
    omega
  · have h3 : (intBits x : Int) ≤ n * kk := by omega
    rw [e0, ← Int.pow_mul]
    refine Int.lt_of_lt_of_le (bits_lt (Nat.le_refl _) hx) ?_
    have h4 : intBits x ≤ n.toNat * kk := by
      have : ((n.toNat * kk : Nat) : Int) = n * kk := by rw [Int.natCast_mul, Int.toNat_of_nonneg (by omega)]
      omega
    have h5 : (2 : Nat) ^ intBits x ≤ 2 ^ (n.toNat * kk) := Nat.pow_le_pow_right (by decide) h4
    have h6 : ((2 ^ intBits x : Nat) : Int) ≤ ((2 ^ (n.toNat * kk) : Nat) : Int) := Int.ofNat_le.mpr h5
    simpa using h6
theorem i2d_math {x l r n : Int} {kk : Nat} {ns9 : List Int} (h0 : 0 < n) (hn : n ≤ 40000) (hk64 : kk ≤ 64) (hl0 : 0 ≤ l) (hlr : l < r) (hrl : r ≤ kk) (hx0 : 0 ≤ x) (hxq : x < (2 ^ n.toNat) ^ (r - l).toNat) (hlen9 : ns9.length = kk) :
    ∃ mid sh up lo : Int, (l + r).fdiv (2 ^ (1:Int).toNat) = mid ∧ mid = (l + r) / 2 ∧ (mid - l) * n = sh ∧ 0 ≤ sh ∧ x.fdiv (2 ^ sh.toNat) = up ∧ Builtin.bitXor x (up * 2 ^ sh.toNat) = lo ∧ 0 ≤ up ∧ 0 ≤ lo ∧ lo < (2 ^ n.toNat) ^ (mid - l).toNat ∧ up < (2 ^ n.toNat) ^ (r - mid).toNat ∧
      IntMulOk (mid - l) n ∧ (intBits up : Int) + sh ≤ 2 ^ 27 ∧ l < ns9.length ∧ (l + 1 = r → ns9.set l.toNat x = splice ns9 l r (digs (2 ^ n.toNat) x (r - l).toNat)) ∧
      splice (splice ns9 l mid (digs (2 ^ n.toNat) lo (mid - l).toNat)) mid r (digs (2 ^ n.toNat) up (r - mid).toNat) = splice ns9 l r (digs (2 ^ n.toNat) x (r - l).toNat) ∧
      (∀ ds : List Int, l + 1 ≠ r → ds.length = (mid - l).toNat → (splice ns9 l mid ds).length = kk) := by
  k_with_none
  k_with "exec If" => k_extra "if"
  k_with "binaryOp FloorDiv int int" => k_extra "fdiv"
  k_with "binaryOp Mult ref int" => k_extra "rep"
  k_with "call builtin:len" => k_extra "len"
  k_with "call ref" => k_extra "call_rec"
  k_with "k_mem" => (refine List.mem_cons_of_mem _ ?_; ktr_member)
  k_with "setItem ref int" => k_extra "set"
  k_with "binaryOp Mult int int" => k_extra "mul"
  k_with "binaryOp LShift int int" => k_extra "shl"
  k_with "binaryOp RShift int int" => k_extra "shr"
  k_with "binaryOp BitXor int int" => k_extra "xor"
  k_with "ar" => (first | with_reducible exact ar477 (by assumption) (by assumption) | with_reducible exact ar35 (by assumption) | with_reducible exact ar595 (by assumption) (by assumption) (by assumption) (by assumption) | with_reducible exact ar612 (by assumption) (by assumption) (by assumption) | with_reducible exact ar461 (by assumption) (by assumption) | with_reducible exact ar494 (by assumption) | with_reducible exact ar181 (by assumption) | with_reducible exact ar125 (by assumption) (by assumption) (by assumption) (by assumption) | with_reducible exact ar510 (by assumption) (by assumption) | with_reducible exact ar196 (by assumption) (by assumption) (by assumption) (by assumption) (by assumption) | with_reducible exact ar342 (by assumption) (by assumption) | with_reducible exact ar198 | with_reducible exact ar267 (by assumption) (by assumption) | with_reducible exact ar232 (by assumption) (by assumption) (by assumption) | with_reducible exact ar630 (by assumption) | with_reducible exact ar393 (by assumption) (by assumption) | with_reducible exact ar491 (by assumption) (by assumption) | with_reducible exact ar46 (by assumption) (by assumption) | with_reducible exact ar87 (by assumption) (by assumption) (by assumption) (by assumption))
  have t1 : (2 : Int) ^ (1 : Int).toNat = 2 := by decide
  obtain ⟨mid, hmid0⟩ : ∃ mid, (l + r).fdiv (2 ^ (1:Int).toNat) = mid := ⟨_, rfl⟩
  have hmid : mid = (l + r) / 2 := by rw [← hmid0, t1]; exact Int.fdiv_eq_ediv_of_nonneg _ (by decide)
  obtain ⟨sh, hsh⟩ : ∃ sh, (mid - l) * n = sh := ⟨_, rfl⟩
  have hmn : 0 ≤ sh := hsh ▸ Int.mul_nonneg (by omega) (by omega)
  have hmb : sh ≤ 64 * 40000 := by
    have e1 := Int.mul_le_mul_of_nonneg_right (show mid - l ≤ 64 by omega) (show 0 ≤ n by omega)
    omega
  have hPn := two_pos n.toNat
  obtain ⟨up, hup⟩ : ∃ up, x.fdiv (2 ^ sh.toNat) = up := ⟨_, rfl⟩
  obtain ⟨lo, hlo⟩ : ∃ lo, Builtin.bitXor x (up * 2 ^ sh.toNat) = lo := ⟨_, rfl⟩
  have e2 : (2 : Int) ^ sh.toNat = (2 ^ n.toNat) ^ (mid - l).toNat := by
    rw [← hsh, Int.toNat_mul (by omega) (by omega), Nat.mul_comm, Int.pow_mul]
  have hlo1 : lo = x % (2 ^ n.toNat) ^ (mid - l).toNat := by rw [← hlo, ← hup, xor_mod hx0, e2]
  have hPs := two_pos sh.toNat
  have hup1 : up = x / (2 ^ n.toNat) ^ (mid - l).toNat := by rw [← hup, Int.fdiv_eq_ediv_of_nonneg _ (by omega), e2]
  have hPs' : (0 : Int) < (2 ^ n.toNat) ^ (mid - l).toNat := e2 ▸ hPs
  have hup0 : 0 ≤ up := by rw [hup1]; exact Int.ediv_nonneg hx0 (by omega)
  have hlo0 : 0 ≤ lo := by rw [hlo1]; exact Int.emod_nonneg _ (by omega)
  have hlob : lo < (2 ^ n.toNat) ^ (mid - l).toNat := by rw [hlo1]; exact Int.emod_lt_of_pos _ hPs'
  have hrm : (r - l).toNat = (mid - l).toNat + (r - mid).toNat := by omega
  have hupb : up < (2 ^ n.toNat) ^ (r - mid).toNat := by
    rw [hup1]
    apply Int.ediv_lt_of_lt_mul hPs'
    rw [Int.mul_comm, ← Int.pow_add, ← hrm]
    exact hxq
  have hupbits : intBits up ≤ 64 * 40000 := by
    have h1 : up < 2 ^ (n.toNat * (r - mid).toNat) := by rw [Int.pow_mul]; exact hupb
    have h2 := bits_of_lt h1 hup0
    have h3 : n.toNat * (r - mid).toNat ≤ 40000 * 64 := Nat.mul_le_mul (by omega) (by omega)
    omega
  have f1 : IntMulOk (mid - l) n := IntMulOk.of_le (m := 64) (n := 64) (intBits_le_iff.mpr (by omega)) (intBits_le_iff.mpr (by omega)) (by omega)
  have f2 : (intBits up : Int) + sh ≤ 2 ^ 27 := by omega
  have hl9 : l < ns9.length := by omega
  have fv1 : l + 1 = r → ns9.set l.toNat x = splice ns9 l r (digs (2 ^ n.toNat) x (r - l).toNat) := fun e => by
    have e1 : (r - l).toNat = 1 := by omega
    rw [e1] at hxq ⊢
    rw [digs_one hx0 (by rwa [Int.pow_one] at hxq), splice_one hl0 hl9, e]
  have fv2 : splice (splice ns9 l mid (digs (2 ^ n.toNat) lo (mid - l).toNat)) mid r (digs (2 ^ n.toNat) up (r - mid).toNat) = splice ns9 l r (digs (2 ^ n.toNat) x (r - l).toNat) := by
    rw [splice_two hl0 (by omega) (by omega) (by omega) (digs_len _ _ _), hrm, digs_split hPn, hlo1, hup1]
  have fv3 : ∀ ds : List Int, l + 1 ≠ r → ds.length = (mid - l).toNat → (splice ns9 l mid ds).length = kk := fun ds e h => by
    rw [splice_len hl0 (by omega) (by omega) h, hlen9]
  exact ⟨mid, sh, up, lo, hmid0, hmid, hsh, hmn, hup, hlo, hup0, hlo0, hlob, hupb, f1, f2, hl9, fv1, fv2, fv3⟩

section
variable {w : World} {p : Program} {loose : List Str} {mean : ExcName → Option Value} {mg mb : Str → Option Value}
  {dp un : Nat} {gd : Option (List Code)} {cn : Str} {cs : Scope} {a : Addr} {ccd : Value} {cl : List (Str × Addr)} {outer : List Env} {A₀ : Around} {base h₀ : Heap} {L : Addr} {m : Str → Option Value} {news : List (Addr × Obj)} {s : Shared}
  {Q E : Value → Shared → Prop}

set_option maxRecDepth 100000 in
set_option maxHeartbeats 1600000 in
theorem t_i2d {tb : List (Addr × Obj)} {x n : Int} {tx tn : Tok} (B : Below A₀ base outer h₀) (F : Fr h₀ L s.heap m) (X : (hd.heap_39 w.params).In h₀) (N : News h₀ L s.heap (tb ++ news)) (T : Top p loose mean mg mb h₀) (hk : cs.kind = .function)
  (C : CodeHd base 34 30) (hoff : ∀ q ∈ news, q.1 ≠ 30) (htb : TabIs 30 (Str.ofString "_int2digits.<locals>.inner") 32 4 tb)
  (hx : 0 ≤ x) (h0 : 0 < n) (hn : n ≤ 40000) {kk : Nat} (hkk : ((intBits x : Int) + n - 1) / n = kk) (hk64 : kk ≤ 64) (hxb : intBits x ≤ 1000000)
  (hd : dp + 100 < recursionLimit) (hu : un + 800 < cLine)
  (hret : ∀ D vs ep tb' h' tk', Fr h₀ L h' m → News h₀ L h' ((D, listOf vs.toArray ep) :: (tb' ++ news)) → TabIs 30 (Str.ofString "_int2digits.<locals>.inner") 32 4 tb' → (∀ q ∈ tb' ++ news, q.1 ≠ D) → (∀ q ∈ news, q.1 < D) → IntsAre vs (digs (2 ^ n.toNat) x kk) → Q (.ref D) { s with heap := h', toks := tk' }) :
    wpAny (model PR w) (ktrTop dp un gd cn cs L a ccd cl outer) (call (.ref 35) [.int x tx, .int n tn]) Q E s := by
  k_with_none
  k_with "exec If" => k_extra "if"
  k_with "binaryOp FloorDiv int int" => k_extra "fdiv"
  k_with "binaryOp Mult ref int" => k_extra "rep"
  k_with "call builtin:len" => k_extra "len"
  k_with "call ref" => k_extra "call_rec"
  k_with "k_mem" => (refine List.mem_cons_of_mem _ ?_; ktr_member)
  k_with "setItem ref int" => k_extra "set"
  k_with "binaryOp Mult int int" => k_extra "mul"
  k_with "binaryOp LShift int int" => k_extra "shl"
  k_with "binaryOp RShift int int" => k_extra "shr"
  k_with "binaryOp BitXor int int" => k_extra "xor"
  k_with "ar" => (first | with_reducible exact ar35 (by assumption) | with_reducible exact ar632 (by assumption) (by assumption) | with_reducible exact ar214 (by assumption) (by assumption) | with_reducible exact ar8 | with_reducible exact ar609 (by assumption) | with_reducible exact ar15 (by assumption) | with_reducible exact ar496 (by assumption) | with_reducible exact ar39 (by assumption) | with_reducible exact ar404 | with_reducible exact ar264 (by assumption) | with_reducible exact ar303 (by assumption) | with_reducible exact ar406 (by assumption) | with_reducible exact ar463 | with_reducible exact ar376 | with_reducible exact ar543 (by assumption) | with_reducible exact ar372 | with_reducible exact ar152 (by assumption) | with_reducible exact ar415 (by assumption) | with_reducible exact ar81 (by assumption) | with_reducible exact ar689 (by assumption) | with_reducible exact ar314 (by assumption) | with_reducible exact ar489 (by assumption) (by assumption) | with_reducible exact ar420 (by assumption) | with_reducible exact ar428 (by assumption) | with_reducible exact ar375 (by assumption) | with_reducible exact ar131 | with_reducible exact ar0 | with_reducible exact ar64 (by assumption) | with_reducible exact ar358 | with_reducible exact ar436 (by assumption) (by assumption) | with_reducible exact ar524 (by assumption) | with_reducible exact ar59 (by assumption) | with_reducible exact ar49 (by assumption) | with_reducible exact ar302 (by assumption) | with_reducible exact ar271 (by assumption) | with_reducible exact ar414 (by assumption) | with_reducible exact ar268 (by assumption) (by assumption) (by assumption) | with_reducible exact ar260 | with_reducible exact ar83 (by assumption) (by assumption) | with_reducible exact ar170 (by assumption) (by assumption) (by assumption) | with_reducible exact ar80 (by assumption) (by assumption) (by assumption) | with_reducible exact ar58 (by assumption) (by assumption) (by assumption) | with_reducible exact ar590 (by assumption) (by assumption) (by assumption) | with_reducible exact ar97 (by assumption) (by assumption) (by assumption) | with_reducible exact ar291 (by assumption) (by assumption) | with_reducible exact ar492 (by assumption) (by assumption) (by assumption) (by assumption) | with_reducible exact ar119 (by assumption) (by assumption) (by assumption) (by assumption) | with_reducible exact ar55 (by assumption) (by assumption) | with_reducible exact ar298 (by assumption) (by assumption) (by assumption) | with_reducible exact ar502 (by assumption) (by assumption) (by assumption) | with_reducible exact ar36 (by assumption) | with_reducible exact ar173 | with_reducible exact ar642 (by assumption) | with_reducible exact ar408 (by assumption) | with_reducible exact ar448 (by assumption))
  have hkf : ((intBits x : Int) + n - 1).fdiv n = kk := by rw [Int.fdiv_eq_ediv_of_nonneg _ (by omega)]; exact hkk
  have hpy : Builtin.divisionGoesByPylong ((intBits x : Int) + n - 1) n = false := PyProof.noPylong_small (by omega)
  obtain ⟨kz, hkz⟩ : ∃ kz : Int, (kk : Int) = kz := ⟨_, rfl⟩
  have hkz64 : kz ≤ 64 := by omega
  have hpre : x ≠ 0 → 0 ≤ (0 : Int) ∧ 0 < kz ∧ kz ≤ kk ∧ 0 ≤ x ∧ x < (2 ^ n.toNat) ^ (kz - 0).toNat := fun e => ⟨by omega, hkz ▸ (i2d_kk h0 hx hkk).1 e, by omega, hx, hkz ▸ (i2d_kk h0 hx hkk).2⟩
  have hkz2 : (kz - 0).toNat = kk := by omega
  rcases htb with rfl | ⟨c', oc, vc, tc, rfl, hoc, hvc⟩
  all_goals (
    k_with_none
    k_with "exec If" => k_extra "if"
    k_with "binaryOp FloorDiv int int" => k_extra "fdiv"
    k_with "binaryOp Mult ref int" => k_extra "rep"
    k_with "call builtin:len" => k_extra "len"
    k_with "call ref" => k_extra "call_rec"
    k_with "k_mem" => (refine List.mem_cons_of_mem _ ?_; ktr_member)
    k_with "setItem ref int" => k_extra "set"
    k_with "binaryOp Mult int int" => k_extra "mul"
    k_with "binaryOp LShift int int" => k_extra "shl"
    k_with "binaryOp RShift int int" => k_extra "shr"
    k_with "binaryOp BitXor int int" => k_extra "xor"
    k_with "ar" => (first | with_reducible exact ar35 (by assumption) | with_reducible exact ar632 (by assumption) (by assumption) | with_reducible exact ar214 (by assumption) (by assumption) | with_reducible exact ar8 | with_reducible exact ar609 (by assumption) | with_reducible exact ar15 (by assumption) | with_reducible exact ar496 (by assumption) | with_reducible exact ar39 (by assumption) | with_reducible exact ar404 | with_reducible exact ar264 (by assumption) | with_reducible exact ar303 (by assumption) | with_reducible exact ar406 (by assumption) | with_reducible exact ar463 | with_reducible exact ar376 | with_reducible exact ar543 (by assumption) | with_reducible exact ar372 | with_reducible exact ar152 (by assumption) | with_reducible exact ar415 (by assumption) | with_reducible exact ar81 (by assumption) | with_reducible exact ar689 (by assumption) | with_reducible exact ar314 (by assumption) | with_reducible exact ar489 (by assumption) (by assumption) | with_reducible exact ar420 (by assumption) | with_reducible exact ar428 (by assumption) | with_reducible exact ar375 (by assumption) | with_reducible exact ar131 | with_reducible exact ar0 | with_reducible exact ar64 (by assumption) | with_reducible exact ar358 | with_reducible exact ar436 (by assumption) (by assumption) | with_reducible exact ar524 (by assumption) | with_reducible exact ar59 (by assumption) | with_reducible exact ar49 (by assumption) | with_reducible exact ar302 (by assumption) | with_reducible exact ar271 (by assumption) | with_reducible exact ar414 (by assumption) | with_reducible exact ar268 (by assumption) (by assumption) (by assumption) | with_reducible exact ar260 | with_reducible exact ar83 (by assumption) (by assumption) | with_reducible exact ar170 (by assumption) (by assumption) (by assumption) | with_reducible exact ar80 (by assumption) (by assumption) (by assumption) | with_reducible exact ar58 (by assumption) (by assumption) (by assumption) | with_reducible exact ar590 (by assumption) (by assumption) (by assumption) | with_reducible exact ar97 (by assumption) (by assumption) (by assumption) | with_reducible exact ar291 (by assumption) (by assumption) | with_reducible exact ar492 (by assumption) (by assumption) (by assumption) (by assumption) | with_reducible exact ar119 (by assumption) (by assumption) (by assumption) (by assumption) | with_reducible exact ar55 (by assumption) (by assumption) | with_reducible exact ar298 (by assumption) (by assumption) (by assumption) | with_reducible exact ar502 (by assumption) (by assumption) (by assumption) | with_reducible exact ar36 (by assumption) | with_reducible exact ar173 | with_reducible exact ar642 (by assumption) | with_reducible exact ar408 (by assumption) | with_reducible exact ar448 (by assumption))
    w_top off
    k_with "kall" => (first | exact hoff | exact fun p hp => Nat.ne_of_lt (Nat.lt_of_lt_of_le (hNews p hp) (by omega)))
    k_with "fdiv" => (refine floordiv_int (by omega) ?_ (Or.inl hpy); (try rw [hkf]))
    k_with "rep" => (refine mul_one (by k_asm) (by k_asm) (by is_list) (by omega) (by omega) ?_; intro D vs h' F' N' l1 i1; (have hDn : ∀ q ∈ news, q.1 < D := fun q hq => l1 q (by simp [hq])); (try k_lt l1); (try simp only [Int.toNat_natCast] at i1))
    (try simp only [List.cons_append, List.nil_append] at N)
    refine wpAny_call ?_
    k_dflt (refine' code_defC ?k1 ?k2 ?k3 ?k4 ?k5 ?kA ?kF ?kK ?k6 ?k7 ?k8 ?k9 ?kB ?kD ?_ ?c2 ?c3 ?c4; (case kA => exact rfl); (case kF => exact rfl); (case kK => assumption); (case k1 => k_asm); (case k2 => k_asm); (case k3 => k_asm); (case k4 => k_asm); (case k5 => k_asm); (case k6 => k_is); (case k7 => k_is); (case k8 => ktr_room); (case k9 => exact BindsTo.of_eq rfl); (case kB => exact rfl); (case kD => decide +kernel); (case c2 => exact rfl); (case c3 => exact rfl); (case c4 => exact rfl); k_whole; intro g' L' h' tk' cells' FG' F' N' Y' B' X' T' l1; (have hNews : ∀ p ∈ news, p.1 < L' := fun p hp => l1 p (by simp [hp])); (try k_lt l1); k_cells Y'; (try simp only [List.cons_append, List.nil_append] at N'); (try dsimp only); (try k_fold))
    k_with "if" => (refine Stop.mk ?_)
    k_steps
    k_with_none
    k_with "exec If" => k_extra "if"
    k_with "binaryOp FloorDiv int int" => k_extra "fdiv"
    k_with "binaryOp Mult ref int" => k_extra "rep"
    k_with "call builtin:len" => k_extra "len"
    k_with "call ref" => k_extra "call_rec"
    k_with "k_mem" => (refine List.mem_cons_of_mem _ ?_; ktr_member)
    k_with "setItem ref int" => k_extra "set"
    k_with "binaryOp Mult int int" => k_extra "mul"
    k_with "binaryOp LShift int int" => k_extra "shl"
    k_with "binaryOp RShift int int" => k_extra "shr"
    k_with "binaryOp BitXor int int" => k_extra "xor"
    k_with "ar" => (first | with_reducible exact ar35 (by assumption) | with_reducible exact ar632 (by assumption) (by assumption) | with_reducible exact ar214 (by assumption) (by assumption) | with_reducible exact ar8 | with_reducible exact ar609 (by assumption) | with_reducible exact ar15 (by assumption) | with_reducible exact ar496 (by assumption) | with_reducible exact ar39 (by assumption) | with_reducible exact ar404 | with_reducible exact ar264 (by assumption) | with_reducible exact ar303 (by assumption) | with_reducible exact ar406 (by assumption) | with_reducible exact ar463 | with_reducible exact ar376 | with_reducible exact ar543 (by assumption) | with_reducible exact ar372 | with_reducible exact ar152 (by assumption) | with_reducible exact ar415 (by assumption) | with_reducible exact ar81 (by assumption) | with_reducible exact ar689 (by assumption) | with_reducible exact ar314 (by assumption) | with_reducible exact ar489 (by assumption) (by assumption) | with_reducible exact ar420 (by assumption) | with_reducible exact ar428 (by assumption) | with_reducible exact ar375 (by assumption) | with_reducible exact ar131 | with_reducible exact ar0 | with_reducible exact ar64 (by assumption) | with_reducible exact ar358 | with_reducible exact ar436 (by assumption) (by assumption) | with_reducible exact ar524 (by assumption) | with_reducible exact ar59 (by assumption) | with_reducible exact ar49 (by assumption) | with_reducible exact ar302 (by assumption) | with_reducible exact ar271 (by assumption) | with_reducible exact ar414 (by assumption) | with_reducible exact ar268 (by assumption) (by assumption) (by assumption) | with_reducible exact ar260 | with_reducible exact ar83 (by assumption) (by assumption) | with_reducible exact ar170 (by assumption) (by assumption) (by assumption) | with_reducible exact ar80 (by assumption) (by assumption) (by assumption) | with_reducible exact ar58 (by assumption) (by assumption) (by assumption) | with_reducible exact ar590 (by assumption) (by assumption) (by assumption) | with_reducible exact ar97 (by assumption) (by assumption) (by assumption) | with_reducible exact ar291 (by assumption) (by assumption) | with_reducible exact ar492 (by assumption) (by assumption) (by assumption) (by assumption) | with_reducible exact ar119 (by assumption) (by assumption) (by assumption) (by assumption) | with_reducible exact ar55 (by assumption) (by assumption) | with_reducible exact ar298 (by assumption) (by assumption) (by assumption) | with_reducible exact ar502 (by assumption) (by assumption) (by assumption) | with_reducible exact ar36 (by assumption) | with_reducible exact ar173 | with_reducible exact ar642 (by assumption) | with_reducible exact ar408 (by assumption) | with_reducible exact ar448 (by assumption))
    refine Stop.of ?_
    (rename News _ _ _ _ => N8)
    have N9 := by first | exact (News.pull2 N8 : News _ _ _ ((D, _) :: _)) | exact (News.pull1 N8 : News _ _ _ ((D, _) :: _))
    have hDn9 := neh N9 (by
      repeat' (first | exact (fun q hq => Nat.ne_of_lt (hDn q hq)) | refine ne_cons (by first | exact Nat.ne_of_gt (by omega) | exact Nat.ne_of_lt (by omega)) ?_))
    clear N8
    have key := rec_indM (w := w) (p := p) (loose := loose) (mean := mean) (mg := mg) (mb := mb) (D := D) (ep := 0) (len := kk) (fun q hq => N9 q (.tail _ hq)) (by k_mem) (by k_mem) (by assumption) (by assumption) (σ := Int × Tok × Int × Tok × Int × Tok) (fun x => [.int x.1 x.2.1, .int x.2.2.1 x.2.2.2.1, .int x.2.2.2.2.1 x.2.2.2.2.2]) (fun x => [(Str.ofString "x", .int x.1 x.2.1), (Str.ofString "L", .int x.2.2.1 x.2.2.2.1), (Str.ofString "R", .int x.2.2.2.2.1 x.2.2.2.2.2)]) (fun x => (x.2.2.2.2.1 - x.2.2.1).toNat + 1)
      (fun x => 0 ≤ x.2.2.1 ∧ x.2.2.1 < x.2.2.2.2.1 ∧ x.2.2.2.2.1 ≤ kk ∧ 0 ≤ x.1 ∧ x.1 < (2 ^ n.toNat) ^ (x.2.2.2.2.1 - x.2.2.1).toNat) (fun x ns => splice ns x.2.2.1 x.2.2.2.2.1 (digs (2 ^ n.toNat) x.1 (x.2.2.2.2.1 - x.2.2.1).toNat)) (fun _ => rfl) (fun _ => locs rfl) rfl rfl rfl (by decide) (fun _ => Nat.succ_pos _) ?step
    case step =>
      clear hret hd hu B F X N T
      rintro ⟨x, tx, l, tl, r, tr⟩ ⟨hl0, hlr, hrl, hx0, hxq⟩ IH dp un gd cn cs a ccd cl outer base h₀ g h₁ L L' m news9 s tk Q E vs9 ns9 B F F' X N hi9 hlen9 hD9 T X0 T0 hneed hd hu hret
      dsimp only at hl0 hlr hrl hx0 hxq hd hu hret F'
      have hneed0 := hneed
      simp only [List.mem_cons, forall_eq_or_imp] at hneed
      obtain ⟨m1, m2, m3, m4, m5, m6, m7, mrest⟩ := hneed
      obtain ⟨mid, sh, up, lo, hmid0, hmid, hsh, hmn, hup, hlo, hup0, hlo0, hlob, hupb, f1, f2, hl9, fv1, fv2, fv3⟩ := i2d_math (ns9 := ns9) h0 hn hk64 hl0 hlr hrl hx0 hxq hlen9
      k_with_none
      k_with "exec If" => k_extra "if"
      k_with "binaryOp FloorDiv int int" => k_extra "fdiv"
      k_with "binaryOp Mult ref int" => k_extra "rep"
      k_with "call builtin:len" => k_extra "len"
      k_with "call ref" => k_extra "call_rec"
      k_with "k_mem" => (refine List.mem_cons_of_mem _ ?_; ktr_member)
      k_with "setItem ref int" => k_extra "set"
      k_with "binaryOp Mult int int" => k_extra "mul"
      k_with "binaryOp LShift int int" => k_extra "shl"
      k_with "binaryOp RShift int int" => k_extra "shr"
      k_with "binaryOp BitXor int int" => k_extra "xor"
      k_with "ar" => (first | with_reducible exact ar35 (by assumption) | with_reducible exact ar632 (by assumption) (by assumption) | with_reducible exact ar214 (by assumption) (by assumption) | with_reducible exact ar8 | with_reducible exact ar609 (by assumption) | with_reducible exact ar15 (by assumption) | with_reducible exact ar496 (by assumption) | with_reducible exact ar39 (by assumption) | with_reducible exact ar404 | with_reducible exact ar264 (by assumption) | with_reducible exact ar303 (by assumption) | with_reducible exact ar406 (by assumption) | with_reducible exact ar463 | with_reducible exact ar376 | with_reducible exact ar543 (by assumption) | with_reducible exact ar372 | with_reducible exact ar152 (by assumption) | with_reducible exact ar415 (by assumption) | with_reducible exact ar81 (by assumption) | with_reducible exact ar689 (by assumption) | with_reducible exact ar314 (by assumption) | with_reducible exact ar489 (by assumption) (by assumption) | with_reducible exact ar420 (by assumption) | with_reducible exact ar428 (by assumption) | with_reducible exact ar375 (by assumption) | with_reducible exact ar131 | with_reducible exact ar0 | with_reducible exact ar64 (by assumption) | with_reducible exact ar358 | with_reducible exact ar436 (by assumption) (by assumption) | with_reducible exact ar524 (by assumption) | with_reducible exact ar59 (by assumption) | with_reducible exact ar49 (by assumption) | with_reducible exact ar302 (by assumption) | with_reducible exact ar271 (by assumption) | with_reducible exact ar414 (by assumption) | with_reducible exact ar268 (by assumption) (by assumption) (by assumption) | with_reducible exact ar260 | with_reducible exact ar83 (by assumption) (by assumption) | with_reducible exact ar170 (by assumption) (by assumption) (by assumption) | with_reducible exact ar80 (by assumption) (by assumption) (by assumption) | with_reducible exact ar58 (by assumption) (by assumption) (by assumption) | with_reducible exact ar590 (by assumption) (by assumption) (by assumption) | with_reducible exact ar97 (by assumption) (by assumption) (by assumption) | with_reducible exact ar291 (by assumption) (by assumption) | with_reducible exact ar492 (by assumption) (by assumption) (by assumption) (by assumption) | with_reducible exact ar119 (by assumption) (by assumption) (by assumption) (by assumption) | with_reducible exact ar55 (by assumption) (by assumption) | with_reducible exact ar298 (by assumption) (by assumption) (by assumption) | with_reducible exact ar502 (by assumption) (by assumption) (by assumption) | with_reducible exact ar36 (by assumption) | with_reducible exact ar173 | with_reducible exact ar642 (by assumption) | with_reducible exact ar408 (by assumption) | with_reducible exact ar448 (by assumption))
      k_with "set" => (refine set_head (by k_asm) (by k_asm) hD9 hi9 hl0 hl9 (by omega) ?_; intro h' vs' F' N' i')
      k_with "mul" => (refine mul_int ?_ f1; (try rw [hsh]))
      k_with "shr" => (first | refine rshift_is (by omega) hmid0 ?_ | refine rshift_is (by omega) hup ?_)
      k_with "shl" => (refine lshift_int hmn f2 ?_)
      k_with "xor" => (refine xor_int ?_; (try rw [hlo]))
      k_with "call_rec" => ((first
        | (refine' IH (lo, _, _, _, _, _) ?c1 ?c2 ?B ?F ?X ?N hi9 hlen9 hD9 ?T ?hk hneed0 ?hd ?hu ?_)
        | (refine' IH (up, _, _, _, _, _) ?c1 ?c2 ?B ?F ?X ?N (by assumption) ?c3 hD9 ?T ?hk hneed0 ?hd ?hu ?_; (case c3 => exact fv3 _ (by omega) (digs_len _ _ _)))); (case B => k_asm); (case F => k_asm); (case X => k_asm); (case N => k_asm); (case T => k_asm); (case hk => exact rfl); (case c1 => (dsimp only; omega)); (case c2 => (dsimp only; first | exact ⟨by omega, by omega, by omega, hlo0, hlob⟩ | exact ⟨by omega, by omega, by omega, hup0, hupb⟩)); (case hd => (dsimp only; omega)); (case hu => (dsimp only; omega)); k_whole; intro r' vs' h' tk' F' N' i'; (try dsimp only at i'); (try dsimp only); (try k_fold))
      (try dsimp only)
      (with_reducible show wpAny _ _ _ _ _ _)
      k_fold
      k_steps
      · rename IntsAre _ (List.set _ _ _) => i'
        exact hret _ _ _ _ (by k_asm) (by k_asm) (fv1 (by assumption) ▸ i')
      · rename IntsAre _ (splice (splice _ _ _ _) _ _ _) => i'
        exact hret _ _ _ _ (by k_asm) (by k_asm) (fv2 ▸ i')
    obtain ⟨tb', hti, htm⟩ := tab_hit (news := news) (P := 30) (qual := Str.ofString "_int2digits.<locals>.inner") (line := 32) (col := 4) (fun q hq => N9 q (.tail _ hq)) (by first | exact (.tail _ (.tail _ (.tail _ (.tail _ (.tail _ (.tail _ (.head _))))))) | exact (.tail _ (.tail _ (.tail _ (.tail _ (.tail _ (.head _))))))) (by first | exact (.tail _ (.head _)) | exact (.tail _ (.tail _ (.tail _ (.tail _ (.tail _ (.tail _ (.head _)))))))) (by assumption) (by assumption) (fun q hq => .tail _ (.tail _ (.tail _ (.tail _ (.tail _ (.tail _ (.tail _ hq)))))))
    have hL9 := News.isList N9 (show (D, listOf vs.toArray 0) ∈ _ from .head _)
    have hszi : (vs.toArray.size : Int) = kz := by simp [i1.length, hkz]
    k_with "len" => (refine len_is hL9 hszi (by omega) ?_; (try dsimp only))
    k_with "call_rec" => (refine' key (_, _, _, _, _, _) ?c2 ?B ?F ?X ?N i1 (by simp) hDn9 ?T ?hk (fun q hq => hq) ?hd ?hu ?_; (case B => k_asm); (case F => k_asm); (case X => k_asm); (case N => k_asm); (case T => k_asm); (case hk => exact rfl); (case c2 => exact hpre (by assumption)); (case hd => (dsimp only; omega)); (case hu => (dsimp only; omega)); k_whole; intro r' vs' h' tk' F' N' i'; (try dsimp only at i'); (try dsimp only); (try k_fold))
    k_steps
    · rename IntsAre _ (splice _ _ _ _) => i'
      rw [splice_all (by simp; omega), hkz2] at i'
      exact hret _ _ _ tb' _ _ (by k_asm) (News.sub (by k_asm) (cons_sub htm)) hti (fun q hq => hDn9 q (htm q hq)) hDn i'
    · rename x = 0 => hx0
      subst hx0
      exact hret _ _ _ tb' _ _ (by k_asm) (News.sub (by k_asm) (cons_sub htm)) hti (fun q hq => hDn9 q (htm q hq)) hDn (digs_zero (2 ^ n.toNat) kk ▸ i1))
end
end Mine
namespace Mine
open PySem.Builtin.Int (intBits)

/-- the end of one turn -/
def MyEnd (h₀ : Heap) (L : Addr) {σ : Type} (ms : σ → Str → Option Value) (ns : σ → List (Addr × Obj)) (own : List (Addr × Obj)) (Inv : σ → Prop) (Q : Flow → Shared → Prop) (s : Shared) (f : Flow) (s₂ : Shared) : Prop :=
  match f with
  | .ret v => Q (.ret v) s₂
  | .brk => Q .next s₂
  | _ => ∃ h' tk' x', s₂ = { s with heap := h', toks := tk' } ∧ Fr h₀ L h' (ms x') ∧ News h₀ L h' (ns x' ++ own) ∧ Inv x'
theorem MyEnd.next {h₀ h' : Heap} {L : Addr} {σ : Type} {ms : σ → Str → Option Value} {ns : σ → List (Addr × Obj)} {own : List (Addr × Obj)} {Inv : σ → Prop} {Q : Flow → Shared → Prop} {s : Shared} {tk' : Nat} (x' : σ) (F : Fr h₀ L h' (ms x')) (N : News h₀ L h' (ns x' ++ own)) (i : Inv x') :
    MyEnd h₀ L ms ns own Inv Q s .next { s with heap := h', toks := tk' } := ⟨h', tk', x', rfl, F, N, i⟩

section
variable {prog : Program} {w : World} {A : Around} {E : Value → Shared → Prop} {s : Shared} {env : Env} {h₀ : Heap} {x : Str} {body : List Stmt} {Q : Flow → Shared → Prop}
theorem my_loop {I : Addr} {fp wr : List Addr} {n : Nat} {P : Nat → Value → Prop} {St : Nat → Heap → Prop} {σ : Type} (ms : σ → Str → Option Value) (ns : σ → List (Addr × Obj)) (Inv : Nat → σ → Prop) (x₀ : σ)
    (W : Walks prog w A I fp wr n P St) (hLf : env.locals ∉ fp) (hwr : ∀ b ∈ wr, h₀.get? b = none) (hst : St 0 s.heap) (F : Fr h₀ env.locals s.heap (ms x₀)) (N : News h₀ env.locals s.heap (ns x₀)) (hj : Inv 0 x₀) (hnw : ∀ i y, Inv i y → ∀ p ∈ ns y, p.1 ∉ wr)
    (turn : ∀ i v y h tk own, i < n → P i v → Inv i y → (∀ p ∈ own, p.1 ∈ fp) → Fr h₀ env.locals h (fun z => if z = x then some v else ms y z) → News h₀ env.locals h (ns y ++ own) →
      wpAny (model prog w) A (execs body env) (MyEnd h₀ env.locals ms ns own (Inv (i + 1)) Q s) E { s with heap := h, toks := tk })
    (done : ∀ y h tk, Inv n y → Fr h₀ env.locals h (ms y) → News h₀ env.locals h (ns y) → Q .next { s with heap := h, toks := tk }) :
    LoopAtV prog w A h₀ env x body Q E (.ref I) s := by
  let J : Nat → (Str → Option Value) → List (Addr × Obj) → Prop := fun i m₁ news₁ => ∃ y, m₁ = ms y ∧ news₁ = ns y ∧ Inv i y
  refine ⟨I, fp, wr, n, P, St, ms x₀, ns x₀, J, rfl, W, hLf, hwr, hnw 0 x₀ hj, hst, F, N, ⟨x₀, rfl, rfl, hj⟩, ?_, ?_⟩
  · rintro i v m₁ news₁ s₁ own ⟨hh', tk', rfl⟩ hin hP ⟨y, rfl, rfl, hy⟩ hoff hown _ _ _ F₁ N₁
    have N₂ : News h₀ env.locals hh' (ns y ++ own) := fun p hp => N₁ p ((List.mem_append.mp hp).elim (fun h => List.mem_append.mpr (.inr h)) fun h => List.mem_append.mpr (.inl h))
    refine wpAny_mono (turn i v y hh' tk' own hin hP hy hown F₁ N₂) (fun f s₂ p => ?_) fun _ _ e => e
    have fin : (∃ h' tk' x', s₂ = { s with heap := h', toks := tk' } ∧ Fr h₀ env.locals h' (ms x') ∧ News h₀ env.locals h' (ns x' ++ own) ∧ Inv (i + 1) x') → LoopStepU h₀ env.locals wr own (J (i + 1)) { s with heap := hh', toks := tk' } .next s₂ := by
      rintro ⟨h', tk, x', e, F', N', hi⟩
      exact ⟨rfl, h', tk, ms x', ns x', e, F', (fun p hp => N' p ((List.mem_append.mp hp).elim (fun h => List.mem_append.mpr (.inr h)) fun h => List.mem_append.mpr (.inl h))), hnw _ _ hi, x', rfl, rfl, hi⟩
    cases f with
    | ret v => exact .ret p
    | brk => exact .brk p
    | next => exact .next (fin p)
    | cont => exact .cont (fin p)
  · rintro h' tk m' news' F' N' _ ⟨y, rfl, rfl, hy⟩
    exact done y h' tk hy F' N'
end

section
variable {prog : Program} {w : World} {A : Around} {E : Value → Shared → Prop} {s : Shared} {h₀ : Heap} {L : Addr} {m : Str → Option Value} {news : List (Addr × Obj)}
theorem app_head {D : Addr} {vs : List Value} {ep : Nat} {x : Value} {Q : Value → Shared → Prop} (F : Fr h₀ L s.heap m) (N : News h₀ L s.heap ((D, listOf vs.toArray ep) :: news)) (hD : ∀ p ∈ news, p.1 ≠ D) (hz : vs.length ≤ 1000)
    (h : ∀ h', Fr h₀ L h' m → News h₀ L h' ((D, listOf (vs ++ [x]).toArray (ep + 1)) :: news) → Q .none { s with heap := h' }) : wpAny (model prog w) A (call (.builtin "list.append") [.ref D, x]) Q E s := by
  k_with_none
  k_with "ar" => (first | with_reducible exact ar622 (by assumption))
  refine append_K (its := vs.toArray) (n := ep) F N (.head hD) (fun h' F' N' => h h' F' ?_) ?_
  · have e : (vs ++ [x]).toArray = vs.toArray.push x := by simp
    rw [e]; exact N'
  · rw [sizeLine_eq]; simp; omega
end
end Mine
namespace Mine
open PySem.Builtin.Int (intBits)

theorem TabIs.has {P : Addr} {qual : Str} {line col : Int} {l : List (Addr × Obj)} (h : TabIs P qual line col l) : ∃ X, (P, tabObj X) ∈ l ∧ ∀ q t, X[1]? ≠ some (.str q t) := by
  rcases h with rfl | ⟨c', oc, vs, t, rfl, _⟩
  · exact ⟨_, .head _, by intro q t; simp⟩
  · exact ⟨_, .head _, by intro q t e; simp [rawInt] at e⟩
theorem TabIs.off {P P' : Addr} {qual : Str} {line col : Int} {h₀ h : Heap} {L : Addr} {l tb : List (Addr × Obj)} {X : Array Value} (hT : TabIs P qual line col tb) (N : News h₀ L h l) (hs : ∀ q ∈ tb, q ∈ l) (h' : (P', tabObj X) ∈ l) (hX : ∀ q t, X[1]? ≠ some (.str q t)) (hne : P ≠ P') : ∀ q ∈ tb, q.1 ≠ P' := by
  rcases hT with rfl | ⟨c', oc, vs, t, rfl, hd, hv⟩
  · intro q hq
    rw [List.mem_singleton.mp hq]
    exact hne
  · intro q hq
    rcases List.mem_cons.mp hq with rfl | hq
    · exact hne
    · rw [List.mem_singleton.mp hq]
      intro (e : c' = P')
      have h1 := (N _ (hs (c', oc) (.tail _ (.head _)))).1
      have h2 := (N _ h').1
      have h1 : h.get? c' = some oc := h1
      rw [e, h2] at h1
      have h3 : tabObj X = oc := Option.some.inj h1
      rw [← h3] at hd
      have h4 : X = vs := Data.fields.inj hd
      exact hX _ _ (h4 ▸ hv)
theorem bitlen_is {prog : Program} {w : World} {A : Around} {E : Value → Shared → Prop} {s : Shared} {Q : Value → Shared → Prop} {x n : Int} {t : Tok} (hn : (intBits x : Int) = n) (h : Q (.int n s.toks) { s with toks := s.toks + 1 }) : wpAny (model prog w) A (call (.builtin "int.bit_length") [.int x t]) Q E s := by
  subst hn
  exact call_int_bit_length h
abbrev Q30 : Str := Str.ofString "_int2digits.<locals>.inner"
abbrev Q37 : Str := Str.ofString "_digits2int.<locals>.inner"
theorem digs_get {q : Int} (hq : 0 < q) : ∀ (k j : Nat) (x : Int), j < k → (digs q x k)[j]? = some ((x / q ^ j) % q)
  | 0, _, _, h => absurd h (Nat.not_lt_zero _)
  | k + 1, 0, x, _ => by simp [digs]
  | k + 1, j + 1, x, h => by
    rw [digs, List.getElem?_cons_succ, digs_get hq k j _ (Nat.lt_of_succ_lt_succ h), Int.pow_succ, Int.mul_comm, Int.ediv_ediv_of_nonneg (by omega)]

structure DivInv (q x y : Int) (kk i : Nat) (r : Int) (nq : List Int) : Prop where
  len : nq.length = i
  r0 : 0 ≤ r
  r1 : r < y
  bd : ∀ d ∈ nq, 0 ≤ d ∧ d < q
  ev : evalD q nq.reverse * y + r = x / q ^ (kk - i)
theorem DivInv.zero {q x y : Int} {kk : Nat} (hx : 0 ≤ x) (hy : 0 < y) (h : x < q ^ kk) : DivInv q x y kk 0 0 [] :=
  ⟨rfl, Int.le_refl _, hy, (fun _ h => nomatch h), by rw [Nat.sub_zero, Int.ediv_eq_zero_of_lt hx h]; simp [evalD]⟩
theorem DivInv.step {q x y r d : Int} {kk i : Nat} {nq : List Int} (hq : 0 < q) (hy : 0 < y) (H : DivInv q x y kk i r nq) (hi : i < kk) (hd : d = (x / q ^ (kk - 1 - i)) % q) :
    0 ≤ r * q + d ∧ r * q + d < y * q ∧ DivInv q x y kk (i + 1) ((r * q + d) % y) (nq ++ [(r * q + d) / y]) := by
  k_with_none
  k_with "call ref" => ((with_reducible show wpAny _ _ (call (Value.ref 21) _ _) _ _ _); k_extra "call_21")
  k_with "call ref" => ((with_reducible show wpAny _ _ (call (Value.ref 35) _ _) _ _ _); k_extra "call_35")
  k_with "call ref" => ((with_reducible show wpAny _ _ (call (Value.ref 42) _ _) _ _ _); k_extra "call_42")
  k_with "call builtin:int.bit_length" => k_extra "bl"
  k_with "last pyIter ref" => k_extra "iter"
  k_with "call builtin:list.append" => k_extra "app"
  k_with "call builtin:list.reverse" => k_extra "rev"
  k_with "binaryOp LShift int int" => k_extra "shl"
  k_with "ar" => (first | with_reducible exact ar39 (by assumption) | with_reducible exact ar35 (by assumption) | with_reducible exact ar672 (by assumption) | with_reducible exact ar556 (by assumption) (by assumption) | with_reducible exact ar228 (by assumption) (by assumption) | with_reducible exact ar385 (by assumption) | with_reducible exact ar561)
  have d0 : 0 ≤ d := hd ▸ Int.emod_nonneg _ (by omega)
  have d1 : d < q := hd ▸ Int.emod_lt_of_pos _ hq
  have a1 : 0 ≤ r * q := Int.mul_nonneg H.r0 (by omega)
  have a2 : (r + 1) * q ≤ y * q := Int.mul_le_mul_of_nonneg_right (by have := H.r1; omega) (by omega)
  rw [Int.add_mul, Int.one_mul] at a2
  have hz0 : 0 ≤ r * q + d := by omega
  have hz1 : r * q + d < y * q := by omega
  refine ⟨hz0, hz1, ?_, Int.emod_nonneg _ (by omega), Int.emod_lt_of_pos _ hy, ?_, ?_⟩
  · simp [H.len]
  · intro e he
    rcases List.mem_append.mp he with he | he
    · exact H.bd e he
    · rw [List.mem_singleton.mp he]
      exact ⟨Int.ediv_nonneg hz0 (by omega), (Int.ediv_lt_iff_lt_mul hy).mpr (by rw [Int.mul_comm q y]; exact hz1)⟩
  · have e1 : kk - i = (kk - 1 - i) + 1 := by omega
    have e2 : kk - (i + 1) = kk - 1 - i := by omega
    have h1 := H.ev
    rw [e1, Int.pow_succ, ← Int.ediv_ediv_of_nonneg (Int.le_of_lt (Int.pow_pos hq))] at h1
    have h2 := Int.mul_ediv_add_emod (x / q ^ (kk - 1 - i)) q
    have h3 := Int.mul_ediv_add_emod (r * q + d) y
    rw [e2, List.reverse_append, List.reverse_cons, List.reverse_nil, List.nil_append, List.cons_append, List.nil_append, evalD, ← h2, ← hd, ← h1]
    generalize evalD q nq.reverse = V at *
    generalize (r * q + d) / y = U at *
    generalize (r * q + d) % y = W at *
    grind
theorem DivInv.fin {q x y r : Int} {kk : Nat} {nq : List Int} (hy : 0 < y) (H : DivInv q x y kk kk r nq) : evalD q nq.reverse = x / y ∧ r = x % y := by
  have h := H.ev
  rw [Nat.sub_self, Int.pow_zero, Int.ediv_one] at h
  exact divmod_of h H.r0 H.r1
structure DS where
  r : Int
  tr : Tok
  vq : List Value
  nq : List Int
  ep : Nat
  oa : Option Value
  oq : Option Value
noncomputable def msD (m₀ : Str → Option Value) (x : DS) : Str → Option Value := fun z => if z = Str.ofString "a_digit" then x.oa else if z = Str.ofString "q_digit" then x.oq else if z = Str.ofString "r" then some (.int x.r x.tr) else m₀ z
theorem msD_at {h₀ h : Heap} {L : Addr} {m m₀ : Str → Option Value} {x : DS} (F : Fr h₀ L h m) (h1 : m (Str.ofString "a_digit") = x.oa) (h2 : m (Str.ofString "q_digit") = x.oq) (h3 : m (Str.ofString "r") = some (.int x.r x.tr))
    (h4 : ∀ z, z ≠ Str.ofString "a_digit" → z ≠ Str.ofString "q_digit" → z ≠ Str.ofString "r" → m z = m₀ z) : Fr h₀ L h (msD m₀ x) := by
  have e : m = msD m₀ x := by
    funext z
    unfold msD
    split
    · rename_i e; rw [e, h1]
    · split
      · rename_i e; rw [e, h2]
      · split
        · rename_i e; rw [e, h3]
        · exact h4 z (by assumption) (by assumption) (by assumption)
  exact e ▸ F
theorem msD_init {h₀ h : Heap} {L : Addr} {m : Str → Option Value} {r : Int} {tr : Tok} (F : Fr h₀ L h m) (h3 : m (Str.ofString "r") = some (.int r tr)) : Fr h₀ L h (msD m ⟨r, tr, [], [], 0, m (Str.ofString "a_digit"), m (Str.ofString "q_digit")⟩) :=
  msD_at F rfl rfl h3 fun _ _ _ _ => rfl
noncomputable def nsD (qd : Addr) (rest : List (Addr × Obj)) (x : DS) : List (Addr × Obj) := (qd, listOf x.vq.toArray x.ep) :: rest
theorem nsD_cons {h₀ h : Heap} {L qd : Addr} {e : Addr × Obj} {r1 own r9 : List (Addr × Obj)} {r : Int} {tr : Tok} {vq : List Value} {nq : List Int} {ep : Nat} {oa oq : Option Value} (N : News h₀ L h (nsD qd (e :: r1) ⟨r, tr, vq, nq, ep, oa, oq⟩ ++ own)) (h9 : e :: r1 ++ own = r9) : News h₀ L h ((qd, listOf vq.toArray ep) :: r9) := by
  rw [← h9]; exact N
theorem nsD_back {h₀ h : Heap} {L qd : Addr} {t e : Addr × Obj} {r1 own r9 : List (Addr × Obj)} {r : Int} {tr : Tok} {vq : List Value} {nq : List Int} {ep : Nat} {oa oq : Option Value} {v : Value} (N : News h₀ L h (t :: (qd, listOf (vq.toArray.push v) ep) :: r9)) (h9 : e :: r1 ++ own = r9) : News h₀ L h (nsD qd (e :: r1) ⟨r, tr, vq ++ [v], nq, ep, oa, oq⟩ ++ own) := by
  have e1 : (vq ++ [v]).toArray = vq.toArray.push v := by simp
  intro q hq
  refine N q (.tail _ ?_)
  rw [← h9, ← e1]
  exact hq
theorem fin_sub {h₀ h : Heap} {L D' : Addr} {e : Addr × Obj} {r2 tb1 tb2 news : List (Addr × Obj)} {a r b : Int} {t tr : Tok} (N : News h₀ L h ((D', tupO a t r tr) :: r2)) (hr : r = b) (hs : tb2 ++ (e :: (tb1 ++ news)) = r2) : News h₀ L h ((D', tupO a t b tr) :: (tb1 ++ (tb2 ++ news))) := by
  subst hr hs
  intro q hq
  refine N q ?_
  simp only [List.mem_cons, List.mem_append] at hq ⊢
  rcases hq with h | h | h | h
  · exact .inl h
  · exact .inr (.inr (.inr (.inl h)))
  · exact .inr (.inl h)
  · exact .inr (.inr (.inr (.inr h)))
theorem int_at {vs : List Value} {ns : List Int} {v : Value} {i j : Nat} {d : Int} (hi : IntsAre vs ns) (hv : vs.toArray[vs.toArray.size - 1 - i]? = some v) (hj : vs.length - 1 - i = j) (hd : ns[j]? = some d) : ∃ t, v = .int d t := by
  have hv' : vs[j]? = some v := by rw [← hj]; simpa using hv
  obtain ⟨t, ht⟩ := hi.get _ _ hd
  exact ⟨t, Option.some.inj (hv'.symm.trans ht)⟩
section
variable {w : World} {p : Program} {loose : List Str} {mean : ExcName → Option Value} {mg mb : Str → Option Value}
  {dp un : Nat} {gd : Option (List Code)} {cn : Str} {cs : Scope} {a : Addr} {ccd : Value} {cl : List (Str × Addr)} {outer : List Env} {A₀ : Around} {base h₀ : Heap} {L : Addr} {m : Str → Option Value} {news : List (Addr × Obj)} {s : Shared}
  {Q E : Value → Shared → Prop}

set_option maxRecDepth 100000 in
set_option maxHeartbeats 1600000 in
theorem t_divmod {tb1 tb2 : List (Addr × Obj)} {x y : Int} {tx ty : Tok} (B : Below A₀ base outer h₀) (F : Fr h₀ L s.heap m) (X : (hd.heap_39 w.params).In h₀) (N : News h₀ L s.heap (tb1 ++ (tb2 ++ news))) (T : Top p loose mean mg mb h₀) (hk : cs.kind = .function)
  (C1 : CodeHd base 34 30) (C2 : CodeHd base 41 37) (hoff : ∀ q ∈ news, q.1 ≠ 30 ∧ q.1 ≠ 37) (ht1 : TabIs 30 Q30 32 4 tb1) (ht2 : TabIs 37 Q37 47 4 tb2)
  (hx : 0 ≤ x) (hy : 0 < y) (hyb : intBits y ≤ 16000) (hxb : intBits x ≤ 60 * intBits y)
  (hd : dp + 200 < recursionLimit) (hu : un + 1600 < cLine)
  (hret : ∀ t tq tr tb1' tb2' h' tk', Fr h₀ L h' m → News h₀ L h' ((t, tupO (x / y) tq (x % y) tr) :: (tb1' ++ (tb2' ++ news))) → TabIs 30 Q30 32 4 tb1' → TabIs 37 Q37 47 4 tb2' → (∀ q ∈ news, q.1 < t) → Q (.ref t) { s with heap := h', toks := tk' }) :
    wpAny (model PR w) (ktrTop dp un gd cn cs L a ccd cl outer) (call (.ref 49) [.int x tx, .int y ty]) Q E s := by
  k_with_none
  k_with "call ref" => ((with_reducible show wpAny _ _ (call (Value.ref 21) _ _) _ _ _); k_extra "call_21")
  k_with "call ref" => ((with_reducible show wpAny _ _ (call (Value.ref 35) _ _) _ _ _); k_extra "call_35")
  k_with "call ref" => ((with_reducible show wpAny _ _ (call (Value.ref 42) _ _) _ _ _); k_extra "call_42")
  k_with "call builtin:int.bit_length" => k_extra "bl"
  k_with "last pyIter ref" => k_extra "iter"
  k_with "call builtin:list.append" => k_extra "app"
  k_with "call builtin:list.reverse" => k_extra "rev"
  k_with "binaryOp LShift int int" => k_extra "shl"
  k_with "ar" => (first | with_reducible exact ar604 (by assumption) (by assumption) | with_reducible exact ar615 (by assumption) | with_reducible exact ar35 (by assumption) | with_reducible exact ar596 (by assumption) | with_reducible exact ar504 (by assumption) (by assumption) | with_reducible exact ar20 (by assumption) | with_reducible exact ar54 (by assumption) (by assumption) | with_reducible exact ar85 (by assumption) (by assumption) | with_reducible exact ar324 (by assumption) | with_reducible exact ar386 (by assumption) | with_reducible exact ar217 | with_reducible exact ar392 (by assumption) | with_reducible exact ar276 (by assumption) (by assumption) | with_reducible exact ar378 (by assumption) (by assumption) (by assumption) | with_reducible exact ar570 (by assumption) (by assumption) | with_reducible exact ar602 (by assumption) | with_reducible exact ar195 (by assumption) | with_reducible exact ar350 (by assumption) | with_reducible exact ar6 (by assumption) (by assumption) (by assumption) | with_reducible exact ar327 (by assumption) (by assumption) (by assumption) | with_reducible exact ar470 (by assumption) (by assumption) | with_reducible exact ar107 (by assumption) | with_reducible exact ar34)
  obtain ⟨n, hn⟩ : ∃ n : Int, (intBits y : Int) = n := ⟨_, rfl⟩
  have hn0 : 0 < n := by have := bits_pos hy; omega
  obtain ⟨kk, hkk⟩ : ∃ kk : Nat, ((intBits x : Int) + n - 1) / n = kk := ⟨(((intBits x : Int) + n - 1) / n).toNat, by
    have := Int.ediv_nonneg (a := (intBits x : Int) + n - 1) (b := n) (by omega) (by omega); omega⟩
  have hk64 : kk ≤ 64 := by
    have h1 : ((intBits x : Int) + n - 1) / n < 61 + 1 := (Int.ediv_lt_iff_lt_mul hn0).mpr (by omega)
    omega
  obtain ⟨r0, hr0⟩ : ∃ r0, r0 = tb1 ++ (tb2 ++ news) := ⟨_, rfl⟩
  have hoff1 : ∀ q ∈ tb2 ++ news, q.1 ≠ 30 := fun q hq => by
    obtain ⟨X1, h1, h1'⟩ := ht1.has
    rcases List.mem_append.mp hq with hq | hq
    · exact ht2.off N (fun q hq => List.mem_append.mpr (.inr (List.mem_append.mpr (.inl hq)))) (List.mem_append.mpr (.inl h1)) h1' (by decide) q hq
    · exact (hoff q hq).1
  rw [← hr0] at N
  k_with_none
  k_with "call ref" => ((with_reducible show wpAny _ _ (call (Value.ref 21) _ _) _ _ _); k_extra "call_21")
  k_with "call ref" => ((with_reducible show wpAny _ _ (call (Value.ref 35) _ _) _ _ _); k_extra "call_35")
  k_with "call ref" => ((with_reducible show wpAny _ _ (call (Value.ref 42) _ _) _ _ _); k_extra "call_42")
  k_with "call builtin:int.bit_length" => k_extra "bl"
  k_with "last pyIter ref" => k_extra "iter"
  k_with "call builtin:list.append" => k_extra "app"
  k_with "call builtin:list.reverse" => k_extra "rev"
  k_with "binaryOp LShift int int" => k_extra "shl"
  k_with "ar" => (first | with_reducible exact ar604 (by assumption) (by assumption) | with_reducible exact ar615 (by assumption) | with_reducible exact ar35 (by assumption) | with_reducible exact ar596 (by assumption) | with_reducible exact ar504 (by assumption) (by assumption) | with_reducible exact ar20 (by assumption) | with_reducible exact ar54 (by assumption) (by assumption) | with_reducible exact ar85 (by assumption) (by assumption) | with_reducible exact ar324 (by assumption) | with_reducible exact ar386 (by assumption) | with_reducible exact ar217 | with_reducible exact ar392 (by assumption) | with_reducible exact ar276 (by assumption) (by assumption) | with_reducible exact ar378 (by assumption) (by assumption) (by assumption) | with_reducible exact ar570 (by assumption) (by assumption) | with_reducible exact ar602 (by assumption) | with_reducible exact ar195 (by assumption) | with_reducible exact ar350 (by assumption) | with_reducible exact ar6 (by assumption) (by assumption) (by assumption) | with_reducible exact ar327 (by assumption) (by assumption) (by assumption) | with_reducible exact ar470 (by assumption) (by assumption) | with_reducible exact ar107 (by assumption) | with_reducible exact ar34)
  w_top off
  k_with "bl" => (refine bitlen_is hn ?_)
  k_with "call_35" => (refine' t_i2d (tb := tb1) (news := tb2 ++ news) ?B ?F ?X ?N ?T ?hk C1 hoff1 ht1 hx ?c1 ?c2 hkk hk64 ?c3 ?hd ?hu ?_; (case B => k_asm); (case F => k_asm); (case X => k_asm); (case N => (rw [← hr0]; k_asm)); (case T => k_asm); (case hk => exact rfl); (case c1 => omega); (case c2 => omega); (case c3 => omega); (case hd => ktr_room); (case hu => ktr_units); k_whole; intro D vs ep tb1' h' tk' F' N' ht1' hD1 hD2 i1; obtain ⟨r1, hr1⟩ : ∃ r1, r1 = tb1' ++ (tb2 ++ news) := ⟨_, rfl⟩; rw [← hr1] at N'; (have l1 : ∀ q ∈ r1, q.1 ≠ D := hr1 ▸ hD1); (try dsimp only); (try k_fold))
  k_with "iter" => (refine Stop.mk ?_)
  refine wpAny_call ?_
  k_dflt ktr_enter
  k_steps
  refine Stop.of ?_
  k_with_none
  k_with "call ref" => ((with_reducible show wpAny _ _ (call (Value.ref 21) _ _) _ _ _); k_extra "call_21")
  k_with "call ref" => ((with_reducible show wpAny _ _ (call (Value.ref 35) _ _) _ _ _); k_extra "call_35")
  k_with "call ref" => ((with_reducible show wpAny _ _ (call (Value.ref 42) _ _) _ _ _); k_extra "call_42")
  k_with "call builtin:int.bit_length" => k_extra "bl"
  k_with "last pyIter ref" => k_extra "iter"
  k_with "call builtin:list.append" => k_extra "app"
  k_with "call builtin:list.reverse" => k_extra "rev"
  k_with "binaryOp LShift int int" => k_extra "shl"
  k_with "ar" => (first | with_reducible exact ar604 (by assumption) (by assumption) | with_reducible exact ar615 (by assumption) | with_reducible exact ar35 (by assumption) | with_reducible exact ar596 (by assumption) | with_reducible exact ar504 (by assumption) (by assumption) | with_reducible exact ar20 (by assumption) | with_reducible exact ar54 (by assumption) (by assumption) | with_reducible exact ar85 (by assumption) (by assumption) | with_reducible exact ar324 (by assumption) | with_reducible exact ar386 (by assumption) | with_reducible exact ar217 | with_reducible exact ar392 (by assumption) | with_reducible exact ar276 (by assumption) (by assumption) | with_reducible exact ar378 (by assumption) (by assumption) (by assumption) | with_reducible exact ar570 (by assumption) (by assumption) | with_reducible exact ar602 (by assumption) | with_reducible exact ar195 (by assumption) | with_reducible exact ar350 (by assumption) | with_reducible exact ar6 (by assumption) (by assumption) (by assumption) | with_reducible exact ar327 (by assumption) (by assumption) (by assumption) | with_reducible exact ar470 (by assumption) (by assumption) | with_reducible exact ar107 (by assumption) | with_reducible exact ar34)
  (rename News _ _ _ _ => N8)
  (rename Fr _ _ s.heap _ => F7)
  (rename Fr _ _ _ _ => F8)
  (rename_i qd _ lqd _ I h8 lI)
  have hq : (0 : Int) < 2 ^ n.toNat := two_pos n.toNat
  have hvl : vs.length = kk := by rw [i1.length, digs_len]
  have hqr : ∀ q ∈ r1, q.1 < qd := ktn_ltOf lqd.2
  have hIr : ∀ q ∈ r1, q.1 < I := ktn_ltOf lI.2.2
  have hxk : x < (2 ^ n.toNat) ^ kk := by
    have := (i2d_kk hn0 hx hkk).2
    have e : ((kk : Int) - 0).toNat = kk := by omega
    rwa [e] at this
  refine wpAny_pyIter_revIter (it := I) ⟨_, (N8 _ (.head _)).1, rfl, rfl⟩ ?_
  refine my_loop (I := I) (ms := msD _) (ns := nsD qd ((D, listOf vs.toArray ep) :: r1)) (Inv := fun i z => IntsAre z.vq z.nq ∧ DivInv (2 ^ n.toNat) x y kk i z.r z.nq) _ (Walks.listRev rfl I D (Nat.ne_of_lt lI.2.1) vs.toArray) ?lf ?wr ?st (msD_init F8 rfl) (fun q hq => N8 q (.tail _ hq)) ⟨.nil, DivInv.zero hx hy hxk⟩ ?nw ?turn ?done
  case lf =>
    intro hm
    rcases List.mem_cons.mp hm with e | hm
    · exact (N8 _ (.head _)).2.1 e.symm
    · exact (N8 _ (.tail _ (.tail _ (.head _)))).2.1 (List.mem_singleton.mp hm).symm
  case wr =>
    intro b hb
    rw [List.mem_singleton.mp hb]
    exact (N8 _ (.head _)).2.2
  case st =>
    refine ⟨Nat.zero_le _, ⟨_, (N8 _ (.head _)).1, rfl, ?_⟩, News.isList N8 (.tail _ (.tail _ (.head _)))⟩
    simp [revObj]
  case nw =>
    intro i z _ q hq hI
    have e := List.mem_singleton.mp hI
    rcases List.mem_cons.mp hq with rfl | hq
    · exact Nat.ne_of_lt lI.1 e
    · rcases List.mem_cons.mp hq with rfl | hq
      · exact Nat.ne_of_lt lI.2.1 e
      · exact Nat.ne_of_lt (hIr q hq) e
  case turn =>
    rintro i v z h9 tk9 own hin hP ⟨hzi, hzd⟩ hown F9 N9
    have hik : i < kk := by rw [← hvl]; simpa using hin
    obtain ⟨td, rfl⟩ := int_at i1 hP (by rw [hvl]) (digs_get hq kk (kk - 1 - i) x (by omega))
    obtain ⟨d, hd9⟩ : ∃ d, x / (2 ^ n.toNat) ^ (kk - 1 - i) % 2 ^ n.toNat = d := ⟨_, rfl⟩
    rw [hd9] at F9
    rcases z with ⟨r, tr, vq, nq, eq, oa, oq⟩
    dsimp only at hzi hzd
    obtain ⟨hz0, hz1, hzs⟩ := hzd.step hq hy hik hd9.symm
    have hvq : vq.length = i := by rw [hzi.length, hzd.len]
    have hrb : (intBits r : Int) + n ≤ 2 ^ 27 := by
      have := intBits_le_of_natAbs (x := r) (y := y) (by have := hzd.r0; have := hzd.r1; omega) hyb
      omega
    obtain ⟨r9, hr9⟩ : ∃ r9, (D, listOf vs.toArray ep) :: r1 ++ own = r9 := ⟨_, rfl⟩
    have N10 := nsD_cons N9 hr9
    have hoff9 : ∀ q ∈ r9, q.1 ≠ qd := by
      rw [← hr9]
      intro q hq e
      rcases List.mem_cons.mp hq with rfl | hq
      · exact Nat.ne_of_lt lqd.1 e
      · rcases List.mem_append.mp hq with hq | hq
        · exact Nat.ne_of_lt (hqr q hq) e
        · rcases List.mem_cons.mp (hown q hq) with h | h
          · exact Nat.ne_of_lt lI.1 (e.symm.trans h)
          · exact Nat.ne_of_lt lqd.1 ((List.mem_singleton.mp h).symm.trans e)
    clear N9 N8 F8 hret
    k_with "kall" => (first | exact hoff9)
    k_with "shl" => (refine lshift_int (by omega) hrb ?_)
    k_with "call_21" => (refine' div2_2 ?B ?F ?X ?N ?T ?hk hy hn hz0 hz1 ?c5 ?c6 ?c7 ?_; (case B => k_asm); (case F => k_asm); (case X => k_asm); (case N => k_asm); (case T => k_asm); (case hk => exact rfl); (case c5 => omega); (case c6 => (ktr_room)); (case c7 => ktr_units); k_whole; intro t' tq' tr' h' tk' F' N' l'; (try k_lt l'); (try dsimp only); (try k_fold))
    k_with "app" => (refine append_K (its := vq.toArray) (n := eq) (by k_asm) (by k_asm) (by k_upd) ?_ (by rw [sizeLine_eq]; simp; omega); intro h' F' N'; (try dsimp only at N'))
    k_steps
    exact MyEnd.next ⟨_, tr', vq ++ [.int _ tq'], nq ++ [_], eq + 1, _, _⟩ (msD_at (by k_asm) rfl rfl rfl (fun z a b c => by simp [msD, a, b, c])) (nsD_back (by k_asm) hr9) ⟨hzi.append (.cons _ _ .nil), hzs⟩
  case done =>
    rintro ⟨r, tr, vq, nq, eq, oa, oq⟩ h9 tk9 ⟨hzi, hzd⟩ F9 N9
    dsimp only at hzi hzd
    have hsz : vs.toArray.size = kk := by simp [hvl]
    rw [hsz] at hzd
    obtain ⟨hfq, hfr⟩ := hzd.fin hy
    have hvq : vq.length = kk := by rw [hzi.length, hzd.len]
    obtain ⟨r9, hr9⟩ : ∃ r9, (D, listOf vs.toArray ep) :: r1 ++ [] = r9 := ⟨_, rfl⟩
    have N10 := nsD_cons (own := []) (by rw [List.append_nil]; exact N9) hr9
    have hoff9 : ∀ q ∈ r9, q.1 ≠ qd := by
      rw [← hr9, List.append_nil]
      intro q hq e
      rcases List.mem_cons.mp hq with rfl | hq
      · exact Nat.ne_of_lt lqd.1 e
      · exact Nat.ne_of_lt (hqr q hq) e
    obtain ⟨X2, hX2, hX2'⟩ := ht2.has
    have hm2 : ∀ q ∈ tb2, q ∈ r1 := fun q hq => by rw [hr1]; exact List.mem_append.mpr (.inr (List.mem_append.mpr (.inl hq)))
    have hm1 : ∀ q ∈ tb1', q ∈ r1 := fun q hq => by rw [hr1]; exact List.mem_append.mpr (.inl hq)
    have hmn : ∀ q ∈ news, q ∈ r1 := fun q hq => by rw [hr1]; exact List.mem_append.mpr (.inr (List.mem_append.mpr (.inr hq)))
    have hm9 : ∀ q ∈ r1, q ∈ r9 := fun q hq => by rw [← hr9, List.append_nil]; exact .tail _ hq
    have hoff37 : ∀ q ∈ (qd, listOf vq.reverse.toArray eq) :: (tb1' ++ news), q.1 ≠ 37 := by
      intro q hq
      rcases List.mem_cons.mp hq with rfl | hq
      · exact Nat.ne_of_gt (hqr _ (hm2 _ hX2))
      · rcases List.mem_append.mp hq with hq | hq
        · exact ht1'.off N10 (fun q hq => .tail _ (hm9 q (hm1 q hq))) (.tail _ (hm9 _ (hm2 _ hX2))) hX2' (by decide) q hq
        · exact (hoff q hq).2
    have hds : ∀ x ∈ nq.reverse, 0 ≤ x ∧ intBits x ≤ 40000 := fun d hd => by
      have h1 := hzd.bd d (List.mem_reverse.mp hd)
      have h2 := bits_of_lt h1.2 h1.1
      exact ⟨h1.1, by omega⟩
    have hsub : ∀ q ∈ tb2 ++ ((qd, listOf vq.reverse.toArray eq) :: (tb1' ++ news)), q ∈ (qd, listOf vq.reverse.toArray eq) :: r9 := by
      intro q hq
      rcases List.mem_append.mp hq with hq | hq
      · exact .tail _ (hm9 q (hm2 q hq))
      · rcases List.mem_cons.mp hq with rfl | hq
        · exact .head _
        · rcases List.mem_append.mp hq with hq | hq
          · exact .tail _ (hm9 q (hm1 q hq))
          · exact .tail _ (hm9 q (hmn q hq))
    clear N9 N8 F8
    k_with "kall" => (first | exact hoff9)
    k_with "rev" => (refine kl_reverse (its := vq.toArray) (n := eq) (l := vq.reverse) (by k_asm) (by k_asm) (by simp) (by k_upd) (by rw [sizeLine_eq]; simp; omega) ?_; intro h' F' N'; (try dsimp only at N'))
    k_with "call_42" => (refine' t_d2i (tb := tb2) (news := (qd, listOf vq.reverse.toArray eq) :: (tb1' ++ news)) (vs := vq.reverse) (ns := nq.reverse) (ep := eq) ?B ?F ?X ?N ?T ?hk C2 hoff37 ht2 (List.mem_cons_self ..) hzi.reverse ?c1 ?c2 ?c3 hds ?hd ?hu ?_; (case B => k_asm); (case F => k_asm); (case X => k_asm); (case N => exact News.sub (by k_asm) hsub); (case T => k_asm); (case hk => exact rfl); (case c1 => (rw [List.length_reverse, hzd.len]; exact hk64)); (case c2 => omega); (case c3 => omega); (case hd => ktr_room); (case hu => ktr_units); k_whole; intro t' tb2' h' tk' F' N' ht2'; rw [hfq]; obtain ⟨r2, hr2⟩ : ∃ r2, tb2' ++ ((qd, listOf vq.reverse.toArray eq) :: (tb1' ++ news)) = r2 := ⟨_, rfl⟩; rw [hr2] at N'; (try dsimp only); (try k_fold))
    k_steps
    (rename _ = r2 => hr2)
    (rename TabIs 37 _ _ _ _ => ht2')
    (rename ∀ p ∈ r2, _ => l9)
    exact hret _ _ _ tb1' _ _ _ (by k_asm) (fin_sub (by k_asm) hfr hr2) ht1' ht2' (fun q hq => l9 q (by rw [← hr2]; simp [hq]))
end
end Mine
namespace Mine
open PySem.Builtin.Int (intBits)

abbrev rangeO (a b : Int) (t u v : Tok) : Obj := { cls := .type "range", dict := none, data := .fields #[.int a t, .int b u, .int 1 v], slots := #[] }
noncomputable def rangeL (a : Int) : Nat → List Int
  | 0 => []
  | n + 1 => a :: rangeL (a + 1) n
theorem rangeL_len : ∀ (n : Nat) (a : Int), (rangeL a n).length = n
  | 0, _ => rfl
  | n + 1, a => by rw [rangeL, List.length_cons, rangeL_len n]
theorem rangeL_get : ∀ (n i : Nat) (a : Int), i < n → (rangeL a n)[i]? = some (a + i)
  | 0, _, _, h => absurd h (Nat.not_lt_zero _)
  | n + 1, 0, a, _ => by simp [rangeL]
  | n + 1, i + 1, a, h => by
    rw [rangeL, List.getElem?_cons_succ, rangeL_get n i (a + 1) (Nat.lt_of_succ_lt_succ h)]
    congr 1
    push_cast
    omega

/-- an object that tells ints one by one -/
def IntSrc (o : Obj) (ns : List Int) : Prop :=
  (∃ vs ep, o = listOf vs.toArray ep ∧ IntsAre vs ns) ∨ (∃ a b t u v, o = rangeO a b t u v ∧ 0 ≤ a ∧ a ≤ 1000 ∧ 0 ≤ b ∧ b ≤ 1000 ∧ ns = rangeL a (b - a).toNat)

/-- an object that is no code object -/
def NoCode (o : Obj) : Prop := ∃ X : Array Value, o.data = .fields X ∧ ∀ q t, X[1]? ≠ some (.str q t)

section
variable {prog : Program} {w : World} {A : Around} {E : Value → Shared → Prop} {s : Shared} {env : Env} {h₀ : Heap} {x : Str} {body : List Stmt} {Q : Flow → Shared → Prop}
theorem my_loop2 {I : Addr} {fp wr : List Addr} {n : Nat} {P : Nat → Value → Prop} {St : Nat → Heap → Prop} {σ : Type} (ms : σ → Str → Option Value) (ns : σ → List (Addr × Obj)) (Inv : Nat → σ → Prop) (x₀ : σ)
    (W : Walks prog w A I fp wr n P St) (hLf : env.locals ∉ fp) (hwr : ∀ b ∈ wr, h₀.get? b = none) (hst : St 0 s.heap) (F : Fr h₀ env.locals s.heap (ms x₀)) (N : News h₀ env.locals s.heap (ns x₀)) (hj : Inv 0 x₀) (hnw : ∀ i y, Inv i y → ∀ p ∈ ns y, p.1 ∉ wr)
    (turn : ∀ i v y h tk own, i < n → P i v → Inv i y → (∀ p ∈ own, p.1 ∈ fp) → (∀ b ∈ fp, h₀.get? b = none → ∀ o, h.get? b = some o → (b, o) ∈ own) → St (i + 1) h → Fr h₀ env.locals h (fun z => if z = x then some v else ms y z) → News h₀ env.locals h (ns y ++ own) →
      wpAny (model prog w) A (execs body env) (MyEnd h₀ env.locals ms ns own (Inv (i + 1)) Q s) E { s with heap := h, toks := tk })
    (done : ∀ y h tk, Inv n y → Fr h₀ env.locals h (ms y) → News h₀ env.locals h (ns y) → Q .next { s with heap := h, toks := tk }) :
    LoopAtV prog w A h₀ env x body Q E (.ref I) s := by
  let J : Nat → (Str → Option Value) → List (Addr × Obj) → Prop := fun i m₁ news₁ => ∃ y, m₁ = ms y ∧ news₁ = ns y ∧ Inv i y
  refine ⟨I, fp, wr, n, P, St, ms x₀, ns x₀, J, rfl, W, hLf, hwr, hnw 0 x₀ hj, hst, F, N, ⟨x₀, rfl, rfl, hj⟩, ?_, ?_⟩
  · rintro i v m₁ news₁ s₁ own ⟨hh', tk', rfl⟩ hin hP ⟨y, rfl, rfl, hy⟩ hoff hown _ hall hstn F₁ N₁
    have N₂ : News h₀ env.locals hh' (ns y ++ own) := fun p hp => N₁ p ((List.mem_append.mp hp).elim (fun h => List.mem_append.mpr (.inr h)) fun h => List.mem_append.mpr (.inl h))
    refine wpAny_mono (turn i v y hh' tk' own hin hP hy hown hall hstn F₁ N₂) (fun f s₂ p => ?_) fun _ _ e => e
    have fin : (∃ h' tk' x', s₂ = { s with heap := h', toks := tk' } ∧ Fr h₀ env.locals h' (ms x') ∧ News h₀ env.locals h' (ns x' ++ own) ∧ Inv (i + 1) x') → LoopStepU h₀ env.locals wr own (J (i + 1)) { s with heap := hh', toks := tk' } .next s₂ := by
      rintro ⟨h', tk, x', e, F', N', hi⟩
      exact ⟨rfl, h', tk, ms x', ns x', e, F', (fun p hp => N' p ((List.mem_append.mp hp).elim (fun h => List.mem_append.mpr (.inr h)) fun h => List.mem_append.mpr (.inl h))), hnw _ _ hi, x', rfl, rfl, hi⟩
    cases f with
    | ret v => exact .ret p
    | brk => exact .brk p
    | next => exact .next (fin p)
    | cont => exact .cont (fin p)
  · rintro h' tk m' news' F' N' _ ⟨y, rfl, rfl, hy⟩
    exact done y h' tk hy F' N'

/-- a for loop over a list or a range of the ledger -/
theorem for_src {d : Addr} {o : Obj} {ks : List Int} {σ : Type} (hs : IntSrc o ks) (ms : σ → Str → Option Value) (ns : σ → List (Addr × Obj)) (Inv : Addr → Nat → σ → Prop) (x₀ : σ) (hd : (d, o) ∈ ns x₀) (hh : A.handled = none)
    (F : Fr h₀ env.locals s.heap (ms x₀)) (N : News h₀ env.locals s.heap (ns x₀)) (hj : ∀ I, (∀ p ∈ ns x₀, p.1 < I) → Inv I 0 x₀) (hnw : ∀ I, (∀ p ∈ ns x₀, p.1 < I) → ∀ i y, Inv I i y → ∀ p ∈ ns y, p.1 ≠ I)
    (turn : ∀ I i k t y h tk own oI, (∀ p ∈ ns x₀, p.1 < I) → ks[i]? = some k → Inv I i y → (∀ p ∈ own, p.1 = I ∨ p.1 = d) → (I, oI) ∈ own → NoCode oI → Fr h₀ env.locals h (fun z => if z = x then some (.int k t) else ms y z) → News h₀ env.locals h (ns y ++ own) →
      wpAny (model prog w) A (execs body env) (MyEnd h₀ env.locals ms ns own (Inv I (i + 1)) Q s) E { s with heap := h, toks := tk })
    (done : ∀ I y h tk, Inv I ks.length y → Fr h₀ env.locals h (ms y) → News h₀ env.locals h (ns y) → Q .next { s with heap := h, toks := tk }) :
    wpAny (model prog w) A (pyIter (.ref d)) (fun it s₂ => LoopAtV prog w A h₀ env x body Q E it s₂) E s := by
  k_with_none
  k_with "ar" => (first | with_reducible exact ar127 (by assumption) | with_reducible exact ar662 (by assumption) | with_reducible exact ar145 (by assumption) | with_reducible exact ar73 (by assumption))
  have hI : ∀ p ∈ ns x₀, p.1 < s.heap.objs.size := fun p hp => Heap.lt_size (N p hp).1
  have hIL : env.locals ≠ s.heap.objs.size := Nat.ne_of_lt F.ns.lt
  have hIn : h₀.get? s.heap.objs.size = none := next_is_new F
  rcases hs with ⟨vs, ep, rfl, hi⟩ | ⟨a, b, t, u, v, rfl, ha0, ha, hb0, hb, rfl⟩
  · have hls : s.heap.IsList d vs.toArray := News.isList N hd
    refine wpAny_pyIter_list hls ?_
    have hne : d ≠ s.heap.objs.size := Nat.ne_of_lt (hI _ hd)
    have hsz : vs.toArray.size = ks.length := by simp [hi.length]
    refine my_loop2 (s := { s with heap := s.heap.push _ }) (I := s.heap.objs.size) ms ns (Inv s.heap.objs.size) x₀ (hsz ▸ Walks.list (prog := prog) (w := w) hh s.heap.objs.size d hne vs.toArray) ?_ ?_ ⟨⟨_, Heap.get?_push_size _ rfl, rfl, rfl⟩, hls.at fun o e => Heap.get?_push_of_some _ e⟩ (F.push _) (fun p hp => ⟨Heap.get?_push_of_some _ (N p hp).1, (N p hp).2⟩) (hj _ hI) ?_ ?_ ?_
    · intro hm
      rcases List.mem_cons.mp hm with e | hm
      · exact hIL e
      · exact (N _ hd).2.1 (List.mem_singleton.mp hm).symm
    · intro b hb; rw [List.mem_singleton.mp hb]; exact hIn
    · exact fun i y hy p hp hm => hnw _ hI i y hy p hp (List.mem_singleton.mp hm)
    · intro i v y h tk own hin hP hy hown hall hst F₁ N₁
      obtain ⟨n, t, rfl, hn⟩ := hi.at i v (by simpa using hP)
      obtain ⟨oI, hoI, _, hdI⟩ := hst.1
      exact turn _ i n t y h tk own oI hI hn hy (fun p hp => by simpa using hown p hp) (hall _ (.head _) hIn _ hoI) ⟨_, hdI, by intro q t; simp⟩ F₁ N₁
    · intro y h tk hy F' N'
      exact done _ y h tk hy F' N'
  · have hr : IsRange s.heap d a b 1 t u v := (N _ hd).1
    have hn : Builtin.Range.rangeSize a b 1 = ((b - a).toNat : Int) := by
      rw [rangeSize_one]; split <;> omega
    refine wpAny_pyIter_range hr (small_one (by omega) (by omega) (by omega) (by omega)) ?_
    rw [hn]
    refine my_loop2 (s := { s with heap := s.heap.push _ }) (I := s.heap.objs.size) ms ns (Inv s.heap.objs.size) x₀ (Walks.range (prog := prog) (w := w) hh s.heap.objs.size a 1 (b - a).toNat) ?_ ?_ ?_ (F.push _) (fun p hp => ⟨Heap.get?_push_of_some _ (N p hp).1, (N p hp).2⟩) (hj _ hI) ?_ ?_ ?_
    · intro hm
      exact hIL (List.mem_singleton.mp hm)
    · intro b hb; rw [List.mem_singleton.mp hb]; exact hIn
    · have := Heap.get?_push_size s.heap (o := { cls := .type "range_iterator", data := .fields #[rawInt a, rawInt ((b - a).toNat : Int), rawInt 1] }) rfl
      simpa using this
    · exact fun i y hy p hp hm => hnw _ hI i y hy p hp (List.mem_singleton.mp hm)
    · intro i v y h tk own hin hP hy hown hall hst F₁ N₁
      obtain ⟨t, rfl⟩ := hP
      refine turn _ i _ t y h tk own _ hI (rangeL_get _ i a hin) hy (fun p hp => .inl (by simpa using hown p hp)) (hall _ (.head _) hIn _ hst) ⟨_, rfl, by intro q t; simp [rawInt]⟩ ?_ N₁
      simpa using F₁
    · intro y h tk hy F' N'
      exact done _ y h tk (by rw [rangeL_len]; exact hy) F' N'
end
section
variable {prog : Program} {w : World} {A : Around} {E : Value → Shared → Prop} {s : Shared} {h₀ : Heap} {L : Addr} {m : Str → Option Value} {news : List (Addr × Obj)}
theorem range_K2 {a b : Int} {t u : Tok} {Q : Value → Shared → Prop} (F : Fr h₀ L s.heap m) (N : News h₀ L s.heap news)
    (h : ∀ D t₁ u₁ v₁ h' tk', Fr h₀ L h' m → News h₀ L h' ((D, rangeO a b t₁ u₁ v₁) :: news) → (∀ p ∈ news, p.1 < D) → Q (.ref D) { s with heap := h', toks := tk' }) : wpAny (model prog w) A (call (.type "range") [.int a t, .int b u]) Q E s :=
  call_range_2 (h _ _ _ _ _ _ (F.push _) (News.push F N _) fun p hp => Heap.lt_size (N p hp).1)
theorem range_K1 {b : Int} {u : Tok} {Q : Value → Shared → Prop} (F : Fr h₀ L s.heap m) (N : News h₀ L s.heap news)
    (h : ∀ D t₁ u₁ v₁ h' tk', Fr h₀ L h' m → News h₀ L h' ((D, rangeO 0 b t₁ u₁ v₁) :: news) → (∀ p ∈ news, p.1 < D) → Q (.ref D) { s with heap := h', toks := tk' }) : wpAny (model prog w) A (call (.type "range") [.int b u]) Q E s :=
  call_range_1 (h _ _ _ _ _ _ (F.push _) (News.push F N _) fun p hp => Heap.lt_size (N p hp).1)
end
end Mine
namespace Mine
open PySem.Builtin.Int (intBits)
theorem TabIs.offN {P I : Addr} {qual : Str} {line col : Int} {h₀ h : Heap} {L : Addr} {l tb : List (Addr × Obj)} {oI : Obj} (hT : TabIs P qual line col tb) (N : News h₀ L h l) (hs : ∀ q ∈ tb, q ∈ l) (h' : (I, oI) ∈ l) (hX : NoCode oI) (hne : P ≠ I) : ∀ q ∈ tb, q.1 ≠ I := by
  rcases hT with rfl | ⟨c', oc, vs, t, rfl, hd, hv⟩
  · intro q hq
    rw [List.mem_singleton.mp hq]
    exact hne
  · intro q hq
    rcases List.mem_cons.mp hq with rfl | hq
    · exact hne
    · rw [List.mem_singleton.mp hq]
      intro (e : c' = I)
      have h1 : h.get? c' = some oc := (N _ (hs (c', oc) (.tail _ (.head _)))).1
      have h2 : h.get? I = some oI := (N _ h').1
      rw [e, h2] at h1
      have h3 : oI = oc := Option.some.inj h1
      obtain ⟨X, hX1, hX2⟩ := hX
      rw [← h3, hX1] at hd
      have h4 : X = vs := Data.fields.inj hd
      exact hX2 _ _ (h4 ▸ hv)

/-- [k] as a number -/
noncomputable def brk (q : Int) (k : Int) : Int := evalD q (List.replicate k.toNat 1)
noncomputable def prodB (q : Int) (ks : List Int) : Int := ks.foldl (fun p k => p * brk q k) 1
theorem prodB_snoc (q : Int) (ks : List Int) (k : Int) : prodB q (ks ++ [k]) = prodB q ks * brk q k := by simp [prodB, List.foldl_append]
theorem take_snoc {ks : List Int} {i : Nat} {k : Int} (h : ks[i]? = some k) : ks.take (i + 1) = ks.take i ++ [k] := by rw [List.take_add_one, h]; rfl
theorem brk_bits {n : Nat} {k : Int} (hk : k ≤ 6) : intBits (brk (2 ^ n) k) ≤ 1 + 6 * (n + 2) := by
  k_with_none
  k_with "call ref" => ((with_reducible show wpAny _ _ (call (Value.ref 42) _ _) _ _ _); k_extra "call_42")
  k_with "exec For Name Name cons nil" => k_extra "for"
  k_with "last pyIter ref" => k_extra "iter"
  k_with "binaryOp Mult ref int" => k_extra "rep"
  k_with "inplaceOp Mult int int" => k_extra "imul"
  k_with "ar" => (first | with_reducible exact ar571 (by assumption) | with_reducible exact ar226 (by assumption) (by assumption))
  have h := evalD_bits (D := 1) (n := n) (ds := List.replicate k.toNat 1) (fun d hd => by rw [(List.mem_replicate.mp hd).2]; decide +kernel)
  rw [List.length_replicate] at h
  have h2 : k.toNat * (n + 2) ≤ 6 * (n + 2) := Nat.mul_le_mul_right _ (by omega)
  unfold brk
  omega

theorem one_bits (k : Nat) : intBits 1 ≤ 1 + k := by
  k_with_none
  k_with "call ref" => ((with_reducible show wpAny _ _ (call (Value.ref 42) _ _) _ _ _); k_extra "call_42")
  k_with "exec For Name Name cons nil" => k_extra "for"
  k_with "last pyIter ref" => k_extra "iter"
  k_with "binaryOp Mult ref int" => k_extra "rep"
  k_with "inplaceOp Mult int int" => k_extra "imul"
  k_with "ar" => (first | with_reducible exact ar277 (by assumption))
  have : intBits 1 = 1 := by decide +kernel
  omega
theorem prod_sub {tb r9 rest : List (Addr × Obj)} {e e2 : Addr × Obj} (h : ∀ q ∈ tb ++ rest, q ∈ r9) : ∀ q ∈ tb ++ (e :: rest), q ∈ e :: e2 :: r9 := fun q hq => by
  rcases List.mem_append.mp hq with hq | hq
  · exact .tail _ (.tail _ (h q (List.mem_append.mpr (.inl hq))))
  · rcases List.mem_cons.mp hq with rfl | hq
    · exact .head _
    · exact .tail _ (.tail _ (h q (List.mem_append.mpr (.inr hq))))
theorem ones_ok {k : Nat} : ∀ x ∈ List.replicate k (1 : Int), 0 ≤ x ∧ intBits x ≤ 40000 := fun x hx => by
  rw [(List.mem_replicate.mp hx).2]
  exact ⟨by decide, by have := one_bits 0; omega⟩
theorem prod_back {h₀ h : Heap} {L : Addr} {e : Addr × Obj} {r2 tb2 news own : List (Addr × Obj)} (N : News h₀ L h r2) (hs : tb2 ++ (e :: (news ++ own)) = r2) : News h₀ L h ((tb2 ++ news) ++ own) := by
  subst hs
  intro q hq
  refine N q ?_
  simp only [List.mem_cons, List.mem_append] at hq ⊢
  rcases hq with (h | h) | h
  · exact .inl h
  · exact .inr (.inr (.inl h))
  · exact .inr (.inr (.inr h))
structure PS where
  p : Int
  tp : Tok
  os : Option Value
  tb : List (Addr × Obj)
noncomputable def msP (m₀ : Str → Option Value) (x : PS) : Str → Option Value := fun z => if z = Str.ofString "size" then x.os else if z = Str.ofString "product" then some (.int x.p x.tp) else m₀ z
theorem msP_at {h₀ h : Heap} {L : Addr} {m m₀ : Str → Option Value} {x : PS} (F : Fr h₀ L h m) (h1 : m (Str.ofString "size") = x.os) (h3 : m (Str.ofString "product") = some (.int x.p x.tp))
    (h4 : ∀ z, z ≠ Str.ofString "size" → z ≠ Str.ofString "product" → m z = m₀ z) : Fr h₀ L h (msP m₀ x) := by
  have e : m = msP m₀ x := by
    funext z
    unfold msP
    split
    · rename_i e; rw [e, h1]
    · split
      · rename_i e; rw [e, h3]
      · exact h4 z (by assumption) (by assumption)
  exact e ▸ F
structure PInv (q : Int) (ks : List Int) (I : Addr) (i : Nat) (x : PS) : Prop where
  ht : TabIs 37 Q37 47 4 x.tb
  hI : ∀ r ∈ x.tb, r.1 ≠ I
  hp : x.p = prodB q (ks.take i)
  hb : intBits x.p ≤ 1 + 8000 * i

section
variable {w : World} {p : Program} {loose : List Str} {mean : ExcName → Option Value} {mg mb : Str → Option Value}
  {dp un : Nat} {gd : Option (List Code)} {cn : Str} {cs : Scope} {a : Addr} {ccd : Value} {cl : List (Str × Addr)} {outer : List Env} {A₀ : Around} {base h₀ : Heap} {L : Addr} {m : Str → Option Value} {news : List (Addr × Obj)} {s : Shared}
  {Q E : Value → Shared → Prop}

set_option maxRecDepth 100000 in
set_option maxHeartbeats 1600000 in
theorem t_prod {tb : List (Addr × Obj)} {d : Addr} {o : Obj} {ks : List Int} {n : Int} {tn : Tok} (B : Below A₀ base outer h₀) (F : Fr h₀ L s.heap m) (X : (hd.heap_39 w.params).In h₀) (N : News h₀ L s.heap (tb ++ news)) (T : Top p loose mean mg mb h₀) (hk : cs.kind = .function)
  (C2 : CodeHd base 41 37) (hoff : ∀ q ∈ news, q.1 ≠ 37) (ht : TabIs 37 Q37 47 4 tb) (hD : (d, o) ∈ news) (hs : IntSrc o ks)
  (hks : ∀ k ∈ ks, 0 ≤ k ∧ k ≤ 6) (hkl : ks.length ≤ 12) (h0 : 0 ≤ n) (hn : n ≤ 1204)
  (hd : dp + 200 < recursionLimit) (hu : un + 1600 < cLine)
  (hret : ∀ t tb' h' tk', Fr h₀ L h' m → News h₀ L h' (tb' ++ news) → TabIs 37 Q37 47 4 tb' → Q (.int (prodB (2 ^ n.toNat) ks) t) { s with heap := h', toks := tk' }) :
    wpAny (model PR w) (ktrTop dp un gd cn cs L a ccd cl outer) (call (.ref 115) [.ref d, .int n tn]) Q E s := by
  k_with_none
  k_with "call ref" => ((with_reducible show wpAny _ _ (call (Value.ref 42) _ _) _ _ _); k_extra "call_42")
  k_with "exec For Name Name cons nil" => k_extra "for"
  k_with "last pyIter ref" => k_extra "iter"
  k_with "binaryOp Mult ref int" => k_extra "rep"
  k_with "inplaceOp Mult int int" => k_extra "imul"
  k_with "ar" => (first | with_reducible exact ar20 (by assumption) | with_reducible exact ar568 (by assumption) (by assumption) | with_reducible exact ar574 (by assumption) (by assumption) | with_reducible exact ar248 (by assumption) (by assumption) | with_reducible exact ar538 (by assumption) | with_reducible exact ar70 (by assumption) | with_reducible exact ar10 (by assumption) | with_reducible exact ar5 (by assumption) | with_reducible exact ar581 (by assumption) | with_reducible exact ar107 (by assumption) | with_reducible exact ar173)
  obtain ⟨r0, hr0⟩ : ∃ r0, tb ++ news = r0 := ⟨_, rfl⟩
  rw [hr0] at N
  k_with_none
  k_with "call ref" => ((with_reducible show wpAny _ _ (call (Value.ref 42) _ _) _ _ _); k_extra "call_42")
  k_with "exec For Name Name cons nil" => k_extra "for"
  k_with "last pyIter ref" => k_extra "iter"
  k_with "binaryOp Mult ref int" => k_extra "rep"
  k_with "inplaceOp Mult int int" => k_extra "imul"
  k_with "ar" => (first | with_reducible exact ar20 (by assumption) | with_reducible exact ar568 (by assumption) (by assumption) | with_reducible exact ar574 (by assumption) (by assumption) | with_reducible exact ar248 (by assumption) (by assumption) | with_reducible exact ar538 (by assumption) | with_reducible exact ar70 (by assumption) | with_reducible exact ar10 (by assumption) | with_reducible exact ar5 (by assumption) | with_reducible exact ar581 (by assumption) | with_reducible exact ar107 (by assumption) | with_reducible exact ar173)
  w_top off
  k_with "iter" => (refine Stop.mk ?_)
  k_with "for" => ((rename Fr _ _ _ _ => lF'); (with_unfolding_all refine' For_invVF lF' ?k1 ?k2 ?_; (case k1 => exact rfl); (case k2 => exact rfl); k_whole))
  refine wpAny_call ?_
  k_dflt ktr_enter
  k_steps
  refine Stop.of ?_
  k_with_none
  k_with "call ref" => ((with_reducible show wpAny _ _ (call (Value.ref 42) _ _) _ _ _); k_extra "call_42")
  k_with "exec For Name Name cons nil" => k_extra "for"
  k_with "last pyIter ref" => k_extra "iter"
  k_with "binaryOp Mult ref int" => k_extra "rep"
  k_with "inplaceOp Mult int int" => k_extra "imul"
  k_with "ar" => (first | with_reducible exact ar20 (by assumption) | with_reducible exact ar568 (by assumption) (by assumption) | with_reducible exact ar574 (by assumption) (by assumption) | with_reducible exact ar248 (by assumption) (by assumption) | with_reducible exact ar538 (by assumption) | with_reducible exact ar70 (by assumption) | with_reducible exact ar10 (by assumption) | with_reducible exact ar5 (by assumption) | with_reducible exact ar581 (by assumption) | with_reducible exact ar107 (by assumption) | with_reducible exact ar173)
  (rename News _ _ _ _ => N8)
  (rename Fr _ _ _ _ => F8)
  obtain ⟨X37, h37, h37'⟩ := ht.has
  refine for_src hs (msP _) (fun x => x.tb ++ news) (PInv (2 ^ n.toNat) ks) ⟨1, _, _, tb⟩ (List.mem_append.mpr (.inr hD)) rfl (msP_at F8 rfl rfl (fun _ _ _ => rfl)) (by dsimp only; rw [hr0]; exact N8) ?hj ?hnw ?turn ?done
  case hj =>
    intro I hI
    exact ⟨ht, fun q hq => Nat.ne_of_lt (hI q (List.mem_append.mpr (.inl hq))), rfl, one_bits _⟩
  case hnw =>
    intro I hI i y hy q hq
    rcases List.mem_append.mp hq with hq | hq
    · exact hy.hI q hq
    · exact Nat.ne_of_lt (hI q (List.mem_append.mpr (.inr hq)))
  case turn =>
    rintro I i k t ⟨pr, tp, os, tb⟩ h9 tk9 own oI hI hki hy hown hoI hnc F9 N9
    obtain ⟨hyt, hyI, hyp, hyb⟩ := hy
    dsimp only at hyt hyI hyp hyb N9
    obtain ⟨hk0, hk6⟩ := hks k (List.mem_of_getElem? hki)
    obtain ⟨r9, hr9⟩ : ∃ r9, tb ++ news ++ own = r9 := ⟨_, rfl⟩
    rw [hr9] at N9
    obtain ⟨X2, hX2, hX2'⟩ := hyt.has
    have h37I : (37 : Nat) ≠ I := Nat.ne_of_lt (hI _ (List.mem_append.mpr (.inl h37)))
    have hoffo : ∀ q ∈ news ++ own, q.1 ≠ 37 := by
      intro q hq e
      rcases List.mem_append.mp hq with hq | hq
      · exact hoff q hq e
      · rcases hown q hq with h | h
        · exact h37I (e.symm.trans h)
        · exact hoff _ hD (h.symm.trans e)
    have hsub : ∀ q ∈ tb ++ (news ++ own), q ∈ r9 := fun q hq => by rw [← hr9, List.append_assoc]; exact hq
    have hil : i ≤ 12 := by
      obtain ⟨h, _⟩ := List.getElem?_eq_some_iff.mp hki
      omega
    have hbb := brk_bits (n := n.toNat) hk6
    have hbp : intBits (pr * brk (2 ^ n.toNat) k) ≤ 1 + 8000 * (i + 1) := by
      have := intBits_mul_le hyb hbb
      omega
    have hok : IntMulOk pr (brk (2 ^ n.toNat) k) := IntMulOk.of_le hyb hbb (by omega)
    have hpk : pr * brk (2 ^ n.toNat) k = prodB (2 ^ n.toNat) (ks.take (i + 1)) := by rw [take_snoc hki, prodB_snoc, ← hyp]
    clear N8 F8 hret
    k_with "rep" => (refine mul_one (by k_asm) (by k_asm) (by is_list) (by omega) (by omega) ?_; intro D vs h' F' N' l1 i1; (have hD37 : (37 : Nat) ≠ D := Nat.ne_of_lt (l1 _ (.tail _ (hsub _ (List.mem_append.mpr (.inl hX2)))))); (try k_lt l1))
    k_with "call_42" => (refine' t_d2i (tb := tb) (news := (D, listOf vs.toArray 0) :: (news ++ own)) (vs := vs) (ns := List.replicate k.toNat 1) (ep := 0) ?B ?F ?X ?N ?T ?hk C2 ?c0 hyt (List.mem_cons_self ..) i1 ?c1 ?c2 ?c3 ?c4 ?hd ?hu ?_; (case B => k_asm); (case F => k_asm); (case X => k_asm); (case N => exact News.sub (by k_asm) (prod_sub hsub)); (case T => k_asm); (case hk => exact rfl); (case c0 => exact ne_cons hD37.symm hoffo); (case c1 => (rw [List.length_replicate]; omega)); (case c2 => omega); (case c3 => omega); (case c4 => exact ones_ok); (case hd => ktr_room); (case hu => ktr_units); k_whole; intro t' tb2' h' tk' F' N' ht2'; obtain ⟨r2, hr2⟩ : ∃ r2, tb2' ++ ((D, listOf vs.toArray 0) :: (news ++ own)) = r2 := ⟨_, rfl⟩; rw [hr2] at N'; (try dsimp only); (try k_fold))
    k_with "imul" => (refine imul_int ?_ hok)
    k_steps
    (rename _ = r2 => hr2)
    (rename TabIs 37 _ _ _ _ => ht2')
    (rename News _ _ _ r2 => N2)
    (rename_i tb2' _ _ _ _ _ _ _)
    exact MyEnd.next ⟨_, _, _, tb2'⟩ (msP_at (by k_asm) rfl rfl (fun z a b => by simp [msP, a, b])) (prod_back N2 hr2) ⟨ht2', ht2'.offN N2 (fun q hq => by rw [← hr2]; exact List.mem_append.mpr (.inl hq)) (by rw [← hr2]; exact List.mem_append.mpr (.inr (.tail _ (List.mem_append.mpr (.inr hoI))))) hnc h37I, hpk, hbp⟩
  case done =>
    rintro I ⟨pr, tp, os, tb⟩ h9 tk9 hy F9 N9
    obtain ⟨hyt, hyI, hyp, hyb⟩ := hy
    dsimp only at hyt hyI hyp hyb N9
    rw [List.take_length] at hyp
    obtain ⟨r9, hr9⟩ : ∃ r9, tb ++ news = r9 := ⟨_, rfl⟩
    rw [hr9] at N9
    clear N8 F8
    k_steps
    subst hyp
    exact hret _ tb _ _ (by k_asm) (by rw [hr9]; k_asm) hyt
end
end Mine
namespace Mine
open PySem.Builtin.Int (intBits)

section
variable {prog : Program} {w : World} {A : Around} {E : Value → Shared → Prop} {s : Shared} {env : Env} {h₀ : Heap} {x : Str} {px : Pos} {body : List Stmt} {Q : Flow → Shared → Prop}
/-- a for loop whose target is any name: a cell too -/
def LoopC (prog : Program) (w : World) (A : Around) (env : Env) (x : Str) (px : Pos) (body : List Stmt) (Q : Flow → Shared → Prop) (E : Value → Shared → Prop) (it : Value) (s₂ : Shared) : Prop :=
  codeAny (model prog w) A (.forLoop (.Name x px) it body [] env) (fun r s' => match r with | .ok f => Q f s' | .error e => cameBackBy (model prog w) A env E e s') s₂
theorem For_C {iter : Expr} {pos : Pos} {m : Str → Option Value} (_F : Fr h₀ env.locals s.heap m) (h : wpAny (model prog w) A (eval iter env) (fun xv s₁ => wpAny (model prog w) A (pyIter xv) (fun it s₂ => LoopC prog w A env x px body Q E it s₂) E s₁) E s)
    (hs : ∀ x, foldedSetIterable iter env x = pure x := by intro _; rfl) : wpAny (model prog w) A (exec (.For (.Name x px) iter body [] pos) env) Q E s := wpAny_For h hs

theorem my_loop3 {I : Addr} {fp wr : List Addr} {n : Nat} {P : Nat → Value → Prop} {St : Nat → Heap → Prop} {σ : Type} (ms : σ → Str → Option Value) (ns : σ → List (Addr × Obj)) (Inv : Nat → σ → Prop) (x₀ : σ)
    (hE : PassesOwn (model prog w) A env E)
    (W : Walks prog w A I fp wr n P St) (hLf : env.locals ∉ fp) (hwr : ∀ b ∈ wr, h₀.get? b = none) (hst : St 0 s.heap) (F : Fr h₀ env.locals s.heap (ms x₀)) (N : News h₀ env.locals s.heap (ns x₀)) (hj : Inv 0 x₀) (hnw : ∀ i y, Inv i y → ∀ p ∈ ns y, p.1 ∉ wr)
    (turn : ∀ i v y h tk own, i < n → P i v → Inv i y → (∀ p ∈ own, p.1 ∈ fp) → (∀ b ∈ fp, h₀.get? b = none → ∀ o, h.get? b = some o → (b, o) ∈ own) → St (i + 1) h → Fr h₀ env.locals h (ms y) → News h₀ env.locals h (ns y ++ own) →
      wpAny (model prog w) A (assign (.Name x px) env v) (fun _ s₂ => wpAny (model prog w) A (execs body env) (MyEnd h₀ env.locals ms ns own (Inv (i + 1)) Q s) E s₂) E { s with heap := h, toks := tk })
    (done : ∀ y h tk, Inv n y → Fr h₀ env.locals h (ms y) → News h₀ env.locals h (ns y) → Q .next { s with heap := h, toks := tk }) :
    LoopC prog w A env x px body Q E (.ref I) s := by
  k_with_none
  k_with "ar" => (first | with_reducible exact ar244 (by assumption) | with_reducible exact ar186 (by assumption) (by assumption))
  have hLw : env.locals ∉ wr := fun h => hLf (W.sub _ h)
  have old : ∀ b o, h₀.get? b = some o → b ∉ wr := fun b o e hb => by rw [hwr b hb] at e; cases e
  unfold LoopC
  refine codeAny_forLoop
    (fun k s' => ∃ h' tk i y, s' = { s with heap := h', toks := tk } ∧ St i h' ∧ Fr h₀ env.locals h' (ms y) ∧ News h₀ env.locals h' (ns y) ∧ Inv i y ∧ i ≤ n ∧ k = n + 1 - i) ?_ (n + 1)
    ⟨s.heap, s.toks, 0, x₀, rfl, hst, F, N, hj, Nat.zero_le _, rfl⟩
  rintro k s' ⟨h', tk, i, y, rfl, hst', F', N', hJ, hi, rfl⟩
  have next : ∀ h₁ : Heap, (∀ b o, b ∉ wr → h'.get? b = some o → h₁.get? b = some o) → Fr h₀ env.locals h₁ (ms y) ∧ News h₀ env.locals h₁ (ns y) := fun h₁ hk₁ =>
    ⟨⟨F'.ns.at' fun o e => hk₁ _ o hLw e, fun b o e => hk₁ b o (old b o e) (F'.keep b o e), F'.above⟩, fun p hp => ⟨hk₁ _ _ (hnw i y hJ p hp) (N' p hp).1, (N' p hp).2⟩⟩
  by_cases hlt : i < n
  · refine W.item i _ _ _ hlt hst' fun v h₁ tk₁ hP hst₁ hk₁ => ?_
    obtain ⟨F₁, N₁⟩ := next h₁ hk₁
    have Nown : News h₀ env.locals h₁ (ownOf h₀ fp h₁) := news_ownOf hLf
    have fin : ∀ s₃ : Shared, (∃ h' tk' x', s₃ = { s with heap := h', toks := tk' } ∧ Fr h₀ env.locals h' (ms x') ∧ News h₀ env.locals h' (ns x' ++ ownOf h₀ fp h₁) ∧ Inv (i + 1) x') →
        ∃ m, m < n + 1 - i ∧ ∃ h' tk i y, s₃ = { s with heap := h', toks := tk } ∧ St i h' ∧ Fr h₀ env.locals h' (ms y) ∧ News h₀ env.locals h' (ns y) ∧ Inv i y ∧ i ≤ n ∧ m = n + 1 - i := by
      rintro s₃ ⟨h₃, tk₃, x', rfl, F₃, N₃, hi₃⟩
      refine ⟨n + 1 - (i + 1), by omega, h₃, tk₃, i + 1, x', rfl, ?_, F₃, (fun p hp => N₃ p (List.mem_append.mpr (.inl hp))), hi₃, hlt, rfl⟩
      refine W.frame _ _ _ hst₁ fun b hb o e => ?_
      cases hn : h₀.get? b with
      | some o₀ =>
        have : o₀ = o := by have := F₁.keep b o₀ hn; rw [e] at this; exact (Option.some.inj this).symm
        exact this ▸ F₃.keep b o₀ hn
      | none => exact (N₃ _ (List.mem_append_right _ (mem_ownOf hb hn e))).1
    refine wpAny_passesOwn hE (wpAny_mono (turn i v y h₁ tk₁ (ownOf h₀ fp h₁) hlt hP hJ ownOf_sub (fun b hb hn o e => mem_ownOf hb hn e) hst₁ F₁ (fun p hp => (List.mem_append.mp hp).elim (N₁ p) (Nown p))) (fun _ s₂ h₂ => ?_) fun _ _ e => e)
    refine wpAny_passesOwn hE (wpAny_mono h₂ (fun f s₃ h₃ => ?_) fun _ _ e => e)
    cases f with
    | ret v => exact h₃
    | brk => exact h₃
    | cont => exact fin s₃ h₃
    | next => exact fin s₃ h₃
  · have hin : i = n := by omega
    subst hin
    refine W.done _ _ _ hst' fun h₁ tk₁ hk₁ => wpAny_execs_nil ?_
    obtain ⟨F₁, N₁⟩ := next h₁ hk₁
    exact done y h₁ tk₁ hJ F₁ N₁

theorem forC_src {d : Addr} {o : Obj} {ks : List Int} {σ : Type} (hs : IntSrc o ks) (ms : σ → Str → Option Value) (ns : σ → List (Addr × Obj)) (Inv : Addr → Nat → σ → Prop) (x₀ : σ) (hd : (d, o) ∈ ns x₀) (hh : A.handled = none)
    (F : Fr h₀ env.locals s.heap (ms x₀)) (N : News h₀ env.locals s.heap (ns x₀)) (hj : ∀ I, (∀ p ∈ ns x₀, p.1 < I) → Inv I 0 x₀) (hnw : ∀ I, (∀ p ∈ ns x₀, p.1 < I) → ∀ i y, Inv I i y → ∀ p ∈ ns y, p.1 ≠ I)
    (turn : ∀ I i k t y h tk own oI, (∀ p ∈ ns x₀, p.1 < I) → ks[i]? = some k → Inv I i y → (∀ p ∈ own, p.1 = I ∨ p.1 = d) → (I, oI) ∈ own → NoCode oI → Fr h₀ env.locals h (ms y) → News h₀ env.locals h (ns y ++ own) →
      wpAny (model prog w) A (assign (.Name x px) env (.int k t)) (fun _ s₂ => wpAny (model prog w) A (execs body env) (MyEnd h₀ env.locals ms ns own (Inv I (i + 1)) Q s) E s₂) E { s with heap := h, toks := tk })
    (done : ∀ I y h tk, Inv I ks.length y → Fr h₀ env.locals h (ms y) → News h₀ env.locals h (ns y) → Q .next { s with heap := h, toks := tk })
    (hE : PassesOwn (model prog w) A env E := by passes_own) :
    wpAny (model prog w) A (pyIter (.ref d)) (fun it s₂ => LoopC prog w A env x px body Q E it s₂) E s := by
  k_with_none
  k_with "ar" => (first | with_reducible exact ar592)
  have hI : ∀ p ∈ ns x₀, p.1 < s.heap.objs.size := fun p hp => Heap.lt_size (N p hp).1
  have hIL : env.locals ≠ s.heap.objs.size := Nat.ne_of_lt F.ns.lt
  have hIn : h₀.get? s.heap.objs.size = none := next_is_new F
  rcases hs with ⟨vs, ep, rfl, hi⟩ | ⟨a, b, t, u, v, rfl, ha0, ha, hb0, hb, rfl⟩
  · have hls : s.heap.IsList d vs.toArray := News.isList N hd
    refine wpAny_pyIter_list hls ?_
    have hne : d ≠ s.heap.objs.size := Nat.ne_of_lt (hI _ hd)
    have hsz : vs.toArray.size = ks.length := by simp [hi.length]
    refine my_loop3 (s := { s with heap := s.heap.push _ }) (I := s.heap.objs.size) ms ns (Inv s.heap.objs.size) x₀ hE (hsz ▸ Walks.list (prog := prog) (w := w) hh s.heap.objs.size d hne vs.toArray) ?_ ?_ ⟨⟨_, Heap.get?_push_size _ rfl, rfl, rfl⟩, hls.at fun o e => Heap.get?_push_of_some _ e⟩ (F.push _) (fun p hp => ⟨Heap.get?_push_of_some _ (N p hp).1, (N p hp).2⟩) (hj _ hI) ?_ ?_ ?_
    · intro hm
      rcases List.mem_cons.mp hm with e | hm
      · exact hIL e
      · exact (N _ hd).2.1 (List.mem_singleton.mp hm).symm
    · intro b hb; rw [List.mem_singleton.mp hb]; exact hIn
    · exact fun i y hy p hp hm => hnw _ hI i y hy p hp (List.mem_singleton.mp hm)
    · intro i v y h tk own hin hP hy hown hall hst F₁ N₁
      obtain ⟨n, t, rfl, hn⟩ := hi.at i v (by simpa using hP)
      obtain ⟨oI, hoI, _, hdI⟩ := hst.1
      exact turn _ i n t y h tk own oI hI hn hy (fun p hp => by simpa using hown p hp) (hall _ (.head _) hIn _ hoI) ⟨_, hdI, by intro q t; simp⟩ F₁ N₁
    · intro y h tk hy F' N'
      exact done _ y h tk hy F' N'
  · have hr : IsRange s.heap d a b 1 t u v := (N _ hd).1
    have hn : Builtin.Range.rangeSize a b 1 = ((b - a).toNat : Int) := by
      rw [rangeSize_one]; split <;> omega
    refine wpAny_pyIter_range hr (small_one (by omega) (by omega) (by omega) (by omega)) ?_
    rw [hn]
    refine my_loop3 (s := { s with heap := s.heap.push _ }) (I := s.heap.objs.size) ms ns (Inv s.heap.objs.size) x₀ hE (Walks.range (prog := prog) (w := w) hh s.heap.objs.size a 1 (b - a).toNat) ?_ ?_ ?_ (F.push _) (fun p hp => ⟨Heap.get?_push_of_some _ (N p hp).1, (N p hp).2⟩) (hj _ hI) ?_ ?_ ?_
    · intro hm
      exact hIL (List.mem_singleton.mp hm)
    · intro b hb; rw [List.mem_singleton.mp hb]; exact hIn
    · have := Heap.get?_push_size s.heap (o := { cls := .type "range_iterator", data := .fields #[rawInt a, rawInt ((b - a).toNat : Int), rawInt 1] }) rfl
      simpa using this
    · exact fun i y hy p hp hm => hnw _ hI i y hy p hp (List.mem_singleton.mp hm)
    · intro i v y h tk own hin hP hy hown hall hst F₁ N₁
      obtain ⟨t, rfl⟩ := hP
      have e : a + (i : Int) * 1 = a + i := by omega
      rw [e]
      exact turn _ i _ t y h tk own _ hI (rangeL_get _ i a hin) hy (fun p hp => .inl (by simpa using hown p hp)) (hall _ (.head _) hIn _ hst) ⟨_, rfl, by intro q t; simp [rawInt]⟩ F₁ N₁
    · intro y h tk hy F' N'
      exact done _ y h tk (by rw [rangeL_len]; exact hy) F' N'
end
end Mine
namespace Mine
open PySem.Builtin.Int (intBits)

/-- how many cells lie to the right of a cell or below it, the cell too -/
noncomputable def hookN (rs : List Int) (k : Nat) (j : Int) : Int := rs.getD k 0 - j + ((rs.drop (k + 1)).filter fun b => decide (b > j)).length
noncomputable def hooksRow (rs : List Int) (k : Nat) : Nat → List Int
  | 0 => []
  | n + 1 => hooksRow rs k n ++ [hookN rs k n]
noncomputable def hooksTo (rs : List Int) : Nat → List Int
  | 0 => []
  | k + 1 => hooksTo rs k ++ hooksRow rs k (rs.getD k 0).toNat
noncomputable def hooksL (rs : List Int) : List Int := hooksTo rs rs.length

section
variable {prog : Program} {w : World} {A : Around} {h₀ : Heap} {L : Addr} {m : Str → Option Value} {env : Env} {ct elt : Expr} {x : Str} {scope : Scope} {cl : List (Str × Addr)} {s : Shared} {S : List (Addr × Obj) → Prop} {P : Nat → Value → Prop} {Fin : List Value → List (Addr × Obj) → Prop} {news : List (Addr × Obj)}
/-- the ints of a list that a test lets through -/
theorem restT_filter {n : Nat} {ks : List Int} (p : Int → Bool) (hks : ks.length = n) (hP : ∀ i v, i < n → P i v → ∃ k t, ks[i]? = some k ∧ v = .int k t)
    (turn : ∀ k t I oI C oC D m₂ ys h tk (E' : Value → Shared → Prop) (Q' : Bool → Shared → Prop), k ∈ ks → LCg.NsObj oC m₂ → m₂ x = some (.int k t) → Fr h₀ L h m → News h₀ L h ((I, oI) :: (C, oC) :: (D, LCg.lst ys) :: news) → 
      (∀ tk', Q' (p k) { s with heap := h, toks := tk' }) →
      wpAny (model prog w) A (isTrue ct (compEnvC scope cl C env) (eval ct (compEnvC scope cl C env))) Q' E' { s with heap := h, toks := tk })
    (own : ∀ k t I oI C oC D m₂ ys h tk (E' : Value → Shared → Prop) (Q' : Value → Shared → Prop), k ∈ ks → LCg.NsObj oC m₂ → m₂ x = some (.int k t) → Fr h₀ L h m → News h₀ L h ((I, oI) :: (C, oC) :: (D, LCg.lst ys) :: news) → 
      (∀ t' tk', Q' (.int k t') { s with heap := h, toks := tk' }) →
      wpAny (model prog w) A (eval elt (compEnvC scope cl C env)) Q' E' { s with heap := h, toks := tk })
    (hS : S news) (fin : ∀ ys, IntsAre ys (ks.filter p) → Fin ys news) : LCt.CompRestT prog w A h₀ L m env ct elt x scope cl s S P Fin n 0 [] news := by
  k_with_none
  k_with "exec For Name Call cons nil" => k_extra "forj"
  k_with "call type:range" => k_extra "range"
  k_with "pyIter ref" => k_extra "iter"
  k_with "last pyIter ref" => k_extra "iter"
  k_with "call builtin:len" => k_extra "len"
  k_with "subscriptTail Name Name ref int" => k_extra "item"
  k_with "subscriptTail Name Slice ref ref" => k_extra "slice"
  k_with "eval ListComp" => k_extra "comp"
  k_with "CompSrcT" => k_extra "src"
  k_with "call builtin:list.append" => k_extra "app"
  k_with "ar" => (first | with_reducible exact ar429 (by assumption) (by assumption) | with_reducible exact ar403 (by assumption) | with_reducible exact ar409 (by assumption) | with_reducible exact ar416)
  have key : ∀ (j i : Nat) (ys : List Value), i + j = n → IntsAre ys ((ks.take i).filter p) → LCt.CompRestT prog w A h₀ L m env ct elt x scope cl s S P Fin j i ys news := by
    intro j
    induction j with
    | zero =>
      intro i ys hi hy
      have e : i = ks.length := by omega
      subst e
      rw [List.take_length] at hy
      exact LCt.CompRestT.zero (fin ys hy)
    | succ j ih =>
      intro i ys hi hy
      refine LCt.CompRestT.succ ?_
      intro v I oI C oC D m₂ h tk E' hv hC hx F N off ne
      obtain ⟨k, t, hk, hv'⟩ := hP i v (by omega) hv
      rw [hv'] at hx
      have hmem := List.mem_of_getElem? hk
      refine turn k t I oI C oC D m₂ ys h tk E' _ hmem hC hx F N fun tk' => ?_
      have e1 : (ks.take (i + 1)).filter p = (ks.take i).filter p ++ (if p k = true then [k] else []) := by
        rw [List.take_add_one, hk, List.filter_append]
        cases hk' : p k <;> simp [hk']
      cases hp : p k with
      | true =>
        rw [if_pos rfl]
        refine own k t I oI C oC D m₂ ys h tk' E' _ hmem hC hx F N fun t' tk'' => ?_
        refine ⟨h, tk'', news, rfl, F, N, off, hS, ih (i + 1) _ (by omega) ?_⟩
        rw [e1, if_pos hp]
        exact IntsAre.append hy (.cons k t' .nil)
      | false =>
        rw [if_neg (by decide)]
        refine ⟨h, tk', news, rfl, F, N, off, hS, ih (i + 1) _ (by omega) ?_⟩
        rw [e1, if_neg (by rw [hp]; decide), List.append_nil]
        exact hy
  exact key n 0 [] (by omega) (by simp only [List.take_zero, List.filter_nil]; exact .nil)
end

structure HS where
  vs : List Value
  hs : List Int
  ep : Nat
  ok : Option Value
  oc : Obj
noncomputable def msH (m₀ : Str → Option Value) (x : HS) : Str → Option Value := fun z => if z = Str.ofString "k" then x.ok else m₀ z
theorem msH_at {h₀ h : Heap} {L : Addr} {m m₀ : Str → Option Value} {x : HS} (F : Fr h₀ L h m) (h1 : m (Str.ofString "k") = x.ok)
    (h4 : ∀ z, z ≠ Str.ofString "k" → m z = m₀ z) : Fr h₀ L h (msH m₀ x) := by
  have e : m = msH m₀ x := by
    funext z
    unfold msH
    split
    · rename_i e; rw [e, h1]
    · exact h4 z (by assumption)
  exact e ▸ F
noncomputable def nsH (hl cj : Addr) (rest : List (Addr × Obj)) (x : HS) : List (Addr × Obj) := (hl, listOf x.vs.toArray x.ep) :: (cj, x.oc) :: rest
theorem rangeL_inv : ∀ {n i : Nat} {k : Int}, (rangeL 0 n)[i]? = some k → i < n ∧ k = i := by
  k_with_none
  k_with "exec For Name Call cons nil" => k_extra "forj"
  k_with "call type:range" => k_extra "range"
  k_with "pyIter ref" => k_extra "iter"
  k_with "last pyIter ref" => k_extra "iter"
  k_with "call builtin:len" => k_extra "len"
  k_with "subscriptTail Name Name ref int" => k_extra "item"
  k_with "subscriptTail Name Slice ref ref" => k_extra "slice"
  k_with "eval ListComp" => k_extra "comp"
  k_with "CompSrcT" => k_extra "src"
  k_with "call builtin:list.append" => k_extra "app"
  k_with "ar" => (first | with_reducible exact ar366 (by assumption))
  intro n i k h
  have hi : i < n := by
    obtain ⟨h1, _⟩ := List.getElem?_eq_some_iff.mp h
    rwa [rangeL_len] at h1
  rw [rangeL_get n i 0 hi] at h
  exact ⟨hi, by have := Option.some.inj h; omega⟩
theorem hooksRow_len (rs : List Int) (k : Nat) : ∀ n, (hooksRow rs k n).length = n
  | 0 => rfl
  | n + 1 => by rw [hooksRow, List.length_append, hooksRow_len rs k n]; rfl
theorem hooksTo_len {rs : List Int} (hrs : ∀ r ∈ rs, 0 ≤ r ∧ r ≤ 3) : ∀ k, (hooksTo rs k).length ≤ 3 * k
  | 0 => Nat.le_refl _
  | k + 1 => by
    rw [hooksTo, List.length_append, hooksRow_len]
    have := hooksTo_len hrs k
    have : rs.getD k 0 ≤ 3 := by
      rw [List.getD_eq_getElem?_getD]
      cases h : rs[k]? with
      | none => decide
      | some r => exact (hrs r (List.mem_of_getElem? h)).2
    omega
theorem hooks_len {rs : List Int} {i jj : Nat} {rk : Int} (hil : i < rs.length) (hjl : jj < rk.toNat) (hrs : ∀ r ∈ rs, 0 ≤ r ∧ r ≤ 3) (hrl : rs.length ≤ 3) (hrk : rs[i]? = some rk) : (hooksTo rs i ++ hooksRow rs i jj).length ≤ 1048576 * 16 := by
  k_with_none
  k_with "exec For Name Call cons nil" => k_extra "forj"
  k_with "call type:range" => k_extra "range"
  k_with "pyIter ref" => k_extra "iter"
  k_with "last pyIter ref" => k_extra "iter"
  k_with "call builtin:len" => k_extra "len"
  k_with "subscriptTail Name Name ref int" => k_extra "item"
  k_with "subscriptTail Name Slice ref ref" => k_extra "slice"
  k_with "eval ListComp" => k_extra "comp"
  k_with "CompSrcT" => k_extra "src"
  k_with "call builtin:list.append" => k_extra "app"
  k_with "ar" => (first | with_reducible exact ar237 (by assumption) (by assumption) (by assumption) (by assumption) (by assumption))
  have h1 := hooksTo_len hrs i
  have h2 := (hrs rk (List.mem_of_getElem? hrk)).2
  rw [List.length_append, hooksRow_len]
  omega
theorem rot3 {a b c q : Addr × Obj} {l : List (Addr × Obj)} (h : q ∈ b :: c :: a :: l) : q ∈ a :: b :: c :: l := by
  rcases List.mem_cons.mp h with rfl | h
  · exact .tail _ (.head _)
  · rcases List.mem_cons.mp h with rfl | h
    · exact .tail _ (.tail _ (.head _))
    · rcases List.mem_cons.mp h with rfl | h
      · exact .head _
      · exact .tail _ (.tail _ (.tail _ h))
theorem nsH_cons {h₀ h : Heap} {L hl cj : Addr} {e : Addr × Obj} {r1 own r9 : List (Addr × Obj)} {vs : List Value} {hs : List Int} {ep : Nat} {ok : Option Value} {oc : Obj} (N : News h₀ L h (nsH hl cj (e :: r1) ⟨vs, hs, ep, ok, oc⟩ ++ own)) (h9 : e :: r1 ++ own = r9) : News h₀ L h ((hl, listOf vs.toArray ep) :: (cj, oc) :: r9) := by
  rw [← h9]; exact N
theorem nsH_back {h₀ h : Heap} {L hl cj : Addr} {a b e : Addr × Obj} {r1 own r9 : List (Addr × Obj)} {vs : List Value} {hs : List Int} {ep : Nat} {ok : Option Value} {oc : Obj} {v : Value} (N : News h₀ L h (a :: b :: (hl, listOf (vs.toArray.push v) ep) :: (cj, oc) :: r9)) (h9 : e :: r1 ++ own = r9) : News h₀ L h (nsH hl cj (e :: r1) ⟨vs ++ [v], hs, ep, ok, oc⟩ ++ own) := by
  have e1 : (vs ++ [v]).toArray = vs.toArray.push v := by simp
  intro q hq
  refine N q (.tail _ (.tail _ ?_))
  rw [← h9, ← e1]
  exact hq
theorem nsH_back2 {h₀ h : Heap} {L hl cj : Addr} {a e : Addr × Obj} {r1 own r9 : List (Addr × Obj)} {vs : List Value} {hs : List Int} {ep : Nat} {ok : Option Value} {oc : Obj} (N : News h₀ L h ((hl, listOf vs.toArray ep) :: (cj, oc) :: (a :: r9 ++ []))) (h9 : e :: r1 ++ own = r9) : News h₀ L h (nsH hl cj (e :: r1) ⟨vs, hs, ep, ok, oc⟩ ++ own) := by
  intro q hq
  have hq' : q ∈ (hl, listOf vs.toArray ep) :: (cj, oc) :: r9 := by rw [← h9]; exact hq
  refine N q ?_
  rcases List.mem_cons.mp hq' with rfl | hq'
  · exact .head _
  · rcases List.mem_cons.mp hq' with rfl | hq'
    · exact .tail _ (.head _)
    · exact .tail _ (.tail _ (List.mem_append.mpr (.inl (.tail _ hq'))))
section
variable {w : World} {p : Program} {loose : List Str} {mean : ExcName → Option Value} {mg mb : Str → Option Value}
  {dp un : Nat} {gd : Option (List Code)} {cn : Str} {cs : Scope} {a : Addr} {ccd : Value} {cl : List (Str × Addr)} {outer : List Env} {A₀ : Around} {base h₀ : Heap} {L : Addr} {m : Str → Option Value} {news : List (Addr × Obj)} {s : Shared}
  {Q E : Value → Shared → Prop}

set_option maxRecDepth 100000 in
set_option maxHeartbeats 1600000 in
theorem t_hooks {d : Addr} {vr : List Value} {rs : List Int} {epr : Nat} (B : Below A₀ base outer h₀) (F : Fr h₀ L s.heap m) (X : (hd.heap_39 w.params).In h₀) (N : News h₀ L s.heap news) (T : Top p loose mean mg mb h₀) (hk : cs.kind = .function)
  (hD : (d, listOf vr.toArray epr) ∈ news) (hr : IntsAre vr rs) (hrl : rs.length ≤ 3) (hrs : ∀ r ∈ rs, 0 ≤ r ∧ r ≤ 3)
  (hd : dp + 200 < recursionLimit) (hu : un + 1600 < cLine)
  (hret : ∀ D vs ep h' tk', Fr h₀ L h' m → News h₀ L h' ((D, listOf vs.toArray ep) :: news) → (∀ q ∈ news, q.1 < D) → IntsAre vs (hooksL rs) → Q (.ref D) { s with heap := h', toks := tk' }) :
    wpAny (model PR w) (ktrTop dp un gd cn cs L a ccd cl outer) (call (.ref 108) [.ref d]) Q E s := by
  k_with_none
  k_with "exec For Name Call cons nil" => k_extra "forj"
  k_with "call type:range" => k_extra "range"
  k_with "pyIter ref" => k_extra "iter"
  k_with "last pyIter ref" => k_extra "iter"
  k_with "call builtin:len" => k_extra "len"
  k_with "subscriptTail Name Name ref int" => k_extra "item"
  k_with "subscriptTail Name Slice ref ref" => k_extra "slice"
  k_with "eval ListComp" => k_extra "comp"
  k_with "CompSrcT" => k_extra "src"
  k_with "call builtin:list.append" => k_extra "app"
  k_with "ar" => (first | with_reducible exact ar410 (by assumption) | with_reducible exact ar497 (by assumption) | with_reducible exact ar15 (by assumption) | with_reducible exact ar66 (by assumption) | with_reducible exact ar328 (by assumption) | with_reducible exact ar380 (by assumption) | with_reducible exact ar551 (by assumption) (by assumption) (by assumption) | with_reducible exact ar330 (by assumption) | with_reducible exact ar399 | with_reducible exact ar485 (by assumption) | with_reducible exact ar576 (by assumption) | with_reducible exact ar593 (by assumption) | with_reducible exact ar347 (by assumption) | with_reducible exact ar466 (by assumption) | with_reducible exact ar182 (by assumption) | with_reducible exact ar179 (by assumption) | with_reducible exact ar565 (by assumption) | with_reducible exact ar34)
  obtain ⟨len, hlen⟩ : ∃ len : Int, (rs.length : Int) = len := ⟨_, rfl⟩
  have hsz : (vr.toArray.size : Int) = len := by simp [hr.length, hlen]
  have hvsz : vr.toArray.size ≤ sizeLine := by rw [sizeLine_eq]; omega
  k_with_none
  k_with "exec For Name Call cons nil" => k_extra "forj"
  k_with "call type:range" => k_extra "range"
  k_with "pyIter ref" => k_extra "iter"
  k_with "last pyIter ref" => k_extra "iter"
  k_with "call builtin:len" => k_extra "len"
  k_with "subscriptTail Name Name ref int" => k_extra "item"
  k_with "subscriptTail Name Slice ref ref" => k_extra "slice"
  k_with "eval ListComp" => k_extra "comp"
  k_with "CompSrcT" => k_extra "src"
  k_with "call builtin:list.append" => k_extra "app"
  k_with "ar" => (first | with_reducible exact ar410 (by assumption) | with_reducible exact ar497 (by assumption) | with_reducible exact ar15 (by assumption) | with_reducible exact ar66 (by assumption) | with_reducible exact ar328 (by assumption) | with_reducible exact ar380 (by assumption) | with_reducible exact ar551 (by assumption) (by assumption) (by assumption) | with_reducible exact ar330 (by assumption) | with_reducible exact ar399 | with_reducible exact ar485 (by assumption) | with_reducible exact ar576 (by assumption) | with_reducible exact ar593 (by assumption) | with_reducible exact ar347 (by assumption) | with_reducible exact ar466 (by assumption) | with_reducible exact ar182 (by assumption) | with_reducible exact ar179 (by assumption) | with_reducible exact ar565 (by assumption) | with_reducible exact ar34)
  w_top off
  k_with "kall" => (exact fun p hp => Nat.ne_of_lt (Nat.lt_of_lt_of_le (hNews p hp) (by omega)))
  k_with "range" => (refine range_K1 (by k_asm) (by k_asm) ?_; intro D t u v h' tk' F' N' l1; (try k_lt l1))
  k_with "iter" => (refine Stop.mk ?_)
  k_with "len" => (refine len_is (News.isList (by k_asm) (show (d, listOf vr.toArray epr) ∈ _ from by first | exact .tail _ hD | exact .tail _ (.tail _ hD) | exact .tail _ (.tail _ (.tail _ hD)))) hsz (by omega) ?_; (try dsimp only))
  refine wpAny_call ?_
  k_dflt (refine' code_defC ?k1 ?k2 ?k3 ?k4 ?k5 ?kA ?kF ?kK ?k6 ?k7 ?k8 ?k9 ?kB ?kD ?_ ?c2 ?c3 ?c4; (case kA => exact rfl); (case kF => exact rfl); (case kK => assumption); (case k1 => k_asm); (case k2 => k_asm); (case k3 => k_asm); (case k4 => k_asm); (case k5 => k_asm); (case k6 => k_is); (case k7 => k_is); (case k8 => ktr_room); (case k9 => exact BindsTo.of_eq rfl); (case kB => exact rfl); (case kD => decide +kernel); (case c2 => exact rfl); (case c3 => exact rfl); (case c4 => exact rfl); k_whole; intro g' L' h' tk' cells' FG' F' N' Y' B' X' T' l1; (have hNews : ∀ p ∈ news, p.1 < L' := fun p hp => l1 p (by simp [hp])); (try k_lt l1); k_cells Y'; (try simp only [List.cons_append, List.nil_append] at N'); (try dsimp only); (try k_fold))
  k_steps
  refine Stop.of ?_
  (rename News _ _ _ _ => N8)
  (rename Fr _ _ _ _ => F8)
  (rename_i oj dj hl _ lhl _ _ _)
  have hls : (len.toNat : Int) = len := by omega
  have hks : rangeL 0 (len - 0).toNat = rangeL 0 rs.length := by congr 1; omega
  have hAn : ∀ q ∈ news, q.1 < D := ktn_ltOf l1.2.2
  have hln : ∀ q ∈ news, q.1 < hl := ktn_ltOf lhl.2
  refine for_src (o := rangeO 0 len t u v) (ks := rangeL 0 rs.length) (.inr ⟨0, len, _, _, _, rfl, by decide, by decide, by omega, by omega, hks.symm⟩) (msH _) (nsH hl (L' + 1) ((D, rangeO 0 len t u v) :: news)) (fun I i z => IntsAre z.vs z.hs ∧ z.hs = hooksTo rs i ∧ ∃ ov, z.oc.data = .cell ov) ⟨[], [], 0, _, oj⟩ (.tail _ (.tail _ (.head _))) rfl (msH_at F8 rfl (fun _ _ => rfl)) (fun q hq => N8 q (rot3 hq)) (fun I hI => ⟨.nil, rfl, _, dj⟩) ?hnw ?turn ?done
  case hnw =>
    intro I hI i z _ q hq
    rcases List.mem_cons.mp hq with rfl | hq
    · (have h0 : hl < I := hI (hl, _) (.head _)); exact Nat.ne_of_lt h0
    · rcases List.mem_cons.mp hq with rfl | hq
      · (have h0 : L' + 1 < I := hI (L' + 1, _) (.tail _ (.head _))); exact Nat.ne_of_lt h0
      · exact Nat.ne_of_lt (hI q (.tail _ (.tail _ hq)))
  case turn =>
    rintro I i k tk ⟨vs, hs, ep, ok, oc⟩ h9 tk9 own oI hI hki ⟨hzi, hzh, ov, hoc⟩ hown hoI hnc F9 N9
    dsimp only at hzi hzh hoc
    obtain ⟨hil, hik⟩ := rangeL_inv hki
    obtain ⟨rk, hrk⟩ : ∃ r, rs[i]? = some r := ⟨rs[i], List.getElem?_eq_getElem hil⟩
    obtain ⟨hrk0, hrk3⟩ := hrs rk (List.mem_of_getElem? hrk)
    obtain ⟨trk, hvrk⟩ := hr.get _ _ hrk
    have hkn : k.toNat = i := by omega
    obtain ⟨r9, hr9⟩ : ∃ r9, (D, rangeO 0 len t u v) :: news ++ own = r9 := ⟨_, rfl⟩
    have N10 := nsH_cons N9 hr9
    have hD9 : (d, listOf vr.toArray epr) ∈ r9 := by rw [← hr9]; exact .tail _ (List.mem_append.mpr (.inl hD))
    have hIl : hl < I := hI (hl, _) (.head _)
    have hIc : L' + 1 < I := hI (L' + 1, _) (.tail _ (.head _))
    have hoffl : ∀ q ∈ r9, q.1 ≠ hl := by
      rw [← hr9]
      intro q hq e
      rcases List.mem_cons.mp hq with rfl | hq
      · exact Nat.ne_of_gt l1.1 e
      · rcases List.mem_append.mp hq with hq | hq
        · exact Nat.ne_of_lt (hln q hq) e
        · rcases hown q hq with h | h
          · exact Nat.ne_of_gt hIl (h.symm.trans e)
          · exact Nat.ne_of_gt l1.1 (h.symm.trans e)
    have hoffc : ∀ q ∈ r9, q.1 ≠ L' + 1 := by
      rw [← hr9]
      intro q hq e
      rcases List.mem_cons.mp hq with rfl | hq
      · exact Nat.ne_of_gt l1.2.1 e
      · rcases List.mem_append.mp hq with hq | hq
        · exact Nat.ne_of_lt (Nat.lt_succ_of_lt (hNews q hq)) e
        · rcases hown q hq with h | h
          · exact Nat.ne_of_gt hIc (h.symm.trans e)
          · exact Nat.ne_of_gt l1.2.1 (h.symm.trans e)
    clear N9 N8 F8 hret
    k_with_none
    k_with "exec For Name Call cons nil" => k_extra "forj"
    k_with "call type:range" => k_extra "range"
    k_with "pyIter ref" => k_extra "iter"
    k_with "last pyIter ref" => k_extra "iter"
    k_with "call builtin:len" => k_extra "len"
    k_with "subscriptTail Name Name ref int" => k_extra "item"
    k_with "subscriptTail Name Slice ref ref" => k_extra "slice"
    k_with "eval ListComp" => k_extra "comp"
    k_with "CompSrcT" => k_extra "src"
    k_with "call builtin:list.append" => k_extra "app"
    k_with "ar" => (first | with_reducible exact ar410 (by assumption) | with_reducible exact ar497 (by assumption) | with_reducible exact ar15 (by assumption) | with_reducible exact ar66 (by assumption) | with_reducible exact ar328 (by assumption) | with_reducible exact ar380 (by assumption) | with_reducible exact ar551 (by assumption) (by assumption) (by assumption) | with_reducible exact ar330 (by assumption) | with_reducible exact ar399 | with_reducible exact ar485 (by assumption) | with_reducible exact ar576 (by assumption) | with_reducible exact ar593 (by assumption) | with_reducible exact ar347 (by assumption) | with_reducible exact ar466 (by assumption) | with_reducible exact ar182 (by assumption) | with_reducible exact ar179 (by assumption) | with_reducible exact ar565 (by assumption) | with_reducible exact ar34)
    k_with "forj" => ((with_reducible show wpAny _ _ (exec (Stmt.For (Expr.Name (Str.ofString "j") _) _ _ [] _) _) _ _ _); (rename Fr _ _ _ _ => lF'); (with_unfolding_all refine' For_C lF' ?_); k_whole)
    k_with "item" => (refine my_item (News.isList (by k_asm) (show (d, listOf vr.toArray epr) ∈ _ from by first | exact .tail _ (.tail _ hD9) | exact .tail _ (.tail _ (.tail _ hD9)) | exact .tail _ (.tail _ (.tail _ (.tail _ hD9))))) (by omega) (by omega) (show vr.toArray[k.toNat]? = some (.int rk trk) by rw [hkn]; simpa using hvrk) ?_; (try dsimp only))
    k_with "range" => (refine range_K1 (by k_asm) (by k_asm) ?_; intro D2 t2 u2 v2 h2 tk2 F2 N2 l2; (try k_lt l2))
    k_with "iter" => (refine Stop.mk ?_)
    k_steps
    refine Stop.of ?_
    k_with_none
    k_with "exec For Name Call cons nil" => k_extra "forj"
    k_with "call type:range" => k_extra "range"
    k_with "pyIter ref" => k_extra "iter"
    k_with "last pyIter ref" => k_extra "iter"
    k_with "call builtin:len" => k_extra "len"
    k_with "subscriptTail Name Name ref int" => k_extra "item"
    k_with "subscriptTail Name Slice ref ref" => k_extra "slice"
    k_with "eval ListComp" => k_extra "comp"
    k_with "CompSrcT" => k_extra "src"
    k_with "call builtin:list.append" => k_extra "app"
    k_with "ar" => (first | with_reducible exact ar410 (by assumption) | with_reducible exact ar497 (by assumption) | with_reducible exact ar15 (by assumption) | with_reducible exact ar66 (by assumption) | with_reducible exact ar328 (by assumption) | with_reducible exact ar380 (by assumption) | with_reducible exact ar551 (by assumption) (by assumption) (by assumption) | with_reducible exact ar330 (by assumption) | with_reducible exact ar399 | with_reducible exact ar485 (by assumption) | with_reducible exact ar576 (by assumption) | with_reducible exact ar593 (by assumption) | with_reducible exact ar347 (by assumption) | with_reducible exact ar466 (by assumption) | with_reducible exact ar182 (by assumption) | with_reducible exact ar179 (by assumption) | with_reducible exact ar565 (by assumption) | with_reducible exact ar34)
    (rename Fr _ _ _ _ => F8)
    refine forC_src (o := rangeO 0 rk t2 u2 v2) (ks := rangeL 0 rk.toNat) (.inr ⟨0, rk, _, _, _, rfl, by decide, by decide, hrk0, by omega, by congr 1; omega⟩) (fun _ => _) (nsH hl (L' + 1) ((D2, rangeO 0 rk t2 u2 v2) :: r9)) (fun I jj z => IntsAre z.vs z.hs ∧ z.hs = hooksTo rs i ++ hooksRow rs i jj ∧ ∃ ov, z.oc.data = .cell ov) ⟨vs, hs, ep, ok, oc⟩ (.tail _ (.tail _ (.head _))) rfl F8 (fun q hq => N2 q (rot3 hq)) (fun I hI => ⟨hzi, by rw [hzh]; simp [hooksRow], ov, hoc⟩) ?hnw2 ?turn2 ?done2
    case hnw2 =>
      intro I hI i z _ q hq
      rcases List.mem_cons.mp hq with rfl | hq
      · (have h0 : hl < I := hI (hl, _) (.head _)); exact Nat.ne_of_lt h0
      · rcases List.mem_cons.mp hq with rfl | hq
        · (have h0 : L' + 1 < I := hI (L' + 1, _) (.tail _ (.head _))); exact Nat.ne_of_lt h0
        · exact Nat.ne_of_lt (hI q (.tail _ (.tail _ hq)))
    case turn2 =>
      rintro I2 jj kj tj ⟨vs2, hs2, ep2, ok2, oc2⟩ h8 tk8 own2 oI2 hI2 hkj ⟨hzi2, hzh2, ov2, hoc2⟩ hown2 hoI2 hnc2 F9 N9
      dsimp only at hzi2 hzh2 hoc2
      obtain ⟨hjl, hjk⟩ := rangeL_inv hkj
      have hIl2 : hl < I2 := hI2 _ (List.mem_cons_self ..)
      have hIc2 : L' + 1 < I2 := hI2 _ (List.mem_cons_of_mem _ (List.mem_cons_self ..))
      obtain ⟨r10, hr10⟩ : ∃ r10, (D2, rangeO 0 rk t2 u2 v2) :: r9 ++ own2 = r10 := ⟨_, rfl⟩
      have N11 := nsH_cons N9 hr10
      have hD10 : (d, listOf vr.toArray epr) ∈ r10 := by rw [← hr10]; exact .tail _ (List.mem_append.mpr (.inl hD9))
      have hoffl2 : ∀ q ∈ r10, q.1 ≠ hl := by
        rw [← hr10]
        intro q hq e
        rcases List.mem_cons.mp hq with rfl | hq
        · exact Nat.ne_of_gt l2.1 e
        · rcases List.mem_append.mp hq with hq | hq
          · exact hoffl q hq e
          · rcases hown2 q hq with h | h
            · exact Nat.ne_of_gt hIl2 (h.symm.trans e)
            · exact Nat.ne_of_gt l2.1 (h.symm.trans e)
      have hoffc2 : ∀ q ∈ r10, q.1 ≠ L' + 1 := by
        rw [← hr10]
        intro q hq e
        rcases List.mem_cons.mp hq with rfl | hq
        · exact Nat.ne_of_gt l2.2.1 e
        · rcases List.mem_append.mp hq with hq | hq
          · exact hoffc q hq e
          · rcases hown2 q hq with h | h
            · exact Nat.ne_of_gt hIc2 (h.symm.trans e)
            · exact Nat.ne_of_gt l2.2.1 (h.symm.trans e)
      have hsz2 : vs2.toArray.size ≤ sizeLine := by
        rw [sizeLine_eq, List.size_toArray, hzi2.length, hzh2]
        exact hooks_len hil hjl hrs hrl hrk
      clear N9 N10 N2 F8
      k_with_none
      k_with "exec For Name Call cons nil" => k_extra "forj"
      k_with "call type:range" => k_extra "range"
      k_with "pyIter ref" => k_extra "iter"
      k_with "last pyIter ref" => k_extra "iter"
      k_with "call builtin:len" => k_extra "len"
      k_with "subscriptTail Name Name ref int" => k_extra "item"
      k_with "subscriptTail Name Slice ref ref" => k_extra "slice"
      k_with "eval ListComp" => k_extra "comp"
      k_with "CompSrcT" => k_extra "src"
      k_with "call builtin:list.append" => k_extra "app"
      k_with "ar" => (first | with_reducible exact ar410 (by assumption) | with_reducible exact ar497 (by assumption) | with_reducible exact ar15 (by assumption) | with_reducible exact ar66 (by assumption) | with_reducible exact ar328 (by assumption) | with_reducible exact ar380 (by assumption) | with_reducible exact ar551 (by assumption) (by assumption) (by assumption) | with_reducible exact ar330 (by assumption) | with_reducible exact ar399 | with_reducible exact ar485 (by assumption) | with_reducible exact ar576 (by assumption) | with_reducible exact ar593 (by assumption) | with_reducible exact ar347 (by assumption) | with_reducible exact ar466 (by assumption) | with_reducible exact ar182 (by assumption) | with_reducible exact ar179 (by assumption) | with_reducible exact ar565 (by assumption) | with_reducible exact ar34)
      k_with "kall" => (first | exact hoffc2 | exact hoffl2)
      k_with "item" => (refine my_item (News.isList (by k_asm) (show (d, listOf vr.toArray epr) ∈ _ from by first | exact .tail _ (.tail _ hD10) | exact .tail _ (.tail _ (.tail _ hD10)) | exact .tail _ (.tail _ (.tail _ (.tail _ hD10))))) (by omega) (by omega) (show vr.toArray[k.toNat]? = some (.int rk trk) by rw [hkn]; simpa using hvrk) ?_; (try dsimp only))
      k_with "slice" => (refine' kmk_slice_ints ?zF ?zN ?zl ?zp ?zq hr ?zm ?zc ?_ ?zs ?zt ?zz; (case zF => k_asm); (case zN => k_asm); (case zl => exact News.isList (by k_asm) (show (d, listOf vr.toArray epr) ∈ _ from by first | exact .tail _ (.tail _ hD10) | exact .tail _ (.tail _ (.tail _ hD10)))); (case zp => kmk_part); (case zq => kmk_part); (case zm => exact kmk_from hr (by omega)); (case zc => exact List.length_drop ..); (case zs => with_unfolding_all rfl); (case zt => kmk_pure); (case zz => exact hvsz); k_whole; intro D3 ws h' F' N' l1 hI3 hC3 hL3; (try k_lt l1))
      k_with "comp" => (k_dflt (refine LCt.ListComp_T (F₀ := by k_asm) (by with_unfolding_all rfl) (by decide) (by rfl) (by decide) (by rfl) ?_))
      k_with "src" => (refine Stop.mk ?_)
      k_steps
      refine Stop.of ?_
      k_with_none
      k_with "exec For Name Call cons nil" => k_extra "forj"
      k_with "call type:range" => k_extra "range"
      k_with "pyIter ref" => k_extra "iter"
      k_with "last pyIter ref" => k_extra "iter"
      k_with "call builtin:len" => k_extra "len"
      k_with "subscriptTail Name Name ref int" => k_extra "item"
      k_with "subscriptTail Name Slice ref ref" => k_extra "slice"
      k_with "eval ListComp" => k_extra "comp"
      k_with "CompSrcT" => k_extra "src"
      k_with "call builtin:list.append" => k_extra "app"
      k_with "ar" => (first | with_reducible exact ar410 (by assumption) | with_reducible exact ar497 (by assumption) | with_reducible exact ar15 (by assumption) | with_reducible exact ar66 (by assumption) | with_reducible exact ar328 (by assumption) | with_reducible exact ar380 (by assumption) | with_reducible exact ar551 (by assumption) (by assumption) (by assumption) | with_reducible exact ar330 (by assumption) | with_reducible exact ar399 | with_reducible exact ar485 (by assumption) | with_reducible exact ar576 (by assumption) | with_reducible exact ar593 (by assumption) | with_reducible exact ar347 (by assumption) | with_reducible exact ar466 (by assumption) | with_reducible exact ar182 (by assumption) | with_reducible exact ar179 (by assumption) | with_reducible exact ar565 (by assumption) | with_reducible exact ar34)
      refine LCt.CompSrcT.ledger rfl (by k_asm) (by k_asm) (List.mem_cons_self ..) (by rw [sizeLine_eq]; simp [hI3.length]; omega) ?_
      intro g9
      refine restT_filter (ks := rs.drop (k + 1).toNat) (fun b => decide (b > kj)) (by simp [hI3.length]) (fun i v hi hv => ?hP3) ?turn3 ?own3 (.inr ⟨_, List.mem_cons_self .., rfl, _, rfl⟩) ?fin3
      case hP3 =>
        obtain ⟨k3, t3, e3, hk3⟩ := IntsAre.at hI3 i v (by simpa using hv)
        exact ⟨k3, t3, hk3, e3⟩
      case turn3 =>
        intro b tb I3 oI3 C3 oC3 D4 m4 ys h4 tk4 E4 Q4 hb hC hx F4 N4 hQ
        k_steps
        exact hQ _
      case own3 =>
        intro b tb I3 oI3 C3 oC3 D4 m4 ys h4 tk4 E4 Q4 hb hC hx F4 N4 hQ
        k_steps
        exact hQ _ _
      case fin3 =>
        intro ys hys D4 h4 tk4 F4 N4 o4
        obtain ⟨nl, hnl⟩ : ∃ nl : Int, (((rs.drop (k + 1).toNat).filter fun b => decide (b > kj)).length : Int) = nl := ⟨_, rfl⟩
        have hsz4 : (ys.toArray.size : Int) = nl := by rw [List.size_toArray, hys.length, hnl]
        have hnl3 : nl ≤ 3 := by
          have := List.length_filter_le (fun b => decide (b > kj)) (rs.drop (k + 1).toNat)
          omega
        have hval : rk - kj + nl = hookN rs i jj := by
          unfold hookN
          have e1 : (k + 1).toNat = i + 1 := by omega
          rw [e1] at hnl
          rw [← hnl, List.getD_eq_getElem?_getD, hrk, hjk]
          rfl
        have hvl2 : vs2.length = hs2.length := hzi2.length
        simp only [LCg.Off1] at o4
        obtain ⟨o41, o42, o43, _⟩ := o4
        k_with_none
        k_with "exec For Name Call cons nil" => k_extra "forj"
        k_with "call type:range" => k_extra "range"
        k_with "pyIter ref" => k_extra "iter"
        k_with "last pyIter ref" => k_extra "iter"
        k_with "call builtin:len" => k_extra "len"
        k_with "subscriptTail Name Name ref int" => k_extra "item"
        k_with "subscriptTail Name Slice ref ref" => k_extra "slice"
        k_with "eval ListComp" => k_extra "comp"
        k_with "CompSrcT" => k_extra "src"
        k_with "call builtin:list.append" => k_extra "app"
        k_with "ar" => (first | with_reducible exact ar410 (by assumption) | with_reducible exact ar497 (by assumption) | with_reducible exact ar15 (by assumption) | with_reducible exact ar66 (by assumption) | with_reducible exact ar328 (by assumption) | with_reducible exact ar380 (by assumption) | with_reducible exact ar551 (by assumption) (by assumption) (by assumption) | with_reducible exact ar330 (by assumption) | with_reducible exact ar399 | with_reducible exact ar485 (by assumption) | with_reducible exact ar576 (by assumption) | with_reducible exact ar593 (by assumption) | with_reducible exact ar347 (by assumption) | with_reducible exact ar466 (by assumption) | with_reducible exact ar182 (by assumption) | with_reducible exact ar179 (by assumption) | with_reducible exact ar565 (by assumption) | with_reducible exact ar34)
        k_with "kall" => (first | exact hoffc2 | exact hoffl2)
        k_with "len" => (refine len_is (News.isList (by k_asm) (show (D4, LCg.lst ys) ∈ _ from List.mem_cons_self ..)) hsz4 (by omega) ?_; (try dsimp only))
        k_with "app" => (refine append_K (its := vs2.toArray) (n := ep2) (by k_asm) (by k_asm) (by k_upd) ?_ hsz2; intro h' F' N'; (try dsimp only at N'))
        k_steps
        exact MyEnd.next ⟨vs2 ++ [.int _ _], hs2 ++ [_], ep2 + 1, ok2, _⟩ (by k_asm) (nsH_back (by k_asm) hr10) ⟨hzi2.append (.cons _ _ .nil), by rw [hzh2, hooksRow, ← hval, List.append_assoc], _, by assumption⟩
    case done2 =>
      rintro I2 ⟨vs2, hs2, ep2, ok2, oc2⟩ h8 tk8 ⟨hzi2, hzh2, ov2, hoc2⟩ F9 N9
      dsimp only at hzi2 hzh2 hoc2
      rw [rangeL_len] at hzh2
      have N12 := nsH_cons (own := []) (by rw [List.append_nil]; exact N9) rfl
      have hrkk : rs.getD i 0 = rk := by rw [List.getD_eq_getElem?_getD, hrk]; rfl
      clear N10 N2 F8 N9
      k_with_none
      k_with "exec For Name Call cons nil" => k_extra "forj"
      k_with "call type:range" => k_extra "range"
      k_with "pyIter ref" => k_extra "iter"
      k_with "last pyIter ref" => k_extra "iter"
      k_with "call builtin:len" => k_extra "len"
      k_with "subscriptTail Name Name ref int" => k_extra "item"
      k_with "subscriptTail Name Slice ref ref" => k_extra "slice"
      k_with "eval ListComp" => k_extra "comp"
      k_with "CompSrcT" => k_extra "src"
      k_with "call builtin:list.append" => k_extra "app"
      k_with "ar" => (first | with_reducible exact ar410 (by assumption) | with_reducible exact ar497 (by assumption) | with_reducible exact ar15 (by assumption) | with_reducible exact ar66 (by assumption) | with_reducible exact ar328 (by assumption) | with_reducible exact ar380 (by assumption) | with_reducible exact ar551 (by assumption) (by assumption) (by assumption) | with_reducible exact ar330 (by assumption) | with_reducible exact ar399 | with_reducible exact ar485 (by assumption) | with_reducible exact ar576 (by assumption) | with_reducible exact ar593 (by assumption) | with_reducible exact ar347 (by assumption) | with_reducible exact ar466 (by assumption) | with_reducible exact ar182 (by assumption) | with_reducible exact ar179 (by assumption) | with_reducible exact ar565 (by assumption) | with_reducible exact ar34)
      dsimp only
      k_steps
      exact MyEnd.next ⟨vs2, hs2, ep2, some (.int k tk), oc2⟩ (msH_at (by k_asm) rfl (fun z a => by simp [msH, a])) (nsH_back2 (by k_asm) hr9) ⟨hzi2, by rw [hzh2, hooksTo, hrkk], ov2, hoc2⟩
  case done =>
    rintro I ⟨vs, hs, ep, ok, oc⟩ h9 tk9 ⟨hzi, hzh, ov, hoc⟩ F9 N9
    dsimp only at hzi hzh
    rw [rangeL_len] at hzh
    subst hzh
    have N10 := nsH_cons (own := []) (by rw [List.append_nil]; exact N9) rfl
    clear N9 N8 F8
    k_with_none
    k_with "exec For Name Call cons nil" => k_extra "forj"
    k_with "call type:range" => k_extra "range"
    k_with "pyIter ref" => k_extra "iter"
    k_with "last pyIter ref" => k_extra "iter"
    k_with "call builtin:len" => k_extra "len"
    k_with "subscriptTail Name Name ref int" => k_extra "item"
    k_with "subscriptTail Name Slice ref ref" => k_extra "slice"
    k_with "eval ListComp" => k_extra "comp"
    k_with "CompSrcT" => k_extra "src"
    k_with "call builtin:list.append" => k_extra "app"
    k_with "ar" => (first | with_reducible exact ar410 (by assumption) | with_reducible exact ar497 (by assumption) | with_reducible exact ar15 (by assumption) | with_reducible exact ar66 (by assumption) | with_reducible exact ar328 (by assumption) | with_reducible exact ar380 (by assumption) | with_reducible exact ar551 (by assumption) (by assumption) (by assumption) | with_reducible exact ar330 (by assumption) | with_reducible exact ar399 | with_reducible exact ar485 (by assumption) | with_reducible exact ar576 (by assumption) | with_reducible exact ar593 (by assumption) | with_reducible exact ar347 (by assumption) | with_reducible exact ar466 (by assumption) | with_reducible exact ar182 (by assumption) | with_reducible exact ar179 (by assumption) | with_reducible exact ar565 (by assumption) | with_reducible exact ar34)
    k_steps
    exact hret _ _ _ _ _ (by k_asm) (News.sub (by k_asm) (fun q hq => by
      rcases List.mem_cons.mp hq with rfl | hq
      · exact .head _
      · exact .tail _ (.tail _ (.tail _ (List.mem_append.mpr (.inl hq)))))) hln hzi
end
end Mine
namespace Mine
open PySem.Builtin.Int (intBits)

noncomputable def countsL (ns : List Int) (top : Int) : List Int := (rangeL 0 top.toNat).map fun r => (ns.count r : Int)
section
variable {prog : Program} {w : World} {A : Around} {h₀ : Heap} {L : Addr} {m : Str → Option Value} {env : Env} {elt : Expr} {x : Str} {scope : Scope} {cl : List (Str × Addr)} {s : Shared} {S : List (Addr × Obj) → Prop} {P : Nat → Value → Prop} {Fin : List Value → List (Addr × Obj) → Prop} {news : List (Addr × Obj)}
/-- the ints that an element tells, one for each int of the source -/
theorem rest_map {n : Nat} {ks : List Int} (g : Int → Int) (hks : ks.length = n) (hP : ∀ i v, i < n → P i v → ∃ k t, ks[i]? = some k ∧ v = .int k t)
    (own : ∀ k t I oI C oC D m₂ ys h tk (E' : Value → Shared → Prop) (Q' : Value → Shared → Prop), k ∈ ks → LCg.NsObj oC m₂ → m₂ x = some (.int k t) → Fr h₀ L h m → News h₀ L h ((I, oI) :: (C, oC) :: (D, LCg.lst ys) :: news) → 
      (∀ t' tk', Q' (.int (g k) t') { s with heap := h, toks := tk' }) →
      wpAny (model prog w) A (eval elt (compEnvC scope cl C env)) Q' E' { s with heap := h, toks := tk })
    (hS : S news) (fin : ∀ ys, IntsAre ys (ks.map g) → Fin ys news) : LCg.CompRest prog w A h₀ L m env elt x scope cl s S P Fin n 0 [] news := by
  have key : ∀ (j i : Nat) (ys : List Value), i + j = n → IntsAre ys ((ks.take i).map g) → LCg.CompRest prog w A h₀ L m env elt x scope cl s S P Fin j i ys news := by
    intro j
    induction j with
    | zero =>
      intro i ys hi hy
      have e : i = ks.length := by omega
      subst e
      rw [List.take_length] at hy
      exact LCg.CompRest.zero (fin ys hy)
    | succ j ih =>
      intro i ys hi hy
      refine LCg.CompRest.succ ?_
      intro v I oI C oC D m₂ h tk E' hv hC hx F N off ne
      obtain ⟨k, t, hk, hv'⟩ := hP i v (by omega) hv
      rw [hv'] at hx
      refine own k t I oI C oC D m₂ ys h tk E' _ (List.mem_of_getElem? hk) hC hx F N fun t' tk'' => ?_
      refine ⟨h, tk'', news, rfl, F, N, off, hS, ih (i + 1) _ (by omega) ?_⟩
      rw [List.take_add_one, hk]
      simpa using IntsAre.append hy (.cons (g k) t' .nil)
  exact key n 0 [] (by omega) (by simp only [List.take_zero, List.map_nil]; exact .nil)
end
section
variable {w : World} {p : Program} {loose : List Str} {mean : ExcName → Option Value} {mg mb : Str → Option Value}
  {dp un : Nat} {gd : Option (List Code)} {cn : Str} {cs : Scope} {a : Addr} {ccd : Value} {cl : List (Str × Addr)} {outer : List Env} {A₀ : Around} {base h₀ : Heap} {L : Addr} {m : Str → Option Value} {news : List (Addr × Obj)} {s : Shared}
  {Q E : Value → Shared → Prop}

set_option maxRecDepth 100000 in
set_option maxHeartbeats 1600000 in
theorem t_counts {d : Addr} {vs : List Value} {ns : List Int} {ep : Nat} {top : Int} {tt : Tok} (B : Below A₀ base outer h₀) (F : Fr h₀ L s.heap m) (X : (hd.heap_39 w.params).In h₀) (N : News h₀ L s.heap news) (T : Top p loose mean mg mb h₀) (hk : cs.kind = .function)
  (hD : (d, listOf vs.toArray ep) ∈ news) (hi : IntsAre vs ns) (ht0 : 0 ≤ top) (ht : top ≤ 100)
  (hd : dp + 200 < recursionLimit) (hu : un + 1600 < cLine)
  (hret : ∀ D vs' ep' h' tk', Fr h₀ L h' m → News h₀ L h' ((D, listOf vs'.toArray ep') :: news) → IntsAre vs' (countsL ns top) → Q (.ref D) { s with heap := h', toks := tk' }) :
    wpAny (model PR w) (ktrTop dp un gd cn cs L a ccd cl outer) (call (.ref 120) [.ref d, .int top tt]) Q E s := by
  k_with_none
  k_with "call type:range" => k_extra "range"
  k_with "eval ListComp" => k_extra "comp"
  k_with "CompSrc" => k_extra "src"
  k_with "k_mem" => ((repeat refine List.mem_cons_of_mem _ ?_); ktr_member)
  k_with "getMethod ref" => k_extra "meth"
  k_with "call builtin:list.count" => k_extra "count"
  k_with "ar" => (first | with_reducible exact ar410 (by assumption) | with_reducible exact ar56 | with_reducible exact ar69 | with_reducible exact ar145 (by assumption) | with_reducible exact ar136 (by assumption) | with_reducible exact ar629 (by assumption) | with_reducible exact ar572 (by assumption) | with_reducible exact ar611 (by assumption))
  k_with_none
  k_with "call type:range" => k_extra "range"
  k_with "eval ListComp" => k_extra "comp"
  k_with "CompSrc" => k_extra "src"
  k_with "k_mem" => ((repeat refine List.mem_cons_of_mem _ ?_); ktr_member)
  k_with "getMethod ref" => k_extra "meth"
  k_with "call builtin:list.count" => k_extra "count"
  k_with "ar" => (first | with_reducible exact ar410 (by assumption) | with_reducible exact ar56 | with_reducible exact ar69 | with_reducible exact ar145 (by assumption) | with_reducible exact ar136 (by assumption) | with_reducible exact ar629 (by assumption) | with_reducible exact ar572 (by assumption) | with_reducible exact ar611 (by assumption))
  w_top off
  k_with "kall" => (exact fun p hp => Nat.ne_of_lt (Nat.lt_of_lt_of_le (hNews p hp) (by omega)))
  k_with "range" => (refine range_K1 (by k_asm) (by k_asm) ?_; intro D t u v h' tk' F' N' l1; (try k_lt l1))
  k_with "comp" => (k_dflt (refine LCg.ListComp_U (F₀ := by k_asm) (by with_unfolding_all rfl) (by decide) (by rfl) (by decide) (by rfl) ?_))
  k_with "src" => (refine Stop.mk ?_)
  refine wpAny_call ?_
  k_dflt (refine' code_defC ?k1 ?k2 ?k3 ?k4 ?k5 ?kA ?kF ?kK ?k6 ?k7 ?k8 ?k9 ?kB ?kD ?_ ?c2 ?c3 ?c4; (case kA => exact rfl); (case kF => exact rfl); (case kK => assumption); (case k1 => k_asm); (case k2 => k_asm); (case k3 => k_asm); (case k4 => k_asm); (case k5 => k_asm); (case k6 => k_is); (case k7 => k_is); (case k8 => ktr_room); (case k9 => exact BindsTo.of_eq rfl); (case kB => exact rfl); (case kD => decide +kernel); (case c2 => exact rfl); (case c3 => exact rfl); (case c4 => exact rfl); k_whole; intro g' L' h' tk' cells' FG' F' N' Y' B' X' T' l1; (have hNews : ∀ p ∈ news, p.1 < L' := fun p hp => l1 p (by simp [hp])); (try k_lt l1); k_cells Y'; (try simp only [List.cons_append, List.nil_append] at N'); (try dsimp only); (try k_fold))
  k_steps
  refine Stop.of ?_
  k_with_none
  k_with "call type:range" => k_extra "range"
  k_with "eval ListComp" => k_extra "comp"
  k_with "CompSrc" => k_extra "src"
  k_with "k_mem" => ((repeat refine List.mem_cons_of_mem _ ?_); ktr_member)
  k_with "getMethod ref" => k_extra "meth"
  k_with "call builtin:list.count" => k_extra "count"
  k_with "ar" => (first | with_reducible exact ar410 (by assumption) | with_reducible exact ar56 | with_reducible exact ar69 | with_reducible exact ar145 (by assumption) | with_reducible exact ar136 (by assumption) | with_reducible exact ar629 (by assumption) | with_reducible exact ar572 (by assumption) | with_reducible exact ar611 (by assumption))
  have hr := (N' _ (List.mem_cons_self ..)).1
  refine LCg.CompSrc.range (n := top.toNat) rfl (by k_asm) (by k_asm) hr (small_one (by omega) (by omega) (by omega) (by omega)) (by rw [rangeSize_one]; split <;> omega) (by rw [sizeLine_eq]; omega) ?_
  intro g9
  refine rest_map (ks := rangeL 0 top.toNat) (fun r => (ns.count r : Int)) (rangeL_len _ _) (fun i v hi hv => ?hP) ?own trivial ?fin
  case hP =>
    obtain ⟨t, rfl⟩ := hv
    exact ⟨_, t, rangeL_get _ i 0 hi, rfl⟩
  case own =>
    intro b tb I3 oI3 C3 oC3 D4 m4 ys h4 tk4 E4 Q4 hb hC hx F4 N4 hQ
    k_with "meth" => (k_dflt (refine listMethod_K (by k_asm) (show (d, listOf vs.toArray ep) ∈ _ from .tail _ (.tail _ (.tail _ (.tail _ (.tail _ hD))))) PySem.F.slot_list_count PySem.F.type_list_count ?_))
    k_with "count" => (refine count_list_ints (News.isList (by k_asm) (show (d, listOf vs.toArray ep) ∈ _ from .tail _ (.tail _ (.tail _ (.tail _ (.tail _ hD)))))) hi ?_)
    k_steps
    exact hQ _ _
  case fin =>
    intro ys hys D4 h4 tk4 F4 N4 o4
    k_with_none
    k_with "call type:range" => k_extra "range"
    k_with "eval ListComp" => k_extra "comp"
    k_with "CompSrc" => k_extra "src"
    k_with "k_mem" => ((repeat refine List.mem_cons_of_mem _ ?_); ktr_member)
    k_with "getMethod ref" => k_extra "meth"
    k_with "call builtin:list.count" => k_extra "count"
    k_with "ar" => (first | with_reducible exact ar410 (by assumption) | with_reducible exact ar56 | with_reducible exact ar69 | with_reducible exact ar145 (by assumption) | with_reducible exact ar136 (by assumption) | with_reducible exact ar629 (by assumption) | with_reducible exact ar572 (by assumption) | with_reducible exact ar611 (by assumption))
    k_steps
    exact hret D4 ys _ _ _ (by k_asm) (News.sub (by k_asm) (fun q hq => by
      rcases List.mem_cons.mp hq with rfl | hq
      · exact .head _
      · exact .tail _ (.tail _ (.tail _ hq)))) hys
end
end Mine
namespace Mine
open PySem.Builtin.Int (intBits)

noncomputable def fillsL : List Int → List Int → Bool
  | [], _ => true
  | k :: r, f => if 0 < k ∧ (f.set k.toNat (f.getD k.toNat 0 + 1)).getD (k - 1).toNat 0 < (f.set k.toNat (f.getD k.toNat 0 + 1)).getD k.toNat 0 then false else fillsL r (f.set k.toNat (f.getD k.toNat 0 + 1))

section
variable {prog : Program} {w : World} {A : Around} {E : Value → Shared → Prop} {s : Shared}
theorem item_ints {Q : Value → Shared → Prop} {value slice : Expr} {l : Addr} {vs : List Value} {ns : List Int} {k x : Int} {u : Tok} (hl : s.heap.IsList l vs.toArray) (hi : IntsAre vs ns) (h0 : 0 ≤ k) (hhi : k < 2 ^ 63) (hx : ns[k.toNat]? = some x) (h : ∀ t, Q (.int x t) s)
    (hs : subscripted slice false (.ref l) (.int k u) = operate [.ref l, .int k u] (getItem (.ref l) (.int k u)) := by with_unfolding_all rfl) :
    wpAny (model prog w) A (subscriptTail value slice (.ref l) (.int k u)) Q E s := by
  obtain ⟨t, ht⟩ := hi.get _ _ hx
  exact my_item hl h0 hhi (by simpa using ht) (h t) hs
theorem gitem_ints {Q : Value → Shared → Prop} {l : Addr} {vs : List Value} {ns : List Int} {k x : Int} {u : Tok} (hl : s.heap.IsList l vs.toArray) (hi : IntsAre vs ns) (h0 : 0 ≤ k) (hhi : k < 2 ^ 63) (hx : ns[k.toNat]? = some x) (h : ∀ t, Q (.int x t) s) :
    wpAny (model prog w) A (getItem (.ref l) (.int k u)) Q E s := by
  obtain ⟨t, ht⟩ := hi.get _ _ hx
  exact wpAny_getItem_list hl h0 hhi (by simpa using ht) (h t)
end
structure FS where
  vs : List Value
  f : List Int
  ok : Option Value
noncomputable def msF (m₀ : Str → Option Value) (x : FS) : Str → Option Value := fun z => if z = Str.ofString "k" then x.ok else m₀ z
theorem msF_at {h₀ h : Heap} {L : Addr} {m m₀ : Str → Option Value} {x : FS} (F : Fr h₀ L h m) (h1 : m (Str.ofString "k") = x.ok)
    (h4 : ∀ z, z ≠ Str.ofString "k" → m z = m₀ z) : Fr h₀ L h (msF m₀ x) := by
  have e : m = msF m₀ x := by
    funext z
    unfold msF
    split
    · rename_i e; rw [e, h1]
    · exact h4 z (by assumption)
  exact e ▸ F
noncomputable def nsF (fl : Addr) (rest : List (Addr × Obj)) (x : FS) : List (Addr × Obj) := (fl, listOf x.vs.toArray 0) :: rest
theorem nsF_cons {h₀ h : Heap} {L fl : Addr} {r1 own r9 : List (Addr × Obj)} {vs : List Value} {f : List Int} {ok : Option Value} (N : News h₀ L h (nsF fl r1 ⟨vs, f, ok⟩ ++ own)) (h9 : r1 ++ own = r9) : News h₀ L h ((fl, listOf vs.toArray 0) :: r9) := by
  rw [← h9]; exact N
theorem nsF_ex {h₀ h : Heap} {L fl : Addr} {r1 own : List (Addr × Obj)} {vs : List Value} {f : List Int} {ok : Option Value} (N : News h₀ L h (nsF fl r1 ⟨vs, f, ok⟩ ++ own)) : ∃ r9, r1 ++ own = r9 ∧ News h₀ L h ((fl, listOf vs.toArray 0) :: r9) := ⟨_, rfl, N⟩
theorem nsF_back {h₀ h : Heap} {L fl : Addr} {r1 own r9 : List (Addr × Obj)} {vs : List Value} {f : List Int} {ok : Option Value} (N : News h₀ L h ((fl, listOf vs.toArray 0) :: r9)) (h9 : r1 ++ own = r9) : News h₀ L h (nsF fl r1 ⟨vs, f, ok⟩ ++ own) := by
  rw [← h9] at N; exact N
theorem nsF_news {h₀ h : Heap} {L : Addr} {e l : Addr × Obj} {news own r9 : List (Addr × Obj)} (N : News h₀ L h (e :: r9)) (h9 : (l :: news) ++ own = r9) : News h₀ L h news := fun q hq => N q (.tail _ (by rw [← h9]; exact .tail _ (List.mem_append.mpr (.inl hq))))
section
variable {w : World} {p : Program} {loose : List Str} {mean : ExcName → Option Value} {mg mb : Str → Option Value}
  {dp un : Nat} {gd : Option (List Code)} {cn : Str} {cs : Scope} {a : Addr} {ccd : Value} {cl : List (Str × Addr)} {outer : List Env} {A₀ : Around} {base h₀ : Heap} {L : Addr} {m : Str → Option Value} {news : List (Addr × Obj)} {s : Shared}
  {Q E : Value → Shared → Prop}

set_option maxRecDepth 100000 in
set_option maxHeartbeats 1600000 in
theorem t_fills {dw dr : Addr} {vw vr : List Value} {ws rs : List Int} {epw epr : Nat} (B : Below A₀ base outer h₀) (F : Fr h₀ L s.heap m) (X : (hd.heap_39 w.params).In h₀) (N : News h₀ L s.heap news) (T : Top p loose mean mg mb h₀) (hk : cs.kind = .function)
  (hDw : (dw, listOf vw.toArray epw) ∈ news) (hDr : (dr, listOf vr.toArray epr) ∈ news) (hiw : IntsAre vw ws) (hir : IntsAre vr rs) (hrl : rs.length ≤ 3) (hws : ∀ k ∈ ws, 0 ≤ k ∧ k < rs.length)
  (hd : dp + 200 < recursionLimit) (hu : un + 1600 < cLine)
  (hret : ∀ h' tk', Fr h₀ L h' m → News h₀ L h' news → Q (.bool (fillsL ws (List.replicate rs.length 0))) { s with heap := h', toks := tk' }) :
    wpAny (model PR w) (ktrTop dp un gd cn cs L a ccd cl outer) (call (.ref 96) [.ref dw, .ref dr]) Q E s := by
  k_with_none
  k_with "exec For Name Name cons nil" => k_extra "for"
  k_with "last pyIter ref" => k_extra "iter"
  k_with "call builtin:len" => k_extra "len"
  k_with "binaryOp Mult ref int" => k_extra "rep"
  k_with "subscriptTail Name Name ref int" => k_extra "item"
  k_with "getItem ref int" => k_extra "gitem"
  k_with "setItem ref int" => k_extra "set"
  k_with "ar" => (first | with_reducible exact ar134 (by assumption) | with_reducible exact ar446 (by assumption) | with_reducible exact ar62 (by assumption) (by assumption) (by assumption) | with_reducible exact ar533 (by assumption) (by assumption) | with_reducible exact ar23 (by assumption) (by assumption) | with_reducible exact ar474 (by assumption) | with_reducible exact ar234 (by assumption) (by assumption) | with_reducible exact ar608 (by assumption) (by assumption) | with_reducible exact ar173)
  obtain ⟨len, hlen⟩ : ∃ len : Int, (rs.length : Int) = len := ⟨_, rfl⟩
  have hsz : (vr.toArray.size : Int) = len := by simp [hir.length, hlen]
  k_with_none
  k_with "exec For Name Name cons nil" => k_extra "for"
  k_with "last pyIter ref" => k_extra "iter"
  k_with "call builtin:len" => k_extra "len"
  k_with "binaryOp Mult ref int" => k_extra "rep"
  k_with "subscriptTail Name Name ref int" => k_extra "item"
  k_with "getItem ref int" => k_extra "gitem"
  k_with "setItem ref int" => k_extra "set"
  k_with "ar" => (first | with_reducible exact ar134 (by assumption) | with_reducible exact ar446 (by assumption) | with_reducible exact ar62 (by assumption) (by assumption) (by assumption) | with_reducible exact ar533 (by assumption) (by assumption) | with_reducible exact ar23 (by assumption) (by assumption) | with_reducible exact ar474 (by assumption) | with_reducible exact ar234 (by assumption) (by assumption) | with_reducible exact ar608 (by assumption) (by assumption) | with_reducible exact ar173)
  w_top off
  k_with "for" => ((rename Fr _ _ _ _ => lF'); (with_unfolding_all refine' For_invVF lF' ?k1 ?k2 ?_; (case k1 => exact rfl); (case k2 => exact rfl); k_whole))
  k_with "iter" => (refine Stop.mk ?_)
  k_with "len" => (refine len_is (News.isList (by k_asm) (show (dr, listOf vr.toArray epr) ∈ _ from by first | exact hDr | exact .tail _ hDr)) hsz (by omega) ?_; (try dsimp only))
  k_with "rep" => (refine mul_one (by k_asm) (by k_asm) (by is_list) (by omega) (by omega) ?_; intro D vs h' F' N' l1 i1; (try k_lt l1))
  refine wpAny_call ?_
  k_dflt ktr_enter
  k_steps
  refine Stop.of ?_
  k_with_none
  k_with "exec For Name Name cons nil" => k_extra "for"
  k_with "last pyIter ref" => k_extra "iter"
  k_with "call builtin:len" => k_extra "len"
  k_with "binaryOp Mult ref int" => k_extra "rep"
  k_with "subscriptTail Name Name ref int" => k_extra "item"
  k_with "getItem ref int" => k_extra "gitem"
  k_with "setItem ref int" => k_extra "set"
  k_with "ar" => (first | with_reducible exact ar134 (by assumption) | with_reducible exact ar446 (by assumption) | with_reducible exact ar62 (by assumption) (by assumption) (by assumption) | with_reducible exact ar533 (by assumption) (by assumption) | with_reducible exact ar23 (by assumption) (by assumption) | with_reducible exact ar474 (by assumption) | with_reducible exact ar234 (by assumption) (by assumption) | with_reducible exact ar608 (by assumption) (by assumption) | with_reducible exact ar173)
  (rename News _ _ _ _ => N8)
  (rename Fr _ _ _ _ => F8)
  have e0 : len.toNat = rs.length := by omega
  rw [e0] at i1
  refine for_src (.inl ⟨vw, epw, rfl, hiw⟩) (msF _) (nsF D (_ :: news)) (fun I i z => IntsAre z.vs z.f ∧ z.f.length = rs.length ∧ fillsL (ws.drop i) z.f = fillsL ws (List.replicate rs.length 0)) ⟨vs, List.replicate rs.length 0, _⟩ (.tail _ (.tail _ hDw)) rfl (msF_at F8 rfl (fun _ _ => rfl)) N8 (fun I hI => ⟨i1, by simp, rfl⟩) ?hnw ?turn ?done
  case hnw =>
    intro I hI i z _ q hq
    rcases List.mem_cons.mp hq with rfl | hq
    · (have h0 : D < I := hI (D, _) (.head _)); exact Nat.ne_of_lt h0
    · exact Nat.ne_of_lt (hI q (.tail _ hq))
  case turn =>
    rintro I i k tk ⟨vs, f, ok⟩ h9 tk9 own oI hI hki ⟨hzi, hzl, hzf⟩ hown hoI hnc F9 N9
    dsimp only at hzi hzl hzf
    obtain ⟨hk0, hkl⟩ := hws k (List.mem_of_getElem? hki)
    have hdr : ws.drop i = k :: ws.drop (i + 1) := by
      obtain ⟨h1, h2⟩ := List.getElem?_eq_some_iff.mp hki
      rw [List.drop_eq_getElem_cons h1, h2]
    rw [hdr] at hzf
    obtain ⟨r9, hr9, N10⟩ := nsF_ex N9
    have hIl : D < I := hI (D, _) (.head _)
    have hoffl : ∀ q ∈ r9, q.1 ≠ D := by
      rw [← hr9]
      intro q hq e
      rcases List.mem_append.mp hq with hq | hq
      · rcases List.mem_cons.mp hq with rfl | hq
        · exact Nat.ne_of_lt l1.1 e
        · exact Nat.ne_of_lt (ktn_ltOf l1.2 q hq) e
      · rcases hown q hq with h | h
        · exact Nat.ne_of_gt hIl (h.symm.trans e)
        · exact Nat.ne_of_lt (ktn_ltOf l1.2 _ hDw) (h.symm.trans e)
    obtain ⟨x, hx⟩ : ∃ x, f[k.toNat]? = some x := ⟨f[k.toNat]'(by omega), List.getElem?_eq_getElem (by omega)⟩
    clear N9 N8 F8
    k_with "gitem" => (refine gitem_ints (News.isList (by k_asm) (.head _)) hzi hk0 (by omega) hx ?_; intro tx)
    k_with "set" => (refine set_head (by k_asm) (by k_asm) hoffl hzi hk0 (by omega) (by omega) ?_; intro h' vs2 F' N' i2)
    k_steps
    · have e9 : false = fillsL ws (List.replicate rs.length 0) := by
        rw [← hzf, fillsL]
        exact (if_pos ⟨by assumption, by assumption⟩).symm
      dsimp only
      dsimp only [MyEnd]
      k_steps
      rw [e9]
      exact hret _ _ (by k_asm) (nsF_news (by k_asm) hr9)
    · exact MyEnd.next ⟨_, _, _⟩ (msF_at (by k_asm) rfl (fun z a => by simp [msF, a])) (nsF_back (by k_asm) hr9) ⟨i2, by simp [hzl], by
        rw [← hzf, fillsL]
        exact (if_neg (fun q => absurd q.2 (by assumption))).symm⟩
    · exact MyEnd.next ⟨_, _, _⟩ (msF_at (by k_asm) rfl (fun z a => by simp [msF, a])) (nsF_back (by k_asm) hr9) ⟨i2, by simp [hzl], by
        rw [← hzf, fillsL]
        exact (if_neg (fun q => absurd q.1 (by assumption))).symm⟩
  case done =>
    rintro I ⟨vs, f, ok⟩ h9 tk9 ⟨hzi, hzl, hzf⟩ F9 N9
    dsimp only at hzi hzl hzf
    rw [List.drop_length] at hzf
    have e9 : true = fillsL ws (List.replicate rs.length 0) := by rw [← hzf]; rfl
    obtain ⟨r9, hr9, N10⟩ := nsF_ex (own := []) (by rw [List.append_nil]; exact N9)
    clear N9 N8 F8
    k_steps
    rw [e9]
    exact hret _ _ (by k_asm) (nsF_news (by k_asm) hr9)
end
end Mine
namespace Mine
open PySem.Builtin.Int (intBits)
noncomputable def chOf (ls : List Str) (k own : Int) : Str := if own = k - 1 then Str.ofString "(" else if own = k then Str.ofString ")" else ls.getD own.toNat (Str.ofString "")
noncomputable def inW (ls : List Str) (k : Int) (t : Str) (ws : List Int) : Str := ws.foldl (fun acc own => acc ++ chOf ls k own) t
theorem inW_snoc (ls : List Str) (k : Int) (t : Str) (ws : List Int) (o : Int) : inW ls k t (ws ++ [o]) = inW ls k t ws ++ chOf ls k o := by simp [inW, List.foldl_append]
theorem str_app_len (a b : Str) : (a ++ b).length = a.length + b.length := by
  show (Str.append a b).length = _
  simp [Str.append, Str.length]
section
variable {prog : Program} {w : World} {A : Around} {E : Value → Shared → Prop} {s : Shared}
theorem item_strs {Q : Value → Shared → Prop} {value slice : Expr} {l : Addr} {vs : List Value} {ns : List Str} {k : Int} {x : Str} {u : Tok} (hl : s.heap.IsList l vs.toArray) (hi : StrsAre vs ns) (h0 : 0 ≤ k) (hhi : k < 2 ^ 63) (hx : ns[k.toNat]? = some x) (h : ∀ t, Q (.str x t) s)
    (hs : subscripted slice false (.ref l) (.int k u) = operate [.ref l, .int k u] (getItem (.ref l) (.int k u)) := by with_unfolding_all rfl) :
    wpAny (model prog w) A (subscriptTail value slice (.ref l) (.int k u)) Q E s := by
  obtain ⟨t, ht⟩ := hi.get _ _ hx
  exact my_item hl h0 hhi (by simpa using ht) (h t) hs
end
noncomputable def textTo (ls : List Str) (hid : Str) (rs ws : List Int) : Nat → Str
  | 0 => Str.ofString ""
  | i + 1 => inW ls ((i : Int) + 1) (textTo ls hid rs ws i ++ hid) ws ++ Txt.mul (Str.ofString ")") (rs.getD i 0 - rs.getD (i + 1) 0)
theorem mul_len3 {n : Int} (h : n ≤ 3) : (Txt.mul (Str.ofString ")") n).length ≤ 3 := by
  k_with_none
  k_with "exec For Name Name cons nil" => k_extra "for"
  k_with "call type:range" => k_extra "range"
  k_with "pyIter ref" => k_extra "iter"
  k_with "last pyIter ref" => k_extra "iter"
  k_with "inplaceOp Add str str" => k_extra "sadd"
  k_with "subscriptTail Name Name ref int" => k_extra "item"
  k_with "subscriptTail Name BinOp ref int" => k_extra "item"
  k_with "call builtin:len" => k_extra "len"
  k_with "ar" => (first | with_reducible exact ar238 (by assumption))
  have e := len_mul (Str.ofString ")") n
  have e1 : (Str.ofString ")").length = 1 := by decide +kernel
  rw [e1] at e
  split at e <;> omega
structure TS where
  x : Str
  tx : Tok
  ok : Option Value
  oo : Option Value
noncomputable def msT (m₀ : Str → Option Value) (x : TS) : Str → Option Value := fun z => if z = Str.ofString "k" then x.ok else if z = Str.ofString "own" then x.oo else if z = Str.ofString "text" then some (.str x.x x.tx) else m₀ z
theorem msT_at {h₀ h : Heap} {L : Addr} {m m₀ : Str → Option Value} {x : TS} (F : Fr h₀ L h m) (h1 : m (Str.ofString "k") = x.ok) (h2 : m (Str.ofString "own") = x.oo) (h3 : m (Str.ofString "text") = some (.str x.x x.tx))
    (h4 : ∀ z, z ≠ Str.ofString "k" → z ≠ Str.ofString "own" → z ≠ Str.ofString "text" → m z = m₀ z) : Fr h₀ L h (msT m₀ x) := by
  have e : m = msT m₀ x := by
    funext z
    unfold msT
    split
    · rename_i e; rw [e, h1]
    · split
      · rename_i e; rw [e, h2]
      · split
        · rename_i e; rw [e, h3]
        · exact h4 z (by assumption) (by assumption) (by assumption)
  exact e ▸ F
section
variable {w : World} {p : Program} {loose : List Str} {mean : ExcName → Option Value} {mg mb : Str → Option Value}
  {dp un : Nat} {gd : Option (List Code)} {cn : Str} {cs : Scope} {a : Addr} {ccd : Value} {cl : List (Str × Addr)} {outer : List Env} {A₀ : Around} {base h₀ : Heap} {L : Addr} {m : Str → Option Value} {news : List (Addr × Obj)} {s : Shared}
  {Q E : Value → Shared → Prop}
set_option maxRecDepth 100000 in
set_option maxHeartbeats 1600000 in
theorem t_text {dw dr dl : Addr} {vw vr vl : List Value} {ws rs : List Int} {ls : List Str} {hid : Str} {th : Tok} {epw epr epl : Nat} (B : Below A₀ base outer h₀) (F : Fr h₀ L s.heap m) (X : (hd.heap_39 w.params).In h₀) (N : News h₀ L s.heap news) (T : Top p loose mean mg mb h₀) (hk : cs.kind = .function)
  (hDw : (dw, listOf vw.toArray epw) ∈ news) (hDr : (dr, listOf vr.toArray epr) ∈ news) (hDl : (dl, listOf vl.toArray epl) ∈ news) (hiw : IntsAre vw ws) (hir : IntsAre vr rs) (hil : StrsAre vl ls) (hwl : ws.length ≤ 6) (hhl : hid.length ≤ 3) (hll : ∀ l ∈ ls, l.length ≤ 1) (hrs : ∀ r ∈ rs, 0 ≤ r ∧ r ≤ 3) (hrl : rs.length ≤ 3) (hlsl : ls.length ≤ 3) (hws : ∀ k ∈ ws, 0 ≤ k ∧ k < ls.length)
  (hd : dp + 200 < recursionLimit) (hu : un + 1600 < cLine)
  (hret : ∀ t h' tk', Fr h₀ L h' m → News h₀ L h' news → Q (.str (textTo ls hid rs ws (rs.length - 1)) t) { s with heap := h', toks := tk' }) :
    wpAny (model PR w) (ktrTop dp un gd cn cs L a ccd cl outer) (call (.ref 103) [.ref dw, .ref dr, .str hid th, .ref dl]) Q E s := by
  k_with_none
  k_with "exec For Name Name cons nil" => k_extra "for"
  k_with "call type:range" => k_extra "range"
  k_with "pyIter ref" => k_extra "iter"
  k_with "last pyIter ref" => k_extra "iter"
  k_with "inplaceOp Add str str" => k_extra "sadd"
  k_with "subscriptTail Name Name ref int" => k_extra "item"
  k_with "subscriptTail Name BinOp ref int" => k_extra "item"
  k_with "call builtin:len" => k_extra "len"
  k_with "ar" => (first | with_reducible exact ar410 (by assumption) | with_reducible exact ar212 (by assumption) | with_reducible exact ar460 (by assumption) | with_reducible exact ar37 (by assumption) (by assumption) | with_reducible exact ar535 (by assumption) (by assumption) | with_reducible exact ar137 (by assumption) (by assumption) | with_reducible exact ar515 (by assumption) (by assumption) | with_reducible exact ar128 (by assumption) (by assumption) (by assumption) (by assumption) | with_reducible exact ar23 (by assumption) (by assumption) | with_reducible exact ar454 (by assumption) (by assumption) | with_reducible exact ar586 (by assumption) (by assumption) (by assumption) (by assumption) | with_reducible exact ar532 (by assumption) (by assumption) (by assumption) | with_reducible exact ar26 (by assumption) (by assumption) (by assumption) | with_reducible exact ar273 (by assumption) (by assumption) | with_reducible exact ar359 (by assumption) | with_reducible exact ar541 (by assumption) | with_reducible exact ar525 (by assumption) | with_reducible exact ar594 (by assumption) (by assumption) | with_reducible exact ar199 (by assumption) | with_reducible exact ar74 (by assumption) (by assumption) | with_reducible exact ar530 (by assumption) (by assumption) | with_reducible exact ar343 (by assumption) (by assumption) | with_reducible exact ar503 (by assumption) (by assumption) (by assumption) | with_reducible exact ar539 (by assumption) (by assumption) (by assumption) (by assumption) | with_reducible exact ar31 (by assumption) (by assumption) (by assumption) | with_reducible exact ar650 (by assumption))
  obtain ⟨len, hlen⟩ : ∃ len : Int, (rs.length : Int) = len := ⟨_, rfl⟩
  have hsz : (vr.toArray.size : Int) = len := by simp [hir.length, hlen]
  k_with_none
  k_with "exec For Name Name cons nil" => k_extra "for"
  k_with "call type:range" => k_extra "range"
  k_with "pyIter ref" => k_extra "iter"
  k_with "last pyIter ref" => k_extra "iter"
  k_with "inplaceOp Add str str" => k_extra "sadd"
  k_with "subscriptTail Name Name ref int" => k_extra "item"
  k_with "subscriptTail Name BinOp ref int" => k_extra "item"
  k_with "call builtin:len" => k_extra "len"
  k_with "ar" => (first | with_reducible exact ar410 (by assumption) | with_reducible exact ar212 (by assumption) | with_reducible exact ar460 (by assumption) | with_reducible exact ar37 (by assumption) (by assumption) | with_reducible exact ar535 (by assumption) (by assumption) | with_reducible exact ar137 (by assumption) (by assumption) | with_reducible exact ar515 (by assumption) (by assumption) | with_reducible exact ar128 (by assumption) (by assumption) (by assumption) (by assumption) | with_reducible exact ar23 (by assumption) (by assumption) | with_reducible exact ar454 (by assumption) (by assumption) | with_reducible exact ar586 (by assumption) (by assumption) (by assumption) (by assumption) | with_reducible exact ar532 (by assumption) (by assumption) (by assumption) | with_reducible exact ar26 (by assumption) (by assumption) (by assumption) | with_reducible exact ar273 (by assumption) (by assumption) | with_reducible exact ar359 (by assumption) | with_reducible exact ar541 (by assumption) | with_reducible exact ar525 (by assumption) | with_reducible exact ar594 (by assumption) (by assumption) | with_reducible exact ar199 (by assumption) | with_reducible exact ar74 (by assumption) (by assumption) | with_reducible exact ar530 (by assumption) (by assumption) | with_reducible exact ar343 (by assumption) (by assumption) | with_reducible exact ar503 (by assumption) (by assumption) (by assumption) | with_reducible exact ar539 (by assumption) (by assumption) (by assumption) (by assumption) | with_reducible exact ar31 (by assumption) (by assumption) (by assumption) | with_reducible exact ar650 (by assumption))
  w_top off
  k_with "for" => ((rename Fr _ _ _ _ => lF'); (with_unfolding_all refine' For_invVF lF' ?k1 ?k2 ?_; (case k1 => exact rfl); (case k2 => exact rfl); k_whole))
  k_with "range" => (refine range_K2 (by k_asm) (by k_asm) ?_; intro D t u v h' tk' F' N' l1; (try k_lt l1))
  k_with "iter" => (refine Stop.mk ?_)
  k_with "len" => (refine len_is (News.isList (by k_asm) (show (dr, listOf vr.toArray epr) ∈ _ from by first | exact hDr | exact .tail _ hDr)) hsz (by omega) ?_; (try dsimp only))
  refine wpAny_call ?_
  k_dflt ktr_enter
  k_steps
  refine Stop.of ?_
  k_with_none
  k_with "exec For Name Name cons nil" => k_extra "for"
  k_with "call type:range" => k_extra "range"
  k_with "pyIter ref" => k_extra "iter"
  k_with "last pyIter ref" => k_extra "iter"
  k_with "inplaceOp Add str str" => k_extra "sadd"
  k_with "subscriptTail Name Name ref int" => k_extra "item"
  k_with "subscriptTail Name BinOp ref int" => k_extra "item"
  k_with "call builtin:len" => k_extra "len"
  k_with "ar" => (first | with_reducible exact ar410 (by assumption) | with_reducible exact ar212 (by assumption) | with_reducible exact ar460 (by assumption) | with_reducible exact ar37 (by assumption) (by assumption) | with_reducible exact ar535 (by assumption) (by assumption) | with_reducible exact ar137 (by assumption) (by assumption) | with_reducible exact ar515 (by assumption) (by assumption) | with_reducible exact ar128 (by assumption) (by assumption) (by assumption) (by assumption) | with_reducible exact ar23 (by assumption) (by assumption) | with_reducible exact ar454 (by assumption) (by assumption) | with_reducible exact ar586 (by assumption) (by assumption) (by assumption) (by assumption) | with_reducible exact ar532 (by assumption) (by assumption) (by assumption) | with_reducible exact ar26 (by assumption) (by assumption) (by assumption) | with_reducible exact ar273 (by assumption) (by assumption) | with_reducible exact ar359 (by assumption) | with_reducible exact ar541 (by assumption) | with_reducible exact ar525 (by assumption) | with_reducible exact ar594 (by assumption) (by assumption) | with_reducible exact ar199 (by assumption) | with_reducible exact ar74 (by assumption) (by assumption) | with_reducible exact ar530 (by assumption) (by assumption) | with_reducible exact ar343 (by assumption) (by assumption) | with_reducible exact ar503 (by assumption) (by assumption) (by assumption) | with_reducible exact ar539 (by assumption) (by assumption) (by assumption) (by assumption) | with_reducible exact ar31 (by assumption) (by assumption) (by assumption) | with_reducible exact ar650 (by assumption))
  (rename News _ _ _ _ => N8)
  (rename Fr _ _ _ _ => F8)
  refine for_src (o := rangeO 1 len t u v) (ks := rangeL 1 (len - 1).toNat) (.inr ⟨1, len, _, _, _, rfl, by decide, by decide, by omega, by omega, rfl⟩) (msT _) (fun _ => (D, rangeO 1 len t u v) :: news) (fun I i z => z.x = textTo ls hid rs ws i ∧ z.x.length ≤ 20 * i) ⟨Str.ofString "", _, _, _⟩ (.head _) rfl (msT_at F8 rfl rfl rfl (fun _ _ _ _ => rfl)) N8 (fun I hI => ⟨rfl, Nat.le_of_eq (by decide +kernel : (Str.ofString "").length = 20 * 0)⟩) (fun I hI i y _ q hq => Nat.ne_of_lt (hI q hq)) ?turn ?done
  case turn =>
    rintro I i k tkk ⟨x, tx, ok, oo⟩ h9 tk9 own oI hI hki ⟨hxe, hxl⟩ hown hoI hnc F9 N9
    dsimp only at hxe hxl N9
    have hiu : i < (len - 1).toNat := by
      obtain ⟨h1, _⟩ := List.getElem?_eq_some_iff.mp hki
      rwa [rangeL_len] at h1
    have hik : i < 3 := by omega
    have hkv : k = (i : Int) + 1 := by
      rw [rangeL_get _ i 1 hiu] at hki
      have := Option.some.inj hki
      omega
    obtain ⟨r9, hr9⟩ : ∃ r9, (D, rangeO 1 len t u v) :: news ++ own = r9 := ⟨_, rfl⟩
    rw [hr9] at N9
    clear N8 F8
    k_with "sadd" => (dsimp only; refine PyProof.Rows.iadd_str ?_ (by rw [sizeLine_eq]; have := hki; omega); intro t2 tk2)
    k_with "for" => ((rename Fr _ _ _ _ => lF'); (with_unfolding_all refine' For_invVF lF' ?k1 ?k2 ?_; (case k1 => exact rfl); (case k2 => exact rfl); k_whole))
    k_with "iter" => (refine Stop.mk ?_)
    k_steps
    refine Stop.of ?_
    k_with_none
    k_with "exec For Name Name cons nil" => k_extra "for"
    k_with "call type:range" => k_extra "range"
    k_with "pyIter ref" => k_extra "iter"
    k_with "last pyIter ref" => k_extra "iter"
    k_with "inplaceOp Add str str" => k_extra "sadd"
    k_with "subscriptTail Name Name ref int" => k_extra "item"
    k_with "subscriptTail Name BinOp ref int" => k_extra "item"
    k_with "call builtin:len" => k_extra "len"
    k_with "ar" => (first | with_reducible exact ar410 (by assumption) | with_reducible exact ar212 (by assumption) | with_reducible exact ar460 (by assumption) | with_reducible exact ar37 (by assumption) (by assumption) | with_reducible exact ar535 (by assumption) (by assumption) | with_reducible exact ar137 (by assumption) (by assumption) | with_reducible exact ar515 (by assumption) (by assumption) | with_reducible exact ar128 (by assumption) (by assumption) (by assumption) (by assumption) | with_reducible exact ar23 (by assumption) (by assumption) | with_reducible exact ar454 (by assumption) (by assumption) | with_reducible exact ar586 (by assumption) (by assumption) (by assumption) (by assumption) | with_reducible exact ar532 (by assumption) (by assumption) (by assumption) | with_reducible exact ar26 (by assumption) (by assumption) (by assumption) | with_reducible exact ar273 (by assumption) (by assumption) | with_reducible exact ar359 (by assumption) | with_reducible exact ar541 (by assumption) | with_reducible exact ar525 (by assumption) | with_reducible exact ar594 (by assumption) (by assumption) | with_reducible exact ar199 (by assumption) | with_reducible exact ar74 (by assumption) (by assumption) | with_reducible exact ar530 (by assumption) (by assumption) | with_reducible exact ar343 (by assumption) (by assumption) | with_reducible exact ar503 (by assumption) (by assumption) (by assumption) | with_reducible exact ar539 (by assumption) (by assumption) (by assumption) (by assumption) | with_reducible exact ar31 (by assumption) (by assumption) (by assumption) | with_reducible exact ar650 (by assumption))
    (rename Fr _ _ _ _ => F8)
    (rename News _ _ _ r9 => N9)
    have hsub9 : ∀ q ∈ news, q ∈ r9 := fun q hq => by rw [← hr9]; exact .tail _ (List.mem_append.mpr (.inl hq))
    have hxh : (x ++ hid).length ≤ 20 * i + 3 := by rw [str_app_len]; omega
    refine for_src (.inl ⟨vw, epw, rfl, hiw⟩) (msT _) (fun _ => r9) (fun I j z => z.x = inW ls k (x ++ hid) (ws.take j) ∧ z.ok = some (.int k tkk) ∧ z.x.length ≤ 20 * i + 3 + j) ⟨x ++ hid, _, _, _⟩ (hsub9 _ hDw) rfl (msT_at F8 rfl rfl rfl (fun _ _ _ _ => rfl)) N9 (fun I hI => ⟨rfl, rfl, hxh⟩) (fun I hI i y _ q hq => Nat.ne_of_lt (hI q hq)) ?turn2 ?done2
    case turn2 =>
      rintro I2 j o to ⟨x2, tx2, ok2, oo2⟩ h8 tk8 own2 oI2 hI2 hkj ⟨hx2, hok2, hl2⟩ hown2 hoI2 hnc2 F9 N8
      dsimp only at hx2 hok2 hl2
      subst hok2
      have hjl : j < 6 := by
        obtain ⟨h1, _⟩ := List.getElem?_eq_some_iff.mp hkj
        omega
      obtain ⟨ho0, hol⟩ := hws o (List.mem_of_getElem? hkj)
      obtain ⟨lo, hlo⟩ : ∃ l, ls[o.toNat]? = some l := ⟨ls[o.toNat]'(by omega), List.getElem?_eq_getElem (by omega)⟩
      have hlo1 := hll lo (List.mem_of_getElem? hlo)
      have hlp : (Str.ofString "(").length = 1 := by decide +kernel
      have hlq : (Str.ofString ")").length = 1 := by decide +kernel
      clear F8
      k_with "item" => (refine item_strs (News.isList N8 (List.mem_append.mpr (.inl (hsub9 _ hDl)))) hil ho0 (by omega) hlo ?_; intro tl)
      k_with "sadd" => (dsimp only; refine PyProof.Rows.iadd_str ?_ (by rw [sizeLine_eq]; omega); intro t2 tk2)
      k_steps
      · rename o = k - 1 => e1
        exact MyEnd.next ⟨x2 ++ Str.ofString "(", t2, some (.int k tkk), some (.int o to)⟩ (msT_at (by k_asm) (by rfl) (by rfl) (by rfl) (fun z a b c => by simp [msT, a, b, c])) (by k_asm) ⟨by dsimp only; rw [take_snoc hkj, inW_snoc, ← hx2, chOf, if_pos e1], rfl, by dsimp only; rw [str_app_len]; omega⟩
      · rename ¬o = k - 1 => e1
        rename o = k => e2
        exact MyEnd.next ⟨x2 ++ Str.ofString ")", t2, some (.int k tkk), some (.int o to)⟩ (msT_at (by k_asm) (by rfl) (by rfl) (by rfl) (fun z a b c => by simp [msT, a, b, c])) (by k_asm) ⟨by dsimp only; rw [take_snoc hkj, inW_snoc, ← hx2, chOf, if_neg e1, if_pos e2], rfl, by dsimp only; rw [str_app_len]; omega⟩
      · rename ¬o = k - 1 => e1
        rename ¬o = k => e2
        have e3 : ls.getD o.toNat (Str.ofString "") = lo := by rw [List.getD_eq_getElem?_getD, hlo]; rfl
        exact MyEnd.next ⟨x2 ++ lo, t2, some (.int k tkk), some (.int o to)⟩ (msT_at (by k_asm) (by rfl) (by rfl) (by rfl) (fun z a b c => by simp [msT, a, b, c])) (by k_asm) ⟨by dsimp only; rw [take_snoc hkj, inW_snoc, ← hx2, chOf, if_neg e1, if_neg e2, e3], rfl, by dsimp only; rw [str_app_len]; omega⟩
    case done2 =>
      rintro I2 ⟨x2, tx2, ok2, oo2⟩ h8 tk8 ⟨hx2, hok2, hl2⟩ F9 N8
      dsimp only at hx2 hok2 hl2
      rw [List.take_length] at hx2
      subst hok2
      obtain ⟨ra, hra⟩ : ∃ r, rs[(k - 1).toNat]? = some r := ⟨rs[(k - 1).toNat]'(by omega), List.getElem?_eq_getElem (by omega)⟩
      obtain ⟨rb, hrb⟩ : ∃ r, rs[k.toNat]? = some r := ⟨rs[k.toNat]'(by omega), List.getElem?_eq_getElem (by omega)⟩
      obtain ⟨hra0, hra3⟩ := hrs ra (List.mem_of_getElem? hra)
      obtain ⟨hrb0, hrb3⟩ := hrs rb (List.mem_of_getElem? hrb)
      have hml := mul_len3 (n := ra - rb) (by omega)
      have e1 : (k - 1).toNat = i := by omega
      have e2 : k.toNat = i + 1 := by omega
      have hve : inW ls k (x ++ hid) ws ++ Txt.mul (Str.ofString ")") (ra - rb) = textTo ls hid rs ws (i + 1) := by
        rw [textTo, ← hxe, ← hkv]
        rw [e1] at hra
        rw [e2] at hrb
        rw [List.getD_eq_getElem?_getD, List.getD_eq_getElem?_getD, hra, hrb]
        rfl
      clear F8
      k_with_none
      k_with "exec For Name Name cons nil" => k_extra "for"
      k_with "call type:range" => k_extra "range"
      k_with "pyIter ref" => k_extra "iter"
      k_with "last pyIter ref" => k_extra "iter"
      k_with "inplaceOp Add str str" => k_extra "sadd"
      k_with "subscriptTail Name Name ref int" => k_extra "item"
      k_with "subscriptTail Name BinOp ref int" => k_extra "item"
      k_with "call builtin:len" => k_extra "len"
      k_with "ar" => (first | with_reducible exact ar410 (by assumption) | with_reducible exact ar212 (by assumption) | with_reducible exact ar460 (by assumption) | with_reducible exact ar37 (by assumption) (by assumption) | with_reducible exact ar535 (by assumption) (by assumption) | with_reducible exact ar137 (by assumption) (by assumption) | with_reducible exact ar515 (by assumption) (by assumption) | with_reducible exact ar128 (by assumption) (by assumption) (by assumption) (by assumption) | with_reducible exact ar23 (by assumption) (by assumption) | with_reducible exact ar454 (by assumption) (by assumption) | with_reducible exact ar586 (by assumption) (by assumption) (by assumption) (by assumption) | with_reducible exact ar532 (by assumption) (by assumption) (by assumption) | with_reducible exact ar26 (by assumption) (by assumption) (by assumption) | with_reducible exact ar273 (by assumption) (by assumption) | with_reducible exact ar359 (by assumption) | with_reducible exact ar541 (by assumption) | with_reducible exact ar525 (by assumption) | with_reducible exact ar594 (by assumption) (by assumption) | with_reducible exact ar199 (by assumption) | with_reducible exact ar74 (by assumption) (by assumption) | with_reducible exact ar530 (by assumption) (by assumption) | with_reducible exact ar343 (by assumption) (by assumption) | with_reducible exact ar503 (by assumption) (by assumption) (by assumption) | with_reducible exact ar539 (by assumption) (by assumption) (by assumption) (by assumption) | with_reducible exact ar31 (by assumption) (by assumption) (by assumption) | with_reducible exact ar650 (by assumption))
      k_with "item" => (refine item_ints (News.isList N8 (hsub9 _ hDr)) hir (by omega) (by omega) (by first | exact hra | exact hrb) ?_; intro tl)
      k_with "sadd" => (dsimp only; refine PyProof.Rows.iadd_str ?_ (by rw [sizeLine_eq]; omega); intro t2 tk2)
      dsimp only
      k_steps
      exact MyEnd.next ⟨x2 ++ Txt.mul (Str.ofString ")") (ra - rb), t2, some (.int k tkk), oo2⟩ (msT_at (by k_asm) (by rfl) (by rfl) (by rfl) (fun z a b c => by simp [msT, a, b, c])) (by rw [hr9]; k_asm) ⟨by dsimp only; rw [hx2]; exact hve, by dsimp only; rw [str_app_len]; omega⟩
  case done =>
    rintro I ⟨x, tx, ok, oo⟩ h9 tk9 ⟨hxe, hxl⟩ F9 N9
    dsimp only at hxe hxl N9
    rw [rangeL_len] at hxe
    have e9 : (len - 1).toNat = rs.length - 1 := by omega
    rw [e9] at hxe
    subst hxe
    clear N8 F8
    k_with_none
    k_with "exec For Name Name cons nil" => k_extra "for"
    k_with "call type:range" => k_extra "range"
    k_with "pyIter ref" => k_extra "iter"
    k_with "last pyIter ref" => k_extra "iter"
    k_with "inplaceOp Add str str" => k_extra "sadd"
    k_with "subscriptTail Name Name ref int" => k_extra "item"
    k_with "subscriptTail Name BinOp ref int" => k_extra "item"
    k_with "call builtin:len" => k_extra "len"
    k_with "ar" => (first | with_reducible exact ar410 (by assumption) | with_reducible exact ar212 (by assumption) | with_reducible exact ar460 (by assumption) | with_reducible exact ar37 (by assumption) (by assumption) | with_reducible exact ar535 (by assumption) (by assumption) | with_reducible exact ar137 (by assumption) (by assumption) | with_reducible exact ar515 (by assumption) (by assumption) | with_reducible exact ar128 (by assumption) (by assumption) (by assumption) (by assumption) | with_reducible exact ar23 (by assumption) (by assumption) | with_reducible exact ar454 (by assumption) (by assumption) | with_reducible exact ar586 (by assumption) (by assumption) (by assumption) (by assumption) | with_reducible exact ar532 (by assumption) (by assumption) (by assumption) | with_reducible exact ar26 (by assumption) (by assumption) (by assumption) | with_reducible exact ar273 (by assumption) (by assumption) | with_reducible exact ar359 (by assumption) | with_reducible exact ar541 (by assumption) | with_reducible exact ar525 (by assumption) | with_reducible exact ar594 (by assumption) (by assumption) | with_reducible exact ar199 (by assumption) | with_reducible exact ar74 (by assumption) (by assumption) | with_reducible exact ar530 (by assumption) (by assumption) | with_reducible exact ar343 (by assumption) (by assumption) | with_reducible exact ar503 (by assumption) (by assumption) (by assumption) | with_reducible exact ar539 (by assumption) (by assumption) (by assumption) (by assumption) | with_reducible exact ar31 (by assumption) (by assumption) (by assumption) | with_reducible exact ar650 (by assumption))
    k_steps
    exact hret _ _ _ (by k_asm) (News.sub (by k_asm) (fun q hq => .tail _ hq))
end
end Mine
namespace Mine

/-- a generator's step: no more than the heap and the tokens change, and what lies below bnd, but for C, stands -/
def Since (C bnd : Nat) (s₀ s : Shared) : Prop := ∃ h' tk, s = { s₀ with heap := h', toks := tk } ∧ ∀ b o, b ≠ C → b < bnd → s₀.heap.get? b = some o → h'.get? b = some o
noncomputable def gProto (h₀ : Heap) (C bnd : Nat) (P : Nat → Value → Heap → Prop) (n₀ : Nat) : Protocol := fun m s₀ v s kap =>
  P (n₀ - 1 - m) v s.heap ∧ Since C bnd s₀ s ∧ ∃ fp : List Addr, (∀ b ∈ fp, C ≤ b) ∧ ∀ s'' : Shared, (∀ b ∈ fp, ∀ o, s.heap.get? b = some o → s''.heap.get? b = some o) → (∀ b o, h₀.get? b = some o → s''.heap.get? b = some o) → kap (.send .none) s''
abbrev gEnd (C bnd : Nat) : GenEnd := fun n s₀ r s₁ => r = .ok (.ret .none) ∧ (n = 0 ∧ Since C bnd s₀ s₁)
def GenF (prog : Program) (w : World) (A : Around) (h₀ : Heap) (I g C bnd n₀ : Nat) (P : Nat → Value → Heap → Prop) (i : Nat) (s : Shared) : Prop :=
  s.heap.IsGen I g ∧ (∀ b o, h₀.get? b = some o → s.heap.get? b = some o) ∧ ∃ gs, ∃ fp : List Addr, s.gens[g]? = some gs ∧ (∀ b ∈ fp, C ≤ b) ∧ ∀ s'' : Shared, (∀ b ∈ fp, ∀ o, s.heap.get? b = some o → s''.heap.get? b = some o) → (∀ b o, h₀.get? b = some o → s''.heap.get? b = some o) →
    gs.Goes (model prog w) A.in1 (gEnd C bnd) (gProto h₀ C bnd P n₀) (n₀ - i) (.send .none) s''

/-- what a consumer may know of a generator -/
structure GenW (prog : Program) (w : World) (A : Around) (h₀ : Heap) (I C : Addr) (n : Nat) (P : Nat → Value → Heap → Prop) (St : Nat → Shared → Prop) : Prop where
  frame : ∀ i s, St i s → ∃ fp : List Addr, (∀ b ∈ fp, C ≤ b) ∧ ∀ h' tk, (∀ b ∈ fp, ∀ o, s.heap.get? b = some o → h'.get? b = some o) → (∀ b o, h₀.get? b = some o → h'.get? b = some o) → St i { s with heap := h', toks := tk }
  self : ∀ i (s : Shared) (Q : Value → Shared → Prop) (E : Value → Shared → Prop), St i s → Q (.ref I) s → wpAny (model prog w) A (pyIter (.ref I)) Q E s
  item : ∀ i (s : Shared) (Q : Option Value → Shared → Prop) (E : Value → Shared → Prop), i < n → St i s → AllBare s.gens →
    (∀ v h' tk g', P i v h' → St (i + 1) { s with heap := h', toks := tk, gens := g' } → (∀ b o, b < C → s.heap.get? b = some o → h'.get? b = some o) → AllBare g' → Q (some v) { s with heap := h', toks := tk, gens := g' }) → wpAny (model prog w) A (pyNext (.ref I)) Q E s
  done : ∀ (s : Shared) (Q : Option Value → Shared → Prop) (E : Value → Shared → Prop), St n s → AllBare s.gens →
    (∀ h' tk g', (∀ b o, b < C → s.heap.get? b = some o → h'.get? b = some o) → AllBare g' → Q none { s with heap := h', toks := tk, gens := g' }) → wpAny (model prog w) A (pyNext (.ref I)) Q E s
  go : ∀ i (s : Shared) v target (Q : Unit → Shared → Prop) (E : Value → Shared → Prop), St i s → Q () s → wpAny (model prog w) A (letOwnedTupleGo target (.ref I) v) Q E s

theorem bare_setGen {s : Shared} {g : Nat} {x : GenState} (h : AllBare s.gens) (hx : x.bare = true) : AllBare (s.setGen g x).gens := by
  intro y hy
  have hy' : y ∈ s.gens.setIfInBounds g x := by simpa [Shared.setGen] using hy
  rcases Array.mem_or_eq_of_mem_setIfInBounds hy' with h' | h'
  · exact h y h'
  · rw [h']; exact hx

section
variable {prog : Program} {w : World} {A : Around} {E : Value → Shared → Prop} {s : Shared}
theorem pyNext_genQ {a : Addr} {g n : Nat} {gs : GenState} {P : Nat → Shared → Shared → Prop} {Y : Protocol} {Q : Option Value → Shared → Prop} (hh : A.handled = none)
    (hl : s.heap.NoLimit) (hroom : A.depth < recursionLimit) (hg : s.heap.IsGen a g) (hgs : s.gens[g]? = some gs)
    (hgo : gs.Goes (model prog w) A.in1 (fun n s₀ r s₁ => r = .ok (.ret .none) ∧ P n s₀ s₁) Y n (.send .none) (s.setGen g .running))
    (hY : ∀ v s₁ gs', gs'.bare = true → Y (n - 1) (s.setGen g .running) v s₁ (fun r' s'' => match n with
        | 0 => False
        | m + 1 => gs'.Goes (model prog w) A.in1 (fun n s₀ r s₁ => r = .ok (.ret .none) ∧ P n s₀ s₁) Y m r' s'') → Q (some v) (s₁.setGen g gs'))
    (hP : ∀ s₁, P n (s.setGen g .running) s₁ → ∀ h', (∀ b o, s₁.heap.get? b = some o → h'.get? b = some o) → Q none { s₁.setGen g .finished with heap := h' }) :
    wpAny (model prog w) A (pyNext (.ref a)) Q E s := by
  k_with_none
  k_with "ar" => (first | with_reducible exact ar34)
  unfold pyNext
  refine wpAny_bind (wpAny_attempt (wpAny_callSpecial?_slot (name := Str.ofString "__next__") hg.typeIs slot_gen_next
    (wpAny_call_entry slot_gen_next hg.typeIs entry_gen_next ?_ (args_gen_next _))))
  show wpAny _ A.in1 (Builtin.Generator.genWake (.ref a) (.send .none)) _ _ s
  unfold Builtin.Generator.genWake
  refine wpAny_bind (wpAny_holding (wpAny_genNumber hg (wpAny_bind (wpAny_genState hgs ?_))))
  cases gs with
  | running => exact hgo.elim
  | finished => exact hgo.elim
  | _ =>
    refine wpAny_bind (wpAny_roomToWake hl hroom ?_)
    show wpAny _ A.in1 (.resume g (.send .none) [] _) _ _ s
    refine wpAny_resumeQ hgs hgo (fun x s₁ hx => ?_) (fun v s₁ gs' hb hv => wpAny_pure ⟨v, rfl, wpAny_pure (hY v s₁ gs' hb hv)⟩)
    obtain ⟨rfl, hp⟩ := hx
    show wpAny _ A.in1 (newExc (.type "StopIteration") [] >>= _) _ _ _
    refine wpAny_bind ?_
    simp only [newExc, newTuple]
    refine wpAny_bind (wpAny_newObj_type ?_ (by size_fits))
    refine wpAny_bind (m := firstArgMember _ _) (wpAny_of_eq (a := Value.none) (by first | rfl | (simp only [firstArgMember]; rfl)) ?_)
    refine wpAny_newObj_type ?_ (by size_fits)
    simp only [raiseNew]
    refine wpAny_bind (wpAny_bind (wpAny_handled ?_))
    first | rw [show A.in1.handled = none from hh] | rw [hh]
    refine wpAny_throw ?_
    refine wpAny_bind (wpAny_isInstance (T := "StopIteration") (b := true) ⟨_, Heap.get?_push_size _ rfl, rfl⟩ isSubtype_stop ?_)
    exact wpAny_pure (hP s₁ hp _ fun b o hb => Heap.get?_push_of_some _ (Heap.get?_push_of_some _ hb))
end

theorem GenF.walks {prog : Program} {w : World} {A : Around} {h₀ : Heap} {I g C bnd n₀ : Nat} {P : Nat → Value → Heap → Prop} (hh : A.handled = none) (hroom : A.depth < recursionLimit) (hl : h₀.NoLimit) (hsz : h₀.objs.size ≤ C) (hCI : C < I) (hIb : I < bnd) :
    GenW prog w A h₀ I C n₀ P (GenF prog w A h₀ I g C bnd n₀ P) where
  frame := fun i s st => by
    obtain ⟨hg, hk, gs, fp, hgs, hfp, hgo⟩ := st
    refine ⟨I :: fp, ?_, ?_⟩
    · intro b hb
      rcases List.mem_cons.mp hb with rfl | hb
      · exact Nat.le_of_lt hCI
      · exact hfp b hb
    · intro h' tk hkeep hk0
      refine ⟨?_, hk0, gs, fp, hgs, hfp, fun s'' hal h0 => hgo s'' (fun b hb o e => hal b hb o (hkeep b (.tail _ hb) o e)) h0⟩
      obtain ⟨o, nm, qn, ho, r⟩ := hg
      exact ⟨o, nm, qn, hkeep I (.head _) o ho, r⟩
  self := fun i s Q E st hQ => wpAny_pyIter_gen st.1 hQ
  item := fun i s Q E hi st hB hQ => by
    obtain ⟨hg, hk, gs, fp, hgs, hfp, hgo⟩ := st
    obtain ⟨m, hm⟩ : ∃ m, n₀ - i = m + 1 := ⟨n₀ - i - 1, by omega⟩
    rw [hm] at hgo
    refine pyNext_genQ (P := fun n s₀ s₁ => n = 0 ∧ Since C bnd s₀ s₁) hh (hl.keeps hk) hroom hg hgs (hgo _ (fun _ _ _ e => e) hk) (fun v s₁ gs' hb hv => ?_) (fun s₁ hp h' hk' => absurd hp.1 (Nat.succ_ne_zero m))
    obtain ⟨hP, ⟨h₁, tk₁, rfl, hk₁⟩, fp', hfp', hkap⟩ := hv
    have e1 : n₀ - 1 - (m + 1 - 1) = i := by omega
    rw [e1] at hP
    have hgens : (({ s.setGen g .running with heap := h₁, toks := tk₁ } : Shared).setGen g gs').gens[g]? = some gs' := setGen_self (gs := .running) (setGen_self hgs)
    refine hQ v h₁ tk₁ _ hP ⟨?_, ?_, gs', fp', hgens, hfp', ?_⟩ (fun b o hb e => hk₁ b o (Nat.ne_of_lt hb) (Nat.lt_trans hb (Nat.lt_trans hCI hIb)) e) (bare_setGen (s := { s.setGen g .running with heap := h₁, toks := tk₁ }) (bare_setGen hB rfl) hb)
    · obtain ⟨o, nm, qn, ho, r⟩ := hg
      exact ⟨o, nm, qn, hk₁ I o (Nat.ne_of_gt hCI) hIb ho, r⟩
    · exact fun b o e => hk₁ b o (Nat.ne_of_lt (Nat.lt_of_lt_of_le (Heap.lt_size e) hsz)) (Nat.lt_trans (Nat.lt_of_lt_of_le (Heap.lt_size e) hsz) (Nat.lt_trans hCI hIb)) (hk b o e)
    · intro s'' hal h0
      have e2 : n₀ - (i + 1) = m := by omega
      rw [e2]
      exact hkap s'' hal h0
  done := fun s Q E st hB hQ => by
    obtain ⟨hg, hk, gs, fp, hgs, hfp, hgo⟩ := st
    rw [Nat.sub_self] at hgo
    refine pyNext_genQ (P := fun n s₀ s₁ => n = 0 ∧ Since C bnd s₀ s₁) hh (hl.keeps hk) hroom hg hgs (hgo _ (fun _ _ _ e => e) hk) (fun v s₁ gs' hb hv => ?_) (fun s₁ hp h' hk' => ?_)
    · obtain ⟨_, ⟨h₁, tk₁, rfl, hk₁⟩, fp', _, hkap⟩ := hv
      exact (hkap _ (fun _ _ _ e => e) (fun b o e => hk₁ b o (Nat.ne_of_lt (Nat.lt_of_lt_of_le (Heap.lt_size e) hsz)) (Nat.lt_trans (Nat.lt_of_lt_of_le (Heap.lt_size e) hsz) (Nat.lt_trans hCI hIb)) (hk b o e))).elim
    · obtain ⟨_, h₁, tk₁, rfl, hk₁⟩ := hp
      exact hQ h' tk₁ _ (fun b o hb e => hk' b o (hk₁ b o (Nat.ne_of_lt hb) (Nat.lt_trans hb (Nat.lt_trans hCI hIb)) e)) (bare_setGen (s := { s.setGen g .running with heap := h₁, toks := tk₁ }) (bare_setGen hB rfl) rfl)
  go := fun i s v target Q E st hQ => by
    obtain ⟨o, nm, qn, ho, hc, hd, hsl⟩ := st.1
    obtain ⟨oc, od, odt, osl⟩ := o
    dsimp only at hc hd hsl
    subst hc hd hsl
    unfold letOwnedTupleGo
    split
    · cases v <;> first
        | exact wpAny_pure hQ
        | (refine wpAny_bind (wpAny_load ho ?_)
           exact wpAny_pure hQ)
    · cases v <;> first
        | exact wpAny_pure hQ
        | (refine wpAny_bind (wpAny_load ho ?_)
           exact wpAny_pure hQ)
    · exact wpAny_pure hQ
end Mine
namespace Mine
abbrev noE : Value → Shared → Prop := fun _ _ => False

section
variable {M : Model} {A : Around} {R : GenEnd} {Y : Protocol} {n : Nat} {s₀ : Shared} {c : Code} {fs : List Frame} {s : Shared} {env : Env}
  {K : Flow → Sem Fin} {H : Value → Sem Fin} {gd : Bool → Bool} {lv : List Value → List Value}
theorem seg_stmt {st : Stmt} {rest : List Stmt} (h : wpAny M (A.over c fs) (exec st env) (fun f s' => Seg M A R Y n s₀ c (match f with | .next => (execs rest env).wrap K H gd lv | f => K f) fs s') noE s) :
    Seg M A R Y n s₀ c ((execs (st :: rest) env).wrap K H gd lv) fs s := seg_execs_cons (seg_wrap (wpAny_mono h (fun _ _ e => e) fun _ _ e => e.elim))
theorem seg_one {st : Stmt} (h : wpAny M (A.over c fs) (exec st env) (fun f s' => Seg M A R Y n s₀ c (K f) fs s') noE s) :
    Seg M A R Y n s₀ c ((exec st env).wrap K H gd lv) fs s := seg_wrap (wpAny_mono h (fun _ _ e => e) fun _ _ e => e.elim)
theorem seg_bind0 {α β : Type} {m : Sem α} {K : α → Sem β} {K' : β → Sem Fin} {H' : Value → Sem Fin} (h : wpAny M (A.over c fs) m (fun a s' => Seg M A R Y n s₀ c ((K a).wrap K' H' gd lv) fs s') noE s) : Seg M A R Y n s₀ c ((m >>= K).wrap K' H' gd lv) fs s :=
  seg_bind_wrap (wpAny_mono h (fun _ _ e => e) fun _ _ e => e.elim)
theorem seg_If {test : Expr} {body orelse : List Stmt} {pos : Pos} (h : wpAny M (A.over c fs) (isTrue test env (eval test env)) (fun b s' => Seg M A R Y n s₀ c ((execs (if b = true then body else orelse) env).wrap K H gd lv) fs s') noE s) :
    Seg M A R Y n s₀ c ((exec (.If test body orelse pos) env).wrap K H gd lv) fs s := by
  rw [exec_If]
  refine seg_bind0 (wpAny_standAt (seg_bind0 (wpAny_mono h (fun b s' h' => ?_) fun _ _ e => e)))
  cases b <;> exact h'
/-- what a for loop gives back to the body that it stands in -/
noncomputable def forBack (env : Env) (K : Flow → Sem Fin) (H : Value → Sem Fin) (gd : Bool → Bool) (lv : List Value → List Value) (r : Result) : Sem Fin :=
  ((match r with | .ok f => (.pure f : Sem Flow) | .error e => .raise e).onRaise fun (x : Value) => do
        if (← field x 1) == Value.none then unsupported "frame.own-activation:exception-without-traceback"
        setFlight x env.frame).wrap K H gd lv
theorem seg_For {target iter : Expr} {body : List Stmt} {pos : Pos}
    (h : wpAny M (A.over c fs) (eval iter env) (fun x s₁ => wpAny M (A.over c fs) (pyIter x) (fun it s₂ => ∀ p, Seg M A R Y n s₀ (.forLoop target it body [] env) (M.den (.forLoop target it body [] env)) (.ret (forBack env K H gd lv) none (gd false) (lv []) c p [] :: fs) s₂) noE s₁) noE s)
    (hs : ∀ x, foldedSetIterable iter env x = pure x := by intro _; rfl) :
    Seg M A R Y n s₀ c ((exec (.For target iter body [] pos) env).wrap K H gd lv) fs s := by
  rw [exec_For]
  refine seg_bind0 (wpAny_standAt (seg_bind0 (wpAny_mono h (fun x s₁ h₁ => ?_) fun _ _ e => e)))
  refine seg_bind0 (wpAny_of_eq (hs x) (seg_bind0 (wpAny_standAt (seg_bind0 (wpAny_holding (wpAny_mono h₁ (fun it s₂ h₂ => ?_) fun _ _ e => e))))))
  exact seg_call h₂
end

section
variable {prog : Program} {w : World} {A : Around} {R : GenEnd} {Y : Protocol} {n : Nat} {s₀ : Shared} {fs : List Frame} {s : Shared} {env : Env}
/-- what follows upon a turn of a for loop -/
noncomputable def loopK (target : Expr) (it : Value) (body : List Stmt) (env : Env) (f : Flow) : Sem Fin := match f with
  | .next | .cont => .pure (.again (.forLoop target it body [] env))
  | .brk => .pure (.done .next)
  | .ret v => .pure (.done (.ret v))
noncomputable def loopH (env : Env) (e : Value) : Sem Fin := (do noteFrame e env; theTreesLotGoes e : Sem Unit).wrap (fun _ => .raise e) .raise id id
theorem seg_forLoop {target : Expr} {it : Value} {body : List Stmt}
    (h : wpAny (model prog w) (A.over (.forLoop target it body [] env) fs) (pyNext it) (fun r s₁ => match r with
      | none => Seg (model prog w) A R Y n s₀ (.block [] env) ((model prog w).den (.block [] env)) fs s₁
      | some v => wpAny (model prog w) (A.over (.forLoop target it body [] env) fs) (letOwnedTupleGo target it v) (fun _ s₂ => wpAny (model prog w) (A.over (.forLoop target it body [] env) fs) (assign target env v) (fun _ s₃ =>
          Seg (model prog w) A R Y n s₀ (.forLoop target it body [] env) ((execs body env).wrap (loopK target it body env) (loopH env) id id) fs s₃) noE s₂) noE s₁) noE s) :
    Seg (model prog w) A R Y n s₀ (.forLoop target it body [] env) ((model prog w).den (.forLoop target it body [] env)) fs s := by
  show Seg _ A R Y n s₀ _ ((forTurn target it body [] env).onRaise (fun x => do noteFrame x env; theTreesLotGoes x)) fs s
  rw [Sem.onRaise_eq_wrap]
  simp only [forTurn]
  refine seg_bind0 (wpAny_standAt (seg_bind0 (wpAny_onRaise (wpAny_mono h (fun r s₁ h₁ => ?_) fun _ _ e => e.elim))))
  cases r with
  | none => exact seg_again rfl h₁
  | some v =>
    refine seg_bind0 (wpAny_mono h₁ (fun _ s₂ h₂ => ?_) fun _ _ e => e)
    refine seg_bind0 (wpAny_mono h₂ (fun _ s₃ h₃ => ?_) fun _ _ e => e)
    rw [Sem.bind_eq_wrap', Sem.wrap_wrap]
    rw [Sem.wrap_congr (execs body env) _ _ (K' := loopK target it body env) (H' := loopH env)
        (fun f => by cases f <;> rfl)
        (fun e => by first | exact Sem.bind_eq_wrap _ _ | (show (do noteFrame e env; theTreesLotGoes e : Sem Unit).bind (fun _ => .raise e) = _; rw [Sem.bind_eq_wrap]; rfl))]
    exact h₃
theorem seg_block {k : Result → Sem Fin} {h₁ g l c₁ p₁ kp} (h : Seg (model prog w) A R Y n s₀ c₁ (k (.ok .next)) fs s) :
    Seg (model prog w) A R Y n s₀ (.block [] env) ((model prog w).den (.block [] env)) (.ret k h₁ g l c₁ p₁ kp :: fs) s :=
  seg_leaf (.ok .next) h
theorem forBack_ok {K : Flow → Sem Fin} {H : Value → Sem Fin} {gd : Bool → Bool} {lv : List Value → List Value} (f : Flow) : forBack env K H gd lv (.ok f) = K f := rfl

theorem seg_for_ind {target : Expr} {it : Value} {body : List Stmt} {N : Nat} (J : Nat → Nat → Shared → Shared → Prop)
    (turn : ∀ i n s₀ s, i < N → J i n s₀ s → (∀ n' s₀' s', J (i + 1) n' s₀' s' → Seg (model prog w) A R Y n' s₀' (.forLoop target it body [] env) (.pure (.again (.forLoop target it body [] env))) fs s') →
      wpAny (model prog w) (A.over (.forLoop target it body [] env) fs) (pyNext it) (fun r s₁ => ∃ v, r = some v ∧ wpAny (model prog w) (A.over (.forLoop target it body [] env) fs) (letOwnedTupleGo target it v) (fun _ s₂ =>
        wpAny (model prog w) (A.over (.forLoop target it body [] env) fs) (assign target env v) (fun _ s₃ => Seg (model prog w) A R Y n s₀ (.forLoop target it body [] env) ((execs body env).wrap (loopK target it body env) (loopH env) id id) fs s₃) noE s₂) noE s₁) noE s)
    (done : ∀ n s₀ s, J N n s₀ s → wpAny (model prog w) (A.over (.forLoop target it body [] env) fs) (pyNext it) (fun r s₁ => r = none ∧ Seg (model prog w) A R Y n s₀ (.block [] env) ((model prog w).den (.block [] env)) fs s₁) noE s) :
    ∀ i n s₀ s, i ≤ N → J i n s₀ s → Seg (model prog w) A R Y n s₀ (.forLoop target it body [] env) ((model prog w).den (.forLoop target it body [] env)) fs s := by
  k_with_none
  k_with "ar" => (first | with_reducible exact ar531 (by assumption) (by assumption) | with_reducible exact ar671 (by assumption) | with_reducible exact ar471 (by assumption))
  have key : ∀ k i n s₀ s, N - i = k → i ≤ N → J i n s₀ s → Seg (model prog w) A R Y n s₀ (.forLoop target it body [] env) ((model prog w).den (.forLoop target it body [] env)) fs s := by
    intro k
    induction k with
    | zero =>
      intro i n s₀ s hk hi hJ
      have e : i = N := by omega
      subst e
      refine seg_forLoop (wpAny_mono (done n s₀ s hJ) (fun r s₁ h₁ => ?_) fun _ _ e => e)
      obtain ⟨rfl, h₁⟩ := h₁
      exact h₁
    | succ k ih =>
      intro i n s₀ s hk hi hJ
      have hlt : i < N := by omega
      refine seg_forLoop (wpAny_mono (turn i n s₀ s hlt hJ fun n' s₀' s' hJ' => seg_again rfl (ih (i + 1) n' s₀' s' (by omega) hlt hJ')) (fun r s₁ h₁ => ?_) fun _ _ e => e)
      obtain ⟨v, rfl, h₁⟩ := h₁
      exact h₁
  exact fun i n s₀ s hi hJ => key _ i n s₀ s rfl hi hJ
end

section
variable {prog : Program} {w : World} {A : Around} {s : Shared} {K : Frag} {L : Addr} {h₀ : Heap} {m : Str → Option Value} {news : List (Addr × Obj)}
/-- a def with yields is called: an object, and nothing is run -/
theorem code_gen {R : Result → Shared → Prop} {name qual : Str} {params : Arguments} {body : List Stmt} {scope : Scope} {dV kV doc pm cdv ct oc : Value} {an od : Option Addr} {osl : Array (Option Value)} {f : Addr} {args : Args} {binds : List (Str × Value)}
    (F : Fr h₀ L s.heap m) (X₀ : K.In h₀) (N : News h₀ L s.heap news) (hl : h₀.NoLimit)
    (ho : K.lookup f = some ⟨oc, od, .func (fnOf name qual params body scope dV kV doc pm an cdv ct), osl⟩) (hcd : codeIn K cdv qual = true) (hroom : A.depth < recursionLimit)
    (hbind : bindArgs (fnOf name qual params body scope dV kV doc pm an cdv ct) args = pure binds) (hloc : ∀ y ∈ binds, scope.names.lookup y.1 = some .local)
    (h : ∀ C h' tk, Fr h₀ L h' m → News h₀ L h' news → Fr h₀ C h' (fun y => binds.reverse.lookup y) → h'.IsGen (C + 1) s.gens.size → h'.objs.size = C + 2 → L < C → (∀ q ∈ news, q.1 < C) →
      R (.ok (.ret (.ref (C + 1)))) { s with gens := s.gens.push (.fresh (.func body (envOf qual scope C f cdv))), toks := tk, heap := h' })
    (hco : scope.isCoroutine = false) (hgen : scope.isGenerator = true) (hk : scope.kind = .function) (hcell : ∀ x ∈ scope.names, x.2 ≠ .cell) : codeAny (model prog w) A (.call (.ref f) args) R s := by
  refine codeAny_call_generator (fd := fnOf name qual params body scope dV kV doc pm an cdv ct) hroom ((X₀.keeps F.keep) _ _ ho) rfl hco hgen rfl (codeRec_of (X₀.keeps F.keep) hcd) ?_
  rw [hbind]
  refine wpAny_pure (wpAny_newFunctionEnv hcell hloc (fun h₁ hns hsb => ⟨(hl.keeps F.keep).fresh _ hsb, ?_⟩) hk)
  have hsz : h₁.objs.size = s.heap.objs.size + 1 := by rw [hsb.1, Heap.size_push]
  have k1 : ∀ b o, s.heap.get? b = some o → h₁.get? b = some o := fun b o e => hsb.extBut b o (Nat.ne_of_lt (Heap.lt_size e)) (Heap.get?_push_of_some _ e)
  have hLs : L < s.heap.objs.size := F.ns.lt
  dsimp only
  rw [hsz]
  refine h s.heap.objs.size _ _ ?_ ?_ ?_ ?_ ?_ hLs (fun q hq => Heap.lt_size (N q hq).1)
  · exact Fr.push (F.keeps k1) _
  · exact fun p hp => ⟨Heap.get?_push_of_some _ (k1 _ _ (N p hp).1), (N p hp).2⟩
  · refine Fr.push ⟨hns, fun b o e => k1 b o (F.keep b o e), ?_⟩ _
    exact Nat.le_of_lt (Nat.lt_of_le_of_lt F.above hLs)
  · have := Heap.get?_push_size h₁ (o := { cls := .type "generator", data := .fields #[.int s.gens.size 0, .str name (s.toks + binds.length), .str qual (s.toks + binds.length + 1)] }) rfl
    rw [hsz] at this
    exact ⟨_, _, _, this, rfl, rfl, rfl⟩
  · rw [Heap.size_push, hsz]
end

/-- a tuple of two that a generator has handed out -/
def TupAt (h : Heap) (v : Value) (x y : Value) : Prop := ∃ T, v = .ref T ∧ h.IsTuple T #[x, y]

/-- the end of one turn of a loop over a generator -/
def MyEndG (h₀ : Heap) (L : Addr) {σ : Type} (ms : σ → Str → Option Value) (ns : σ → List (Addr × Obj)) (own : List (Addr × Obj)) (Inv : σ → Prop) (Q : Flow → Shared → Prop) (s : Shared) (f : Flow) (s₂ : Shared) : Prop :=
  match f with
  | .ret v => Q (.ret v) s₂
  | .brk => Q .next s₂
  | _ => ∃ h' tk' x', s₂ = { s with heap := h', toks := tk' } ∧ Fr h₀ L h' (ms x') ∧ News h₀ L h' (ns x' ++ own) ∧ Inv x'
theorem MyEndG.next {h₀ h' : Heap} {L : Addr} {σ : Type} {ms : σ → Str → Option Value} {ns : σ → List (Addr × Obj)} {own : List (Addr × Obj)} {Inv : σ → Prop} {Q : Flow → Shared → Prop} {s : Shared} {tk' : Nat} (x' : σ) (F : Fr h₀ L h' (ms x')) (N : News h₀ L h' (ns x' ++ own)) (i : Inv x') :
    MyEndG h₀ L ms ns own Inv Q s .next { s with heap := h', toks := tk' } := ⟨h', tk', x', rfl, F, N, i⟩

section
variable {prog : Program} {w : World} {A : Around} {E : Value → Shared → Prop} {s : Shared} {env : Env} {h₀ : Heap} {x y : Str} {px py pt : Pos} {kt : Nat} {body : List Stmt} {Q : Flow → Shared → Prop}
theorem ForT {target iter : Expr} {pos : Pos} {m : Str → Option Value} (_F : Fr h₀ env.locals s.heap m) (h : wpAny (model prog w) A (eval iter env) (fun xv s₁ => wpAny (model prog w) A (pyIter xv) (fun it s₂ => codeAny (model prog w) A (.forLoop target it body [] env) (fun r s' => match r with | .ok f => Q f s' | .error e => cameBackBy (model prog w) A env E e s') s₂) E s₁) E s)
    (hs : ∀ x, foldedSetIterable iter env x = pure x := by intro _; rfl) : wpAny (model prog w) A (exec (.For target iter body [] pos) env) Q E s := wpAny_For h hs

/-- for x, y in a generator -/
theorem loop_gen {I C : Addr} {n : Nat} {P : Nat → Value → Heap → Prop} {St : Nat → Shared → Prop} {σ : Type} (ms : σ → Str → Option Value) (ns : σ → List (Addr × Obj)) (Inv : Nat → σ → Prop) (x₀ : σ)
    (W : GenW prog w A h₀ I C n P St) (hh : A.handled = none) (hLC : env.locals < C) (hst : St 0 s) (hB : AllBare s.gens) (F : Fr h₀ env.locals s.heap (ms x₀)) (N : News h₀ env.locals s.heap (ns x₀)) (hj : Inv 0 x₀) (hnw : ∀ i z, Inv i z → ∀ p ∈ ns z, p.1 < C)
    (hx : env.kindOf x = some .local) (hy : env.kindOf y = some .local) (hp : (env.scope.kind == .class || (env.scope.kind == .module && env.locals != env.globals)) = false)
    (vx vy : Nat → Value → Prop) (hP : ∀ i v h, i < n → P i v h → ∃ a b, TupAt h v a b ∧ vx i a ∧ vy i b)
    (turn : ∀ i a b z h tk g own, i < n → vx i a → vy i b → Inv i z → (∀ p ∈ own, C ≤ p.1) → AllBare g → Fr h₀ env.locals h (fun u => if u = y then some b else if u = x then some a else ms z u) → News h₀ env.locals h (ns z ++ own) →
      wpAny (model prog w) A (execs body env) (MyEndG h₀ env.locals ms ns own (Inv (i + 1)) Q { s with gens := g }) E { s with heap := h, toks := tk, gens := g })
    (done : ∀ z h tk g, Inv n z → AllBare g → Fr h₀ env.locals h (ms z) → News h₀ env.locals h (ns z) → Q .next { s with heap := h, toks := tk, gens := g })
    (hE : PassesOwn (model prog w) A env E := by passes_own) :
    codeAny (model prog w) A (.forLoop (.Tuple [.Name x px, .Name y py] kt pt) (.ref I) body [] env) (fun r s' => match r with | .ok f => Q f s' | .error e => cameBackBy (model prog w) A env E e s') s := by
  refine codeAny_forLoop_any
    (fun k s' => ∃ h' tk g i z, s' = { s with heap := h', toks := tk, gens := g } ∧ St i s' ∧ AllBare g ∧ Fr h₀ env.locals h' (ms z) ∧ News h₀ env.locals h' (ns z) ∧ Inv i z ∧ i ≤ n ∧ k = n + 1 - i) ?_ (n + 1)
    ⟨s.heap, s.toks, s.gens, 0, x₀, rfl, hst, hB, F, N, hj, Nat.zero_le _, rfl⟩
  rintro k s' ⟨h', tk, g, i, z, rfl, hst', hB', F', N', hJ, hi, rfl⟩
  have upF : ∀ h₁ : Heap, (∀ b o, b < C → h'.get? b = some o → h₁.get? b = some o) → Fr h₀ env.locals h₁ (ms z) := fun h₁ hk => ⟨F'.ns.at' fun o e => hk _ o hLC e, fun b o e => hk b o (Nat.lt_trans (Nat.lt_of_lt_of_le (Heap.lt_size e) F'.above) hLC) (F'.keep b o e), F'.above⟩
  have upN : ∀ h₁ : Heap, (∀ b o, b < C → h'.get? b = some o → h₁.get? b = some o) → News h₀ env.locals h₁ (ns z) := fun h₁ hk p hp => ⟨hk _ _ (hnw i z hJ p hp) (N' p hp).1, (N' p hp).2⟩
  by_cases hlt : i < n
  · refine W.item i _ _ _ hlt hst' hB' fun v h₁ tk₁ g₁ hP₁ hst₁ hk₁ hB₁ => ?_
    refine W.go (i + 1) _ _ _ _ _ hst₁ ?_
    obtain ⟨a, b, ⟨T, rfl, hT⟩, ha, hb⟩ := hP i v h₁ hlt hP₁
    have F₁ := upF h₁ hk₁
    have N₁ := upN h₁ hk₁
    obtain ⟨fp, hfp, hfr⟩ := W.frame _ _ hst₁
    refine wpAny_assign_Tuple hh hT rfl rfl fun h₂ hx₂ => ?_
    have old : ∀ b o, h₁.get? b = some o → h₂.get? b = some o := fun b o e => hx₂ b o (Nat.ne_of_lt (Heap.lt_size e)) e
    have F₂ := F₁.keeps old
    show wpAny _ A (do holding [b] (assign (.Name x px) env a); do holding [] (assign (.Name y py) env b); pure ()) _ _ _
    refine wpAny_bind (wpAny_holding (wpAny_assign_Name (wpAny_storeName_local hx F₂.ns (fun h₃ hn₃ hs₃ => ?_) hp)))
    replace hs₃ : Heap.SameBut env.locals h₂ h₃ := hs₃
    refine wpAny_bind (wpAny_holding (wpAny_assign_Name (wpAny_storeName_local hy hn₃ (fun h₄ hn₄ hs₄ => wpAny_pure ?_) hp)))
    replace hs₄ : Heap.SameBut env.locals h₃ h₄ := hs₄
    have F₄ : Fr h₀ env.locals h₄ (fun u => if u = y then some b else if u = x then some a else ms z u) := Fr.set (Fr.set F₂ hn₃ hs₃) hn₄ hs₄
    have kL : ∀ b o, b ≠ env.locals → h₁.get? b = some o → h₄.get? b = some o := fun b o hb e => (hs₄.2 b hb).trans ((hs₃.2 b hb).trans (old b o e))
    have Nown : News h₀ env.locals h₁ (ownOf h₀ fp h₁) := news_ownOf fun hm => Nat.lt_irrefl _ (Nat.lt_of_lt_of_le hLC (hfp _ hm))
    have N₄ : News h₀ env.locals h₄ (ns z ++ ownOf h₀ fp h₁) := fun p hp => (List.mem_append.mp hp).elim (fun q => ⟨kL _ _ (N₁ p q).2.1 (N₁ p q).1, (N₁ p q).2⟩) fun q => ⟨kL _ _ (Nown p q).2.1 (Nown p q).1, (Nown p q).2⟩
    have fin : ∀ s₃ : Shared, (∃ h' tk' x', s₃ = { ({ s with gens := g₁ } : Shared) with heap := h', toks := tk' } ∧ Fr h₀ env.locals h' (ms x') ∧ News h₀ env.locals h' (ns x' ++ ownOf h₀ fp h₁) ∧ Inv (i + 1) x') →
        ∃ m, m < n + 1 - i ∧ ∃ h' tk g i z, s₃ = { s with heap := h', toks := tk, gens := g } ∧ St i s₃ ∧ AllBare g ∧ Fr h₀ env.locals h' (ms z) ∧ News h₀ env.locals h' (ns z) ∧ Inv i z ∧ i ≤ n ∧ m = n + 1 - i := by
      rintro s₃ ⟨h₅, tk₅, z', rfl, F₅, N₅, hi₅⟩
      refine ⟨n + 1 - (i + 1), by omega, h₅, tk₅, g₁, i + 1, z', rfl, ?_, hB₁, F₅, (fun p hp => N₅ p (List.mem_append.mpr (.inl hp))), hi₅, hlt, rfl⟩
      refine hfr h₅ tk₅ (fun b hb o e => ?_) fun b o e => F₅.keep b o e
      cases hn : h₀.get? b with
      | some o₀ =>
        have : o₀ = o := by have := F₁.keep b o₀ hn; rw [e] at this; exact (Option.some.inj this).symm
        exact this ▸ F₅.keep b o₀ hn
      | none => exact (N₅ _ (List.mem_append_right _ (mem_ownOf hb hn e))).1
    refine wpAny_passesOwn hE (wpAny_mono (turn i a b z h₄ _ g₁ (ownOf h₀ fp h₁) hlt ha hb hJ (fun p hp => hfp _ (ownOf_sub p hp)) hB₁ F₄ N₄) (fun f s₃ h₃ => ?_) fun _ _ e => e)
    cases f with
    | ret v => exact h₃
    | brk => exact h₃
    | cont => exact fin s₃ h₃
    | next => exact fin s₃ h₃
  · have hin : i = n := by omega
    subst hin
    refine W.done _ _ _ hst' hB' fun h₁ tk₁ g₁ hk₁ hB₁ => wpAny_execs_nil ?_
    exact done z h₁ tk₁ g₁ hJ hB₁ (upF h₁ hk₁) (upN h₁ hk₁)
end
end Mine
namespace Mine

/-- what _iter_escaped_chars tells from place i on -/
noncomputable def escFrom : Nat → Bool → List Nat → List (Int × Str)
  | i, e, [] => if e = true then [((i : Int) - 1, Str.ofString "\\")] else []
  | i, e, c :: r => if e = true then ((i : Int), Str.ofString "\\" ++ ⟨#[c]⟩) :: escFrom (i + 1) false r else if ((⟨#[c]⟩ : Str) == Str.ofString "\\") = true then escFrom (i + 1) true r else ((i : Int), ⟨#[c]⟩) :: escFrom (i + 1) false r
theorem escFrom_bs {i c : Nat} {r : List Nat} (h : ((⟨#[c]⟩ : Str) == Str.ofString "\\") = true) : escFrom i false (c :: r) = escFrom (i + 1) true r := by rw [escFrom, if_neg Bool.false_ne_true, if_pos h]
theorem escFrom_no {i c : Nat} {r : List Nat} (h : ((⟨#[c]⟩ : Str) == Str.ofString "\\") = false) : escFrom i false (c :: r) = ((i : Int), ⟨#[c]⟩) :: escFrom (i + 1) false r := by rw [escFrom, if_neg Bool.false_ne_true, if_neg (by rw [h]; exact Bool.false_ne_true)]
noncomputable def escL (x : Str) : List (Int × Str) := escFrom 0 false x.cps.toList
def PEsc (x : Str) (i : Nat) (v : Value) (h : Heap) : Prop := ∃ p c t u, (escL x)[i]? = some (p, c) ∧ TupAt h v (.int p t) (.str c u)

noncomputable def allN (h₀ : Heap) (C : Addr) (h : Heap) : List (Addr × Obj) := ownOf h₀ ((List.range h.objs.size).filter (· ≠ C)) h
theorem allN_news {h₀ h : Heap} {C : Addr} : News h₀ C h (allN h₀ C h) := news_ownOf (by simp)
theorem allN_mem {h₀ h : Heap} {C b : Addr} {o : Obj} (hb : b ≠ C) (hn : h₀.get? b = none) (ho : h.get? b = some o) : (b, o) ∈ allN h₀ C h :=
  mem_ownOf (List.mem_filter.mpr ⟨List.mem_range.mpr (Heap.lt_size ho), by simpa using hb⟩) hn ho
theorem allN_keep {h₀ h h' : Heap} {C : Addr} {m m' : Str → Option Value} {r : List (Addr × Obj)} (F : Fr h₀ C h m) (F' : Fr h₀ C h' m') (N' : News h₀ C h' r) (hr : ∀ q ∈ allN h₀ C h, q ∈ r) : ∀ b o, b ≠ C → h.get? b = some o → h'.get? b = some o := fun b o hb e => by
  cases hn : h₀.get? b with
  | some o₀ =>
    have h1 := F.keep b o₀ hn
    rw [e] at h1
    rw [Option.some.inj h1]
    exact F'.keep b o₀ hn
  | none => exact (N' _ (hr _ (allN_mem hb hn e))).1
/-- what a stretch of the walk keeps, told ahead of it -/
def KeepAll (h₀ : Heap) (C : Addr) (h : Heap) (r : List (Addr × Obj)) : Prop := ∀ h' m' r', Fr h₀ C h' m' → News h₀ C h' r' → (∀ q ∈ r, q ∈ r') → ∀ b o, b ≠ C → h.get? b = some o → h'.get? b = some o
theorem keepAll {h₀ h : Heap} {C : Addr} {m : Str → Option Value} (F : Fr h₀ C h m) : ∃ r, News h₀ C h r ∧ KeepAll h₀ C h r := ⟨_, allN_news, fun _ _ _ F' N' hr => allN_keep F F' N' hr⟩
theorem Since.refl (C bnd : Nat) (s : Shared) : Since C bnd s s := ⟨s.heap, s.toks, rfl, fun _ _ _ _ e => e⟩
theorem Since.step {C bnd : Nat} {s₀ s : Shared} (x : Since C bnd s₀ s) {h' : Heap} {tk : Nat} (hk : ∀ b o, b ≠ C → b < bnd → s.heap.get? b = some o → h'.get? b = some o) : Since C bnd s₀ { s with heap := h', toks := tk } := by
  obtain ⟨h₁, tk₁, rfl, hk₁⟩ := x
  exact ⟨h', tk, rfl, fun b o hC hw e => hk b o hC hw (hk₁ b o hC hw e)⟩

theorem walks_enum_str {prog : Program} {w : World} {A : Around} (hh : A.handled = none) (e it : Addr) (hei : e ≠ it) (x : Str) (t : Tok) :
    WalksT prog w A e [e, it] [e, it] x.cps.size (fun i vals => ∃ t' v, (∃ c u, x.cps[i]? = some c ∧ v = .str ⟨#[c]⟩ u) ∧ vals = #[.int i t', v])
      (fun i h => (∃ old, IsEnum h e it i old) ∧ h.IsStrIter it (strIterType x) x t i) (fun i T h => (∃ x, IsEnumOut h e it ((i : Int) + 1) x T) ∧ h.IsStrIter it (strIterType x) x t (i + 1) ∧ T ≠ e ∧ T ≠ it) := by
  cases ha : x.cps.all (· < 128)
  · have es : strIterType x = "str_iterator" := by simp [strIterType, ha]
    rw [es]
    exact WalksT.enumerateD (Draws.strWide (A := A.in1) hh it x t) e hei (by simpa using hei) (by simp)
  · have es : strIterType x = "str_ascii_iterator" := by simp [strIterType, ha]
    rw [es]
    exact WalksT.enumerateD (Draws.strAscii (A := A.in1) hh it x t) e hei (by simpa using hei) (by simp)

theorem off_two {C it : Nat} (h : C + 1 < it) : C ∉ [it + 1, it] := by
  k_with_none
  k_with "call type:enumerate" => k_extra "enum"
  k_with "pyIter ref" => k_extra "iter"
  k_with "binaryOp Add str str" => k_extra "sadd"
  k_with "ar" => (first | with_reducible exact ar659 (by assumption))
  simp only [List.mem_cons, List.not_mem_nil, or_false, not_or]
  omega
theorem off_b {b it : Nat} (h : b < it) : b ∉ [it + 1, it] := by
  k_with_none
  k_with "call type:enumerate" => k_extra "enum"
  k_with "pyIter ref" => k_extra "iter"
  k_with "binaryOp Add str str" => k_extra "sadd"
  k_with "ar" => (first | with_reducible exact ar648 (by assumption))
  simp only [List.mem_cons, List.not_mem_nil, or_false, not_or]
  omega
theorem off_lt {b z C it : Nat} (h1 : b < z) (h2 : z ≤ C) (h : C + 1 < it) : b ∉ [it + 1, it] := off_two (by omega)
theorem fp_three {C it : Nat} (h : C + 1 < it) : ∀ b ∈ [C, it + 1, it], C ≤ b := by
  k_with_none
  k_with "call type:enumerate" => k_extra "enum"
  k_with "pyIter ref" => k_extra "iter"
  k_with "binaryOp Add str str" => k_extra "sadd"
  k_with "ar" => (first | with_reducible exact ar582 (by assumption))
  simp only [List.mem_cons, List.not_mem_nil, or_false, forall_eq_or_imp, forall_eq]
  omega
theorem idx_pre {α : Type} {l pre r : List α} {a : α} (h : l = pre ++ a :: r) : l[l.length - 1 - r.length]? = some a := by
  k_with_none
  k_with "call type:enumerate" => k_extra "enum"
  k_with "pyIter ref" => k_extra "iter"
  k_with "binaryOp Add str str" => k_extra "sadd"
  k_with "ar" => (first | with_reducible exact ar547)
  subst h
  have e : (pre ++ a :: r).length - 1 - r.length = pre.length := by
    rw [List.length_append, List.length_cons]
    omega
  rw [e, List.getElem?_append_right (Nat.le_refl _), Nat.sub_self]
  rfl
structure ES where
  op : Option Value
  oc : Option Value
  e : Bool
noncomputable def msE (m₀ : Str → Option Value) (x : ES) : Str → Option Value := fun z => if z = Str.ofString "pos" then x.op else if z = Str.ofString "ch" then x.oc else if z = Str.ofString "escape" then some (.bool x.e) else m₀ z
theorem msE_at {h₀ h : Heap} {L : Addr} {m m₀ : Str → Option Value} {x : ES} (F : Fr h₀ L h m) (h1 : m (Str.ofString "pos") = x.op) (h2 : m (Str.ofString "ch") = x.oc) (h3 : m (Str.ofString "escape") = some (.bool x.e))
    (h4 : ∀ z, z ≠ Str.ofString "pos" → z ≠ Str.ofString "ch" → z ≠ Str.ofString "escape" → m z = m₀ z) : Fr h₀ L h (msE m₀ x) := by
  have e : m = msE m₀ x := by
    funext z
    unfold msE
    split
    · rename_i e; rw [e, h1]
    · split
      · rename_i e; rw [e, h2]
      · split
        · rename_i e; rw [e, h3]
        · exact h4 z (by assumption) (by assumption) (by assumption)
  exact e ▸ F
/-- between two turns of _iter_escaped_chars -/
structure EInv (h₀ : Heap) (C e it : Addr) (x : Str) (tx : Tok) (m₀ : Str → Option Value) (i n : Nat) (s₀ s : Shared) (z : ES) : Prop where
  F : Fr h₀ C s.heap (msE m₀ z)
  hs : Since C (C + 2) s₀ s
  hn : n = (escFrom i z.e (x.cps.toList.drop i)).length
  hpre : ∃ pre, escL x = pre ++ escFrom i z.e (x.cps.toList.drop i)
  hpos : z.e = true → ∃ t, z.op = some (.int ((i : Int) - 1) t)
  hst : (∃ old, IsEnum s.heap e it i old) ∧ s.heap.IsStrIter it (strIterType x) x tx i

section
variable {w : World} {p : Program} {loose : List Str} {mean : ExcName → Option Value} {mg mb : Str → Option Value}
  {dp un : Nat} {gd : Option (List Code)} {cn : Str} {cs : Scope} {a : Addr} {ccd : Value} {cl : List (Str × Addr)} {outer : List Env} {A₀ : Around} {base h₀ : Heap} {L : Addr} {m : Str → Option Value} {news : List (Addr × Obj)} {s : Shared}
  {Q E : Value → Shared → Prop}
set_option maxRecDepth 100000 in
set_option maxHeartbeats 1600000 in
theorem t_esc {x : Str} {tx : Tok} (B : Below A₀ base outer h₀) (F : Fr h₀ L s.heap m) (X : (hd.heap_39 w.params).In h₀) (N : News h₀ L s.heap news) (T : Top p loose mean mg mb h₀) (hk : cs.kind = .function)
  (hB : AllBare s.gens) (hd : dp + 200 < recursionLimit) (hu : un + 1600 < cLine)
  (hret : ∀ C h' tk' g', Fr h₀ L h' m → News h₀ L h' news → L < C → (∀ q ∈ news, q.1 < C) → AllBare g' →
    (∃ St : Around → Nat → Shared → Prop, ∀ A' : Around, A'.handled = none → A'.depth < recursionLimit → GenW PR w A' h₀ (C + 1) C (escL x).length (PEsc x) (St A') ∧ St A' 0 { s with heap := h', toks := tk', gens := g' }) → Q (.ref (C + 1)) { s with heap := h', toks := tk', gens := g' }) :
    wpAny (model PR w) (ktrTop dp un gd cn cs L a ccd cl outer) (call (.ref 56) [.str x tx]) Q E s := by
  k_with_none
  k_with "call type:enumerate" => k_extra "enum"
  k_with "pyIter ref" => k_extra "iter"
  k_with "binaryOp Add str str" => k_extra "sadd"
  k_with "ar" => (first | with_reducible exact ar20 (by assumption))
  k_with_none
  k_with "call type:enumerate" => k_extra "enum"
  k_with "pyIter ref" => k_extra "iter"
  k_with "binaryOp Add str str" => k_extra "sadd"
  k_with "ar" => (first | with_reducible exact ar20 (by assumption))
  w_top off
  refine wpAny_call ?_
  k_dflt (refine' code_gen ?k2 ?k3 ?k4 T.nolimit ?k6 ?k7 ?k8 ?kb ?k9 ?_ ?c2 ?c3 ?c4 ?c5; (case k2 => k_asm); (case k3 => k_asm); (case k4 => k_asm); (case k6 => k_is); (case k7 => k_is); (case k8 => ktr_room); (case kb => exact rfl); (case k9 => exact locs rfl); (case c2 => exact rfl); (case c3 => exact rfl); (case c4 => exact rfl); (case c5 => decide))
  intro C h' tk F' N' FG hg hsz hLC hn
  dsimp only
  refine hret C h' tk _ F' N' hLC hn ?hb ⟨fun A' => GenF PR w A' h₀ (C + 1) s.gens.size C (C + 2) (escL x).length (PEsc x), fun A' hA hdA => ⟨GenF.walks hA hdA T.nolimit (Nat.le_of_lt (Nat.lt_of_le_of_lt F.above hLC)) (Nat.lt_succ_self _) (Nat.lt_succ_self _), hg, F'.keep, _, [C, C + 1], Array.getElem?_push_size .., ?fp, ?go⟩⟩
  case hb =>
    intro y hy
    rcases Array.mem_push.mp hy with hy | rfl
    · exact hB y hy
    · rfl
  case fp =>
    intro b hb
    rcases List.mem_cons.mp hb with rfl | hb
    · exact Nat.le_refl _
    · rw [List.mem_singleton.mp hb]
      exact Nat.le_succ _
  case go =>
    intro s9 hal h0
    refine ⟨rfl, seg_func ?_⟩
    have F9 : Fr h₀ C s9.heap _ := ⟨FG.ns.at' fun o e => hal C (.head _) o e, h0, FG.above⟩
    obtain ⟨r9, N9, kp9⟩ := keepAll F9
    have hI9 : ∃ o, s9.heap.get? (C + 1) = some o := by
      obtain ⟨o, nm, qn, ho, _⟩ := hg
      exact ⟨o, hal (C + 1) (.tail _ (.head _)) o ho⟩
    clear F N F' N' FG hret
    k_with "enum" => (refine Stop.mk ?_)
    k_with "iter" => (refine Stop.mk ?_)
    k_with "sadd" => (refine PyProof.Rows.add_str ?_ (by rw [sizeLine_eq]; decide +kernel); intro t2 tk2)
    refine seg_stmt ?_
    k_steps
    refine seg_stmt ?_
    k_steps
    refine seg_execs_cons (seg_For ?_)
    k_steps
    refine Stop.of ?_
    (rename Fr _ _ _ _ => F5)
    (rename News _ _ _ _ => N5)
    have kp5 := kp9 _ _ _ F5 N5 (fun q hq => hq)
    refine call_enumerate_str ?_
    intro h6 he6 hit6 hz6 hk6
    rename_i h5
    dsimp only at he6 hit6 hz6 hk6
    have hC5 : C + 1 < h5.objs.size := by
      obtain ⟨o, ho⟩ := hI9
      exact Heap.lt_size (kp5 _ o (Nat.ne_of_gt (Nat.lt_succ_self _)) ho)
    obtain ⟨it, hit⟩ : ∃ it, h5.objs.size = it := ⟨_, rfl⟩
    rw [hit] at he6 hit6 hz6 hC5
    dsimp only
    rw [hit]
    have F6 := F5.keeps hk6
    refine wpAny_pyIter_enum he6 ?_
    intro pz
    obtain ⟨m₀, op0, oc0, F7⟩ : ∃ m₀ op oc, Fr h₀ C h6 (msE m₀ ⟨op, oc, false⟩) := ⟨_, _, _, msE_at F6 rfl rfl rfl (fun _ _ _ _ => rfl)⟩
    clear F5 N5 kp9 F6
    refine seg_for_ind (N := x.cps.size) (fun i n s₀ s => ∃ z, EInv h₀ C (it + 1) it x tx m₀ i n s₀ s z) ?turn ?done 0 _ _ _ (Nat.zero_le _) ⟨⟨op0, oc0, false⟩, F7, ?hs, ?hn, ⟨[], rfl⟩, (fun e => by cases e), ⟨_, he6⟩, hit6⟩
    case hs => exact ⟨_, _, rfl, fun b o hb _ e => hk6 b o (kp5 b o hb e)⟩
    case hn => rfl
    case turn =>
      rintro i n s₀ s1 hlt ⟨⟨op, oc, e⟩, F1, hs1, hn1, ⟨pre, hpre1⟩, hpos1, hst1⟩ back
      dsimp only at hn1 hpre1 hpos1
      obtain ⟨cc, hcc⟩ : ∃ cc, x.cps.toList[i]? = some cc := ⟨x.cps.toList[i]'(by simpa using hlt), List.getElem?_eq_getElem _⟩
      have hdr : x.cps.toList.drop i = cc :: x.cps.toList.drop (i + 1) := by
        obtain ⟨h1, h2⟩ := List.getElem?_eq_some_iff.mp hcc
        rw [List.drop_eq_getElem_cons h1, h2]
      rw [hdr] at hn1 hpre1
      refine (walks_enum_str ?hA (it + 1) it (Nat.succ_ne_self it) x tx).item i s1 _ _ hlt hst1 fun T vals h2 tk2 hPt hTsz hT hmid hk2 => ⟨.ref T, rfl, ?_⟩
      case hA => exact hA
      obtain ⟨t1, v1, ⟨c1, u1, hc1, rfl⟩, rfl⟩ := hPt
      have ec : c1 = cc := by
        rw [← Array.getElem?_toList, hcc] at hc1
        exact (Option.some.inj hc1).symm
      subst ec
      refine (walks_enum_str ?hA (it + 1) it (Nat.succ_ne_self it) x tx).go _ _ _ i T _ _ _ hmid fun h3 hst3 hk3 => ?_
      case hA => exact hA
      have hC2 : C ∉ [it + 1, it] := off_two hC5
      have hT3 : h3.IsTuple T #[.int i t1, .str ⟨#[c1]⟩ u1] := by
        obtain ⟨o, e, r⟩ := hT
        obtain ⟨_, _, hTe, hTi⟩ := hmid
        exact ⟨o, hk3 _ o (by simp [hTe, hTi]) e, r⟩
      have k3 : ∀ b o, b ∉ [it + 1, it] → s1.heap.get? b = some o → h3.get? b = some o := fun b o hb e => hk3 b o hb (hk2 b o hb e)
      have h0k : ∀ b o, h₀.get? b = some o → h3.get? b = some o := fun b o e => k3 b o (off_lt (Heap.lt_size e) F1.above hC5) (F1.keep b o e)
      have F3 : Fr h₀ C h3 (msE m₀ ⟨op, oc, e⟩) := ⟨F1.ns.at' fun o e => k3 C o hC2 e, h0k, F1.above⟩
      refine wpAny_assign_Tuple hA hT3 rfl rfl fun h4 hx4 => ?_
      have old4 : ∀ b o, h3.get? b = some o → h4.get? b = some o := fun b o e => hx4 b o (Nat.ne_of_lt (Heap.lt_size e)) e
      have F4 := F3.keeps old4
      refine wpAny_bind (wpAny_holding (wpAny_assign_Name (wpAny_storeName_local rfl F4.ns (fun h5 hn5 hs5 => ?_) rfl)))
      replace hs5 : Heap.SameBut C h4 h5 := hs5
      refine wpAny_bind (wpAny_holding (wpAny_assign_Name (wpAny_storeName_local rfl hn5 (fun h6 hn6 hs6 => wpAny_pure ?_) rfl)))
      replace hs6 : Heap.SameBut C h5 h6 := hs6
      have F6 := Fr.set (Fr.set F4 hn5 hs5) hn6 hs6
      have k36 : ∀ b o, b ≠ C → h3.get? b = some o → h6.get? b = some o := fun b o hb e => (hs6.2 b hb).trans ((hs5.2 b hb).trans (old4 b o e))
      have hne1 : it + 1 ≠ C := fun q => hC2 (by rw [← q]; exact .head _)
      have hne0 : it ≠ C := fun q => hC2 (by rw [← q]; exact .tail _ (.head _))
      have st6 : (∃ old, IsEnum h6 (it + 1) it ((i + 1 : Nat) : Int) old) ∧ h6.IsStrIter it (strIterType x) x tx (i + 1) := by
        obtain ⟨⟨old, he⟩, o, ho, r⟩ := hst3
        exact ⟨⟨old, k36 _ _ hne1 he⟩, o, k36 _ _ hne0 ho, r⟩
      have hs6' : Since C (C + 2) s₀ { s1 with heap := h6, toks := tk2 + 1 + 1 } := hs1.step fun b o hb hlt e => k36 b o hb (k3 b o (off_b (Nat.lt_of_lt_of_le hlt hC5)) e)
      clear F1 F3 F4 hs1 hk2 hk3 hT hT3 hst1 hst3 hmid
      obtain ⟨r6, N6, kp6⟩ := keepAll F6
      cases e with
      | true =>
        have hn2 : n = (escFrom (i + 1) false (x.cps.toList.drop (i + 1))).length + 1 := hn1
        subst hn2
        have hpre2 : escL x = pre ++ ((i : Int), Str.ofString "\\" ++ ⟨#[c1]⟩) :: escFrom (i + 1) false (x.cps.toList.drop (i + 1)) := hpre1
        refine seg_execs_cons (seg_If ?_)
        k_steps
        rw [if_pos rfl]
        refine seg_execs_cons (seg_Expr_Yield rfl rfl rfl ?_)
        k_steps
        (rename Fr _ _ _ _ => F7)
        (rename News _ _ _ _ => N7)
        have kp7 := kp6 _ _ _ F7 N7 (fun q hq => .tail _ hq)
        rename_i kap hkap
        refine ⟨⟨_, _, _, _, idx_pre hpre2, _, rfl, _, (N7 _ (.head _)).1, rfl, _, rfl⟩, hs6'.step (fun b o hb _ e => kp7 b o hb e), [C, it + 1, it], fp_three hC5, fun s8 hal h08 => hkap .none s8 ?_⟩
        have F8 : Fr h₀ C s8.heap _ := ⟨F7.ns.at' fun o e => hal C (.head _) o e, h08, F7.above⟩
        have st8 : (∃ old, IsEnum s8.heap (it + 1) it ((i + 1 : Nat) : Int) old) ∧ s8.heap.IsStrIter it (strIterType x) x tx (i + 1) := by
          obtain ⟨⟨old, he⟩, o, ho, r⟩ := st6
          exact ⟨⟨old, hal _ (.tail _ (.head _)) _ (kp7 _ _ hne1 he)⟩, o, hal _ (.tail _ (.tail _ (.head _))) _ (kp7 _ _ hne0 ho), r⟩
        clear F7 N7 kp6 kp7 hs6' hkap hal
        obtain ⟨r8, N8, kp8⟩ := keepAll F8
        show Seg _ _ _ _ _ _ _ _ _ _
        refine seg_stmt ?_
        k_steps
        (rename Fr _ _ _ _ => F9)
        (rename News _ _ _ _ => N9)
        have kp9 := kp8 _ _ _ F9 N9 (fun q hq => hq)
        refine seg_execs_nil (seg_execs_nil ?_)
        exact back _ _ _ ⟨⟨_, _, false⟩, msE_at F9 rfl rfl rfl (fun z a b c => by simp [msE, a, b, c]), (Since.refl C (C + 2) s8).step (fun b o hb _ e => kp9 b o hb e), rfl, ⟨pre ++ [_], by rw [hpre2, List.append_assoc]; rfl⟩, (fun e => by cases e), by
          obtain ⟨⟨old, he⟩, o, ho, r⟩ := st8
          exact ⟨⟨old, kp9 _ _ hne1 he⟩, o, kp9 _ _ hne0 ho, r⟩⟩
      | false =>
        refine seg_execs_cons (seg_If ?_)
        k_steps
        rw [if_neg (show ¬ ((⟨op, oc, false⟩ : ES).e = true) from Bool.false_ne_true)]
        refine seg_execs_cons (seg_If ?_)
        k_steps
        cases hc : ((⟨#[c1]⟩ : Str) == Str.ofString "\\") with
        | true =>
          rw [if_pos rfl]
          rw [escFrom_bs hc] at hn1 hpre1
          refine seg_stmt ?_
          k_steps
          (rename Fr _ _ _ _ => F9)
          (rename News _ _ _ _ => N9)
          have kp9 := kp6 _ _ _ F9 N9 (fun q hq => hq)
          refine seg_execs_nil (seg_execs_nil (seg_execs_nil ?_))
          exact back _ _ _ ⟨⟨_, _, true⟩, msE_at F9 rfl rfl rfl (fun z a b c => by simp [msE, a, b, c]), hs6'.step (fun b o hb _ e => kp9 b o hb e), hn1, ⟨pre, hpre1⟩, (fun _ => ⟨t1, by push_cast; rw [Int.add_sub_cancel]⟩), by
            obtain ⟨⟨old, he⟩, o, ho, r⟩ := st6
            exact ⟨⟨old, kp9 _ _ hne1 he⟩, o, kp9 _ _ hne0 ho, r⟩⟩
        | false =>
          rw [if_neg Bool.false_ne_true]
          rw [escFrom_no hc] at hn1 hpre1
          have hn2 : n = (escFrom (i + 1) false (x.cps.toList.drop (i + 1))).length + 1 := hn1
          subst hn2
          refine seg_execs_cons (seg_Expr_Yield rfl rfl rfl ?_)
          k_steps
          (rename Fr _ _ _ _ => F7)
          (rename News _ _ _ _ => N7)
          have kp7 := kp6 _ _ _ F7 N7 (fun q hq => .tail _ hq)
          rename_i kap hkap
          refine ⟨⟨_, _, _, _, idx_pre hpre1, _, rfl, _, (N7 _ (.head _)).1, rfl, _, rfl⟩, hs6'.step (fun b o hb _ e => kp7 b o hb e), [C, it + 1, it], fp_three hC5, fun s8 hal h08 => hkap .none s8 ?_⟩
          have F8 : Fr h₀ C s8.heap _ := ⟨F7.ns.at' fun o e => hal C (.head _) o e, h08, F7.above⟩
          have st8 : (∃ old, IsEnum s8.heap (it + 1) it ((i + 1 : Nat) : Int) old) ∧ s8.heap.IsStrIter it (strIterType x) x tx (i + 1) := by
            obtain ⟨⟨old, he⟩, o, ho, r⟩ := st6
            exact ⟨⟨old, hal _ (.tail _ (.head _)) _ (kp7 _ _ hne1 he)⟩, o, hal _ (.tail _ (.tail _ (.head _))) _ (kp7 _ _ hne0 ho), r⟩
          show Seg _ _ _ _ _ _ _ _ _ _
          refine seg_execs_nil (seg_execs_nil (seg_execs_nil ?_))
          exact back _ _ _ ⟨⟨_, _, false⟩, msE_at F8 rfl rfl rfl (fun z a b c => by simp [msE, a, b, c]), Since.refl C (C + 2) s8, rfl, ⟨pre ++ [_], by rw [hpre1, List.append_assoc]; rfl⟩, (fun e => by cases e), st8⟩
    case done =>
      rintro n s₀ s1 ⟨⟨op, oc, e⟩, F1, hs1, hn1, ⟨pre, hpre1⟩, hpos1, hst1⟩
      dsimp only at hn1 hpre1 hpos1
      have hdr : x.cps.toList.drop x.cps.size = [] := List.drop_of_length_le (by simp)
      rw [hdr] at hn1 hpre1
      refine (walks_enum_str ?hA (it + 1) it (Nat.succ_ne_self it) x tx).done s1 _ _ hst1 fun h2 tk2 hk2 => ⟨rfl, seg_block ?_⟩
      case hA => exact hA
      have h0k : ∀ b o, h₀.get? b = some o → h2.get? b = some o := fun b o e => hk2 b o (off_lt (Heap.lt_size e) F1.above hC5) (F1.keep b o e)
      have F2 : Fr h₀ C h2 (msE m₀ ⟨op, oc, e⟩) := ⟨F1.ns.at' fun o e => hk2 C o (off_two hC5) e, h0k, F1.above⟩
      have hs2 : Since C (C + 2) s₀ { s1 with heap := h2, toks := tk2 } := hs1.step fun b o hb hlt e => hk2 b o (off_b (Nat.lt_of_lt_of_le hlt hC5)) e
      clear F1 hs1
      obtain ⟨r6, N6, kp6⟩ := keepAll F2
      rw [forBack_ok]
      cases e with
      | true =>
        obtain ⟨tp, hop⟩ := hpos1 rfl
        subst hop
        have hn2 : n = 0 + 1 := hn1
        subst hn2
        refine seg_execs_cons (seg_If ?_)
        k_steps
        rw [if_pos rfl]
        refine seg_execs_cons (seg_Expr_Yield rfl rfl rfl ?_)
        k_steps
        (rename Fr _ _ _ _ => F7)
        (rename News _ _ _ _ => N7)
        have kp7 := kp6 _ _ _ F7 N7 (fun q hq => .tail _ hq)
        rename_i kap hkap
        refine ⟨⟨_, _, _, _, idx_pre (r := []) hpre1, _, rfl, _, (N7 _ (.head _)).1, rfl, _, rfl⟩, hs2.step (fun b o hb _ e => kp7 b o hb e), [C, it + 1, it], fp_three hC5, fun s8 hal h08 => hkap .none s8 ?_⟩
        show Seg _ _ _ _ _ _ _ _ _ _
        refine seg_execs_nil (seg_execs_nil ?_)
        exact seg_end (.ok (.ret .none)) ⟨rfl, rfl, Since.refl C (C + 2) s8⟩
      | false =>
        have hn2 : n = 0 := hn1
        subst hn2
        refine seg_execs_cons (seg_If ?_)
        k_steps
        rw [if_neg (show ¬ ((⟨op, oc, false⟩ : ES).e = true) from Bool.false_ne_true)]
        refine seg_execs_nil (seg_execs_nil ?_)
        (rename Fr _ _ _ _ => F7)
        (rename News _ _ _ _ => N7)
        exact seg_end (.ok (.ret .none)) ⟨rfl, rfl, hs2.step (fun b o hb _ e => kp6 _ _ _ F7 N7 (fun q hq => hq) b o hb e)⟩
end
end Mine
namespace Mine

theorem esc_bound : ∀ (r : List Nat) (i : Nat) (e : Bool), (e = true → 1 ≤ i) → ∀ q ∈ escFrom i e r, 0 ≤ q.1 ∧ q.1 < (i : Int) + r.length
  | [], i, e, he, q, hq => by
    unfold escFrom at hq
    split at hq
    · rename_i h
      have := he h
      rw [List.mem_singleton.mp hq]
      simp
      omega
    · cases hq
  | c :: r, i, e, he, q, hq => by
    have ih := fun e' (q : Int × Str) (hq : q ∈ escFrom (i + 1) e' r) => esc_bound r (i + 1) e' (fun _ => Nat.succ_le_succ (Nat.zero_le i)) q hq
    rw [List.length_cons]
    unfold escFrom at hq
    split at hq
    · rcases List.mem_cons.mp hq with rfl | hq
      · dsimp only; omega
      · have := ih _ _ hq; omega
    · split at hq
      · have := ih _ _ hq; omega
      · rcases List.mem_cons.mp hq with rfl | hq
        · dsimp only; omega
        · have := ih _ _ hq; omega
theorem esc_len : ∀ (r : List Nat) (i : Nat) (e : Bool), (escFrom i e r).length ≤ r.length + 1
  | [], i, e => by unfold escFrom; split <;> simp
  | c :: r, i, e => by
    have ih := fun e' => esc_len r (i + 1) e'
    rw [List.length_cons]
    unfold escFrom
    split
    · rw [List.length_cons]; have := ih false; omega
    · split
      · have := ih true; omega
      · rw [List.length_cons]; have := ih false; omega

abbrev StS := Int × Option Int × List Str
noncomputable def stStep (x : Str) (st : StS) (pc : Int × Str) : StS :=
  if (pc.2 == Str.ofString "\"") = true then
    match st.2.1 with
    | none => (st.1, some pc.1, st.2.2)
    | some o => (pc.1 + 1, none, if st.1 = o then st.2.2 else st.2.2 ++ [Txt.slice x (some st.1) (some o)])
  else st
noncomputable def stAll (x : Str) (n : Nat) : StS := ((escL x).take n).foldl (stStep x) (0, none, [])
noncomputable def stripL (x : Str) : Str :=
  if 34 ∈ x.cps.toList then Txt.join (Str.ofString "") (if (stAll x (escL x).length).1 < (x.length : Int) then (stAll x (escL x).length).2.2 ++ [Txt.slice x (some (stAll x (escL x).length).1) none] else (stAll x (escL x).length).2.2) else x
theorem stAll_succ {x : Str} {i : Nat} {pc : Int × Str} (h : (escL x)[i]? = some pc) : stAll x (i + 1) = stStep x (stAll x i) pc := by
  unfold stAll
  rw [List.take_add_one, h]
  simp [List.foldl_append]
/-- what is known between two turns -/
structure StOk (x : Str) (i : Nat) (st : StS) : Prop where
  e : st = stAll x i
  h0 : 0 ≤ st.1
  h1 : st.1 ≤ (x.length : Int)
  ho : ∀ o, st.2.1 = some o → 0 ≤ o ∧ o < (x.length : Int)
  hl : st.2.2.length ≤ i
  hs : ∀ y ∈ st.2.2, y.length ≤ x.length
theorem StOk.start (x : Str) : StOk x 0 (0, none, []) := ⟨rfl, by decide, Int.natCast_nonneg _, (fun _ h => by cases h), Nat.le_refl _, (fun _ h => by cases h)⟩
theorem StOk.step {x : Str} {i : Nat} {st : StS} (h : StOk x i st) {pc : Int × Str} (hp : (escL x)[i]? = some pc) : StOk x (i + 1) (stStep x st pc) := by
  k_with_none
  k_with "call ref" => ((with_reducible show wpAny _ _ (call (Value.ref 56) _ _) _ _ _); k_extra "call_56")
  k_with "exec For Tuple Call cons nil" => k_extra "for"
  k_with "pyIter ref" => k_extra "iter"
  k_with "last pyIter ref" => k_extra "iter"
  k_with "call builtin:list.append" => k_extra "app"
  k_with "call builtin:str.join" => k_extra "join"
  k_with "ar" => (first | with_reducible exact ar325 (by assumption) | with_reducible exact ar507 (by assumption) | with_reducible exact ar326 (by assumption) | with_reducible exact ar299 (by assumption))
  obtain ⟨b0, b1⟩ := esc_bound x.cps.toList 0 false (fun e => by cases e) pc (List.mem_of_getElem? hp)
  have b2 : pc.1 < (x.length : Int) := by
    have e : x.length = x.cps.toList.length := by simp [Str.length]
    rw [e]
    simpa using b1
  obtain ⟨he, h0, h1, ho, hl, hs⟩ := h
  obtain ⟨a, o, r⟩ := st
  dsimp only at h0 h1 ho hl hs
  refine ⟨by rw [stAll_succ hp, he], ?_, ?_, ?_, ?_, ?_⟩ <;> unfold stStep <;> split <;> dsimp only
  all_goals first
    | (cases o <;> dsimp only)
    | skip
  all_goals first
    | omega
    | assumption
    | (intro o' ho'; cases ho'; exact ⟨b0, b2⟩)
    | (intro o' ho'; cases ho'; done)
    | (split
       · omega
       · rw [List.length_append, List.length_singleton]; omega)
    | (split
       · exact hs
       · intro y hy
         rcases List.mem_append.mp hy with hy | hy
         · exact hs y hy
         · rw [List.mem_singleton.mp hy]; exact Txt.slice_le x _ _)
structure SS where
  op : Option Value
  oc : Option Value
  st : StS
  ts : Tok
  vo : Value
  vs : List Value
  ep : Nat
noncomputable def msS (m₀ : Str → Option Value) (x : SS) : Str → Option Value := fun z => if z = Str.ofString "pos" then x.op else if z = Str.ofString "ch" then x.oc else if z = Str.ofString "start" then some (.int x.st.1 x.ts) else if z = Str.ofString "open_pos" then some x.vo else m₀ z
theorem msS_at {h₀ h : Heap} {L : Addr} {m m₀ : Str → Option Value} {x : SS} (F : Fr h₀ L h m) (h1 : m (Str.ofString "pos") = x.op) (h2 : m (Str.ofString "ch") = x.oc) (h3 : m (Str.ofString "start") = some (.int x.st.1 x.ts)) (h4 : m (Str.ofString "open_pos") = some x.vo)
    (h5 : ∀ z, z ≠ Str.ofString "pos" → z ≠ Str.ofString "ch" → z ≠ Str.ofString "start" → z ≠ Str.ofString "open_pos" → m z = m₀ z) : Fr h₀ L h (msS m₀ x) := by
  have e : m = msS m₀ x := by
    funext z
    unfold msS
    split
    · rename_i e; rw [e, h1]
    · split
      · rename_i e; rw [e, h2]
      · split
        · rename_i e; rw [e, h3]
        · split
          · rename_i e; rw [e, h4]
          · exact h5 z (by assumption) (by assumption) (by assumption) (by assumption)
  exact e ▸ F
/-- how open_pos is held -/
def HeldO (o : Option Int) (v : Value) : Prop := match o with | none => v = .none | some i => ∃ t, v = .int i t
structure SInv (x : Str) (i : Nat) (z : SS) : Prop where
  ok : StOk x i z.st
  hv : HeldO z.st.2.1 z.vo
  hr : StrsAre z.vs z.st.2.2
theorem StrsAre.snoc {vs : List Value} {ys : List Str} (h : StrsAre vs ys) (y : Str) (t : Tok) : StrsAre (vs ++ [.str y t]) (ys ++ [y]) := by
  induction h with
  | nil => exact .cons y t .nil
  | cons a b _ ih => exact .cons a b ih
theorem StrsAre.len {vs : List Value} {ys : List Str} (h : StrsAre vs ys) : vs.length = ys.length := by
  induction h with
  | nil => rfl
  | cons a b _ ih => simp [ih]
noncomputable def nsS (R : Addr) (rest : List (Addr × Obj)) (x : SS) : List (Addr × Obj) := (R, listOf x.vs.toArray x.ep) :: rest
theorem stStep_no {x : Str} {st : StS} {pc : Int × Str} (h : (pc.2 == Str.ofString "\"") = false) : stStep x st pc = st := by unfold stStep; rw [h]; rfl
theorem stStep_open {x : Str} {a : Int} {r : List Str} {pc : Int × Str} (h : (pc.2 == Str.ofString "\"") = true) : stStep x (a, none, r) pc = (a, some pc.1, r) := by unfold stStep; rw [h]; rfl
theorem stStep_same {x : Str} {a o : Int} {r : List Str} {pc : Int × Str} (h : (pc.2 == Str.ofString "\"") = true) (e : a = o) : stStep x (a, some o, r) pc = (pc.1 + 1, none, r) := by unfold stStep; rw [h]; simp [e]
theorem stStep_cut {x : Str} {a o : Int} {r : List Str} {pc : Int × Str} (h : (pc.2 == Str.ofString "\"") = true) (e : a ≠ o) : stStep x (a, some o, r) pc = (pc.1 + 1, none, r ++ [Txt.slice x (some a) (some o)]) := by unfold stStep; rw [h]; simp [e]
theorem sum_le {ys : List Str} {n : Nat} (h : ∀ y ∈ ys, y.length ≤ n) : (ys.map (·.length)).sum ≤ ys.length * n := by
  k_with_none
  k_with "call ref" => ((with_reducible show wpAny _ _ (call (Value.ref 56) _ _) _ _ _); k_extra "call_56")
  k_with "exec For Tuple Call cons nil" => k_extra "for"
  k_with "pyIter ref" => k_extra "iter"
  k_with "last pyIter ref" => k_extra "iter"
  k_with "call builtin:list.append" => k_extra "app"
  k_with "call builtin:str.join" => k_extra "join"
  k_with "ar" => (first | with_reducible exact ar53 (by assumption) (by assumption))
  induction ys with
  | nil => simp
  | cons y r ih =>
    have h1 := h y (.head _)
    have h2 := ih fun z hz => h z (.tail _ hz)
    rw [List.map_cons, List.sum_cons, List.length_cons, Nat.succ_mul]
    omega
theorem strip_no {x : Str} (h : (Builtin.Str.occurrences x (Str.ofString "\"") 0 x.length 1).isEmpty = true) : stripL x = x := by
  have e : Str.ofString "\"" = ⟨#[34]⟩ := by decide +kernel
  rw [e, empty_one] at h
  unfold stripL
  exact if_neg (by simpa using h)
theorem strip_yes {x : Str} (h : (Builtin.Str.occurrences x (Str.ofString "\"") 0 x.length 1).isEmpty = false) : stripL x = Txt.join (Str.ofString "") (if (stAll x (escL x).length).1 < (x.length : Int) then (stAll x (escL x).length).2.2 ++ [Txt.slice x (some (stAll x (escL x).length).1) none] else (stAll x (escL x).length).2.2) := by
  have e : Str.ofString "\"" = ⟨#[34]⟩ := by decide +kernel
  rw [e, empty_one] at h
  unfold stripL
  exact if_pos (by simpa using h)
theorem nsS_cons {h₀ h : Heap} {L R : Addr} {r1 own r9 : List (Addr × Obj)} {op oc : Option Value} {st : StS} {ts : Tok} {vo : Value} {vs : List Value} {ep : Nat} (N : News h₀ L h (nsS R r1 ⟨op, oc, st, ts, vo, vs, ep⟩ ++ own)) (h9 : r1 ++ own = r9) : News h₀ L h ((R, listOf vs.toArray ep) :: r9) := by
  rw [← h9]; exact N
theorem nsS_back {h₀ h : Heap} {L R : Addr} {r1 own r9 : List (Addr × Obj)} {op oc : Option Value} {st : StS} {ts : Tok} {vo : Value} {vs : List Value} {ep : Nat} (N : News h₀ L h ((R, listOf vs.toArray ep) :: r9)) (h9 : r1 ++ own = r9) : News h₀ L h (nsS R r1 ⟨op, oc, st, ts, vo, vs, ep⟩ ++ own) := by
  rw [← h9] at N; exact N
theorem nsS_off {R C : Addr} {r1 own r9 : List (Addr × Obj)} (h1 : ∀ q ∈ r1, q.1 < R) (h2 : @LT.lt Nat _ R C) (h3 : ∀ q ∈ own, C ≤ q.1) (h9 : r1 ++ own = r9) : ∀ q ∈ r9, q.1 ≠ R := by
  rw [← h9]
  intro q hq
  rcases List.mem_append.mp hq with hq | hq
  · exact Nat.ne_of_lt (h1 q hq)
  · exact Nat.ne_of_gt (Nat.lt_of_lt_of_le h2 (h3 q hq))
theorem strip_weight {vs : List Value} {ys : List Str} {n : Nat} (h : StrsAre vs ys) (hv : vs.length ≤ 101) (hn : n ≤ 100) (hs : ∀ y ∈ ys, y.length ≤ n) (z : Str) (hz : z.length ≤ n) :
    (ys.map (·.length)).sum + ys.length ≤ 1048576 ∧ ((ys ++ [z]).map (·.length)).sum + (ys ++ [z]).length ≤ 1048576 := by
  k_with_none
  k_with "call ref" => ((with_reducible show wpAny _ _ (call (Value.ref 56) _ _) _ _ _); k_extra "call_56")
  k_with "exec For Tuple Call cons nil" => k_extra "for"
  k_with "pyIter ref" => k_extra "iter"
  k_with "last pyIter ref" => k_extra "iter"
  k_with "call builtin:list.append" => k_extra "app"
  k_with "call builtin:str.join" => k_extra "join"
  k_with "ar" => (first | with_reducible exact ar674 (by assumption) (by assumption) | with_reducible exact ar537 (by assumption) (by assumption) (by assumption) (by assumption) | with_reducible exact ar540 (by assumption) (by assumption) (by assumption) (by assumption) (by assumption) (by assumption))
  have h1 := StrsAre.len h
  have h2 := sum_le hs
  have h3 : ys.length * n ≤ 101 * 100 := Nat.mul_le_mul (by omega) hn
  constructor
  · omega
  · rw [List.map_append, List.sum_append, List.length_append]
    simp only [List.map_cons, List.map_nil, List.sum_cons, List.sum_nil, List.length_cons, List.length_nil]
    omega
section
variable {w : World} {p : Program} {loose : List Str} {mean : ExcName → Option Value} {mg mb : Str → Option Value}
  {dp un : Nat} {gd : Option (List Code)} {cn : Str} {cs : Scope} {a : Addr} {ccd : Value} {cl : List (Str × Addr)} {outer : List Env} {A₀ : Around} {base h₀ : Heap} {L : Addr} {m : Str → Option Value} {news : List (Addr × Obj)} {s : Shared}
  {Q E : Value → Shared → Prop}
set_option maxRecDepth 100000 in
set_option maxHeartbeats 1600000 in
theorem t_strip {x : Str} {tx : Tok} (B : Below A₀ base outer h₀) (F : Fr h₀ L s.heap m) (X : (hd.heap_39 w.params).In h₀) (N : News h₀ L s.heap news) (T : Top p loose mean mg mb h₀) (hk : cs.kind = .function)
  (hB : AllBare s.gens) (hxl : x.length ≤ 100) (hd : dp + 300 < recursionLimit) (hu : un + 2400 < cLine)
  (hret : ∀ t h' tk' g', Fr h₀ L h' m → News h₀ L h' news → AllBare g' → Q (.str (stripL x) t) { s with heap := h', toks := tk', gens := g' }) :
    wpAny (model PR w) (ktrTop dp un gd cn cs L a ccd cl outer) (call (.ref 63) [.str x tx]) Q E s := by
  k_with_none
  k_with "call ref" => ((with_reducible show wpAny _ _ (call (Value.ref 56) _ _) _ _ _); k_extra "call_56")
  k_with "exec For Tuple Call cons nil" => k_extra "for"
  k_with "pyIter ref" => k_extra "iter"
  k_with "last pyIter ref" => k_extra "iter"
  k_with "call builtin:list.append" => k_extra "app"
  k_with "call builtin:str.join" => k_extra "join"
  k_with "ar" => (first | with_reducible exact ar147 (by assumption) | with_reducible exact ar280 (by assumption) | with_reducible exact ar98 (by assumption) | with_reducible exact ar149 (by assumption) | with_reducible exact ar527 (by assumption) | with_reducible exact ar482 (by assumption) (by assumption) (by assumption) (by assumption) (by assumption) (by assumption) | with_reducible exact ar691 (by assumption) (by assumption) (by assumption) (by assumption) (by assumption) | with_reducible exact ar140 (by assumption) | with_reducible exact ar443 (by assumption) | with_reducible exact ar34)
  have hxs : x.length ≤ sizeLine := by rw [sizeLine_eq]; omega
  k_with_none
  k_with "call ref" => ((with_reducible show wpAny _ _ (call (Value.ref 56) _ _) _ _ _); k_extra "call_56")
  k_with "exec For Tuple Call cons nil" => k_extra "for"
  k_with "pyIter ref" => k_extra "iter"
  k_with "last pyIter ref" => k_extra "iter"
  k_with "call builtin:list.append" => k_extra "app"
  k_with "call builtin:str.join" => k_extra "join"
  k_with "ar" => (first | with_reducible exact ar147 (by assumption) | with_reducible exact ar280 (by assumption) | with_reducible exact ar98 (by assumption) | with_reducible exact ar149 (by assumption) | with_reducible exact ar527 (by assumption) | with_reducible exact ar482 (by assumption) (by assumption) (by assumption) (by assumption) (by assumption) (by assumption) | with_reducible exact ar691 (by assumption) (by assumption) (by assumption) (by assumption) (by assumption) | with_reducible exact ar140 (by assumption) | with_reducible exact ar443 (by assumption) | with_reducible exact ar34)
  w_top off
  k_with "iter" => (refine Stop.mk ?_)
  k_with "for" => ((rename Fr _ _ _ _ => lF'); (with_unfolding_all refine' ForT lF' ?_); k_whole)
  k_with "call_56" => (refine' t_esc ?B ?F ?X ?N ?T ?hk ?hB ?hd ?hu ?_; (case B => k_asm); (case F => k_asm); (case X => k_asm); (case N => k_asm); (case T => k_asm); (case hk => exact rfl); (case hB => exact hB); (case hd => ktr_room); (case hu => ktr_units); k_whole; intro C h' tk' g' F' N' lC l1 hB' hSt; (try k_lt l1); (try dsimp only); (try k_fold))
  refine wpAny_call ?_
  k_dflt ktr_enter
  k_steps
  · (rename (List.isEmpty (Builtin.Str.occurrences _ _ _ _ _)) = true => hocc)
    rw [strip_no hocc] at hret
    exact hret _ _ _ _ (by k_asm) (by k_asm) hB
  · refine Stop.of ?_
    (rename (List.isEmpty (Builtin.Str.occurrences _ _ _ _ _)) = false => hocc)
    obtain ⟨St, hSt⟩ := hSt
    obtain ⟨l1R, l1n⟩ := l1
    (rename (∀ q ∈ news, q.1 < _) => lR)
    refine (hSt _ ?hA ?hdA).1.self 0 _ _ _ (hSt _ ?hA ?hdA).2 ?_
    case hA => exact rfl
    case hdA => ktr_room
    refine loop_gen (msS _) (nsS _ news) (fun i z => SInv x i z) ⟨_, _, (0, none, []), _, .none, [], 0⟩ (hSt _ ?hA ?hdA).1 rfl lC (hSt _ ?hA ?hdA).2 hB' (msS_at F' rfl rfl rfl rfl (fun _ _ _ _ _ => rfl)) N' ⟨StOk.start x, rfl, .nil⟩ ?hnw rfl rfl rfl (fun i a => ∃ p c t, (escL x)[i]? = some (p, c) ∧ a = .int p t) (fun i b => ∃ p c u, (escL x)[i]? = some (p, c) ∧ b = .str c u) ?hP ?turn ?done
    case hA => exact rfl
    case hdA => ktr_room
    case hnw =>
      intro i z _ q hq
      rcases List.mem_cons.mp hq with rfl | hq
      · exact l1R
      · exact ktn_ltOf l1n q hq
    case hP =>
      rintro i v h hi ⟨p1, c1, t1, u1, he, ht⟩
      exact ⟨_, _, ht, ⟨_, _, _, he, rfl⟩, ⟨_, _, _, he, rfl⟩⟩
    case turn =>
      rintro i _ _ ⟨op, oc, ⟨a0, o0, r0⟩, ts, vo, vs, ep⟩ h9 tk9 g9 own hlt ⟨p1, c1, t1, hi1, rfl⟩ ⟨p2, c2, u2, hi2, rfl⟩ ⟨hok, hv, hr⟩ hown hBg F9 N9
      rw [hi1] at hi2
      obtain ⟨rfl, rfl⟩ := Prod.mk.inj (Option.some.inj hi2)
      dsimp only at hok hv hr
      have hok' := hok.step hi1
      obtain ⟨r9, hr9⟩ : ∃ r9, news ++ own = r9 := ⟨_, rfl⟩
      have N10 := nsS_cons N9 hr9
      have hoffR := nsS_off (r9 := r9) lR l1R hown hr9
      have hz1000 : vs.length ≤ 1000 := by
        have h1 := StrsAre.len hr
        have h2 := hok.hl
        have h3 := esc_len x.cps.toList 0 false
        have h4 : x.cps.toList.length = x.length := by simp [Str.length]
        unfold escL at hlt
        dsimp only at h2
        omega
      clear N9 F' N' hret
      k_with "app" => (refine app_head (by k_asm) (by k_asm) hoffR hz1000 ?_; intro h' F' N'; (try dsimp only at N'))
      cases o0 with
      | none =>
        have hv' : vo = .none := hv
        subst hv'
        k_steps
        · (rename (_ == _) = true => hq)
          rw [stStep_open hq] at hok'
          exact MyEndG.next ⟨_, _, (a0, some p1, r0), _, _, vs, ep⟩ (msS_at (by k_asm) rfl rfl rfl rfl (fun z a b c d => by simp [msS, a, b, c, d])) (nsS_back (by k_asm) hr9) ⟨hok', ⟨_, rfl⟩, hr⟩
        · (rename (_ == _) = false => hq)
          rw [stStep_no hq] at hok'
          exact MyEndG.next ⟨_, _, (a0, none, r0), _, _, vs, ep⟩ (msS_at (by k_asm) rfl rfl rfl rfl (fun z a b c d => by simp [msS, a, b, c, d])) (nsS_back (by k_asm) hr9) ⟨hok', rfl, hr⟩
      | some o =>
        obtain ⟨to, hv'⟩ := hv
        subst hv'
        k_steps
        · (rename (_ == _) = true => hq)
          rw [stStep_cut hq (by assumption)] at hok'
          exact MyEndG.next ⟨_, _, (p1 + 1, none, r0 ++ [Txt.slice x (some a0) (some o)]), _, _, vs ++ [.str _ _], ep + 1⟩ (msS_at (by k_asm) rfl rfl rfl rfl (fun z a b c d => by simp [msS, a, b, c, d])) (nsS_back (by k_asm) hr9) ⟨hok', rfl, StrsAre.snoc hr _ _⟩
        · (rename (_ == _) = true => hq)
          rw [stStep_same hq (by assumption)] at hok'
          exact MyEndG.next ⟨_, _, (p1 + 1, none, r0), _, _, vs, ep⟩ (msS_at (by k_asm) rfl rfl rfl rfl (fun z a b c d => by simp [msS, a, b, c, d])) (nsS_back (by k_asm) hr9) ⟨hok', rfl, hr⟩
        · (rename (_ == _) = false => hq)
          rw [stStep_no hq] at hok'
          exact MyEndG.next ⟨_, _, (a0, some o, r0), _, _, vs, ep⟩ (msS_at (by k_asm) rfl rfl rfl rfl (fun z a b c d => by simp [msS, a, b, c, d])) (nsS_back (by k_asm) hr9) ⟨hok', ⟨_, rfl⟩, hr⟩
    case done =>
      rintro ⟨op, oc, ⟨a0, o0, r0⟩, ts, vo, vs, ep⟩ h9 tk9 g9 ⟨hok, hv, hr⟩ hBg F9 N9
      dsimp only at hok hv hr
      have hz1000 : vs.length ≤ 101 := by
        have h1 := StrsAre.len hr
        have h2 := hok.hl
        have h3 := esc_len x.cps.toList 0 false
        have h4 : x.cps.toList.length = x.length := by simp [Str.length]
        unfold escL at h2
        dsimp only at h2
        omega
      have hsl := strip_yes hocc
      rw [← hok.e] at hsl
      dsimp only at hsl
      have h00 := hok.h0
      have h01 := hok.h1
      dsimp only at h00 h01
      obtain ⟨hw1, hw2⟩ := strip_weight hr hz1000 hxl hok.hs (Txt.slice x (some a0) none) (Txt.slice_le x _ _)
      have N10 := nsS_cons (own := []) (r9 := news) (by rw [List.append_nil]; exact N9) (List.append_nil _)
      clear F' N' N9
      k_with "app" => (refine app_head (by k_asm) (by k_asm) (fun q hq => Nat.ne_of_lt (lR q hq)) (by omega) ?_; intro h' F' N'; (try dsimp only at N'))
      k_with "join" => (refine join_listW (News.isList (by k_asm) (List.mem_cons_self ..)) (by first | simpa using hr | simpa using (StrsAre.snoc hr _ _)) (by decide +kernel) (by first | exact hw1 | exact hw2) ?_; intro t' tk')
      k_steps
      · rw [if_pos (by assumption)] at hsl
        rw [hsl] at hret
        exact hret _ _ _ _ (by k_asm) (News.sub (by k_asm) (fun q hq => .tail _ hq)) hBg
      · rw [if_neg (by assumption)] at hsl
        rw [hsl] at hret
        exact hret _ _ _ _ (by k_asm) (News.sub (by k_asm) (fun q hq => .tail _ hq)) hBg
end
end Mine
namespace Mine

noncomputable def checkL : List (Int × Str) → Int → Bool
  | [], o => o == 0
  | (_, c) :: r, o => if (c == Str.ofString "(") = true then checkL r (o + 1) else if (c == Str.ofString ")") = true then (if o - 1 < 0 then false else checkL r (o - 1)) else checkL r o
noncomputable def checkP (x : Str) : Bool := checkL (escL (stripL x)) 0
theorem checkL_open {c : Str} {p : Int} {r : List (Int × Str)} {o : Int} (h : (c == Str.ofString "(") = true) : checkL ((p, c) :: r) o = checkL r (o + 1) := by rw [checkL, if_pos h]
theorem checkL_neg {c : Str} {p : Int} {r : List (Int × Str)} {o : Int} (h : (c == Str.ofString "(") = false) (h2 : (c == Str.ofString ")") = true) (ho : o - 1 < 0) : checkL ((p, c) :: r) o = false := by
  rw [checkL, if_neg (by rw [h]; exact Bool.false_ne_true), if_pos h2, if_pos ho]
theorem checkL_close {c : Str} {p : Int} {r : List (Int × Str)} {o : Int} (h : (c == Str.ofString "(") = false) (h2 : (c == Str.ofString ")") = true) (ho : ¬ o - 1 < 0) : checkL ((p, c) :: r) o = checkL r (o - 1) := by
  rw [checkL, if_neg (by rw [h]; exact Bool.false_ne_true), if_pos h2, if_neg ho]
theorem checkL_no {c : Str} {p : Int} {r : List (Int × Str)} {o : Int} (h : (c == Str.ofString "(") = false) (h2 : (c == Str.ofString ")") = false) : checkL ((p, c) :: r) o = checkL r o := by
  rw [checkL, if_neg (by rw [h]; exact Bool.false_ne_true), if_neg (by rw [h2]; exact Bool.false_ne_true)]

structure CS where
  op : Option Value
  oc : Option Value
  o : Int
  t : Tok
noncomputable def msC (m₀ : Str → Option Value) (x : CS) : Str → Option Value := fun z => if z = Str.ofString "pos" then x.op else if z = Str.ofString "ch" then x.oc else if z = Str.ofString "opens" then some (.int x.o x.t) else m₀ z
theorem msC_at {h₀ h : Heap} {L : Addr} {m m₀ : Str → Option Value} {x : CS} (F : Fr h₀ L h m) (h1 : m (Str.ofString "pos") = x.op) (h2 : m (Str.ofString "ch") = x.oc) (h3 : m (Str.ofString "opens") = some (.int x.o x.t))
    (h5 : ∀ z, z ≠ Str.ofString "pos" → z ≠ Str.ofString "ch" → z ≠ Str.ofString "opens" → m z = m₀ z) : Fr h₀ L h (msC m₀ x) := by
  have e : m = msC m₀ x := by
    funext z
    unfold msC
    split
    · rename_i e; rw [e, h1]
    · split
      · rename_i e; rw [e, h2]
      · split
        · rename_i e; rw [e, h3]
        · exact h5 z (by assumption) (by assumption) (by assumption)
  exact e ▸ F
section
variable {w : World} {p : Program} {loose : List Str} {mean : ExcName → Option Value} {mg mb : Str → Option Value}
  {dp un : Nat} {gd : Option (List Code)} {cn : Str} {cs : Scope} {a : Addr} {ccd : Value} {cl : List (Str × Addr)} {outer : List Env} {A₀ : Around} {base h₀ : Heap} {L : Addr} {m : Str → Option Value} {news : List (Addr × Obj)} {s : Shared}
  {Q E : Value → Shared → Prop}
set_option maxRecDepth 100000 in
set_option maxHeartbeats 1600000 in
theorem t_check {x : Str} {tx : Tok} (B : Below A₀ base outer h₀) (F : Fr h₀ L s.heap m) (X : (hd.heap_39 w.params).In h₀) (N : News h₀ L s.heap news) (T : Top p loose mean mg mb h₀) (hk : cs.kind = .function)
  (hB : AllBare s.gens) (hxl : x.length ≤ 100) (hd : dp + 400 < recursionLimit) (hu : un + 3200 < cLine)
  (hret : ∀ h' tk' g', Fr h₀ L h' m → News h₀ L h' news → AllBare g' → Q (.bool (checkP x)) { s with heap := h', toks := tk', gens := g' }) :
    wpAny (model PR w) (ktrTop dp un gd cn cs L a ccd cl outer) (call (.ref 70) [.str x tx]) Q E s := by
  k_with_none
  k_with "call ref" => ((with_reducible show wpAny _ _ (call (Value.ref 56) _ _) _ _ _); k_extra "call_56")
  k_with "call ref" => ((with_reducible show wpAny _ _ (call (Value.ref 63) _ _) _ _ _); k_extra "call_63")
  k_with "exec For Tuple Call cons nil" => k_extra "for"
  k_with "pyIter ref" => k_extra "iter"
  k_with "last pyIter ref" => k_extra "iter"
  k_with "ar" => (first | with_reducible exact ar567 (by assumption) | with_reducible exact ar231 (by assumption) | with_reducible exact ar242 (by assumption) | with_reducible exact ar564 (by assumption) | with_reducible exact ar363 (by assumption) | with_reducible exact ar678 (by assumption))
  k_with_none
  k_with "call ref" => ((with_reducible show wpAny _ _ (call (Value.ref 56) _ _) _ _ _); k_extra "call_56")
  k_with "call ref" => ((with_reducible show wpAny _ _ (call (Value.ref 63) _ _) _ _ _); k_extra "call_63")
  k_with "exec For Tuple Call cons nil" => k_extra "for"
  k_with "pyIter ref" => k_extra "iter"
  k_with "last pyIter ref" => k_extra "iter"
  k_with "ar" => (first | with_reducible exact ar567 (by assumption) | with_reducible exact ar231 (by assumption) | with_reducible exact ar242 (by assumption) | with_reducible exact ar564 (by assumption) | with_reducible exact ar363 (by assumption) | with_reducible exact ar678 (by assumption))
  w_top off
  k_with "iter" => (refine Stop.mk ?_)
  k_with "for" => ((rename Fr _ _ _ _ => lF'); (with_unfolding_all refine' ForT lF' ?_); k_whole)
  k_with "call_63" => (refine' t_strip ?B ?F ?X ?N ?T ?hk ?hB hxl ?hd ?hu ?_; (case B => k_asm); (case F => k_asm); (case X => k_asm); (case N => k_asm); (case T => k_asm); (case hk => exact rfl); (case hB => exact hB); (case hd => ktr_room); (case hu => ktr_units); k_whole; intro t' h' tk' g' F' N' hB'; (try dsimp only); (try k_fold))
  k_with "call_56" => (refine' t_esc ?B ?F ?X ?N ?T ?hk ?hB ?hd ?hu ?_; (case B => k_asm); (case F => k_asm); (case X => k_asm); (case N => k_asm); (case T => k_asm); (case hk => exact rfl); (case hB => assumption); (case hd => ktr_room); (case hu => ktr_units); k_whole; intro C h' tk' g' F' N' lC l1 hB' hSt; (try dsimp only); (try k_fold))
  refine wpAny_call ?_
  k_dflt ktr_enter
  k_steps
  refine Stop.of ?_
  obtain ⟨St, hSt⟩ := hSt
  obtain ⟨y, hy⟩ : ∃ y, stripL x = y := ⟨_, rfl⟩
  unfold checkP at hret
  rw [hy] at hret hSt
  refine (hSt _ ?hA ?hdA).1.self 0 _ _ _ (hSt _ ?hA ?hdA).2 ?_
  case hA => exact rfl
  case hdA => ktr_room
  refine loop_gen (msC _) (fun _ => news) (fun i z => checkL ((escL y).drop i) z.o = checkL (escL y) 0) ⟨_, _, 0, _⟩ (hSt _ ?hA ?hdA).1 rfl lC (hSt _ ?hA ?hdA).2 (by assumption) (msC_at F' rfl rfl rfl (fun _ _ _ _ => rfl)) N' rfl ?hnw rfl rfl rfl (fun i a => ∃ p c t, (escL y)[i]? = some (p, c) ∧ a = .int p t) (fun i b => ∃ p c u, (escL y)[i]? = some (p, c) ∧ b = .str c u) ?hP ?turn ?done
  case hA => exact rfl
  case hdA => ktr_room
  case hnw => exact fun i z _ q hq => l1 q hq
  case hP =>
    rintro i v h hi ⟨p1, c1, t1, u1, he, ht⟩
    exact ⟨_, _, ht, ⟨_, _, _, he, rfl⟩, ⟨_, _, _, he, rfl⟩⟩
  case turn =>
    rintro i _ _ ⟨op, oc, o, t⟩ h9 tk9 g9 own hlt ⟨p1, c1, t1, hi1, rfl⟩ ⟨p2, c2, u2, hi2, rfl⟩ hz hown hBg F9 N9
    rw [hi1] at hi2
    obtain ⟨rfl, rfl⟩ := Prod.mk.inj (Option.some.inj hi2)
    dsimp only at hz
    have hdr : (escL y).drop i = (p1, c1) :: (escL y).drop (i + 1) := by
      obtain ⟨h1, h2⟩ := List.getElem?_eq_some_iff.mp hi1
      rw [List.drop_eq_getElem_cons h1, h2]
    rw [hdr] at hz
    obtain ⟨r9, hr9⟩ : ∃ r9, news ++ own = r9 := ⟨_, rfl⟩
    rw [hr9] at N9
    clear F' N'
    k_steps
    · (rename (_ == _) = true => hq)
      rw [checkL_open hq] at hz
      exact MyEndG.next ⟨_, _, o + 1, _⟩ (msC_at (by k_asm) rfl rfl rfl (fun z a b c => by simp [msC, a, b, c])) (by rw [hr9]; k_asm) hz
    · (rename (_ == _) = false => hq)
      (rename (_ == _) = true => hq2)
      rw [checkL_neg hq hq2 (by assumption)] at hz
      dsimp only
      dsimp only [MyEndG]
      k_steps
      rw [← hz] at hret
      exact hret _ _ _ (by k_asm) (News.sub (by k_asm) (fun q hq => by rw [← hr9]; exact List.mem_append.mpr (.inl hq))) hBg
    · (rename (_ == _) = false => hq)
      (rename (_ == _) = true => hq2)
      rw [checkL_close hq hq2 (by assumption)] at hz
      exact MyEndG.next ⟨_, _, o - 1, _⟩ (msC_at (by k_asm) rfl rfl rfl (fun z a b c => by simp [msC, a, b, c])) (by rw [hr9]; k_asm) hz
    · have hq : (c1 == Str.ofString "(") = false := by assumption
      have hq2 : (c1 == Str.ofString ")") = false := by assumption
      rw [checkL_no hq hq2] at hz
      exact MyEndG.next ⟨_, _, o, _⟩ (msC_at (by k_asm) rfl rfl rfl (fun z a b c => by simp [msC, a, b, c])) (by rw [hr9]; k_asm) hz
  case done =>
    rintro ⟨op, oc, o, t⟩ h9 tk9 g9 hz hBg F9 N9
    dsimp only at hz
    rw [List.drop_length] at hz
    have hz' : (o == 0) = checkL (escL y) 0 := hz
    clear F' N'
    k_steps
    rw [← hz'] at hret
    exact hret _ _ _ (by k_asm) (by k_asm) hBg
end
end Mine
namespace Mine

noncomputable def gProtoH (h₀ : Heap) (C bnd : Nat) (P : Nat → Value → Prop) (fin : Bool) (fpx : List Addr) (n₀ : Nat) : Protocol := fun m s₀ v s kap =>
  P (n₀ - 1 - m) v ∧ Since C bnd s₀ s ∧ ((fin = true ∨ m ≠ 0) → ∃ fp : List Addr, (∀ b ∈ fp, b = C ∨ bnd ≤ b ∨ b ∈ fpx) ∧ ∀ s'' : Shared, (∀ b ∈ fp, ∀ o, s.heap.get? b = some o → s''.heap.get? b = some o) → (∀ b o, h₀.get? b = some o → s''.heap.get? b = some o) → kap (.send .none) s'')
def GenH (prog : Program) (w : World) (A : Around) (h₀ : Heap) (I g C bnd n₀ : Nat) (P : Nat → Value → Prop) (fin : Bool) (fpx : List Addr) (i : Nat) (s : Shared) : Prop :=
  s.heap.IsGen I g ∧ (∀ b o, h₀.get? b = some o → s.heap.get? b = some o) ∧ ((fin = true ∨ i < n₀) → ∃ gs, ∃ fp : List Addr, s.gens[g]? = some gs ∧ (∀ b ∈ fp, b = C ∨ bnd ≤ b ∨ b ∈ fpx) ∧ ∀ s'' : Shared, (∀ b ∈ fp, ∀ o, s.heap.get? b = some o → s''.heap.get? b = some o) → (∀ b o, h₀.get? b = some o → s''.heap.get? b = some o) → (∃ o, s''.heap.get? (bnd - 1) = some o) →
    gs.Goes (model prog w) A.in1 (gEnd C bnd) (gProtoH h₀ C bnd P fin fpx n₀) (n₀ - i) (.send .none) s'')

theorem GenH.keep {prog : Program} {w : World} {A : Around} {h₀ : Heap} {I g C bnd n₀ : Nat} {P : Nat → Value → Prop} {fin : Bool} {fpx : List Addr} {i : Nat} {s : Shared} (st : GenH prog w A h₀ I g C bnd n₀ P fin fpx i s) {h' : Heap} {tk : Nat}
    (hk : ∀ b o, b = I ∨ b = C ∨ bnd ≤ b ∨ b ∈ fpx → s.heap.get? b = some o → h'.get? b = some o) (h0 : ∀ b o, h₀.get? b = some o → h'.get? b = some o) : GenH prog w A h₀ I g C bnd n₀ P fin fpx i { s with heap := h', toks := tk } := by
  obtain ⟨⟨o, nm, qn, ho, r⟩, _, hg⟩ := st
  refine ⟨⟨o, nm, qn, hk I o (.inl rfl) ho, r⟩, h0, fun hf => ?_⟩
  obtain ⟨gs, fp, hgs, hfp, hgo⟩ := hg hf
  exact ⟨gs, fp, hgs, hfp, fun s'' hal h0' hb => hgo s'' (fun b hb o e => hal b hb o (hk b o (.inr (hfp b hb)) e)) h0' hb⟩

section
variable {prog : Program} {w : World} {A : Around} {E : Value → Shared → Prop} {s : Shared}
theorem nextOf_genQ {a : Addr} {g n : Nat} {gs : GenState} {P : Nat → Shared → Shared → Prop} {Y : Protocol} {Q : Value → Shared → Prop} (hh : A.handled = none)
    (hl : s.heap.NoLimit) (hroom : A.depth < recursionLimit) (hg : s.heap.IsGen a g) (hgs : s.gens[g]? = some gs)
    (hgo : gs.Goes (model prog w) A.in1 (fun n s₀ r s₁ => r = .ok (.ret .none) ∧ P n s₀ s₁) Y n (.send .none) (s.setGen g .running))
    (hY : ∀ v s₁ gs', gs'.bare = true → Y (n - 1) (s.setGen g .running) v s₁ (fun r' s'' => match n with
        | 0 => False
        | m + 1 => gs'.Goes (model prog w) A.in1 (fun n s₀ r s₁ => r = .ok (.ret .none) ∧ P n s₀ s₁) Y m r' s'') → Q v (s₁.setGen g gs'))
    (hP : ∀ s₁, P n (s.setGen g .running) s₁ → ∀ h' e, (∀ b o, s₁.heap.get? b = some o → h'.get? b = some o) → (∃ o, h'.get? e = some o ∧ o.cls = .type "StopIteration") → E (.ref e) { s₁.setGen g .finished with heap := h' }) :
    wpAny (model prog w) A (Builtin.SmallTypes.nextOf (.ref a)) Q E s := by
  unfold Builtin.SmallTypes.nextOf
  refine wpAny_bind (wpAny_callSpecial?_slot (name := Str.ofString "__next__") hg.typeIs slot_gen_next
    (wpAny_call_entry slot_gen_next hg.typeIs entry_gen_next ?_ (args_gen_next _)))
  show wpAny _ A.in1 (Builtin.Generator.genWake (.ref a) (.send .none)) _ _ s
  unfold Builtin.Generator.genWake
  refine wpAny_bind (wpAny_holding (wpAny_genNumber hg (wpAny_bind (wpAny_genState hgs ?_))))
  cases gs with
  | running => exact hgo.elim
  | finished => exact hgo.elim
  | _ =>
    refine wpAny_bind (wpAny_roomToWake hl hroom ?_)
    show wpAny _ A.in1 (.resume g (.send .none) [] _) _ _ s
    refine wpAny_resumeQ hgs hgo (fun x s₁ hx => ?_) (fun v s₁ gs' hb hv => wpAny_pure ⟨v, rfl, wpAny_pure (hY v s₁ gs' hb hv)⟩)
    obtain ⟨rfl, hp⟩ := hx
    show wpAny _ A.in1 (newExc (.type "StopIteration") [] >>= _) _ _ _
    refine wpAny_bind ?_
    simp only [newExc, newTuple]
    refine wpAny_bind (wpAny_newObj_type ?_ (by size_fits))
    refine wpAny_bind (m := firstArgMember _ _) (wpAny_of_eq (a := Value.none) (by first | rfl | (simp only [firstArgMember]; rfl)) ?_)
    refine wpAny_newObj_type ?_ (by size_fits)
    simp only [raiseNew]
    refine wpAny_bind (wpAny_bind (wpAny_handled ?_))
    first | rw [show A.in1.handled = none from hh] | rw [hh]
    refine wpAny_throw ?_
    exact hP s₁ hp _ _ (fun b o hb => Heap.get?_push_of_some _ (Heap.get?_push_of_some _ hb)) ⟨_, Heap.get?_push_size _ rfl, rfl⟩

theorem GenH.item {h₀ : Heap} {I g C bnd n₀ : Nat} {P : Nat → Value → Prop} {fin : Bool} {fpx : List Addr} {i : Nat} {Q : Value → Shared → Prop} (st : GenH prog w A h₀ I g C bnd n₀ P fin fpx i s) (hi : i < n₀)
    (hh : A.handled = none) (hroom : A.depth < recursionLimit) (hl : h₀.NoLimit) (hsz : h₀.objs.size ≤ C) (hCI : C < I) (hIb : I < bnd) (hbs : ∃ o, s.heap.get? (bnd - 1) = some o) (hB : AllBare s.gens)
    (hQ : ∀ v h' tk g', P i v → GenH prog w A h₀ I g C bnd n₀ P fin fpx (i + 1) { s with heap := h', toks := tk, gens := g' } → (∀ b o, b ≠ C → b < bnd → s.heap.get? b = some o → h'.get? b = some o) → AllBare g' → Q v { s with heap := h', toks := tk, gens := g' }) :
    wpAny (model prog w) A (Builtin.SmallTypes.nextOf (.ref I)) Q E s := by
  k_with_none
  k_with "ar" => (first | with_reducible exact ar72 (by assumption) | with_reducible exact ar459 (by assumption) (by assumption) | with_reducible exact ar471 (by assumption))
  obtain ⟨hg, hk, hgs⟩ := st
  obtain ⟨gs, fp, hgs, hfp, hgo⟩ := hgs (.inr hi)
  obtain ⟨m, hm⟩ : ∃ m, n₀ - i = m + 1 := ⟨n₀ - i - 1, by omega⟩
  rw [hm] at hgo
  refine nextOf_genQ (P := fun n s₀ s₁ => n = 0 ∧ Since C bnd s₀ s₁) hh (hl.keeps hk) hroom hg hgs (hgo _ (fun _ _ _ e => e) hk hbs) (fun v s₁ gs' hb hv => ?_) (fun s₁ hp h' e hk' _ => absurd hp.1 (Nat.succ_ne_zero m))
  obtain ⟨hP, ⟨h₁, tk₁, rfl, hk₁⟩, hkap⟩ := hv
  have e1 : n₀ - 1 - (m + 1 - 1) = i := by omega
  rw [e1] at hP
  have hgens : (({ s.setGen g .running with heap := h₁, toks := tk₁ } : Shared).setGen g gs').gens[g]? = some gs' := setGen_self (gs := .running) (setGen_self hgs)
  refine hQ v h₁ tk₁ _ hP ⟨?_, ?_, fun hf => ?_⟩ hk₁ (bare_setGen (s := { s.setGen g .running with heap := h₁, toks := tk₁ }) (bare_setGen hB rfl) hb)
  · obtain ⟨o, nm, qn, ho, r⟩ := hg
    exact ⟨o, nm, qn, hk₁ I o (Nat.ne_of_gt hCI) hIb ho, r⟩
  · exact fun b o e => hk₁ b o (Nat.ne_of_lt (Nat.lt_of_lt_of_le (Heap.lt_size e) hsz)) (Nat.lt_trans (Nat.lt_of_lt_of_le (Heap.lt_size e) hsz) (Nat.lt_trans hCI hIb)) (hk b o e)
  · obtain ⟨fp', hfp', hkap⟩ := hkap (hf.imp id fun h => by omega)
    refine ⟨gs', fp', hgens, hfp', fun s'' hal h0 _ => ?_⟩
    have e2 : n₀ - (i + 1) = m := by omega
    rw [e2]
    exact hkap s'' hal h0

theorem GenH.done {h₀ : Heap} {I g C bnd n₀ : Nat} {P : Nat → Value → Prop} {fpx : List Addr} {Q : Value → Shared → Prop} (st : GenH prog w A h₀ I g C bnd n₀ P true fpx n₀ s)
    (hh : A.handled = none) (hroom : A.depth < recursionLimit) (hl : h₀.NoLimit) (hsz : h₀.objs.size ≤ C) (hCI : C < I) (hIb : I < bnd) (hbs : ∃ o, s.heap.get? (bnd - 1) = some o) (hB : AllBare s.gens)
    (hE : ∀ h' tk g' e, (∀ b o, b ≠ C → b < bnd → s.heap.get? b = some o → h'.get? b = some o) → (∃ o, h'.get? e = some o ∧ o.cls = .type "StopIteration") → AllBare g' → E (.ref e) { s with heap := h', toks := tk, gens := g' }) :
    wpAny (model prog w) A (Builtin.SmallTypes.nextOf (.ref I)) Q E s := by
  obtain ⟨hg, hk, hgs⟩ := st
  obtain ⟨gs, fp, hgs, hfp, hgo⟩ := hgs (.inl rfl)
  rw [Nat.sub_self] at hgo
  refine nextOf_genQ (P := fun n s₀ s₁ => n = 0 ∧ Since C bnd s₀ s₁) hh (hl.keeps hk) hroom hg hgs (hgo _ (fun _ _ _ e => e) hk hbs) (fun v s₁ gs' hb hv => ?_) (fun s₁ hp h' e hk' he => ?_)
  · obtain ⟨_, ⟨h₁, tk₁, rfl, hk₁⟩, hkap⟩ := hv
    obtain ⟨fp', hfp', hkap⟩ := hkap (.inl rfl)
    exact (hkap _ (fun _ _ _ e => e) (fun b o e => hk₁ b o (Nat.ne_of_lt (Nat.lt_of_lt_of_le (Heap.lt_size e) hsz)) (Nat.lt_trans (Nat.lt_of_lt_of_le (Heap.lt_size e) hsz) (Nat.lt_trans hCI hIb)) (hk b o e))).elim
  · obtain ⟨_, h₁, tk₁, rfl, hk₁⟩ := hp
    exact hE h' tk₁ _ e (fun b o hb hlt e => hk' b o (hk₁ b o hb hlt e)) he (bare_setGen (s := { s.setGen g .running with heap := h₁, toks := tk₁ }) (bare_setGen hB rfl) rfl)

theorem nextOf_range_item {it : Addr} {x left step : Int} {Q : Value → Shared → Prop} (hit : IsRangeIter s.heap it x left step) (hleft : 0 < left)
    (hQ : ∀ h', IsRangeIter h' it (x + step) (left - 1) step → Heap.SameBut it s.heap h' → Q (.int x s.toks) { s with heap := h', toks := s.toks + 1 }) :
    wpAny (model prog w) A (Builtin.SmallTypes.nextOf (.ref it)) Q E s := by
  k_with_none
  k_with "ar" => (first | with_reducible exact ar625 (by assumption))
  have hT : s.TypeIs (.ref it) "range_iterator" := ⟨_, hit, rfl⟩
  unfold Builtin.SmallTypes.nextOf
  refine wpAny_bind (wpAny_callSpecial?_slot (name := Str.ofString "__next__") hT F.slot_range_iterator_next
    (call_meets F.slot_range_iterator_next hT F.entry_range_iterator_next (F.args_range_iterator_next_1 _) (AutoRange.range_iterator___next___range_iterator_1 it x left step (by omega)) ⟨hit, ?_⟩))
  exact wpAny_pure (hQ _ (Heap.get?_update_self _ (Heap.get?_update_self _ hit rfl) rfl) ((Heap.SameBut.update ..).trans (Heap.SameBut.update ..)))
end
end Mine
namespace Mine

section
variable {prog : Program} {w : World} {A : Around} {E : Value → Shared → Prop} {s : Shared}
theorem nextOf_range_end {it : Addr} {x left step : Int} {Q : Value → Shared → Prop} (hh : A.handled = none) (hit : IsRangeIter s.heap it x left step) (hleft : left ≤ 0)
    (hE : ∀ h' e, Heap.ExtBut it s.heap h' → (∃ o, h'.get? e = some o ∧ o.cls = .type "StopIteration") → E (.ref e) { s with heap := h' }) : wpAny (model prog w) A (Builtin.SmallTypes.nextOf (.ref it)) Q E s := by
  k_with_none
  k_with "ar" => (first | with_reducible exact ar34)
  have hT : s.TypeIs (.ref it) "range_iterator" := ⟨_, hit, rfl⟩
  unfold Builtin.SmallTypes.nextOf
  refine wpAny_bind (wpAny_callSpecial?_slot (name := Str.ofString "__next__") hT F.slot_range_iterator_next
    (wpAny_call_entry F.slot_range_iterator_next hT F.entry_range_iterator_next ?_ (F.args_range_iterator_next_1 _)))
  show wpAny _ _ (field (.ref it) 0 >>= _) _ _ s
  refine wpAny_bind (wpAny_field hit rfl (x := rawInt x) rfl ?_)
  show wpAny _ _ (field (.ref it) 1 >>= _) _ _ s
  refine wpAny_bind (wpAny_field hit rfl (x := rawInt left) rfl ?_)
  show wpAny _ _ (field (.ref it) 2 >>= _) _ _ s
  refine wpAny_bind (wpAny_field hit rfl (x := rawInt step) rfl ?_)
  show wpAny _ _ (if left ≤ 0 then _ else _) _ _ s
  rw [if_pos hleft]
  refine wpAny_bind (wpAny_rule ?_)
  refine wpAny_bind ?_
  show wpAny _ _ (newExc (.type "StopIteration") [] >>= _) _ _ _
  refine wpAny_bind ?_
  simp only [newExc, newTuple]
  refine wpAny_bind (wpAny_newObj_type ?_ (by size_fits))
  refine wpAny_bind (m := firstArgMember _ _) (wpAny_of_eq (a := Value.none) (by first | rfl | (simp only [firstArgMember]; rfl)) ?_)
  refine wpAny_newObj_type ?_ (by size_fits)
  simp only [raiseNew]
  refine wpAny_bind (wpAny_handled ?_)
  first | rw [show A.in1.handled = none from hh] | rw [hh]
  first
    | (refine wpAny_bind (wpAny_pure (wpAny_throw ?_)); exact hE _ _ (fun b o _ e => Heap.get?_push_of_some _ (Heap.get?_push_of_some _ e)) ⟨_, Heap.get?_push_size _ rfl, rfl⟩)
    | (refine wpAny_throw ?_; exact hE _ _ (fun b o _ e => Heap.get?_push_of_some _ (Heap.get?_push_of_some _ e)) ⟨_, Heap.get?_push_size _ rfl, rfl⟩)

/-- a zip of a generator and range(4): what stands between two turns (f0: the tuple that it lent, or nothing) -/
structure ZSt (r I : Nat) (f0 : Value) (i : Nat) (h : Heap) : Prop where
  hz : IsZip h (r + 3) (r + 1) (r + 2) f0
  hTI : IsPair h (r + 1) (.ref I) (.ref r)
  hTO : ∃ a b, IsPair h (r + 2) a b
  hr : IsRangeIter h r (i : Int) (4 - (i : Int)) 1

theorem ZSt.at {r I : Nat} {f0 : Value} {i : Nat} {h h' : Heap} (x : ZSt r I f0 i h) (k : ∀ b o, r ≤ b → b ≤ r + 3 → h.get? b = some o → h'.get? b = some o) : ZSt r I f0 i h' := by
  k_with_none
  k_with "ar" => (first | with_reducible exact ar77 | with_reducible exact ar223 | with_reducible exact ar259 | with_reducible exact ar75 | with_reducible exact ar201)
  obtain ⟨hz, hTI, ⟨a, b, hTO⟩, hr⟩ := x
  exact ⟨k _ _ (by omega) (by omega) hz, k _ _ (by omega) (by omega) hTI, ⟨a, b, k _ _ (by omega) (by omega) hTO⟩, k _ _ (by omega) (by omega) hr⟩

theorem zip_gen_item {h₀ : Heap} {r I g C bnd n₀ l : Nat} {P : Nat → Value → Prop} {fin : Bool} {i : Nat} {Q : Value → Shared → Prop} (st : GenH prog w A h₀ I g C bnd n₀ P fin [l] i s) (hi : i < n₀) (hi4 : i < 4)
    (hh : A.handled = none) (hroom : A.depth < recursionLimit) (hl : h₀.NoLimit) (hsz : h₀.objs.size ≤ C) (hlC : l < C) (hCI : C < I) (hIr : I < r) (hrb : r + 4 < bnd) (hbs : ∃ o, s.heap.get? (bnd - 1) = some o) (hB : AllBare s.gens) (hZ : ZSt r I .none i s.heap)
    (hQ : ∀ v t (T : Addr) h' tk g', P i v → ZSt r I (rawInt T) (i + 1) h' → h'.IsTuple T #[v, .int i t] → @LT.lt Nat _ (r + 3) T → GenH prog w A h₀ I g C bnd n₀ P fin [l] (i + 1) { s with heap := h', toks := tk, gens := g' } →
      (∀ b o, b ≠ C → b < r ∨ (r + 3 < b ∧ b < bnd) → s.heap.get? b = some o → h'.get? b = some o) → AllBare g' → Q (.ref T) { s with heap := h', toks := tk, gens := g' }) :
    wpAny (model prog w) A (Builtin.«zip.__next__» ⟨[.ref (r + 3)], []⟩) (fun fin s' => ∃ v, fin = .done (.ret v) ∧ Q v s') E s := by
  k_with_none
  k_with "ar" => (first | with_reducible exact ar183 (by assumption) (by assumption) (by assumption) (by assumption) (by assumption) | with_reducible exact ar321 (by assumption) (by assumption) (by assumption) | with_reducible exact ar332 (by assumption) (by assumption) | with_reducible exact ar511 (by assumption) | with_reducible exact ar24 (by assumption) (by assumption) | with_reducible exact ar65 (by assumption) | with_reducible exact ar167 | with_reducible exact ar27 | with_reducible exact ar117 (by assumption) (by assumption) | with_reducible exact ar14 (by assumption) | with_reducible exact ar160 | with_reducible exact ar118 (by assumption) | with_reducible exact ar29 | with_reducible exact ar288 (by assumption) (by assumption) | with_reducible exact ar40 (by assumption) | with_reducible exact ar383 | with_reducible exact ar398 | with_reducible exact ar253 (by assumption) | with_reducible exact ar512 (by assumption) | with_reducible exact ar500 (by assumption) | with_reducible exact ar124 | with_reducible exact ar340 | with_reducible exact ar369 (by assumption) (by assumption) | with_reducible exact ar57 (by assumption) | with_reducible exact ar610 | with_reducible exact ar396 (by assumption) (by assumption) (by assumption) (by assumption) (by assumption) | with_reducible exact ar644 (by assumption) (by assumption) (by assumption) | with_reducible exact ar508 (by assumption) | with_reducible exact ar41 (by assumption) (by assumption) | with_reducible exact ar389 (by assumption) | with_reducible exact ar51)
  obtain ⟨hz, hTI, ⟨a, b, hTO⟩, hr⟩ := hZ
  have hk0 := st.2.1
  show wpAny _ _ (field (.ref (r + 3)) 2 >>= _) _ _ _
  refine wpAny_bind (wpAny_field hz rfl (x := .bool false) rfl ?_)
  show wpAny _ _ (field (.ref (r + 3)) 3 >>= _) _ _ _
  refine wpAny_bind (wpAny_field hz rfl (x := .ref (r + 1)) rfl ?_)
  refine wpAny_bind (wpAny_seqItems hTI rfl ?_)
  show wpAny _ _ (Builtin.SmallTypes.ownedTupleIsFree (.ref (r + 3)) >>= _) _ _ _
  refine wpAny_bind ?_
  unfold Builtin.SmallTypes.ownedTupleIsFree
  refine wpAny_bind (wpAny_field hz rfl (x := .none) rfl (wpAny_pure ?_))
  simp only [if_true]
  refine wpAny_bind (wpAny_rule ?_)
  refine wpAny_bind (wpAny_field hz rfl (x := .ref (r + 2)) rfl ?_)
  refine wpAny_bind (wpAny_setField_rec hz (by simp) fun h₁ hz₁ hs₁ => ?_)
  replace hz₁ : IsZip h₁ (r + 3) (r + 1) (r + 2) .ellipsis := hz₁
  replace hs₁ : Heap.SameBut (r + 3) s.heap h₁ := hs₁
  have k1 : ∀ b o, b ≠ r + 3 → s.heap.get? b = some o → h₁.get? b = some o := fun b o hb e => hs₁.extBut _ _ hb e
  have below : ∀ (b : Nat) o, h₀.get? b = some o → @LT.lt Nat _ b C := fun b o e => Nat.lt_of_lt_of_le (Heap.lt_size e) hsz
  refine wpAny_bind ?_
  simp only [List.zipIdx_cons, List.zipIdx_nil, List.forIn_cons, List.forIn_nil]
  refine wpAny_bind (wpAny_bind (wpAny_onRaise ?_))
  show wpAny _ _ (Builtin.SmallTypes.nextOf (.ref I) >>= _) _ _ _
  refine wpAny_bind ((st.keep (h' := h₁) (tk := s.toks) (fun b o hb e => k1 b o (by simp at hb; omega) e) (fun b o e => k1 b o (by have := below b o e; omega) (hk0 b o e))).item hi hh hroom hl hsz hCI (by omega) (hbs.imp fun o e => k1 _ o (by omega) e) hB fun v h₂ tk₂ g₂ hPv st₂ k2 hB₂ => wpAny_pure ?_)
  have hTO₂ : IsPair h₂ (r + 2) a b := k2 _ _ (by omega) (by omega) (k1 _ _ (by omega) hTO)
  refine wpAny_bind (wpAny_seqItems hTO₂ rfl ?_)
  refine wpAny_bind (wpAny_updateSeq_pair hTO₂ fun h₃ hTO₃ hs₃ => ?_)
  replace hTO₃ : IsPair h₃ (r + 2) v b := hTO₃
  replace hs₃ : Heap.SameBut (r + 2) h₂ h₃ := hs₃
  have k3 : ∀ b o, b ≠ r + 2 → h₂.get? b = some o → h₃.get? b = some o := fun b o hb e => hs₃.extBut _ _ hb e
  refine wpAny_bind (wpAny_letGo (wpAny_pure ?_))
  refine wpAny_bind (wpAny_bind (wpAny_onRaise ?_))
  show wpAny _ _ (Builtin.SmallTypes.nextOf (.ref r) >>= _) _ _ _
  have hr₃ : IsRangeIter h₃ r (i : Int) (4 - (i : Int)) 1 := k3 _ _ (by omega) (k2 _ _ (by omega) (by omega) (k1 _ _ (by omega) hr))
  refine wpAny_bind (nextOf_range_item hr₃ (by omega) fun h₄ hr₄ hs₄ => wpAny_pure ?_)
  replace hs₄ : Heap.SameBut r h₃ h₄ := hs₄
  have k4 : ∀ b o, b ≠ r → h₃.get? b = some o → h₄.get? b = some o := fun b o hb e => hs₄.extBut _ _ hb e
  have hTO₄ : IsPair h₄ (r + 2) v b := k4 _ _ (by omega) hTO₃
  refine wpAny_bind (wpAny_seqItems hTO₄ rfl ?_)
  refine wpAny_bind (wpAny_updateSeq_pair hTO₄ fun h₅ hTO₅ hs₅ => ?_)
  replace hs₅ : Heap.SameBut (r + 2) h₄ h₅ := hs₅
  have k5 : ∀ b o, b ≠ r + 2 → h₄.get? b = some o → h₅.get? b = some o := fun b o hb e => hs₅.extBut _ _ hb e
  replace hTO₅ : IsPair h₅ (r + 2) v (.int i tk₂) := hTO₅
  refine wpAny_bind (wpAny_letGo (wpAny_pure (wpAny_pure ?_)))
  refine wpAny_bind (wpAny_seqItems hTO₅ rfl ?_)
  refine wpAny_bind (wpAny_newTuple ?_)
  have hz₂ : IsZip h₂ (r + 3) (r + 1) (r + 2) .ellipsis := k2 _ _ (by omega) (by omega) hz₁
  have hz₅ : IsZip h₅ (r + 3) (r + 1) (r + 2) .ellipsis := k5 _ _ (by omega) (k4 _ _ (by omega) (k3 _ _ (by omega) hz₂))
  show wpAny _ _ (Builtin.SmallTypes.ownedTupleHandOut (.ref (r + 3)) (.ref h₅.objs.size) >>= _) _ _ _
  refine wpAny_bind ?_
  unfold Builtin.SmallTypes.ownedTupleHandOut
  have hz₆ : IsZip (h₅.push { cls := .type "tuple", data := .seq #[v, .int i tk₂] }) (r + 3) (r + 1) (r + 2) .ellipsis := Heap.get?_push_of_some _ hz₅
  refine wpAny_bind (wpAny_setField_rec hz₆ (by simp) fun h₇ hz₇ hs₇ => ?_)
  replace hz₇ : IsZip h₇ (r + 3) (r + 1) (r + 2) (rawInt h₅.objs.size) := hz₇
  refine wpAny_setField_rec hz₇ (by simp) fun h₈ hz₈ hs₈ => ?_
  replace hz₈ : IsZip h₈ (r + 3) (r + 1) (r + 2) (rawInt h₅.objs.size) := hz₈
  have up : ∀ c o, c ≠ r + 3 → h₅.get? c = some o → h₈.get? c = some o := fun c o c1 e => hs₈.extBut _ _ c1 (hs₇.extBut _ _ c1 (Heap.get?_push_of_some _ e))
  have hzlt : r + 3 < h₅.objs.size := Heap.lt_size hz₅
  have hT₈ : IsPair h₈ h₅.objs.size v (.int i tk₂) := hs₈.extBut _ _ (Nat.ne_of_gt hzlt) (hs₇.extBut _ _ (Nat.ne_of_gt hzlt) (Heap.get?_push_size _ rfl))
  have hall : ∀ c o, c < r ∨ r + 3 < c → h₂.get? c = some o → h₈.get? c = some o := fun c o hc e => up c o (by omega) (k5 c o (by omega) (k4 c o (by omega) (k3 c o (by omega) e)))
  refine wpAny_pure ⟨_, rfl, ?_⟩
  show Q (.ref h₅.objs.size) _
  refine hQ v tk₂ h₅.objs.size h₈ (tk₂ + 1) g₂ hPv ⟨hz₈, up _ _ (by omega) (k5 _ _ (by omega) (k4 _ _ (by omega) (k3 _ _ (by omega) (k2 _ _ (by omega) (by omega) (k1 _ _ (by omega) hTI))))), ⟨_, _, up _ _ (by omega) hTO₅⟩, ?_⟩ ⟨_, hT₈, rfl, _, rfl⟩ ?_ ?_ ?_ hB₂
  · have e1 : ((i + 1 : Nat) : Int) = (i : Int) + 1 := by push_cast; rfl
    have e2 : 4 - ((i : Int) + 1) = 4 - (i : Int) - 1 := by omega
    rw [e1, e2]
    exact up _ _ (by omega) (k5 _ _ (by omega) hr₄)
  · exact hzlt
  · exact (GenH.keep st₂ (h' := h₈) (tk := tk₂ + 1) (fun b o hb e => hall b o (by simp at hb; omega) e) (fun b o e => hall b o (by have := below b o e; omega) (st₂.2.1 b o e)))
  · exact fun b o hbC hb e => hall b o (by omega) (k2 b o hbC (by omega) (k1 b o (by omega) e))

theorem zip_gen_end {h₀ : Heap} {I g C bnd n₀ l : Nat} {P : Nat → Value → Prop} {fin : Bool} {i : Nat} {Q : Fin → Shared → Prop} (st : GenH prog w A h₀ I g C bnd n₀ P fin [l] i s) (hend : (i = n₀ ∧ fin = true) ∨ (i < n₀ ∧ i = 4))
    (hh : A.handled = none) (hroom : A.depth < recursionLimit) (hl : h₀.NoLimit) (hsz : h₀.objs.size ≤ C) (hlC : l < C) (hCI : C < I) (hIr : I < r) (hrb : r + 4 < bnd) (hbs : ∃ o, s.heap.get? (bnd - 1) = some o) (hB : AllBare s.gens) (hZ : ZSt r I .none i s.heap)
    (hE : ∀ h' tk g' e, (∀ b o, b ≠ C → b < r ∨ (r + 3 < b ∧ b < bnd) → s.heap.get? b = some o → h'.get? b = some o) → (∃ o, h'.get? e = some o ∧ o.cls = .type "StopIteration") → AllBare g' → E (.ref e) { s with heap := h', toks := tk, gens := g' }) :
    wpAny (model prog w) A (Builtin.«zip.__next__» ⟨[.ref (r + 3)], []⟩) Q E s := by
  k_with_none
  k_with "ar" => (first | with_reducible exact ar183 (by assumption) (by assumption) (by assumption) (by assumption) (by assumption) | with_reducible exact ar321 (by assumption) (by assumption) (by assumption) | with_reducible exact ar332 (by assumption) (by assumption) | with_reducible exact ar511 (by assumption) | with_reducible exact ar288 (by assumption) (by assumption) | with_reducible exact ar40 (by assumption) | with_reducible exact ar389 (by assumption) | with_reducible exact ar41 (by assumption) (by assumption) | with_reducible exact ar24 (by assumption) (by assumption) | with_reducible exact ar65 (by assumption) | with_reducible exact ar167 | with_reducible exact ar27 | with_reducible exact ar117 (by assumption) (by assumption) | with_reducible exact ar14 (by assumption) | with_reducible exact ar160 | with_reducible exact ar665 (by assumption) | with_reducible exact ar398 | with_reducible exact ar383 | with_reducible exact ar144 (by assumption) | with_reducible exact ar50 (by assumption))
  obtain ⟨hz, hTI, ⟨a, b, hTO⟩, hr⟩ := hZ
  have hk0 := st.2.1
  show wpAny _ _ (field (.ref (r + 3)) 2 >>= _) _ _ _
  refine wpAny_bind (wpAny_field hz rfl (x := .bool false) rfl ?_)
  show wpAny _ _ (field (.ref (r + 3)) 3 >>= _) _ _ _
  refine wpAny_bind (wpAny_field hz rfl (x := .ref (r + 1)) rfl ?_)
  refine wpAny_bind (wpAny_seqItems hTI rfl ?_)
  show wpAny _ _ (Builtin.SmallTypes.ownedTupleIsFree (.ref (r + 3)) >>= _) _ _ _
  refine wpAny_bind ?_
  unfold Builtin.SmallTypes.ownedTupleIsFree
  refine wpAny_bind (wpAny_field hz rfl (x := .none) rfl (wpAny_pure ?_))
  simp only [if_true]
  refine wpAny_bind (wpAny_rule ?_)
  refine wpAny_bind (wpAny_field hz rfl (x := .ref (r + 2)) rfl ?_)
  refine wpAny_bind (wpAny_setField_rec hz (by simp) fun h₁ hz₁ hs₁ => ?_)
  replace hz₁ : IsZip h₁ (r + 3) (r + 1) (r + 2) .ellipsis := hz₁
  replace hs₁ : Heap.SameBut (r + 3) s.heap h₁ := hs₁
  have k1 : ∀ b o, b ≠ r + 3 → s.heap.get? b = some o → h₁.get? b = some o := fun b o hb e => hs₁.extBut _ _ hb e
  have below : ∀ (b : Nat) o, h₀.get? b = some o → @LT.lt Nat _ b C := fun b o e => Nat.lt_of_lt_of_le (Heap.lt_size e) hsz
  refine wpAny_bind ?_
  simp only [List.zipIdx_cons, List.zipIdx_nil, List.forIn_cons, List.forIn_nil]
  refine wpAny_bind (wpAny_bind (wpAny_onRaise ?_))
  show wpAny _ _ (Builtin.SmallTypes.nextOf (.ref I) >>= _) _ _ _
  have st1 := (st.keep (h' := h₁) (tk := s.toks) (fun b o hb e => k1 b o (by simp at hb; omega) e) (fun b o e => k1 b o (by have := below b o e; omega) (hk0 b o e)))
  rcases hend with ⟨rfl, rfl⟩ | ⟨hi, hi4⟩
  · refine wpAny_bind (st1.done hh hroom hl hsz hCI (by omega) (hbs.imp fun o e => k1 _ o (by omega) e) hB fun h₂ tk₂ g₂ e k2 he hB₂ => ?_)
    obtain ⟨oe, hoe, hce⟩ := he
    have hz₂ : IsZip h₂ (r + 3) (r + 1) (r + 2) .ellipsis := k2 _ _ (by omega) (by omega) hz₁
    have hez : e ≠ r + 3 := fun x => by subst x; rw [hz₂] at hoe; cases hoe; simp at hce
    refine wpAny_setField_rec hz₂ (by simp) fun h₃ _ hs₃ => ?_
    have k3 : ∀ (b : Nat) o, @Ne Nat b (r + 3) → h₂.get? b = some o → h₃.get? b = some o := fun b o hb e => hs₃.extBut _ _ hb e
    exact hE h₃ tk₂ g₂ e (fun c o c1 c2 x => k3 _ _ (by omega) (k2 _ _ c1 (by omega) (k1 _ _ (by omega) x))) ⟨oe, hs₃.extBut _ _ hez hoe, hce⟩ hB₂
  · refine wpAny_bind (st1.item hi hh hroom hl hsz hCI (by omega) (hbs.imp fun o e => k1 _ o (by omega) e) hB fun v h₂ tk₂ g₂ hPv st₂ k2 hB₂ => wpAny_pure ?_)
    have hTO₂ : IsPair h₂ (r + 2) a b := k2 _ _ (by omega) (by omega) (k1 _ _ (by omega) hTO)
    refine wpAny_bind (wpAny_seqItems hTO₂ rfl ?_)
    refine wpAny_bind (wpAny_updateSeq_pair hTO₂ fun h₃ hTO₃ hs₃ => ?_)
    replace hs₃ : Heap.SameBut (r + 2) h₂ h₃ := hs₃
    have k3 : ∀ b o, b ≠ r + 2 → h₂.get? b = some o → h₃.get? b = some o := fun b o hb e => hs₃.extBut _ _ hb e
    refine wpAny_bind (wpAny_letGo (wpAny_pure ?_))
    refine wpAny_bind (wpAny_bind (wpAny_onRaise ?_))
    show wpAny _ _ (Builtin.SmallTypes.nextOf (.ref r) >>= _) _ _ _
    have hr₃ : IsRangeIter h₃ r (i : Int) (4 - (i : Int)) 1 := k3 _ _ (by omega) (k2 _ _ (by omega) (by omega) (k1 _ _ (by omega) hr))
    refine wpAny_bind (nextOf_range_end hh hr₃ (by omega) fun h₄ e hs₄ he => ?_)
    obtain ⟨oe, hoe, hce⟩ := he
    have hz₂ : IsZip h₂ (r + 3) (r + 1) (r + 2) .ellipsis := k2 _ _ (by omega) (by omega) hz₁
    have k4 : ∀ (b : Nat) o, @Ne Nat b r → h₃.get? b = some o → h₄.get? b = some o := fun b o hb e => hs₄ _ _ hb e
    have hz₄ : IsZip h₄ (r + 3) (r + 1) (r + 2) .ellipsis := k4 _ _ (by omega) (k3 _ _ (by omega) hz₂)
    have hez : e ≠ r + 3 := fun x => by subst x; rw [hz₄] at hoe; cases hoe; simp at hce
    refine wpAny_setField_rec hz₄ (by simp) fun h₅ _ hs₅ => ?_
    have k5 : ∀ (b : Nat) o, @Ne Nat b (r + 3) → h₄.get? b = some o → h₅.get? b = some o := fun b o hb e => hs₅.extBut _ _ hb e
    exact hE h₅ tk₂ g₂ e (fun c o c1 c2 x => k5 _ _ (by omega) (k4 _ _ (by omega) (k3 _ _ (by omega) (k2 _ _ c1 (by omega) (k1 _ _ (by omega) x))))) ⟨oe, hs₅.extBut _ _ hez hoe, hce⟩ hB₂

theorem pyNext_zip_item {h₀ : Heap} {I g C bnd n₀ l r : Nat} {P : Nat → Value → Prop} {fin : Bool} {i : Nat} {Q : Option Value → Shared → Prop} (st : GenH prog w A.in1 h₀ I g C bnd n₀ P fin [l] i s) (hi : i < n₀) (hi4 : i < 4)
    (hh : A.handled = none) (hroom : A.in1.depth < recursionLimit) (hl : h₀.NoLimit) (hsz : h₀.objs.size ≤ C) (hlC : l < C) (hCI : C < I) (hIr : I < r) (hrb : r + 4 < bnd) (hbs : ∃ o, s.heap.get? (bnd - 1) = some o) (hB : AllBare s.gens) (hZ : ZSt r I .none i s.heap)
    (hQ : ∀ v t (T : Addr) h' tk g', P i v → ZSt r I (rawInt T) (i + 1) h' → h'.IsTuple T #[v, .int i t] → @LT.lt Nat _ (r + 3) T → GenH prog w A.in1 h₀ I g C bnd n₀ P fin [l] (i + 1) { s with heap := h', toks := tk, gens := g' } →
      (∀ b o, b ≠ C → b < r ∨ (r + 3 < b ∧ b < bnd) → s.heap.get? b = some o → h'.get? b = some o) → AllBare g' → Q (some (.ref T)) { s with heap := h', toks := tk, gens := g' }) :
    wpAny (model prog w) A (pyNext (.ref (r + 3))) Q E s := by
  have hT : s.TypeIs (.ref (r + 3)) "zip" := ⟨_, hZ.hz, rfl⟩
  unfold pyNext
  exact wpAny_bind (wpAny_attempt (wpAny_callSpecial?_slot (name := Str.ofString "__next__") hT F.slot_zip_next
    (wpAny_call_entry F.slot_zip_next hT F.entry_zip_next
      (zip_gen_item st hi hi4 hh hroom hl hsz hlC hCI hIr hrb hbs hB hZ fun v t T h' tk g' a1 a2 a3 a4 a5 a6 a7 => wpAny_pure (hQ v t T h' tk g' a1 a2 a3 a4 a5 a6 a7)) (F.args_zip_next_1 _))))
theorem pyNext_zip_end {h₀ : Heap} {I g C bnd n₀ l r : Nat} {P : Nat → Value → Prop} {fin : Bool} {i : Nat} {Q : Option Value → Shared → Prop} (st : GenH prog w A.in1 h₀ I g C bnd n₀ P fin [l] i s) (hend : (i = n₀ ∧ fin = true) ∨ (i < n₀ ∧ i = 4))
    (hh : A.handled = none) (hroom : A.in1.depth < recursionLimit) (hl : h₀.NoLimit) (hsz : h₀.objs.size ≤ C) (hlC : l < C) (hCI : C < I) (hIr : I < r) (hrb : r + 4 < bnd) (hbs : ∃ o, s.heap.get? (bnd - 1) = some o) (hB : AllBare s.gens) (hZ : ZSt r I .none i s.heap)
    (hQ : ∀ h' tk g', (∀ b o, b ≠ C → b < r ∨ (r + 3 < b ∧ b < bnd) → s.heap.get? b = some o → h'.get? b = some o) → AllBare g' → Q none { s with heap := h', toks := tk, gens := g' }) :
    wpAny (model prog w) A (pyNext (.ref (r + 3))) Q E s := by
  have hT : s.TypeIs (.ref (r + 3)) "zip" := ⟨_, hZ.hz, rfl⟩
  unfold pyNext
  refine wpAny_bind (wpAny_attempt (wpAny_callSpecial?_slot (name := Str.ofString "__next__") hT F.slot_zip_next
    (wpAny_call_entry F.slot_zip_next hT F.entry_zip_next (zip_gen_end st hend hh hroom hl hsz hlC hCI hIr hrb hbs hB hZ fun h' tk g' e hk he hb => ?_) (F.args_zip_next_1 _))))
  obtain ⟨o, ho, hc⟩ := he
  refine wpAny_bind (wpAny_isInstance (T := "StopIteration") (b := true) ⟨o, ho, hc⟩ isSubtype_stop ?_)
  exact wpAny_pure (hQ _ _ _ hk hb)

set_option maxHeartbeats 2000000 in
theorem meets_zip_gr (a g rr : Nat) (x : Int) (t u v : Tok) (y : Int) (n : Int) (hn : Builtin.Range.rangeSize x y 1 = n) (hsm : Builtin.Range.small x y 1 = true) :
    Meets (Builtin.«zip.__new__» ⟨[.type "zip", .ref a, .ref rr], []⟩) (fun _ R s => s.heap.IsGen a g ∧ IsRange s.heap rr x y 1 t u v ∧
      R (.ok (.ret (.ref (s.heap.objs.size + 3)))) { s with heap := (((s.heap.push { cls := .type "range_iterator", data := .fields #[rawInt x, rawInt n, rawInt 1] }).push { cls := .type "tuple", data := .seq #[.ref a, .ref s.heap.objs.size] }).push { cls := .type "tuple", data := .seq #[.none, .none] }).push { cls := .type "zip", data := .fields #[.none, .bool false, .bool false, .ref (s.heap.objs.size + 1), .ref (s.heap.objs.size + 2)] } }) :=
  .of_wp fun prog w A R s h => by
    obtain ⟨hp, g, d, tk, os⟩ := s; obtain ⟨hl1, hl2, h⟩ := h
    have hsub := sub_zip
    subst hn
    wp_walk using wpAny_pyIter_gen hl1, wpAny_pyIter_range hl2 hsm
    refine ⟨_, rfl, ?_⟩
    simpa [Heap.size_push, Builtin.SmallTypes.ownedTupleFields] using h
theorem call_zip_gr {a g rr : Addr} {x y n : Int} {t u v : Tok} {Q : Value → Shared → Prop} (hg : s.heap.IsGen a g) (hrr : IsRange s.heap rr x y 1 t u v) (hn : Builtin.Range.rangeSize x y 1 = n) (hsm : Builtin.Range.small x y 1 = true)
    (h : ∀ h', IsZip h' (s.heap.objs.size + 3) (s.heap.objs.size + 1) (s.heap.objs.size + 2) .none → IsPair h' (s.heap.objs.size + 1) (.ref a) (.ref s.heap.objs.size) → IsPair h' (s.heap.objs.size + 2) .none .none → IsRangeIter h' s.heap.objs.size x n 1 → h'.objs.size = s.heap.objs.size + 4 →
      (∀ c o, s.heap.get? c = some o → h'.get? c = some o) → Q (.ref (s.heap.objs.size + 3)) { s with heap := h' }) :
    wpAny (model prog w) A (call (.type "zip") [.ref a, .ref rr]) Q E s := by
  refine callType_new F.called_zip (by decide) (F.typeCall_zip_2 _ _) (F.newCall_zip_2 _ _) (fun obj => F.args_object_init_3 obj _ _) F.entry_zip_new
    (meets_zip_gr a g rr x t u v y n hn hsm) ⟨hg, hrr, ?_⟩
  obtain ⟨h1, eh1⟩ : ∃ h1, s.heap.push { cls := .type "range_iterator", data := .fields #[rawInt x, rawInt n, rawInt 1] } = h1 := ⟨_, rfl⟩
  obtain ⟨h2, eh2⟩ : ∃ h2, h1.push { cls := .type "tuple", data := .seq #[.ref a, .ref s.heap.objs.size] } = h2 := ⟨_, rfl⟩
  obtain ⟨h3, eh3⟩ : ∃ h3, h2.push { cls := .type "tuple", data := .seq #[.none, .none] } = h3 := ⟨_, rfl⟩
  obtain ⟨h4, eh4⟩ : ∃ h4, h3.push { cls := .type "zip", data := .fields #[.none, .bool false, .bool false, .ref (s.heap.objs.size + 1), .ref (s.heap.objs.size + 2)] } = h4 := ⟨_, rfl⟩
  rw [eh1, eh2, eh3, eh4]
  have z1 : h1.objs.size = s.heap.objs.size + 1 := by rw [← eh1]; exact Heap.size_push ..
  have z2 : h2.objs.size = s.heap.objs.size + 2 := by rw [← eh2, Heap.size_push, z1]
  have z3 : h3.objs.size = s.heap.objs.size + 3 := by rw [← eh3, Heap.size_push, z2]
  have z4 : h4.objs.size = s.heap.objs.size + 4 := by rw [← eh4, Heap.size_push, z3]
  have g4 : IsZip h4 h3.objs.size (s.heap.objs.size + 1) (s.heap.objs.size + 2) .none := by rw [← eh4]; exact Heap.get?_push_size _ rfl
  have g3 : IsPair h4 h2.objs.size .none .none := by rw [← eh4, ← eh3]; exact Heap.get?_push_of_some _ (Heap.get?_push_size _ rfl)
  have g2 : IsPair h4 h1.objs.size (.ref a) (.ref s.heap.objs.size) := by rw [← eh4, ← eh3, ← eh2]; exact Heap.get?_push_of_some _ (Heap.get?_push_of_some _ (Heap.get?_push_size _ rfl))
  have g1 : IsRangeIter h4 s.heap.objs.size x n 1 := by rw [← eh4, ← eh3, ← eh2, ← eh1]; exact Heap.get?_push_of_some _ (Heap.get?_push_of_some _ (Heap.get?_push_of_some _ (Heap.get?_push_size _ rfl)))
  rw [z3] at g4
  rw [z2] at g3
  rw [z1] at g2
  exact ⟨⟨_, g4, rfl⟩, h _ g4 g2 g3 g1 z4 fun c o e => by rw [← eh4, ← eh3, ← eh2, ← eh1]; exact Heap.get?_push_of_some _ (Heap.get?_push_of_some _ (Heap.get?_push_of_some _ (Heap.get?_push_of_some _ e)))⟩
end
end Mine
namespace Mine

section
variable {prog : Program} {w : World} {A : Around} {R : GenEnd} {Y : Protocol} {fs : List Frame} {env : Env}
/-- what follows upon a turn of a while -/
noncomputable def whileK (test : Expr) (body : List Stmt) (env : Env) (f : Flow) : Sem Fin := match f with
  | .next | .cont => .pure (.again (.whileLoop test body [] env))
  | .brk => .pure (.done .next)
  | .ret v => .pure (.done (.ret v))
theorem seg_while_ind {test : Expr} {body : List Stmt} (J : Nat → Shared → Shared → Prop)
    (turn : ∀ n s₀ s, J n s₀ s → (∀ n' s₀' s', n' < n → J n' s₀' s' → Seg (model prog w) A R Y n' s₀' (.whileLoop test body [] env) (.pure (.again (.whileLoop test body [] env))) fs s') →
      wpAny (model prog w) (A.over (.whileLoop test body [] env) fs) (isTrue test env (eval test env)) (fun b s₁ => b = true ∧ Seg (model prog w) A R Y n s₀ (.whileLoop test body [] env) ((execs body env).wrap (whileK test body env) (loopH env) id id) fs s₁) noE s) :
    ∀ n s₀ s, J n s₀ s → Seg (model prog w) A R Y n s₀ (.whileLoop test body [] env) ((model prog w).den (.whileLoop test body [] env)) fs s := by
  k_with_none
  k_with "pyIter ref" => k_extra "iter"
  k_with "ar" => (first | with_reducible exact ar412 (by assumption) (by assumption))
  have key : ∀ N n s₀ s, n < N → J n s₀ s → Seg (model prog w) A R Y n s₀ (.whileLoop test body [] env) ((model prog w).den (.whileLoop test body [] env)) fs s := by
    intro N
    induction N with
    | zero => intro n s₀ s h; exact absurd h (Nat.not_lt_zero _)
    | succ N ih =>
      intro n s₀ s hn hJ
      refine seg_whileLoop (wpAny_mono (turn n s₀ s hJ fun n' s₀' s' hlt hJ' => seg_again rfl (ih n' s₀' s' (by omega) hJ')) (fun b s₁ h₁ => ?_) fun _ _ e => e.elim)
      obtain ⟨rfl, h₁⟩ := h₁
      rw [if_pos rfl]
      exact Eq.mp (congrArg (fun t => Seg (model prog w) A R Y n s₀ (.whileLoop test body [] env) t fs s₁) (Sem.wrap_congr (execs body env) id id (fun f => by cases f <;> rfl) (fun _ => rfl))) h₁
  exact fun n s₀ s hJ => key (n + 1) n s₀ s (Nat.lt_succ_self _) hJ
end

theorem bnd_ne {C bnd : Nat} (h : C + 1 < bnd) : bnd - 1 ≠ C := by omega
noncomputable def valG (f sc : Int) (i : Nat) : Int := if i = 0 then f else sc
def PGrp (f sc : Int) (i : Nat) (v : Value) : Prop := ∃ t, v = .int (valG f sc i) t
theorem valG_at {f sc k : Int} {e : List Int} {i : Nat} (h : (f :: sc :: e)[i]? = some k) (hi : i < 2) (hf : 0 < f ∧ f < 10) (hsc : 0 < sc ∧ sc < 10) : k = valG f sc i ∧ 0 < k ∧ k < 10 := by
  match i, hi with
  | 0, _ => obtain rfl := Option.some.inj h; exact ⟨rfl, hf⟩
  | 1, _ => obtain rfl := Option.some.inj h; exact ⟨rfl, hsc⟩
theorem valG_pos {f sc : Int} {i : Nat} (h : i ≠ 0) : valG f sc i = sc := if_neg h
theorem fp_grp {C bnd it l : Nat} (h : bnd ≤ it) : ∀ b ∈ [C, it, l], b = C ∨ bnd ≤ b ∨ b ∈ [l] := by
  k_with_none
  k_with "pyIter ref" => k_extra "iter"
  k_with "ar" => (first | with_reducible exact ar656 (by assumption) (by assumption))
  intro b hb
  simp only [List.mem_cons, List.not_mem_nil, or_false] at hb ⊢
  omega
structure GS where
  la : Value
  iv : Option Value
noncomputable def msG (m₀ : Str → Option Value) (x : GS) : Str → Option Value := fun z => if z = Str.ofString "last_interval" then some x.la else if z = Str.ofString "interval" then x.iv else m₀ z
theorem msG_at {h₀ h : Heap} {L : Addr} {m m₀ : Str → Option Value} {x : GS} (F : Fr h₀ L h m) (h1 : m (Str.ofString "last_interval") = some x.la) (h2 : m (Str.ofString "interval") = x.iv)
    (h4 : ∀ z, z ≠ Str.ofString "last_interval" → z ≠ Str.ofString "interval" → m z = m₀ z) : Fr h₀ L h (msG m₀ x) := by
  have e : m = msG m₀ x := by
    funext z
    unfold msG
    split
    · rename_i e; rw [e, h1]
    · split
      · rename_i e; rw [e, h2]
      · exact h4 z (by assumption) (by assumption)
  exact e ▸ F
/-- how last_interval is held -/
noncomputable def HeldG (f sc : Int) : Nat → Value → Prop
  | 0, v => v = .none
  | i + 1, v => ∃ t, v = .int (valG f sc i) t
structure GInv (h₀ : Heap) (C bnd it l : Nat) (vs : List Value) (f sc : Int) (n₀ : Nat) (m₀ : Str → Option Value) (i n : Nat) (s₀ s : Shared) (z : GS) : Prop where
  F : Fr h₀ C s.heap (msG m₀ z)
  hs : Since C bnd s₀ s
  hi : i ≤ 2
  hn : n = n₀ - i
  hl : HeldG f sc i z.la
  hit : s.heap.IsListIter it l i
  hls : s.heap.IsList l vs.toArray

section
variable {w : World} {p : Program} {loose : List Str} {mean : ExcName → Option Value} {mg mb : Str → Option Value}
  {dp un : Nat} {gd : Option (List Code)} {cn : Str} {cs : Scope} {a : Addr} {ccd : Value} {cl : List (Str × Addr)} {outer : List Env} {A₀ : Around} {base h₀ : Heap} {L : Addr} {m : Str → Option Value} {news : List (Addr × Obj)} {s : Shared}
  {Q E : Value → Shared → Prop}
set_option maxRecDepth 100000 in
set_option maxHeartbeats 1600000 in
theorem t_grp {l : Addr} {vs : List Value} {ep : Nat} {f sc : Int} {e : List Int} {fin : Bool} {n₀ : Nat} (B : Below A₀ base outer h₀) (F : Fr h₀ L s.heap m) (X : (hd.heap_39 w.params).In h₀) (N : News h₀ L s.heap news) (T : Top p loose mean mg mb h₀) (hk : cs.kind = .function)
  (hD : (l, listOf vs.toArray ep) ∈ news) (hi : IntsAre vs (f :: sc :: e)) (he : (e = [0, 9] ∧ n₀ = 5 ∧ fin = false) ∨ ((e = [127, 9] ∨ e = []) ∧ n₀ = 2 ∧ fin = true)) (hf : 0 < f ∧ f < 10) (hsc : 0 < sc ∧ sc < 10)
  (hB : AllBare s.gens) (hd : dp + 200 < recursionLimit) (hu : un + 1600 < cLine)
  (hret : ∀ C oc oG h' tk' g', Fr h₀ L h' m → News h₀ L h' ((C, oc) :: (C + 1, oG) :: news) → L < C → (∀ q ∈ news, q.1 < C) → AllBare g' → (∀ h'' : Heap, h''.get? (C + 1) = some oG → h''.IsGen (C + 1) s.gens.size) →
    (∀ (A' : Around) (bnd : Nat) (s9 : Shared), A'.handled = none → @LT.lt Nat _ (C + 1) bnd → s9.gens = g' → (∀ b o, b = C ∨ b = C + 1 ∨ b = l → h'.get? b = some o → s9.heap.get? b = some o) → (∀ b o, h₀.get? b = some o → s9.heap.get? b = some o) →
      GenH PR w A' h₀ (C + 1) s.gens.size C bnd n₀ (PGrp f sc) fin [l] 0 s9) → Q (.ref (C + 1)) { s with heap := h', toks := tk', gens := g' }) :
    wpAny (model PR w) (ktrTop dp un gd cn cs L a ccd cl outer) (call (.ref 84) [.ref l]) Q E s := by
  k_with_none
  k_with "pyIter ref" => k_extra "iter"
  k_with "ar" => (first | with_reducible exact ar410 (by assumption) | with_reducible exact ar104 | with_reducible exact ar90 (by assumption) | with_reducible exact ar39 (by assumption) | with_reducible exact ar661 (by assumption) (by assumption) | with_reducible exact ar338 (by assumption) | with_reducible exact ar546 (by assumption) | with_reducible exact ar285 (by assumption) | with_reducible exact ar287 (by assumption) (by assumption) | with_reducible exact ar478 (by assumption) | with_reducible exact ar205 (by assumption) | with_reducible exact ar172 (by assumption) | with_reducible exact ar479 (by assumption))
  k_with_none
  k_with "pyIter ref" => k_extra "iter"
  k_with "ar" => (first | with_reducible exact ar410 (by assumption) | with_reducible exact ar104 | with_reducible exact ar90 (by assumption) | with_reducible exact ar39 (by assumption) | with_reducible exact ar661 (by assumption) (by assumption) | with_reducible exact ar338 (by assumption) | with_reducible exact ar546 (by assumption) | with_reducible exact ar285 (by assumption) | with_reducible exact ar287 (by assumption) (by assumption) | with_reducible exact ar478 (by assumption) | with_reducible exact ar205 (by assumption) | with_reducible exact ar172 (by assumption) | with_reducible exact ar479 (by assumption))
  w_top off
  refine wpAny_call ?_
  k_dflt (refine' code_gen ?k2 ?k3 ?k4 T.nolimit ?k6 ?k7 ?k8 ?kb ?k9 ?_ ?c2 ?c3 ?c4 ?c5; (case k2 => k_asm); (case k3 => k_asm); (case k4 => k_asm); (case k6 => k_is); (case k7 => k_is); (case k8 => ktr_room); (case kb => exact rfl); (case k9 => exact locs rfl); (case c2 => exact rfl); (case c3 => exact rfl); (case c4 => exact rfl); (case c5 => decide))
  intro C h' tk F' N' FG hg hsz hLC hn
  dsimp only
  obtain ⟨oc, esc, epc, hoc, rc⟩ := id FG.ns
  obtain ⟨oG, nmG, qnG, hoG, rG⟩ := id hg
  refine hret C oc oG h' tk _ F' ?hnn hLC hn ?hb (fun h'' e => ⟨oG, nmG, qnG, e, rG⟩) fun A' bnd s9 hA hCb hgs hk9 h09 => ⟨?hg9, h09, fun _ => ⟨_, [C, l], by rw [hgs]; exact Array.getElem?_push_size .., ?fp, ?go⟩⟩
  case hnn =>
    have h0 : h₀.objs.size ≤ C := Nat.le_of_lt (Nat.lt_of_le_of_lt F'.above hLC)
    intro q hq
    rcases List.mem_cons.mp hq with rfl | hq
    · exact ⟨hoc, Nat.ne_of_gt hLC, Heap.get?_none_of_le h0⟩
    · rcases List.mem_cons.mp hq with rfl | hq
      · exact ⟨hoG, Nat.ne_of_gt (Nat.lt_succ_of_lt hLC), Heap.get?_none_of_le (Nat.le_succ_of_le h0)⟩
      · exact N' q hq
  case hb =>
    intro y hy
    rcases Array.mem_push.mp hy with hy | rfl
    · exact hB y hy
    · rfl
  case hg9 =>
    obtain ⟨o, nm, qn, ho, r⟩ := hg
    exact ⟨o, nm, qn, hk9 _ o (.inr (.inl rfl)) ho, r⟩
  case fp =>
    intro b hb
    rcases List.mem_cons.mp hb with rfl | hb
    · exact .inl rfl
    · exact .inr (.inr hb)
  case go =>
    intro s8 hal h0 hbs
    refine ⟨rfl, seg_func ?_⟩
    have F9 : Fr h₀ C s8.heap _ := ⟨FG.ns.at' fun o e => hal C (.head _) o (hk9 C o (.inl rfl) e), h0, FG.above⟩
    have hl8 : s8.heap.get? l = some (listOf vs.toArray ep) := hal l (.tail _ (.head _)) _ (hk9 l _ (.inr (.inr rfl)) (N' _ hD).1)
    have hlC : @LT.lt Nat _ l C := hn _ hD
    obtain ⟨r9, N9, kp9⟩ := keepAll F9
    clear F N F' N' FG hret hal hk9 rc rG hoc hoG
    k_with "iter" => (refine Stop.mk ?_)
    refine seg_stmt ?_
    k_steps
    refine seg_execs_cons (seg_For ?_)
    k_steps
    refine Stop.of ?_
    (rename Fr _ _ _ _ => F5)
    (rename News _ _ _ _ => N5)
    have kp5 := kp9 _ _ _ F5 N5 (fun q hq => hq)
    rename_i h5
    have hl5 : h5.get? l = some (listOf vs.toArray ep) := kp5 l _ (Nat.ne_of_lt hlC) hl8
    obtain ⟨it, hit⟩ : ∃ it, h5.objs.size = it := ⟨_, rfl⟩
    have hb5 : bnd ≤ it := by
      rw [← hit]
      obtain ⟨o, ho⟩ := hbs
      have h1 := Heap.lt_size (kp5 _ o (bnd_ne hCb) ho)
      exact Nat.le_of_pred_lt h1
    have hls5 : h5.IsList l vs.toArray := ⟨_, hl5, rfl, _, rfl⟩
    refine wpAny_pyIter_list hls5 ?_
    dsimp only
    have hit6 : (h5.push { cls := .type "list_iterator", data := .fields #[.ref l, .int 0 0] }).IsListIter it l 0 := by
      rw [← hit]
      exact ⟨_, Heap.get?_push_size _ rfl, rfl, rfl⟩
    have hls6 : (h5.push { cls := .type "list_iterator", data := .fields #[.ref l, .int 0 0] }).IsList l vs.toArray := hls5.push _
    have F6 := F5.push { cls := .type "list_iterator", data := .fields #[.ref l, .int 0 0] }
    have kp6 : ∀ b o, b ≠ C → s8.heap.get? b = some o → (h5.push { cls := .type "list_iterator", data := .fields #[.ref l, .int 0 0] }).get? b = some o := fun b o hb e => Heap.get?_push_of_some _ (kp5 b o hb e)
    rw [hit]
    generalize h5.push { cls := .type "list_iterator", data := .fields #[.ref l, .int 0 0] } = h6 at hit6 hls6 F6 kp6 ⊢
    intro pz
    obtain ⟨m₀, iv0, F7⟩ : ∃ m₀ iv, Fr h₀ C h6 (msG m₀ ⟨.none, iv⟩) := ⟨_, _, msG_at F6 rfl rfl (fun _ _ _ => rfl)⟩
    clear F5 N5 kp9 F6 kp5 hls5
    have hsz2 : vs.toArray.size = 2 + e.length := by simp [hi.length]; omega
    have hli : l ≠ it := Nat.ne_of_lt (Nat.lt_of_lt_of_le hlC (Nat.le_trans (Nat.le_of_lt (Nat.lt_trans (Nat.lt_succ_self _) hCb)) hb5))
    have hCi : @LT.lt Nat _ C it := Nat.lt_of_lt_of_le (Nat.lt_trans (Nat.lt_succ_self _) hCb) hb5
    refine seg_for_ind (N := vs.toArray.size) (fun i n s₀ s => ∃ z, GInv h₀ C bnd it l vs f sc n₀ m₀ i n s₀ s z) ?turn ?done 0 _ _ _ (Nat.zero_le _) ⟨⟨.none, iv0⟩, F7, ?hs, Nat.zero_le _, rfl, rfl, hit6, hls6⟩
    case hs => exact ⟨_, _, rfl, fun b o hb _ e => kp6 b o hb e⟩
    case turn =>
      rintro i n s₀ s1 hlt ⟨⟨la, iv⟩, F1, hs1, hi2, hn1, hla, hit1, hls1⟩ back
      dsimp only at hla
      refine (Walks.list (prog := PR) (w := w) ?hA it l hli vs.toArray).item i s1 _ _ hlt ⟨hit1, hls1⟩ fun v h2 tk2 hv hst2 hk2 => ⟨v, rfl, ?_⟩
      case hA => exact hA
      obtain ⟨hit2, hls2⟩ := hst2
      refine wpAny_of_eq (rfl : letOwnedTupleGo (.Name _ _) (.ref it) v = pure ()) ?_
      have k2 : ∀ b o, b ≠ it → s1.heap.get? b = some o → h2.get? b = some o := fun b o hb e => hk2 b o (by simpa using hb) e
      have F2 : Fr h₀ C h2 (msG m₀ ⟨la, iv⟩) := ⟨F1.ns.at' fun o e => k2 C o (Nat.ne_of_lt hCi) e, fun b o e => k2 b o (Nat.ne_of_lt (Nat.lt_trans (Nat.lt_of_lt_of_le (Heap.lt_size e) F1.above) hCi)) (F1.keep b o e), F1.above⟩
      refine wpAny_assign_Name (wpAny_storeName_local rfl F2.ns (fun h3 hn3 hs3 => ?_) rfl)
      replace hs3 : Heap.SameBut C h2 h3 := hs3
      have F3 := Fr.set F2 hn3 hs3
      have k3 : ∀ b o, b ≠ C → h2.get? b = some o → h3.get? b = some o := fun b o hb e => (hs3.2 b hb).trans e
      have hit3 : h3.IsListIter it l (i + 1) := hit2.at fun o e => k3 it o (Nat.ne_of_gt hCi) e
      have hls3 : h3.IsList l vs.toArray := hls2.at fun o e => k3 l o (Nat.ne_of_lt hlC) e
      have hs3' : Since C bnd s₀ { s1 with heap := h3, toks := tk2 + 1 } := hs1.step fun b o hb hlt e => k3 b o hb (k2 b o (Nat.ne_of_lt (Nat.lt_of_lt_of_le hlt hb5)) e)
      obtain ⟨k, tv, rfl, hkv⟩ := hi.at i v (by simpa using hv)
      clear F1 F2 hs1 hit1 hit2 hls1 hls2 hk2 k2 k3
      obtain ⟨r6, N6, kp6'⟩ := keepAll F3
      by_cases hi2' : i < 2
      · obtain ⟨hkval, hk0, hk10⟩ := valG_at hkv hi2' hf hsc
        have hk1 : (k == 127) = false := by simp; omega
        have hk2 : (k == 0) = false := by simp; omega
        obtain ⟨n', hn'⟩ : ∃ n', n₀ - i = n' + 1 := ⟨n₀ - i - 1, by omega⟩
        have hidx : n₀ - 1 - n' = i := by omega
        have hn'2 : n' = n₀ - (i + 1) := by omega
        rw [hn'] at hn1
        subst hn1
        refine seg_execs_cons (seg_If ?_)
        k_steps
        rw [if_neg (by rw [hk1]; exact Bool.false_ne_true)]
        refine seg_execs_nil ?_
        refine seg_execs_cons (seg_If ?_)
        k_steps
        rw [if_neg (by rw [hk2]; exact Bool.false_ne_true)]
        refine seg_execs_nil ?_
        refine seg_execs_cons (seg_Expr_Yield rfl rfl rfl ?_)
        k_steps
        (rename Fr _ _ _ _ => F7)
        (rename News _ _ _ _ => N7)
        have kp7 := kp6' _ _ _ F7 N7 (fun q hq => hq)
        rename_i kap hkap
        refine ⟨⟨tv, by rw [hidx, hkval]⟩, hs3'.step (fun b o hb _ e => kp7 b o hb e), fun _ => ⟨[C, it, l], fp_grp hb5, fun s8 hal h08 => hkap .none s8 ?_⟩⟩
        have F8 : Fr h₀ C s8.heap _ := ⟨F7.ns.at' fun o e => hal C (.head _) o e, h08, F7.above⟩
        have hit8 : s8.heap.IsListIter it l (i + 1) := hit3.at fun o e => hal it (.tail _ (.head _)) o (kp7 it o (Nat.ne_of_gt hCi) e)
        have hls8 : s8.heap.IsList l vs.toArray := hls3.at fun o e => hal l (.tail _ (.tail _ (.head _))) o (kp7 l o (Nat.ne_of_lt hlC) e)
        clear F7 N7 kp6' kp7 hs3' hkap hal
        obtain ⟨r8, N8, kp8⟩ := keepAll F8
        show Seg _ _ _ _ _ _ _ _ _ _
        refine seg_stmt ?_
        k_steps
        (rename Fr _ _ _ _ => F9)
        (rename News _ _ _ _ => N9)
        have kp9 := kp8 _ _ _ F9 N9 (fun q hq => hq)
        refine seg_execs_nil ?_
        exact back _ _ _ ⟨⟨.int k tv, _⟩, msG_at F9 rfl rfl (fun z a b => by simp [msG, a, b]), (Since.refl C bnd s8).step (fun b o hb _ e => kp9 b o hb e), by omega, hn'2, ⟨tv, by rw [hkval]⟩, hit8.at fun o e => kp9 it o (Nat.ne_of_gt hCi) e, hls8.at fun o e => kp9 l o (Nat.ne_of_lt hlC) e⟩
      · have e2 : i = 2 := by omega
        subst e2
        rcases he with ⟨rfl, rfl, rfl⟩ | ⟨rfl | rfl, rfl, rfl⟩
        · have ek : k = 0 := (Option.some.inj hkv).symm
          subst ek
          obtain ⟨tl, hla'⟩ := hla
          subst hla'
          have hn2 : n = 3 := hn1
          subst hn2
          refine seg_execs_cons (seg_If ?_)
          k_steps
          rw [if_neg (by decide)]
          refine seg_execs_nil ?_
          refine seg_execs_cons (seg_If ?_)
          k_steps
          rw [if_pos (by decide)]
          refine seg_execs_cons (seg_If ?_)
          k_steps
          rw [if_neg (by decide)]
          refine seg_execs_nil ?_
          (rename Fr _ _ _ _ => F7)
          (rename News _ _ _ _ => N7)
          have kp7 := kp6' _ _ _ F7 N7 (fun q hq => hq)
          obtain ⟨m₁, F8⟩ : ∃ m₁, Fr h₀ C _ (msG m₁ ⟨.int sc tl, some (.int 0 tv)⟩) := ⟨_, msG_at F7 rfl rfl (fun _ _ _ => rfl)⟩
          clear N7 kp6' F7
          refine seg_execs_cons (seg_While ?_)
          intro pw
          refine seg_while_ind (fun n s₀ s => 0 < n ∧ n ≤ 3 ∧ Fr h₀ C s.heap (msG m₁ ⟨.int sc tl, some (.int 0 tv)⟩) ∧ Since C bnd s₀ s) ?turnw 3 _ _ ⟨by decide, by decide, F8, hs3'.step (fun b o hb _ e => kp7 b o hb e)⟩
          case turnw =>
            clear hs3' F8 kp7
            rintro n s₀ s4 ⟨hn0, hn3, F4, hs4⟩ backw
            obtain ⟨r4, N4, kp4⟩ := keepAll F4
            obtain ⟨n', rfl⟩ : ∃ n', n = n' + 1 := ⟨n - 1, by omega⟩
            k_steps
            refine seg_execs_cons (seg_Expr_Yield rfl rfl rfl ?_)
            k_steps
            (rename Fr _ _ _ _ => F7)
            (rename News _ _ _ _ => N7)
            have kp7 := kp4 _ _ _ F7 N7 (fun q hq => hq)
            rename_i kap hkap
            refine ⟨⟨tl, by rw [valG_pos (show 5 - 1 - n' ≠ 0 by omega)]⟩, hs4.step (fun b o hb _ e => kp7 b o hb e), fun hm => ⟨[C], fun b hb => .inl (List.mem_singleton.mp hb), fun s6 hal h06 => hkap .none s6 ?_⟩⟩
            have hm' : n' ≠ 0 := hm.resolve_left (fun q => by cases q)
            have F6 : Fr h₀ C s6.heap _ := ⟨F7.ns.at' fun o e => hal C (.head _) o e, h06, F7.above⟩
            show Seg _ _ _ _ _ _ _ _ _ _
            refine seg_execs_nil ?_
            exact backw n' _ _ (Nat.lt_succ_self _) ⟨by omega, by omega, F6, Since.refl C bnd s6⟩
        · have ek : k = 127 := (Option.some.inj hkv).symm
          subst ek
          have hn2 : n = 0 := hn1
          subst hn2
          refine seg_execs_cons (seg_If ?_)
          k_steps
          rw [if_pos (by decide)]
          refine seg_execs_cons (seg_one ?_)
          k_steps
          (rename Fr _ _ _ _ => F7)
          (rename News _ _ _ _ => N7)
          have kp7 := kp6' _ _ _ F7 N7 (fun q hq => hq)
          refine seg_leaf (.ok (.ret .none)) ?_
          rw [forBack_ok]
          exact seg_end (.ok (.ret .none)) ⟨rfl, rfl, hs3'.step (fun b o hb _ e => kp7 b o hb e)⟩
        · cases hkv
    case done =>
      rintro n s₀ s1 ⟨⟨la, iv⟩, F1, hs1, hi2, hn1, hla, hit1, hls1⟩
      rcases he with ⟨rfl, rfl, rfl⟩ | ⟨rfl | rfl, rfl, rfl⟩
      · exact absurd (hsz2 ▸ hi2) (by decide)
      · exact absurd (hsz2 ▸ hi2) (by decide)
      · rw [hsz2] at hn1
        have hn2 : n = 0 := hn1
        subst hn2
        refine (Walks.list (prog := PR) (w := w) ?hA it l hli vs.toArray).done s1 _ _ ⟨hit1, hls1⟩ fun h2 tk2 hk2 => ⟨rfl, seg_block ?_⟩
        case hA => exact hA
        rw [forBack_ok]
        refine seg_execs_nil ?_
        exact seg_end (.ok (.ret .none)) ⟨rfl, rfl, hs1.step (fun b o hb hlt e => hk2 b o (by simpa using Nat.ne_of_lt (Nat.lt_of_lt_of_le hlt hb5)) e)⟩
end
end Mine
namespace Mine

section
variable {prog : Program} {w : World} {A : Around} {E : Value → Shared → Prop} {R : Result → Shared → Prop} {s : Shared}
theorem comp_loop1 {elt target iter : Expr} {scope : Scope} {pos : Pos} {it acc : Value} {env : Env} (I : Nat → Shared → Prop)
    (turn : ∀ n s, I n s → wpAny (model prog w) A (pyNext it) (fun r s₁ => match r with
      | none => R (.ok .next) s₁
      | some v => wpAny (model prog w) A (letOwnedTupleGo target it v) (fun _ s₁' => wpAny (model prog w) A (assign target env v) (fun _ s₂ => wpAny (model prog w) A (eval elt env) (fun x s₃ =>
          wpAny (model prog w) A (call (.builtin "list.append") [acc, x]) (fun _ s₄ => ∃ m, m < n ∧ I m s₄) noE s₃) noE s₂) noE s₁') noE s₁) noE s)
    (n : Nat) (h : I n s) : codeAny (model prog w) A (.compLoop (.ListComp elt [⟨target, iter, [], 0⟩] scope pos) 0 it acc env) R s := by
  refine codeAny_loop rfl I (fun n s hI => ?_) n h
  show wpAny _ A ((compTurn (.ListComp elt [⟨target, iter, [], 0⟩] scope pos) 0 it acc env).onRaise (fun x => do noteFrame x env; theTreesLotGoes x)) _ _ s
  refine wpAny_noted ?_
  rw [compTurn_list]
  refine wpAny_bind (wpAny_standAt (wpAny_bind (wpAny_mono (turn n s hI) (fun r s₁ h₁ => ?_) fun _ _ e => e.elim)))
  cases r with
  | none => exact wpAny_pure h₁
  | some v =>
    refine wpAny_bind (wpAny_mono h₁ (fun _ s₁' h₁' => ?_) fun _ _ e => e.elim)
    refine wpAny_bind (wpAny_mono h₁' (fun _ s₂ h₂ => ?_) fun _ _ e => e.elim)
    refine wpAny_bind (wpAny_tests_nil ?_)
    exact wpAny_bind (wpAny_bind (wpAny_mono h₂ (fun x s₃ h₃ => wpAny_bind (wpAny_mono h₃ (fun _ s₄ h₄ => wpAny_pure (wpAny_pure ⟨rfl, h₄⟩)) fun _ _ e => e.elim)) fun _ _ e => e.elim))
end

theorem IntsAre.take_snoc {ys : List Value} {f : Nat → Int} {i : Nat} {t : Tok} (h : IntsAre ys ((List.range i).map f)) : IntsAre (ys ++ [.int (f i) t]) ((List.range (i + 1)).map f) := by
  rw [List.range_succ, List.map_append]
  exact h.append (.cons _ _ .nil)

section
variable {prog : Program} {w : World} {A : Around} {E : Value → Shared → Prop} {s : Shared} {h₀ : Heap} {m : Str → Option Value} {env : Env}
/-- [x for x, x2 in zip(generator, range(4))], stored under a name -/
theorem Assign_comp_zip {iter : Expr} {x x2 y : Str} {px px2 py pt pe : Pos} {kt : Nat} {scope : Scope} {cl : List (Str × Addr)} {pos spos : Pos} {Q : Flow → Shared → Prop} {f sc : Int} {fin : Bool} {n₀ K : Nat} (_F₀ : Fr h₀ env.locals s.heap m) (hxx : x ≠ x2)
    (hh : A.handled = none) (hroom : A.depth < recursionLimit) (hl : h₀.NoLimit)
    (hsw : swapsWith (.ListComp (.Name x pe) [⟨.Tuple [.Name x px, .Name x2 px2] kt pt, iter, [], 0⟩] scope pos) (some (.Name y py)) spos.line env = pure true)
    (hclos : closureFor scope env = pure cl) (hcell : ∀ z ∈ scope.names, z.2 ≠ .cell) (hkind : scope.kind = .function)
    (hnames : ∀ z ∈ scope.names, z.2 = .local → scope.names.lookup z.1 = some .local) (hx : scope.names.lookup x = some .local) (hx2 : scope.names.lookup x2 = some .local) (hdb : (x == ("__debug__" : Str)) = false)
    (hy : env.kindOf y = some .local) (hp : (env.scope.kind == .class || (env.scope.kind == .module && env.locals != env.globals)) = false)
    (hK : (K = n₀ ∧ fin = true ∧ K ≤ 4) ∨ (K < n₀ ∧ K = 4))
    (h : wpAny (model prog w) A (eval iter env) (fun xv s₁ => ∃ (r C l g : Nat) (news : List (Addr × Obj)) (ol : Obj), xv = .ref (r + 3) ∧ Fr h₀ env.locals s₁.heap m ∧ News h₀ env.locals s₁.heap news ∧ (∀ q ∈ news, @LT.lt Nat _ q.1 C) ∧ @LT.lt Nat _ env.locals C ∧ (l, ol) ∈ news ∧
      C + 1 < r ∧ ZSt r (C + 1) .none 0 s₁.heap ∧ AllBare s₁.gens ∧ (∃ o, s₁.heap.get? C = some o) ∧
      (∀ (bnd : Nat) (s9 : Shared), C + 1 < bnd → s9.gens = s₁.gens → (∀ b o, b = C ∨ b = C + 1 ∨ b = l → s₁.heap.get? b = some o → s9.heap.get? b = some o) → (∀ b o, h₀.get? b = some o → s9.heap.get? b = some o) → GenH prog w A.in1 h₀ (C + 1) g C bnd n₀ (PGrp f sc) fin [l] 0 s9) ∧
      (∀ D ys h' tk g', Fr h₀ env.locals h' (fun z => if z = y then some (.ref D) else m z) → News h₀ env.locals h' ((D, LCg.lst ys) :: news) → (∀ q ∈ news, q.1 < D) → IntsAre ys ((List.range K).map (valG f sc)) → AllBare g' → Q .next { s₁ with heap := h', toks := tk, gens := g' })) E s)
    (hs : ∀ x, foldedSetIterable iter env x = pure x := by intro _; rfl) :
    wpAny (model prog w) A (exec (.Assign [.Name y py] (.ListComp (.Name x pe) [⟨.Tuple [.Name x px, .Name x2 px2] kt pt, iter, [], 0⟩] scope pos) spos) env) Q E s := by
  k_with_none
  k_with "ar" => (first | with_reducible exact ar113 (by assumption) (by assumption) | with_reducible exact ar334 (by assumption) (by assumption) | with_reducible exact ar432 (by assumption) | with_reducible exact ar71 | with_reducible exact ar167 | with_reducible exact ar160 | with_reducible exact ar108 (by assumption) | with_reducible exact ar281 (by assumption) (by assumption) | with_reducible exact ar292 (by assumption) | with_reducible exact ar110 (by assumption) (by assumption) (by assumption) | with_reducible exact ar559 (by assumption) (by assumption) (by assumption) | with_reducible exact ar583 (by assumption) (by assumption) (by assumption) | with_reducible exact ar528 (by assumption) (by assumption) (by assumption) | with_reducible exact ar244 (by assumption) | with_reducible exact ar256 (by assumption) (by assumption) | with_reducible exact ar591 (by assumption) (by assumption) | with_reducible exact ar215 (by assumption) (by assumption) (by assumption) (by assumption) | with_reducible exact ar112 (by assumption) (by assumption) (by assumption) (by assumption) | with_reducible exact ar258 (by assumption) (by assumption) (by assumption) | with_reducible exact ar340 | with_reducible exact ar391 (by assumption) | with_reducible exact ar220 (by assumption) | with_reducible exact ar690 (by assumption) (by assumption) | with_reducible exact ar600 (by assumption) (by assumption) | with_reducible exact ar578 (by assumption) (by assumption) | with_reducible exact ar480 (by assumption) (by assumption) | with_reducible exact ar421 (by assumption) (by assumption) | with_reducible exact ar34)
  rw [exec_Assign_Name_used _ _ _ _ hsw]
  refine wpAny_bind (wpAny_standAt (wpAny_bind ?_))
  show wpAny _ A (do let _ ← comprehension (.ListComp (.Name x pe) [⟨.Tuple [.Name x px, .Name x2 px2] kt pt, iter, [], 0⟩] scope pos) scope env _ (newList []) false (eval iter env) (some (assign (.Name y py) env))) _ _ s
  refine wpAny_bind (wpAny_mono (wpAny_comprehension_free (use := some (assign (.Name y py) env)) (Q := fun _ s' => Q .next s') rfl hs hclos hkind hnames
    (wpAny_mono h (fun xv s₁ h₁ => ?_) fun _ _ e => e)) (fun _ s' hq => wpAny_pure (wpAny_pure hq)) fun _ _ e => e)
  obtain ⟨r, C, l, g, news, ol, rfl, F, N, hnC, hLC, hln, hCr, hZ, hB, ⟨oC, hoC⟩, hG, hQ⟩ := h₁
  refine wpAny_pyIter_zip hZ.hz ?_
  refine wpAny_newObj_type (wpAny_newFunctionEnv hcell (by intro y hy; simp at hy) (fun h₁ hns₁ hsb₁ => ?_) hkind)
  dsimp only at hns₁ hsb₁ ⊢
  obtain ⟨D, hD⟩ : ∃ D, s₁.heap.objs.size = D := ⟨_, rfl⟩
  have hzD : r + 3 < D := by rw [← hD]; exact Heap.lt_size hZ.hz
  obtain ⟨H2, hH2⟩ : ∃ H2, s₁.heap.push { cls := .type "list", dict := none, data := .seq ([] : List Value).toArray } = H2 := ⟨_, rfl⟩
  rw [hH2] at hns₁ hsb₁ ⊢
  have hC : H2.objs.size = D + 1 := by rw [← hH2, Heap.size_push, hD]
  rw [hC] at hns₁ hsb₁ ⊢
  replace hsb₁ : Heap.SameBut (D + 1) _ h₁ := hsb₁
  have old : ∀ (b : Nat) o, s₁.heap.get? b = some o → h₁.get? b = some o := fun b o e => hsb₁.extBut b o (by have := Heap.lt_size e; rw [hD] at this; exact Nat.ne_of_lt (Nat.lt_succ_of_lt this)) (Heap.get?_push_of_some _ (hH2 ▸ Heap.get?_push_of_some _ e))
  have hacc : h₁.get? D = some (LCg.lst []) := hsb₁.extBut _ _ (Nat.ne_of_lt (Nat.lt_succ_self _)) (Heap.get?_push_of_some _ (by rw [← hH2, ← hD]; exact Heap.get?_push_size _ rfl))
  have hnD : ∀ q ∈ news, @LT.lt Nat _ q.1 D := fun q hq => Nat.lt_trans (hnC q hq) (by omega)
  have hlC : l < C := hnC _ hln
  have hszC : h₀.objs.size ≤ C := Nat.le_of_lt (Nat.lt_of_le_of_lt F.above hLC)
  have fresh₀ : ∀ b : Nat, C ≤ b → h₀.get? b = none := fun b hb => Heap.get?_none_of_le (Nat.le_trans hszC hb)
  have hDn : ∀ (b : Nat) o, s₁.heap.get? b = some o → @LT.lt Nat _ b D := fun b o e => hD ▸ Heap.lt_size e
  have loop : ∀ s₃ : Shared, s₃ = { s₁ with heap := h₁, toks := s₁.toks + ([] : List (Str × Value)).length } →
      codeAny (model prog w) A (.compLoop (.ListComp (.Name x pe) [⟨.Tuple [.Name x px, .Name x2 px2] kt pt, iter, [], 0⟩] scope pos) 0 (.ref (r + 3)) (.ref D) (compEnvC scope cl (D + 1) env))
        (compPost (model prog w) A E (some (assign (.Name y py) env)) (fun _ s' => Q .next s') (.ref D) (D + 1)) s₃ := by
    rintro s₃ rfl
    refine comp_loop1 (fun k s' => ∃ h' tk g' i ys m', s' = { s₁ with heap := h', toks := tk, gens := g' } ∧ i ≤ K ∧ k = K + 1 - i ∧ ys.length = i ∧ IntsAre ys ((List.range i).map (valG f sc)) ∧ ZSt r (C + 1) .none i h' ∧
      GenH prog w A.in1 h₀ (C + 1) g C (D + 2) n₀ (PGrp f sc) fin [l] i s' ∧ AllBare g' ∧ Fr h₀ env.locals h' m ∧ h'.Ns (D + 1) m' ∧ News h₀ env.locals h' ((D, LCg.lst ys) :: news)) ?_ (K + 1)
      ⟨h₁, _, s₁.gens, 0, [], _, rfl, Nat.zero_le _, rfl, rfl, .nil, hZ.at (fun b o _ _ e => old b o e), hG (D + 2) _ (by omega) rfl (fun b o _ e => old b o e) (fun b o e => old b o (F.keep b o e)), hB, F.keeps old, hns₁, fun q hq => ?_⟩
    · rintro k s' ⟨h', tk, g', i, ys, m', rfl, hi, rfl, hyl, hys, hZ', hG', hB', F', hn', N'⟩
      have hCC : ∃ o, h'.get? (D + 2 - 1) = some o := by obtain ⟨o, _, _, ho, _⟩ := hn'; exact ⟨o, ho⟩
      have upF : ∀ hh : Heap, (∀ (b : Nat) o, b < C → h'.get? b = some o → hh.get? b = some o) → Fr h₀ env.locals hh m := fun hh k => ⟨F'.ns.at' fun o e => k _ o hLC e, fun b o e => k b o (Nat.lt_of_lt_of_le (Heap.lt_size e) hszC) (F'.keep b o e), F'.above⟩
      have upN : ∀ hh : Heap, (∀ (b : Nat) o, b < C ∨ b = D → h'.get? b = some o → hh.get? b = some o) → News h₀ env.locals hh ((D, LCg.lst ys) :: news) := fun hh k q hq => by
        refine ⟨k q.1 _ ?_ (N' q hq).1, (N' q hq).2⟩
        rcases List.mem_cons.mp hq with rfl | hq
        · exact .inr rfl
        · exact .inl (hnC q hq)
      by_cases hlt : i < K
      · have hi4 : i < 4 := by omega
        have hin : i < n₀ := by omega
        refine pyNext_zip_item hG' hin hi4 hh hroom hl hszC hlC (Nat.lt_succ_self C) hCr (by omega) hCC hB' hZ' fun v t T h2 tk2 g2 hv hZ2 hT hTr hG2 hk2 hB2 => ?_
        dsimp only at hk2
        refine wpAny_letOwnedTupleGo_zip hZ2.hz fun h3 hz3 hs3 => ?_
        replace hs3 : Heap.SameBut (r + 3) h2 h3 := hs3
        have k3 : ∀ (b : Nat) o, b ≠ r + 3 → h2.get? b = some o → h3.get? b = some o := fun b o hb e => hs3.extBut b o hb e
        have hT3 : h3.IsTuple T #[v, .int i t] := by
          obtain ⟨o, e, rr⟩ := hT
          exact ⟨o, k3 T o (Nat.ne_of_gt hTr) e, rr⟩
        have hZ3 : ZSt r (C + 1) .none (i + 1) h3 := by
          obtain ⟨_, hTI, ⟨a, b, hTO⟩, hr⟩ := hZ2
          exact ⟨hz3, k3 _ _ (by omega) hTI, ⟨a, b, k3 _ _ (by omega) hTO⟩, k3 _ _ (by omega) hr⟩
        have hn3 : h3.Ns (D + 1) m' := hn'.at' fun o e => k3 _ o (by omega) (hk2 _ o (by omega) (by omega) e)
        refine wpAny_assign_Tuple hh hT3 rfl rfl fun h4 hx4 => ?_
        have k4 : ∀ (b : Nat) o, h3.get? b = some o → h4.get? b = some o := fun b o e => hx4 b o (Nat.ne_of_lt (Heap.lt_size e)) e
        have hn4 := hn3.keeps k4
        show wpAny _ A (do holding [.int i t] (assign (.Name x px) (compEnvC scope cl (D + 1) env) v); do holding [] (assign (.Name x2 px2) (compEnvC scope cl (D + 1) env) (.int i t)); pure ()) _ _ _
        refine wpAny_bind (wpAny_holding (wpAny_assign_Name (wpAny_storeName_local (lookup_relabel_local hx) hn4 (fun h5 hn5 hs5 => ?_) (by simp [compEnvC, relabel, hkind]))))
        replace hs5 : Heap.SameBut (D + 1) h4 h5 := hs5
        refine wpAny_bind (wpAny_holding (wpAny_assign_Name (wpAny_storeName_local (lookup_relabel_local hx2) hn5 (fun h6 hn6 hs6 => wpAny_pure ?_) (by simp [compEnvC, relabel, hkind]))))
        replace hs6 : Heap.SameBut (D + 1) h5 h6 := hs6
        obtain ⟨tv, rfl⟩ := hv
        refine wpAny_Name (wpAny_loadName_local (by simp [compEnvC, relabel, hkind]) (lookup_relabel_local hx) hn6 (v := .int (valG f sc i) tv) (by simp [hxx]) ?_) hdb
        have k6 : ∀ (b : Nat) o, b ≠ D + 1 → b ≠ r + 3 → h2.get? b = some o → h6.get? b = some o := fun b o hb hb2 e => hs6.extBut b o hb (hs5.extBut b o hb (k4 b o (k3 b o hb2 e)))
        have k06 : ∀ (b : Nat) o, b < C ∨ b = D → h'.get? b = some o → h6.get? b = some o := fun b o hb e => k6 b o (by omega) (by omega) (hk2 b o (by omega) (by omega) e)
        have F6 := upF h6 fun b o hb e => k06 b o (.inl hb) e
        have N6 := upN h6 k06
        refine append_at (hsz := by show ys.toArray.size ≤ sizeLine; rw [List.size_toArray, hyl, sizeLine_eq]; omega) (N6 _ (.head _)).1 fun h7 hs7 hD7 => ?_
        replace hs7 : Heap.SameBut D h6 h7 := hs7
        have k7 : ∀ (b : Nat) o, b ≠ D → h6.get? b = some o → h7.get? b = some o := fun b o hb e => hs7.extBut b o hb e
        refine ⟨K + 1 - (i + 1), by omega, h7, _, g2, i + 1, ys ++ [.int (valG f sc i) tv], _, rfl, hlt, rfl, by rw [List.length_append, List.length_singleton, hyl], IntsAre.take_snoc hys, ?_, ?_, hB2, ?_, hn6.at' fun o e => k7 (D + 1) o (by omega) e, fun q hq => ?_⟩
        · refine hZ3.at fun (b : Nat) o (q1 : @LE.le Nat _ r b) (q2 : @LE.le Nat _ b (r + 3)) e => ?_
          have q3 : b ≠ D := by omega
          have q4 : b ≠ D + 1 := by omega
          exact k7 b o q3 (hs6.extBut b o q4 (hs5.extBut b o q4 (k4 b o e)))
        · refine GenH.keep hG2 (fun b o hb e => k7 b o ?_ (k6 b o ?_ ?_ e)) fun b o e => k7 b o ?_ (F6.keep b o e)
          · simp only [List.mem_singleton] at hb; omega
          · simp only [List.mem_singleton] at hb; omega
          · simp only [List.mem_singleton] at hb; omega
          · have h1 := Heap.lt_size e
            have h2 : @LT.lt Nat _ b C := Nat.lt_of_lt_of_le h1 hszC
            omega
        · exact ⟨F6.ns.at' fun o e => k7 _ o (Nat.ne_of_lt (Nat.lt_trans hLC (by omega : C < D))) e, fun b o e => k7 b o (by have h2 : @LT.lt Nat _ b C := Nat.lt_of_lt_of_le (Heap.lt_size e) hszC; omega) (F6.keep b o e), F6.above⟩
        · rcases List.mem_cons.mp hq with rfl | hq
          · exact ⟨hD7.trans (congrArg some (LCg.lst_snoc ys _)), (N6 _ (.head _)).2⟩
          · exact ⟨k7 _ _ (Nat.ne_of_lt (hnD q hq)) (N6 q (.tail _ hq)).1, (N6 q (.tail _ hq)).2⟩
      · obtain rfl : i = K := Nat.le_antisymm hi (Nat.not_lt.mp hlt)
        have hK' : (i = n₀ ∧ fin = true) ∨ (i < n₀ ∧ i = 4) := hK.imp (fun q => ⟨q.1, q.2.1⟩) id
        refine pyNext_zip_end hG' hK' hh hroom hl hszC hlC (Nat.lt_succ_self C) hCr (by omega) hCC hB' hZ' fun h2 tk2 g2 hk2 hB2 => ?_
        dsimp only at hk2
        have F2 := upF h2 fun b o hb e => hk2 b o (by omega) (by omega) e
        have N2 := upN h2 fun b o hb e => hk2 b o (by omega) (by omega) e
        have hn2 : h2.Ns (D + 1) m' := hn'.at' fun o e => hk2 _ o (by omega) (by omega) e
        show wpAny _ A (assign (.Name y py) env (.ref D)) _ _ _
        refine wpAny_assign_Name (wpAny_storeName_local hy F2.ns (fun h3 hn3 hs3 => ?_) hp)
        replace hs3 : Heap.SameBut env.locals h2 h3 := hs3
        have F3 := Fr.set F2 hn3 hs3
        have N3 := News.set N2 hs3
        have hCL : (D + 1 : Nat) ≠ env.locals := Nat.ne_of_gt (Nat.lt_trans hLC (by omega : C < D + 1))
        refine ⟨m', hn2.sameBut hs3 hCL, fun h4 hs4 => hQ D ys h4 _ g2 (F3.change hs4 hCL (fresh₀ _ (by omega))) (fun q hq => ⟨hs4.extBut _ _ ?_ (N3 q hq).1, (N3 q hq).2⟩) hnD hys hB2⟩
        rcases List.mem_cons.mp hq with rfl | hq
        · exact Nat.ne_of_lt (Nat.lt_succ_self _)
        · exact Nat.ne_of_lt (Nat.lt_succ_of_lt (hnD q hq))
    · rcases List.mem_cons.mp hq with rfl | hq
      · exact ⟨hacc, Nat.ne_of_gt (Nat.lt_trans hLC (by omega : C < D)), fresh₀ _ (by omega)⟩
      · exact ⟨old _ _ (N q hq).1, (N q hq).2⟩
  rw [hD]
  exact codeAny_compStart_list (loop _ rfl) (wpAny_pyIter_zip (old _ _ hZ.hz) (loop _ rfl))
end
end Mine
namespace Mine

section
variable {prog : Program} {w : World} {A : Around} {E : Value → Shared → Prop} {R : Result → Shared → Prop} {s : Shared}
theorem comp_start1 {elt t0 i0 t1 i1 test : Expr} {scope : Scope} {pos : Pos} {it acc : Value} {env : Env}
    (h0 : codeAny (model prog w) A (.compLoop (.ListComp elt [⟨t0, i0, [], 0⟩, ⟨t1, i1, [test], 0⟩] scope pos) 1 it acc env) R s)
    (h : wpAny (model prog w) A (pyIter it) (fun it' s' => codeAny (model prog w) A (.compLoop (.ListComp elt [⟨t0, i0, [], 0⟩, ⟨t1, i1, [test], 0⟩] scope pos) 1 it' acc env) R s') noE s) :
    codeAny (model prog w) A (.compStart (.ListComp elt [⟨t0, i0, [], 0⟩, ⟨t1, i1, [test], 0⟩] scope pos) 1 it acc env) R s := by
  refine codeAny_of_tree ?_
  show wpAny _ _ ((compStart (.ListComp elt [⟨t0, i0, [], 0⟩, ⟨t1, i1, [test], 0⟩] scope pos) 1 it acc env).onRaise (fun x => do noteFrame x env; standAt theWindowsPlace)) _ _ s
  refine wpAny_notedAt ?_
  unfold compStart
  show wpAny _ _ (ask >>= _) _ _ s
  refine wpAny_bind (wpAny_askSetting (wpAny_ite ?_))
  split
  · first
      | exact wpAny_bind (wpAny_pure (wpAny_pure (And.intro rfl h0)))
      | exact wpAny_pure (And.intro rfl h0)
  · first
      | exact wpAny_bind (wpAny_rule (wpAny_bind (wpAny_standAt (wpAny_bind (wpAny_mono h (fun it' s' h' => wpAny_pure (And.intro rfl h')) fun _ _ x => x.elim)))))
      | (refine wpAny_bind (wpAny_rule ?_); show wpAny _ _ (standAt i1.pos >>= _) _ _ s; exact wpAny_bind (wpAny_standAt (wpAny_bind (wpAny_mono h (fun it' s' h' => wpAny_pure (And.intro rfl h')) fun _ _ x => x.elim))))

theorem comp_inner {elt t0 i0 i1 test : Expr} {x : Str} {px : Pos} {scope : Scope} {pos : Pos} {it acc : Value} {env : Env} (I : Nat → Shared → Prop)
    (turn : ∀ n s, I n s → wpAny (model prog w) A (pyNext it) (fun r s₁ => match r with
      | none => R (.ok .next) s₁
      | some v => wpAny (model prog w) A (assign (.Name x px) env v) (fun _ s₂ => wpAny (model prog w) A (isTrue test env (eval test env)) (fun ok s₃ =>
          if ok = true then wpAny (model prog w) A (eval elt env) (fun x s₄ => wpAny (model prog w) A (call (.builtin "list.append") [acc, x]) (fun _ s₅ => ∃ m, m < n ∧ I m s₅) noE s₄) noE s₃ else ∃ m, m < n ∧ I m s₃) noE s₂) noE s₁) noE s)
    (n : Nat) (h : I n s) : codeAny (model prog w) A (.compLoop (.ListComp elt [⟨t0, i0, [], 0⟩, ⟨.Name x px, i1, [test], 0⟩] scope pos) 1 it acc env) R s := by
  refine codeAny_loop rfl I (fun n s hI => ?_) n h
  show wpAny _ A ((compTurn (.ListComp elt [⟨t0, i0, [], 0⟩, ⟨.Name x px, i1, [test], 0⟩] scope pos) 1 it acc env).onRaise (fun x => do noteFrame x env; theTreesLotGoes x)) _ _ s
  refine wpAny_noted ?_
  have e : compTurn (.ListComp elt [⟨t0, i0, [], 0⟩, ⟨.Name x px, i1, [test], 0⟩] scope pos) 1 it acc env = (do
      standAt i1.pos
      match ← pyNext it with
      | none => pure (.done .next)
      | some v =>
        letOwnedTupleGo (.Name x px) it v
        assign (.Name x px) env v
        let mut ok := true
        for c in [test] do
          if ok then ok ← isTrue c env (eval c env)
        if ok then
          (do let _ ← call (.builtin "list.append") [acc, ← eval elt env])
        again (.compLoop (.ListComp elt [⟨t0, i0, [], 0⟩, ⟨.Name x px, i1, [test], 0⟩] scope pos) 1 it acc env)) := by rfl
  rw [e]
  refine wpAny_bind (wpAny_standAt (wpAny_bind (wpAny_mono (turn n s hI) (fun r s₁ h₁ => ?_) fun _ _ e => e.elim)))
  cases r with
  | none => exact wpAny_pure h₁
  | some v =>
    refine wpAny_bind (wpAny_of_eq (rfl : letOwnedTupleGo (.Name x px) it v = pure ()) ?_)
    refine wpAny_bind (wpAny_mono h₁ (fun _ s₂ h₂ => ?_) fun _ _ e => e.elim)
    refine wpAny_bind (wpAny_tests_one (wpAny_mono h₂ (fun ok s₃ h₃ => ?_) fun _ _ e => e.elim))
    cases ok with
    | false => exact wpAny_pure ⟨rfl, h₃⟩
    | true =>
      exact wpAny_bind (wpAny_bind (wpAny_mono h₃ (fun x s₄ h₄ => wpAny_bind (wpAny_mono h₄ (fun _ s₅ h₅ => wpAny_pure (wpAny_pure ⟨rfl, h₅⟩)) fun _ _ e => e.elim)) fun _ _ e => e.elim))

theorem comp_outer {elt i0 t1 i1 test : Expr} {x : Str} {px : Pos} {scope : Scope} {pos : Pos} {it acc : Value} {env : Env} (I : Nat → Shared → Prop)
    (hs1 : ∀ x, foldedSetIterable i1 env x = pure x)
    (turn : ∀ n s, I n s → wpAny (model prog w) A (pyNext it) (fun r s₁ => match r with
      | none => R (.ok .next) s₁
      | some v => wpAny (model prog w) A (assign (.Name x px) env v) (fun _ s₂ => wpAny (model prog w) A (eval i1 env) (fun xv s₃ => wpAny (model prog w) A (pyIter xv) (fun it' s₄ =>
          codeAny (model prog w) A (.compStart (.ListComp elt [⟨.Name x px, i0, [], 0⟩, ⟨t1, i1, [test], 0⟩] scope pos) 1 it' acc env) (fun r s₅ => r = .ok .next ∧ ∃ m, m < n ∧ I m s₅) s₄) noE s₃) noE s₂) noE s₁) noE s)
    (n : Nat) (h : I n s) : codeAny (model prog w) A (.compLoop (.ListComp elt [⟨.Name x px, i0, [], 0⟩, ⟨t1, i1, [test], 0⟩] scope pos) 0 it acc env) R s := by
  refine codeAny_loop rfl I (fun n s hI => ?_) n h
  show wpAny _ A ((compTurn (.ListComp elt [⟨.Name x px, i0, [], 0⟩, ⟨t1, i1, [test], 0⟩] scope pos) 0 it acc env).onRaise (fun x => do noteFrame x env; theTreesLotGoes x)) _ _ s
  refine wpAny_noted ?_
  have e : compTurn (.ListComp elt [⟨.Name x px, i0, [], 0⟩, ⟨t1, i1, [test], 0⟩] scope pos) 0 it acc env = (do
      standAt i0.pos
      match ← pyNext it with
      | none => pure (.done .next)
      | some v =>
        letOwnedTupleGo (.Name x px) it v
        assign (.Name x px) env v
        let mut ok := true
        for c in ([] : List Expr) do
          if ok then ok ← isTrue c env (eval c env)
        if ok then
          let xa ← eval i1 env
          standAt i1.pos
          let xb ← foldedSetIterable i1 env xa
          let _ ← runOwn (.compStart (.ListComp elt [⟨.Name x px, i0, [], 0⟩, ⟨t1, i1, [test], 0⟩] scope pos) 1 (← holding [xb] (pyIter xb)) acc env) env
        again (.compLoop (.ListComp elt [⟨.Name x px, i0, [], 0⟩, ⟨t1, i1, [test], 0⟩] scope pos) 0 it acc env)) := by rfl
  rw [e]
  refine wpAny_bind (wpAny_standAt (wpAny_bind (wpAny_mono (turn n s hI) (fun r s₁ h₁ => ?_) fun _ _ e => e.elim)))
  cases r with
  | none => exact wpAny_pure h₁
  | some v =>
    refine wpAny_bind (wpAny_of_eq (rfl : letOwnedTupleGo (.Name x px) it v = pure ()) ?_)
    refine wpAny_bind (wpAny_mono h₁ (fun _ s₂ h₂ => ?_) fun _ _ e => e.elim)
    refine wpAny_bind (wpAny_tests_nil ?_)
    show wpAny _ A (eval i1 env >>= _) _ _ _
    refine wpAny_bind (wpAny_mono h₂ (fun xv s₃ h₃ => ?_) fun _ _ e => e.elim)
    refine wpAny_bind (wpAny_standAt (wpAny_bind (wpAny_of_eq (hs1 xv) (wpAny_bind (wpAny_holding (wpAny_mono h₃ (fun it' s₄ h₄ => ?_) fun _ _ e => e.elim))))))
    refine wpAny_bind (wpAny_runOwn (codeAny_mono h₄ fun r s₅ h₅ => ?_))
    obtain ⟨rfl, h₅⟩ := h₅
    exact wpAny_pure ⟨rfl, h₅⟩
end
end Mine
namespace Mine
/-- a list of lists of ints, borne by a ledger -/
inductive WordsIn (nw : List (Addr × Obj)) : List Value → List (List Int) → Prop
  | nil : WordsIn nw [] []
  | cons {a : Addr} {vw : List Value} {w : List Int} {vs : List Value} {ws : List (List Int)} : (a, listOf vw.toArray 0) ∈ nw → IntsAre vw w → WordsIn nw vs ws → WordsIn nw (.ref a :: vs) (w :: ws)
theorem WordsIn.mono {nw nw' : List (Addr × Obj)} {vs : List Value} {ws : List (List Int)} (h : WordsIn nw vs ws) (hs : ∀ q ∈ nw, q ∈ nw') : WordsIn nw' vs ws := by
  induction h with
  | nil => exact .nil
  | cons a b _ ih => exact .cons (hs _ a) b ih
theorem WordsIn.append {nw : List (Addr × Obj)} {vs vs' : List Value} {ws ws' : List (List Int)} (h : WordsIn nw vs ws) (h' : WordsIn nw vs' ws') : WordsIn nw (vs ++ vs') (ws ++ ws') := by
  induction h with
  | nil => exact h'
  | cons a b _ ih => exact .cons a b ih
theorem WordsIn.len {nw : List (Addr × Obj)} {vs : List Value} {ws : List (List Int)} (h : WordsIn nw vs ws) : vs.length = ws.length := by
  induction h with
  | nil => rfl
  | cons a b _ ih => simp [ih]
theorem WordsIn.get {nw : List (Addr × Obj)} {vs : List Value} {ws : List (List Int)} (h : WordsIn nw vs ws) : ∀ {i : Nat} {v : Value}, vs[i]? = some v → ∃ a vw w, v = .ref a ∧ ws[i]? = some w ∧ (a, listOf vw.toArray 0) ∈ nw ∧ IntsAre vw w := by
  induction h with
  | nil => intro i v hv; simp at hv
  | cons a b _ ih =>
    intro i v hv
    cases i with
    | zero => obtain rfl := Option.some.inj hv; exact ⟨_, _, _, rfl, rfl, a, b⟩
    | succ i => exact ih hv

noncomputable def nextP (p : List Int → Int → Bool) (n : Nat) (w : List Int) : List (List Int) := ((rangeL 0 n).filter (p w)).map fun k => w ++ [k]
noncomputable def stepP (p : List Int → Int → Bool) (n : Nat) (ws : List (List Int)) : List (List Int) := ws.flatMap (nextP p n)
theorem stepP_snoc (p : List Int → Int → Bool) (n : Nat) (ws : List (List Int)) (w : List Int) : stepP p n (ws ++ [w]) = stepP p n ws ++ nextP p n w := by simp [stepP, List.flatMap_append]
/-- the first k letters tried -/
noncomputable def nextTo (p : List Int → Int → Bool) (n k : Nat) (w : List Int) : List (List Int) := (((rangeL 0 n).take k).filter (p w)).map fun k => w ++ [k]
theorem nextTo_all (p : List Int → Int → Bool) (n : Nat) (w : List Int) : nextTo p n n w = nextP p n w := by
  unfold nextTo nextP
  rw [List.take_of_length_le (by rw [rangeL_len]; exact Nat.le_refl _)]
theorem nextTo_succ {p : List Int → Int → Bool} {n k : Nat} {w : List Int} (h : k < n) : nextTo p n (k + 1) w = nextTo p n k w ++ (if p w k = true then [w ++ [(k : Int)]] else []) := by
  unfold nextTo
  rw [Mine.take_snoc (show (rangeL 0 n)[k]? = some (k : Int) by rw [rangeL_get n k 0 h]; simp), List.filter_append, List.map_append]
  cases hp : p w k <;> simp [hp]

theorem stepP_len (p : List Int → Int → Bool) (n : Nat) : ∀ ws : List (List Int), (stepP p n ws).length ≤ ws.length * n
  | [] => by simp [stepP]
  | w :: r => by
    have h := stepP_len p n r
    have h1 : (nextP p n w).length ≤ n := by
      unfold nextP
      rw [List.length_map]
      have := List.length_filter_le (p w) (rangeL 0 n)
      rwa [rangeL_len] at this
    have e : stepP p n (w :: r) = nextP p n w ++ stepP p n r := by simp [stepP]
    rw [e, List.length_append, List.length_cons, Nat.succ_mul]
    omega
section
variable {prog : Program} {w : World} {A : Around} {E : Value → Shared → Prop} {s : Shared} {h₀ : Heap} {m : Str → Option Value} {env : Env}
theorem Assign_comp_any {elt : Expr} {g : Comprehension} {gs : List Comprehension} {y : Str} {py pos spos : Pos} {scope : Scope} {cl : List (Str × Addr)} {Q : Flow → Shared → Prop}
    (hsw : swapsWith (.ListComp elt (g :: gs) scope pos) (some (.Name y py)) spos.line env = pure true)
    (hs : ∀ x, foldedSetIterable g.iter env x = pure x) (hclos : closureFor scope env = pure cl) (hkind : scope.kind = .function) (hnames : ∀ x ∈ scope.names, x.2 = .local → scope.names.lookup x.1 = some .local)
    (has : g.is_async = 0)
    (h : wpAny (model prog w) A (eval g.iter env) (fun x s₁ => wpAny (model prog w) A (pyIter x) (fun it s₂ => wpAny (model prog w) A (newList []) (fun acc s₃ => wpAny (model prog w) A (newFunctionEnv scope env.globals cl [] env.qual none .none (some env)) (fun cenv s₄ =>
      codeAny (model prog w) A (.compStart (.ListComp elt (g :: gs) scope pos) 0 it acc { cenv with scope := relabel scope env }) (compPost (model prog w) A E (some (assign (.Name y py) env)) (fun _ s' => Q .next s') acc cenv.locals) s₄) E s₃) E s₂) E s₁) E s) :
    wpAny (model prog w) A (exec (.Assign [.Name y py] (.ListComp elt (g :: gs) scope pos) spos) env) Q E s := by
  rw [exec_Assign_Name_used _ _ _ _ hsw]
  refine wpAny_bind (wpAny_standAt (wpAny_bind ?_))
  obtain ⟨gt, gi, gf, ga⟩ := g
  obtain rfl : ga = 0 := has
  show wpAny _ A (do let _ ← comprehension (.ListComp elt (⟨gt, gi, gf, 0⟩ :: gs) scope pos) scope env _ (newList []) false (eval gi env) (some (assign (.Name y py) env))) _ _ s
  exact wpAny_bind (wpAny_mono (wpAny_comprehension_free (use := some (assign (.Name y py) env)) (Q := fun _ s' => Q .next s') rfl hs hclos hkind hnames h) (fun _ s' hq => wpAny_pure (wpAny_pure hq)) fun _ _ e => e)

theorem fr_ns {h₀ h h' : Heap} {L : Addr} {m : Str → Option Value} (F : Fr h₀ L h m) (hL : ∀ o, h.get? L = some o → h'.get? L = some o) (h0 : ∀ b o, h₀.get? b = some o → h.get? b = some o → h'.get? b = some o) : Fr h₀ L h' m :=
  ⟨F.ns.at' fun o e => hL o e, fun b o e => h0 b o e (F.keep b o e), F.above⟩

/-- [elt for x in words for y in range(nK) if test], stored under a name -/
theorem Assign_comp_words {elt i0 i1 test : Expr} {x y z : Str} {px py pz pos spos : Pos} {scope : Scope} {cl : List (Str × Addr)} {Q : Flow → Shared → Prop} {base : List (Addr × Obj)} {Wd : Addr} {vs : List Value} {ws : List (List Int)} {ep nK : Nat} (p : List Int → Int → Bool)
    (hxy : x ≠ y) (hh : A.handled = none) (hnK : nK ≤ 1000) (hvl : vs.length ≤ 1000)
    (hsw : swapsWith (.ListComp elt [⟨.Name x px, i0, [], 0⟩, ⟨.Name y py, i1, [test], 0⟩] scope pos) (some (.Name z pz)) spos.line env = pure true)
    (hs0 : ∀ v, foldedSetIterable i0 env v = pure v) (hs1 : ∀ C v, foldedSetIterable i1 (compEnvC scope cl C env) v = pure v) (hclos : closureFor scope env = pure cl) (hcell : ∀ q ∈ scope.names, q.2 ≠ .cell) (hkind : scope.kind = .function)
    (hnames : ∀ q ∈ scope.names, q.2 = .local → scope.names.lookup q.1 = some .local) (hx : scope.names.lookup x = some .local) (hy : scope.names.lookup y = some .local)
    (hz : env.kindOf z = some .local) (hp : (env.scope.kind == .class || (env.scope.kind == .module && env.locals != env.globals)) = false)
    (F : Fr h₀ env.locals s.heap m) (N : News h₀ env.locals s.heap base) (hW : (Wd, listOf vs.toArray ep) ∈ base) (hws : WordsIn base vs ws) (hwl : ∀ w ∈ ws, w.length ≤ 100)
    (hi0 : ∀ (Q' : Value → Shared → Prop), Q' (.ref Wd) s → wpAny (model prog w) A (eval i0 env) Q' E s)
    (hi1 : ∀ (wd : List Int) (a : Addr) (vw : List Value) I0 oI0 CC oC D ys rest m₂ h tk (E' : Value → Shared → Prop) (Q' : Value → Shared → Prop), wd ∈ ws → (a, listOf vw.toArray 0) ∈ base → IntsAre vw wd → LCg.NsObj oC m₂ → m₂ x = some (.ref a) → Fr h₀ env.locals h m → (∀ q ∈ base, q ∈ rest) →
      News h₀ env.locals h ((I0, oI0) :: (CC, oC) :: (D, LCg.lst ys) :: rest) →
      (∀ RR t u v h' tk', Fr h₀ env.locals h' m → News h₀ env.locals h' ((RR, rangeO 0 nK t u v) :: (I0, oI0) :: (CC, oC) :: (D, LCg.lst ys) :: rest) → Q' (.ref RR) { s with heap := h', toks := tk' }) →
      wpAny (model prog w) A (eval i1 (compEnvC scope cl CC env)) Q' E' { s with heap := h, toks := tk })
    (htest : ∀ (wd : List Int) (k : Nat) (a : Addr) (vw : List Value) t I1 oI1 I0 oI0 CC oC D ys rest m₂ h tk (E' : Value → Shared → Prop) (Q' : Bool → Shared → Prop), wd ∈ ws → k < nK → (a, listOf vw.toArray 0) ∈ base → IntsAre vw wd → LCg.NsObj oC m₂ → m₂ x = some (.ref a) → m₂ y = some (.int k t) → Fr h₀ env.locals h m → (∀ q ∈ base, q ∈ rest) →
      News h₀ env.locals h ((I1, oI1) :: (I0, oI0) :: (CC, oC) :: (D, LCg.lst ys) :: rest) → (∀ tk', Q' (p wd k) { s with heap := h, toks := tk' }) →
      wpAny (model prog w) A (isTrue test (compEnvC scope cl CC env) (eval test (compEnvC scope cl CC env))) Q' E' { s with heap := h, toks := tk })
    (helt : ∀ (wd : List Int) (k : Nat) (a : Addr) (vw : List Value) t I1 oI1 I0 oI0 CC oC D ys rest m₂ h tk (E' : Value → Shared → Prop) (Q' : Value → Shared → Prop), wd ∈ ws → k < nK → (a, listOf vw.toArray 0) ∈ base → IntsAre vw wd → LCg.NsObj oC m₂ → m₂ x = some (.ref a) → m₂ y = some (.int k t) → Fr h₀ env.locals h m → (∀ q ∈ base, q ∈ rest) →
      News h₀ env.locals h ((I1, oI1) :: (I0, oI0) :: (CC, oC) :: (D, LCg.lst ys) :: rest) →
      (∀ T us h' tk', Fr h₀ env.locals h' m → News h₀ env.locals h' ((T, listOf (List.toArray us) 0) :: (I1, oI1) :: (I0, oI0) :: (CC, oC) :: (D, LCg.lst ys) :: rest) → @LT.lt Nat _ I1 T → @LT.lt Nat _ D T → IntsAre us (wd ++ [(k : Int)]) → Q' (.ref T) { s with heap := h', toks := tk' }) →
      wpAny (model prog w) A (eval elt (compEnvC scope cl CC env)) Q' E' { s with heap := h, toks := tk })
    (hQ : ∀ D ys nw h' tk', Fr h₀ env.locals h' (fun q => if q = z then some (.ref D) else m q) → News h₀ env.locals h' ((D, LCg.lst ys) :: (nw ++ base)) → WordsIn nw ys (stepP p nK ws) → (∀ q ∈ nw, @LE.le Nat _ s.heap.objs.size q.1) → @LE.le Nat _ s.heap.objs.size D → Q .next { s with heap := h', toks := tk' }) :
    wpAny (model prog w) A (exec (.Assign [.Name z pz] (.ListComp elt [⟨.Name x px, i0, [], 0⟩, ⟨.Name y py, i1, [test], 0⟩] scope pos) spos) env) Q E s := by
  k_with_none
  k_with "ar" => (first | with_reducible exact ar225 (by assumption) | with_reducible exact ar243 | with_reducible exact ar573 | with_reducible exact ar668 (by assumption) | with_reducible exact ar464 | with_reducible exact ar29 | with_reducible exact ar27 | with_reducible exact ar220 (by assumption) | with_reducible exact ar130 (by assumption) | with_reducible exact ar201 | with_reducible exact ar340 | with_reducible exact ar124 | with_reducible exact ar686 (by assumption) | with_reducible exact ar142 (by assumption) | with_reducible exact ar580 (by assumption) | with_reducible exact ar141 | with_reducible exact ar56 | with_reducible exact ar69 | with_reducible exact ar472 | with_reducible exact ar11 (by assumption) | with_reducible exact ar657 (by assumption) | with_reducible exact ar348 (by assumption) (by assumption) | with_reducible exact ar191 (by assumption) | with_reducible exact ar498 (by assumption) | with_reducible exact ar652 (by assumption) | with_reducible exact ar244 (by assumption) | with_reducible exact ar675 (by assumption) | with_reducible exact ar505 (by assumption) | with_reducible exact ar430 (by assumption) | with_reducible exact ar579 (by assumption) | with_reducible exact ar517 | with_reducible exact ar259 | with_reducible exact ar381 (by assumption) | with_reducible exact ar411 (by assumption) (by assumption) (by assumption) | with_reducible exact ar286 (by assumption) (by assumption) | with_reducible exact ar265 (by assumption) (by assumption) (by assumption) | with_reducible exact ar588 (by assumption) | with_reducible exact ar229 (by assumption) (by assumption) | with_reducible exact ar111 (by assumption) | with_reducible exact ar34)
  refine Assign_comp_any hsw hs0 hclos hkind hnames rfl (hi0 _ ?_)
  have hls : s.heap.IsList Wd vs.toArray := News.isList N hW
  refine wpAny_pyIter_list hls ?_
  refine wpAny_newObj_type (wpAny_newFunctionEnv hcell (by intro y hy; simp at hy) (fun h₁ hns₁ hsb₁ => ?_) hkind)
  dsimp only at hns₁ hsb₁ ⊢
  obtain ⟨I0, hI0⟩ : ∃ n, s.heap.objs.size = n := ⟨_, rfl⟩
  obtain ⟨H1, hH1⟩ : ∃ H1, s.heap.push { cls := .type "list_iterator", data := .fields #[.ref Wd, .int 0 0] } = H1 := ⟨_, rfl⟩
  have hz1 : H1.objs.size = I0 + 1 := by rw [← hH1, Heap.size_push, hI0]
  rw [hH1] at hns₁ hsb₁ ⊢
  obtain ⟨H2, hH2⟩ : ∃ H2, H1.push { cls := .type "list", dict := none, data := .seq ([] : List Value).toArray } = H2 := ⟨_, rfl⟩
  have hz2 : H2.objs.size = I0 + 2 := by rw [← hH2, Heap.size_push, hz1]
  rw [hH2] at hns₁ hsb₁ ⊢
  rw [hz2] at hns₁ hsb₁ ⊢
  rw [hz1, hI0]
  replace hsb₁ : Heap.SameBut (I0 + 2) _ h₁ := hsb₁
  have lt0 : ∀ (b : Nat) o, s.heap.get? b = some o → @LT.lt Nat _ b I0 := fun b o e => hI0 ▸ Heap.lt_size e
  have k2 : ∀ (b : Nat) o, @LT.lt Nat _ b (I0 + 2) → H2.get? b = some o → h₁.get? b = some o := fun b o hb e => hsb₁.extBut b o (Nat.ne_of_lt hb) (Heap.get?_push_of_some _ e)
  have old : ∀ (b : Nat) o, s.heap.get? b = some o → h₁.get? b = some o := fun b o e => k2 b o (by have := lt0 b o e; omega) (by rw [← hH2, ← hH1]; exact Heap.get?_push_of_some _ (Heap.get?_push_of_some _ e))
  have hit₁ : h₁.get? I0 = some { cls := .type "list_iterator", data := .fields #[.ref Wd, .int 0 0] } := k2 _ _ (by omega) (by rw [← hH2, ← hH1, ← hI0]; exact Heap.get?_push_of_some _ (Heap.get?_push_size _ rfl))
  have hacc : h₁.get? (I0 + 1) = some (LCg.lst []) := k2 _ _ (by omega) (by rw [← hH2, ← hz1]; exact Heap.get?_push_size _ rfl)
  have hLI : @LT.lt Nat _ env.locals I0 := hI0 ▸ F.ns.lt
  have hbI : ∀ q ∈ base, @LT.lt Nat _ q.1 I0 := fun q hq => lt0 _ _ (N q hq).1
  have fresh : ∀ b : Nat, I0 ≤ b → h₀.get? b = none := fun b hb => Heap.get?_none_of_le (Nat.le_trans F.above (Nat.le_trans (Nat.le_of_lt hLI) hb))
  have hWI : Wd ≠ I0 := Nat.ne_of_lt (hbI _ hW)
  have hLC : (I0 + 2 : Nat) ≠ env.locals := Nat.ne_of_gt (by omega)
  have hLD : (I0 + 1 : Nat) ≠ env.locals := Nat.ne_of_gt (by omega)
  have hIL : (I0 : Nat) ≠ env.locals := Nat.ne_of_gt hLI
  have hk : (I0 + 2 : Nat) ≠ I0 + 1 := by omega
  have hsc : (compEnvC scope cl (I0 + 2) env).scope.kind = .function := hkind
  have hpc : ((compEnvC scope cl (I0 + 2) env).scope.kind == .class || ((compEnvC scope cl (I0 + 2) env).scope.kind == .module && (compEnvC scope cl (I0 + 2) env).locals != (compEnvC scope cl (I0 + 2) env).globals)) = false := by rw [hsc]; rfl
  have W := Walks.list (prog := prog) (w := w) hh I0 Wd hWI vs.toArray
  have hvw := hws.len
  have loop : ∀ s₃ : Shared, s₃ = { s with heap := h₁, toks := s.toks + ([] : List (Str × Value)).length } →
      codeAny (model prog w) A (.compLoop (.ListComp elt [⟨.Name x px, i0, [], 0⟩, ⟨.Name y py, i1, [test], 0⟩] scope pos) 0 (.ref I0) (.ref (I0 + 1)) (compEnvC scope cl (I0 + 2) env))
        (compPost (model prog w) A E (some (assign (.Name z pz) env)) (fun _ s' => Q .next s') (.ref (I0 + 1)) (I0 + 2)) s₃ := by
    rintro s₃ rfl
    refine comp_outer (fun n s' => ∃ h' tk i ys nw m', s' = { s with heap := h', toks := tk } ∧ i ≤ vs.length ∧ n = vs.length + 1 - i ∧ h'.IsListIter I0 Wd i ∧ Fr h₀ env.locals h' m ∧ h'.Ns (I0 + 2) m' ∧
      News h₀ env.locals h' ((I0 + 1, LCg.lst ys) :: (nw ++ base)) ∧ WordsIn nw ys (stepP p nK (ws.take i)) ∧ ∀ q ∈ nw, @LT.lt Nat _ (I0 + 2) q.1) (hs1 _) ?_ (vs.length + 1)
      ⟨h₁, _, 0, [], [], _, rfl, Nat.zero_le _, rfl, ⟨_, hit₁, rfl, rfl⟩, F.keeps old, hns₁, fun q hq => ?_, .nil, fun q hq => by cases hq⟩
    · rintro n s' ⟨h', tk, i, ys, nw, m', rfl, hi, rfl, hit', F', hn', N', hw', hnw⟩
      have hW' : h'.IsList Wd vs.toArray := News.isList N' (.tail _ (List.mem_append.mpr (.inr hW)))
      by_cases hlt : i < vs.length
      · refine W.item i _ _ _ (by simpa using hlt) ⟨hit', hW'⟩ fun v h2 tk2 hv hst2 hk2 => ?_
        obtain ⟨a, vw, wd, rfl, hwd, haD, hiw⟩ := hws.get (by simpa using hv)
        have hwm := List.mem_of_getElem? hwd
        have k2 : ∀ (b : Nat) o, b ≠ I0 → h'.get? b = some o → h2.get? b = some o := fun b o hb e => hk2 b o (by simpa using hb) e
        refine wpAny_assign_Name (wpAny_storeName_local (lookup_relabel_local hx) (hn'.at' fun o e => k2 _ o (by omega) e) (fun h3 hn3 hs3 => ?_) hpc)
        replace hs3 : Heap.SameBut (I0 + 2) h2 h3 := hs3
        have k3 : ∀ (b : Nat) o, b ≠ I0 + 2 → h2.get? b = some o → h3.get? b = some o := fun b o hb e => hs3.extBut b o hb e
        have k13 : ∀ (b : Nat) o, b ≠ I0 → b ≠ I0 + 2 → h'.get? b = some o → h3.get? b = some o := fun b o hb hb2 e => k3 b o hb2 (k2 b o hb e)
        obtain ⟨oI, hoI, hcI, hdI⟩ := hst2.1
        have hoI3 : h3.get? I0 = some oI := k3 _ _ (by omega) hoI
        obtain ⟨oC, heC, hoC⟩ := LCg.ns_obj hn3
        have lowF : ∀ (b : Nat) o, h₀.get? b = some o → @LT.lt Nat _ b I0 := fun b o e => Nat.lt_of_lt_of_le (Heap.lt_size e) (Nat.le_trans F.above (Nat.le_of_lt hLI))
        have F3 : Fr h₀ env.locals h3 m := fr_ns F' (fun o e => k13 _ o (Ne.symm hIL) (Ne.symm hLC) e) (fun b o e0 e => k13 b o (by have := lowF b o e0; omega) (by have := lowF b o e0; omega) e)
        have N3 : News h₀ env.locals h3 ((I0, oI) :: (I0 + 2, oC) :: (I0 + 1, LCg.lst ys) :: (nw ++ base)) := by
          intro q hq
          rcases List.mem_cons.mp hq with rfl | hq
          · exact ⟨hoI3, hIL, fresh _ (Nat.le_refl _)⟩
          · rcases List.mem_cons.mp hq with rfl | hq
            · exact ⟨heC, hLC, fresh _ (by omega)⟩
            · have zz := N' q hq
              refine ⟨?_, zz.2⟩
              rcases List.mem_cons.mp hq with rfl | hq
              · exact k13 (I0 + 1) _ (by omega) (by omega) zz.1
              · rcases List.mem_append.mp hq with hq | hq
                · have := hnw q hq; exact k13 q.1 _ (by omega) (by omega) zz.1
                · have := hbI q hq; exact k13 q.1 _ (by omega) (by omega) zz.1
        refine hi1 wd a vw I0 oI (I0 + 2) oC (I0 + 1) ys (nw ++ base) _ h3 _ _ _ hwm haD hiw hoC (by simp) F3 (fun q hq => List.mem_append.mpr (.inr hq)) N3 fun RR t u v' h4 tk4 F4 N4 => ?_
        have hr : IsRange h4 RR 0 nK 1 t u v' := (N4 _ (.head _)).1
        have hrn : Builtin.Range.rangeSize 0 nK 1 = (nK : Int) := by
          rw [rangeSize_one]; split <;> omega
        refine wpAny_pyIter_range hr (small_one (by omega) (by omega) (by omega) (by omega)) ?_
        rw [hrn]
        obtain ⟨I1, hI1⟩ : ∃ n, h4.objs.size = n := ⟨_, rfl⟩
        obtain ⟨h5, hh5⟩ : ∃ h5, h4.push { cls := .type "range_iterator", data := .fields #[rawInt 0, rawInt nK, rawInt 1] } = h5 := ⟨_, rfl⟩
        have hit5 : IsRangeIter h5 I1 (0 + ((0 : Nat) : Int) * 1) ((nK : Int) - (0 : Nat)) 1 := by
          rw [← hh5, ← hI1]
          simpa using Heap.get?_push_size h4 (o := { cls := .type "range_iterator", data := .fields #[rawInt 0, rawInt nK, rawInt 1] }) rfl
        have k5 : ∀ (b : Nat) o, h4.get? b = some o → h5.get? b = some o := fun b o e => hh5 ▸ Heap.get?_push_of_some _ e
        have lt4 : ∀ (b : Nat) o, h4.get? b = some o → @LT.lt Nat _ b I1 := fun b o e => hI1 ▸ Heap.lt_size e
        dsimp only
        rw [hI1, hh5]
        have z4 : ∀ q ∈ (I0, oI) :: (I0 + 2, oC) :: (I0 + 1, LCg.lst ys) :: (nw ++ base), h5.get? q.1 = some q.2 ∧ @LT.lt Nat _ q.1 I1 := fun q hq => ⟨k5 _ _ (N4 q (.tail _ hq)).1, lt4 _ _ (N4 q (.tail _ hq)).1⟩
        have hC1 : I0 + 2 < I1 := (z4 _ (.tail _ (.head _))).2
        have W1 := LCg.range_walks (prog := prog) (w := w) (I := I1) hh 0 nK
        have loop1 : codeAny (model prog w) A (.compLoop (.ListComp elt [⟨.Name x px, i0, [], 0⟩, ⟨.Name y py, i1, [test], 0⟩] scope pos) 1 (.ref I1) (.ref (I0 + 1)) (compEnvC scope cl (I0 + 2) env))
            (fun r s₅ => r = .ok .next ∧ ∃ m_1, m_1 < vs.length + 1 - i ∧ ∃ h' tk i ys nw m', s₅ = { s with heap := h', toks := tk } ∧ i ≤ vs.length ∧ m_1 = vs.length + 1 - i ∧ h'.IsListIter I0 Wd i ∧ Fr h₀ env.locals h' m ∧ h'.Ns (I0 + 2) m' ∧
              News h₀ env.locals h' ((I0 + 1, LCg.lst ys) :: (nw ++ base)) ∧ WordsIn nw ys (stepP p nK (ws.take i)) ∧ ∀ q ∈ nw, @LT.lt Nat _ (I0 + 2) q.1) { s with heap := h5, toks := tk4 } := by
          refine comp_inner (fun n s' => ∃ h' tk k ys nw m', s' = { s with heap := h', toks := tk } ∧ k ≤ nK ∧ n = nK + 1 - k ∧ IsRangeIter h' I1 (0 + ((k : Nat) : Int) * 1) ((nK : Int) - (k : Nat)) 1 ∧ Fr h₀ env.locals h' m ∧ h'.Ns (I0 + 2) m' ∧ m' x = some (.ref a) ∧ h'.get? I0 = some oI ∧
            News h₀ env.locals h' ((I0 + 1, LCg.lst ys) :: (nw ++ base)) ∧ WordsIn nw ys (stepP p nK (ws.take i) ++ nextTo p nK k wd) ∧ ys.length ≤ 1000000 + k ∧ ∀ q ∈ nw, @LT.lt Nat _ (I0 + 2) q.1 ∧ @Ne Nat q.1 I1) ?_ (nK + 1)
            ⟨h5, tk4, 0, ys, nw, _, rfl, Nat.zero_le _, rfl, hit5, F4.keeps k5, hoC.ns (z4 _ (.tail _ (.head _))).1, by simp, (z4 _ (.head _)).1, fun q hq => ⟨(z4 q (.tail _ (.tail _ hq))).1, (N4 q (.tail _ (.tail _ (.tail _ hq)))).2⟩, ?_, ?_, fun q hq => ⟨hnw q hq, Nat.ne_of_lt (z4 q (.tail _ (.tail _ (.tail _ (List.mem_append.mpr (.inl hq)))))).2⟩⟩
          · rintro n' s' ⟨h6, tk6, k, ys6, nw6, m6, rfl, hk6, rfl, hit6, F6, hn6, hx6, hoI6, N6, hw6, hyl6, hnw6⟩
            have low6 : ∀ q ∈ (I0 + 1, LCg.lst ys6) :: (nw6 ++ base), @Ne Nat q.1 I1 ∧ @Ne Nat q.1 (I0 + 2) := fun q hq => by
              rcases List.mem_cons.mp hq with rfl | hq
              · exact ⟨(by omega : (I0 + 1 : Nat) ≠ I1), (by omega : (I0 + 1 : Nat) ≠ I0 + 2)⟩
              · rcases List.mem_append.mp hq with hq | hq
                · have := hnw6 q hq; exact ⟨this.2, by omega⟩
                · have := hbI q hq; exact ⟨by omega, by omega⟩
            by_cases hlt6 : k < nK
            · refine W1.item k _ _ _ hlt6 hit6 fun v h7 tk7 hv hst7 hk7 => ?_
              obtain ⟨tv, rfl⟩ := hv
              rw [Int.zero_add]
              have k7 : ∀ (b : Nat) o, b ≠ I1 → h6.get? b = some o → h7.get? b = some o := fun b o hb e => hk7 b o (by simpa using hb) e
              refine wpAny_assign_Name (wpAny_storeName_local (lookup_relabel_local hy) (hn6.at' fun o e => k7 (I0 + 2) o (by omega) e) (fun h8 hn8 hs8 => ?_) hpc)
              replace hs8 : Heap.SameBut (I0 + 2) h7 h8 := hs8
              have k8 : ∀ (b : Nat) o, b ≠ I0 + 2 → h7.get? b = some o → h8.get? b = some o := fun b o hb e => hs8.extBut b o hb e
              have k68 : ∀ (b : Nat) o, b ≠ I1 → b ≠ I0 + 2 → h6.get? b = some o → h8.get? b = some o := fun b o hb hb2 e => k8 b o hb2 (k7 b o hb e)
              have hst8 : IsRangeIter h8 I1 (0 + ((k + 1 : Nat) : Int) * 1) ((nK : Int) - (k + 1 : Nat)) 1 := k8 _ _ (by omega) hst7
              obtain ⟨oC8, heC8, hoC8⟩ := LCg.ns_obj hn8
              have hoI8 : h8.get? I0 = some oI := k68 _ _ (by omega) (by omega) hoI6
              have F8 : Fr h₀ env.locals h8 m := fr_ns F6 (fun o e => k68 _ o (Nat.ne_of_lt (Nat.lt_trans hLI (by omega))) (Ne.symm hLC) e) (fun b o e0 e => k68 b o (by have := lowF b o e0; omega) (by have := lowF b o e0; omega) e)
              have N8 : News h₀ env.locals h8 ((I0 + 1, LCg.lst ys6) :: (nw6 ++ base)) := fun q hq => ⟨k68 q.1 _ (low6 q hq).1 (low6 q hq).2 (N6 q hq).1, (N6 q hq).2⟩
              obtain ⟨o1, ho1, he1⟩ : ∃ o, h8.get? I1 = some o ∧ (∀ h' : Heap, h'.get? I1 = some o → IsRangeIter h' I1 (0 + ((k + 1 : Nat) : Int) * 1) ((nK : Int) - (k + 1 : Nat)) 1) := ⟨_, hst8, fun h' e => e⟩
              have N8' : News h₀ env.locals h8 ((I1, o1) :: (I0, oI) :: (I0 + 2, oC8) :: (I0 + 1, LCg.lst ys6) :: (nw6 ++ base)) := by
                intro q hq
                rcases List.mem_cons.mp hq with rfl | hq
                · exact ⟨ho1, Nat.ne_of_gt (Nat.lt_trans hLI (by omega)), fresh _ (by omega)⟩
                · rcases List.mem_cons.mp hq with rfl | hq
                  · exact ⟨hoI8, hIL, fresh _ (Nat.le_refl _)⟩
                  · rcases List.mem_cons.mp hq with rfl | hq
                    · exact ⟨heC8, hLC, fresh _ (by omega)⟩
                    · exact N8 q hq
              refine htest wd k a vw tv I1 o1 I0 oI (I0 + 2) oC8 (I0 + 1) ys6 (nw6 ++ base) _ h8 _ _ _ hwm hlt6 haD hiw hoC8 (by simp [hxy, hx6]) (by simp) F8 (fun q hq => List.mem_append.mpr (.inr hq)) N8' fun tk9 => ?_
              have hns := nextTo_succ (p := p) (w := wd) hlt6
              cases hpk : p wd k with
              | true =>
                rw [if_pos rfl]
                rw [hpk, if_pos rfl] at hns
                refine helt wd k a vw tv I1 o1 I0 oI (I0 + 2) oC8 (I0 + 1) ys6 (nw6 ++ base) _ h8 _ _ _ hwm hlt6 haD hiw hoC8 (by simp [hxy, hx6]) (by simp) F8 (fun q hq => List.mem_append.mpr (.inr hq)) N8' fun T us h9 tk9 F9 N9 hT1 hTD hus => ?_
                refine append_at (hsz := by show ys6.toArray.size ≤ sizeLine; rw [List.size_toArray, sizeLine_eq]; omega) (N9 _ (.tail _ (.tail _ (.tail _ (.tail _ (.head _)))))).1 fun h10 hs10 hD10 => ?_
                replace hs10 : Heap.SameBut (I0 + 1) h9 h10 := hs10
                have k10 : ∀ (b : Nat) o, b ≠ I0 + 1 → h9.get? b = some o → h10.get? b = some o := fun b o hb e => hs10.extBut b o hb e
                have z9 : ∀ q ∈ nw6 ++ base, @Ne Nat q.1 (I0 + 1) := fun q hq => by
                  rcases List.mem_append.mp hq with hq | hq
                  · have := hnw6 q hq; omega
                  · have := hbI q hq; omega
                refine ⟨nK + 1 - (k + 1), by omega, h10, tk9, k + 1, ys6 ++ [.ref T], (T, listOf us.toArray 0) :: nw6, _, rfl, hlt6, rfl, he1 _ (k10 _ _ (by omega) (N9 _ (.tail _ (.head _))).1), ?_, hoC8.ns (k10 _ _ (by omega) (N9 _ (.tail _ (.tail _ (.tail _ (.head _))))).1), by simp [hxy, hx6], k10 _ _ (by omega) (N9 _ (.tail _ (.tail _ (.head _)))).1, ?_, ?_, ?_, ?_⟩
                · exact fr_ns F9 (fun o e => k10 _ o (Ne.symm hLD) e) (fun b o e0 e => k10 b o (by have := lowF b o e0; omega) e)
                · intro q hq
                  rcases List.mem_cons.mp hq with rfl | hq
                  · exact ⟨hD10.trans (congrArg some (LCg.lst_snoc ys6 _)), hLD, fresh _ (by omega)⟩
                  · rcases List.mem_cons.mp hq with rfl | hq
                    · have zT := N9 _ (.head _)
                      exact ⟨k10 T _ (Nat.ne_of_gt hTD) zT.1, zT.2⟩
                    · have zq := N9 q (.tail _ (.tail _ (.tail _ (.tail _ (.tail _ hq)))))
                      exact ⟨k10 q.1 _ (z9 q hq) zq.1, zq.2⟩
                · rw [hns, ← List.append_assoc]
                  exact (hw6.mono fun q hq => .tail _ hq).append (.cons (.head _) hus .nil)
                · rw [List.length_append, List.length_singleton]; omega
                · intro q hq
                  rcases List.mem_cons.mp hq with rfl | hq
                  · exact ⟨Nat.lt_trans hC1 hT1, Nat.ne_of_gt hT1⟩
                  · exact hnw6 q hq
              | false =>
                rw [if_neg Bool.false_ne_true]
                rw [hpk, if_neg Bool.false_ne_true, List.append_nil] at hns
                exact ⟨nK + 1 - (k + 1), by omega, h8, tk9, k + 1, ys6, nw6, _, rfl, hlt6, rfl, hst8, F8, hn8, by simp [hxy, hx6], hoI8, N8, by rw [hns]; exact hw6, by omega, hnw6⟩
            · obtain rfl : k = nK := Nat.le_antisymm hk6 (Nat.not_lt.mp hlt6)
              refine W1.done _ _ _ hit6 fun h7 tk7 hk7 => ?_
              have k7 : ∀ (b : Nat) o, b ≠ I1 → h6.get? b = some o → h7.get? b = some o := fun b o hb e => hk7 b o (by simpa using hb) e
              rw [nextTo_all] at hw6
              have ews : ws.take (i + 1) = ws.take i ++ [wd] := by rw [List.take_add_one, hwd]; rfl
              refine ⟨rfl, vs.length + 1 - (i + 1), by omega, h7, tk7, i + 1, ys6, nw6, m6, rfl, hlt, rfl, ⟨oI, k7 _ _ (by omega) hoI6, hcI, hdI⟩, ?_, hn6.at' fun o e => k7 (I0 + 2) o (by omega) e, fun q hq => ⟨k7 q.1 _ (low6 q hq).1 (N6 q hq).1, (N6 q hq).2⟩, by rw [ews, stepP_snoc]; exact hw6, fun q hq => (hnw6 q hq).1⟩
              exact fr_ns F6 (fun o e => k7 _ o (Nat.ne_of_lt (Nat.lt_trans hLI (by omega))) e) (fun b o e0 e => k7 b o (by have := lowF b o e0; omega) e)
          · have e0 : nextTo p nK 0 wd = [] := by simp [nextTo]
            rw [e0, List.append_nil]
            exact hw'
          · have h1 := hw'.len
            have h2 := stepP_len p nK (ws.take i)
            have h3 : (ws.take i).length ≤ 1000 := by rw [List.length_take]; omega
            have h4 : (ws.take i).length * nK ≤ 1000 * 1000 := Nat.mul_le_mul h3 hnK
            omega
        exact comp_start1 loop1 (W1.self 0 _ _ _ hit5 loop1)
      · obtain rfl : i = vs.length := Nat.le_antisymm hi (Nat.not_lt.mp hlt)
        refine W.done _ _ _ (by simpa using ⟨hit', hW'⟩) fun h2 tk2 hk2 => ?_
        have k2 : ∀ (b : Nat) o, b ≠ I0 → h'.get? b = some o → h2.get? b = some o := fun b o hb e => hk2 b o (by simpa using hb) e
        have lowF : ∀ (b : Nat) o, h₀.get? b = some o → @LT.lt Nat _ b I0 := fun b o e => Nat.lt_of_lt_of_le (Heap.lt_size e) (Nat.le_trans F.above (Nat.le_of_lt hLI))
        have F2 : Fr h₀ env.locals h2 m := fr_ns F' (fun o e => k2 _ o (Ne.symm hIL) e) (fun b o e0 e => k2 b o (by have := lowF b o e0; omega) e)
        have low2 : ∀ q ∈ (I0 + 1, LCg.lst ys) :: (nw ++ base), @Ne Nat q.1 I0 ∧ @Ne Nat q.1 (I0 + 2) := fun q hq => by
          rcases List.mem_cons.mp hq with rfl | hq
          · exact ⟨(by omega : (I0 + 1 : Nat) ≠ I0), (by omega : (I0 + 1 : Nat) ≠ I0 + 2)⟩
          · rcases List.mem_append.mp hq with hq | hq
            · have := hnw q hq; exact ⟨by omega, by omega⟩
            · have := hbI q hq; exact ⟨by omega, by omega⟩
        have N2 : News h₀ env.locals h2 ((I0 + 1, LCg.lst ys) :: (nw ++ base)) := fun q hq => ⟨k2 q.1 _ (low2 q hq).1 (N' q hq).1, (N' q hq).2⟩
        have hn2 : h2.Ns (I0 + 2) m' := hn'.at' fun o e => k2 (I0 + 2) o (by omega) e
        show wpAny _ A (assign (.Name z pz) env (.ref (I0 + 1))) _ _ _
        refine wpAny_assign_Name (wpAny_storeName_local hz F2.ns (fun h3 hn3 hs3 => ?_) hp)
        replace hs3 : Heap.SameBut env.locals h2 h3 := hs3
        have F3 := Fr.set F2 hn3 hs3
        have N3 := News.set N2 hs3
        rw [List.take_of_length_le (by omega)] at hw'
        exact ⟨m', hn2.sameBut hs3 hLC, fun h4 hs4 => hQ (I0 + 1) ys nw h4 _ (F3.change hs4 hLC (fresh _ (by omega))) (fun q hq => ⟨hs4.extBut q.1 _ (low2 q hq).2 (N3 q hq).1, (N3 q hq).2⟩) hw' (fun q hq => by have := hnw q hq; omega) (by omega)⟩
    · rcases List.mem_cons.mp hq with rfl | hq
      · exact ⟨hacc, hLD, fresh _ (by omega)⟩
      · exact ⟨old _ _ (N q hq).1, (N q hq).2⟩
  exact codeAny_compStart_list (loop _ rfl) (W.self 0 _ _ _ ⟨⟨_, hit₁, rfl, rfl⟩, hls.at fun o e => old _ o e⟩ (loop _ rfl))
end
end Mine
namespace Mine

/-- may the letter follow upon the word? -/
noncomputable def mayP (rs w : List Int) (k : Int) : Bool := decide ((w.count k : Int) < rs.getD k.toNat 0)
noncomputable def wordsN (rs : List Int) : Nat → List (List Int)
  | 0 => [[]]
  | n + 1 => stepP (mayP rs) rs.length (wordsN rs n)
noncomputable def wordsL (rs : List Int) : List (List Int) := wordsN rs rs.sum.toNat
theorem wordsN_wl (rs : List Int) : ∀ n, ∀ w ∈ wordsN rs n, w.length = n
  | 0, w, hw => by rw [List.mem_singleton.mp hw]; rfl
  | n + 1, w, hw => by
    obtain ⟨v, hv, hw⟩ := List.mem_flatMap.mp hw
    obtain ⟨k, _, rfl⟩ := List.mem_map.mp hw
    rw [List.length_append, wordsN_wl rs n v hv]
    rfl
theorem wordsN_len (rs : List Int) (hrl : rs.length ≤ 3) : ∀ n, (wordsN rs n).length ≤ 3 ^ n
  | 0 => Nat.le_refl _
  | n + 1 => by
    have h1 := stepP_len (mayP rs) rs.length (wordsN rs n)
    have h2 := Nat.mul_le_mul (wordsN_len rs hrl n) hrl
    rw [wordsN, Nat.pow_succ]
    omega
theorem sum_nonneg : ∀ {l : List Int}, (∀ r ∈ l, 0 ≤ r) → 0 ≤ l.sum
  | [], _ => by decide
  | a :: r, h => by
    have h1 := h a (.head _)
    have h2 := sum_nonneg (l := r) fun x hx => h x (.tail _ hx)
    rw [List.sum_cons]
    omega
theorem words_sub0 {D W W0 c : Addr × Obj} {news : List (Addr × Obj)} : ∀ q ∈ [W, W0] ++ (D :: c :: news), q ∈ D :: W :: W0 :: c :: news := fun q hq => by
  simp only [List.cons_append, List.nil_append, List.mem_cons] at hq ⊢
  rcases hq with h | h | h | h | h
  · exact .inr (.inl h)
  · exact .inr (.inr (.inl h))
  · exact .inl h
  · exact .inr (.inr (.inr (.inl h)))
  · exact .inr (.inr (.inr (.inr h)))
theorem words_low {n W W0 : Nat} {o1 o2 : Obj} (h1 : n < W0) (h2 : n < W) : ∀ q ∈ [((W : Addr), o1), ((W0 : Addr), o2)], @LT.lt Nat _ n q.1 := fun q hq => by
  simp only [List.mem_cons, List.not_mem_nil, or_false] at hq
  rcases hq with rfl | rfl
  · exact h2
  · exact h1
theorem words_back {D2 : Addr × Obj} {nw cur fx own r9 : List (Addr × Obj)} (h : cur ++ fx ++ own = r9) : ∀ q ∈ (D2 :: nw) ++ fx ++ own, q ∈ D2 :: (nw ++ r9) := fun q hq => by
  subst h
  simp only [List.cons_append, List.mem_cons, List.mem_append] at hq ⊢
  rcases hq with h | (h | h) | h
  · exact .inl h
  · exact .inr (.inl h)
  · exact .inr (.inr (.inl (.inr h)))
  · exact .inr (.inr (.inr h))
theorem words_off {D2 I z : Nat} {o : Obj} {nw : List (Addr × Obj)} (h1 : ∀ q ∈ nw, @LE.le Nat _ z q.1) (h2 : z ≤ D2) (h3 : I < z) : ∀ q ∈ ((D2 : Addr), o) :: nw, q.1 ≠ I := fun q hq => by
  rcases List.mem_cons.mp hq with rfl | hq
  · exact Nat.ne_of_gt (Nat.lt_of_lt_of_le h3 h2)
  · exact Nat.ne_of_gt (Nat.lt_of_lt_of_le h3 (h1 q hq))
theorem words_lowB {D2 I z : Nat} {o : Obj} {nw : List (Addr × Obj)} (h1 : ∀ q ∈ nw, @LE.le Nat _ z q.1) (h2 : z ≤ D2) (h3 : I < z) : ∀ q ∈ ((D2 : Addr), o) :: nw, @LT.lt Nat _ I q.1 := fun q hq => by
  rcases List.mem_cons.mp hq with rfl | hq
  · exact Nat.lt_of_lt_of_le h3 h2
  · exact Nat.lt_of_lt_of_le h3 (h1 q hq)
theorem words_fin {D c : Addr × Obj} {cur news r9 : List (Addr × Obj)} (h : cur ++ (D :: c :: news) = r9) : ∀ q ∈ cur ++ news, q ∈ r9 := fun q hq => by
  subst h
  simp only [List.mem_cons, List.mem_append] at hq ⊢
  exact hq.imp id fun h => .inr (.inr h)
structure WS where
  W : Addr
  vs : List Value
  ep : Nat
  cur : List (Addr × Obj)
  op : Option Value
noncomputable def msW (m₀ : Str → Option Value) (x : WS) : Str → Option Value := fun z => if z = Str.ofString "words" then some (.ref x.W) else if z = Str.ofString "place" then x.op else m₀ z
theorem msW_at {h₀ h : Heap} {L : Addr} {m m₀ : Str → Option Value} {x : WS} (F : Fr h₀ L h m) (h1 : m (Str.ofString "words") = some (.ref x.W)) (h2 : m (Str.ofString "place") = x.op)
    (h4 : ∀ z, z ≠ Str.ofString "words" → z ≠ Str.ofString "place" → m z = m₀ z) : Fr h₀ L h (msW m₀ x) := by
  have e : m = msW m₀ x := by
    funext z
    unfold msW
    split
    · rename_i e; rw [e, h1]
    · split
      · rename_i e; rw [e, h2]
      · exact h4 z (by assumption) (by assumption)
  exact e ▸ F
structure WInv (rs : List Int) (low : Nat) (I : Addr) (i : Nat) (z : WS) : Prop where
  hI : ∀ q ∈ z.cur, q.1 ≠ I
  hlow : ∀ q ∈ z.cur, @LT.lt Nat _ low q.1
  hW : (z.W, listOf z.vs.toArray z.ep) ∈ z.cur
  hw : WordsIn z.cur z.vs (wordsN rs i)

section
variable {w : World} {p : Program} {loose : List Str} {mean : ExcName → Option Value} {mg mb : Str → Option Value}
  {dp un : Nat} {gd : Option (List Code)} {cn : Str} {cs : Scope} {a : Addr} {ccd : Value} {cl : List (Str × Addr)} {outer : List Env} {A₀ : Around} {base h₀ : Heap} {L : Addr} {m : Str → Option Value} {news : List (Addr × Obj)} {s : Shared}
  {Q E : Value → Shared → Prop}
set_option maxRecDepth 100000 in
set_option maxHeartbeats 1600000 in
theorem t_words {d : Addr} {vr : List Value} {rs : List Int} {epr : Nat} (B : Below A₀ base outer h₀) (F : Fr h₀ L s.heap m) (X : (hd.heap_39 w.params).In h₀) (N : News h₀ L s.heap news) (T : Top p loose mean mg mb h₀) (hk : cs.kind = .function)
  (hD : (d, listOf vr.toArray epr) ∈ news) (hr : IntsAre vr rs) (hrl : rs.length ≤ 3) (hrs : ∀ r ∈ rs, 0 ≤ r ∧ r ≤ 3) (hsum : rs.sum ≤ 6)
  (hd : dp + 200 < recursionLimit) (hu : un + 1600 < cLine)
  (hret : ∀ W vs ep cur h' tk', Fr h₀ L h' m → News h₀ L h' (cur ++ news) → (W, listOf (List.toArray vs) ep) ∈ cur → WordsIn cur vs (wordsL rs) → (∀ q ∈ cur, ∀ r ∈ news, r.1 < q.1) → Q (.ref W) { s with heap := h', toks := tk' }) :
    wpAny (model PR w) (ktrTop dp un gd cn cs L a ccd cl outer) (call (.ref 89) [.ref d]) Q E s := by
  k_with_none
  k_with "exec For Name Call cons nil" => k_extra "for"
  k_with "call type:range" => k_extra "range"
  k_with "pyIter ref" => k_extra "iter"
  k_with "last pyIter ref" => k_extra "iter"
  k_with "call builtin:sum" => k_extra "sum"
  k_with "exec Assign" => k_extra "asg"
  k_with "call builtin:len" => k_extra "len"
  k_with "getMethod ref" => k_extra "meth"
  k_with "call builtin:list.count" => k_extra "count"
  k_with "subscriptTail Name Name ref int" => k_extra "item"
  k_with "binaryOp Add ref ref" => k_extra "cat"
  k_with "ar" => (first | with_reducible exact ar410 (by assumption) | with_reducible exact ar32 (by assumption) | with_reducible exact ar399 | with_reducible exact ar289 (by assumption) (by assumption) | with_reducible exact ar203 (by assumption) (by assumption) (by assumption) | with_reducible exact ar545 (by assumption) | with_reducible exact ar519 (by assumption) | with_reducible exact ar171 (by assumption) (by assumption) | with_reducible exact ar206 (by assumption) | with_reducible exact ar180 | with_reducible exact ar162 (by assumption) (by assumption) | with_reducible exact ar159 (by assumption) (by assumption) | with_reducible exact ar173 | with_reducible exact ar34)
  k_with_none
  k_with "exec For Name Call cons nil" => k_extra "for"
  k_with "call type:range" => k_extra "range"
  k_with "pyIter ref" => k_extra "iter"
  k_with "last pyIter ref" => k_extra "iter"
  k_with "call builtin:sum" => k_extra "sum"
  k_with "exec Assign" => k_extra "asg"
  k_with "call builtin:len" => k_extra "len"
  k_with "getMethod ref" => k_extra "meth"
  k_with "call builtin:list.count" => k_extra "count"
  k_with "subscriptTail Name Name ref int" => k_extra "item"
  k_with "binaryOp Add ref ref" => k_extra "cat"
  k_with "ar" => (first | with_reducible exact ar410 (by assumption) | with_reducible exact ar32 (by assumption) | with_reducible exact ar399 | with_reducible exact ar289 (by assumption) (by assumption) | with_reducible exact ar203 (by assumption) (by assumption) (by assumption) | with_reducible exact ar545 (by assumption) | with_reducible exact ar519 (by assumption) | with_reducible exact ar171 (by assumption) (by assumption) | with_reducible exact ar206 (by assumption) | with_reducible exact ar180 | with_reducible exact ar162 (by assumption) (by assumption) | with_reducible exact ar159 (by assumption) (by assumption) | with_reducible exact ar173 | with_reducible exact ar34)
  w_top off
  k_with "kall" => (exact fun p hp => Nat.ne_of_lt (Nat.lt_of_lt_of_le (hNews p hp) (by omega)))
  k_with "range" => (refine range_K1 (by k_asm) (by k_asm) ?_; intro D t u v h' tk' F' N' l1; (try k_lt l1))
  k_with "iter" => (refine Stop.mk ?_)
  k_with "sum" => ((with_unfolding_all refine' sumK ?k0 ?k1 ?k2 ?k3 hr ?_; (case k0 => with_unfolding_all rfl); (case k1 => k_asm); (case k2 => k_asm); (case k3 => exact News.isList (by k_asm) (show (d, listOf vr.toArray epr) ∈ _ from by first | exact .tail _ (.tail _ (.tail _ hD)) | exact .tail _ (.tail _ hD) | exact .tail _ hD)); k_whole); intro h' tk' t' F' N'; (try simp only [List.sum_cons, List.sum_nil]))
  refine wpAny_call ?_
  k_dflt (refine' code_defC ?k1 ?k2 ?k3 ?k4 ?k5 ?kA ?kF ?kK ?k6 ?k7 ?k8 ?k9 ?kB ?kD ?_ ?c2 ?c3 ?c4; (case kA => exact rfl); (case kF => exact rfl); (case kK => assumption); (case k1 => k_asm); (case k2 => k_asm); (case k3 => k_asm); (case k4 => k_asm); (case k5 => k_asm); (case k6 => k_is); (case k7 => k_is); (case k8 => ktr_room); (case k9 => exact BindsTo.of_eq rfl); (case kB => exact rfl); (case kD => decide +kernel); (case c2 => exact rfl); (case c3 => exact rfl); (case c4 => exact rfl); k_whole; intro g' L' h' tk' cells' FG' F' N' Y' B' X' T' l1; (have hNews : ∀ p ∈ news, p.1 < L' := fun p hp => l1 p (by simp [hp])); (try k_lt l1); k_cells Y'; (try simp only [List.cons_append, List.nil_append] at N'); (try dsimp only); (try k_fold))
  k_steps
  refine Stop.of ?_
  (rename Obj => oc)
  (rename oc.data = _ => dc)
  (rename News _ _ _ _ => N8)
  (rename Fr _ _ _ _ => F8)
  rename_i W0 _ lW0 W _ lW _ _ _ _ _
  have hs0 : 0 ≤ rs.sum := sum_nonneg fun r hr => (hrs r hr).1
  obtain ⟨S, hS⟩ : ∃ S, rs.sum = S := ⟨_, rfl⟩
  rw [hS] at N8 hs0 hsum
  have hAn : ∀ q ∈ news, q.1 < D := ktn_ltOf l1.2.2.2
  refine for_src (o := rangeO 0 S t u v) (ks := rangeL 0 S.toNat) (.inr ⟨0, S, _, _, _, rfl, by decide, by decide, hs0, by omega, by congr 1; omega⟩) (msW _) (fun z => z.cur ++ ((D, rangeO 0 S t u v) :: (L' + 1, oc) :: news)) (fun I i z => WInv rs (L' + 1) I i z) ⟨W, [.ref W0], 0, [(W, listOf #[.ref W0] 0), (W0, listOf #[] 0)], _⟩ (List.mem_append.mpr (.inr (.head _))) rfl (msW_at F8 rfl rfl (fun _ _ _ => rfl)) (News.sub N8 (words_sub0)) (fun I hI => ⟨fun q hq => Nat.ne_of_lt (hI q (List.mem_append.mpr (.inl hq))), words_low lW0.1 lW.2.1, .head _, .cons (.tail _ (.head _)) .nil .nil⟩) ?hnw ?turn ?done
  case hnw =>
    intro I hI i z hz q hq
    rcases List.mem_append.mp hq with hq | hq
    · exact hz.hI q hq
    · exact Nat.ne_of_lt (hI q (List.mem_append.mpr (.inr hq)))
  case turn =>
    rintro I i k tkk ⟨W1, vs1, ep1, cur, op⟩ h9 tk9 own oI hI hki ⟨hcI, hlow, hW1, hw1⟩ hown hoI hnc F9 N9
    dsimp only at hcI hlow hW1 hw1 N9
    obtain ⟨hil, hik⟩ := rangeL_inv hki
    obtain ⟨r9, hr9⟩ : ∃ r9, cur ++ ((D, rangeO 0 S t u v) :: (L' + 1, oc) :: news) ++ own = r9 := ⟨_, rfl⟩
    rw [hr9] at N9
    have hcell : (L' + 1, oc) ∈ r9 := by rw [← hr9]; exact List.mem_append.mpr (.inl (List.mem_append.mpr (.inr (.tail _ (.head _)))))
    have hD9 : (d, listOf vr.toArray epr) ∈ r9 := by rw [← hr9]; exact List.mem_append.mpr (.inl (List.mem_append.mpr (.inr (.tail _ (.tail _ hD)))))
    have hc9 : ∀ q ∈ cur, q ∈ r9 := fun q hq => by rw [← hr9]; exact List.mem_append.mpr (.inl (List.mem_append.mpr (.inl hq)))
    have hvl : vs1.length ≤ 729 := by
      have h1 := hw1.len
      have h2 := wordsN_len rs hrl i
      have h3 : 3 ^ i ≤ 3 ^ 6 := Nat.pow_le_pow_right (by decide) (by omega)
      have h4 : (3 : Nat) ^ 6 = 729 := by decide
      omega
    have hLlt : @LT.lt Nat _ (L' + 1) h9.objs.size := Heap.lt_size (N9 _ hcell).1
    have hoI9 : h9.get? I = some oI := (N9 _ (by rw [← hr9]; exact List.mem_append.mpr (.inr hoI))).1
    have hsz : (vr.toArray.size : Int) = (rs.length : Int) := by simp [hr.length]
    clear N8 F8
    k_with "asg" => (refine Stop.mk ?_)
    k_steps
    refine Stop.of ?_
    (rename Fr _ _ _ _ => F5)
    (rename News _ _ _ _ => N5)
    refine Assign_comp_words (x := Str.ofString "word") (y := Str.ofString "k") (nK := rs.length) (mayP rs) (by decide) rfl (by omega) (by omega) (by with_unfolding_all rfl) (by intro _; rfl) (by intro _ _; rfl) (by with_unfolding_all rfl) (by decide) rfl (by decide) rfl rfl rfl rfl F5 N5 (hc9 _ hW1) (hw1.mono hc9) (fun w hw => by rw [wordsN_wl rs i w hw]; omega) ?hi0 ?hi1 ?htest ?helt ?hQ
    case hi0 =>
      intro Q' hq
      k_steps
      exact hq
    case hi1 =>
      intro wd a' vw I0 oI0 CC oC D2 ys rest m₂ h2 tk2 E' Q' hwm haD hiw hoC hm2 F2 hsub N2 hq
      have N3 : News g' L' h2 ((L' + 1, oc) :: (I0, oI0) :: (CC, oC) :: (D2, LCg.lst ys) :: rest) := fun q hq => by
        rcases List.mem_cons.mp hq with rfl | hq
        · exact N2 _ (.tail _ (.tail _ (.tail _ (hsub _ hcell))))
        · exact N2 q hq
      clear N2 F5 N5
      k_with "len" => (refine len_is (News.isList (by k_asm) (show (d, listOf vr.toArray epr) ∈ _ from .tail _ (.tail _ (.tail _ (.tail _ (hsub _ hD9)))))) hsz (by omega) ?_; (try dsimp only))
      k_with "range" => (refine Stop.mk ?_)
      k_steps
      refine Stop.of ?_
      refine range_K1 F2 N3 ?_
      intro D9 t9 u9 v9 h9 tk9 F9 N9 l9
      exact hq _ _ _ _ _ _ F9 (News.sub N9 (fun q hq => by
        rcases List.mem_cons.mp hq with rfl | hq
        · exact .head _
        · exact .tail _ (.tail _ hq)))
    case htest =>
      intro wd k9 a' vw t9 I1 oI1 I0 oI0 CC oC D2 ys rest m₂ h2 tk2 E' Q' hwm hk9 haD hiw hoC hm2 hm3 F2 hsub N2 hq
      have N3 : News g' L' h2 ((L' + 1, oc) :: (I1, oI1) :: (I0, oI0) :: (CC, oC) :: (D2, LCg.lst ys) :: rest) := fun q hq => by
        rcases List.mem_cons.mp hq with rfl | hq
        · exact N2 _ (.tail _ (.tail _ (.tail _ (.tail _ (hsub _ hcell)))))
        · exact N2 q hq
      clear N2 F5 N5
      obtain ⟨x, hx⟩ : ∃ x, rs[((k9 : Nat) : Int).toNat]? = some x := ⟨rs[k9], by rw [Int.toNat_natCast]; exact List.getElem?_eq_getElem hk9⟩
      have hmay : mayP rs wd k9 = decide ((wd.count (k9 : Int) : Int) < x) := by
        unfold mayP
        rw [List.getD_eq_getElem?_getD, hx]
        rfl
      rw [hmay] at hq
      k_with "meth" => (k_dflt (refine listMethod_K (by k_asm) (show (a', listOf vw.toArray 0) ∈ _ from .tail _ (.tail _ (.tail _ (.tail _ (.tail _ (hsub _ haD)))))) PySem.F.slot_list_count PySem.F.type_list_count ?_))
      k_with "count" => (refine count_list_ints (News.isList (by k_asm) (show (a', listOf vw.toArray 0) ∈ _ from .tail _ (.tail _ (.tail _ (.tail _ (.tail _ (hsub _ haD))))))) hiw ?_)
      k_with "item" => (refine item_ints (News.isList (by k_asm) (show (d, listOf vr.toArray epr) ∈ _ from .tail _ (.tail _ (.tail _ (.tail _ (.tail _ (hsub _ hD9))))))) hr (by omega) (by omega) hx ?_; intro tx)
      k_steps
      exact hq _
    case helt =>
      intro wd k9 a' vw t9 I1 oI1 I0 oI0 CC oC D2 ys rest m₂ h2 tk2 E' Q' hwm hk9 haD hiw hoC hm2 hm3 F2 hsub N2 hq
      have N3 : News g' L' h2 ((L' + 1, oc) :: (I1, oI1) :: (I0, oI0) :: (CC, oC) :: (D2, LCg.lst ys) :: rest) := fun q hq => by
        rcases List.mem_cons.mp hq with rfl | hq
        · exact N2 _ (.tail _ (.tail _ (.tail _ (.tail _ (hsub _ hcell)))))
        · exact N2 q hq
      clear N2 F5 N5
      have hwl := wordsN_wl rs i wd hwm
      k_with "cat" => (refine kmk_add_ints (by k_asm) (by k_asm) (News.isList (by k_asm) (show (a', listOf vw.toArray 0) ∈ _ from .tail _ (.tail _ (.tail _ (.tail _ (.tail _ (.tail _ (hsub _ haD)))))))) (by is_list) hiw (.cons _ _ .nil) ?_ (by rw [sizeLine_eq, hwl]; simp; omega); intro T us h' F' N' l1 hI')
      k_steps
      exact hq _ us _ _ (by k_asm) (News.sub (by k_asm) (fun q hq => by
        rcases List.mem_cons.mp hq with rfl | hq
        · exact .head _
        · exact .tail _ (.tail _ (.tail _ hq)))) (l1 _ (.tail _ (.tail _ (.head _)))) (l1 _ (.tail _ (.tail _ (.tail _ (.tail _ (.tail _ (.head _))))))) hI'
    case hQ =>
      intro D2 ys nw h2 tk2 F2 N2 hw2 hnw hD2
      clear F5 N5
      dsimp only at hnw hD2
      dsimp only
      k_steps
      exact MyEnd.next ⟨D2, ys, ys.length, (D2, LCg.lst ys) :: nw, _⟩ (msW_at (by k_asm) rfl rfl (fun z a b => by simp [msW, a, b])) (News.sub N2 (words_back hr9)) ⟨words_off hnw hD2 (Heap.lt_size hoI9), words_lowB hnw hD2 hLlt, .head _, hw2.mono fun q hq => .tail _ hq⟩
  case done =>
    rintro I ⟨W1, vs1, ep1, cur, op⟩ h9 tk9 ⟨hcI, hlow, hW1, hw1⟩ F9 N9
    dsimp only at hcI hlow hW1 hw1 N9
    rw [rangeL_len, ← hS] at hw1
    obtain ⟨r9, hr9⟩ : ∃ r9, cur ++ ((D, rangeO 0 S t u v) :: (L' + 1, oc) :: news) = r9 := ⟨_, rfl⟩
    rw [hr9] at N9
    clear N8 F8
    k_steps
    exact hret W1 vs1 ep1 cur _ _ (by k_asm) (News.sub (by k_asm) (words_fin hr9)) hW1 hw1 (fun q hq r hr => Nat.lt_trans (Nat.lt_trans (hNews r hr) (Nat.lt_succ_self _)) (hlow q hq))
end
end Mine
namespace Mine

noncomputable def lawParts : List Stmt × Scope := match PR.main.body.getLast? with
  | some (.FunctionDef (body := b) (scope := s) ..) => (b, s)
  | _ => ([], { kind := .function, names := [], isGenerator := false, isCoroutine := false })
noncomputable abbrev lawEnv (L fa : Addr) (cd : Value) : Env := envOfC (Str.ofString "law") lawParts.2 L fa cd
/-- the eight shapes -/
def ShapeOf (f sc c : Int) : Prop := (f = 2 ∧ sc = 1 ∧ c = 3) ∨ (f = 2 ∧ sc = 1 ∧ c = 4) ∨ (f = 2 ∧ sc = 2 ∧ c = 4) ∨ (f = 2 ∧ sc = 2 ∧ c = 5) ∨ (f = 3 ∧ sc = 1 ∧ c = 4) ∨ (f = 3 ∧ sc = 1 ∧ c = 5) ∨ (f = 3 ∧ sc = 2 ∧ c = 5) ∨ (f = 3 ∧ sc = 3 ∧ c = 6)
/-- the rows of the eight shapes -/
def RowsOk (rs : List Int) : Prop := rs = [2, 1] ∨ rs = [2, 1, 1] ∨ rs = [2, 2] ∨ rs = [2, 2, 1] ∨ rs = [3, 1] ∨ rs = [3, 1, 1] ∨ rs = [3, 2] ∨ rs = [3, 3]
noncomputable def rowStep (p : List Int × Int) (size : Int) : List Int × Int := if p.2 > 0 then (p.1 ++ [if p.2 < size then p.2 else size], p.2 - (if p.2 < size then p.2 else size)) else p
noncomputable def rowsTo (c : Int) (sz : List Int) : List Int × Int := sz.foldl rowStep ([], c)
theorem rowsTo_snoc (c : Int) (sz : List Int) (k : Int) : rowsTo c (sz ++ [k]) = rowStep (rowsTo c sz) k := by simp [rowsTo]
theorem rows_end {f sc c : Int} {sz : List Int} (h : ShapeOf f sc c) (h2 : sz = [f, sc, sc, sc] ∨ sz = [f, sc]) :
    RowsOk ((rowsTo c sz).1 ++ (if (rowsTo c sz).2 > 0 then [(rowsTo c sz).2] else [])) ∧ ((rowsTo c sz).1 ++ (if (rowsTo c sz).2 > 0 then [(rowsTo c sz).2] else [])).sum = c := by
  unfold ShapeOf at h
  unfold RowsOk
  rcases h with ⟨rfl, rfl, rfl⟩ | ⟨rfl, rfl, rfl⟩ | ⟨rfl, rfl, rfl⟩ | ⟨rfl, rfl, rfl⟩ | ⟨rfl, rfl, rfl⟩ | ⟨rfl, rfl, rfl⟩ | ⟨rfl, rfl, rfl⟩ | ⟨rfl, rfl, rfl⟩ <;> rcases h2 with rfl | rfl <;> decide
noncomputable def mA (D11 X1 D4 : Addr) (f sc c : Int) (tf tsc tc : Tok) : Str → Option Value := fun z => if z = Str.ofString "sizes" then some (Value.ref D11) else if z = Str.ofString "ending" then some (Value.ref X1) else if z = Str.ofString "cells" then some (Value.int c tc) else if z = Str.ofString "second" then some (Value.int sc tsc) else if z = Str.ofString "first" then some (Value.int f tf) else if z = Str.ofString "sums" then some (Value.ref D4) else none
structure RS where
  vs : List Value
  rs : List Int
  left : Int
  tl : Tok
  ep : Nat
  oz : Option Value
noncomputable def msR (m₀ : Str → Option Value) (x : RS) : Str → Option Value := fun z => if z = Str.ofString "left" then some (.int x.left x.tl) else if z = Str.ofString "size" then x.oz else m₀ z
theorem msR_at {h₀ h : Heap} {L : Addr} {m m₀ : Str → Option Value} {x : RS} (F : Fr h₀ L h m) (h1 : m (Str.ofString "left") = some (.int x.left x.tl)) (h2 : m (Str.ofString "size") = x.oz)
    (h4 : ∀ z, z ≠ Str.ofString "left" → z ≠ Str.ofString "size" → m z = m₀ z) : Fr h₀ L h (msR m₀ x) := by
  have e : m = msR m₀ x := by
    funext z
    unfold msR
    split
    · rename_i e; rw [e, h1]
    · split
      · rename_i e; rw [e, h2]
      · exact h4 z (by assumption) (by assumption)
  exact e ▸ F
noncomputable def nsR (hl : Addr) (rest : List (Addr × Obj)) (x : RS) : List (Addr × Obj) := (hl, listOf x.vs.toArray x.ep) :: rest
theorem nsR_cons {h₀ h : Heap} {L hl : Addr} {e : Addr × Obj} {r1 own r9 : List (Addr × Obj)} {x : RS} (N : News h₀ L h (nsR hl (e :: r1) x ++ own)) (h9 : r1 ++ own = r9) : News h₀ L h ((hl, listOf x.vs.toArray x.ep) :: e :: r9) := by
  rw [← h9]; exact N
theorem nsR_back {h₀ h : Heap} {L hl : Addr} {e : Addr × Obj} {r1 own r9 : List (Addr × Obj)} {vs : List Value} {ep : Nat} {v : Value} {rs : List Int} {left : Int} {tl : Tok} {oz : Option Value} (N : News h₀ L h ((hl, listOf (vs.toArray.push v) (ep + 1)) :: e :: r9)) (h9 : r1 ++ own = r9) : News h₀ L h (nsR hl (e :: r1) ⟨vs ++ [v], rs, left, tl, ep + 1, oz⟩ ++ own) := by
  have e1 : (vs ++ [v]).toArray = vs.toArray.push v := by simp
  rw [← h9, ← e1] at N
  exact N
theorem nsR_same {h₀ h : Heap} {L hl : Addr} {e : Addr × Obj} {r1 own r9 : List (Addr × Obj)} {vs : List Value} {ep : Nat} {rs' : List Int} {left' : Int} {tl' : Tok} {oz' : Option Value} (N : News h₀ L h ((hl, listOf vs.toArray ep) :: e :: r9)) (h9 : r1 ++ own = r9) : News h₀ L h (nsR hl (e :: r1) ⟨vs, rs', left', tl', ep, oz'⟩ ++ own) := by
  rw [← h9] at N
  exact N
theorem nsR_out {h₀ h : Heap} {L R : Addr} {a b : Addr × Obj} {l : List (Addr × Obj)} {vs : List Value} {v : Value} {ep : Nat} (N : News h₀ L h ((R, listOf (vs.toArray.push v) ep) :: a :: b :: l)) : News h₀ L h ((R, listOf (vs ++ [v]).toArray ep) :: a :: l) := by
  have e1 : (vs ++ [v]).toArray = vs.toArray.push v := by simp
  rw [e1]
  refine News.sub N (fun q hq => ?_)
  rcases List.mem_cons.mp hq with rfl | hq
  · exact .head _
  · rcases List.mem_cons.mp hq with rfl | hq
    · exact .tail _ (.head _)
    · exact .tail _ (.tail _ (.tail _ hq))
/-- the last one -/
theorem last_item {prog : Program} {w : World} {A : Around} {E : Value → Shared → Prop} {s : Shared} {Q : Value → Shared → Prop} {value slice : Expr} {l : Addr} {its : Array Value} {u : Tok} {v : Value} (hl : s.heap.IsList l (its.push v)) (h : Q v s)
    (hs : subscripted slice false (.ref l) (.int (-1) u) = operate [.ref l, .int (-1) u] (getItem (.ref l) (.int (-1) u)) := by with_unfolding_all rfl) :
    wpAny (model prog w) A (subscriptTail value slice (.ref l) (.int (-1) u)) Q E s :=
  tail_any hl.typeIs slot_list_getitem.lookup (wpAny_getItem_list_neg hl (by decide) (by rw [Array.size_push]; omega) (by decide) (x := v) (by
    rw [Array.size_push, show (-1 + ((its.size + 1 : Nat) : Int)).toNat = its.size from by omega]
    simp) h) hs

set_option maxRecDepth 100000 in
set_option maxHeartbeats 2000000 in
theorem law_seg2 {w : World} {p : Program} {loose : List Str} {mean : ExcName → Option Value} {mg mb : Str → Option Value} {h₀ : Heap} {L fa D11 X1 D4 : Addr} {cd : Value} {s : Shared} {oR : Obj} {vs : List Value} {sz : List Int} {ep : Nat} {f sc c : Int} {tf tsc tc : Tok} {news : List (Addr × Obj)} {Q : Flow → Shared → Prop} {E : Value → Shared → Prop}
    (hE : PassesOwn (model PR w) (callerA.deeper (lawEnv L fa cd)) (lawEnv L fa cd) E) (B : Below callerA h₀ [] h₀) (F : Fr h₀ L s.heap (mA D11 X1 D4 f sc c tf tsc tc))
    (X : (hd.heap_39 w.params).In h₀) (N : News h₀ L s.heap ((L + 2, oR) :: (D11, listOf vs.toArray ep) :: news)) (T : Top p loose mean mg mb h₀)
    (dR : oR.data = .cell none) (hi : IntsAre vs sz) (hsz : sz = [f, sc, sc, sc] ∨ sz = [f, sc]) (hsh : ShapeOf f sc c) (hD11 : D11 ≠ L + 2) (hoff : ∀ q ∈ news, q.1 ≠ L + 2)
    (hnext : ∀ R vr rs epr oR' lf tl oz h' tk', RowsOk rs → rs.sum = c → IntsAre vr rs → oR'.data = .cell (some (.ref R)) → L + 2 < R → (∀ q ∈ news, q.1 < R) →
      Fr h₀ L h' (msR (mA D11 X1 D4 f sc c tf tsc tc) ⟨[], [], lf, tl, 0, oz⟩) →
      News h₀ L h' ((R, listOf vr.toArray epr) :: (L + 2, oR') :: news) → wpAny (model PR w) (callerA.deeper (lawEnv L fa cd)) (execs (lawParts.1.drop 12) (lawEnv L fa cd)) Q E { s with heap := h', toks := tk' }) :
    wpAny (model PR w) (callerA.deeper (lawEnv L fa cd)) (execs (lawParts.1.drop 8) (lawEnv L fa cd)) Q E s := by
  k_with_none
  k_with "execs cons Assign cons" => k_extra "exa"
  k_with "exec For Name Name cons nil" => k_extra "for"
  k_with "pyIter ref" => k_extra "iter"
  k_with "last pyIter ref" => k_extra "iter"
  k_with "call builtin:list.append" => k_extra "app"
  k_with "subscriptTail" => k_extra "pick"
  k_with "ar" => (first | with_reducible exact ar163 (by assumption) | with_reducible exact ar150 (by assumption) (by assumption) (by assumption) | with_reducible exact ar522 (by assumption) | with_reducible exact ar293 (by assumption) (by assumption) | with_reducible exact ar34)
  conv in lawParts.1.drop 8 => whnf
  have hoff1 : ∀ q ∈ (D11, listOf vs.toArray ep) :: news, q.1 ≠ L + 2 := by
    intro q hq
    rcases List.mem_cons.mp hq with rfl | hq
    · exact hD11
    · exact hoff q hq
  k_with_none
  k_with "execs cons Assign cons" => k_extra "exa"
  k_with "exec For Name Name cons nil" => k_extra "for"
  k_with "pyIter ref" => k_extra "iter"
  k_with "last pyIter ref" => k_extra "iter"
  k_with "call builtin:list.append" => k_extra "app"
  k_with "subscriptTail" => k_extra "pick"
  k_with "ar" => (first | with_reducible exact ar163 (by assumption) | with_reducible exact ar150 (by assumption) (by assumption) (by assumption) | with_reducible exact ar522 (by assumption) | with_reducible exact ar293 (by assumption) (by assumption) | with_reducible exact ar34)
  w_top off
  k_with "exa" => (refine wpAny_execs_cons ?_; (try dsimp only))
  k_with "kall" => (exact hoff1)
  k_with "for" => ((rename Fr _ _ _ _ => lF'); (with_unfolding_all refine' For_invVF lF' ?k1 ?k2 ?_; (case k1 => exact rfl); (case k2 => exact rfl); k_whole))
  k_with "iter" => (refine Stop.mk ?_)
  k_steps
  refine Stop.of ?_
  (rename News _ _ _ _ => N8)
  (rename Fr _ _ _ _ => F8)
  (rename_i R _ lR _ oR2 dR2 _)
  obtain ⟨lR2, lRD, lRn⟩ := lR
  replace lRn : ∀ q ∈ news, q.1 < R := ktn_ltOf lRn
  have hlR : L + 2 ≠ R := Nat.ne_of_lt lR2
  refine for_src (ks := sz) (.inl ⟨vs, ep, rfl, hi⟩) (msR (mA D11 X1 D4 f sc c tf tsc tc)) (nsR R ((L + 2, oR2) :: (D11, listOf vs.toArray ep) :: news)) (fun I i z => IntsAre z.vs z.rs ∧ (z.rs, z.left) = rowsTo c (sz.take i) ∧ z.rs.length ≤ i) ⟨[], [], c, tc, 0, none⟩ (.tail _ (.tail _ (.head _))) rfl (msR_at F8 rfl rfl (fun z a b => by simp [a])) N8 (fun I hI => ⟨.nil, rfl, Nat.le_refl _⟩) ?hnw ?turn ?done
  case hnw =>
    intro I hI i z _ q hq
    rcases List.mem_cons.mp hq with rfl | hq
    · (have h0 : R < I := hI (R, _) (.head _)); exact Nat.ne_of_lt h0
    · exact Nat.ne_of_lt (hI q (.tail _ hq))
  case turn =>
    rintro I i k tkk ⟨vr, rs, left, tl, epr, oz⟩ h9 tk9 own oI hI hki ⟨hzi, hzr, hzl⟩ hown hoI hnc F9 N9
    dsimp only at hzi hzr hzl
    obtain ⟨r9, hr9⟩ : ∃ r9, (D11, listOf vs.toArray ep) :: news ++ own = r9 := ⟨_, rfl⟩
    have N10 := nsR_cons N9 hr9
    dsimp only at N10
    have hIR : R < I := hI (R, _) (.head _)
    have hIc : L + 2 < I := hI (L + 2, _) (.tail _ (.head _))
    have hoffR : ∀ q ∈ r9, q.1 ≠ R := by
      rw [← hr9]
      intro q hq e
      rcases List.mem_cons.mp hq with rfl | hq
      · exact Nat.ne_of_lt lRD e
      · rcases List.mem_append.mp hq with hq | hq
        · exact Nat.ne_of_lt (lRn q hq) e
        · rcases hown q hq with h | h
          · exact Nat.ne_of_gt hIR (h.symm.trans e)
          · exact Nat.ne_of_lt lRD (h.symm.trans e)
    have hoffR2 : ∀ q ∈ (L + 2, oR2) :: r9, q.1 ≠ R := by
      intro q hq
      rcases List.mem_cons.mp hq with rfl | hq
      · exact hlR
      · exact hoffR q hq
    have hstep : rowsTo c (sz.take (i + 1)) = rowStep (rs, left) k := by rw [List.take_add_one, hki, Option.toList_some, rowsTo_snoc, ← hzr]
    have hil : i < sz.length := by
      obtain ⟨h1, _⟩ := List.getElem?_eq_some_iff.mp hki
      exact h1
    have hsl : sz.length ≤ 4 := by rcases hsz with rfl | rfl <;> simp
    have hvz : vr.toArray.size ≤ sizeLine := by rw [sizeLine_eq, List.size_toArray, hzi.length]; omega
    clear N9 N8 F8
    k_with_none
    k_with "execs cons Assign cons" => k_extra "exa"
    k_with "exec For Name Name cons nil" => k_extra "for"
    k_with "pyIter ref" => k_extra "iter"
    k_with "last pyIter ref" => k_extra "iter"
    k_with "call builtin:list.append" => k_extra "app"
    k_with "subscriptTail" => k_extra "pick"
    k_with "ar" => (first | with_reducible exact ar163 (by assumption) | with_reducible exact ar150 (by assumption) (by assumption) (by assumption) | with_reducible exact ar522 (by assumption) | with_reducible exact ar293 (by assumption) (by assumption) | with_reducible exact ar34)
    k_with "kall" => (first | exact hoffR2)
    k_with "app" => (refine append_K (its := vr.toArray) (n := epr) (by k_asm) (by k_asm) (by k_upd) ?_ hvz; intro h' F' N'; (try dsimp only at N'))
    k_with "pick" => (refine last_item (News.isList (by k_asm) (List.mem_cons_self ..)) ?_)
    k_steps
    · (rename left > 0 => hlp)
      refine MyEnd.next ⟨vr ++ [_], rs ++ [_], _, _, epr + 1, _⟩ (msR_at (by k_asm) rfl rfl (fun z a b => by simp [msR, a, b])) (nsR_back (by k_asm) hr9) ⟨hzi.append (.cons _ _ .nil), ?_, ?_⟩
      · rw [hstep, rowStep, if_pos hlp]
      · simp only [List.length_append, List.length_cons, List.length_nil]; omega
    · (rename ¬ left > 0 => hlp)
      refine MyEnd.next ⟨vr, rs, left, tl, epr, some (.int k tkk)⟩ (msR_at (by k_asm) rfl rfl (fun z a b => by simp [msR, a, b])) (nsR_same (by k_asm) hr9) ⟨hzi, ?_, ?_⟩
      · rw [hstep, rowStep, if_neg hlp]
      · exact Nat.le_succ_of_le hzl
  case done =>
    rintro I ⟨vr, rs, left, tl, epr, oz⟩ h9 tk9 ⟨hzi, hzr, hzl⟩ F9 N9
    dsimp only at hzi hzr hzl
    rw [List.take_length] at hzr
    have hend := rows_end hsh hsz
    rw [← hzr] at hend
    dsimp only at hend
    have hsl : sz.length ≤ 4 := by rcases hsz with rfl | rfl <;> simp
    have hvz : vr.toArray.size ≤ sizeLine := by rw [sizeLine_eq, List.size_toArray, hzi.length]; omega
    have hoffR2 : ∀ q ∈ (L + 2, oR2) :: (D11, listOf vs.toArray ep) :: news, q.1 ≠ R := by
      intro q hq e
      rcases List.mem_cons.mp hq with rfl | hq
      · exact hlR e
      · rcases List.mem_cons.mp hq with rfl | hq
        · exact Nat.ne_of_lt lRD e
        · exact Nat.ne_of_lt (lRn q hq) e
    have N10 : News h₀ L h9 ((R, listOf vr.toArray epr) :: (L + 2, oR2) :: (D11, listOf vs.toArray ep) :: news) := N9
    clear N9 N8 F8
    k_with_none
    k_with "execs cons Assign cons" => k_extra "exa"
    k_with "exec For Name Name cons nil" => k_extra "for"
    k_with "pyIter ref" => k_extra "iter"
    k_with "last pyIter ref" => k_extra "iter"
    k_with "call builtin:list.append" => k_extra "app"
    k_with "subscriptTail" => k_extra "pick"
    k_with "ar" => (first | with_reducible exact ar163 (by assumption) | with_reducible exact ar150 (by assumption) (by assumption) (by assumption) | with_reducible exact ar522 (by assumption) | with_reducible exact ar293 (by assumption) (by assumption) | with_reducible exact ar34)
    k_with "exif" => (refine wpAny_execs_cons ?_; (try dsimp only))
    k_with "kall" => (first | exact hoffR2)
    k_with "app" => (refine append_K (its := vr.toArray) (n := epr) (by k_asm) (by k_asm) (by k_upd) ?_ hvz; intro h' F' N'; (try dsimp only at N'))
    k_with "exa" => (refine Stop.mk ?_)
    k_steps
    · refine Stop.of ?_
      (rename left > 0 => hlp)
      rw [if_pos hlp] at hend
      exact hnext R (vr ++ [_]) (rs ++ [left]) (epr + 1) _ _ _ _ _ _ hend.1 hend.2 (hzi.append (.cons _ _ .nil)) dR2 lR2 lRn (by k_asm) (nsR_out (by k_asm))
    · refine Stop.of ?_
      (rename ¬ left > 0 => hlp)
      rw [if_neg hlp, List.append_nil] at hend
      exact hnext R vr rs epr _ _ _ _ _ _ hend.1 hend.2 hzi dR2 lR2 lRn (by k_asm) (News.sub (by k_asm) (fun q hq => by
        rcases List.mem_cons.mp hq with rfl | hq
        · exact .head _
        · rcases List.mem_cons.mp hq with rfl | hq
          · exact .tail _ (.head _)
          · exact .tail _ (.tail _ (.tail _ hq))))
end Mine
namespace Mine
theorem mod_emod {prog : Program} {w : World} {A : Around} {E : Value → Shared → Prop} {s : Shared} {a b : Int} {t u : Tok} {Q : Value → Shared → Prop} (hb : 0 < b) (h : ∀ t' tk', Q (.int (a % b) t') { s with toks := tk' }) : wpAny (model prog w) A (binaryOp .Mod (.int a t) (.int b u)) Q E s := by
  refine mod_int' (by omega) ?_
  rw [Int.fmod_eq_emod_of_nonneg _ (by omega)]
  exact h _ _
theorem fr_abs {h₀ h : Heap} {L : Addr} {x : Str} {v : Int} {t : Tok} {m : Str → Option Value} (F : Fr h₀ L h (fun y => if y = x then some (.int v t) else m y)) : ∃ f tf, f = v ∧ Fr h₀ L h (fun y => if y = x then some (.int f tf) else m y) := ⟨v, t, rfl, F⟩
/-- the four disguises -/
def HidOk (hid : Str) : Prop := hid = Str.ofString "\\)" ∨ hid = Str.ofString "\")\"" ∨ hid = Str.ofString "\\(" ∨ hid = Str.ofString "\"(\""
theorem pick4 {i : Int} {a b c d : Str} {ta tb tc td : Tok} (h0 : 0 ≤ i) (h4 : i < 4) : ∃ x tx, (#[Value.str a ta, .str b tb, .str c tc, .str d td] : Array Value)[i.toNat]? = some (.str x tx) ∧ (x = a ∨ x = b ∨ x = c ∨ x = d) := by
  k_with_none
  k_with "execs cons Assign cons" => k_extra "exa"
  k_with "subscriptTail" => k_extra "pick"
  k_with "subscriptTail Name Constant ref int" => k_extra "item"
  k_with "binaryOp Mod int int" => k_extra "mod"
  k_with "call builtin:chr" => k_extra "chr"
  k_with "call builtin:ord" => k_extra "ord"
  k_with "exec Assign" => k_extra "asg"
  k_with "exec Expr" => k_extra "expr"
  k_with "ar" => (first | with_reducible exact ar633 (by assumption) (by assumption))
  have h : i = 0 ∨ i = 1 ∨ i = 2 ∨ i = 3 := by omega
  rcases h with rfl | rfl | rfl | rfl
  · exact ⟨a, ta, rfl, .inl rfl⟩
  · exact ⟨b, tb, rfl, .inr (.inl rfl)⟩
  · exact ⟨c, tc, rfl, .inr (.inr (.inl rfl))⟩
  · exact ⟨d, td, rfl, .inr (.inr (.inr rfl))⟩
noncomputable def mC (LL : Addr) (wd : Int) (tw : Tok) (hid : Str) (th : Tok) (m₀ : Str → Option Value) : Str → Option Value := fun z => if z = Str.ofString "letters" then some (.ref LL) else if z = Str.ofString "width" then some (.int wd tw) else if z = Str.ofString "hidden" then some (.str hid th) else m₀ z

set_option maxRecDepth 100000 in
set_option maxHeartbeats 2000000 in
theorem law_seg3 {w : World} {p : Program} {loose : List Str} {mean : ExcName → Option Value} {mg mb : Str → Option Value} {h₀ : Heap} {L fa D11 X1 D4 R : Addr} {cd : Value} {s : Shared} {oR : Obj} {ys vr : List Value} {rs : List Int} {ep4 epr : Nat} {f sc c lf s0 s1 s2 s3 s4 s5 s6 s7 s8 : Int} {tf tsc tc tl : Tok} {oz : Option Value} {news : List (Addr × Obj)} {Q : Flow → Shared → Prop} {E : Value → Shared → Prop}
    (hE : PassesOwn (model PR w) (callerA.deeper (lawEnv L fa cd)) (lawEnv L fa cd) E) (B : Below callerA h₀ [] h₀) (F : Fr h₀ L s.heap (msR (mA D11 X1 D4 f sc c tf tsc tc) ⟨[], [], lf, tl, 0, oz⟩))
    (X : (hd.heap_39 w.params).In h₀) (N : News h₀ L s.heap ((R, listOf vr.toArray epr) :: (L + 2, oR) :: news)) (T : Top p loose mean mg mb h₀)
    (hD4 : (D4, listOf ys.toArray ep4) ∈ news) (hys : IntsAre ys [s0, s1, s2, s3, s4, s5, s6, s7, s8])
    (hnext : ∀ LL wd tw hid th c0 c1 c2 t0 t1 t2 epl h' tk', HidOk hid → 5 ≤ wd → wd < 1205 → 192 ≤ c0 → c0 < c1 → c1 < c2 → c2 ≤ 3000 → (@LT.lt Nat _ R LL) → (@LT.lt Nat _ (L + 2) LL) → (∀ q ∈ news, q.1 < LL) →
      Fr h₀ L h' (mC LL wd tw hid th (msR (mA D11 X1 D4 f sc c tf tsc tc) ⟨[], [], lf, tl, 0, oz⟩)) →
      News h₀ L h' ((LL, listOf [Value.str ⟨#[c0]⟩ t0, .str ⟨#[c1]⟩ t1, .str ⟨#[c2]⟩ t2].toArray epl) :: (R, listOf vr.toArray epr) :: (L + 2, oR) :: news) → wpAny (model PR w) (callerA.deeper (lawEnv L fa cd)) (execs (lawParts.1.drop 17) (lawEnv L fa cd)) Q E { s with heap := h', toks := tk' }) :
    wpAny (model PR w) (callerA.deeper (lawEnv L fa cd)) (execs (lawParts.1.drop 12) (lawEnv L fa cd)) Q E s := by
  k_with_none
  k_with "execs cons Assign cons" => k_extra "exa"
  k_with "subscriptTail" => k_extra "pick"
  k_with "subscriptTail Name Constant ref int" => k_extra "item"
  k_with "binaryOp Mod int int" => k_extra "mod"
  k_with "call builtin:chr" => k_extra "chr"
  k_with "call builtin:ord" => k_extra "ord"
  k_with "exec Assign" => k_extra "asg"
  k_with "exec Expr" => k_extra "expr"
  k_with "ar" => (first | with_reducible exact ar91 | with_reducible exact ar103 | with_reducible exact ar440 | with_reducible exact ar649 (by assumption) | with_reducible exact ar344 | with_reducible exact ar560 | with_reducible exact ar295 | with_reducible exact ar484 | with_reducible exact ar151 | with_reducible exact ar486 | with_reducible exact ar329 | with_reducible exact ar213 | with_reducible exact ar16 | with_reducible exact ar424 | with_reducible exact ar51 | with_reducible exact ar173 | with_reducible exact ar451)
  conv in lawParts.1.drop 12 => whnf
  k_with_none
  k_with "execs cons Assign cons" => k_extra "exa"
  k_with "subscriptTail" => k_extra "pick"
  k_with "subscriptTail Name Constant ref int" => k_extra "item"
  k_with "binaryOp Mod int int" => k_extra "mod"
  k_with "call builtin:chr" => k_extra "chr"
  k_with "call builtin:ord" => k_extra "ord"
  k_with "exec Assign" => k_extra "asg"
  k_with "exec Expr" => k_extra "expr"
  k_with "ar" => (first | with_reducible exact ar91 | with_reducible exact ar103 | with_reducible exact ar440 | with_reducible exact ar649 (by assumption) | with_reducible exact ar344 | with_reducible exact ar560 | with_reducible exact ar295 | with_reducible exact ar484 | with_reducible exact ar151 | with_reducible exact ar486 | with_reducible exact ar329 | with_reducible exact ar213 | with_reducible exact ar16 | with_reducible exact ar424 | with_reducible exact ar51 | with_reducible exact ar173 | with_reducible exact ar451)
  w_top off
  k_with "exa" => (refine wpAny_execs_cons ?_; (try dsimp only))
  k_with "item" => (refine item_ints (News.isList (by k_asm) (show (D4, listOf ys.toArray ep4) ∈ _ from by first | exact .tail _ (.tail _ (.tail _ hD4)) | exact .tail _ (.tail _ hD4) | exact .tail _ (.tail _ (.tail _ (.tail _ hD4))))) hys (by decide) (by decide) rfl ?_; intro tit)
  k_with "mod" => (refine mod_emod (by first | decide | omega) ?_; intro t' tk')
  k_with "pick" => ((with_reducible show wpAny _ _ (subscriptTail (Expr.List _ _) _ _ _) _ _ _); refine Stop.mk ?_)
  k_steps
  refine Stop.of ?_
  (rename News _ _ _ _ => N8)
  obtain ⟨hid, th, hx, hhid⟩ := pick4 (i := s4 % 4) (by omega) (by omega)
  refine my_item (News.isList N8 (.head _)) (by omega) (by omega) hx ?_
  have N9 := News.sub (l' := (R, listOf vr.toArray epr) :: (L + 2, oR) :: news) N8 (fun q hq => .tail _ hq)
  clear N8
  k_with "asg" => ((with_reducible show wpAny _ _ (exec (Stmt.Assign [Expr.Name (Str.ofString "letters") _] _ _) _) _ _ _); refine Stop.mk ?_)
  k_steps
  refine Stop.of ?_
  (rename Fr _ _ _ _ => F5)
  obtain ⟨wd, tw, hw, F6⟩ := fr_abs F5
  clear F5
  have hw5 : 5 ≤ wd ∧ wd < 1205 := by omega
  clear hw
  k_with_none
  k_with "execs cons Assign cons" => k_extra "exa"
  k_with "subscriptTail" => k_extra "pick"
  k_with "subscriptTail Name Constant ref int" => k_extra "item"
  k_with "binaryOp Mod int int" => k_extra "mod"
  k_with "call builtin:chr" => k_extra "chr"
  k_with "call builtin:ord" => k_extra "ord"
  k_with "exec Assign" => k_extra "asg"
  k_with "exec Expr" => k_extra "expr"
  k_with "ar" => (first | with_reducible exact ar91 | with_reducible exact ar103 | with_reducible exact ar440 | with_reducible exact ar649 (by assumption) | with_reducible exact ar344 | with_reducible exact ar560 | with_reducible exact ar295 | with_reducible exact ar484 | with_reducible exact ar151 | with_reducible exact ar486 | with_reducible exact ar329 | with_reducible exact ar213 | with_reducible exact ar16 | with_reducible exact ar424 | with_reducible exact ar51 | with_reducible exact ar173 | with_reducible exact ar451)
  k_with "item" => (refine item_ints (News.isList (by k_asm) (show (D4, listOf ys.toArray ep4) ∈ _ from by first | exact .tail _ (.tail _ (.tail _ hD4)) | exact .tail _ (.tail _ hD4) | exact .tail _ (.tail _ (.tail _ (.tail _ hD4))))) hys (by decide) (by decide) rfl ?_; intro tit)
  k_with "mod" => (refine mod_emod (by first | decide | omega) ?_; intro t' tk')
  k_with "chr" => (refine chr_of_range (by omega) (by omega) ?_)
  k_with "expr" => (refine Stop.mk ?_)
  k_steps
  refine Stop.of ?_
  (rename_i LL _ lL _ _ _)
  obtain ⟨lLR, lL2, lLn⟩ := lL
  replace lLn : ∀ q ∈ news, q.1 < LL := ktn_ltOf lLn
  have hoffL : ∀ q ∈ (R, listOf vr.toArray epr) :: (L + 2, oR) :: news, q.1 ≠ LL := by
    intro q hq e
    rcases List.mem_cons.mp hq with rfl | hq
    · exact Nat.ne_of_lt lLR e
    · rcases List.mem_cons.mp hq with rfl | hq
      · exact Nat.ne_of_lt lL2 e
      · exact Nat.ne_of_lt (lLn q hq) e
  k_with_none
  k_with "execs cons Assign cons" => k_extra "exa"
  k_with "subscriptTail" => k_extra "pick"
  k_with "subscriptTail Name Constant ref int" => k_extra "item"
  k_with "binaryOp Mod int int" => k_extra "mod"
  k_with "call builtin:chr" => k_extra "chr"
  k_with "call builtin:ord" => k_extra "ord"
  k_with "exec Assign" => k_extra "asg"
  k_with "exec Expr" => k_extra "expr"
  k_with "ar" => (first | with_reducible exact ar91 | with_reducible exact ar103 | with_reducible exact ar440 | with_reducible exact ar649 (by assumption) | with_reducible exact ar344 | with_reducible exact ar560 | with_reducible exact ar295 | with_reducible exact ar484 | with_reducible exact ar151 | with_reducible exact ar486 | with_reducible exact ar329 | with_reducible exact ar213 | with_reducible exact ar16 | with_reducible exact ar424 | with_reducible exact ar51 | with_reducible exact ar173 | with_reducible exact ar451)
  k_with "item" => (refine item_ints (News.isList (by k_asm) (show (D4, listOf ys.toArray ep4) ∈ _ from by first | exact .tail _ (.tail _ (.tail _ hD4)) | exact .tail _ (.tail _ hD4) | exact .tail _ (.tail _ (.tail _ (.tail _ hD4))))) hys (by decide) (by decide) rfl ?_; intro tit)
  k_with "mod" => (refine mod_emod (by first | decide | omega) ?_; intro t' tk')
  k_with "chr" => (refine chr_of_range (by omega) (by omega) ?_)
  k_with "kall" => (exact hoffL)
  k_with "ord" => (refine P.ord_of_char ?_)
  k_with "exa" => (refine Stop.mk ?_)
  k_steps
  refine Stop.of ?_
  (rename News _ _ _ _ => N12)
  (rename Fr _ _ _ _ => F12)
  exact hnext LL wd tw hid th (192 + s6 % 1000).toNat (((192 + s6 % 1000).toNat : Int) + 1 + s7 % 500).toNat ((((((192 + s6 % 1000).toNat : Int) + 1 + s7 % 500).toNat : Int)) + 1 + s8 % 500).toNat _ _ _ _ _ _ hhid hw5.1 hw5.2 (by omega) (by omega) (by omega) (by omega) lLR lL2 lLn F12 N12
end Mine
namespace Mine

/-- the end of a turn that may have made generators -/
def MyEndB (h₀ : Heap) (L : Addr) {σ : Type} (ms : σ → Str → Option Value) (ns : σ → List (Addr × Obj)) (own : List (Addr × Obj)) (Inv : σ → Prop) (Q : Flow → Shared → Prop) (s : Shared) (f : Flow) (s₂ : Shared) : Prop :=
  match f with
  | .ret v => Q (.ret v) s₂
  | .brk => Q .next s₂
  | _ => ∃ h' tk' g' x', s₂ = { s with heap := h', toks := tk', gens := g' } ∧ AllBare g' ∧ Fr h₀ L h' (ms x') ∧ News h₀ L h' (ns x' ++ own) ∧ Inv x'
theorem MyEndB.next {h₀ h' : Heap} {L : Addr} {σ : Type} {ms : σ → Str → Option Value} {ns : σ → List (Addr × Obj)} {own : List (Addr × Obj)} {Inv : σ → Prop} {Q : Flow → Shared → Prop} {s : Shared} {tk' : Nat} {g'} (x' : σ) (B : AllBare g') (F : Fr h₀ L h' (ms x')) (N : News h₀ L h' (ns x' ++ own)) (i : Inv x') :
    MyEndB h₀ L ms ns own Inv Q s .next { s with heap := h', toks := tk', gens := g' } := ⟨h', tk', g', x', rfl, B, F, N, i⟩

section
variable {prog : Program} {w : World} {A : Around} {E : Value → Shared → Prop} {s : Shared} {env : Env} {h₀ : Heap} {x : Str} {px : Pos} {body : List Stmt} {Q : Flow → Shared → Prop}
/-- for x in a list, whose turns may make generators -/
theorem loop_listG {d : Addr} {vs : List Value} {ep : Nat} {σ : Type} (ms : σ → Str → Option Value) (ns : σ → List (Addr × Obj)) (Inv : Addr → Nat → σ → Prop) (x₀ : σ) (hd : (d, listOf vs.toArray ep) ∈ ns x₀) (hh : A.handled = none)
    (hx : env.kindOf x = some .local) (hp : (env.scope.kind == .class || (env.scope.kind == .module && env.locals != env.globals)) = false)
    (hB : AllBare s.gens) (F : Fr h₀ env.locals s.heap (ms x₀)) (N : News h₀ env.locals s.heap (ns x₀)) (hj : ∀ I, (∀ p ∈ ns x₀, p.1 < I) → Inv I 0 x₀) (hnw : ∀ I, (∀ p ∈ ns x₀, p.1 < I) → ∀ i y, Inv I i y → ∀ p ∈ ns y, p.1 ≠ I)
    (turn : ∀ I i v y h tk g own oI, (∀ p ∈ ns x₀, p.1 < I) → vs[i]? = some v → Inv I i y → (∀ p ∈ own, p.1 = I ∨ p.1 = d) → (I, oI) ∈ own → NoCode oI → AllBare g → Fr h₀ env.locals h (fun z => if z = x then some v else ms y z) → News h₀ env.locals h (ns y ++ own) →
      wpAny (model prog w) A (execs body env) (MyEndB h₀ env.locals ms ns own (Inv I (i + 1)) Q s) E { s with heap := h, toks := tk, gens := g })
    (done : ∀ I y h tk g, Inv I vs.length y → AllBare g → Fr h₀ env.locals h (ms y) → News h₀ env.locals h (ns y) → Q .next { s with heap := h, toks := tk, gens := g })
    (hE : PassesOwn (model prog w) A env E := by passes_own) :
    wpAny (model prog w) A (pyIter (.ref d)) (fun it s₂ => codeAny (model prog w) A (.forLoop (.Name x px) it body [] env) (fun r s' => match r with | .ok f => Q f s' | .error e => cameBackBy (model prog w) A env E e s') s₂) E s := by
  k_with_none
  k_with "ar" => (first | with_reducible exact ar244 (by assumption) | with_reducible exact ar186 (by assumption) (by assumption))
  have hI : ∀ p ∈ ns x₀, p.1 < s.heap.objs.size := fun p hp => Heap.lt_size (N p hp).1
  have hIL : env.locals ≠ s.heap.objs.size := Nat.ne_of_lt F.ns.lt
  have hIn : h₀.get? s.heap.objs.size = none := next_is_new F
  have hls : s.heap.IsList d vs.toArray := News.isList N hd
  have hne : d ≠ s.heap.objs.size := Nat.ne_of_lt (hI _ hd)
  have hdL : d ≠ env.locals := (N _ hd).2.1
  refine wpAny_pyIter_list hls ?_
  have st0 : (s.heap.push { cls := .type "list_iterator", data := .fields #[.ref d, rawInt 0] }).IsListIter s.heap.objs.size d 0 := ⟨_, Heap.get?_push_size _ rfl, rfl, rfl⟩
  have hls0 : (s.heap.push { cls := .type "list_iterator", data := .fields #[.ref d, rawInt 0] }).IsList d vs.toArray := hls.at fun o e => Heap.get?_push_of_some _ e
  have F0 : Fr h₀ env.locals (s.heap.push { cls := .type "list_iterator", data := .fields #[.ref d, rawInt 0] }) (ms x₀) := F.push _
  have N0 : News h₀ env.locals (s.heap.push { cls := .type "list_iterator", data := .fields #[.ref d, rawInt 0] }) (ns x₀) := fun p hp => ⟨Heap.get?_push_of_some _ (N p hp).1, (N p hp).2⟩
  obtain ⟨I, hIe⟩ : ∃ I, s.heap.objs.size = I := ⟨_, rfl⟩
  rw [hIe] at hI hIL hIn hne st0 ⊢
  have W := Walks.list (prog := prog) (w := w) hh I d hne vs.toArray
  have hsz : vs.toArray.size = vs.length := by simp
  rw [hsz] at W
  have hLf : env.locals ∉ [I, d] := by
    intro hm
    rcases List.mem_cons.mp hm with e | hm
    · exact hIL e
    · exact hdL (List.mem_singleton.mp hm).symm
  have hwr : ∀ b ∈ [I], h₀.get? b = none := fun b hb => by rw [List.mem_singleton.mp hb]; exact hIn
  have hLw : env.locals ∉ [I] := fun h => hLf (W.sub _ h)
  have old : ∀ b o, h₀.get? b = some o → b ∉ [I] := fun b o e hb => by rw [hwr b hb] at e; cases e
  refine codeAny_forLoop
    (fun k s' => ∃ h' tk g i z, s' = { s with heap := h', toks := tk, gens := g } ∧ (h'.IsListIter I d i ∧ h'.IsList d vs.toArray) ∧ AllBare g ∧ Fr h₀ env.locals h' (ms z) ∧ News h₀ env.locals h' (ns z) ∧ Inv I i z ∧ i ≤ vs.length ∧ k = vs.length + 1 - i) ?_ (vs.length + 1)
    ⟨_, s.toks, s.gens, 0, x₀, rfl, ⟨st0, hls0⟩, hB, F0, N0, hj I hI, Nat.zero_le _, rfl⟩
  rintro k s' ⟨h', tk, g, i, z, rfl, hst', hB', F', N', hJ, hi, rfl⟩
  have hnw' : ∀ p ∈ ns z, p.1 ∉ [I] := fun p hp hm => hnw I hI i z hJ p hp (List.mem_singleton.mp hm)
  have next : ∀ h₁ : Heap, (∀ b o, b ∉ [I] → h'.get? b = some o → h₁.get? b = some o) → Fr h₀ env.locals h₁ (ms z) ∧ News h₀ env.locals h₁ (ns z) := fun h₁ hk₁ =>
    ⟨⟨F'.ns.at' fun o e => hk₁ _ o hLw e, fun b o e => hk₁ b o (old b o e) (F'.keep b o e), F'.above⟩, fun p hp => ⟨hk₁ _ _ (hnw' p hp) (N' p hp).1, (N' p hp).2⟩⟩
  by_cases hlt : i < vs.length
  · refine W.item i _ _ _ hlt hst' fun v h₁ tk₁ hP hst₁ hk₁ => ?_
    obtain ⟨F₁, N₁⟩ := next h₁ hk₁
    refine wpAny_assign_Name (wpAny_storeName_local hx F₁.ns (fun h₂ hn₂ hs₂ => ?_) hp)
    have F₂ := F₁.set hn₂ hs₂
    have Nown : News h₀ env.locals h₂ (ownOf h₀ [I, d] h₂) := news_ownOf hLf
    have hst₂ := W.frame _ _ _ hst₁ fun b hb o e => (hs₂.2 b fun q => hLf (q ▸ hb)).trans e
    obtain ⟨oI, hoI, _, hdI⟩ := hst₂.1
    have N₂ : News h₀ env.locals h₂ (ns z ++ ownOf h₀ [I, d] h₂) := fun p hp => (List.mem_append.mp hp).elim (fun q => (N₁.set hs₂) p q) fun q => Nown p q
    have fin : ∀ s₃ : Shared, (∃ h' tk' g' x', s₃ = { s with heap := h', toks := tk', gens := g' } ∧ AllBare g' ∧ Fr h₀ env.locals h' (ms x') ∧ News h₀ env.locals h' (ns x' ++ ownOf h₀ [I, d] h₂) ∧ Inv I (i + 1) x') →
        ∃ m, m < vs.length + 1 - i ∧ ∃ h' tk g i z, s₃ = { s with heap := h', toks := tk, gens := g } ∧ (h'.IsListIter I d i ∧ h'.IsList d vs.toArray) ∧ AllBare g ∧ Fr h₀ env.locals h' (ms z) ∧ News h₀ env.locals h' (ns z) ∧ Inv I i z ∧ i ≤ vs.length ∧ m = vs.length + 1 - i := by
      rintro s₃ ⟨h₃', tk₃, g₃, x₃, rfl, B₃, F₃, N₃, hi₃⟩
      refine ⟨vs.length + 1 - (i + 1), by omega, h₃', tk₃, g₃, i + 1, x₃, rfl, ?_, B₃, F₃, (fun p hp => N₃ p (List.mem_append.mpr (.inl hp))), hi₃, hlt, rfl⟩
      refine W.frame _ _ _ hst₁ fun b hb o e => ?_
      have e₂ : h₂.get? b = some o := (hs₂.2 b fun q => hLf (q ▸ hb)).trans e
      cases hn : h₀.get? b with
      | some o₀ =>
        have : o₀ = o := by have := F₂.keep b o₀ hn; rw [e₂] at this; exact (Option.some.inj this).symm
        exact this ▸ F₃.keep b o₀ hn
      | none => exact (N₃ _ (List.mem_append_right _ (mem_ownOf hb hn e₂))).1
    refine wpAny_passesOwn hE (wpAny_mono (turn I i v z h₂ _ g (ownOf h₀ [I, d] h₂) oI hI (by simpa using hP) hJ (fun p hp => by simpa using ownOf_sub p hp) (mem_ownOf (.head _) hIn hoI) ⟨_, hdI, by intro q t; simp⟩ hB' F₂ N₂) (fun f s₃ h₃ => ?_) fun _ _ e => e)
    cases f with
    | ret v => exact h₃
    | brk => exact h₃
    | cont => exact fin s₃ h₃
    | next => exact fin s₃ h₃
  · have hin : i = vs.length := by omega
    subst hin
    refine W.done _ _ _ hst' fun h₁ tk₁ hk₁ => wpAny_execs_nil ?_
    obtain ⟨F₁, N₁⟩ := next h₁ hk₁
    exact done I z h₁ tk₁ g hJ hB' F₁ N₁
end
end Mine
namespace Mine
/-- -1, 0, 1, as the first text lies -/
noncomputable def collV (x y : Str) : Int := b2i (decide (y.cps.toList < x.cps.toList)) - b2i (decide (x.cps.toList < y.cps.toList))
noncomputable def lsAt (ls : List Str) (w : List Int) (i : Nat) : Str := ls.getD (w.getD i 0).toNat (Str.ofString "")
noncomputable def riseTo (ls : List Str) (w : List Int) : Nat → Int
  | 0 => 0
  | i + 1 => if collV (lsAt ls w i) (lsAt ls w (i + 1)) = -1 then riseTo ls w i + ((i : Int) + 1) else riseTo ls w i
noncomputable def riseL (ls : List Str) (w : List Int) : Int := riseTo ls w (w.length - 1)
noncomputable def fillsW (rs w : List Int) : Bool := fillsL w (List.replicate rs.length 0)
theorem rangeL_mem : ∀ (n : Nat) (a k : Int), k ∈ rangeL a n → a ≤ k ∧ k < a + n
  | 0, _, _, h => nomatch h
  | n + 1, a, k, h => by
    rcases List.mem_cons.mp h with rfl | h
    · exact ⟨Int.le_refl _, by omega⟩
    · have := rangeL_mem n (a + 1) k h
      omega
theorem stepP_mem {p : List Int → Int → Bool} {n : Nat} {ws : List (List Int)} {P : Int → Prop} (h : ∀ w ∈ ws, ∀ k ∈ w, P k) (hn : ∀ k : Int, 0 ≤ k → k < n → P k) : ∀ w ∈ stepP p n ws, ∀ k ∈ w, P k := by
  k_with_none
  k_with "ar" => (first | with_reducible exact ar211 (by assumption) | with_reducible exact ar371 (by assumption))
  intro w hw k hk
  obtain ⟨v, hv, hw⟩ := List.mem_flatMap.mp hw
  obtain ⟨j, hj, rfl⟩ := List.mem_map.mp hw
  rcases List.mem_append.mp hk with hk | hk
  · exact h v hv k hk
  · rw [List.mem_singleton.mp hk]
    have := rangeL_mem _ _ _ (List.mem_filter.mp hj).1
    exact hn j (by omega) (by omega)
theorem wordsN_mem (rs : List Int) : ∀ n, ∀ w ∈ wordsN rs n, ∀ k ∈ w, 0 ≤ k ∧ k < (rs.length : Int)
  | 0, w, hw, k, hk => by rw [List.mem_singleton.mp hw] at hk; cases hk
  | n + 1, w, hw, k, hk => stepP_mem (P := fun k => 0 ≤ k ∧ k < (rs.length : Int)) (wordsN_mem rs n) (fun k h0 hk => ⟨h0, hk⟩) w hw k hk

section
variable {w : World} {p : Program} {loose : List Str} {mean : ExcName → Option Value} {mg mb : Str → Option Value}
  {dp un : Nat} {gd : Option (List Code)} {cn : Str} {cs : Scope} {a : Addr} {ccd : Value} {cl : List (Str × Addr)} {outer : List Env} {A₀ : Around} {base h₀ : Heap} {L : Addr} {m : Str → Option Value} {news : List (Addr × Obj)} {s : Shared}
  {Q E : Value → Shared → Prop}
set_option maxRecDepth 100000 in
set_option maxHeartbeats 1600000 in
theorem t_coll {x y : Str} {tx ty : Tok} (B : Below A₀ base outer h₀) (F : Fr h₀ L s.heap m) (X : (hd.heap_39 w.params).In h₀) (N : News h₀ L s.heap news) (T : Top p loose mean mg mb h₀) (hk : cs.kind = .function)
  (hd : dp + 100 < recursionLimit) (hu : un + 800 < cLine)
  (hret : ∀ t h' tk', Fr h₀ L h' m → News h₀ L h' news → Q (.int (collV x y) t) { s with heap := h', toks := tk' }) :
    wpAny (model PR w) (ktrTop dp un gd cn cs L a ccd cl outer) (call (.ref 77) [.str x tx, .str y ty]) Q E s := by
  k_with_none
  k_with "ar" => (first | with_reducible exact ar496 (by assumption))
  k_with_none
  k_with "ar" => (first | with_reducible exact ar496 (by assumption))
  w_top off
  refine wpAny_call ?_
  k_dflt ktr_enter
  k_steps
  exact hret _ _ _ (by k_asm) (by k_asm)
end
theorem inW_len {ls : List Str} {k : Int} (hl : ∀ l ∈ ls, l.length ≤ 1) : ∀ (ws : List Int) (t : Str), (inW ls k t ws).length ≤ t.length + ws.length
  | [], t => Nat.le_refl _
  | o :: r, t => by
    have h1 := inW_len (k := k) hl r (t ++ chOf ls k o)
    have h2 : (chOf ls k o).length ≤ 1 := by
      unfold chOf
      split
      · decide +kernel
      · split
        · decide +kernel
        · rw [List.getD_eq_getElem?_getD]
          cases h : ls[o.toNat]? with
          | none => decide +kernel
          | some l => exact hl l (List.mem_of_getElem? h)
    rw [str_app_len] at h1
    show (inW ls k (t ++ chOf ls k o) r).length ≤ _
    rw [List.length_cons]
    omega
theorem textTo_len {ls : List Str} {hid : Str} {rs ws : List Int} (hl : ∀ l ∈ ls, l.length ≤ 1) (hh : hid.length ≤ 3) (hw : ws.length ≤ 6) (hr : ∀ r ∈ rs, 0 ≤ r ∧ r ≤ 3) : ∀ i, (textTo ls hid rs ws i).length ≤ 20 * i
  | 0 => Nat.le_of_eq (by rw [textTo]; decide +kernel)
  | i + 1 => by
    have h0 := textTo_len hl hh hw hr i
    have h1 := inW_len (k := (i : Int) + 1) hl ws (textTo ls hid rs ws i ++ hid)
    have hg : ∀ j, 0 ≤ rs.getD j 0 ∧ rs.getD j 0 ≤ 3 := fun j => by
      rw [List.getD_eq_getElem?_getD]
      cases h : rs[j]? with
      | none => decide
      | some r => exact hr r (List.mem_of_getElem? h)
    have h2 := mul_len3 (n := rs.getD i 0 - rs.getD (i + 1) 0) (by have := (hg i).2; have := (hg (i + 1)).1; omega)
    rw [str_app_len] at h1
    rw [textTo, str_app_len]
    omega
structure LS where
  ev : List Value
  es : List Int
  epe : Nat
  tv : List Value
  ts : List Int
  ept : Nat
  ow : Option Value
  orr : Option Value
  ok : Option Value
  ot : Option Value
noncomputable def msL (m₀ : Str → Option Value) (x : LS) : Str → Option Value := fun z => if z = Str.ofString "told" then x.ot else if z = Str.ofString "k" then x.ok else if z = Str.ofString "rise" then x.orr else if z = Str.ofString "word" then x.ow else m₀ z
theorem msL_at {h₀ h : Heap} {L : Addr} {m m₀ : Str → Option Value} {x : LS} (F : Fr h₀ L h m) (h1 : m (Str.ofString "told") = x.ot) (h2 : m (Str.ofString "k") = x.ok) (h3 : m (Str.ofString "rise") = x.orr) (h4 : m (Str.ofString "word") = x.ow)
    (h5 : ∀ z, z ≠ Str.ofString "told" → z ≠ Str.ofString "k" → z ≠ Str.ofString "rise" → z ≠ Str.ofString "word" → m z = m₀ z) : Fr h₀ L h (msL m₀ x) := by
  have e : m = msL m₀ x := by
    funext z
    unfold msL
    split
    · rename_i e; rw [e, h1]
    · split
      · rename_i e; rw [e, h2]
      · split
        · rename_i e; rw [e, h3]
        · split
          · rename_i e; rw [e, h4]
          · exact h5 z (by assumption) (by assumption) (by assumption) (by assumption)
  exact e ▸ F
structure RI where
  r : Int
  tr : Tok
  ok : Option Value
noncomputable def msI (m₀ : Str → Option Value) (x : RI) : Str → Option Value := fun z => if z = Str.ofString "k" then x.ok else if z = Str.ofString "rise" then some (.int x.r x.tr) else m₀ z
theorem msI_at {h₀ h : Heap} {L : Addr} {m m₀ : Str → Option Value} {x : RI} (F : Fr h₀ L h m) (h1 : m (Str.ofString "k") = x.ok) (h2 : m (Str.ofString "rise") = some (.int x.r x.tr))
    (h5 : ∀ z, z ≠ Str.ofString "k" → z ≠ Str.ofString "rise" → m z = m₀ z) : Fr h₀ L h (msI m₀ x) := by
  have e : m = msI m₀ x := by
    funext z
    unfold msI
    split
    · rename_i e; rw [e, h1]
    · split
      · rename_i e; rw [e, h2]
      · exact h5 z (by assumption) (by assumption)
  exact e ▸ F
noncomputable def mD (Ev Tk : Addr) (m₀ : Str → Option Value) : Str → Option Value := fun z => if z = Str.ofString "taken" then some (.ref Tk) else if z = Str.ofString "every" then some (.ref Ev) else m₀ z
end Mine
namespace Mine
noncomputable def nsL (Ev Tk : Addr) (rest : List (Addr × Obj)) (x : LS) : List (Addr × Obj) := (Tk, listOf x.tv.toArray x.ept) :: (Ev, listOf x.ev.toArray x.epe) :: rest
structure LInv (rs : List Int) (ls : List Str) (i : Nat) (x : LS) : Prop where
  h1 : IntsAre x.ev x.es
  h2 : x.es = ((wordsL rs).take i).map (riseL ls)
  h3 : IntsAre x.tv x.ts
  h4 : x.ts = (((wordsL rs).take i).filter (fillsW rs)).map (riseL ls)
theorem append_2 {prog : Program} {w : World} {A : Around} {E : Value → Shared → Prop} {s : Shared} {h₀ : Heap} {L : Addr} {m : Str → Option Value} {Q : Value → Shared → Prop} {D : Addr} {e : Addr × Obj} {vs : List Value} {ep : Nat} {x : Value} {r : List (Addr × Obj)} (F : Fr h₀ L s.heap m) (N : News h₀ L s.heap (e :: (D, listOf vs.toArray ep) :: r)) (he : e.1 ≠ D) (hr : ∀ q ∈ r, q.1 ≠ D) (hz : vs.length ≤ 1000)
    (h : ∀ h', Fr h₀ L h' m → News h₀ L h' (e :: (D, listOf (vs ++ [x]).toArray (ep + 1)) :: r) → Q .none { s with heap := h' }) : wpAny (model prog w) A (call (.builtin "list.append") [.ref D, x]) Q E s := by
  refine append_K (its := vs.toArray) (n := ep) F N (.tail he (.head hr)) (fun h' F' N' => h h' F' ?_) ?_
  · have e : (vs ++ [x]).toArray = vs.toArray.push x := by simp
    rw [e]; exact N'
  · rw [sizeLine_eq]; simp; omega
theorem wpAny_upd {prog : Program} {w : World} {A : Around} {E : Value → Shared → Prop} {s : Shared} {Q : Flow → Shared → Prop} {t : Sem Flow} (h : wpAny (model prog w) A t Q E s) : wpAny (model prog w) A t Q E s := h

set_option maxRecDepth 100000 in
set_option maxHeartbeats 4000000 in
theorem law_seg4 {w : World} {p : Program} {loose : List Str} {mean : ExcName → Option Value} {mg mb : Str → Option Value} {h₀ : Heap} {L fa D11 X1 D4 R LL : Addr} {cd : Value} {s : Shared} {oR : Obj} {vr vl : List Value} {rs : List Int} {ls : List Str} {epr epl : Nat} {f sc c lf wd : Int} {tf tsc tc tl tw th : Tok} {hid : Str} {oz : Option Value} {news : List (Addr × Obj)} {Q : Flow → Shared → Prop} {E : Value → Shared → Prop}
    (hE : PassesOwn (model PR w) (callerA.deeper (lawEnv L fa cd)) (lawEnv L fa cd) E) (B : Below callerA h₀ [] h₀) (F : Fr h₀ L s.heap (mC LL wd tw hid th (msR (mA D11 X1 D4 f sc c tf tsc tc) ⟨[], [], lf, tl, 0, oz⟩)))
    (X : (hd.heap_39 w.params).In h₀) (N : News h₀ L s.heap ((L + 2, oR) :: (LL, listOf vl.toArray epl) :: (R, listOf vr.toArray epr) :: news)) (T : Top p loose mean mg mb h₀)
    (dR : oR.data = .cell (some (.ref R))) (hir : IntsAre vr rs) (hil : StrsAre vl ls) (hB : AllBare s.gens)
    (hrl : rs.length ≤ 3) (hrs : ∀ r ∈ rs, 0 ≤ r ∧ r ≤ 3) (hsum : rs.sum = c) (hc0 : 1 ≤ c) (hc6 : c ≤ 6) (hhl : hid.length ≤ 3) (hll : ∀ l ∈ ls, l.length ≤ 1) (hls : ls.length = 3)
    (hlaw : ∀ w ∈ wordsL rs, checkP (textTo ls hid rs w (rs.length - 1)) = fillsW rs w)
    (hnext : ∀ Ev Tk ev tv epe ept ow orr ok ot h' tk' g', AllBare g' → IntsAre ev ((wordsL rs).map (riseL ls)) → IntsAre tv (((wordsL rs).filter (fillsW rs)).map (riseL ls)) → (∀ q ∈ (L + 2, oR) :: (LL, listOf vl.toArray epl) :: (R, listOf vr.toArray epr) :: news, q.1 < Ev ∧ q.1 < Tk) →
      Fr h₀ L h' (msL (mD Ev Tk (mC LL wd tw hid th (msR (mA D11 X1 D4 f sc c tf tsc tc) ⟨[], [], lf, tl, 0, oz⟩))) ⟨[], [], 0, [], [], 0, ow, orr, ok, ot⟩) →
      News h₀ L h' ((Tk, listOf tv.toArray ept) :: (Ev, listOf ev.toArray epe) :: (L + 2, oR) :: (LL, listOf vl.toArray epl) :: (R, listOf vr.toArray epr) :: news) → wpAny (model PR w) (callerA.deeper (lawEnv L fa cd)) (execs (lawParts.1.drop 20) (lawEnv L fa cd)) Q E { s with heap := h', toks := tk', gens := g' }) :
    wpAny (model PR w) (callerA.deeper (lawEnv L fa cd)) (execs (lawParts.1.drop 17) (lawEnv L fa cd)) Q E s := by
  k_with_none
  k_with "execs cons Assign cons" => k_extra "exa"
  k_with "exec For Name Call cons nil" => k_extra "for"
  k_with "pyIter ref" => k_extra "iter"
  k_with "last pyIter ref" => k_extra "iter"
  k_with "call type:range" => k_extra "range"
  k_with "call builtin:list.append" => k_extra "app"
  k_with "subscriptTail Name Name ref int" => k_extra "item"
  k_with "subscriptTail Name BinOp ref int" => k_extra "item"
  k_with "subscriptTail Name Subscript ref int" => k_extra "sitem"
  k_with "call ref" => ((with_reducible show wpAny _ _ (call (Value.ref 77) _ _) _ _ _); k_extra "call_77")
  k_with "call ref" => ((with_reducible show wpAny _ _ (call (Value.ref 70) _ _) _ _ _); k_extra "call_70")
  k_with "call ref" => ((with_reducible show wpAny _ _ (call (Value.ref 103) _ _) _ _ _); k_extra "call_103")
  k_with "call ref" => ((with_reducible show wpAny _ _ (call (Value.ref 96) _ _) _ _ _); k_extra "call_96")
  k_with "call ref" => ((with_reducible show wpAny _ _ (call (Value.ref 89) _ _) _ _ _); k_extra "call_89")
  k_with "ar" => (first | with_reducible exact ar509 (by assumption) (by assumption) | with_reducible exact ar157 | with_reducible exact ar165 | with_reducible exact ar627 (by assumption) (by assumption) | with_reducible exact ar203 (by assumption) (by assumption) (by assumption) | with_reducible exact ar138 | with_reducible exact ar60 (by assumption) | with_reducible exact ar32 (by assumption) | with_reducible exact ar460 (by assumption) | with_reducible exact ar589 (by assumption) (by assumption) (by assumption) | with_reducible exact ar45 (by assumption) (by assumption) (by assumption) | with_reducible exact ar43 (by assumption) (by assumption) (by assumption) | with_reducible exact ar359 (by assumption) | with_reducible exact ar541 (by assumption) | with_reducible exact ar95 (by assumption) | with_reducible exact ar202 (by assumption) (by assumption) (by assumption) | with_reducible exact ar23 (by assumption) (by assumption) | with_reducible exact ar643 (by assumption) | with_reducible exact ar25 (by assumption) (by assumption) (by assumption) | with_reducible exact ar279 | with_reducible exact ar30 | with_reducible exact ar473 (by assumption) | with_reducible exact ar388 (by assumption) (by assumption) | with_reducible exact ar101 (by assumption) (by assumption) (by assumption) | with_reducible exact ar252 (by assumption) | with_reducible exact ar18 (by assumption) (by assumption) (by assumption) | with_reducible exact ar241 (by assumption) (by assumption) | with_reducible exact ar488 | with_reducible exact ar92 | with_reducible exact ar34)
  conv in lawParts.1.drop 17 => whnf
  k_with_none
  k_with "execs cons Assign cons" => k_extra "exa"
  k_with "exec For Name Call cons nil" => k_extra "for"
  k_with "pyIter ref" => k_extra "iter"
  k_with "last pyIter ref" => k_extra "iter"
  k_with "call type:range" => k_extra "range"
  k_with "call builtin:list.append" => k_extra "app"
  k_with "subscriptTail Name Name ref int" => k_extra "item"
  k_with "subscriptTail Name BinOp ref int" => k_extra "item"
  k_with "subscriptTail Name Subscript ref int" => k_extra "sitem"
  k_with "call ref" => ((with_reducible show wpAny _ _ (call (Value.ref 77) _ _) _ _ _); k_extra "call_77")
  k_with "call ref" => ((with_reducible show wpAny _ _ (call (Value.ref 70) _ _) _ _ _); k_extra "call_70")
  k_with "call ref" => ((with_reducible show wpAny _ _ (call (Value.ref 103) _ _) _ _ _); k_extra "call_103")
  k_with "call ref" => ((with_reducible show wpAny _ _ (call (Value.ref 96) _ _) _ _ _); k_extra "call_96")
  k_with "call ref" => ((with_reducible show wpAny _ _ (call (Value.ref 89) _ _) _ _ _); k_extra "call_89")
  k_with "ar" => (first | with_reducible exact ar509 (by assumption) (by assumption) | with_reducible exact ar157 | with_reducible exact ar165 | with_reducible exact ar627 (by assumption) (by assumption) | with_reducible exact ar203 (by assumption) (by assumption) (by assumption) | with_reducible exact ar138 | with_reducible exact ar60 (by assumption) | with_reducible exact ar32 (by assumption) | with_reducible exact ar460 (by assumption) | with_reducible exact ar589 (by assumption) (by assumption) (by assumption) | with_reducible exact ar45 (by assumption) (by assumption) (by assumption) | with_reducible exact ar43 (by assumption) (by assumption) (by assumption) | with_reducible exact ar359 (by assumption) | with_reducible exact ar541 (by assumption) | with_reducible exact ar95 (by assumption) | with_reducible exact ar202 (by assumption) (by assumption) (by assumption) | with_reducible exact ar23 (by assumption) (by assumption) | with_reducible exact ar643 (by assumption) | with_reducible exact ar25 (by assumption) (by assumption) (by assumption) | with_reducible exact ar279 | with_reducible exact ar30 | with_reducible exact ar473 (by assumption) | with_reducible exact ar388 (by assumption) (by assumption) | with_reducible exact ar101 (by assumption) (by assumption) (by assumption) | with_reducible exact ar252 (by assumption) | with_reducible exact ar18 (by assumption) (by assumption) (by assumption) | with_reducible exact ar241 (by assumption) (by assumption) | with_reducible exact ar488 | with_reducible exact ar92 | with_reducible exact ar34)
  w_top off
  k_with "exa" => (refine wpAny_execs_cons ?_; (try dsimp only))
  k_with "for" => ((rename Fr _ _ _ _ => lF'); (with_unfolding_all refine' ForT lF' ?_); k_whole)
  k_with "iter" => (refine Stop.mk ?_)
  k_with "call_89" => (with_unfolding_all refine' t_words ?B ?F ?X ?N ?T ?hk (d := R) (vr := vr) (rs := rs) (epr := epr) ?hD hir hrl hrs ?c1 ?hd ?hu ?_; (case B => k_asm); (case F => k_asm); (case X => k_asm); (case N => k_asm); (case T => k_asm); (case hk => exact rfl); (case hD => exact .tail _ (.tail _ (.tail _ (.tail _ (.head _))))); (case c1 => omega); (case hd => ktr_room); (case hu => ktr_units); k_whole; intro W vs ep cur h' tk' F' N' hW hWI lW; (try dsimp only); (try k_fold))
  k_steps
  refine Stop.of ?_
  k_with_none
  k_with "execs cons Assign cons" => k_extra "exa"
  k_with "exec For Name Call cons nil" => k_extra "for"
  k_with "pyIter ref" => k_extra "iter"
  k_with "last pyIter ref" => k_extra "iter"
  k_with "call type:range" => k_extra "range"
  k_with "call builtin:list.append" => k_extra "app"
  k_with "subscriptTail Name Name ref int" => k_extra "item"
  k_with "subscriptTail Name BinOp ref int" => k_extra "item"
  k_with "subscriptTail Name Subscript ref int" => k_extra "sitem"
  k_with "call ref" => ((with_reducible show wpAny _ _ (call (Value.ref 77) _ _) _ _ _); k_extra "call_77")
  k_with "call ref" => ((with_reducible show wpAny _ _ (call (Value.ref 70) _ _) _ _ _); k_extra "call_70")
  k_with "call ref" => ((with_reducible show wpAny _ _ (call (Value.ref 103) _ _) _ _ _); k_extra "call_103")
  k_with "call ref" => ((with_reducible show wpAny _ _ (call (Value.ref 96) _ _) _ _ _); k_extra "call_96")
  k_with "call ref" => ((with_reducible show wpAny _ _ (call (Value.ref 89) _ _) _ _ _); k_extra "call_89")
  k_with "ar" => (first | with_reducible exact ar509 (by assumption) (by assumption) | with_reducible exact ar157 | with_reducible exact ar165 | with_reducible exact ar627 (by assumption) (by assumption) | with_reducible exact ar203 (by assumption) (by assumption) (by assumption) | with_reducible exact ar138 | with_reducible exact ar60 (by assumption) | with_reducible exact ar32 (by assumption) | with_reducible exact ar460 (by assumption) | with_reducible exact ar589 (by assumption) (by assumption) (by assumption) | with_reducible exact ar45 (by assumption) (by assumption) (by assumption) | with_reducible exact ar43 (by assumption) (by assumption) (by assumption) | with_reducible exact ar359 (by assumption) | with_reducible exact ar541 (by assumption) | with_reducible exact ar95 (by assumption) | with_reducible exact ar202 (by assumption) (by assumption) (by assumption) | with_reducible exact ar23 (by assumption) (by assumption) | with_reducible exact ar643 (by assumption) | with_reducible exact ar25 (by assumption) (by assumption) (by assumption) | with_reducible exact ar279 | with_reducible exact ar30 | with_reducible exact ar473 (by assumption) | with_reducible exact ar388 (by assumption) (by assumption) | with_reducible exact ar101 (by assumption) (by assumption) (by assumption) | with_reducible exact ar252 (by assumption) | with_reducible exact ar18 (by assumption) (by assumption) (by assumption) | with_reducible exact ar241 (by assumption) (by assumption) | with_reducible exact ar488 | with_reducible exact ar92 | with_reducible exact ar34)
  (rename_i Ev _ lEv _ Tk _ lTk _ _)
  clear lF'
  obtain ⟨lE2, lEL, lER, lEn⟩ := lEv
  obtain ⟨lTE, lT2, lTL, lTR, lTn⟩ := lTk
  replace lEn : ∀ q ∈ news, q.1 < Ev := ktn_ltOf lEn
  replace lTn : ∀ q ∈ news, q.1 < Tk := ktn_ltOf lTn
  have hET : ∀ q ∈ (L + 2, oR) :: (LL, listOf vl.toArray epl) :: (R, listOf vr.toArray epr) :: news, q.1 < Ev ∧ q.1 < Tk := by
    intro q hq
    rcases List.mem_cons.mp hq with rfl | hq
    · exact ⟨lE2, lT2⟩
    · rcases List.mem_cons.mp hq with rfl | hq
      · exact ⟨lEL, lTL⟩
      · rcases List.mem_cons.mp hq with rfl | hq
        · exact ⟨lER, lTR⟩
        · exact ⟨lEn q hq, lTn q hq⟩
  have hcT : ∀ q ∈ cur, Tk < q.1 := fun q hq => lW q hq _ (.head _)
  have hcE : ∀ q ∈ cur, Ev < q.1 := fun q hq => lW q hq _ (.tail _ (.head _))
  have hwl2 := hWI.len
  have hlen := wordsN_len rs hrl rs.sum.toNat
  have hvl : vs.length ≤ 729 := by
    have h3 : 3 ^ rs.sum.toNat ≤ 3 ^ 6 := Nat.pow_le_pow_right (by decide) (by omega)
    have h4 : (3 : Nat) ^ 6 = 729 := by decide
    unfold wordsL at hwl2
    omega
  refine loop_listG (msL (mD Ev Tk (mC LL wd tw hid th (msR (mA D11 X1 D4 f sc c tf tsc tc) ⟨[], [], lf, tl, 0, oz⟩)))) (nsL Ev Tk ((L + 2, oR) :: (cur ++ (LL, listOf vl.toArray epl) :: (R, listOf vr.toArray epr) :: news))) (fun I i z => LInv rs ls i z) ⟨[], [], 0, [], [], 0, none, none, none, none⟩ (.tail _ (.tail _ (.tail _ (List.mem_append.mpr (.inl hW))))) rfl (by rfl) (by rfl) hB (msL_at F' rfl rfl rfl rfl (fun _ _ _ _ _ => rfl)) (News.sub N' ?hsub) (fun I hI => ⟨.nil, rfl, .nil, rfl⟩) ?hnw ?turn ?done hE
  case hsub =>
    intro q hq
    simp only [nsL, List.mem_cons, List.mem_append] at hq ⊢
    rcases hq with h | h | h | h | h | h | h
    · exact .inr (.inl h)
    · exact .inr (.inr (.inl h))
    · exact .inr (.inr (.inr (.inl h)))
    · exact .inl h
    · exact .inr (.inr (.inr (.inr (.inl h))))
    · exact .inr (.inr (.inr (.inr (.inr (.inl h)))))
    · exact .inr (.inr (.inr (.inr (.inr (.inr h)))))
  case hnw =>
    intro I hI i z _ q hq
    rcases List.mem_cons.mp hq with rfl | hq
    · (have h0 : Tk < I := hI (Tk, _) (.head _)); exact Nat.ne_of_lt h0
    · rcases List.mem_cons.mp hq with rfl | hq
      · (have h0 : Ev < I := hI (Ev, _) (.tail _ (.head _))); exact Nat.ne_of_lt h0
      · exact Nat.ne_of_lt (hI q (.tail _ (.tail _ hq)))
  case turn =>
    rintro I i v ⟨ev, es, epe, tv, ts, ept, ow, orr, ok, ot⟩ h9 tk9 g9 own oI hI hvi ⟨h1, h2, h3, h4⟩ hown hoI hnc hB9 F9 N9
    dsimp only at h1 h2 h3 h4
    obtain ⟨aw, vw, wd1, rfl, hwi, hwm, hwv⟩ := hWI.get hvi
    obtain ⟨r9, hr9⟩ : ∃ r9, (cur ++ (LL, listOf vl.toArray epl) :: (R, listOf vr.toArray epr) :: news) ++ own = r9 := ⟨_, rfl⟩
    have N10 : News h₀ L h9 ((Tk, listOf tv.toArray ept) :: (Ev, listOf ev.toArray epe) :: (L + 2, oR) :: r9) := by
      rw [← hr9]
      exact N9
    have hIE : Ev < I := hI (Ev, _) (.tail _ (.head _))
    have hIT : Tk < I := hI (Tk, _) (.head _)
    have hoff9 : ∀ q ∈ r9, q.1 ≠ Ev ∧ q.1 ≠ Tk := by
      intro q hq
      rw [← hr9] at hq
      rcases List.mem_append.mp hq with hq | hq
      · rcases List.mem_append.mp hq with hq | hq
        · exact ⟨Nat.ne_of_gt (hcE q hq), Nat.ne_of_gt (hcT q hq)⟩
        · have h := hET q (.tail _ hq)
          exact ⟨Nat.ne_of_lt h.1, Nat.ne_of_lt h.2⟩
      · rcases hown q hq with h | h
        · rw [h]; exact ⟨Nat.ne_of_gt hIE, Nat.ne_of_gt hIT⟩
        · rw [h]; exact ⟨Nat.ne_of_gt (hcE _ hW), Nat.ne_of_gt (hcT _ hW)⟩
    have haw : (aw, listOf vw.toArray 0) ∈ r9 := by rw [← hr9]; exact List.mem_append.mpr (.inl (List.mem_append.mpr (.inl hwm)))
    have hLL : (LL, listOf vl.toArray epl) ∈ r9 := by rw [← hr9]; exact List.mem_append.mpr (.inl (List.mem_append.mpr (.inr (.head _))))
    have hRR : (R, listOf vr.toArray epr) ∈ r9 := by rw [← hr9]; exact List.mem_append.mpr (.inl (List.mem_append.mpr (.inr (.tail _ (.head _)))))
    have hwmem : wd1 ∈ wordsL rs := List.mem_of_getElem? hwi
    have hwlen : wd1.length = c.toNat := by rw [wordsN_wl rs _ wd1 hwmem, hsum]
    have hwk := wordsN_mem rs _ wd1 hwmem
    have hil2 : i < vs.length := by
      obtain ⟨h, _⟩ := List.getElem?_eq_some_iff.mp hvi
      exact h
    have hes : es.length ≤ i := by rw [h2, List.length_map, List.length_take]; omega
    have hts : ts.length ≤ i := by
      rw [h4, List.length_map]
      exact Nat.le_trans (List.length_filter_le _ _) (by rw [List.length_take]; omega)
    clear N9 N' F'
    k_with "range" => (refine range_K2 (by k_asm) (by k_asm) ?_; intro D t u v h' tk' F' N' l1; (try k_lt l1))
    k_with "for" => ((rename Fr _ _ _ _ => lF'); (with_unfolding_all refine' For_invVF lF' ?k1 ?k2 ?_; (case k1 => exact rfl); (case k2 => exact rfl); k_whole))
    k_with "iter" => (refine Stop.mk ?_)
    k_steps
    refine Stop.of ?_
    k_with_none
    k_with "execs cons Assign cons" => k_extra "exa"
    k_with "exec For Name Call cons nil" => k_extra "for"
    k_with "pyIter ref" => k_extra "iter"
    k_with "last pyIter ref" => k_extra "iter"
    k_with "call type:range" => k_extra "range"
    k_with "call builtin:list.append" => k_extra "app"
    k_with "subscriptTail Name Name ref int" => k_extra "item"
    k_with "subscriptTail Name BinOp ref int" => k_extra "item"
    k_with "subscriptTail Name Subscript ref int" => k_extra "sitem"
    k_with "call ref" => ((with_reducible show wpAny _ _ (call (Value.ref 77) _ _) _ _ _); k_extra "call_77")
    k_with "call ref" => ((with_reducible show wpAny _ _ (call (Value.ref 70) _ _) _ _ _); k_extra "call_70")
    k_with "call ref" => ((with_reducible show wpAny _ _ (call (Value.ref 103) _ _) _ _ _); k_extra "call_103")
    k_with "call ref" => ((with_reducible show wpAny _ _ (call (Value.ref 96) _ _) _ _ _); k_extra "call_96")
    k_with "call ref" => ((with_reducible show wpAny _ _ (call (Value.ref 89) _ _) _ _ _); k_extra "call_89")
    k_with "ar" => (first | with_reducible exact ar509 (by assumption) (by assumption) | with_reducible exact ar157 | with_reducible exact ar165 | with_reducible exact ar627 (by assumption) (by assumption) | with_reducible exact ar203 (by assumption) (by assumption) (by assumption) | with_reducible exact ar138 | with_reducible exact ar60 (by assumption) | with_reducible exact ar32 (by assumption) | with_reducible exact ar460 (by assumption) | with_reducible exact ar589 (by assumption) (by assumption) (by assumption) | with_reducible exact ar45 (by assumption) (by assumption) (by assumption) | with_reducible exact ar43 (by assumption) (by assumption) (by assumption) | with_reducible exact ar359 (by assumption) | with_reducible exact ar541 (by assumption) | with_reducible exact ar95 (by assumption) | with_reducible exact ar202 (by assumption) (by assumption) (by assumption) | with_reducible exact ar23 (by assumption) (by assumption) | with_reducible exact ar643 (by assumption) | with_reducible exact ar25 (by assumption) (by assumption) (by assumption) | with_reducible exact ar279 | with_reducible exact ar30 | with_reducible exact ar473 (by assumption) | with_reducible exact ar388 (by assumption) (by assumption) | with_reducible exact ar101 (by assumption) (by assumption) (by assumption) | with_reducible exact ar252 (by assumption) | with_reducible exact ar18 (by assumption) (by assumption) (by assumption) | with_reducible exact ar241 (by assumption) (by assumption) | with_reducible exact ar488 | with_reducible exact ar92 | with_reducible exact ar34)
    (rename News _ _ _ _ => N8)
    (rename Fr _ _ _ _ => F8)
    refine for_src (o := rangeO 1 c t u v) (ks := rangeL 1 (c - 1).toNat) (.inr ⟨1, c, _, _, _, rfl, by decide, by decide, by omega, by omega, rfl⟩) (msI _) (fun _ => (D, rangeO 1 c t u v) :: (Tk, listOf tv.toArray ept) :: (Ev, listOf ev.toArray epe) :: (L + 2, oR) :: r9) (fun I i z => z.r = riseTo ls wd1 i) ⟨0, _, _⟩ (.head _) rfl (msI_at F8 rfl rfl (fun _ _ _ => rfl)) N8 (fun I hI => rfl) (fun I hI i y _ q hq => Nat.ne_of_lt (hI q hq)) ?turn2 ?done2
    case turn2 =>
      rintro I2 j k tkk ⟨r, tr, ok2⟩ h8 tk8 own2 oI2 hI2 hkj hr1 hown2 hoI2 hnc2 F7 N7
      dsimp only at hr1 N7
      have hjc : j < (c - 1).toNat := by
        obtain ⟨h1, _⟩ := List.getElem?_eq_some_iff.mp hkj
        rwa [rangeL_len] at h1
      have hkv : k = (j : Int) + 1 := by
        rw [rangeL_get _ j 1 hjc] at hkj
        have := Option.some.inj hkj
        omega
      obtain ⟨o0, ho0⟩ : ∃ x, wd1[(k - 1).toNat]? = some x := ⟨wd1[(k - 1).toNat]'(by omega), List.getElem?_eq_getElem (by omega)⟩
      obtain ⟨o1, ho1⟩ : ∃ x, wd1[k.toNat]? = some x := ⟨wd1[k.toNat]'(by omega), List.getElem?_eq_getElem (by omega)⟩
      obtain ⟨h00, h03⟩ := hwk o0 (List.mem_of_getElem? ho0)
      obtain ⟨h10, h13⟩ := hwk o1 (List.mem_of_getElem? ho1)
      obtain ⟨l0, hl0⟩ : ∃ x, ls[o0.toNat]? = some x := ⟨ls[o0.toNat]'(by omega), List.getElem?_eq_getElem (by omega)⟩
      obtain ⟨l1, hl1⟩ : ∃ x, ls[o1.toNat]? = some x := ⟨ls[o1.toNat]'(by omega), List.getElem?_eq_getElem (by omega)⟩
      have e0 : lsAt ls wd1 j = l0 := by
        have e : (k - 1).toNat = j := by omega
        rw [e] at ho0
        unfold lsAt
        rw [List.getD_eq_getElem?_getD (l := wd1), ho0, Option.getD_some, List.getD_eq_getElem?_getD, hl0]
        rfl
      have e1 : lsAt ls wd1 (j + 1) = l1 := by
        have e : k.toNat = j + 1 := by omega
        rw [e] at ho1
        unfold lsAt
        rw [List.getD_eq_getElem?_getD (l := wd1), ho1, Option.getD_some, List.getD_eq_getElem?_getD, hl1]
        rfl
      obtain ⟨r8, hr8⟩ : ∃ r8, r9 ++ own2 = r8 := ⟨_, rfl⟩
      have haw8 : (aw, listOf vw.toArray 0) ∈ r8 := by rw [← hr8]; exact List.mem_append.mpr (.inl haw)
      have hLL8 : (LL, listOf vl.toArray epl) ∈ r8 := by rw [← hr8]; exact List.mem_append.mpr (.inl hLL)
      have hrt : riseTo ls wd1 (j + 1) = if collV l0 l1 = -1 then r + k else r := by
        rw [riseTo, e0, e1, ← hr1, ← hkv]
      replace N7 : News h₀ L h8 ((D, rangeO 1 c t u v) :: (Tk, listOf tv.toArray ept) :: (Ev, listOf ev.toArray epe) :: (L + 2, oR) :: r8) := by
        rw [← hr8]
        exact N7
      clear N8 F8
      (try clear N10)
      (try clear F9)
      k_with "item" => (refine item_ints (News.isList (by k_asm) (show (aw, listOf vw.toArray 0) ∈ _ from .tail _ (.tail _ (.tail _ (.tail _ haw8))))) hwv (by omega) (by omega) (by first | exact ho0 | exact ho1) ?_; intro tl)
      k_with "sitem" => (refine item_strs (News.isList (by k_asm) (show (LL, listOf vl.toArray epl) ∈ _ from .tail _ (.tail _ (.tail _ (.tail _ hLL8))))) hil (by omega) (by omega) (by first | exact hl0 | exact hl1) ?_; intro tl)
      k_with "call_77" => (with_unfolding_all refine' t_coll ?B ?F ?X ?N ?T ?hk ?hd ?hu ?_; (case B => k_asm); (case F => k_asm); (case X => k_asm); (case N => k_asm); (case T => k_asm); (case hk => exact rfl); (case hd => ktr_room); (case hu => ktr_units); k_whole; intro t' h' tk' F' N'; (try dsimp only); (try k_fold))
      k_steps
      · (rename collV l0 l1 = -1 => hq)
        exact MyEnd.next ⟨r + k, _, some (.int k tkk)⟩ (msI_at (by k_asm) rfl rfl (fun z a b => by simp [msI, a, b])) (News.sub (by k_asm) (fun q hq => by rw [← hr8] at *; exact hq)) (by rw [hrt, if_pos hq])
      · (rename ¬ collV l0 l1 = -1 => hq)
        exact MyEnd.next ⟨r, _, some (.int k tkk)⟩ (msI_at (by k_asm) rfl rfl (fun z a b => by simp [msI, a, b])) (News.sub (by k_asm) (fun q hq => by rw [← hr8] at *; exact hq)) (by rw [hrt, if_neg hq])
    case done2 =>
      rintro I2 ⟨r, tr, ok2⟩ h8 tk8 hr1 F7 N7
      dsimp only at hr1 N7
      rw [rangeL_len] at hr1
      have hrise : riseL ls wd1 = r := by
        rw [hr1, riseL]
        congr 1
        omega
      have N12 : News h₀ L h8 ((Tk, listOf tv.toArray ept) :: (Ev, listOf ev.toArray epe) :: (L + 2, oR) :: r9) := News.sub N7 (fun q hq => .tail _ hq)
      have hlw := hlaw wd1 hwmem
      have htl := textTo_len (rs := rs) hll hhl (show wd1.length ≤ 6 by omega) hrs (rs.length - 1)
      obtain ⟨bb, hbb⟩ : ∃ b, fillsW rs wd1 = b := ⟨_, rfl⟩
      rw [hbb] at hlw
      have hbw := hbb
      unfold fillsW at hbb
      have htk : (wordsL rs).take (i + 1) = (wordsL rs).take i ++ [wd1] := by rw [List.take_add_one, hwi]; rfl
      have hes2 : es ++ [r] = ((wordsL rs).take (i + 1)).map (riseL ls) := by
        rw [htk, List.map_append, ← h2, List.map_cons, List.map_nil, hrise]
      have hts2 : bb = true → ts ++ [r] = (((wordsL rs).take (i + 1)).filter (fillsW rs)).map (riseL ls) := fun q => by
        rw [htk, List.filter_append, List.map_append, ← h4, List.filter_cons, hbw, if_pos q, List.filter_nil, List.map_cons, List.map_nil, hrise]
      have hts3 : bb = false → ts = (((wordsL rs).take (i + 1)).filter (fillsW rs)).map (riseL ls) := fun q => by
        rw [htk, List.filter_append, List.map_append, ← h4, List.filter_cons, hbw, if_neg (by rw [q]; exact Bool.false_ne_true), List.filter_nil, List.map_nil, List.append_nil]
      clear N8 F8 N7
      (try clear N10)
      (try clear F9)
      k_with_none
      k_with "execs cons Assign cons" => k_extra "exa"
      k_with "exec For Name Call cons nil" => k_extra "for"
      k_with "pyIter ref" => k_extra "iter"
      k_with "last pyIter ref" => k_extra "iter"
      k_with "call type:range" => k_extra "range"
      k_with "call builtin:list.append" => k_extra "app"
      k_with "subscriptTail Name Name ref int" => k_extra "item"
      k_with "subscriptTail Name BinOp ref int" => k_extra "item"
      k_with "subscriptTail Name Subscript ref int" => k_extra "sitem"
      k_with "call ref" => ((with_reducible show wpAny _ _ (call (Value.ref 77) _ _) _ _ _); k_extra "call_77")
      k_with "call ref" => ((with_reducible show wpAny _ _ (call (Value.ref 70) _ _) _ _ _); k_extra "call_70")
      k_with "call ref" => ((with_reducible show wpAny _ _ (call (Value.ref 103) _ _) _ _ _); k_extra "call_103")
      k_with "call ref" => ((with_reducible show wpAny _ _ (call (Value.ref 96) _ _) _ _ _); k_extra "call_96")
      k_with "call ref" => ((with_reducible show wpAny _ _ (call (Value.ref 89) _ _) _ _ _); k_extra "call_89")
      k_with "ar" => (first | with_reducible exact ar509 (by assumption) (by assumption) | with_reducible exact ar157 | with_reducible exact ar165 | with_reducible exact ar627 (by assumption) (by assumption) | with_reducible exact ar203 (by assumption) (by assumption) (by assumption) | with_reducible exact ar138 | with_reducible exact ar60 (by assumption) | with_reducible exact ar32 (by assumption) | with_reducible exact ar460 (by assumption) | with_reducible exact ar589 (by assumption) (by assumption) (by assumption) | with_reducible exact ar45 (by assumption) (by assumption) (by assumption) | with_reducible exact ar43 (by assumption) (by assumption) (by assumption) | with_reducible exact ar359 (by assumption) | with_reducible exact ar541 (by assumption) | with_reducible exact ar95 (by assumption) | with_reducible exact ar202 (by assumption) (by assumption) (by assumption) | with_reducible exact ar23 (by assumption) (by assumption) | with_reducible exact ar643 (by assumption) | with_reducible exact ar25 (by assumption) (by assumption) (by assumption) | with_reducible exact ar279 | with_reducible exact ar30 | with_reducible exact ar473 (by assumption) | with_reducible exact ar388 (by assumption) (by assumption) | with_reducible exact ar101 (by assumption) (by assumption) (by assumption) | with_reducible exact ar252 (by assumption) | with_reducible exact ar18 (by assumption) (by assumption) (by assumption) | with_reducible exact ar241 (by assumption) (by assumption) | with_reducible exact ar488 | with_reducible exact ar92 | with_reducible exact ar34)
      k_with "call_103" => (with_unfolding_all refine' t_text (ws := wd1) (rs := rs) (ls := ls) (hid := hid) ?B ?F ?X ?N ?T ?hk ?d1 ?d2 ?d3 hwv hir hil ?c1 hhl hll hrs hrl ?c2 ?c3 ?hd ?hu ?_; (case B => k_asm); (case F => k_asm); (case X => k_asm); (case N => k_asm); (case T => k_asm); (case hk => exact rfl); (case d1 => exact .tail _ (.tail _ (.tail _ haw))); (case d2 => exact .tail _ (.tail _ (.tail _ hRR))); (case d3 => exact .tail _ (.tail _ (.tail _ hLL))); (case c1 => omega); (case c2 => omega); (case c3 => (intro k hk; have := hwk k hk; omega)); (case hd => ktr_room); (case hu => ktr_units); k_whole; intro t' h' tk' F' N'; (try dsimp only); (try k_fold))
      k_with "call_70" => (with_unfolding_all refine' t_check ?B ?F ?X ?N ?T ?hk ?hB ?c1 ?hd ?hu ?_; (case B => k_asm); (case F => k_asm); (case X => k_asm); (case N => k_asm); (case T => k_asm); (case hk => exact rfl); (case hB => exact hB9); (case c1 => omega); (case hd => ktr_room); (case hu => ktr_units); k_whole; rw [hlw]; intro h' tk' g' F' N' hB'; (try dsimp only); (try k_fold))
      k_with "call_96" => (with_unfolding_all refine' t_fills (ws := wd1) (rs := rs) ?B ?F ?X ?N ?T ?hk ?d1 ?d2 hwv hir hrl hwk ?hd ?hu ?_; (case B => k_asm); (case F => k_asm); (case X => k_asm); (case N => k_asm); (case T => k_asm); (case hk => exact rfl); (case d1 => exact .tail _ (.tail _ (.tail _ haw))); (case d2 => exact .tail _ (.tail _ (.tail _ hRR))); (case hd => ktr_room); (case hu => ktr_units); k_whole; rw [hbb]; intro h' tk' F' N'; (try dsimp only); (try k_fold))
      have hoffE : ∀ q ∈ (L + 2, oR) :: r9, q.1 ≠ Ev := by
        intro q hq
        rcases List.mem_cons.mp hq with rfl | hq
        · exact Nat.ne_of_lt lE2
        · exact (hoff9 q hq).1
      have hoffT : ∀ o : Obj, ∀ q ∈ (Ev, o) :: (L + 2, oR) :: r9, q.1 ≠ Tk := by
        intro o q hq
        rcases List.mem_cons.mp hq with rfl | hq
        · exact Nat.ne_of_lt lTE
        · rcases List.mem_cons.mp hq with rfl | hq
          · exact Nat.ne_of_lt lT2
          · exact (hoff9 q hq).2
      have hz1 : ev.length ≤ 1000 := by rw [h1.length]; omega
      have hz2 : tv.length ≤ 1000 := by rw [h3.length]; omega
      k_with "app" => (first | (refine append_2 (by k_asm) (by k_asm) (Nat.ne_of_gt lTE) hoffE hz1 ?_; intro h' F' N') | (refine app_head (by k_asm) (by k_asm) (hoffT _) hz2 ?_; intro h' F' N'))
      dsimp only
      k_steps
      · exact absurd ‹(bb != bb) = true› (by simp)
      · (rename bb = true => hq)
        exact MyEndB.next ⟨ev ++ [.int r tr], es ++ [r], epe + 1, tv ++ [.int r tr], ts ++ [r], ept + 1, some (.ref aw), some (.int r tr), ok2, some (.bool bb)⟩ (by assumption) (msL_at (by k_asm) rfl rfl rfl rfl (fun z a b c d => by simp [msL, msI, a, b, c, d])) (News.sub (by k_asm) (fun q hq => by
          rw [← hr9]
          exact hq)) ⟨h1.append (.cons _ _ .nil), hes2, h3.append (.cons _ _ .nil), hts2 hq⟩
      · (rename bb = false => hq)
        exact MyEndB.next ⟨ev ++ [.int r tr], es ++ [r], epe + 1, tv, ts, ept, some (.ref aw), some (.int r tr), ok2, some (.bool bb)⟩ (by assumption) (msL_at (by k_asm) rfl rfl rfl rfl (fun z a b c d => by simp [msL, msI, a, b, c, d])) (News.sub (by k_asm) (fun q hq => by
          rw [← hr9]
          exact hq)) ⟨h1.append (.cons _ _ .nil), hes2, h3, hts3 hq⟩
  case done =>
    rintro I ⟨ev, es, epe, tv, ts, ept, ow, orr, ok, ot⟩ h9 tk9 g9 ⟨h1, h2, h3, h4⟩ hB9 F9 N9
    dsimp only at h1 h2 h3 h4
    rw [hwl2, List.take_length] at h2 h4
    rw [h2] at h1
    rw [h4] at h3
    exact hnext Ev Tk ev tv epe ept ow orr ok ot _ _ _ hB9 h1 h3 hET F9 (News.sub N9 (fun q hq => by
      simp only [nsL, List.mem_cons, List.mem_append] at hq ⊢
      rcases hq with h | h | h | h | h | h
      · exact .inl h
      · exact .inr (.inl h)
      · exact .inr (.inr (.inl h))
      · exact .inr (.inr (.inr (.inr (.inl h))))
      · exact .inr (.inr (.inr (.inr (.inr (.inl h)))))
      · exact .inr (.inr (.inr (.inr (.inr (.inr h)))))))
end Mine
namespace Mine
open PySem.Builtin.Int (intBits)
/-- the two tables, the last part of the ledger -/
def Tabs2 (r : List (Addr × Obj)) : Prop := ∃ tb1 tb2, TabIs 30 Q30 32 4 tb1 ∧ TabIs 37 Q37 47 4 tb2 ∧ r = tb1 ++ tb2
theorem Tabs2.zero : Tabs2 [(30, tabObj #[]), (37, tabObj #[])] := ⟨_, _, .inl rfl, .inl rfl, rfl⟩
theorem Tabs2.offN {r l : List (Addr × Obj)} {h₀ h : Heap} {L I : Addr} {oI : Obj} (hr : Tabs2 r) (N : News h₀ L h l) (hs : ∀ q ∈ r, q ∈ l) (h' : (I, oI) ∈ l) (hX : NoCode oI) (h1 : (30 : Nat) ≠ I) (h2 : (37 : Nat) ≠ I) : ∀ q ∈ r, q.1 ≠ I := by
  obtain ⟨tb1, tb2, t1, t2, rfl⟩ := hr
  intro q hq
  rcases List.mem_append.mp hq with hq | hq
  · exact t1.offN N (fun q hq => hs q (List.mem_append.mpr (.inl hq))) h' hX h1 q hq
  · exact t2.offN N (fun q hq => hs q (List.mem_append.mpr (.inr hq))) h' hX h2 q hq
theorem Tabs2.grown {r l : List (Addr × Obj)} {h₀ h : Heap} {L : Addr} (hr : Tabs2 r) (N : News h₀ L h l) (hs : ∀ q ∈ r, q ∈ l) : GrownAll [(41, 37), (34, 30)] h := by
  obtain ⟨tb1, tb2, t1, t2, rfl⟩ := hr
  obtain ⟨X1, h1, _⟩ := t1.has
  obtain ⟨X2, h2, _⟩ := t2.has
  exact ⟨⟨X2, (N _ (hs _ (List.mem_append.mpr (.inr h2)))).1⟩, ⟨X1, (N _ (hs _ (List.mem_append.mpr (.inl h1)))).1⟩, trivial⟩
theorem Tabs2.m37 {r : List (Addr × Obj)} (hr : Tabs2 r) : ∃ X, ((37 : Addr), tabObj X) ∈ r := by
  obtain ⟨tb1, tb2, t1, t2, rfl⟩ := hr
  obtain ⟨X2, h2, _⟩ := t2.has
  exact ⟨X2, List.mem_append.mpr (.inr h2)⟩
theorem Tabs2.m30 {r : List (Addr × Obj)} (hr : Tabs2 r) : ∃ X, ((30 : Addr), tabObj X) ∈ r := by
  obtain ⟨tb1, tb2, t1, t2, rfl⟩ := hr
  obtain ⟨X2, h2, _⟩ := t1.has
  exact ⟨X2, List.mem_append.mpr (.inl h2)⟩
theorem tabs_off1 {tb1 tb2 l : List (Addr × Obj)} {h₀ h : Heap} {L : Addr} (t1 : TabIs 30 Q30 32 4 tb1) (t2 : TabIs 37 Q37 47 4 tb2) (N : News h₀ L h l) (hs : ∀ q ∈ tb1 ++ tb2, q ∈ l) : ∀ q ∈ tb1, q.1 ≠ 37 := by
  obtain ⟨X, h2, hX⟩ := t2.has
  exact t1.off N (fun q hq => hs q (List.mem_append.mpr (.inl hq))) (hs _ (List.mem_append.mpr (.inr h2))) hX (by decide)
theorem tabs_off2 {tb1 tb2 l : List (Addr × Obj)} {h₀ h : Heap} {L : Addr} (t1 : TabIs 30 Q30 32 4 tb1) (t2 : TabIs 37 Q37 47 4 tb2) (N : News h₀ L h l) (hs : ∀ q ∈ tb1 ++ tb2, q ∈ l) : ∀ q ∈ tb2, q.1 ≠ 30 := by
  obtain ⟨X, h2, hX⟩ := t1.has
  exact t2.off N (fun q hq => hs q (List.mem_append.mpr (.inr hq))) (hs _ (List.mem_append.mpr (.inl h2))) hX (by decide)

section
variable {w : World} {p : Program} {loose : List Str} {mean : ExcName → Option Value} {mg mb : Str → Option Value}
  {dp un : Nat} {gd : Option (List Code)} {cn : Str} {cs : Scope} {a : Addr} {ccd : Value} {cl : List (Str × Addr)} {outer : List Env} {A₀ : Around} {base h₀ : Heap} {L : Addr} {m : Str → Option Value} {news es r : List (Addr × Obj)} {s : Shared}
  {Q E : Value → Shared → Prop}
theorem u_prod {d : Addr} {o : Obj} {ks : List Int} {n : Int} {tn : Tok} (B : Below A₀ base outer h₀) (F : Fr h₀ L s.heap m) (X : (hd.heap_39 w.params).In h₀) (N : News h₀ L s.heap news) (T : Top p loose mean mg mb h₀) (hk : cs.kind = .function)
  (C2 : CodeHd base 41 37) (hsub : ∀ q ∈ es ++ r, q ∈ news) (hr : Tabs2 r) (hoff : ∀ q ∈ es, q.1 ≠ 30 ∧ q.1 ≠ 37) (hD : (d, o) ∈ es) (hs : IntSrc o ks)
  (hks : ∀ k ∈ ks, 0 ≤ k ∧ k ≤ 6) (hkl : ks.length ≤ 12) (h0 : 0 ≤ n) (hn : n ≤ 1204)
  (hd : dp + 200 < recursionLimit) (hu : un + 1600 < cLine)
  (hret : ∀ t r' h' tk', Fr h₀ L h' m → News h₀ L h' (es ++ r') → Tabs2 r' → Q (.int (prodB (2 ^ n.toNat) ks) t) { s with heap := h', toks := tk' }) :
    wpAny (model PR w) (ktrTop dp un gd cn cs L a ccd cl outer) (call (.ref 115) [.ref d, .int n tn]) Q E s := by
  obtain ⟨tb1, tb2, t1, t2, rfl⟩ := hr
  have hsr : ∀ q ∈ tb1 ++ tb2, q ∈ news := fun q hq => hsub q (List.mem_append.mpr (.inr hq))
  have N2 : News h₀ L s.heap (tb2 ++ (es ++ tb1)) := News.sub N fun q hq => by
    rcases List.mem_append.mp hq with h | h
    · exact hsr q (List.mem_append.mpr (.inr h))
    · rcases List.mem_append.mp h with h | h
      · exact hsub q (List.mem_append.mpr (.inl h))
      · exact hsr q (List.mem_append.mpr (.inl h))
  refine t_prod B F X N2 T hk C2 (fun q hq => ?_) t2 (List.mem_append.mpr (.inl hD)) hs hks hkl h0 hn hd hu fun t tb' h' tk' F' N' t2' => hret t (tb1 ++ tb') h' tk' F' (News.sub N' fun q hq => ?_) ⟨tb1, tb', t1, t2', rfl⟩
  · rcases List.mem_append.mp hq with h | h
    · exact (hoff q h).2
    · exact tabs_off1 t1 t2 N hsr q h
  · simp only [List.mem_append] at hq ⊢
    rcases hq with h | h | h
    · exact .inr (.inl h)
    · exact .inr (.inr h)
    · exact .inl h
theorem u_d2i {d : Addr} {vs : List Value} {ns : List Int} {ep : Nat} {n : Int} {tn : Tok} (B : Below A₀ base outer h₀) (F : Fr h₀ L s.heap m) (X : (hd.heap_39 w.params).In h₀) (N : News h₀ L s.heap news) (T : Top p loose mean mg mb h₀) (hk : cs.kind = .function)
  (C : CodeHd base 41 37) (hsub : ∀ q ∈ es ++ r, q ∈ news) (hr : Tabs2 r) (hoff : ∀ q ∈ es, q.1 ≠ 30 ∧ q.1 ≠ 37)
  (hD : (d, listOf vs.toArray ep) ∈ es) (hi : IntsAre vs ns) (hlen : ns.length ≤ 64) (h0 : 0 ≤ n) (hn : n ≤ 40000) (hds : ∀ x ∈ ns, 0 ≤ x ∧ intBits x ≤ 40000)
  (hd : dp + 100 < recursionLimit) (hu : un + 800 < cLine)
  (hret : ∀ t r' h' tk', Fr h₀ L h' m → News h₀ L h' (es ++ r') → Tabs2 r' → Q (.int (evalD (2 ^ n.toNat) ns) t) { s with heap := h', toks := tk' }) :
    wpAny (model PR w) (ktrTop dp un gd cn cs L a ccd cl outer) (call (.ref 42) [.ref d, .int n tn]) Q E s := by
  obtain ⟨tb1, tb2, t1, t2, rfl⟩ := hr
  have hsr : ∀ q ∈ tb1 ++ tb2, q ∈ news := fun q hq => hsub q (List.mem_append.mpr (.inr hq))
  have N2 : News h₀ L s.heap (tb2 ++ (es ++ tb1)) := News.sub N fun q hq => by
    rcases List.mem_append.mp hq with h | h
    · exact hsr q (List.mem_append.mpr (.inr h))
    · rcases List.mem_append.mp h with h | h
      · exact hsub q (List.mem_append.mpr (.inl h))
      · exact hsr q (List.mem_append.mpr (.inl h))
  refine t_d2i B F X N2 T hk C (fun q hq => ?_) t2 (List.mem_append.mpr (.inl hD)) hi hlen h0 hn hds hd hu fun t tb' h' tk' F' N' t2' => hret t (tb1 ++ tb') h' tk' F' (News.sub N' fun q hq => ?_) ⟨tb1, tb', t1, t2', rfl⟩
  · rcases List.mem_append.mp hq with h | h
    · exact (hoff q h).2
    · exact tabs_off1 t1 t2 N hsr q h
  · simp only [List.mem_append] at hq ⊢
    rcases hq with h | h | h
    · exact .inr (.inl h)
    · exact .inr (.inr h)
    · exact .inl h
theorem u_divmod {x y : Int} {tx ty : Tok} (B : Below A₀ base outer h₀) (F : Fr h₀ L s.heap m) (X : (hd.heap_39 w.params).In h₀) (N : News h₀ L s.heap news) (T : Top p loose mean mg mb h₀) (hk : cs.kind = .function)
  (C1 : CodeHd base 34 30) (C2 : CodeHd base 41 37) (hsub : ∀ q ∈ es ++ r, q ∈ news) (hr : Tabs2 r) (hoff : ∀ q ∈ es, q.1 ≠ 30 ∧ q.1 ≠ 37)
  (hx : 0 ≤ x) (hy : 0 < y) (hyb : intBits y ≤ 16000) (hxb : intBits x ≤ 60 * intBits y)
  (hd : dp + 200 < recursionLimit) (hu : un + 1600 < cLine)
  (hret : ∀ t tq tr r' h' tk', Fr h₀ L h' m → News h₀ L h' ((t, tupO (x / y) tq (x % y) tr) :: (es ++ r')) → Tabs2 r' → (∀ q ∈ es, q.1 < t) → Q (.ref t) { s with heap := h', toks := tk' }) :
    wpAny (model PR w) (ktrTop dp un gd cn cs L a ccd cl outer) (call (.ref 49) [.int x tx, .int y ty]) Q E s := by
  obtain ⟨tb1, tb2, t1, t2, rfl⟩ := hr
  have hsr : ∀ q ∈ tb1 ++ tb2, q ∈ news := fun q hq => hsub q (List.mem_append.mpr (.inr hq))
  have N2 : News h₀ L s.heap (tb1 ++ (tb2 ++ es)) := News.sub N fun q hq => by
    rcases List.mem_append.mp hq with h | h
    · exact hsr q (List.mem_append.mpr (.inl h))
    · rcases List.mem_append.mp h with h | h
      · exact hsr q (List.mem_append.mpr (.inr h))
      · exact hsub q (List.mem_append.mpr (.inl h))
  refine t_divmod B F X N2 T hk C1 C2 hoff t1 t2 hx hy hyb hxb hd hu fun t tq tr tb1' tb2' h' tk' F' N' t1' t2' ht => hret t tq tr (tb1' ++ tb2') h' tk' F' (News.sub N' fun q hq => ?_) ⟨tb1', tb2', t1', t2', rfl⟩ ht
  simp only [List.mem_cons, List.mem_append] at hq ⊢
  rcases hq with h | h | h | h
  · exact .inl h
  · exact .inr (.inr (.inr h))
  · exact .inr (.inl h)
  · exact .inr (.inr (.inl h))
theorem u_i2d {x n : Int} {tx tn : Tok} (B : Below A₀ base outer h₀) (F : Fr h₀ L s.heap m) (X : (hd.heap_39 w.params).In h₀) (N : News h₀ L s.heap news) (T : Top p loose mean mg mb h₀) (hk : cs.kind = .function)
  (C : CodeHd base 34 30) (hsub : ∀ q ∈ es ++ r, q ∈ news) (hr : Tabs2 r) (hoff : ∀ q ∈ es, q.1 ≠ 30 ∧ q.1 ≠ 37)
  (hx : 0 ≤ x) (h0 : 0 < n) (hn : n ≤ 40000) {kk : Nat} (hkk : ((intBits x : Int) + n - 1) / n = kk) (hk64 : kk ≤ 64) (hxb : intBits x ≤ 1000000)
  (hd : dp + 100 < recursionLimit) (hu : un + 800 < cLine)
  (hret : ∀ D vs ep r' h' tk', Fr h₀ L h' m → News h₀ L h' ((D, listOf vs.toArray ep) :: (es ++ r')) → Tabs2 r' → (∀ q ∈ es, q.1 < D) → IntsAre vs (digs (2 ^ n.toNat) x kk) → Q (.ref D) { s with heap := h', toks := tk' }) :
    wpAny (model PR w) (ktrTop dp un gd cn cs L a ccd cl outer) (call (.ref 35) [.int x tx, .int n tn]) Q E s := by
  obtain ⟨tb1, tb2, t1, t2, rfl⟩ := hr
  have hsr : ∀ q ∈ tb1 ++ tb2, q ∈ news := fun q hq => hsub q (List.mem_append.mpr (.inr hq))
  have N2 : News h₀ L s.heap (tb1 ++ (es ++ tb2)) := News.sub N fun q hq => by
    rcases List.mem_append.mp hq with h | h
    · exact hsr q (List.mem_append.mpr (.inl h))
    · rcases List.mem_append.mp h with h | h
      · exact hsub q (List.mem_append.mpr (.inl h))
      · exact hsr q (List.mem_append.mpr (.inr h))
  refine t_i2d B F X N2 T hk C (fun q hq => ?_) t1 hx h0 hn hkk hk64 hxb hd hu fun D vs ep tb' h' tk' F' N' t1' hne hlt hi => hret D vs ep (tb' ++ tb2) h' tk' F' (News.sub N' fun q hq => ?_) ⟨tb', tb2, t1', t2, rfl⟩ (fun q hq => hlt q (List.mem_append.mpr (.inl hq))) hi
  · rcases List.mem_append.mp hq with h | h
    · exact (hoff q h).1
    · exact tabs_off2 t1 t2 N hsr q h
  · simp only [List.mem_cons, List.mem_append] at hq ⊢
    rcases hq with h | h | h | h
    · exact .inl h
    · exact .inr (.inr (.inl h))
    · exact .inr (.inl h)
    · exact .inr (.inr (.inr h))
end
end Mine
namespace Mine
open PySem.Builtin.Int (intBits)
noncomputable def partsB (q : Int) (rs : List Int) : Int := rs.foldl (fun p r => p * prodB q (rangeL 1 r.toNat)) 1
theorem partsB_snoc (q : Int) (rs : List Int) (r : Int) : partsB q (rs ++ [r]) = partsB q rs * prodB q (rangeL 1 r.toNat) := by simp [partsB, List.foldl_append]
theorem prodF_bits {n : Nat} (hn : n ≤ 1204) : ∀ (ks : List Int) (a : Int) (M : Nat), (∀ k ∈ ks, k ≤ 6) → intBits a ≤ M → intBits (ks.foldl (fun p k => p * brk (2 ^ n) k) a) ≤ M + 8000 * ks.length
  | [], a, M, _, h => h
  | k :: r, a, M, hk, h => by
    have h1 := brk_bits (n := n) (hk k (.head _))
    have h2 : intBits (a * brk (2 ^ n) k) ≤ M + 8000 := by
      have := intBits_mul_le h h1
      omega
    have h3 := prodF_bits hn r _ _ (fun x hx => hk x (.tail _ hx)) h2
    rw [List.foldl_cons, List.length_cons]
    omega
theorem prodB_bits {n : Nat} (hn : n ≤ 1204) {ks : List Int} (hk : ∀ k ∈ ks, k ≤ 6) : intBits (prodB (2 ^ n) ks) ≤ 1 + 8000 * ks.length :=
  prodF_bits hn ks 1 1 hk (one_bits 0)
theorem off_cons {D : Nat} {o : Obj} {l : List (Addr × Obj)} (he : @LT.lt Nat _ 37 D) (h : ∀ q ∈ l, q.1 ≠ 30 ∧ q.1 ≠ 37) : ∀ q ∈ ((D : Addr), o) :: l, q.1 ≠ 30 ∧ q.1 ≠ 37 := by
  intro q hq
  rcases List.mem_cons.mp hq with rfl | hq
  · exact ⟨Nat.ne_of_gt (Nat.lt_trans (by decide : 30 < 37) he), Nat.ne_of_gt he⟩
  · exact h q hq
theorem off_one {D : Addr} {o : Obj} (he : D ≠ 30 ∧ D ≠ 37) : ∀ q ∈ [((D : Addr), o)], q.1 ≠ 30 ∧ q.1 ≠ 37 := by
  intro q hq
  rw [List.mem_singleton.mp hq]
  exact he
theorem sub_own {D a b c d e : Addr × Obj} {own r2 : List (Addr × Obj)} : ∀ q ∈ D :: ([a, b, c, d, e] ++ own) ++ r2, q ∈ D :: a :: b :: c :: d :: e :: (r2 ++ own) := by
  intro q hq
  simp only [List.cons_append, List.nil_append, List.mem_cons, List.mem_append] at hq ⊢
  rcases hq with h | h | h | h | h | h | h | h
  · exact .inl h
  · exact .inr (.inl h)
  · exact .inr (.inr (.inl h))
  · exact .inr (.inr (.inr (.inl h)))
  · exact .inr (.inr (.inr (.inr (.inl h))))
  · exact .inr (.inr (.inr (.inr (.inr (.inl h)))))
  · exact .inr (.inr (.inr (.inr (.inr (.inr (.inr h))))))
  · exact .inr (.inr (.inr (.inr (.inr (.inr (.inl h))))))
theorem sub_back {D a b c d e : Addr × Obj} {own r2 r7 : List (Addr × Obj)} (h : own ++ r2 = r7) : ∀ q ∈ (a :: b :: c :: d :: e :: r2) ++ own, q ∈ D :: a :: b :: c :: d :: e :: r7 := by
  intro q hq
  rw [← h]
  simp only [List.cons_append, List.mem_cons, List.mem_append] at hq ⊢
  rcases hq with h | h | h | h | h | h | h
  · exact .inr (.inl h)
  · exact .inr (.inr (.inl h))
  · exact .inr (.inr (.inr (.inl h)))
  · exact .inr (.inr (.inr (.inr (.inl h))))
  · exact .inr (.inr (.inr (.inr (.inr (.inl h)))))
  · exact .inr (.inr (.inr (.inr (.inr (.inr (.inr h))))))
  · exact .inr (.inr (.inr (.inr (.inr (.inr (.inl h))))))
theorem ne_tab {h₀ h : Heap} {L D P : Addr} {vs : Array Value} {ep : Nat} {X : Array Value} {l : List (Addr × Obj)} (N : News h₀ L h l) (h1 : (D, listOf vs ep) ∈ l) (h2 : (P, tabObj X) ∈ l) : D ≠ P := by
  intro e
  have e1 := (N _ h1).1
  have e2 := (N _ h2).1
  dsimp only at e1 e2
  rw [e, e2] at e1
  have e3 := congrArg Obj.data (Option.some.inj e1)
  cases e3
noncomputable def mG (sp : Int) (tsp : Tok) (pp : Int) (tpp : Tok) (orow : Option Value) (O : Int) (tO : Tok) (top : Int) (ttp : Tok) (m₀ : Str → Option Value) : Str → Option Value := fun z => if z = Str.ofString "spare" then some (.int sp tsp) else if z = Str.ofString "row" then orow else if z = Str.ofString "parts" then some (.int pp tpp) else if z = Str.ofString "ones" then some (.int O tO) else if z = Str.ofString "top" then some (.int top ttp) else m₀ z
theorem mG_at {h₀ h : Heap} {L : Addr} {m m₀ : Str → Option Value} {sp : Int} {tsp : Tok} {pp : Int} {tpp : Tok} {orow : Option Value} {O : Int} {tO : Tok} {top : Int} {ttp : Tok} (F : Fr h₀ L h m) (h1 : m (Str.ofString "spare") = some (.int sp tsp)) (h2 : m (Str.ofString "row") = orow) (h3 : m (Str.ofString "parts") = some (.int pp tpp)) (h4 : m (Str.ofString "ones") = some (.int O tO)) (h6 : m (Str.ofString "top") = some (.int top ttp))
    (h5 : ∀ z, z ≠ Str.ofString "spare" → z ≠ Str.ofString "row" → z ≠ Str.ofString "parts" → z ≠ Str.ofString "ones" → z ≠ Str.ofString "top" → m z = m₀ z) : Fr h₀ L h (mG sp tsp pp tpp orow O tO top ttp m₀) := by
  have e : m = mG sp tsp pp tpp orow O tO top ttp m₀ := by
    funext z
    unfold mG
    split
    · rename_i e; rw [e, h1]
    · split
      · rename_i e; rw [e, h2]
      · split
        · rename_i e; rw [e, h3]
        · split
          · rename_i e; rw [e, h4]
          · split
            · rename_i e; rw [e, h6]
            · exact h5 z (by assumption) (by assumption) (by assumption) (by assumption) (by assumption)
  exact e ▸ F
theorem off_new {h₀ h : Heap} {L D : Addr} {vs : List Value} {ep : Nat} {es r : List (Addr × Obj)} (N : News h₀ L h ((D, listOf vs.toArray ep) :: (es ++ r))) (ho : ∀ q ∈ es, q.1 ≠ 30 ∧ q.1 ≠ 37) (hr : Tabs2 r) : ∀ q ∈ (D, listOf vs.toArray ep) :: es, q.1 ≠ 30 ∧ q.1 ≠ 37 := by
  intro q hq
  rcases List.mem_cons.mp hq with rfl | hq
  · obtain ⟨X1, h1⟩ := hr.m30
    obtain ⟨X2, h2⟩ := hr.m37
    exact ⟨ne_tab N (.head _) (.tail _ (List.mem_append.mpr (.inr h1))), ne_tab N (.head _) (.tail _ (List.mem_append.mpr (.inr h2)))⟩
  · exact ho q hq
structure PS5 where
  p : Int
  tp : Tok
  orow : Option Value
  r : List (Addr × Obj)
noncomputable def msP5 (m₀ : Str → Option Value) (x : PS5) : Str → Option Value := fun z => if z = Str.ofString "row" then x.orow else if z = Str.ofString "parts" then some (.int x.p x.tp) else m₀ z
theorem msP5_at {h₀ h : Heap} {L : Addr} {m m₀ : Str → Option Value} {x : PS5} (F : Fr h₀ L h m) (h1 : m (Str.ofString "row") = x.orow) (h2 : m (Str.ofString "parts") = some (.int x.p x.tp))
    (h5 : ∀ z, z ≠ Str.ofString "row" → z ≠ Str.ofString "parts" → m z = m₀ z) : Fr h₀ L h (msP5 m₀ x) := by
  have e : m = msP5 m₀ x := by
    funext z
    unfold msP5
    split
    · rename_i e; rw [e, h1]
    · split
      · rename_i e; rw [e, h2]
      · exact h5 z (by assumption) (by assumption)
  exact e ▸ F

set_option maxRecDepth 100000 in
set_option maxHeartbeats 4000000 in
theorem law_seg5 {w : World} {p : Program} {loose : List Str} {mean : ExcName → Option Value} {mg mb : Str → Option Value} {h₀ : Heap} {L fa D11 X1 D4 R LL Ev Tk : Addr} {cd : Value} {s : Shared} {oR : Obj} {vr ev tv ys : List Value} {rs es ts : List Int} {epr epe ept ep4 : Nat} {f sc c lf wd top s0 s1 s2 s3 s4 s5 s6 s7 s8 : Int} {tf tsc tc tl tw th : Tok} {hid : Str} {oz ow orr ok ot : Option Value} {r : List (Addr × Obj)} {Q : Flow → Shared → Prop} {E : Value → Shared → Prop}
    (hE : PassesOwn (model PR w) (callerA.deeper (lawEnv L fa cd)) (lawEnv L fa cd) E) (B : Below callerA h₀ [] h₀) (F : Fr h₀ L s.heap (msL (mD Ev Tk (mC LL wd tw hid th (msR (mA D11 X1 D4 f sc c tf tsc tc) ⟨[], [], lf, tl, 0, oz⟩))) ⟨[], [], 0, [], [], 0, ow, orr, ok, ot⟩))
    (X : (hd.heap_39 w.params).In h₀) (N : News h₀ L s.heap ((Tk, listOf tv.toArray ept) :: (Ev, listOf ev.toArray epe) :: (L + 2, oR) :: (R, listOf vr.toArray epr) :: (D4, listOf ys.toArray ep4) :: r)) (T : Top p loose mean mg mb h₀)
    (hr : Tabs2 r) (C2 : CodeHd h₀ 41 37) (C1 : CodeHd h₀ 34 30) (hL : @LT.lt Nat _ 37 (L + 2)) (hT37 : @LT.lt Nat _ 37 Tk) (hE37 : @LT.lt Nat _ 37 Ev) (hR37 : @LT.lt Nat _ 37 R) (hD37 : D4 ≠ 30 ∧ D4 ≠ 37)
    (dR : oR.data = .cell (some (.ref R))) (hir : IntsAre vr rs) (hie : IntsAre ev es) (hys : IntsAre ys [s0, s1, s2, s3, s4, s5, s6, s7, s8])
    (hrl : rs.length ≤ 3) (hrs : ∀ r ∈ rs, 0 ≤ r ∧ r ≤ 3) (hc3 : 3 ≤ c) (hc6 : c ≤ 6) (hw5 : 5 ≤ wd) (hw12 : wd < 1205) (hel : ∀ x ∈ countsL es top, 0 ≤ x ∧ intBits x ≤ 40000)
    (htop : top = c * (c - 1) / 2 + 1) (hP0 : 0 < partsB (2 ^ wd.toNat) rs) (hPb : intBits (partsB (2 ^ wd.toNat) rs) ≤ 16000) (hXb : ∀ sp, 0 ≤ sp → sp < partsB (2 ^ wd.toNat) rs → intBits (prodB (2 ^ wd.toNat) (rangeL 1 c.toNat) + sp) ≤ 60 * intBits (partsB (2 ^ wd.toNat) rs))
    (hP1 : prodB (2 ^ wd.toNat) (rangeL 1 c.toNat) = evalD (2 ^ wd.toNat) (countsL es top) * partsB (2 ^ wd.toNat) rs) (hO0 : 0 ≤ prodB (2 ^ wd.toNat) (rangeL 1 c.toNat))
    (hnext : ∀ sp tsp pp tpp orow tO ttp r5 h' tk', Tabs2 r5 →
      Fr h₀ L h' (mG sp tsp pp tpp orow (prodB (2 ^ wd.toNat) (rangeL 1 c.toNat)) tO top ttp (msL (mD Ev Tk (mC LL wd tw hid th (msR (mA D11 X1 D4 f sc c tf tsc tc) ⟨[], [], lf, tl, 0, oz⟩))) ⟨[], [], 0, [], [], 0, ow, orr, ok, ot⟩)) →
      News h₀ L h' ((Tk, listOf tv.toArray ept) :: (Ev, listOf ev.toArray epe) :: (L + 2, oR) :: (R, listOf vr.toArray epr) :: (D4, listOf ys.toArray ep4) :: r5) → wpAny (model PR w) (callerA.deeper (lawEnv L fa cd)) (execs (lawParts.1.drop 26) (lawEnv L fa cd)) Q E { s with heap := h', toks := tk' }) :
    wpAny (model PR w) (callerA.deeper (lawEnv L fa cd)) (execs (lawParts.1.drop 20) (lawEnv L fa cd)) Q E s := by
  k_with_none
  k_with "execs cons Assign cons" => k_extra "exa"
  k_with "exec For Name Name cons nil" => k_extra "for"
  k_with "pyIter ref" => k_extra "iter"
  k_with "last pyIter ref" => k_extra "iter"
  k_with "call type:range" => k_extra "range"
  k_with "exec Assign" => k_extra "asg"
  k_with "binaryOp Mult int int" => k_extra "mul"
  k_with "binaryOp Mod int int" => k_extra "mod"
  k_with "exec If" => k_extra "if"
  k_with "inplaceOp Mult int int" => k_extra "imul"
  k_with "subscriptTail Name Constant ref int" => k_extra "item"
  k_with "call ref" => ((with_reducible show wpAny _ _ (call (Value.ref 115) _ _) _ _ _); k_extra "call_115")
  k_with "call ref" => ((with_reducible show wpAny _ _ (call (Value.ref 120) _ _) _ _ _); k_extra "call_120")
  k_with "call ref" => ((with_reducible show wpAny _ _ (call (Value.ref 42) _ _) _ _ _); k_extra "call_42")
  k_with "call ref" => ((with_reducible show wpAny _ _ (call (Value.ref 49) _ _) _ _ _); k_extra "call_49")
  k_with "ar" => (first | with_reducible exact ar368 (by assumption) (by assumption) | with_reducible exact ar316 (by assumption) | with_reducible exact ar262 | with_reducible exact ar269 (by assumption) | with_reducible exact ar679 (by assumption) | with_reducible exact ar634 (by assumption) (by assumption) | with_reducible exact ar355 (by assumption) | with_reducible exact ar246 (by assumption) | with_reducible exact ar7 (by assumption) | with_reducible exact ar157 | with_reducible exact ar165 | with_reducible exact ar456 (by assumption) (by assumption) | with_reducible exact ar413 (by assumption) (by assumption) | with_reducible exact ar177 (by assumption) (by assumption) | with_reducible exact ar325 (by assumption) | with_reducible exact ar306 (by assumption) | with_reducible exact ar692 (by assumption) | with_reducible exact ar227 | with_reducible exact ar115 | with_reducible exact ar677 | with_reducible exact ar433 (by assumption) (by assumption) | with_reducible exact ar297 (by assumption) | with_reducible exact ar222 (by assumption) | with_reducible exact ar250 (by assumption) | with_reducible exact ar21 (by assumption) | with_reducible exact ar279 | with_reducible exact ar30)
  conv in lawParts.1.drop 20 => whnf
  have hcc : IntMulOk c (c - 1) := IntMulOk.of_left (by
    have h1 : c = 3 ∨ c = 4 ∨ c = 5 ∨ c = 6 := by omega
    rcases h1 with rfl | rfl | rfl | rfl <;> decide +kernel)
  k_with_none
  k_with "execs cons Assign cons" => k_extra "exa"
  k_with "exec For Name Name cons nil" => k_extra "for"
  k_with "pyIter ref" => k_extra "iter"
  k_with "last pyIter ref" => k_extra "iter"
  k_with "call type:range" => k_extra "range"
  k_with "exec Assign" => k_extra "asg"
  k_with "binaryOp Mult int int" => k_extra "mul"
  k_with "binaryOp Mod int int" => k_extra "mod"
  k_with "exec If" => k_extra "if"
  k_with "inplaceOp Mult int int" => k_extra "imul"
  k_with "subscriptTail Name Constant ref int" => k_extra "item"
  k_with "call ref" => ((with_reducible show wpAny _ _ (call (Value.ref 115) _ _) _ _ _); k_extra "call_115")
  k_with "call ref" => ((with_reducible show wpAny _ _ (call (Value.ref 120) _ _) _ _ _); k_extra "call_120")
  k_with "call ref" => ((with_reducible show wpAny _ _ (call (Value.ref 42) _ _) _ _ _); k_extra "call_42")
  k_with "call ref" => ((with_reducible show wpAny _ _ (call (Value.ref 49) _ _) _ _ _); k_extra "call_49")
  k_with "ar" => (first | with_reducible exact ar368 (by assumption) (by assumption) | with_reducible exact ar316 (by assumption) | with_reducible exact ar262 | with_reducible exact ar269 (by assumption) | with_reducible exact ar679 (by assumption) | with_reducible exact ar634 (by assumption) (by assumption) | with_reducible exact ar355 (by assumption) | with_reducible exact ar246 (by assumption) | with_reducible exact ar7 (by assumption) | with_reducible exact ar157 | with_reducible exact ar165 | with_reducible exact ar456 (by assumption) (by assumption) | with_reducible exact ar413 (by assumption) (by assumption) | with_reducible exact ar177 (by assumption) (by assumption) | with_reducible exact ar325 (by assumption) | with_reducible exact ar306 (by assumption) | with_reducible exact ar692 (by assumption) | with_reducible exact ar227 | with_reducible exact ar115 | with_reducible exact ar677 | with_reducible exact ar433 (by assumption) (by assumption) | with_reducible exact ar297 (by assumption) | with_reducible exact ar222 (by assumption) | with_reducible exact ar250 (by assumption) | with_reducible exact ar21 (by assumption) | with_reducible exact ar279 | with_reducible exact ar30)
  w_top off
  k_with "exa" => (refine wpAny_execs_cons ?_; (try dsimp only))
  k_with "mul" => (refine mul_int ?_ hcc)
  k_with "asg" => ((with_reducible show wpAny _ _ (exec (Stmt.Assign [Expr.Name (Str.ofString "ones") _] _ _) _) _ _ _); refine Stop.mk ?_)
  k_steps
  refine Stop.of ?_
  (rename Fr _ _ _ _ => F5)
  obtain ⟨tp, ttp, htp, F6⟩ := fr_abs F5
  clear F5
  have htt : tp = top := by rw [htp, htop, Int.fdiv_eq_ediv_of_nonneg _ (by decide)]
  clear htp hcc
  subst htt
  obtain ⟨q, hq⟩ : ∃ q, (2 : Int) ^ wd.toNat = q := ⟨_, rfl⟩
  have hqb : ∀ ks : List Int, (∀ k ∈ ks, k ≤ 6) → intBits (prodB q ks) ≤ 1 + 8000 * ks.length := fun ks h => by
    rw [← hq]
    exact prodB_bits (by omega) h
  rw [hq] at hP0 hPb hP1 hO0
  simp only [hq] at hXb
  obtain ⟨O, hO⟩ : ∃ O, prodB q (rangeL 1 c.toNat) = O := ⟨_, rfl⟩
  rw [hO] at hP1 hO0
  rw [hq, hO] at hnext
  simp only [hO] at hXb
  have hc1 : (c + 1 - 1).toNat = c.toNat := by omega
  have hoff5 : ∀ q ∈ [((Tk : Addr), listOf tv.toArray ept), (Ev, listOf ev.toArray epe), (L + 2, oR), (R, listOf vr.toArray epr), (D4, listOf ys.toArray ep4)], q.1 ≠ 30 ∧ q.1 ≠ 37 := off_cons hT37 (off_cons hE37 (off_cons hL (off_cons hR37 (off_one hD37))))
  k_with_none
  k_with "execs cons Assign cons" => k_extra "exa"
  k_with "exec For Name Name cons nil" => k_extra "for"
  k_with "pyIter ref" => k_extra "iter"
  k_with "last pyIter ref" => k_extra "iter"
  k_with "call type:range" => k_extra "range"
  k_with "exec Assign" => k_extra "asg"
  k_with "binaryOp Mult int int" => k_extra "mul"
  k_with "binaryOp Mod int int" => k_extra "mod"
  k_with "exec If" => k_extra "if"
  k_with "inplaceOp Mult int int" => k_extra "imul"
  k_with "subscriptTail Name Constant ref int" => k_extra "item"
  k_with "call ref" => ((with_reducible show wpAny _ _ (call (Value.ref 115) _ _) _ _ _); k_extra "call_115")
  k_with "call ref" => ((with_reducible show wpAny _ _ (call (Value.ref 120) _ _) _ _ _); k_extra "call_120")
  k_with "call ref" => ((with_reducible show wpAny _ _ (call (Value.ref 42) _ _) _ _ _); k_extra "call_42")
  k_with "call ref" => ((with_reducible show wpAny _ _ (call (Value.ref 49) _ _) _ _ _); k_extra "call_49")
  k_with "ar" => (first | with_reducible exact ar368 (by assumption) (by assumption) | with_reducible exact ar316 (by assumption) | with_reducible exact ar262 | with_reducible exact ar269 (by assumption) | with_reducible exact ar679 (by assumption) | with_reducible exact ar634 (by assumption) (by assumption) | with_reducible exact ar355 (by assumption) | with_reducible exact ar246 (by assumption) | with_reducible exact ar7 (by assumption) | with_reducible exact ar157 | with_reducible exact ar165 | with_reducible exact ar456 (by assumption) (by assumption) | with_reducible exact ar413 (by assumption) (by assumption) | with_reducible exact ar177 (by assumption) (by assumption) | with_reducible exact ar325 (by assumption) | with_reducible exact ar306 (by assumption) | with_reducible exact ar692 (by assumption) | with_reducible exact ar227 | with_reducible exact ar115 | with_reducible exact ar677 | with_reducible exact ar433 (by assumption) (by assumption) | with_reducible exact ar297 (by assumption) | with_reducible exact ar222 (by assumption) | with_reducible exact ar250 (by assumption) | with_reducible exact ar21 (by assumption) | with_reducible exact ar279 | with_reducible exact ar30)
  k_with "exa" => (refine wpAny_execs_cons ?_; (try dsimp only))
  k_with "range" => (refine range_K2 (by k_asm) (by k_asm) ?_; intro D t u v h' tk' F' N' l1; (try k_lt l1))
  k_with "call_115" => ((have hDr : (37 : Nat) < D := Nat.lt_trans hT37 l1.1); with_unfolding_all refine' u_prod (es := [(D, rangeO 1 (c + 1) t u v), (Tk, listOf tv.toArray ept), (Ev, listOf ev.toArray epe), (L + 2, oR), (R, listOf vr.toArray epr), (D4, listOf ys.toArray ep4)]) (r := r) (ks := rangeL 1 c.toNat) ?B ?F ?X ?N ?T ?hk C2 ?hsub hr ?hoff (.head _) ?hs ?c1 ?c2 ?c3 ?c4 ?hd ?hu ?_; (case B => k_asm); (case F => k_asm); (case X => k_asm); (case N => k_asm); (case T => k_asm); (case hk => exact rfl); (case hsub => exact fun q hq => hq); (case hoff => exact off_cons hDr hoff5); (case hs => exact .inr ⟨1, c + 1, _, _, _, rfl, by decide, by decide, by omega, by omega, by rw [hc1]⟩); (case c1 => (intro k hk; have := rangeL_mem _ _ _ hk; omega)); (case c2 => (rw [rangeL_len]; omega)); (case c3 => omega); (case c4 => omega); (case hd => ktr_room); (case hu => ktr_units); k_whole; rw [hq, hO]; intro t' r' h' tk' F' N' hr'; (try simp only [List.cons_append, List.nil_append] at N'); (try dsimp only); (try k_fold))
  k_with "for" => ((rename Fr _ _ _ _ => lF'); (with_unfolding_all refine' For_invVF lF' ?k1 ?k2 ?_; (case k1 => exact rfl); (case k2 => exact rfl); k_whole))
  k_with "iter" => (refine Stop.mk ?_)
  k_steps
  refine Stop.of ?_
  k_with_none
  k_with "execs cons Assign cons" => k_extra "exa"
  k_with "exec For Name Name cons nil" => k_extra "for"
  k_with "pyIter ref" => k_extra "iter"
  k_with "last pyIter ref" => k_extra "iter"
  k_with "call type:range" => k_extra "range"
  k_with "exec Assign" => k_extra "asg"
  k_with "binaryOp Mult int int" => k_extra "mul"
  k_with "binaryOp Mod int int" => k_extra "mod"
  k_with "exec If" => k_extra "if"
  k_with "inplaceOp Mult int int" => k_extra "imul"
  k_with "subscriptTail Name Constant ref int" => k_extra "item"
  k_with "call ref" => ((with_reducible show wpAny _ _ (call (Value.ref 115) _ _) _ _ _); k_extra "call_115")
  k_with "call ref" => ((with_reducible show wpAny _ _ (call (Value.ref 120) _ _) _ _ _); k_extra "call_120")
  k_with "call ref" => ((with_reducible show wpAny _ _ (call (Value.ref 42) _ _) _ _ _); k_extra "call_42")
  k_with "call ref" => ((with_reducible show wpAny _ _ (call (Value.ref 49) _ _) _ _ _); k_extra "call_49")
  k_with "ar" => (first | with_reducible exact ar368 (by assumption) (by assumption) | with_reducible exact ar316 (by assumption) | with_reducible exact ar262 | with_reducible exact ar269 (by assumption) | with_reducible exact ar679 (by assumption) | with_reducible exact ar634 (by assumption) (by assumption) | with_reducible exact ar355 (by assumption) | with_reducible exact ar246 (by assumption) | with_reducible exact ar7 (by assumption) | with_reducible exact ar157 | with_reducible exact ar165 | with_reducible exact ar456 (by assumption) (by assumption) | with_reducible exact ar413 (by assumption) (by assumption) | with_reducible exact ar177 (by assumption) (by assumption) | with_reducible exact ar325 (by assumption) | with_reducible exact ar306 (by assumption) | with_reducible exact ar692 (by assumption) | with_reducible exact ar227 | with_reducible exact ar115 | with_reducible exact ar677 | with_reducible exact ar433 (by assumption) (by assumption) | with_reducible exact ar297 (by assumption) | with_reducible exact ar222 (by assumption) | with_reducible exact ar250 (by assumption) | with_reducible exact ar21 (by assumption) | with_reducible exact ar279 | with_reducible exact ar30)
  (rename News _ _ _ _ => N8)
  (rename Fr _ _ _ _ => F8)
  refine for_src (.inl ⟨vr, epr, rfl, hir⟩) (msP5 _) (fun z => (Tk, listOf tv.toArray ept) :: (Ev, listOf ev.toArray epe) :: (L + 2, oR) :: (R, listOf vr.toArray epr) :: (D4, listOf ys.toArray ep4) :: z.r) (fun I i z => Tabs2 z.r ∧ (∀ q ∈ z.r, q.1 ≠ I) ∧ z.p = partsB q (rs.take i) ∧ intBits z.p ≤ 1 + 24001 * i) ⟨1, _, _, r'⟩ (.tail _ (.tail _ (.tail _ (.head _)))) rfl (msP5_at F8 rfl rfl (fun _ _ _ => rfl)) (News.sub N8 (fun q hq => .tail _ hq)) ?hj ?hnw ?turn ?done
  case hj =>
    intro I hI
    exact ⟨hr', fun q hq => Nat.ne_of_lt (hI q (.tail _ (.tail _ (.tail _ (.tail _ (.tail _ hq)))))), rfl, one_bits _⟩
  case hnw =>
    rintro I hI i z ⟨_, hz, _, _⟩ q hq
    rcases List.mem_cons.mp hq with rfl | hq
    · (have h0 : Tk < I := hI (Tk, _) (.head _)); exact Nat.ne_of_lt h0
    · rcases List.mem_cons.mp hq with rfl | hq
      · (have h0 : Ev < I := hI (Ev, _) (.tail _ (.head _))); exact Nat.ne_of_lt h0
      · rcases List.mem_cons.mp hq with rfl | hq
        · (have h0 : L + 2 < I := hI (L + 2, _) (.tail _ (.tail _ (.head _)))); exact Nat.ne_of_lt h0
        · rcases List.mem_cons.mp hq with rfl | hq
          · (have h0 : R < I := hI (R, _) (.tail _ (.tail _ (.tail _ (.head _))))); exact Nat.ne_of_lt h0
          · rcases List.mem_cons.mp hq with rfl | hq
            · (have h0 : D4 < I := hI (D4, _) (.tail _ (.tail _ (.tail _ (.tail _ (.head _)))))); exact Nat.ne_of_lt h0
            · exact hz q hq
  case turn =>
    rintro I i k tkk ⟨pp, tpp, orow, r2⟩ h9 tk9 own oI hI hki ⟨hr2, hrI, hpe, hpb⟩ hown hoI hnc F9 N9
    dsimp only at hr2 hrI hpe hpb N9
    obtain ⟨hk0, hk3⟩ := hrs k (List.mem_of_getElem? hki)
    have hil : i < rs.length := by
      obtain ⟨h, _⟩ := List.getElem?_eq_some_iff.mp hki
      exact h
    have hTI : Tk < I := hI (Tk, _) (.head _)
    have hI37 : @LT.lt Nat _ 37 I := Nat.lt_trans hT37 hTI
    obtain ⟨r9, hr9⟩ : ∃ r9, r2 ++ own = r9 := ⟨_, rfl⟩
    have N10 : News h₀ L h9 ((Tk, listOf tv.toArray ept) :: (Ev, listOf ev.toArray epe) :: (L + 2, oR) :: (R, listOf vr.toArray epr) :: (D4, listOf ys.toArray ep4) :: r9) := by
      rw [← hr9]
      exact N9
    have hoffo : ∀ q ∈ own, q.1 ≠ 30 ∧ q.1 ≠ 37 := by
      intro q hq
      rcases hown q hq with h | h
      · rw [h]; exact off_cons (o := oI) hI37 (l := []) (fun _ h => nomatch h) _ (.head _)
      · rw [h]; exact off_cons (o := oI) hR37 (l := []) (fun _ h => nomatch h) _ (.head _)
    have hoff6 : ∀ q ∈ [((Tk : Addr), listOf tv.toArray ept), (Ev, listOf ev.toArray epe), (L + 2, oR), (R, listOf vr.toArray epr), (D4, listOf ys.toArray ep4)] ++ own, q.1 ≠ 30 ∧ q.1 ≠ 37 := by
      intro q hq
      rcases List.mem_append.mp hq with hq | hq
      · exact hoff5 q hq
      · exact hoffo q hq
    have hks : ∀ x ∈ rangeL 1 k.toNat, 0 ≤ x ∧ x ≤ 6 := fun x hx => by
      have := rangeL_mem _ _ _ hx
      omega
    have hk1 : (k + 1 - 1).toNat = k.toNat := by omega
    have hpb2 : intBits (prodB q (rangeL 1 k.toNat)) ≤ 24001 := by
      have h := hqb (rangeL 1 k.toNat) (fun x hx => (hks x hx).2)
      rw [rangeL_len] at h
      omega
    have hok : IntMulOk pp (prodB q (rangeL 1 k.toNat)) := IntMulOk.of_le hpb hpb2 (by omega)
    have hpk : pp * prodB q (rangeL 1 k.toNat) = partsB q (rs.take (i + 1)) := by rw [Mine.take_snoc hki, partsB_snoc, ← hpe]
    have hpkb : intBits (pp * prodB q (rangeL 1 k.toNat)) ≤ 1 + 24001 * (i + 1) := by
      have := intBits_mul_le hpb hpb2
      omega
    obtain ⟨pk, hpkE⟩ : ∃ pk, prodB q (rangeL 1 k.toNat) = pk := ⟨_, rfl⟩
    rw [hpkE] at hok hpk hpkb
    clear N8 F8 N9 hr' hTI l1 hDr
    replace F9 : Fr h₀ L h9 _ := F9
    k_with "range" => (refine range_K2 (by k_asm) (by k_asm) ?_; intro D t u v h' tk' F' N' l1; (try k_lt l1))
    k_with "call_115" => ((have hDr : (37 : Nat) < D := Nat.lt_trans hT37 l1.1); with_unfolding_all refine' u_prod (es := (D, rangeO 1 (k + 1) t u v) :: ([((Tk : Addr), listOf tv.toArray ept), (Ev, listOf ev.toArray epe), (L + 2, oR), (R, listOf vr.toArray epr), (D4, listOf ys.toArray ep4)] ++ own)) (r := r2) (ks := rangeL 1 k.toNat) ?B ?F ?X ?N ?T ?hk C2 ?hsub hr2 ?hoff (.head _) ?hs hks ?c2 ?c3 ?c4 ?hd ?hu ?_; (case B => k_asm); (case F => k_asm); (case X => k_asm); (case N => k_asm); (case T => k_asm); (case hk => exact rfl); (case hsub => (rw [← hr9]; exact sub_own)); (case hoff => exact off_cons hDr hoff6); (case hs => exact .inr ⟨1, k + 1, _, _, _, rfl, by decide, by decide, by omega, by omega, by rw [hk1]⟩); (case c2 => (rw [rangeL_len]; omega)); (case c3 => omega); (case c4 => omega); (case hd => ktr_room); (case hu => ktr_units); k_whole; rw [hq, hpkE]; intro t' r' h' tk' F' N' hr'; obtain ⟨r7, hr7⟩ : ∃ r7, own ++ r' = r7 := ⟨_, rfl⟩; (simp only [List.cons_append, List.nil_append, hr7] at N'); (try dsimp only); (try k_fold))
    k_with "imul" => (refine imul_int ?_ hok)
    k_steps
    (rename News _ _ _ _ => N9)
    exact MyEnd.next ⟨pp * pk, _, some (.int k tkk), r'⟩ (msP5_at (by k_asm) rfl rfl (fun z a b => by simp [msP5, a, b])) (News.sub N9 (sub_back hr7)) ⟨hr', hr'.offN N9 (fun q hq => sub_back hr7 q (List.mem_append.mpr (.inl (.tail _ (.tail _ (.tail _ (.tail _ (.tail _ hq)))))))) (sub_back hr7 _ (List.mem_append.mpr (.inr hoI))) hnc (Nat.ne_of_lt (Nat.lt_trans (by decide : 30 < 37) hI37)) (Nat.ne_of_lt hI37), hpk, hpkb⟩
  case done =>
    rintro I ⟨pp, tpp, orow, r2⟩ h9 tk9 ⟨hr2, _, hpe, hpb⟩ F9 N9
    dsimp only at hr2 hpe N9
    rw [List.take_length] at hpe
    clear N8 F8 hpb
    rw [← hpe] at hP0 hPb hP1
    simp only [← hpe] at hXb
    k_with_none
    k_with "execs cons Assign cons" => k_extra "exa"
    k_with "exec For Name Name cons nil" => k_extra "for"
    k_with "pyIter ref" => k_extra "iter"
    k_with "last pyIter ref" => k_extra "iter"
    k_with "call type:range" => k_extra "range"
    k_with "exec Assign" => k_extra "asg"
    k_with "binaryOp Mult int int" => k_extra "mul"
    k_with "binaryOp Mod int int" => k_extra "mod"
    k_with "exec If" => k_extra "if"
    k_with "inplaceOp Mult int int" => k_extra "imul"
    k_with "subscriptTail Name Constant ref int" => k_extra "item"
    k_with "call ref" => ((with_reducible show wpAny _ _ (call (Value.ref 115) _ _) _ _ _); k_extra "call_115")
    k_with "call ref" => ((with_reducible show wpAny _ _ (call (Value.ref 120) _ _) _ _ _); k_extra "call_120")
    k_with "call ref" => ((with_reducible show wpAny _ _ (call (Value.ref 42) _ _) _ _ _); k_extra "call_42")
    k_with "call ref" => ((with_reducible show wpAny _ _ (call (Value.ref 49) _ _) _ _ _); k_extra "call_49")
    k_with "ar" => (first | with_reducible exact ar368 (by assumption) (by assumption) | with_reducible exact ar316 (by assumption) | with_reducible exact ar262 | with_reducible exact ar269 (by assumption) | with_reducible exact ar679 (by assumption) | with_reducible exact ar634 (by assumption) (by assumption) | with_reducible exact ar355 (by assumption) | with_reducible exact ar246 (by assumption) | with_reducible exact ar7 (by assumption) | with_reducible exact ar157 | with_reducible exact ar165 | with_reducible exact ar456 (by assumption) (by assumption) | with_reducible exact ar413 (by assumption) (by assumption) | with_reducible exact ar177 (by assumption) (by assumption) | with_reducible exact ar325 (by assumption) | with_reducible exact ar306 (by assumption) | with_reducible exact ar692 (by assumption) | with_reducible exact ar227 | with_reducible exact ar115 | with_reducible exact ar677 | with_reducible exact ar433 (by assumption) (by assumption) | with_reducible exact ar297 (by assumption) | with_reducible exact ar222 (by assumption) | with_reducible exact ar250 (by assumption) | with_reducible exact ar21 (by assumption) | with_reducible exact ar279 | with_reducible exact ar30)
    k_with "mod" => (refine mod_emod hP0 ?_; intro t' tk')
    k_with "item" => (refine item_ints (News.isList (by k_asm) (show (D4, listOf ys.toArray ep4) ∈ _ from .tail _ (.tail _ (.tail _ (.tail _ (.head _)))))) hys (by decide) (by decide) rfl ?_; intro tit)
    k_with "if" => (refine Stop.mk ?_)
    k_steps
    refine Stop.of ?_
    (rename Fr _ _ _ _ => F5)
    obtain ⟨sp, tsp, hsp, F6⟩ := fr_abs F5
    clear F5
    have hsp0 : 0 ≤ sp ∧ sp < pp := by rw [hsp]; exact ⟨Int.emod_nonneg _ (Int.ne_of_gt hP0), Int.emod_lt_of_pos _ hP0⟩
    clear hsp
    obtain ⟨V, hV⟩ : ∃ V, evalD q (countsL es tp) = V := ⟨_, rfl⟩
    rw [hV] at hP1
    obtain ⟨hdiv, hmod⟩ := divmod_of (a := O + sp) (b := pp) (q := V) (r := sp) (by rw [hP1]) hsp0.1 hsp0.2
    have hXbs := hXb sp hsp0.1 hsp0.2
    have hO1 : 0 ≤ O + sp := by omega
    have htp : 0 ≤ tp ∧ tp ≤ 60 := by
      have h1 : c = 3 ∨ c = 4 ∨ c = 5 ∨ c = 6 := by omega
      rw [htop]
      rcases h1 with rfl | rfl | rfl | rfl <;> decide
    clear htop hO0 hP0
    k_with_none
    k_with "execs cons Assign cons" => k_extra "exa"
    k_with "exec For Name Name cons nil" => k_extra "for"
    k_with "pyIter ref" => k_extra "iter"
    k_with "last pyIter ref" => k_extra "iter"
    k_with "call type:range" => k_extra "range"
    k_with "exec Assign" => k_extra "asg"
    k_with "binaryOp Mult int int" => k_extra "mul"
    k_with "binaryOp Mod int int" => k_extra "mod"
    k_with "exec If" => k_extra "if"
    k_with "inplaceOp Mult int int" => k_extra "imul"
    k_with "subscriptTail Name Constant ref int" => k_extra "item"
    k_with "call ref" => ((with_reducible show wpAny _ _ (call (Value.ref 115) _ _) _ _ _); k_extra "call_115")
    k_with "call ref" => ((with_reducible show wpAny _ _ (call (Value.ref 120) _ _) _ _ _); k_extra "call_120")
    k_with "call ref" => ((with_reducible show wpAny _ _ (call (Value.ref 42) _ _) _ _ _); k_extra "call_42")
    k_with "call ref" => ((with_reducible show wpAny _ _ (call (Value.ref 49) _ _) _ _ _); k_extra "call_49")
    k_with "ar" => (first | with_reducible exact ar368 (by assumption) (by assumption) | with_reducible exact ar316 (by assumption) | with_reducible exact ar262 | with_reducible exact ar269 (by assumption) | with_reducible exact ar679 (by assumption) | with_reducible exact ar634 (by assumption) (by assumption) | with_reducible exact ar355 (by assumption) | with_reducible exact ar246 (by assumption) | with_reducible exact ar7 (by assumption) | with_reducible exact ar157 | with_reducible exact ar165 | with_reducible exact ar456 (by assumption) (by assumption) | with_reducible exact ar413 (by assumption) (by assumption) | with_reducible exact ar177 (by assumption) (by assumption) | with_reducible exact ar325 (by assumption) | with_reducible exact ar306 (by assumption) | with_reducible exact ar692 (by assumption) | with_reducible exact ar227 | with_reducible exact ar115 | with_reducible exact ar677 | with_reducible exact ar433 (by assumption) (by assumption) | with_reducible exact ar297 (by assumption) | with_reducible exact ar222 (by assumption) | with_reducible exact ar250 (by assumption) | with_reducible exact ar21 (by assumption) | with_reducible exact ar279 | with_reducible exact ar30)
    k_with "exa" => (refine Stop.mk ?_)
    k_with "call_49" => (with_unfolding_all refine' u_divmod (es := [((Tk : Addr), listOf tv.toArray ept), (Ev, listOf ev.toArray epe), (L + 2, oR), (R, listOf vr.toArray epr), (D4, listOf ys.toArray ep4)]) (r := r2) ?B ?F ?X ?N ?T ?hk C1 C2 ?hsub hr2 hoff5 hO1 ?c1 hPb hXbs ?hd ?hu ?_; (case B => k_asm); (case F => k_asm); (case X => k_asm); (case N => k_asm); (case T => k_asm); (case hk => exact rfl); (case hsub => exact fun q hq => hq); (case c1 => omega); (case hd => ktr_room); (case hu => ktr_units); k_whole; rw [← hdiv, ← hmod]; intro t1 tq1 tr1 r3 h' tk' F' N' hr3 l1; (simp only [List.cons_append, List.nil_append] at N'); (have ht37 : @LT.lt Nat _ 37 t1 := Nat.lt_trans hT37 (l1 (Tk, listOf tv.toArray ept) (.head _))); (try k_lt l1); (try dsimp only); (try k_fold))
    k_with "call_120" => (with_unfolding_all refine' t_counts (ns := es) (d := Ev) (vs := ev) (ep := epe) ?B ?F ?X ?N ?T ?hk ?hD hie htp.1 ?c9 ?hd ?hu ?_; (case B => k_asm); (case F => k_asm); (case X => k_asm); (case N => k_asm); (case T => k_asm); (case hk => exact rfl); (case hD => exact .tail _ (.tail _ (.head _))); (case c9 => omega); (case hd => ktr_room); (case hu => ktr_units); k_whole; intro D2 vc epc h' tk' F' N' hic; (try dsimp only); (try k_fold))
    k_with "call_42" => (with_unfolding_all refine' u_d2i (es := [((D2 : Addr), listOf vc.toArray epc), ((t1 : Addr), tupO V tq1 sp tr1), ((Tk : Addr), listOf tv.toArray ept), (Ev, listOf ev.toArray epe), (L + 2, oR), (R, listOf vr.toArray epr), (D4, listOf ys.toArray ep4)]) (r := r3) (ns := countsL es tp) ?B ?F ?X ?N ?T ?hk C2 ?hsub hr3 ?hoff (.head _) hic ?c1 ?c2 ?c3 hel ?hd ?hu ?_; (case B => k_asm); (case F => k_asm); (case X => k_asm); (case N => k_asm); (case T => k_asm); (case hk => exact rfl); (case hsub => exact fun q hq => hq); (case hoff => ((rename News _ _ _ _ => N77); exact off_new N77 (off_cons ht37 hoff5) hr3)); (case c1 => (rw [countsL, List.length_map, rangeL_len]; omega)); (case c2 => omega); (case c3 => omega); (case hd => ktr_room); (case hu => ktr_units); k_whole; rw [hq, hV]; intro t' r4 h' tk' F' N' hr4; (simp only [List.cons_append, List.nil_append] at N'); (try dsimp only); (try k_fold))
    k_steps
    refine Stop.of ?_
    (rename News _ _ _ _ => N9)
    (rename Fr _ _ _ _ => F9)
    exact hnext sp tsp pp tpp orow _ _ r4 _ _ (by assumption) (mG_at F9 rfl rfl rfl rfl rfl (fun z a b c d e => by simp [msP5, a, b, c, d, e])) (News.sub N9 (fun q hq => by first | exact .tail _ (.tail _ (.tail _ hq)) | exact .tail _ (.tail _ hq)))
end Mine
namespace Mine
open PySem.Builtin.Int (intBits)
/-- how many rows lie above the cells, added up -/
noncomputable def aboveL (rs : List Int) : Int := ((rangeL 0 rs.length).map fun k => k * rs.getD k.toNat 0).sum

set_option maxRecDepth 100000 in
set_option maxHeartbeats 4000000 in
theorem law_seg6 {w : World} {p : Program} {loose : List Str} {mean : ExcName → Option Value} {mg mb : Str → Option Value} {h₀ : Heap} {L fa D11 X1 D4 R LL Ev Tk : Addr} {cd : Value} {s : Shared} {oR : Obj} {vr ev tv ys : List Value} {rs es ts : List Int} {epr epe ept ep4 : Nat} {f sc c lf wd top sp pp O H : Int} {tf tsc tc tl tw th tsp tpp tO ttp : Tok} {hid : Str} {oz ow orr ok ot orow : Option Value} {r : List (Addr × Obj)} {kk : Nat} {Q : Flow → Shared → Prop} {E : Value → Shared → Prop}
    (hE : PassesOwn (model PR w) (callerA.deeper (lawEnv L fa cd)) (lawEnv L fa cd) E) (B : Below callerA h₀ [] h₀) (F : Fr h₀ L s.heap (mG sp tsp pp tpp orow O tO top ttp (msL (mD Ev Tk (mC LL wd tw hid th (msR (mA D11 X1 D4 f sc c tf tsc tc) ⟨[], [], lf, tl, 0, oz⟩))) ⟨[], [], 0, [], [], 0, ow, orr, ok, ot⟩)))
    (X : (hd.heap_39 w.params).In h₀) (N : News h₀ L s.heap ((Tk, listOf tv.toArray ept) :: (Ev, listOf ev.toArray epe) :: (L + 2, oR) :: (R, listOf vr.toArray epr) :: (D4, listOf ys.toArray ep4) :: r)) (T : Top p loose mean mg mb h₀)
    (hr : Tabs2 r) (C2 : CodeHd h₀ 41 37) (C1 : CodeHd h₀ 34 30) (hL : @LT.lt Nat _ 37 (L + 2)) (hT37 : @LT.lt Nat _ 37 Tk) (hE37 : @LT.lt Nat _ 37 Ev) (hR37 : @LT.lt Nat _ 37 R) (hD37 : D4 ≠ 30 ∧ D4 ≠ 37)
    (dR : oR.data = .cell (some (.ref R))) (hir : IntsAre vr rs) (hit : IntsAre tv ts)
    (hrl : rs.length ≤ 3) (hrs : ∀ r ∈ rs, 0 ≤ r ∧ r ≤ 3) (hw5 : 5 ≤ wd) (hw12 : wd < 1205) (htp : 0 ≤ top ∧ top ≤ 60)
    (hab : 0 ≤ aboveL rs ∧ aboveL rs ≤ 10) (hO0 : 0 ≤ O) (hOb : intBits O ≤ 100000)
    (hH : prodB (2 ^ wd.toNat) (hooksL rs) = H) (hhk : ∀ k ∈ hooksL rs, 0 ≤ k ∧ k ≤ 6) (hhl : (hooksL rs).length ≤ 12) (hH0 : 0 < H) (hHb : intBits H ≤ 16000) (hXb : intBits (O * 2 ^ (wd * aboveL rs).toNat) ≤ 60 * intBits H)
    (hdiv : O * 2 ^ (wd * aboveL rs).toNat / H = evalD (2 ^ wd.toNat) (countsL ts top)) (hmod : O * 2 ^ (wd * aboveL rs).toNat % H = 0)
    (hW0 : 0 ≤ evalD (2 ^ wd.toNat) (countsL ts top)) (hkk : ((intBits (evalD (2 ^ wd.toNat) (countsL ts top)) : Int) + wd - 1) / wd = kk) (hk64 : kk ≤ 64) (hWb : intBits (evalD (2 ^ wd.toNat) (countsL ts top)) ≤ 1000000)
    (hdg : digs (2 ^ wd.toNat) (evalD (2 ^ wd.toNat) (countsL ts top)) kk ++ List.replicate (top - kk).toNat 0 = countsL ts top)
    (hret : ∀ h' tk' m', Fr h₀ L h' m' → GrownAll [(41, 37), (34, 30)] h' → Q (.ret (.bool true)) { s with heap := h', toks := tk' }) :
    wpAny (model PR w) (callerA.deeper (lawEnv L fa cd)) (execs (lawParts.1.drop 26) (lawEnv L fa cd)) Q E s := by
  k_with_none
  k_with "execs cons Assign cons" => k_extra "exa"
  k_with "call type:range" => k_extra "range"
  k_with "call builtin:len" => k_extra "len"
  k_with "call builtin:sum" => k_extra "sum"
  k_with "eval ListComp" => k_extra "comp"
  k_with "CompSrc" => k_extra "src"
  k_with "exec Assign" => k_extra "asg"
  k_with "binaryOp Mult int int" => k_extra "mul"
  k_with "binaryOp LShift int int" => k_extra "shl"
  k_with "binaryOp Mult ref int" => k_extra "rep"
  k_with "binaryOp Add ref ref" => k_extra "cat"
  k_with "subscriptTail Name Name ref int" => k_extra "item"
  k_with "call ref" => ((with_reducible show wpAny _ _ (call (Value.ref 115) _ _) _ _ _); k_extra "call_115")
  k_with "call ref" => ((with_reducible show wpAny _ _ (call (Value.ref 120) _ _) _ _ _); k_extra "call_120")
  k_with "call ref" => ((with_reducible show wpAny _ _ (call (Value.ref 108) _ _) _ _ _); k_extra "call_108")
  k_with "call ref" => ((with_reducible show wpAny _ _ (call (Value.ref 35) _ _) _ _ _); k_extra "call_35")
  k_with "call ref" => ((with_reducible show wpAny _ _ (call (Value.ref 49) _ _) _ _ _); k_extra "call_49")
  k_with "ar" => (first | with_reducible exact ar475 (by assumption) | with_reducible exact ar56 | with_reducible exact ar69 | with_reducible exact ar472 | with_reducible exact ar481 (by assumption) | with_reducible exact ar580 (by assumption) | with_reducible exact ar141 | with_reducible exact ar624 (by assumption) | with_reducible exact ar621 (by assumption) (by assumption) | with_reducible exact ar654 (by assumption) | with_reducible exact ar211 (by assumption) | with_reducible exact ar169 (by assumption) (by assumption) | with_reducible exact ar669 (by assumption) | with_reducible exact ar246 (by assumption) | with_reducible exact ar7 (by assumption) | with_reducible exact ar455 (by assumption) (by assumption) | with_reducible exact ar157 | with_reducible exact ar165 | with_reducible exact ar536 (by assumption) | with_reducible exact ar21 (by assumption) | with_reducible exact ar279 | with_reducible exact ar30 | with_reducible exact ar12 (by assumption) (by assumption) | with_reducible exact ar322 (by assumption) (by assumption) (by assumption) | with_reducible exact ar254 (by assumption) | with_reducible exact ar222 (by assumption) | with_reducible exact ar631 (by assumption) (by assumption) (by assumption) | with_reducible exact ar173)
  conv in lawParts.1.drop 26 => whnf
  have hoff5 : ∀ q ∈ [((Tk : Addr), listOf tv.toArray ept), (Ev, listOf ev.toArray epe), (L + 2, oR), (R, listOf vr.toArray epr), (D4, listOf ys.toArray ep4)], q.1 ≠ 30 ∧ q.1 ≠ 37 := off_cons hT37 (off_cons hE37 (off_cons hL (off_cons hR37 (off_one hD37))))
  k_with_none
  k_with "execs cons Assign cons" => k_extra "exa"
  k_with "call type:range" => k_extra "range"
  k_with "call builtin:len" => k_extra "len"
  k_with "call builtin:sum" => k_extra "sum"
  k_with "eval ListComp" => k_extra "comp"
  k_with "CompSrc" => k_extra "src"
  k_with "exec Assign" => k_extra "asg"
  k_with "binaryOp Mult int int" => k_extra "mul"
  k_with "binaryOp LShift int int" => k_extra "shl"
  k_with "binaryOp Mult ref int" => k_extra "rep"
  k_with "binaryOp Add ref ref" => k_extra "cat"
  k_with "subscriptTail Name Name ref int" => k_extra "item"
  k_with "call ref" => ((with_reducible show wpAny _ _ (call (Value.ref 115) _ _) _ _ _); k_extra "call_115")
  k_with "call ref" => ((with_reducible show wpAny _ _ (call (Value.ref 120) _ _) _ _ _); k_extra "call_120")
  k_with "call ref" => ((with_reducible show wpAny _ _ (call (Value.ref 108) _ _) _ _ _); k_extra "call_108")
  k_with "call ref" => ((with_reducible show wpAny _ _ (call (Value.ref 35) _ _) _ _ _); k_extra "call_35")
  k_with "call ref" => ((with_reducible show wpAny _ _ (call (Value.ref 49) _ _) _ _ _); k_extra "call_49")
  k_with "ar" => (first | with_reducible exact ar475 (by assumption) | with_reducible exact ar56 | with_reducible exact ar69 | with_reducible exact ar472 | with_reducible exact ar481 (by assumption) | with_reducible exact ar580 (by assumption) | with_reducible exact ar141 | with_reducible exact ar624 (by assumption) | with_reducible exact ar621 (by assumption) (by assumption) | with_reducible exact ar654 (by assumption) | with_reducible exact ar211 (by assumption) | with_reducible exact ar169 (by assumption) (by assumption) | with_reducible exact ar669 (by assumption) | with_reducible exact ar246 (by assumption) | with_reducible exact ar7 (by assumption) | with_reducible exact ar455 (by assumption) (by assumption) | with_reducible exact ar157 | with_reducible exact ar165 | with_reducible exact ar536 (by assumption) | with_reducible exact ar21 (by assumption) | with_reducible exact ar279 | with_reducible exact ar30 | with_reducible exact ar12 (by assumption) (by assumption) | with_reducible exact ar322 (by assumption) (by assumption) (by assumption) | with_reducible exact ar254 (by assumption) | with_reducible exact ar222 (by assumption) | with_reducible exact ar631 (by assumption) (by assumption) (by assumption) | with_reducible exact ar173)
  w_top off
  k_with "exa" => (refine wpAny_execs_cons ?_; (try dsimp only))
  k_with "range" => (refine range_K1 (by k_asm) (by k_asm) ?_; intro D t u v h' tk' F' N' l1; (try k_lt l1))
  k_with "comp" => (k_dflt (refine LCg.ListComp_U (F₀ := by k_asm) (by with_unfolding_all rfl) (by decide) (by rfl) (by decide) (by rfl) ?_))
  k_with "src" => (refine Stop.mk ?_)
  k_steps
  refine Stop.of ?_
  k_with_none
  k_with "execs cons Assign cons" => k_extra "exa"
  k_with "call type:range" => k_extra "range"
  k_with "call builtin:len" => k_extra "len"
  k_with "call builtin:sum" => k_extra "sum"
  k_with "eval ListComp" => k_extra "comp"
  k_with "CompSrc" => k_extra "src"
  k_with "exec Assign" => k_extra "asg"
  k_with "binaryOp Mult int int" => k_extra "mul"
  k_with "binaryOp LShift int int" => k_extra "shl"
  k_with "binaryOp Mult ref int" => k_extra "rep"
  k_with "binaryOp Add ref ref" => k_extra "cat"
  k_with "subscriptTail Name Name ref int" => k_extra "item"
  k_with "call ref" => ((with_reducible show wpAny _ _ (call (Value.ref 115) _ _) _ _ _); k_extra "call_115")
  k_with "call ref" => ((with_reducible show wpAny _ _ (call (Value.ref 120) _ _) _ _ _); k_extra "call_120")
  k_with "call ref" => ((with_reducible show wpAny _ _ (call (Value.ref 108) _ _) _ _ _); k_extra "call_108")
  k_with "call ref" => ((with_reducible show wpAny _ _ (call (Value.ref 35) _ _) _ _ _); k_extra "call_35")
  k_with "call ref" => ((with_reducible show wpAny _ _ (call (Value.ref 49) _ _) _ _ _); k_extra "call_49")
  k_with "ar" => (first | with_reducible exact ar475 (by assumption) | with_reducible exact ar56 | with_reducible exact ar69 | with_reducible exact ar472 | with_reducible exact ar481 (by assumption) | with_reducible exact ar580 (by assumption) | with_reducible exact ar141 | with_reducible exact ar624 (by assumption) | with_reducible exact ar621 (by assumption) (by assumption) | with_reducible exact ar654 (by assumption) | with_reducible exact ar211 (by assumption) | with_reducible exact ar169 (by assumption) (by assumption) | with_reducible exact ar669 (by assumption) | with_reducible exact ar246 (by assumption) | with_reducible exact ar7 (by assumption) | with_reducible exact ar455 (by assumption) (by assumption) | with_reducible exact ar157 | with_reducible exact ar165 | with_reducible exact ar536 (by assumption) | with_reducible exact ar21 (by assumption) | with_reducible exact ar279 | with_reducible exact ar30 | with_reducible exact ar12 (by assumption) (by assumption) | with_reducible exact ar322 (by assumption) (by assumption) (by assumption) | with_reducible exact ar254 (by assumption) | with_reducible exact ar222 (by assumption) | with_reducible exact ar631 (by assumption) (by assumption) (by assumption) | with_reducible exact ar173)
  have hr0 := (N' _ (List.mem_cons_self ..)).1
  refine LCg.CompSrc.range (n := rs.length) rfl (by k_asm) (by k_asm) hr0 (small_one (by omega) (by omega) (by omega) (by omega)) (by rw [rangeSize_one]; split <;> omega) (by rw [sizeLine_eq]; omega) ?_
  intro g9
  refine rest_map (ks := rangeL 0 rs.length) (fun k => k * rs.getD k.toNat 0) (rangeL_len _ _) (fun i v hi hv => ?hP) ?own trivial ?fin
  case hP =>
    obtain ⟨t, rfl⟩ := hv
    exact ⟨_, t, rangeL_get _ i 0 hi, rfl⟩
  case own =>
    intro b tb I3 oI3 C3 oC3 D4' m4 ys h4 tk4 E4 Q4 hb hC hx F4 N4 hQ
    have hbm := rangeL_mem _ _ _ hb
    have hbi : IntMulOk b (rs.getD b.toNat 0) := IntMulOk.of_left (by
      have h1 : b = 0 ∨ b = 1 ∨ b = 2 := by omega
      rcases h1 with rfl | rfl | rfl <;> decide +kernel)
    obtain ⟨x, hx1⟩ : ∃ x, rs[b.toNat]? = some x := ⟨rs[b.toNat]'(by omega), List.getElem?_eq_getElem (by omega)⟩
    have hgx : rs.getD b.toNat 0 = x := by rw [List.getD_eq_getElem?_getD, hx1]; rfl
    rw [hgx] at hbi hQ
    k_with "item" => (refine item_ints (News.isList (by k_asm) (show (R, listOf vr.toArray epr) ∈ _ from List.Mem.tail _ (List.Mem.tail _ (List.Mem.tail _ (List.Mem.tail _ (List.Mem.tail _ (List.Mem.tail _ (List.Mem.tail _ (List.Mem.head _))))))))) hir (by omega) (by omega) hx1 ?_; intro tx)
    k_with "mul" => (refine mul_int ?_ hbi)
    k_steps
    exact hQ _ _
  case fin =>
    intro yk hyk D5 h4 tk4 F4 N4 o4
    k_with "sum" => ((with_unfolding_all refine' sumK ?k0 ?k1 ?k2 ?k3 hyk ?_; (case k0 => with_unfolding_all rfl); (case k1 => k_asm); (case k2 => k_asm); (case k3 => exact News.isList (by k_asm) (List.mem_cons_self ..)); k_whole); intro h' tk' t' F' N')
    k_with "asg" => ((with_reducible show wpAny _ _ (exec (Stmt.Assign [Expr.Tuple _ _ _] _ _) _) _ _ _); refine Stop.mk ?_)
    k_with "exa" => (refine wpAny_execs_cons ?_; (try dsimp only))
    k_steps
    refine Stop.of ?_
    k_with_none
    k_with "execs cons Assign cons" => k_extra "exa"
    k_with "call type:range" => k_extra "range"
    k_with "call builtin:len" => k_extra "len"
    k_with "call builtin:sum" => k_extra "sum"
    k_with "eval ListComp" => k_extra "comp"
    k_with "CompSrc" => k_extra "src"
    k_with "exec Assign" => k_extra "asg"
    k_with "binaryOp Mult int int" => k_extra "mul"
    k_with "binaryOp LShift int int" => k_extra "shl"
    k_with "binaryOp Mult ref int" => k_extra "rep"
    k_with "binaryOp Add ref ref" => k_extra "cat"
    k_with "subscriptTail Name Name ref int" => k_extra "item"
    k_with "call ref" => ((with_reducible show wpAny _ _ (call (Value.ref 115) _ _) _ _ _); k_extra "call_115")
    k_with "call ref" => ((with_reducible show wpAny _ _ (call (Value.ref 120) _ _) _ _ _); k_extra "call_120")
    k_with "call ref" => ((with_reducible show wpAny _ _ (call (Value.ref 108) _ _) _ _ _); k_extra "call_108")
    k_with "call ref" => ((with_reducible show wpAny _ _ (call (Value.ref 35) _ _) _ _ _); k_extra "call_35")
    k_with "call ref" => ((with_reducible show wpAny _ _ (call (Value.ref 49) _ _) _ _ _); k_extra "call_49")
    k_with "ar" => (first | with_reducible exact ar475 (by assumption) | with_reducible exact ar56 | with_reducible exact ar69 | with_reducible exact ar472 | with_reducible exact ar481 (by assumption) | with_reducible exact ar580 (by assumption) | with_reducible exact ar141 | with_reducible exact ar624 (by assumption) | with_reducible exact ar621 (by assumption) (by assumption) | with_reducible exact ar654 (by assumption) | with_reducible exact ar211 (by assumption) | with_reducible exact ar169 (by assumption) (by assumption) | with_reducible exact ar669 (by assumption) | with_reducible exact ar246 (by assumption) | with_reducible exact ar7 (by assumption) | with_reducible exact ar455 (by assumption) (by assumption) | with_reducible exact ar157 | with_reducible exact ar165 | with_reducible exact ar536 (by assumption) | with_reducible exact ar21 (by assumption) | with_reducible exact ar279 | with_reducible exact ar30 | with_reducible exact ar12 (by assumption) (by assumption) | with_reducible exact ar322 (by assumption) (by assumption) (by assumption) | with_reducible exact ar254 (by assumption) | with_reducible exact ar222 (by assumption) | with_reducible exact ar631 (by assumption) (by assumption) (by assumption) | with_reducible exact ar173)
    (rename News _ _ _ _ => N8)
    (rename Fr _ _ _ _ => F8)
    obtain ⟨ab, tab, habe, F9⟩ := fr_abs F8
    replace habe : ab = aboveL rs := habe
    have N9 : News h₀ L _ ((Tk, listOf tv.toArray ept) :: (Ev, listOf ev.toArray epe) :: (L + 2, oR) :: (R, listOf vr.toArray epr) :: (D4, listOf ys.toArray ep4) :: r) := News.sub N8 (fun q hq => .tail _ (.tail _ hq))
    clear F8 N8 o4 hyk hr0
    rw [← habe] at hab hXb hdiv hmod
    clear habe
    obtain ⟨q, hq⟩ : ∃ q, (2 : Int) ^ wd.toNat = q := ⟨_, rfl⟩
    rw [hq] at hH hdiv hW0 hkk hWb hdg
    obtain ⟨W, hW⟩ : ∃ W, evalD q (countsL ts top) = W := ⟨_, rfl⟩
    rw [hW] at hdiv hW0 hkk hWb hdg
    have hmo : IntMulOk wd ab := IntMulOk.of_left (Nat.le_trans (bits_of_lt (m := 11) (by omega) (by omega)) (by decide))
    have hsh0 : 0 ≤ wd * ab := Int.mul_nonneg (by omega) hab.1
    have hsh1 : wd * ab ≤ 1204 * 10 := Int.mul_le_mul (by omega) hab.2 hab.1 (by decide)
    have hshb : (intBits O : Int) + wd * ab ≤ 2 ^ 27 := by omega
    obtain ⟨xx, hxx⟩ : ∃ xx, O * 2 ^ (wd * ab).toNat = xx := ⟨_, rfl⟩
    have hx0 : 0 ≤ xx := by rw [← hxx]; exact Int.mul_nonneg hO0 (Int.le_of_lt (two_pos _))
    rw [hxx] at hXb hdiv hmod
    have hdl : (digs q W kk).length = kk := digs_len q kk W
    k_with "mul" => (refine mul_int ?_ hmo)
    k_with "shl" => (refine lshift_int hsh0 hshb ?_; rw [hxx])
    k_with "exa" => (refine wpAny_execs_cons ?_; (try dsimp only))
    k_with "call_108" => (with_unfolding_all refine' t_hooks (rs := rs) (vr := vr) (d := R) (epr := epr) ?B ?F ?X ?N ?T ?hk ?hD hir hrl hrs ?hd ?hu ?_; (case B => k_asm); (case F => k_asm); (case X => k_asm); (case N => k_asm); (case T => k_asm); (case hk => exact rfl); (case hD => exact .tail _ (.tail _ (.tail _ (.head _)))); (case hd => ktr_room); (case hu => ktr_units); k_whole; intro Dh vh eph h' tk' F' N' lh hih; (have hDh : @LT.lt Nat _ 37 Dh := Nat.lt_trans hT37 (lh (Tk, listOf tv.toArray ept) (.head _))); (try dsimp only); (try k_fold))
    k_with "call_115" => (with_unfolding_all refine' u_prod (es := (Dh, listOf vh.toArray eph) :: [((Tk : Addr), listOf tv.toArray ept), (Ev, listOf ev.toArray epe), (L + 2, oR), (R, listOf vr.toArray epr), (D4, listOf ys.toArray ep4)]) (r := r) (ks := hooksL rs) ?B ?F ?X ?N ?T ?hk C2 ?hsub hr ?hoff (.head _) ?hs hhk hhl ?c3 ?c4 ?hd ?hu ?_; (case B => k_asm); (case F => k_asm); (case X => k_asm); (case N => k_asm); (case T => k_asm); (case hk => exact rfl); (case hsub => exact fun q hq => hq); (case hoff => exact off_cons hDh hoff5); (case hs => exact .inl ⟨vh, eph, rfl, hih⟩); (case c3 => omega); (case c4 => omega); (case hd => ktr_room); (case hu => ktr_units); k_whole; rw [hq, hH]; intro t' r3 h' tk' F' N' hr3; (simp only [List.cons_append, List.nil_append] at N'); (try dsimp only); (try k_fold))
    k_with "call_49" => (with_unfolding_all refine' u_divmod (es := (Dh, listOf vh.toArray eph) :: [((Tk : Addr), listOf tv.toArray ept), (Ev, listOf ev.toArray epe), (L + 2, oR), (R, listOf vr.toArray epr), (D4, listOf ys.toArray ep4)]) (r := r3) ?B ?F ?X ?N ?T ?hk C1 C2 ?hsub hr3 ?hoff hx0 hH0 hHb hXb ?hd ?hu ?_; (case B => k_asm); (case F => k_asm); (case X => k_asm); (case N => k_asm); (case T => k_asm); (case hk => exact rfl); (case hsub => exact fun q hq => hq); (case hoff => exact off_cons hDh hoff5); (case hd => ktr_room); (case hu => ktr_units); k_whole; rw [hdiv, hmod]; intro t1 tq1 tr1 r4 h' tk' F' N' hr4 l1; (simp only [List.cons_append, List.nil_append] at N'); (have ht37 : @LT.lt Nat _ 37 t1 := Nat.lt_trans hT37 (l1 (Tk, listOf tv.toArray ept) (.tail _ (.head _)))); (try k_lt l1); (try dsimp only); (try k_fold))
    k_with "call_35" => (with_unfolding_all refine' u_i2d (es := ((t1 : Addr), tupO W tq1 0 tr1) :: (Dh, listOf vh.toArray eph) :: [((Tk : Addr), listOf tv.toArray ept), (Ev, listOf ev.toArray epe), (L + 2, oR), (R, listOf vr.toArray epr), (D4, listOf ys.toArray ep4)]) (r := r4) (kk := kk) ?B ?F ?X ?N ?T ?hk C1 ?hsub hr4 ?hoff hW0 ?c1 ?c2 hkk hk64 hWb ?hd ?hu ?_; (case B => k_asm); (case F => k_asm); (case X => k_asm); (case N => k_asm); (case T => k_asm); (case hk => exact rfl); (case hsub => exact fun q hq => hq); (case hoff => exact off_cons ht37 (off_cons hDh hoff5)); (case c1 => omega); (case c2 => omega); (case hd => ktr_room); (case hu => ktr_units); k_whole; rw [hq]; intro Dd vd epd r5 h' tk' F' N' hr5 ld hidg; (simp only [List.cons_append, List.nil_append] at N'); (try k_lt ld); (try dsimp only); (try k_fold))
    k_with "rep" => (refine mul_one (by k_asm) (by k_asm) (by is_list) (by omega) (by omega) ?_; intro Dz vz h' F' N' lz hiz; (try k_lt lz))
    k_with "call_120" => (with_unfolding_all refine' t_counts (ns := ts) (d := Tk) (vs := tv) (ep := ept) ?B ?F ?X ?N ?T ?hk ?hD hit htp.1 ?c9 ?hd ?hu ?_; (case B => k_asm); (case F => k_asm); (case X => k_asm); (case N => k_asm); (case T => k_asm); (case hk => exact rfl); (case hD => k_mem); (case c9 => omega); (case hd => ktr_room); (case hu => ktr_units); k_whole; intro D2 vc epc h' tk' F' N' hic; (try dsimp only); (try k_fold))
    k_steps
    (rename News _ _ _ _ => N9)
    have hfin : decide (digs q W kk ++ List.replicate (top - ((digs q W kk).length : Int)).toNat 0 = countsL ts top) = true := decide_eq_true (by rw [hdl, hdg])
    rw [hfin]
    refine hret _ _ _ (by k_asm) (Tabs2.grown (by assumption) N9 (fun q hq => by repeat (first | exact hq | refine List.Mem.tail _ ?_)))
end Mine
namespace Mine
/-- the signs that the reader looks for stand apart -/
def GoodF (f : Nat → Nat) : Prop := ∀ z ∈ [34, 40, 41, 92], ∀ c, f c = z ↔ c = z
noncomputable def mapS (f : Nat → Nat) (x : Str) : Str := ⟨x.cps.map f⟩
theorem mapS_len (f : Nat → Nat) (x : Str) : (mapS f x).length = x.length := by simp [mapS, Str.length]
theorem mapS_append (f : Nat → Nat) (x y : Str) : mapS f (x ++ y) = mapS f x ++ mapS f y := by
  show mapS f (Str.append x y) = Str.append (mapS f x) (mapS f y)
  simp [mapS, Str.append]
theorem mapS_one {f : Nat → Nat} (hf : GoodF f) {z : Nat} (hz : z ∈ [34, 40, 41, 92]) (x : Str) : mapS f x = ⟨#[z]⟩ ↔ x = ⟨#[z]⟩ := by
  obtain ⟨⟨l⟩⟩ := x
  simp only [mapS, List.map_toArray, Str.mk.injEq, Array.mk.injEq]
  cases l with
  | nil => simp
  | cons a r => simp [hf z hz a]
theorem mapS_beq {f : Nat → Nat} (hf : GoodF f) {z : Nat} (hz : z ∈ [34, 40, 41, 92]) (x : Str) : (mapS f x == ⟨#[z]⟩) = (x == ⟨#[z]⟩) := by
  rw [Bool.eq_iff_iff, beq_iff_eq, beq_iff_eq]
  exact mapS_one hf hz x
theorem mapS_fix {f : Nat → Nat} (hf : GoodF f) {z : Nat} (hz : z ∈ [34, 40, 41, 92]) : mapS f ⟨#[z]⟩ = ⟨#[z]⟩ := (mapS_one hf hz _).mpr rfl
theorem s92 : Str.ofString "\\" = ⟨#[92]⟩ := by decide +kernel
theorem s34 : Str.ofString "\"" = ⟨#[34]⟩ := by decide +kernel
theorem s40 : Str.ofString "(" = ⟨#[40]⟩ := by decide +kernel
theorem s41 : Str.ofString ")" = ⟨#[41]⟩ := by decide +kernel
theorem s00 : Str.ofString "" = ⟨#[]⟩ := by decide +kernel
noncomputable def mapP (f : Nat → Nat) (q : Int × Str) : Int × Str := (q.1, mapS f q.2)
theorem esc_map {f : Nat → Nat} (hf : GoodF f) : ∀ (l : List Nat) (i : Nat) (e : Bool), escFrom i e (l.map f) = (escFrom i e l).map (mapP f)
  | [], i, e => by
    unfold escFrom
    rw [List.map_nil]
    cases e with
    | false => rfl
    | true =>
      show [_] = [_]
      rw [mapP, s92, mapS_fix hf (by decide)]
  | c :: r, i, e => by
    have e1 : (⟨#[f c]⟩ : Str) = mapS f ⟨#[c]⟩ := by simp [mapS]
    have e2 : ((⟨#[f c]⟩ : Str) == Str.ofString "\\") = ((⟨#[c]⟩ : Str) == Str.ofString "\\") := by
      rw [e1, s92]
      exact mapS_beq hf (by decide) _
    have e3 : Str.ofString "\\" ++ (⟨#[f c]⟩ : Str) = mapS f (Str.ofString "\\" ++ ⟨#[c]⟩) := by
      rw [mapS_append, s92, mapS_fix hf (by decide), e1]
    rw [List.map_cons, escFrom, escFrom, e2, e3, esc_map hf r, esc_map hf r, e1]
    split
    · rfl
    · split
      · rfl
      · rfl
theorem escL_map {f : Nat → Nat} (hf : GoodF f) (x : Str) : escL (mapS f x) = (escL x).map (mapP f) := by
  unfold escL
  rw [← esc_map hf]
  simp [mapS]
theorem slice_map (f : Nat → Nat) (x : Str) (a b : Option Int) : Txt.slice (mapS f x) a b = mapS f (Txt.slice x a b) := by
  unfold Txt.slice
  rw [mapS_len]
  split
  · rfl
  · unfold mapS
    simp only [List.map_toArray, Str.mk.injEq, Array.mk.injEq]
    rw [List.map_filterMap]
    congr 1
    funext i
    rw [Array.getElem?_map]
noncomputable def mapT (f : Nat → Nat) (st : StS) : StS := (st.1, st.2.1, st.2.2.map (mapS f))
theorem step_map {f : Nat → Nat} (hf : GoodF f) (x : Str) (st : StS) (pc : Int × Str) : stStep (mapS f x) (mapT f st) (mapP f pc) = mapT f (stStep x st pc) := by
  obtain ⟨a, o, l⟩ := st
  obtain ⟨p, c⟩ := pc
  have e : (mapS f c == Str.ofString "\"") = (c == Str.ofString "\"") := by rw [s34]; exact mapS_beq hf (by decide) c
  unfold stStep mapT mapP
  dsimp only
  rw [e]
  split
  · cases o with
    | none => rfl
    | some o =>
      dsimp only
      split
      · rfl
      · rw [slice_map, List.map_append]
        rfl
  · rfl
theorem fold_map {f : Nat → Nat} (hf : GoodF f) (x : Str) : ∀ (l : List (Int × Str)) (st : StS), (l.map (mapP f)).foldl (stStep (mapS f x)) (mapT f st) = mapT f (l.foldl (stStep x) st)
  | [], _ => rfl
  | q :: r, st => by rw [List.map_cons, List.foldl_cons, List.foldl_cons, step_map hf, fold_map hf x r]
theorem stAll_map {f : Nat → Nat} (hf : GoodF f) (x : Str) (n : Nat) : stAll (mapS f x) n = mapT f (stAll x n) := by
  unfold stAll
  rw [escL_map hf, ← List.map_take, ← fold_map hf]
  rfl
theorem join_map (f : Nat → Nat) (sep : Str) : ∀ l : List Str, Str.join (mapS f sep) (l.map (mapS f)) = mapS f (Str.join sep l)
  | [] => by simp [Str.join, mapS, Str.empty]
  | [x] => rfl
  | x :: y :: r => by
    show mapS f x ++ mapS f sep ++ Str.join (mapS f sep) ((y :: r).map (mapS f)) = mapS f (x ++ sep ++ Str.join sep (y :: r))
    rw [join_map f sep (y :: r), mapS_append, mapS_append]
theorem tjoin_map (f : Nat → Nat) (l : List Str) : Txt.join (Str.ofString "") (l.map (mapS f)) = mapS f (Txt.join (Str.ofString "") l) := by
  have h := join_map f (Str.ofString "") l
  have e : mapS f (Str.ofString "") = Str.ofString "" := by rw [s00]; simp [mapS]
  rw [e] at h
  unfold Txt.join
  rw [StrLaws.glued_eq_join, StrLaws.glued_eq_join]
  exact h
theorem strip_map {f : Nat → Nat} (hf : GoodF f) (x : Str) : stripL (mapS f x) = mapS f (stripL x) := by
  have e1 : 34 ∈ (mapS f x).cps.toList ↔ 34 ∈ x.cps.toList := by
    simp only [mapS, Array.toList_map, List.mem_map]
    constructor
    · rintro ⟨c, hc, h⟩
      rw [(hf 34 (by decide) c).mp h] at hc
      exact hc
    · intro h
      exact ⟨34, h, (hf 34 (by decide) 34).mpr rfl⟩
  unfold stripL
  rw [stAll_map hf, escL_map hf, List.length_map, mapS_len]
  by_cases h : 34 ∈ x.cps.toList
  · rw [if_pos (e1.mpr h), if_pos h, ← tjoin_map]
    congr 1
    unfold mapT
    dsimp only
    split
    · rw [List.map_append, slice_map]; rfl
    · rfl
  · rw [if_neg (fun q => h (e1.mp q)), if_neg h]
theorem checkL_map {f : Nat → Nat} (hf : GoodF f) : ∀ (l : List (Int × Str)) (o : Int), checkL (l.map (mapP f)) o = checkL l o
  | [], _ => rfl
  | (p, c) :: r, o => by
    have e1 : (mapS f c == Str.ofString "(") = (c == Str.ofString "(") := by rw [s40]; exact mapS_beq hf (by decide) c
    have e2 : (mapS f c == Str.ofString ")") = (c == Str.ofString ")") := by rw [s41]; exact mapS_beq hf (by decide) c
    rw [List.map_cons, mapP]
    dsimp only
    rw [checkL, checkL, e1, e2, checkL_map hf r, checkL_map hf r, checkL_map hf r]
theorem checkP_map {f : Nat → Nat} (hf : GoodF f) (x : Str) : checkP (mapS f x) = checkP x := by
  unfold checkP
  rw [strip_map hf, escL_map hf, checkL_map hf]
theorem chOf_map {f : Nat → Nat} (hf : GoodF f) (ls : List Str) (k o : Int) : chOf (ls.map (mapS f)) k o = mapS f (chOf ls k o) := by
  unfold chOf
  split
  · rw [s40, mapS_fix hf (by decide)]
  · split
    · rw [s41, mapS_fix hf (by decide)]
    · rw [List.getD_eq_getElem?_getD, List.getD_eq_getElem?_getD, List.getElem?_map]
      cases ls[o.toNat]? with
      | none => rw [Option.map_none, Option.getD_none, s00]; simp [mapS]
      | some l => rfl
theorem inW_map {f : Nat → Nat} (hf : GoodF f) (ls : List Str) (k : Int) : ∀ (ws : List Int) (t : Str), inW (ls.map (mapS f)) k (mapS f t) ws = mapS f (inW ls k t ws)
  | [], _ => rfl
  | o :: r, t => by
    show inW (ls.map (mapS f)) k (mapS f t ++ chOf (ls.map (mapS f)) k o) r = mapS f (inW ls k (t ++ chOf ls k o) r)
    rw [chOf_map hf, ← mapS_append, inW_map hf ls k r]
theorem mul_map {f : Nat → Nat} (hf : GoodF f) (n : Int) : mapS f (Txt.mul (Str.ofString ")") n) = Txt.mul (Str.ofString ")") n := by
  k_with_none
  k_with "ar" => (first | with_reducible exact ar687)
  have h1 : n < 1 ∨ n = 1 ∨ 1 < n := by omega
  unfold Txt.mul
  split
  · simp [mapS, Str.empty]
  · split
    · rw [s41, mapS_fix hf (by decide)]
    · rw [s41]
      have key : ∀ (k : Nat) (a : Array Nat), ((List.replicate k (#[41] : Array Nat)).foldl (· ++ ·) a).map f = (List.replicate k (#[41] : Array Nat)).foldl (· ++ ·) (a.map f) := by
        intro k
        induction k with
        | zero => intro a; rfl
        | succ k ih =>
          intro a
          have e : f 41 = 41 := (hf 41 (by decide) 41).mpr rfl
          rw [List.replicate_succ, List.foldl_cons, List.foldl_cons, ih]
          simp [e]
      have h2 := key n.toNat #[]
      unfold mapS
      dsimp only
      rw [h2]
      simp
theorem textTo_map {f : Nat → Nat} (hf : GoodF f) {ls : List Str} {hid : Str} {rs ws : List Int} (hh : mapS f hid = hid) : ∀ i, textTo (ls.map (mapS f)) hid rs ws i = mapS f (textTo ls hid rs ws i)
  | 0 => by rw [textTo, textTo, s00]; simp [mapS]
  | i + 1 => by
    rw [textTo, textTo, textTo_map hf hh i, mapS_append, mul_map hf, ← inW_map hf, mapS_append, hh]
end Mine
namespace Mine
/-- every letter an a -/
noncomputable def toA (c : Nat) : Nat := if c = 34 ∨ c = 40 ∨ c = 41 ∨ c = 92 then c else 97
theorem toA_good : GoodF toA := by
  intro z hz c
  simp only [List.mem_cons, List.not_mem_nil, or_false] at hz
  unfold toA
  split
  case isTrue => exact Iff.rfl
  case isFalse h =>
    refine ⟨fun e => absurd e ?_, fun e => absurd (e.symm ▸ hz) h⟩
    rcases hz with rfl | rfl | rfl | rfl <;> decide
noncomputable def laL : List Str := [⟨#[97]⟩, ⟨#[97]⟩, ⟨#[97]⟩]
noncomputable def allOk (hid : Str) (rs : List Int) : Bool := (wordsL rs).all fun w => checkP (textTo laL hid rs w (rs.length - 1)) == fillsW rs w
theorem letters_map {c0 c1 c2 : Nat} (h0 : 192 ≤ c0) (h1 : c0 < c1) (h2 : c1 < c2) : [(⟨#[c0]⟩ : Str), ⟨#[c1]⟩, ⟨#[c2]⟩].map (mapS toA) = laL := by
  k_with_none
  k_with "ar" => (first | with_reducible exact ar613 (by assumption) | with_reducible exact ar607 (by assumption) (by assumption) | with_reducible exact ar585 (by assumption) (by assumption) (by assumption))
  have e0 : toA c0 = 97 := by unfold toA; rw [if_neg (by omega)]
  have e1 : toA c1 = 97 := by unfold toA; rw [if_neg (by omega)]
  have e2 : toA c2 = 97 := by unfold toA; rw [if_neg (by omega)]
  simp [mapS, laL, e0, e1, e2]
theorem ok_of {hid : Str} {rs : List Int} {c0 c1 c2 : Nat} (h0 : 192 ≤ c0) (h1 : c0 < c1) (h2 : c1 < c2) (hh : mapS toA hid = hid) (h : allOk hid rs = true) : ∀ w ∈ wordsL rs, checkP (textTo [⟨#[c0]⟩, ⟨#[c1]⟩, ⟨#[c2]⟩] hid rs w (rs.length - 1)) = fillsW rs w := by
  intro w hw
  have h3 := (List.all_eq_true.mp h) w hw
  rw [← eq_of_beq h3, ← letters_map h0 h1 h2, textTo_map toA_good hh, checkP_map toA_good]
set_option maxRecDepth 100000 in
theorem all_21 {hid : Str} (h : HidOk hid) : allOk hid [2, 1] = true := by rcases h with rfl | rfl | rfl | rfl <;> decide +kernel
set_option maxRecDepth 100000 in
theorem all_211 {hid : Str} (h : HidOk hid) : allOk hid [2, 1, 1] = true := by rcases h with rfl | rfl | rfl | rfl <;> decide +kernel
set_option maxRecDepth 100000 in
theorem all_22 {hid : Str} (h : HidOk hid) : allOk hid [2, 2] = true := by rcases h with rfl | rfl | rfl | rfl <;> decide +kernel
set_option maxRecDepth 100000 in
theorem all_221 {hid : Str} (h : HidOk hid) : allOk hid [2, 2, 1] = true := by rcases h with rfl | rfl | rfl | rfl <;> decide +kernel
set_option maxRecDepth 100000 in
theorem all_31 {hid : Str} (h : HidOk hid) : allOk hid [3, 1] = true := by rcases h with rfl | rfl | rfl | rfl <;> decide +kernel
set_option maxRecDepth 100000 in
theorem all_311 {hid : Str} (h : HidOk hid) : allOk hid [3, 1, 1] = true := by rcases h with rfl | rfl | rfl | rfl <;> decide +kernel
set_option maxRecDepth 100000 in
theorem all_32 {hid : Str} (h : HidOk hid) : allOk hid [3, 2] = true := by rcases h with rfl | rfl | rfl | rfl <;> decide +kernel
set_option maxRecDepth 100000 in
theorem all_33 {hid : Str} (h : HidOk hid) : allOk hid [3, 3] = true := by rcases h with rfl | rfl | rfl | rfl <;> decide +kernel
theorem hid_fix {hid : Str} (h : HidOk hid) : mapS toA hid = hid := by rcases h with rfl | rfl | rfl | rfl <;> decide +kernel
theorem hid_len {hid : Str} (h : HidOk hid) : hid.length ≤ 3 := by rcases h with rfl | rfl | rfl | rfl <;> decide +kernel
theorem plain0 {hid : Str} {rs : List Int} {c0 c1 c2 : Nat} (h : RowsOk rs) (hh : HidOk hid) (h0 : 192 ≤ c0) (h1 : c0 < c1) (h2 : c1 < c2) : ∀ w ∈ wordsL rs, checkP (textTo [⟨#[c0]⟩, ⟨#[c1]⟩, ⟨#[c2]⟩] hid rs w (rs.length - 1)) = fillsW rs w := by
  refine ok_of h0 h1 h2 (hid_fix hh) ?_
  rcases h with rfl | rfl | rfl | rfl | rfl | rfl | rfl | rfl
  · exact all_21 hh
  · exact all_211 hh
  · exact all_22 hh
  · exact all_221 hh
  · exact all_31 hh
  · exact all_311 hh
  · exact all_32 hh
  · exact all_33 hh

/-- the rise, by the letters' places -/
noncomputable def riseZ (w : List Int) : Nat → Int
  | 0 => 0
  | i + 1 => if w.getD i 0 < w.getD (i + 1) 0 then riseZ w i + ((i : Int) + 1) else riseZ w i
noncomputable def riseW (w : List Int) : Int := riseZ w (w.length - 1)
theorem lt_one {a b : Nat} : ([a] : List Nat) < [b] ↔ a < b := by
  simp [List.cons_lt_cons_iff]
theorem coll_of {c0 c1 c2 : Nat} (h1 : c0 < c1) (h2 : c1 < c2) {a b : Int} (ha : 0 ≤ a ∧ a < 3) (hb : 0 ≤ b ∧ b < 3) :
    collV ([(⟨#[c0]⟩ : Str), ⟨#[c1]⟩, ⟨#[c2]⟩].getD a.toNat (Str.ofString "")) ([(⟨#[c0]⟩ : Str), ⟨#[c1]⟩, ⟨#[c2]⟩].getD b.toNat (Str.ofString "")) = -1 ↔ a < b := by
  k_with_none
  k_with "ar" => (first | with_reducible exact ar82 (by assumption) | with_reducible exact ar467 (by assumption))
  have h3 : a = 0 ∨ a = 1 ∨ a = 2 := by omega
  have h4 : b = 0 ∨ b = 1 ∨ b = 2 := by omega
  have key : ∀ x y : Nat, collV ⟨#[x]⟩ ⟨#[y]⟩ = -1 ↔ x < y := by
    intro x y
    unfold collV
    dsimp only
    simp only [lt_one]
    by_cases g1 : y < x
    · have g2 : ¬ x < y := by omega
      simp [g1, g2, b2i]
    · by_cases g2 : x < y
      · simp [g1, g2, b2i]
      · simp [g1, g2, b2i]
  rcases h3 with rfl | rfl | rfl <;> rcases h4 with rfl | rfl | rfl <;> (show collV ⟨#[_]⟩ ⟨#[_]⟩ = -1 ↔ _) <;> rw [key] <;> omega
theorem riseTo_eq {c0 c1 c2 : Nat} (h1 : c0 < c1) (h2 : c1 < c2) {w : List Int} (hw : ∀ k ∈ w, 0 ≤ k ∧ k < 3) : ∀ i, riseTo [⟨#[c0]⟩, ⟨#[c1]⟩, ⟨#[c2]⟩] w i = riseZ w i
  | 0 => rfl
  | i + 1 => by
    have hg : ∀ j, 0 ≤ w.getD j 0 ∧ w.getD j 0 < 3 := fun j => by
      rw [List.getD_eq_getElem?_getD]
      cases h : w[j]? with
      | none => decide
      | some r => exact hw r (List.mem_of_getElem? h)
    rw [riseTo, riseZ, riseTo_eq h1 h2 hw i]
    unfold lsAt
    by_cases h : w.getD i 0 < w.getD (i + 1) 0
    · rw [if_pos ((coll_of h1 h2 (hg _) (hg _)).mpr h), if_pos h]
    · rw [if_neg (fun q => h ((coll_of h1 h2 (hg _) (hg _)).mp q)), if_neg h]
theorem riseL_eq {c0 c1 c2 : Nat} (h1 : c0 < c1) (h2 : c1 < c2) {w : List Int} (hw : ∀ k ∈ w, 0 ≤ k ∧ k < 3) : riseL [⟨#[c0]⟩, ⟨#[c1]⟩, ⟨#[c2]⟩] w = riseW w := riseTo_eq h1 h2 hw _
theorem rises_eq {c0 c1 c2 : Nat} (h1 : c0 < c1) (h2 : c1 < c2) {rs : List Int} (hr : rs.length ≤ 3) {ws : List (List Int)} (hw : ∀ w ∈ ws, w ∈ wordsL rs) : ws.map (riseL [⟨#[c0]⟩, ⟨#[c1]⟩, ⟨#[c2]⟩]) = ws.map riseW := by
  k_with_none
  k_with "ar" => (first | with_reducible exact ar126 (by assumption) (by assumption))
  refine List.map_congr_left fun w hm => riseL_eq h1 h2 fun k hk => ?_
  have := wordsN_mem rs _ w (hw w hm) k hk
  omega
end Mine
namespace Mine
open PySem.Builtin.Int (intBits)
noncomputable def esW (rs : List Int) : List Int := (wordsL rs).map riseW
noncomputable def tsW (rs : List Int) : List Int := ((wordsL rs).filter (fillsW rs)).map riseW
theorem brk_1 (q : Int) : brk q 1 = 1 := by show 1 + q * 0 = 1; grind
theorem brk_s (q : Int) (k : Nat) : brk q ((k + 1 : Nat) : Int) = 1 + q * brk q (k : Int) := by
  unfold brk
  rw [Int.toNat_natCast, Int.toNat_natCast, List.replicate_succ, evalD]
theorem brk_2 (q : Int) : brk q 2 = 1 + q := by rw [show (2 : Int) = ((1 + 1 : Nat) : Int) from rfl, brk_s, show ((1 : Nat) : Int) = 1 from rfl, brk_1]; grind
theorem brk_3 (q : Int) : brk q 3 = 1 + q + q ^ 2 := by rw [show (3 : Int) = ((2 + 1 : Nat) : Int) from rfl, brk_s, show ((2 : Nat) : Int) = 2 from rfl, brk_2]; grind
theorem brk_4 (q : Int) : brk q 4 = 1 + q + q ^ 2 + q ^ 3 := by rw [show (4 : Int) = ((3 + 1 : Nat) : Int) from rfl, brk_s, show ((3 : Nat) : Int) = 3 from rfl, brk_3]; grind
theorem brk_5 (q : Int) : brk q 5 = 1 + q + q ^ 2 + q ^ 3 + q ^ 4 := by rw [show (5 : Int) = ((4 + 1 : Nat) : Int) from rfl, brk_s, show ((4 : Nat) : Int) = 4 from rfl, brk_4]; grind
theorem brk_6 (q : Int) : brk q 6 = 1 + q + q ^ 2 + q ^ 3 + q ^ 4 + q ^ 5 := by rw [show (6 : Int) = ((5 + 1 : Nat) : Int) from rfl, brk_s, show ((5 : Nat) : Int) = 5 from rfl, brk_5]; grind
theorem partsB_2 (q a b : Int) : partsB q [a, b] = prodB q (rangeL 1 a.toNat) * prodB q (rangeL 1 b.toNat) := by
  show 1 * _ * _ = _
  rw [Int.one_mul]
theorem partsB_3 (q a b c : Int) : partsB q [a, b, c] = prodB q (rangeL 1 a.toNat) * prodB q (rangeL 1 b.toNat) * prodB q (rangeL 1 c.toNat) := by
  show 1 * _ * _ * _ = _
  rw [Int.one_mul]
theorem pr1 (q : Int) : prodB q (rangeL 1 (1 : Int).toNat) = 1 := by show 1 * brk q 1 = 1; rw [brk_1]; rfl
theorem pr2 (q : Int) : prodB q (rangeL 1 (2 : Int).toNat) = 1 + q := by show 1 * brk q 1 * brk q 2 = _; rw [brk_1, brk_2]; grind
theorem pr3 (q : Int) : prodB q (rangeL 1 (3 : Int).toNat) = (1 + q) * (1 + q + q ^ 2) := by show 1 * brk q 1 * brk q 2 * brk q 3 = _; rw [brk_1, brk_2, brk_3]; grind
theorem pr4 (q : Int) : prodB q (rangeL 1 (4 : Int).toNat) = (1 + q) * (1 + q + q ^ 2) * (1 + q + q ^ 2 + q ^ 3) := by
  show prodB q (rangeL 1 (3 : Int).toNat) * brk q 4 = _; rw [pr3, brk_4]
theorem pr5 (q : Int) : prodB q (rangeL 1 (5 : Int).toNat) = (1 + q) * (1 + q + q ^ 2) * (1 + q + q ^ 2 + q ^ 3) * (1 + q + q ^ 2 + q ^ 3 + q ^ 4) := by
  show prodB q (rangeL 1 (4 : Int).toNat) * brk q 5 = _; rw [pr4, brk_5]
theorem pr6 (q : Int) : prodB q (rangeL 1 (6 : Int).toNat) = (1 + q) * (1 + q + q ^ 2) * (1 + q + q ^ 2 + q ^ 3) * (1 + q + q ^ 2 + q ^ 3 + q ^ 4) * (1 + q + q ^ 2 + q ^ 3 + q ^ 4 + q ^ 5) := by
  show prodB q (rangeL 1 (5 : Int).toNat) * brk q 6 = _; rw [pr5, brk_6]
set_option maxRecDepth 100000 in
theorem ce_21 : countsL (esW [2, 1]) 4 = [1, 1, 1, 0] := by decide +kernel
set_option maxRecDepth 100000 in
theorem ct_21 : countsL (tsW [2, 1]) 4 = [0, 1, 1, 0] := by decide +kernel
theorem hk_21 : hooksL [2, 1] = [3, 1, 1] := by decide +kernel
theorem ab_21 : aboveL [2, 1] = 1 := by decide +kernel
theorem h_21 (q : Int) : prodB q [3, 1, 1] = brk q 3 * brk q 1 * brk q 1 := by
  show 1 * brk q 3 * brk q 1 * brk q 1 = _
  rw [Int.one_mul]
theorem id1_21 (q : Int) : prodB q (rangeL 1 (3 : Int).toNat) = evalD q [1, 1, 1, 0] * partsB q [2, 1] := by
  rw [pr3, partsB_2]
  simp only [pr1, pr2, pr3, evalD]
  grind
theorem id2_21 (q : Int) : prodB q (rangeL 1 (3 : Int).toNat) * q ^ 1 = evalD q [0, 1, 1, 0] * prodB q [3, 1, 1] := by
  rw [pr3, h_21]
  simp only [brk_1, brk_2, brk_3, brk_4, brk_5, brk_6, evalD]
  grind
set_option maxRecDepth 100000 in
theorem ce_211 : countsL (esW [2, 1, 1]) 7 = [1, 2, 3, 3, 2, 1, 0] := by decide +kernel
set_option maxRecDepth 100000 in
theorem ct_211 : countsL (tsW [2, 1, 1]) 7 = [0, 0, 0, 1, 1, 1, 0] := by decide +kernel
theorem hk_211 : hooksL [2, 1, 1] = [4, 1, 2, 1] := by decide +kernel
theorem ab_211 : aboveL [2, 1, 1] = 3 := by decide +kernel
theorem h_211 (q : Int) : prodB q [4, 1, 2, 1] = brk q 4 * brk q 1 * brk q 2 * brk q 1 := by
  show 1 * brk q 4 * brk q 1 * brk q 2 * brk q 1 = _
  rw [Int.one_mul]
theorem id1_211 (q : Int) : prodB q (rangeL 1 (4 : Int).toNat) = evalD q [1, 2, 3, 3, 2, 1, 0] * partsB q [2, 1, 1] := by
  rw [pr4, partsB_3]
  simp only [pr1, pr2, pr3, evalD]
  grind
theorem id2_211 (q : Int) : prodB q (rangeL 1 (4 : Int).toNat) * q ^ 3 = evalD q [0, 0, 0, 1, 1, 1, 0] * prodB q [4, 1, 2, 1] := by
  rw [pr4, h_211]
  simp only [brk_1, brk_2, brk_3, brk_4, brk_5, brk_6, evalD]
  grind
set_option maxRecDepth 100000 in
theorem ce_22 : countsL (esW [2, 2]) 7 = [1, 1, 2, 1, 1, 0, 0] := by decide +kernel
set_option maxRecDepth 100000 in
theorem ct_22 : countsL (tsW [2, 2]) 7 = [0, 0, 1, 0, 1, 0, 0] := by decide +kernel
theorem hk_22 : hooksL [2, 2] = [3, 2, 2, 1] := by decide +kernel
theorem ab_22 : aboveL [2, 2] = 2 := by decide +kernel
theorem h_22 (q : Int) : prodB q [3, 2, 2, 1] = brk q 3 * brk q 2 * brk q 2 * brk q 1 := by
  show 1 * brk q 3 * brk q 2 * brk q 2 * brk q 1 = _
  rw [Int.one_mul]
theorem id1_22 (q : Int) : prodB q (rangeL 1 (4 : Int).toNat) = evalD q [1, 1, 2, 1, 1, 0, 0] * partsB q [2, 2] := by
  rw [pr4, partsB_2]
  simp only [pr1, pr2, pr3, evalD]
  grind
theorem id2_22 (q : Int) : prodB q (rangeL 1 (4 : Int).toNat) * q ^ 2 = evalD q [0, 0, 1, 0, 1, 0, 0] * prodB q [3, 2, 2, 1] := by
  rw [pr4, h_22]
  simp only [brk_1, brk_2, brk_3, brk_4, brk_5, brk_6, evalD]
  grind
set_option maxRecDepth 100000 in
theorem ce_221 : countsL (esW [2, 2, 1]) 11 = [1, 2, 4, 5, 6, 5, 4, 2, 1, 0, 0] := by decide +kernel
set_option maxRecDepth 100000 in
theorem ct_221 : countsL (tsW [2, 2, 1]) 11 = [0, 0, 0, 0, 1, 1, 1, 1, 1, 0, 0] := by decide +kernel
theorem hk_221 : hooksL [2, 2, 1] = [4, 2, 3, 1, 1] := by decide +kernel
theorem ab_221 : aboveL [2, 2, 1] = 4 := by decide +kernel
theorem h_221 (q : Int) : prodB q [4, 2, 3, 1, 1] = brk q 4 * brk q 2 * brk q 3 * brk q 1 * brk q 1 := by
  show 1 * brk q 4 * brk q 2 * brk q 3 * brk q 1 * brk q 1 = _
  rw [Int.one_mul]
theorem id1_221 (q : Int) : prodB q (rangeL 1 (5 : Int).toNat) = evalD q [1, 2, 4, 5, 6, 5, 4, 2, 1, 0, 0] * partsB q [2, 2, 1] := by
  rw [pr5, partsB_3]
  simp only [pr1, pr2, pr3, evalD]
  grind
theorem id2_221 (q : Int) : prodB q (rangeL 1 (5 : Int).toNat) * q ^ 4 = evalD q [0, 0, 0, 0, 1, 1, 1, 1, 1, 0, 0] * prodB q [4, 2, 3, 1, 1] := by
  rw [pr5, h_221]
  simp only [brk_1, brk_2, brk_3, brk_4, brk_5, brk_6, evalD]
  grind
set_option maxRecDepth 100000 in
theorem ce_31 : countsL (esW [3, 1]) 7 = [1, 1, 1, 1, 0, 0, 0] := by decide +kernel
set_option maxRecDepth 100000 in
theorem ct_31 : countsL (tsW [3, 1]) 7 = [0, 1, 1, 1, 0, 0, 0] := by decide +kernel
theorem hk_31 : hooksL [3, 1] = [4, 2, 1, 1] := by decide +kernel
theorem ab_31 : aboveL [3, 1] = 1 := by decide +kernel
theorem h_31 (q : Int) : prodB q [4, 2, 1, 1] = brk q 4 * brk q 2 * brk q 1 * brk q 1 := by
  show 1 * brk q 4 * brk q 2 * brk q 1 * brk q 1 = _
  rw [Int.one_mul]
theorem id1_31 (q : Int) : prodB q (rangeL 1 (4 : Int).toNat) = evalD q [1, 1, 1, 1, 0, 0, 0] * partsB q [3, 1] := by
  rw [pr4, partsB_2]
  simp only [pr1, pr2, pr3, evalD]
  grind
theorem id2_31 (q : Int) : prodB q (rangeL 1 (4 : Int).toNat) * q ^ 1 = evalD q [0, 1, 1, 1, 0, 0, 0] * prodB q [4, 2, 1, 1] := by
  rw [pr4, h_31]
  simp only [brk_1, brk_2, brk_3, brk_4, brk_5, brk_6, evalD]
  grind
set_option maxRecDepth 100000 in
theorem ce_311 : countsL (esW [3, 1, 1]) 11 = [1, 2, 3, 4, 4, 3, 2, 1, 0, 0, 0] := by decide +kernel
set_option maxRecDepth 100000 in
theorem ct_311 : countsL (tsW [3, 1, 1]) 11 = [0, 0, 0, 1, 1, 2, 1, 1, 0, 0, 0] := by decide +kernel
theorem hk_311 : hooksL [3, 1, 1] = [5, 2, 1, 2, 1] := by decide +kernel
theorem ab_311 : aboveL [3, 1, 1] = 3 := by decide +kernel
theorem h_311 (q : Int) : prodB q [5, 2, 1, 2, 1] = brk q 5 * brk q 2 * brk q 1 * brk q 2 * brk q 1 := by
  show 1 * brk q 5 * brk q 2 * brk q 1 * brk q 2 * brk q 1 = _
  rw [Int.one_mul]
theorem id1_311 (q : Int) : prodB q (rangeL 1 (5 : Int).toNat) = evalD q [1, 2, 3, 4, 4, 3, 2, 1, 0, 0, 0] * partsB q [3, 1, 1] := by
  rw [pr5, partsB_3]
  simp only [pr1, pr2, pr3, evalD]
  grind
theorem id2_311 (q : Int) : prodB q (rangeL 1 (5 : Int).toNat) * q ^ 3 = evalD q [0, 0, 0, 1, 1, 2, 1, 1, 0, 0, 0] * prodB q [5, 2, 1, 2, 1] := by
  rw [pr5, h_311]
  simp only [brk_1, brk_2, brk_3, brk_4, brk_5, brk_6, evalD]
  grind
set_option maxRecDepth 100000 in
theorem ce_32 : countsL (esW [3, 2]) 11 = [1, 1, 2, 2, 2, 1, 1, 0, 0, 0, 0] := by decide +kernel
set_option maxRecDepth 100000 in
theorem ct_32 : countsL (tsW [3, 2]) 11 = [0, 0, 1, 1, 1, 1, 1, 0, 0, 0, 0] := by decide +kernel
theorem hk_32 : hooksL [3, 2] = [4, 3, 1, 2, 1] := by decide +kernel
theorem ab_32 : aboveL [3, 2] = 2 := by decide +kernel
theorem h_32 (q : Int) : prodB q [4, 3, 1, 2, 1] = brk q 4 * brk q 3 * brk q 1 * brk q 2 * brk q 1 := by
  show 1 * brk q 4 * brk q 3 * brk q 1 * brk q 2 * brk q 1 = _
  rw [Int.one_mul]
theorem id1_32 (q : Int) : prodB q (rangeL 1 (5 : Int).toNat) = evalD q [1, 1, 2, 2, 2, 1, 1, 0, 0, 0, 0] * partsB q [3, 2] := by
  rw [pr5, partsB_2]
  simp only [pr1, pr2, pr3, evalD]
  grind
theorem id2_32 (q : Int) : prodB q (rangeL 1 (5 : Int).toNat) * q ^ 2 = evalD q [0, 0, 1, 1, 1, 1, 1, 0, 0, 0, 0] * prodB q [4, 3, 1, 2, 1] := by
  rw [pr5, h_32]
  simp only [brk_1, brk_2, brk_3, brk_4, brk_5, brk_6, evalD]
  grind
set_option maxRecDepth 100000 in
theorem ce_33 : countsL (esW [3, 3]) 16 = [1, 1, 2, 3, 3, 3, 3, 2, 1, 1, 0, 0, 0, 0, 0, 0] := by decide +kernel
set_option maxRecDepth 100000 in
theorem ct_33 : countsL (tsW [3, 3]) 16 = [0, 0, 0, 1, 0, 1, 1, 1, 0, 1, 0, 0, 0, 0, 0, 0] := by decide +kernel
theorem hk_33 : hooksL [3, 3] = [4, 3, 2, 3, 2, 1] := by decide +kernel
theorem ab_33 : aboveL [3, 3] = 3 := by decide +kernel
theorem h_33 (q : Int) : prodB q [4, 3, 2, 3, 2, 1] = brk q 4 * brk q 3 * brk q 2 * brk q 3 * brk q 2 * brk q 1 := by
  show 1 * brk q 4 * brk q 3 * brk q 2 * brk q 3 * brk q 2 * brk q 1 = _
  rw [Int.one_mul]
theorem id1_33 (q : Int) : prodB q (rangeL 1 (6 : Int).toNat) = evalD q [1, 1, 2, 3, 3, 3, 3, 2, 1, 1, 0, 0, 0, 0, 0, 0] * partsB q [3, 3] := by
  rw [pr6, partsB_2]
  simp only [pr1, pr2, pr3, evalD]
  grind
theorem id2_33 (q : Int) : prodB q (rangeL 1 (6 : Int).toNat) * q ^ 3 = evalD q [0, 0, 0, 1, 0, 1, 1, 1, 0, 1, 0, 0, 0, 0, 0, 0] * prodB q [4, 3, 2, 3, 2, 1] := by
  rw [pr6, h_33]
  simp only [brk_1, brk_2, brk_3, brk_4, brk_5, brk_6, evalD]
  grind
end Mine
namespace Mine
open PySem.Builtin.Int (intBits)
theorem brk_le {q : Int} (hq : 2 ≤ q) : ∀ k : Nat, 1 ≤ brk q ((k + 1 : Nat) : Int) ∧ brk q ((k + 1 : Nat) : Int) ≤ 2 * q ^ k - 1
  | 0 => by
    rw [show ((0 + 1 : Nat) : Int) = 1 from rfl, brk_1, Int.pow_zero]
    decide
  | k + 1 => by
    obtain ⟨h1, h2⟩ := brk_le hq k
    have h3 := Int.mul_le_mul_of_nonneg_left h2 (show 0 ≤ q by omega)
    have h4 := Int.mul_le_mul_of_nonneg_left h1 (show 0 ≤ q by omega)
    have e : q * (2 * q ^ k - 1) = 2 * (q ^ k * q) - q := by grind
    rw [brk_s, Int.pow_succ]
    omega
theorem brk_ge {q k : Int} (hq : 2 ≤ q) (hk : 2 ≤ k) : q ≤ brk q k := by
  k_with_none
  k_with "ar" => (first | with_reducible exact ar423 (by assumption) | with_reducible exact ar109 (by assumption) | with_reducible exact ar401 (by assumption))
  obtain ⟨j, hj⟩ : ∃ j : Nat, k = ((j + 1 + 1 : Nat) : Int) := ⟨(k - 2).toNat, by omega⟩
  have h4 := Int.mul_le_mul_of_nonneg_left (brk_le hq j).1 (show 0 ≤ q by omega)
  rw [hj, brk_s]
  omega
theorem brk_pos {q k : Int} (hq : 2 ≤ q) (hk : 1 ≤ k) : 1 ≤ brk q k := by
  k_with_none
  k_with "ar" => (first | with_reducible exact ar19 (by assumption))
  obtain ⟨j, hj⟩ : ∃ j : Nat, k = ((j + 1 : Nat) : Int) := ⟨(k - 1).toNat, by omega⟩
  rw [hj]
  exact (brk_le hq j).1
theorem two_le {n : Nat} (hn : 1 ≤ n) : (2 : Int) ≤ 2 ^ n := by
  k_with_none
  k_with "ar" => (first | with_reducible exact ar116 (by assumption) | with_reducible exact ar447 (by assumption))
  obtain ⟨m, rfl⟩ : ∃ m, n = m + 1 := ⟨n - 1, by omega⟩
  have := two_pos m
  rw [Int.pow_succ]
  omega
theorem brk_bits2 {n : Nat} {k : Int} (hn : 1 ≤ n) (hk : 1 ≤ k) : intBits (brk (2 ^ n) k) ≤ (k - 1).toNat * n + 1 := by
  k_with_none
  k_with "ar" => (first | with_reducible exact ar19 (by assumption) | with_reducible exact ar42 (by assumption) | with_reducible exact ar22 (by assumption) | with_reducible exact ar33 (by assumption))
  obtain ⟨j, hj⟩ : ∃ j : Nat, k = ((j + 1 : Nat) : Int) := ⟨(k - 1).toNat, by omega⟩
  have h1 := brk_le (two_le hn) j
  have e : (k - 1).toNat = j := by omega
  rw [e, hj]
  refine bits_of_lt ?_ (by omega)
  rw [Int.pow_succ, Nat.mul_comm, Int.pow_mul]
  omega
theorem two_mono {a b : Nat} (h : a ≤ b) : (2 : Int) ^ a ≤ 2 ^ b := by exact_mod_cast Nat.pow_le_pow_right (by decide : 0 < 2) h
noncomputable def degs (ks : List Int) : Nat := (ks.map fun k => (k - 1).toNat).sum
theorem prodF_bits2 {n : Nat} (hn : 1 ≤ n) : ∀ (ks : List Int) (a : Int) (M : Nat), (∀ k ∈ ks, 1 ≤ k) → intBits a ≤ M → intBits (ks.foldl (fun p k => p * brk (2 ^ n) k) a) ≤ M + degs ks * n + ks.length
  | [], a, M, _, h => by simp [degs]; exact h
  | k :: r, a, M, hk, h => by
    have h1 := brk_bits2 hn (hk k (.head _))
    have h2 := intBits_mul_le h h1
    have h3 := prodF_bits2 hn r _ _ (fun x hx => hk x (.tail _ hx)) h2
    have e : degs (k :: r) = (k - 1).toNat + degs r := by simp [degs]
    rw [List.foldl_cons, List.length_cons, e, Nat.add_mul]
    omega
theorem prodB_bits2 {n : Nat} (hn : 1 ≤ n) {ks : List Int} (hk : ∀ k ∈ ks, 1 ≤ k) : intBits (prodB (2 ^ n) ks) ≤ 1 + degs ks * n + ks.length := prodF_bits2 hn ks 1 1 hk (one_bits 0)
theorem prodF_ge {q : Int} (hq : 2 ≤ q) : ∀ (ks : List Int) (a b : Int), (∀ k ∈ ks, 1 ≤ k) → 1 ≤ b → b ≤ a → b ≤ ks.foldl (fun p k => p * brk q k) a
  | [], a, b, _, _, h => h
  | k :: r, a, b, hk, hb, h => by
    have h1 := brk_pos hq (hk k (.head _))
    have h2 : a * 1 ≤ a * brk q k := Int.mul_le_mul_of_nonneg_left h1 (by omega)
    rw [List.foldl_cons]
    exact prodF_ge hq r _ _ (fun x hx => hk x (.tail _ hx)) hb (by omega)
theorem prodB_pos {q : Int} (hq : 2 ≤ q) {ks : List Int} (hk : ∀ k ∈ ks, 1 ≤ k) : 1 ≤ prodB q ks := prodF_ge hq ks 1 1 hk (Int.le_refl _) (Int.le_refl _)
/-- one factor is [2] or more -/
theorem prodB_ge {q k0 : Int} (hq : 2 ≤ q) {k1 : List Int} (h0 : 2 ≤ k0) (hk : ∀ k ∈ k1, 1 ≤ k) : q ≤ prodB q (k0 :: k1) := by
  k_with_none
  k_with "ar" => (first | with_reducible exact ar542 (by assumption))
  show q ≤ k1.foldl (fun p k => p * brk q k) (1 * brk q k0)
  exact prodF_ge hq k1 _ q hk (by omega) (by rw [Int.one_mul]; exact brk_ge hq h0)
theorem row_ge {q : Int} (hq : 2 ≤ q) {r : Int} (h : r = 2 ∨ r = 3) : q ≤ prodB q (rangeL 1 r.toNat) := by
  k_with_none
  k_with "ar" => (first | with_reducible exact ar139 (by assumption) | with_reducible exact ar660 (by assumption) | with_reducible exact ar645 | with_reducible exact ar109 (by assumption))
  have h1 : 0 ≤ (1 + q) * q ^ 2 := Int.mul_nonneg (by omega) (Int.le_of_lt (Int.pow_pos (by omega)))
  rcases h with rfl | rfl
  · rw [pr2]; omega
  · rw [pr3]
    have e : (1 + q) * (1 + q + q ^ 2) = (1 + q) + (q * q + q) + (1 + q) * q ^ 2 := by grind
    have h2 : 0 ≤ q * q := Int.mul_nonneg (by omega) (by omega)
    omega
theorem bits_gt {x : Int} {m : Nat} (h : 2 ^ m ≤ x) : m + 1 ≤ intBits x := by
  k_with_none
  k_with "ar" => (first | with_reducible exact ar143 (by assumption) | with_reducible exact ar506 (by assumption) (by assumption))
  false_or_by_contra
  have h1 : intBits x ≤ m := by omega
  have h2 := bits_lt h1 (by have := two_pos m; omega)
  omega
theorem evalD_lt {q : Int} (hq : 0 < q) : ∀ ds : List Int, (∀ d ∈ ds, 0 ≤ d ∧ d < q) → 0 ≤ evalD q ds ∧ evalD q ds < q ^ ds.length
  | [], _ => by simp [evalD]
  | d :: r, h => by
    obtain ⟨h1, h2⟩ := h d (.head _)
    obtain ⟨h3, h4⟩ := evalD_lt hq r fun x hx => h x (.tail _ hx)
    have h5 : 0 ≤ q * evalD q r := Int.mul_nonneg (by omega) h3
    have h6 := Int.mul_le_mul_of_nonneg_left (show evalD q r ≤ q ^ r.length - 1 by omega) (show 0 ≤ q by omega)
    have e : q * (q ^ r.length - 1) = q ^ r.length * q - q := by grind
    rw [evalD, List.length_cons, Int.pow_succ]
    omega
theorem digs_pad {n kk : Nat} {W : Int} {ds : List Int} (hn : 1 ≤ n) (hds : ∀ d ∈ ds, 0 ≤ d ∧ d < 2 ^ n) (hW : evalD (2 ^ n) ds = W) (hkk : ((intBits W : Int) + (n : Int) - 1) / (n : Int) = kk) :
    kk ≤ ds.length ∧ digs (2 ^ n) W kk ++ List.replicate (ds.length - kk) 0 = ds := by
  k_with_none
  k_with "ar" => (first | with_reducible exact ar356 (by assumption) | with_reducible exact ar217 | with_reducible exact ar361 (by assumption) | with_reducible exact ar562 (by assumption))
  have hq := two_pos n
  obtain ⟨h1, h2⟩ := evalD_lt hq ds hds
  rw [hW] at h1 h2
  obtain ⟨_, h3⟩ := i2d_kk (n := (n : Int)) (by omega) h1 hkk
  have e0 : ((kk : Int) - 0).toNat = kk := by omega
  rw [e0, Int.toNat_natCast] at h3
  rw [← Int.pow_mul] at h2
  have h4 := bits_of_lt h2 h1
  have hle : kk ≤ ds.length := by
    have h5 : ((intBits W : Int) + (n : Int) - 1) / (n : Int) < (ds.length : Int) + 1 := by
      refine (Int.ediv_lt_iff_lt_mul (by omega)).mpr ?_
      have h6 : (intBits W : Int) ≤ (n : Int) * (ds.length : Int) := by exact_mod_cast h4
      rw [Int.add_mul, Int.one_mul, Int.mul_comm]
      omega
    rw [hkk] at h5
    omega
  refine ⟨hle, ?_⟩
  have e1 : kk + (ds.length - kk) = ds.length := by omega
  have h7 := digs_add hq (ds.length - kk) kk W
  rw [Int.ediv_eq_zero_of_lt h1 h3, digs_zero, e1, ← hW, digs_eval hq hds, hW] at h7
  exact h7.symm

/-- what the walk wants to know of the numbers -/
structure Plain (rs : List Int) (c wd top : Int) : Prop where
  hel : ∀ x ∈ countsL (esW rs) top, 0 ≤ x ∧ intBits x ≤ 40000
  hP0 : 0 < partsB (2 ^ wd.toNat) rs
  hPb : intBits (partsB (2 ^ wd.toNat) rs) ≤ 16000
  hXb5 : ∀ sp, 0 ≤ sp → sp < partsB (2 ^ wd.toNat) rs → intBits (prodB (2 ^ wd.toNat) (rangeL 1 c.toNat) + sp) ≤ 60 * intBits (partsB (2 ^ wd.toNat) rs)
  hP1 : prodB (2 ^ wd.toNat) (rangeL 1 c.toNat) = evalD (2 ^ wd.toNat) (countsL (esW rs) top) * partsB (2 ^ wd.toNat) rs
  hO0 : 0 ≤ prodB (2 ^ wd.toNat) (rangeL 1 c.toNat)
  hOb : intBits (prodB (2 ^ wd.toNat) (rangeL 1 c.toNat)) ≤ 100000
  hab : 0 ≤ aboveL rs ∧ aboveL rs ≤ 10
  hhk : ∀ k ∈ hooksL rs, 0 ≤ k ∧ k ≤ 6
  hhl : (hooksL rs).length ≤ 12
  hH0 : 0 < prodB (2 ^ wd.toNat) (hooksL rs)
  hHb : intBits (prodB (2 ^ wd.toNat) (hooksL rs)) ≤ 16000
  hXb6 : intBits (prodB (2 ^ wd.toNat) (rangeL 1 c.toNat) * 2 ^ (wd * aboveL rs).toNat) ≤ 60 * intBits (prodB (2 ^ wd.toNat) (hooksL rs))
  hdiv : prodB (2 ^ wd.toNat) (rangeL 1 c.toNat) * 2 ^ (wd * aboveL rs).toNat / prodB (2 ^ wd.toNat) (hooksL rs) = evalD (2 ^ wd.toNat) (countsL (tsW rs) top)
  hmod : prodB (2 ^ wd.toNat) (rangeL 1 c.toNat) * 2 ^ (wd * aboveL rs).toNat % prodB (2 ^ wd.toNat) (hooksL rs) = 0
  hW0 : 0 ≤ evalD (2 ^ wd.toNat) (countsL (tsW rs) top)
  hkk : ∃ kk : Nat, ((intBits (evalD (2 ^ wd.toNat) (countsL (tsW rs) top)) : Int) + wd - 1) / wd = kk ∧ kk ≤ 64 ∧ digs (2 ^ wd.toNat) (evalD (2 ^ wd.toNat) (countsL (tsW rs) top)) kk ++ List.replicate (top - kk).toNat 0 = countsL (tsW rs) top
  hWb : intBits (evalD (2 ^ wd.toNat) (countsL (tsW rs) top)) ≤ 1000000

theorem rangeL_degs {k : Nat} (h : k ≤ 6) : degs (rangeL 1 k) ≤ 15 := by
  k_with_none
  k_with "ar" => (first | with_reducible exact ar514 (by assumption))
  have h1 : k = 0 ∨ k = 1 ∨ k = 2 ∨ k = 3 ∨ k = 4 ∨ k = 5 ∨ k = 6 := by omega
  rcases h1 with rfl | rfl | rfl | rfl | rfl | rfl | rfl <;> decide
theorem rangeL_degs3 {k : Nat} (h : k ≤ 3) : degs (rangeL 1 k) ≤ 3 := by
  k_with_none
  k_with "ar" => (first | with_reducible exact ar681 (by assumption))
  have h1 : k = 0 ∨ k = 1 ∨ k = 2 ∨ k = 3 := by omega
  rcases h1 with rfl | rfl | rfl | rfl <;> decide
theorem partsF_bits {n : Nat} (hn : 1 ≤ n) : ∀ (rs : List Int) (a : Int) (M : Nat), (∀ r ∈ rs, r ≤ 3) → intBits a ≤ M → intBits (rs.foldl (fun p r => p * prodB (2 ^ n) (rangeL 1 r.toNat)) a) ≤ M + rs.length * (3 * n + 4)
  | [], a, M, _, h => by simpa using h
  | r :: l, a, M, hr, h => by
    have h1 := prodB_bits2 hn (ks := rangeL 1 r.toNat) (fun k hk => (rangeL_mem _ _ _ hk).1)
    have h2 := rangeL_degs3 (k := r.toNat) (by have := hr r (.head _); omega)
    have h3 : degs (rangeL 1 r.toNat) * n ≤ 3 * n := Nat.mul_le_mul_right _ h2
    rw [rangeL_len] at h1
    have h4 : intBits (prodB (2 ^ n) (rangeL 1 r.toNat)) ≤ 3 * n + 4 := by have := hr r (.head _); omega
    have h5 := partsF_bits hn l _ _ (fun x hx => hr x (.tail _ hx)) (intBits_mul_le h h4)
    rw [List.foldl_cons, List.length_cons, Nat.add_mul]
    omega
theorem partsF_ge {q : Int} (hq : 2 ≤ q) : ∀ (rs : List Int) (a b : Int), 1 ≤ b → b ≤ a → b ≤ rs.foldl (fun p r => p * prodB q (rangeL 1 r.toNat)) a
  | [], a, b, _, h => h
  | r :: l, a, b, hb, h => by
    have h1 := prodB_pos hq (ks := rangeL 1 r.toNat) (fun k hk => (rangeL_mem _ _ _ hk).1)
    have h2 : a * 1 ≤ a * prodB q (rangeL 1 r.toNat) := Int.mul_le_mul_of_nonneg_left h1 (by omega)
    rw [List.foldl_cons]
    exact partsF_ge hq l _ _ hb (by omega)

theorem mkPlain {r0 : Int} {rl ce ct hl : List Int} {k0 c wd top ab : Int} (hw5 : 5 ≤ wd) (hw12 : wd < 1205) (hr0 : r0 = 2 ∨ r0 = 3) (hr3 : ∀ r ∈ rl, r ≤ 3) (hrl : rl.length ≤ 2) (hc : c.toNat ≤ 6)
    (hce : countsL (esW (r0 :: rl)) top = ce) (hct : countsL (tsW (r0 :: rl)) top = ct) (hhk : hooksL (r0 :: rl) = k0 :: hl) (hab : aboveL (r0 :: rl) = ab)
    (id1 : ∀ q, prodB q (rangeL 1 c.toNat) = evalD q ce * partsB q (r0 :: rl)) (id2 : ∀ q, prodB q (rangeL 1 c.toNat) * q ^ ab.toNat = evalD q ct * prodB q (k0 :: hl))
    (hceb : ∀ x ∈ ce, 0 ≤ x ∧ x ≤ 30) (hctb : ∀ x ∈ ct, 0 ≤ x ∧ x ≤ 30) (hctl : (ct.length : Int) = top) (htop : top ≤ 16) (hab0 : 0 ≤ ab ∧ ab ≤ 4)
    (hk0 : 2 ≤ k0 ∧ k0 ≤ 6) (hks : ∀ k ∈ hl, 1 ≤ k ∧ k ≤ 6) (hkl : hl.length ≤ 6) (hdg : degs (k0 :: hl) ≤ 9) : Plain (r0 :: rl) c wd top := by
  k_with_none
  k_with "ar" => (first | with_reducible exact ar487 (by assumption) | with_reducible exact ar345 (by assumption) | with_reducible exact ar337 (by assumption) | with_reducible exact ar483 (by assumption) | with_reducible exact ar468 (by assumption) | with_reducible exact ar89 (by assumption) | with_reducible exact ar357 (by assumption) | with_reducible exact ar635 (by assumption) | with_reducible exact ar636 (by assumption) | with_reducible exact ar441 (by assumption) | with_reducible exact ar266 (by assumption) (by assumption) | with_reducible exact ar307 (by assumption) (by assumption) | with_reducible exact ar452 (by assumption) | with_reducible exact ar255 (by assumption) (by assumption) | with_reducible exact ar154 (by assumption) (by assumption) | with_reducible exact ar275 (by assumption) | with_reducible exact ar180 | with_reducible exact ar596 (by assumption) | with_reducible exact ar276 (by assumption) (by assumption) | with_reducible exact ar558 (by assumption) (by assumption) | with_reducible exact ar450 (by assumption) (by assumption) (by assumption) | with_reducible exact ar354 (by assumption) (by assumption) | with_reducible exact ar552 (by assumption) (by assumption) (by assumption) | with_reducible exact ar60 (by assumption) | with_reducible exact ar680 (by assumption) (by assumption) (by assumption) (by assumption) | with_reducible exact ar501 (by assumption) | with_reducible exact ar520 (by assumption) | with_reducible exact ar618 (by assumption) | with_reducible exact ar688 (by assumption) | with_reducible exact ar304 (by assumption) (by assumption) (by assumption) (by assumption) | with_reducible exact ar210 (by assumption) (by assumption) | with_reducible exact ar39 (by assumption) | with_reducible exact ar249 (by assumption) (by assumption) (by assumption) | with_reducible exact ar439 (by assumption) | with_reducible exact ar402 (by assumption) (by assumption))
  obtain ⟨n, rfl⟩ : ∃ n : Nat, wd = n := ⟨wd.toNat, by omega⟩
  have hn : 1 ≤ n := by omega
  have hq := two_le hn
  have hqp := two_pos n
  have h32 : (32 : Int) ≤ 2 ^ n := by
    have h := two_mono (show 5 ≤ n by omega)
    exact h
  have hO1 := prodB_bits2 hn (ks := rangeL 1 c.toNat) (fun k hk => (rangeL_mem _ _ _ hk).1)
  have hO2 : degs (rangeL 1 c.toNat) * n ≤ 15 * n := Nat.mul_le_mul_right _ (rangeL_degs hc)
  rw [rangeL_len] at hO1
  have hOp := prodB_pos hq (ks := rangeL 1 c.toNat) (fun k hk => (rangeL_mem _ _ _ hk).1)
  have hPb := partsF_bits hn (r0 :: rl) 1 1 (fun r hr => by
    rcases List.mem_cons.mp hr with rfl | hr
    · omega
    · exact hr3 r hr) (one_bits 0)
  have hPl : (r0 :: rl).length * (3 * n + 4) ≤ 3 * (3 * n + 4) := Nat.mul_le_mul_right _ (by rw [List.length_cons]; omega)
  have hPq : 2 ^ n ≤ partsB (2 ^ n) (r0 :: rl) := by
    show 2 ^ n ≤ rl.foldl (fun p r => p * prodB (2 ^ n) (rangeL 1 r.toNat)) (1 * prodB (2 ^ n) (rangeL 1 r0.toNat))
    exact partsF_ge hq rl _ _ (by omega) (by rw [Int.one_mul]; exact row_ge hq hr0)
  have hPg := bits_gt hPq
  have hH1 := prodB_bits2 hn (ks := k0 :: hl) (fun k hk => by
    rcases List.mem_cons.mp hk with rfl | hk
    · omega
    · exact (hks k hk).1)
  have hH2 : degs (k0 :: hl) * n ≤ 9 * n := Nat.mul_le_mul_right _ hdg
  rw [List.length_cons] at hH1
  have hHq : 2 ^ n ≤ prodB (2 ^ n) (k0 :: hl) := prodB_ge hq hk0.1 (fun k hk => (hks k hk).1)
  have hHg := bits_gt hHq
  have hbq : ∀ x : Int, 0 ≤ x ∧ x ≤ 30 → intBits x ≤ 5 := fun x hx => bits_of_lt (by omega) hx.1
  have he : ((n : Int) * ab).toNat = n * ab.toNat := by
    obtain ⟨a, rfl⟩ : ∃ a : Nat, ab = a := ⟨ab.toNat, by omega⟩
    rw [Int.toNat_natCast]
    exact_mod_cast Int.toNat_natCast (n * a)
  have hab4 : n * ab.toNat ≤ n * 4 := Nat.mul_le_mul_left _ (by omega)
  have hsb : intBits ((2 : Int) ^ (n * ab.toNat)) ≤ n * 4 + 1 := by
    refine bits_of_lt ?_ (Int.le_of_lt (two_pos _))
    have h := two_mono (show n * ab.toNat ≤ n * 4 by omega)
    rw [Int.pow_succ]
    have := two_pos (n * 4)
    omega
  have hid2 := id2 (2 ^ n)
  rw [← Int.pow_mul] at hid2
  have hct2 : ∀ d ∈ ct, 0 ≤ d ∧ d < 2 ^ n := fun d hd => by have := hctb d hd; omega
  obtain ⟨hW0, hWl⟩ := evalD_lt hqp ct hct2
  have hWb : intBits (evalD (2 ^ n) ct) ≤ n * ct.length := bits_of_lt (by rw [Int.pow_mul]; exact hWl) hW0
  have hWb2 : n * ct.length ≤ 1204 * 16 := Nat.mul_le_mul (by omega) (by omega)
  have hHpos : 0 < prodB (2 ^ n) (k0 :: hl) := by omega
  obtain ⟨kk, hkk⟩ : ∃ kk : Nat, ((intBits (evalD (2 ^ n) ct) : Int) + (n : Int) - 1) / (n : Int) = kk := ⟨(((intBits (evalD (2 ^ n) ct) : Int) + (n : Int) - 1) / (n : Int)).toNat, by
    have := Int.ediv_nonneg (a := (intBits (evalD (2 ^ n) ct) : Int) + (n : Int) - 1) (b := (n : Int)) (by omega) (by omega)
    omega⟩
  obtain ⟨hk1, hk2⟩ := digs_pad hn hct2 rfl hkk
  have hsp : ∀ sp, 0 ≤ sp → sp < partsB (2 ^ n) (r0 :: rl) → intBits (prodB (2 ^ n) (rangeL 1 c.toNat) + sp) ≤ 60 * intBits (partsB (2 ^ n) (r0 :: rl)) := by
    intro sp h1 h2
    have hspb : intBits sp ≤ 9 * n + 13 := intBits_le_of_natAbs (y := partsB (2 ^ n) (r0 :: rl)) (by omega) (by unfold partsB; omega)
    have h3 := intBits_add_le (x := prodB (2 ^ n) (rangeL 1 c.toNat)) (y := sp) (m := 15 * n + 7) (n := 9 * n + 13) (by omega) hspb
    omega
  have hx6 := intBits_mul_le (x := prodB (2 ^ n) (rangeL 1 c.toNat)) (m := 15 * n + 7) (by omega) hsb
  refine ⟨?_, ?_, ?_, ?_, ?_, ?_, ?_, ?_, ?_, ?_, ?_, ?_, ?_, ?_, ?_, ?_, ?_, ?_⟩ <;> (try rw [hce]) <;> (try rw [hct]) <;> (try rw [hhk]) <;> (try rw [hab]) <;> (try rw [Int.toNat_natCast]) <;> (try rw [he])
  · exact fun x hx => ⟨(hceb x hx).1, Nat.le_trans (hbq x (hceb x hx)) (by decide)⟩
  · omega
  · unfold partsB; omega
  · exact hsp
  · exact id1 _
  · omega
  · omega
  · omega
  · intro k hk
    rcases List.mem_cons.mp hk with rfl | hk
    · omega
    · have := hks k hk; omega
  · rw [List.length_cons]; omega
  · omega
  · omega
  · omega
  · rw [hid2]; exact Int.mul_ediv_cancel _ (by omega)
  · rw [hid2]; exact Int.mul_emod_left _ _
  · exact hW0
  · refine ⟨kk, hkk, by omega, ?_⟩
    have e : (top - (kk : Int)).toNat = ct.length - kk := by omega
    rw [e]
    exact hk2
  · omega
end Mine
namespace Mine
theorem plain_21 {wd : Int} (h5 : 5 ≤ wd) (h12 : wd < 1205) : Plain [2, 1] 3 wd 4 :=
  mkPlain h5 h12 (by decide) (by decide) (by decide) (by decide) ce_21 ct_21 hk_21 ab_21 id1_21 id2_21 (by decide) (by decide) (by decide) (by decide) (by decide) (by decide) (by decide) (by decide) (by decide)
theorem plain_211 {wd : Int} (h5 : 5 ≤ wd) (h12 : wd < 1205) : Plain [2, 1, 1] 4 wd 7 :=
  mkPlain h5 h12 (by decide) (by decide) (by decide) (by decide) ce_211 ct_211 hk_211 ab_211 id1_211 id2_211 (by decide) (by decide) (by decide) (by decide) (by decide) (by decide) (by decide) (by decide) (by decide)
theorem plain_22 {wd : Int} (h5 : 5 ≤ wd) (h12 : wd < 1205) : Plain [2, 2] 4 wd 7 :=
  mkPlain h5 h12 (by decide) (by decide) (by decide) (by decide) ce_22 ct_22 hk_22 ab_22 id1_22 id2_22 (by decide) (by decide) (by decide) (by decide) (by decide) (by decide) (by decide) (by decide) (by decide)
theorem plain_221 {wd : Int} (h5 : 5 ≤ wd) (h12 : wd < 1205) : Plain [2, 2, 1] 5 wd 11 :=
  mkPlain h5 h12 (by decide) (by decide) (by decide) (by decide) ce_221 ct_221 hk_221 ab_221 id1_221 id2_221 (by decide) (by decide) (by decide) (by decide) (by decide) (by decide) (by decide) (by decide) (by decide)
theorem plain_31 {wd : Int} (h5 : 5 ≤ wd) (h12 : wd < 1205) : Plain [3, 1] 4 wd 7 :=
  mkPlain h5 h12 (by decide) (by decide) (by decide) (by decide) ce_31 ct_31 hk_31 ab_31 id1_31 id2_31 (by decide) (by decide) (by decide) (by decide) (by decide) (by decide) (by decide) (by decide) (by decide)
theorem plain_311 {wd : Int} (h5 : 5 ≤ wd) (h12 : wd < 1205) : Plain [3, 1, 1] 5 wd 11 :=
  mkPlain h5 h12 (by decide) (by decide) (by decide) (by decide) ce_311 ct_311 hk_311 ab_311 id1_311 id2_311 (by decide) (by decide) (by decide) (by decide) (by decide) (by decide) (by decide) (by decide) (by decide)
theorem plain_32 {wd : Int} (h5 : 5 ≤ wd) (h12 : wd < 1205) : Plain [3, 2] 5 wd 11 :=
  mkPlain h5 h12 (by decide) (by decide) (by decide) (by decide) ce_32 ct_32 hk_32 ab_32 id1_32 id2_32 (by decide) (by decide) (by decide) (by decide) (by decide) (by decide) (by decide) (by decide) (by decide)
theorem plain_33 {wd : Int} (h5 : 5 ≤ wd) (h12 : wd < 1205) : Plain [3, 3] 6 wd 16 :=
  mkPlain h5 h12 (by decide) (by decide) (by decide) (by decide) ce_33 ct_33 hk_33 ab_33 id1_33 id2_33 (by decide) (by decide) (by decide) (by decide) (by decide) (by decide) (by decide) (by decide) (by decide)
theorem plainAll {rs : List Int} {c wd : Int} (h : RowsOk rs) (hs : rs.sum = c) (h5 : 5 ≤ wd) (h12 : wd < 1205) : Plain rs c wd (c * (c - 1) / 2 + 1) := by
  subst hs
  rcases h with rfl | rfl | rfl | rfl | rfl | rfl | rfl | rfl
  · exact plain_21 h5 h12
  · exact plain_211 h5 h12
  · exact plain_22 h5 h12
  · exact plain_221 h5 h12
  · exact plain_31 h5 h12
  · exact plain_311 h5 h12
  · exact plain_32 h5 h12
  · exact plain_33 h5 h12
theorem rows_facts {rs : List Int} (h : RowsOk rs) : rs.length ≤ 3 ∧ (∀ r ∈ rs, 0 ≤ r ∧ r ≤ 3) ∧ 3 ≤ rs.sum ∧ rs.sum ≤ 6 := by
  rcases h with rfl | rfl | rfl | rfl | rfl | rfl | rfl | rfl <;> decide
end Mine
namespace Mine

section
variable {prog : Program} {w : World} {A : Around} {h₀ : Heap} {L : Addr} {m : Str → Option Value} {env : Env} {elt : Expr} {x : Str} {scope : Scope} {cl : List (Str × Addr)} {s : Shared} {S : List (Addr × Obj) → Prop} {P : Nat → Value → Prop} {Fin : List Value → List (Addr × Obj) → Prop} {news : List (Addr × Obj)}
/-- a comprehension over ints whose element makes objects that it drops -/
theorem rest_mapH {n : Nat} {ks : List Int} (g : Int → Int) (hks : ks.length = n) (hP : ∀ i v, i < n → P i v → ∃ k t, ks[i]? = some k ∧ v = .int k t)
    (own : ∀ k t I oI C oC D m₂ ys h tk (E' : Value → Shared → Prop) (Q' : Value → Shared → Prop), k ∈ ks → LCg.NsObj oC m₂ → m₂ x = some (.int k t) → Fr h₀ L h m → News h₀ L h ((I, oI) :: (C, oC) :: (D, LCg.lst ys) :: news) → 
      (∀ h' t' tk', Fr h₀ L h' m → News h₀ L h' ((I, oI) :: (C, oC) :: (D, LCg.lst ys) :: news) → Q' (.int (g k) t') { s with heap := h', toks := tk' }) →
      wpAny (model prog w) A (eval elt (compEnvC scope cl C env)) Q' E' { s with heap := h, toks := tk })
    (hS : S news) (fin : ∀ ys, IntsAre ys (ks.map g) → Fin ys news) : LCg.CompRest prog w A h₀ L m env elt x scope cl s S P Fin n 0 [] news := by
  have key : ∀ (j i : Nat) (ys : List Value), i + j = n → IntsAre ys ((ks.take i).map g) → LCg.CompRest prog w A h₀ L m env elt x scope cl s S P Fin j i ys news := by
    intro j
    induction j with
    | zero =>
      intro i ys hi hy
      have e : i = ks.length := by omega
      subst e
      rw [List.take_length] at hy
      exact LCg.CompRest.zero (fin ys hy)
    | succ j ih =>
      intro i ys hi hy
      refine LCg.CompRest.succ ?_
      intro v I oI C oC D m₂ h tk E' hv hC hx F N off ne
      obtain ⟨k, t, hk, hv'⟩ := hP i v (by omega) hv
      rw [hv'] at hx
      refine own k t I oI C oC D m₂ ys h tk E' _ (List.mem_of_getElem? hk) hC hx F N fun h' t' tk'' F' N' => ?_
      refine ⟨h', tk'', news, rfl, F', N', off, hS, ih (i + 1) _ (by omega) ?_⟩
      rw [List.take_add_one, hk]
      simpa using IntsAre.append hy (.cons (g k) t' .nil)
  exact key n 0 [] (by omega) (by simp only [List.take_zero, List.map_nil]; exact .nil)
end
theorem shape_of {f sc c x : Int} (hf : f = 2 ∨ f = 3) (hs : 1 ≤ sc ∧ sc ≤ f) (hc : c = f + sc + x % (1 + (if (if 5 - (f + sc) < sc then 5 - (f + sc) else sc) > 0 then (if 5 - (f + sc) < sc then 5 - (f + sc) else sc) else 0))) : ShapeOf f sc c := by
  k_with_none
  k_with "exec Assign" => k_extra "asg"
  k_with "exec Assign cons ListComp" => k_extra "acomp"
  k_with "CompSrc" => k_extra "src"
  k_with "subscriptTail Name Slice ref ref" => k_extra "slice"
  k_with "subscriptTail Name Constant ref int" => k_extra "item"
  k_with "call builtin:sum" => k_extra "sum"
  k_with "subscriptTail" => k_extra "pick"
  k_with "binaryOp Add ref ref" => k_extra "cat"
  k_with "call type:zip" => k_extra "zip"
  k_with "call ref" => ((with_reducible show wpAny _ _ (call (Value.ref 84) _ _) _ _ _); k_extra "call_84")
  k_with "exec For Name Name cons nil" => k_extra "for"
  k_with "pyIter ref" => k_extra "iter"
  k_with "last pyIter ref" => k_extra "iter"
  k_with "execs cons Assign cons" => k_extra "exa"
  k_with "exec If" => k_extra "if"
  k_with "binaryOp Mod int int" => k_extra "mod"
  k_with "call type:range" => k_extra "range"
  k_with "k_mem" => ((repeat refine List.mem_cons_of_mem _ ?_); ktr_member)
  k_with "ar" => (first | with_reducible exact ar207 (by assumption) (by assumption) | with_reducible exact ar374 (by assumption) | with_reducible exact ar360 (by assumption))
  have hs2 : sc = 1 ∨ sc = 2 ∨ sc = 3 := by omega
  unfold ShapeOf
  rcases hf with rfl | rfl <;> rcases hs2 with rfl | rfl | rfl <;> simp at hc hs ⊢ <;> omega
/-- one of three lists, by a number below three -/
theorem pick3 {h₀ h : Heap} {L a b c : Addr} {news : List (Addr × Obj)} {va vb vc : List Value} {na nb nc : List Int} (N : News h₀ L h news) (ha : (a, listOf va.toArray 0) ∈ news) (hb : (b, listOf vb.toArray 0) ∈ news) (hc : (c, listOf vc.toArray 0) ∈ news) (ia : IntsAre va na) (ib : IntsAre vb nb) (ic : IntsAre vc nc) {i : Int} (h0 : 0 ≤ i) (h3 : i < 3) :
    ∃ X ve e, (#[Value.ref a, .ref b, .ref c] : Array Value)[i.toNat]? = some (.ref X) ∧ (X, listOf (List.toArray ve) 0) ∈ news ∧ IntsAre ve e ∧ ((i = 0 ∧ e = na) ∨ (i = 1 ∧ e = nb) ∨ (i = 2 ∧ e = nc)) := by
  k_with_none
  k_with "exec Assign" => k_extra "asg"
  k_with "exec Assign cons ListComp" => k_extra "acomp"
  k_with "CompSrc" => k_extra "src"
  k_with "subscriptTail Name Slice ref ref" => k_extra "slice"
  k_with "subscriptTail Name Constant ref int" => k_extra "item"
  k_with "call builtin:sum" => k_extra "sum"
  k_with "subscriptTail" => k_extra "pick"
  k_with "binaryOp Add ref ref" => k_extra "cat"
  k_with "call type:zip" => k_extra "zip"
  k_with "call ref" => ((with_reducible show wpAny _ _ (call (Value.ref 84) _ _) _ _ _); k_extra "call_84")
  k_with "exec For Name Name cons nil" => k_extra "for"
  k_with "pyIter ref" => k_extra "iter"
  k_with "last pyIter ref" => k_extra "iter"
  k_with "execs cons Assign cons" => k_extra "exa"
  k_with "exec If" => k_extra "if"
  k_with "binaryOp Mod int int" => k_extra "mod"
  k_with "call type:range" => k_extra "range"
  k_with "k_mem" => ((repeat refine List.mem_cons_of_mem _ ?_); ktr_member)
  k_with "ar" => (first | with_reducible exact ar184 (by assumption) (by assumption))
  have h : i = 0 ∨ i = 1 ∨ i = 2 := by omega
  rcases h with rfl | rfl | rfl
  · exact ⟨a, va, na, rfl, ha, ia, .inl ⟨rfl, rfl⟩⟩
  · exact ⟨b, vb, nb, rfl, hb, ib, .inr (.inl ⟨rfl, rfl⟩)⟩
  · exact ⟨c, vc, nc, rfl, hc, ic, .inr (.inr ⟨rfl, rfl⟩)⟩
/-- a test whose ways all tell False -/
theorem cut_false {prog : Program} {w : World} {A : Around} {E : Value → Shared → Prop} {s : Shared} {h₀ : Heap} {L : Addr} {m : Str → Option Value} {news : List (Addr × Obj)} {t : Sem Bool} {Q : Bool → Shared → Prop} (_F : Fr h₀ L s.heap m)
    (h : wpAny (model prog w) A t (fun b s' => b = false ∧ ∃ h' tk', s' = { s with heap := h', toks := tk' } ∧ Fr h₀ L h' m ∧ News h₀ L h' news) E s) (k : ∀ h' tk', Fr h₀ L h' m → News h₀ L h' news → Q false { s with heap := h', toks := tk' }) : wpAny (model prog w) A t Q E s :=
  wpAny_mono h (fun b s' q => by obtain ⟨rfl, h', tk', rfl, F, N⟩ := q; exact k h' tk' F N) fun _ _ e => e
theorem off_rows {D11 D4 L : Nat} {o1 o2 o3 o4 o5 : Obj} (h1 : D11 ≠ L + 2) (h2 : D4 ≠ L + 2) (h3 : 37 < L) : ∀ q ∈ [((D11 : Addr), o1), ((D4 : Addr), o2), ((L + 1 : Nat), o3), ((37 : Nat), o4), ((30 : Nat), o5)], @Ne Nat q.1 (L + 2) := by
  intro q hq
  simp only [List.mem_cons, List.not_mem_nil, or_false] at hq
  rcases hq with rfl | rfl | rfl | rfl | rfl <;> simp <;> omega
/-- a name that is stored anew -/
theorem fr_abs2 {h₀ h : Heap} {L : Addr} {x : Str} {v : Int} {t : Tok} {o : Option Value} {m : Str → Option Value} (F : Fr h₀ L h (fun y => if y = x then some (.int v t) else if y = x then o else m y)) : ∃ f tf, f = v ∧ Fr h₀ L h (fun y => if y = x then some (.int f tf) else m y) := by
  refine ⟨v, t, rfl, ?_⟩
  have e : (fun y => if y = x then some (.int v t) else if y = x then o else m y) = (fun y => if y = x then some (.int v t) else m y) := by
    funext y
    by_cases h : y = x <;> simp [h]
  exact e ▸ F
/-- the sum of every ninth number from the k-th on -/
noncomputable def sumS (ns : List Int) (k : Int) : Int := (pickNums ns (some k) none (some 9)).sum

set_option maxRecDepth 100000 in
set_option maxHeartbeats 4000000 in
theorem law_inner {w : World} {p : Program} {loose : List Str} {mean : ExcName → Option Value} {mg mb : Str → Option Value} {h₀ : Heap} {L fa l : Addr} {cd : Value} {s : Shared} {oR oS : Obj} {vs : List Value} {ns : List Int} {Q : Flow → Shared → Prop} {E : Value → Shared → Prop}
    (B : Below callerA h₀ [] h₀) (F : Fr h₀ L s.heap (fun _ => none)) (X : (hd.heap_39 w.params).In h₀) (N : News h₀ L s.heap [(L + 2, oR), (L + 1, oS), (37, tabObj #[]), (30, tabObj #[])]) (T : Top p loose mean mg mb h₀)
    (dR : oR.data = .cell none) (dS : oS.data = .cell (some (.ref l))) (hl : h₀.IsList l vs.toArray) (hi : IntsAre vs ns) (hlen : ns.length ≤ 63) (C2 : CodeHd h₀ 41 37) (C1 : CodeHd h₀ 34 30) (hL : @LT.lt Nat _ 37 L) (hE : PassesOwn (model PR w) (callerA.deeper (lawEnv L fa cd)) (lawEnv L fa cd) E) (hB : AllBare s.gens)
    (hret : ∀ h' tk' g' m', Fr h₀ L h' m' → AllBare g' → GrownAll [(41, 37), (34, 30)] h' → Q (.ret (.bool true)) { s with heap := h', toks := tk', gens := g' }) :
    wpAny (model PR w) (callerA.deeper (lawEnv L fa cd)) (execs lawParts.1 (lawEnv L fa cd)) Q E s := by
  k_with_none
  k_with "exec Assign" => k_extra "asg"
  k_with "exec Assign cons ListComp" => k_extra "acomp"
  k_with "CompSrc" => k_extra "src"
  k_with "subscriptTail Name Slice ref ref" => k_extra "slice"
  k_with "subscriptTail Name Constant ref int" => k_extra "item"
  k_with "call builtin:sum" => k_extra "sum"
  k_with "subscriptTail" => k_extra "pick"
  k_with "binaryOp Add ref ref" => k_extra "cat"
  k_with "call type:zip" => k_extra "zip"
  k_with "call ref" => ((with_reducible show wpAny _ _ (call (Value.ref 84) _ _) _ _ _); k_extra "call_84")
  k_with "exec For Name Name cons nil" => k_extra "for"
  k_with "pyIter ref" => k_extra "iter"
  k_with "last pyIter ref" => k_extra "iter"
  k_with "execs cons Assign cons" => k_extra "exa"
  k_with "exec If" => k_extra "if"
  k_with "binaryOp Mod int int" => k_extra "mod"
  k_with "call type:range" => k_extra "range"
  k_with "k_mem" => ((repeat refine List.mem_cons_of_mem _ ?_); ktr_member)
  k_with "ar" => (first | with_reducible exact ar38 (by assumption) | with_reducible exact ar8 | with_reducible exact ar17 | with_reducible exact ar52 | with_reducible exact ar521 (by assumption) | with_reducible exact ar204 (by assumption) | with_reducible exact ar626 (by assumption) | with_reducible exact ar260 | with_reducible exact ar577 | with_reducible exact ar394 | with_reducible exact ar664 (by assumption) (by assumption) (by assumption) | with_reducible exact ar395 | with_reducible exact ar331 | with_reducible exact ar219 | with_reducible exact ar352 | with_reducible exact ar623 | with_reducible exact ar382 | with_reducible exact ar235 | with_reducible exact ar499 | with_reducible exact ar76 | with_reducible exact ar548 | with_reducible exact ar469 (by assumption) | with_reducible exact ar373 (by assumption) (by assumption) | with_reducible exact ar157 | with_reducible exact ar165 | with_reducible exact ar451 | with_reducible exact ar51 | with_reducible exact ar173 | with_reducible exact ar174 (by assumption) | with_reducible exact ar557 (by assumption) (by assumption) | with_reducible exact ar365 (by assumption) (by assumption) | with_reducible exact ar257 (by assumption) (by assumption) | with_reducible exact ar47 (by assumption) (by assumption) (by assumption) | with_reducible exact ar663 (by assumption) | with_reducible exact ar495 | with_reducible exact ar34)
  conv in lawParts.1 => whnf
  k_with_none
  k_with "exec Assign" => k_extra "asg"
  k_with "exec Assign cons ListComp" => k_extra "acomp"
  k_with "CompSrc" => k_extra "src"
  k_with "subscriptTail Name Slice ref ref" => k_extra "slice"
  k_with "subscriptTail Name Constant ref int" => k_extra "item"
  k_with "call builtin:sum" => k_extra "sum"
  k_with "subscriptTail" => k_extra "pick"
  k_with "binaryOp Add ref ref" => k_extra "cat"
  k_with "call type:zip" => k_extra "zip"
  k_with "call ref" => ((with_reducible show wpAny _ _ (call (Value.ref 84) _ _) _ _ _); k_extra "call_84")
  k_with "exec For Name Name cons nil" => k_extra "for"
  k_with "pyIter ref" => k_extra "iter"
  k_with "last pyIter ref" => k_extra "iter"
  k_with "execs cons Assign cons" => k_extra "exa"
  k_with "exec If" => k_extra "if"
  k_with "binaryOp Mod int int" => k_extra "mod"
  k_with "call type:range" => k_extra "range"
  k_with "k_mem" => ((repeat refine List.mem_cons_of_mem _ ?_); ktr_member)
  k_with "ar" => (first | with_reducible exact ar38 (by assumption) | with_reducible exact ar8 | with_reducible exact ar17 | with_reducible exact ar52 | with_reducible exact ar521 (by assumption) | with_reducible exact ar204 (by assumption) | with_reducible exact ar626 (by assumption) | with_reducible exact ar260 | with_reducible exact ar577 | with_reducible exact ar394 | with_reducible exact ar664 (by assumption) (by assumption) (by assumption) | with_reducible exact ar395 | with_reducible exact ar331 | with_reducible exact ar219 | with_reducible exact ar352 | with_reducible exact ar623 | with_reducible exact ar382 | with_reducible exact ar235 | with_reducible exact ar499 | with_reducible exact ar76 | with_reducible exact ar548 | with_reducible exact ar469 (by assumption) | with_reducible exact ar373 (by assumption) (by assumption) | with_reducible exact ar157 | with_reducible exact ar165 | with_reducible exact ar451 | with_reducible exact ar51 | with_reducible exact ar173 | with_reducible exact ar174 (by assumption) | with_reducible exact ar557 (by assumption) (by assumption) | with_reducible exact ar365 (by assumption) (by assumption) | with_reducible exact ar257 (by assumption) (by assumption) | with_reducible exact ar47 (by assumption) (by assumption) (by assumption) | with_reducible exact ar663 (by assumption) | with_reducible exact ar495 | with_reducible exact ar34)
  w_top off
  k_with "range" => (refine range_K1 (by k_asm) (by k_asm) ?_; intro D t u v h' tk' F' N' l1; (try k_lt l1))
  k_with "acomp" => (k_dflt (refine LCg.Assign_ListComp_U (F₀ := by k_asm) rfl (by with_unfolding_all rfl) (by with_unfolding_all rfl) (by decide) (by rfl) (by decide) (by rfl) rfl rfl ?_))
  k_with "src" => (refine Stop.mk ?_)
  k_steps
  refine Stop.of ?_
  (rename News _ _ _ _ => N8)
  (rename Fr _ _ _ _ => F8)
  have hr := (N8 _ (List.mem_cons_self ..)).1
  k_with_none
  k_with "exec Assign" => k_extra "asg"
  k_with "exec Assign cons ListComp" => k_extra "acomp"
  k_with "CompSrc" => k_extra "src"
  k_with "subscriptTail Name Slice ref ref" => k_extra "slice"
  k_with "subscriptTail Name Constant ref int" => k_extra "item"
  k_with "call builtin:sum" => k_extra "sum"
  k_with "subscriptTail" => k_extra "pick"
  k_with "binaryOp Add ref ref" => k_extra "cat"
  k_with "call type:zip" => k_extra "zip"
  k_with "call ref" => ((with_reducible show wpAny _ _ (call (Value.ref 84) _ _) _ _ _); k_extra "call_84")
  k_with "exec For Name Name cons nil" => k_extra "for"
  k_with "pyIter ref" => k_extra "iter"
  k_with "last pyIter ref" => k_extra "iter"
  k_with "execs cons Assign cons" => k_extra "exa"
  k_with "exec If" => k_extra "if"
  k_with "binaryOp Mod int int" => k_extra "mod"
  k_with "call type:range" => k_extra "range"
  k_with "k_mem" => ((repeat refine List.mem_cons_of_mem _ ?_); ktr_member)
  k_with "ar" => (first | with_reducible exact ar38 (by assumption) | with_reducible exact ar8 | with_reducible exact ar17 | with_reducible exact ar52 | with_reducible exact ar521 (by assumption) | with_reducible exact ar204 (by assumption) | with_reducible exact ar626 (by assumption) | with_reducible exact ar260 | with_reducible exact ar577 | with_reducible exact ar394 | with_reducible exact ar664 (by assumption) (by assumption) (by assumption) | with_reducible exact ar395 | with_reducible exact ar331 | with_reducible exact ar219 | with_reducible exact ar352 | with_reducible exact ar623 | with_reducible exact ar382 | with_reducible exact ar235 | with_reducible exact ar499 | with_reducible exact ar76 | with_reducible exact ar548 | with_reducible exact ar469 (by assumption) | with_reducible exact ar373 (by assumption) (by assumption) | with_reducible exact ar157 | with_reducible exact ar165 | with_reducible exact ar451 | with_reducible exact ar51 | with_reducible exact ar173 | with_reducible exact ar174 (by assumption) | with_reducible exact ar557 (by assumption) (by assumption) | with_reducible exact ar365 (by assumption) (by assumption) | with_reducible exact ar257 (by assumption) (by assumption) | with_reducible exact ar47 (by assumption) (by assumption) (by assumption) | with_reducible exact ar663 (by assumption) | with_reducible exact ar495 | with_reducible exact ar34)
  refine LCg.CompSrc.range (n := 9) rfl F8 N8 hr (by decide) (by decide) (by rw [sizeLine_eq]; decide) ?_
  intro g9
  refine rest_mapH (ks := rangeL 0 9) (sumS ns) rfl (fun i v hi hv => ?hP) ?own trivial ?fin
  case hP =>
    obtain ⟨t, rfl⟩ := hv
    exact ⟨_, t, rangeL_get _ i 0 hi, rfl⟩
  case own =>
    intro b tb I3 oI3 C3 oC3 D4 m4 ys h4 tk4 E4 Q4 hb hC hx F4 N4 hQ
    clear F8 N8
    have hll : h4.IsList l vs.toArray := by obtain ⟨o, ho, r⟩ := hl; exact ⟨o, F4.keep _ _ ho, r⟩
    have hpk := IntsAre.pick hi (some b) none (some 9)
    k_with "slice" => (refine' kmk_slice3_lit (zs := (slicePick vs.toArray (some b) none (some 9)).toList) ?zF ?zN ?zl ?zp ?zq ?zk ?z0 ?ze ?_ ?zs ?zt ?zz; (case zF => k_asm); (case zN => k_asm); (case zl => exact hll); (case zp => exact IsPart.int _ _); (case zq => exact IsPart.none); (case zk => exact IsPart.int _ _); (case z0 => decide); (case ze => exact rfl); (case zs => with_unfolding_all rfl); (case zt => kmk_pure); (case zz => (rw [List.size_toArray, hi.length, sizeLine_eq]; omega)); k_whole; intro D3 h' F' N' l1; (try k_lt l1))
    k_with "sum" => ((with_unfolding_all refine' sumK ?k0 ?k1 ?k2 ?k3 hpk ?_; (case k0 => with_unfolding_all rfl); (case k1 => k_asm); (case k2 => k_asm); (case k3 => exact News.isList (by k_asm) (List.mem_cons_self ..)); k_whole); intro h' tk' t' F' N')
    k_steps
    exact hQ _ _ _ (by k_asm) (News.sub (by k_asm) (fun q hq => .tail _ hq))
  case fin =>
    intro ys hys D4 h4 tk4 F4 N4 o4
    k_with_none
    k_with "exec Assign" => k_extra "asg"
    k_with "exec Assign cons ListComp" => k_extra "acomp"
    k_with "CompSrc" => k_extra "src"
    k_with "subscriptTail Name Slice ref ref" => k_extra "slice"
    k_with "subscriptTail Name Constant ref int" => k_extra "item"
    k_with "call builtin:sum" => k_extra "sum"
    k_with "subscriptTail" => k_extra "pick"
    k_with "binaryOp Add ref ref" => k_extra "cat"
    k_with "call type:zip" => k_extra "zip"
    k_with "call ref" => ((with_reducible show wpAny _ _ (call (Value.ref 84) _ _) _ _ _); k_extra "call_84")
    k_with "exec For Name Name cons nil" => k_extra "for"
    k_with "pyIter ref" => k_extra "iter"
    k_with "last pyIter ref" => k_extra "iter"
    k_with "execs cons Assign cons" => k_extra "exa"
    k_with "exec If" => k_extra "if"
    k_with "binaryOp Mod int int" => k_extra "mod"
    k_with "call type:range" => k_extra "range"
    k_with "k_mem" => ((repeat refine List.mem_cons_of_mem _ ?_); ktr_member)
    k_with "ar" => (first | with_reducible exact ar38 (by assumption) | with_reducible exact ar8 | with_reducible exact ar17 | with_reducible exact ar52 | with_reducible exact ar521 (by assumption) | with_reducible exact ar204 (by assumption) | with_reducible exact ar626 (by assumption) | with_reducible exact ar260 | with_reducible exact ar577 | with_reducible exact ar394 | with_reducible exact ar664 (by assumption) (by assumption) (by assumption) | with_reducible exact ar395 | with_reducible exact ar331 | with_reducible exact ar219 | with_reducible exact ar352 | with_reducible exact ar623 | with_reducible exact ar382 | with_reducible exact ar235 | with_reducible exact ar499 | with_reducible exact ar76 | with_reducible exact ar548 | with_reducible exact ar469 (by assumption) | with_reducible exact ar373 (by assumption) (by assumption) | with_reducible exact ar157 | with_reducible exact ar165 | with_reducible exact ar451 | with_reducible exact ar51 | with_reducible exact ar173 | with_reducible exact ar174 (by assumption) | with_reducible exact ar557 (by assumption) (by assumption) | with_reducible exact ar365 (by assumption) (by assumption) | with_reducible exact ar257 (by assumption) (by assumption) | with_reducible exact ar47 (by assumption) (by assumption) (by assumption) | with_reducible exact ar663 (by assumption) | with_reducible exact ar495 | with_reducible exact ar34)
    have hys9 : IntsAre ys [sumS ns 0, sumS ns 1, sumS ns 2, sumS ns 3, sumS ns 4, sumS ns 5, sumS ns 6, sumS ns 7, sumS ns 8] := hys
    clear hys F8 N8 F N
    generalize sumS ns 0 = s0 at hys9
    generalize sumS ns 1 = s1 at hys9
    generalize sumS ns 2 = s2 at hys9
    generalize sumS ns 3 = s3 at hys9
    generalize sumS ns 4 = s4 at hys9
    generalize sumS ns 5 = s5 at hys9
    generalize sumS ns 6 = s6 at hys9
    generalize sumS ns 7 = s7 at hys9
    generalize sumS ns 8 = s8 at hys9
    dsimp only
    k_with "mod" => (refine mod_emod (by first | decide | omega) ?_; intro t' tk')
    k_with "asg" => ((with_reducible show wpAny _ _ (exec (Stmt.Assign [Expr.Name (Str.ofString "second") _] _ _) _) _ _ _); refine Stop.mk ?_)
    k_steps
    refine Stop.of ?_
    (rename Fr _ _ _ _ => F5)
    (rename News _ _ _ _ => N5)
    obtain ⟨f, tf, hf, F6⟩ := fr_abs F5
    clear F5 F4 N4
    replace hf : f = 2 + s0 % 2 := hf
    have hf23 : f = 2 ∨ f = 3 := by omega
    clear hf
    have hs1 := Int.emod_nonneg s1 (show f ≠ 0 by omega)
    have hs1' := Int.emod_lt_of_pos s1 (show 0 < f by omega)
    k_with_none
    k_with "exec Assign" => k_extra "asg"
    k_with "exec Assign cons ListComp" => k_extra "acomp"
    k_with "CompSrc" => k_extra "src"
    k_with "subscriptTail Name Slice ref ref" => k_extra "slice"
    k_with "subscriptTail Name Constant ref int" => k_extra "item"
    k_with "call builtin:sum" => k_extra "sum"
    k_with "subscriptTail" => k_extra "pick"
    k_with "binaryOp Add ref ref" => k_extra "cat"
    k_with "call type:zip" => k_extra "zip"
    k_with "call ref" => ((with_reducible show wpAny _ _ (call (Value.ref 84) _ _) _ _ _); k_extra "call_84")
    k_with "exec For Name Name cons nil" => k_extra "for"
    k_with "pyIter ref" => k_extra "iter"
    k_with "last pyIter ref" => k_extra "iter"
    k_with "execs cons Assign cons" => k_extra "exa"
    k_with "exec If" => k_extra "if"
    k_with "binaryOp Mod int int" => k_extra "mod"
    k_with "call type:range" => k_extra "range"
    k_with "k_mem" => ((repeat refine List.mem_cons_of_mem _ ?_); ktr_member)
    k_with "ar" => (first | with_reducible exact ar38 (by assumption) | with_reducible exact ar8 | with_reducible exact ar17 | with_reducible exact ar52 | with_reducible exact ar521 (by assumption) | with_reducible exact ar204 (by assumption) | with_reducible exact ar626 (by assumption) | with_reducible exact ar260 | with_reducible exact ar577 | with_reducible exact ar394 | with_reducible exact ar664 (by assumption) (by assumption) (by assumption) | with_reducible exact ar395 | with_reducible exact ar331 | with_reducible exact ar219 | with_reducible exact ar352 | with_reducible exact ar623 | with_reducible exact ar382 | with_reducible exact ar235 | with_reducible exact ar499 | with_reducible exact ar76 | with_reducible exact ar548 | with_reducible exact ar469 (by assumption) | with_reducible exact ar373 (by assumption) (by assumption) | with_reducible exact ar157 | with_reducible exact ar165 | with_reducible exact ar451 | with_reducible exact ar51 | with_reducible exact ar173 | with_reducible exact ar174 (by assumption) | with_reducible exact ar557 (by assumption) (by assumption) | with_reducible exact ar365 (by assumption) (by assumption) | with_reducible exact ar257 (by assumption) (by assumption) | with_reducible exact ar47 (by assumption) (by assumption) (by assumption) | with_reducible exact ar663 (by assumption) | with_reducible exact ar495 | with_reducible exact ar34)
    k_with "mod" => (refine mod_emod (by first | decide | omega) ?_; intro t' tk')
    k_with "asg" => ((with_reducible show wpAny _ _ (exec (Stmt.Assign [Expr.Name (Str.ofString "cells") _] _ _) _) _ _ _); refine Stop.mk ?_)
    k_steps
    refine Stop.of ?_
    (rename Fr _ _ _ _ => F5)
    (rename News _ _ _ _ => N6)
    obtain ⟨sc, tsc, hsc, F7⟩ := fr_abs F5
    clear F5
    replace hsc : sc = 1 + s1 % f := hsc
    have hsc1 : 1 ≤ sc ∧ sc ≤ f := by omega
    clear hsc hs1 hs1'
    k_with_none
    k_with "exec Assign" => k_extra "asg"
    k_with "exec Assign cons ListComp" => k_extra "acomp"
    k_with "CompSrc" => k_extra "src"
    k_with "subscriptTail Name Slice ref ref" => k_extra "slice"
    k_with "subscriptTail Name Constant ref int" => k_extra "item"
    k_with "call builtin:sum" => k_extra "sum"
    k_with "subscriptTail" => k_extra "pick"
    k_with "binaryOp Add ref ref" => k_extra "cat"
    k_with "call type:zip" => k_extra "zip"
    k_with "call ref" => ((with_reducible show wpAny _ _ (call (Value.ref 84) _ _) _ _ _); k_extra "call_84")
    k_with "exec For Name Name cons nil" => k_extra "for"
    k_with "pyIter ref" => k_extra "iter"
    k_with "last pyIter ref" => k_extra "iter"
    k_with "execs cons Assign cons" => k_extra "exa"
    k_with "exec If" => k_extra "if"
    k_with "binaryOp Mod int int" => k_extra "mod"
    k_with "call type:range" => k_extra "range"
    k_with "k_mem" => ((repeat refine List.mem_cons_of_mem _ ?_); ktr_member)
    k_with "ar" => (first | with_reducible exact ar38 (by assumption) | with_reducible exact ar8 | with_reducible exact ar17 | with_reducible exact ar52 | with_reducible exact ar521 (by assumption) | with_reducible exact ar204 (by assumption) | with_reducible exact ar626 (by assumption) | with_reducible exact ar260 | with_reducible exact ar577 | with_reducible exact ar394 | with_reducible exact ar664 (by assumption) (by assumption) (by assumption) | with_reducible exact ar395 | with_reducible exact ar331 | with_reducible exact ar219 | with_reducible exact ar352 | with_reducible exact ar623 | with_reducible exact ar382 | with_reducible exact ar235 | with_reducible exact ar499 | with_reducible exact ar76 | with_reducible exact ar548 | with_reducible exact ar469 (by assumption) | with_reducible exact ar373 (by assumption) (by assumption) | with_reducible exact ar157 | with_reducible exact ar165 | with_reducible exact ar451 | with_reducible exact ar51 | with_reducible exact ar173 | with_reducible exact ar174 (by assumption) | with_reducible exact ar557 (by assumption) (by assumption) | with_reducible exact ar365 (by assumption) (by assumption) | with_reducible exact ar257 (by assumption) (by assumption) | with_reducible exact ar47 (by assumption) (by assumption) (by assumption) | with_reducible exact ar663 (by assumption) | with_reducible exact ar495 | with_reducible exact ar34)
    k_with "mod" => (refine mod_emod (by first | decide | omega) ?_; intro t' tk')
    k_with "asg" => ((with_reducible show wpAny _ _ (exec (Stmt.Assign [Expr.Name (Str.ofString "ending") _] _ _) _) _ _ _); refine Stop.mk ?_)
    k_steps
    refine Stop.of ?_
    (rename Fr _ _ _ _ => F5)
    (rename News _ _ _ _ => N7)
    obtain ⟨c, tc, hc, F8⟩ := fr_abs2 F5
    clear F5
    replace hc : c = f + sc + (s2 + 1) % (1 + (if (if 5 - (f + sc) < sc then 5 - (f + sc) else sc) > 0 then (if 5 - (f + sc) < sc then 5 - (f + sc) else sc) else 0)) := hc
    have hshape := shape_of hf23 hsc1 hc
    clear hc hf23
    k_with_none
    k_with "exec Assign" => k_extra "asg"
    k_with "exec Assign cons ListComp" => k_extra "acomp"
    k_with "CompSrc" => k_extra "src"
    k_with "subscriptTail Name Slice ref ref" => k_extra "slice"
    k_with "subscriptTail Name Constant ref int" => k_extra "item"
    k_with "call builtin:sum" => k_extra "sum"
    k_with "subscriptTail" => k_extra "pick"
    k_with "binaryOp Add ref ref" => k_extra "cat"
    k_with "call type:zip" => k_extra "zip"
    k_with "call ref" => ((with_reducible show wpAny _ _ (call (Value.ref 84) _ _) _ _ _); k_extra "call_84")
    k_with "exec For Name Name cons nil" => k_extra "for"
    k_with "pyIter ref" => k_extra "iter"
    k_with "last pyIter ref" => k_extra "iter"
    k_with "execs cons Assign cons" => k_extra "exa"
    k_with "exec If" => k_extra "if"
    k_with "binaryOp Mod int int" => k_extra "mod"
    k_with "call type:range" => k_extra "range"
    k_with "k_mem" => ((repeat refine List.mem_cons_of_mem _ ?_); ktr_member)
    k_with "ar" => (first | with_reducible exact ar38 (by assumption) | with_reducible exact ar8 | with_reducible exact ar17 | with_reducible exact ar52 | with_reducible exact ar521 (by assumption) | with_reducible exact ar204 (by assumption) | with_reducible exact ar626 (by assumption) | with_reducible exact ar260 | with_reducible exact ar577 | with_reducible exact ar394 | with_reducible exact ar664 (by assumption) (by assumption) (by assumption) | with_reducible exact ar395 | with_reducible exact ar331 | with_reducible exact ar219 | with_reducible exact ar352 | with_reducible exact ar623 | with_reducible exact ar382 | with_reducible exact ar235 | with_reducible exact ar499 | with_reducible exact ar76 | with_reducible exact ar548 | with_reducible exact ar469 (by assumption) | with_reducible exact ar373 (by assumption) (by assumption) | with_reducible exact ar157 | with_reducible exact ar165 | with_reducible exact ar451 | with_reducible exact ar51 | with_reducible exact ar173 | with_reducible exact ar174 (by assumption) | with_reducible exact ar557 (by assumption) (by assumption) | with_reducible exact ar365 (by assumption) (by assumption) | with_reducible exact ar257 (by assumption) (by assumption) | with_reducible exact ar47 (by assumption) (by assumption) (by assumption) | with_reducible exact ar663 (by assumption) | with_reducible exact ar495 | with_reducible exact ar34)
    k_with "mod" => (refine mod_emod (by first | decide | omega) ?_; intro t' tk')
    k_with "pick" => ((with_reducible show wpAny _ _ (subscriptTail (Expr.List _ _) _ _ _) _ _ _); refine Stop.mk ?_)
    k_with "acomp" => (refine Stop.mk ?_)
    k_steps
    refine Stop.of ?_
    (rename News _ _ _ _ => N8)
    obtain ⟨X1, ve, e, hX1, hXm, hie, hec⟩ := pick3 (i := s3 % 3) N8 (.tail _ (.tail _ (.tail _ (.head _)))) (.tail _ (.tail _ (.head _))) (.tail _ (.head _)) (.cons 0 _ (.cons 9 _ .nil)) (.cons 127 _ (.cons 9 _ .nil)) .nil (by omega) (by omega)
    have he3 : e = [0, 9] ∨ e = [127, 9] ∨ e = [] := by rcases hec with ⟨_, h⟩ | ⟨_, h⟩ | ⟨_, h⟩ <;> simp [h]
    clear hec
    refine my_item (News.isList N8 (.head _)) (by omega) (by omega) hX1 ?_
    have N9 : News h₀ L _ [(X1, listOf ve.toArray 0), (D4, listOf ys.toArray ys.length), (L + 2, oR), (L + 1, oS), (37, tabObj #[]), (30, tabObj #[])] := News.sub N8 (fun q hq => by
      rcases List.mem_cons.mp hq with rfl | hq
      · exact hXm
      · rcases List.mem_cons.mp hq with rfl | hq
        · exact .tail _ (.tail _ (.tail _ (.tail _ (.head _))))
        · exact .tail _ (.tail _ (.tail _ (.tail _ (.tail _ (.tail _ hq))))))
    have hX1L : X1 ≠ L + 2 := fun q => by
      have h1 := (N9 _ (.head _)).1
      have h2 := (N9 (L + 2, oR) (.tail _ (.tail _ (.head _)))).1
      dsimp only at h1 h2
      rw [q, h2] at h1
      have h3 := congrArg Obj.data (Option.some.inj h1)
      rw [dR] at h3
      cases h3
    have hD4L : D4 ≠ L + 2 := fun q => by
      have h1 := (N9 _ (.tail _ (.head _))).1
      have h2 := (N9 (L + 2, oR) (.tail _ (.tail _ (.head _)))).1
      dsimp only at h1 h2
      rw [q, h2] at h1
      have h3 := congrArg Obj.data (Option.some.inj h1)
      rw [dR] at h3
      cases h3
    clear N8 hXm hX1
    k_steps
    refine Stop.of ?_
    (rename Fr _ _ _ _ => F9)
    (rename News _ _ _ _ => N8)
    refine Assign_comp_zip (f := f) (sc := sc) (fin := decide (e ≠ [0, 9])) (n₀ := if e = [0, 9] then 5 else 2) (K := if e = [0, 9] then 4 else 2) (x := Str.ofString "size") (x2 := Str.ofString "turn") F9 (by decide) rfl ?hroom T.nolimit (by with_unfolding_all rfl) (by with_unfolding_all rfl) (by decide) rfl (by decide) (by rfl) (by rfl) (by decide) rfl rfl ?hK ?hiter
    case hroom => ktr_room
    case hK =>
      rcases he3 with rfl | rfl | rfl
      · exact .inr ⟨by decide, by decide⟩
      · exact .inl ⟨by decide, by decide, by decide⟩
      · exact .inl ⟨by decide, by decide, by decide⟩
    case hiter =>
      have hf10 : 0 < f ∧ f < 10 := by unfold ShapeOf at hshape; omega
      have hs10 : 0 < sc ∧ sc < 10 := by unfold ShapeOf at hshape; omega
      have hel : e.length ≤ 2 := by rcases he3 with rfl | rfl | rfl <;> decide
      k_with "cat" => (refine kmk_add_ints (by k_asm) (by k_asm) (by is_list) (News.isList (by k_asm) (show (X1, listOf ve.toArray 0) ∈ _ from .tail _ (.head _))) (.cons f _ (.cons sc _ .nil)) hie ?_ (by rw [sizeLine_eq, List.length_cons, List.length_cons, List.length_nil]; omega); intro U us h' F' N' lU iU; (try k_lt lU))
      k_with "call_84" => (refine' t_grp (f := f) (sc := sc) (e := e) (fin := decide (e ≠ [0, 9])) (n₀ := if e = [0, 9] then 5 else 2) ?B ?F ?X ?N ?T ?hk (.head _) (by assumption) ?c0 hf10 hs10 ?hB ?hd ?hu ?_; (case B => k_asm); (case F => k_asm); (case X => k_asm); (case N => k_asm); (case T => k_asm); (case hk => exact rfl); (case c0 => (rcases he3 with rfl | rfl | rfl <;> decide)); (case hB => exact hB); (case hd => ktr_room); (case hu => ktr_units); k_whole; intro C oc oG h' tk' g' F' N' lC lCn hB' hgen hG; (have l1 := lCn); (try k_lt l1); (try dsimp only); (try k_fold))
      k_with "range" => (refine range_K1 (by k_asm) (by k_asm) ?_; intro D9 t9 u9 v9 h' tk' F' N' l9; (try k_lt l9))
      k_with "zip" => (refine Stop.mk ?_)
      k_steps
      refine Stop.of ?_
      (rename Fr _ _ _ _ => F10)
      (rename News _ _ _ _ => N10)
      have hDs : @LT.lt Nat _ D9 h'.objs.size := Heap.lt_size (N10 _ (.head _)).1
      refine call_zip_gr (hgen _ (N10 _ (.tail _ (.tail _ (.head _)))).1) (N10 _ (.head _)).1 (n := 4) (by decide) (by decide) ?_
      intro h6 hz6 hTI6 hTO6 hr6 hsz6 hk6
      refine ⟨h'.objs.size, C, _, _, _, _, rfl, F10.keeps hk6, News.sub (N10.grown hk6) (fun q hq => .tail _ (.tail _ (.tail _ hq))), lCn, lC, .head _, Nat.lt_trans l9.2.1 hDs, ⟨hz6, hTI6, ⟨_, _, hTO6⟩, by simpa using hr6⟩, hB', ⟨oc, hk6 _ _ (N10 _ (.tail _ (.head _))).1⟩, fun bnd s9 hb hg hk h0 => hG _ bnd s9 rfl hb hg (fun b o hb e => ?_) h0, fun D11 ys2 h11 tk11 g11 F11 N11 hlt11 hi11 hb11 => ?_⟩
      · rcases hb with rfl | rfl | rfl
        · have e2 := (N' _ (.head _)).1
          rw [e] at e2
          rw [Option.some.inj e2]
          exact hk _ _ (.inl rfl) (hk6 _ _ (N10 _ (.tail _ (.head _))).1)
        · have e2 := (N' _ (.tail _ (.head _))).1
          rw [e] at e2
          rw [Option.some.inj e2]
          exact hk _ _ (.inr (.inl rfl)) (hk6 _ _ (N10 _ (.tail _ (.tail _ (.head _)))).1)
        · have e2 := (N' _ (.tail _ (.tail _ (.head _)))).1
          rw [e] at e2
          rw [Option.some.inj e2]
          exact hk _ _ (.inr (.inr rfl)) (hk6 _ _ (N10 _ (.tail _ (.tail _ (.tail _ (.head _))))).1)
      · have N12 : News h₀ L h11 [(D11, listOf ys2.toArray ys2.length), (X1, listOf ve.toArray 0), (D4, listOf ys.toArray ys.length), (L + 2, oR), (L + 1, oS), (37, tabObj #[]), (30, tabObj #[])] := News.sub N11 (fun q hq => by
          rcases List.mem_cons.mp hq with rfl | hq
          · exact .head _
          · exact .tail _ (.tail _ (.tail _ hq)))
        clear N11 N10 F10 hk6 hz6 hTI6 hTO6 hr6 hsz6 hG hgen N' F' hlt11 l9 lCn l1
        k_with_none
        k_with "exec Assign" => k_extra "asg"
        k_with "exec Assign cons ListComp" => k_extra "acomp"
        k_with "CompSrc" => k_extra "src"
        k_with "subscriptTail Name Slice ref ref" => k_extra "slice"
        k_with "subscriptTail Name Constant ref int" => k_extra "item"
        k_with "call builtin:sum" => k_extra "sum"
        k_with "subscriptTail" => k_extra "pick"
        k_with "binaryOp Add ref ref" => k_extra "cat"
        k_with "call type:zip" => k_extra "zip"
        k_with "call ref" => ((with_reducible show wpAny _ _ (call (Value.ref 84) _ _) _ _ _); k_extra "call_84")
        k_with "exec For Name Name cons nil" => k_extra "for"
        k_with "pyIter ref" => k_extra "iter"
        k_with "last pyIter ref" => k_extra "iter"
        k_with "execs cons Assign cons" => k_extra "exa"
        k_with "exec If" => k_extra "if"
        k_with "binaryOp Mod int int" => k_extra "mod"
        k_with "call type:range" => k_extra "range"
        k_with "k_mem" => ((repeat refine List.mem_cons_of_mem _ ?_); ktr_member)
        k_with "ar" => (first | with_reducible exact ar38 (by assumption) | with_reducible exact ar8 | with_reducible exact ar17 | with_reducible exact ar52 | with_reducible exact ar521 (by assumption) | with_reducible exact ar204 (by assumption) | with_reducible exact ar626 (by assumption) | with_reducible exact ar260 | with_reducible exact ar577 | with_reducible exact ar394 | with_reducible exact ar664 (by assumption) (by assumption) (by assumption) | with_reducible exact ar395 | with_reducible exact ar331 | with_reducible exact ar219 | with_reducible exact ar352 | with_reducible exact ar623 | with_reducible exact ar382 | with_reducible exact ar235 | with_reducible exact ar499 | with_reducible exact ar76 | with_reducible exact ar548 | with_reducible exact ar469 (by assumption) | with_reducible exact ar373 (by assumption) (by assumption) | with_reducible exact ar157 | with_reducible exact ar165 | with_reducible exact ar451 | with_reducible exact ar51 | with_reducible exact ar173 | with_reducible exact ar174 (by assumption) | with_reducible exact ar557 (by assumption) (by assumption) | with_reducible exact ar365 (by assumption) (by assumption) | with_reducible exact ar257 (by assumption) (by assumption) | with_reducible exact ar47 (by assumption) (by assumption) (by assumption) | with_reducible exact ar663 (by assumption) | with_reducible exact ar495 | with_reducible exact ar34)
        k_with "if" => (refine Stop.mk ?_)
        k_steps
        refine Stop.of ?_
        refine wpAny_If (cut_false (news := [(D11, listOf ys2.toArray ys2.length), (X1, listOf ve.toArray 0), (D4, listOf ys.toArray ys.length), (L + 2, oR), (L + 1, oS), (37, tabObj #[]), (30, tabObj #[])]) F11 ?hif ?_)
        case hif =>
          k_steps
          all_goals first
            | k_asm
            | exact News.sub (by k_asm) (fun q hq => .tail _ (.tail _ (.tail _ hq)))
            | skip
          · (rename List.take 1 e = [0] => hb)
            rcases he3 with rfl | rfl | rfl
            · exact (by simp [valG, List.range_succ] : (!decide (List.map (valG f sc) (List.range (if [(0 : Int), 9] = [0, 9] then 4 else 2)) = [f, sc, sc, sc])) = false)
            · exact absurd hb (by decide)
            · exact absurd hb (by decide)
          · (rename ¬ List.take 1 e = [0] => hb)
            rcases he3 with rfl | rfl | rfl
            · exact absurd rfl hb
            · exact (by simp [valG, List.range_succ] : (!decide (List.map (valG f sc) (List.range (if [(127 : Int), 9] = [0, 9] then 4 else 2)) = [f, sc])) = false)
            · exact (by simp [valG, List.range_succ] : (!decide (List.map (valG f sc) (List.range (if ([] : List Int) = [0, 9] then 4 else 2)) = [f, sc])) = false)
        clear F11 N12
        intro h12 tk12 F12 N12
        obtain ⟨sz, hsz⟩ : ∃ sz, List.map (valG f sc) (List.range (if e = [0, 9] then 4 else 2)) = sz := ⟨_, rfl⟩
        have hsz2 : sz = [f, sc, sc, sc] ∨ sz = [f, sc] := by
          rw [← hsz]
          rcases he3 with rfl | rfl | rfl
          · exact .inl rfl
          · exact .inr rfl
          · exact .inr rfl
        rw [hsz] at hi11
        rw [if_neg Bool.false_ne_true]
        have N13 : News h₀ L h12 [(L + 2, oR), (D11, listOf ys2.toArray ys2.length), (D4, listOf ys.toArray ys.length), (L + 1, oS), (37, tabObj #[]), (30, tabObj #[])] := News.sub N12 (fun q hq => by
          simp only [List.mem_cons, List.not_mem_nil, or_false] at hq ⊢
          rcases hq with h | h | h | h | h | h
          · exact .inr (.inr (.inr (.inl h)))
          · exact .inl h
          · exact .inr (.inr (.inl h))
          · exact .inr (.inr (.inr (.inr (.inl h))))
          · exact .inr (.inr (.inr (.inr (.inr (.inl h)))))
          · exact .inr (.inr (.inr (.inr (.inr (.inr h))))))
        have hD11L : D11 ≠ L + 2 := fun q => by
          have h1 := (N13 _ (.tail _ (.head _))).1
          have h2 := (N13 _ (.head _)).1
          dsimp only at h1 h2
          rw [q, h2] at h1
          have h3 := congrArg Obj.data (Option.some.inj h1)
          rw [dR] at h3
          cases h3
        clear N12 hie he3 hsz hX1L hi
        k_with_none
        k_with "exec Assign" => k_extra "asg"
        k_with "exec Assign cons ListComp" => k_extra "acomp"
        k_with "CompSrc" => k_extra "src"
        k_with "subscriptTail Name Slice ref ref" => k_extra "slice"
        k_with "subscriptTail Name Constant ref int" => k_extra "item"
        k_with "call builtin:sum" => k_extra "sum"
        k_with "subscriptTail" => k_extra "pick"
        k_with "binaryOp Add ref ref" => k_extra "cat"
        k_with "call type:zip" => k_extra "zip"
        k_with "call ref" => ((with_reducible show wpAny _ _ (call (Value.ref 84) _ _) _ _ _); k_extra "call_84")
        k_with "exec For Name Name cons nil" => k_extra "for"
        k_with "pyIter ref" => k_extra "iter"
        k_with "last pyIter ref" => k_extra "iter"
        k_with "execs cons Assign cons" => k_extra "exa"
        k_with "exec If" => k_extra "if"
        k_with "binaryOp Mod int int" => k_extra "mod"
        k_with "call type:range" => k_extra "range"
        k_with "k_mem" => ((repeat refine List.mem_cons_of_mem _ ?_); ktr_member)
        k_with "ar" => (first | with_reducible exact ar38 (by assumption) | with_reducible exact ar8 | with_reducible exact ar17 | with_reducible exact ar52 | with_reducible exact ar521 (by assumption) | with_reducible exact ar204 (by assumption) | with_reducible exact ar626 (by assumption) | with_reducible exact ar260 | with_reducible exact ar577 | with_reducible exact ar394 | with_reducible exact ar664 (by assumption) (by assumption) (by assumption) | with_reducible exact ar395 | with_reducible exact ar331 | with_reducible exact ar219 | with_reducible exact ar352 | with_reducible exact ar623 | with_reducible exact ar382 | with_reducible exact ar235 | with_reducible exact ar499 | with_reducible exact ar76 | with_reducible exact ar548 | with_reducible exact ar469 (by assumption) | with_reducible exact ar373 (by assumption) (by assumption) | with_reducible exact ar157 | with_reducible exact ar165 | with_reducible exact ar451 | with_reducible exact ar51 | with_reducible exact ar173 | with_reducible exact ar174 (by assumption) | with_reducible exact ar557 (by assumption) (by assumption) | with_reducible exact ar365 (by assumption) (by assumption) | with_reducible exact ar257 (by assumption) (by assumption) | with_reducible exact ar47 (by assumption) (by assumption) (by assumption) | with_reducible exact ar663 (by assumption) | with_reducible exact ar495 | with_reducible exact ar34)
        k_with "exa" => ((with_reducible show wpAny _ _ (execs (Stmt.Assign [Expr.Name (Str.ofString "rows") _] _ _ :: _) _) _ _ _); refine Stop.mk ?_)
        k_steps
        refine Stop.of ?_
        (rename Fr _ _ _ _ => F13)
        have hD37 : D4 ≠ 30 ∧ D4 ≠ 37 := ⟨ne_tab N13 (.tail _ (.tail _ (.head _))) (.tail _ (.tail _ (.tail _ (.tail _ (.tail _ (.head _)))))), ne_tab N13 (.tail _ (.tail _ (.head _))) (.tail _ (.tail _ (.tail _ (.tail _ (.head _)))))⟩
        refine law_seg2 hE B F13 X N13 T dR hi11 hsz2 hshape hD11L ?hoff ?next2
        case hoff =>
          intro q hq
          simp only [List.mem_cons, List.not_mem_nil, or_false] at hq
          rcases hq with rfl | rfl | rfl | rfl
          · exact hD4L
          · exact Nat.ne_of_lt (Nat.lt_succ_self _)
          · exact Nat.ne_of_lt (Nat.lt_trans hL (Nat.lt_trans (Nat.lt_succ_self _) (Nat.lt_succ_self _)))
          · exact Nat.ne_of_lt (Nat.lt_trans (Nat.lt_trans (by decide : 30 < 37) hL) (Nat.lt_trans (Nat.lt_succ_self _) (Nat.lt_succ_self _)))
        case next2 =>
          intro R vr rs epr oR' lf tl oz h2 tk2 hrows hrsum hir dR' hLR hnR F2 N2
          clear N13 F13
          refine law_seg3 (rs := rs) hE B F2 X N2 T (.head _) hys9 ?next3
          intro LL wd tw hid th c0 c1 c2 t0 t1 t2 epl h3 tk3 hhid hw5 hw12 h192 h01 h12' h3000 hRL hLL hnL F3 N3
          clear N2 F2
          obtain ⟨hrl, hrs3, hs3, hs6⟩ := rows_facts hrows
          have hL37 : @LT.lt Nat _ 37 (L + 2) := Nat.lt_trans hL (Nat.lt_trans (Nat.lt_succ_self _) (Nat.lt_succ_self _))
          have hR37 : @LT.lt Nat _ 37 R := Nat.lt_trans hL37 hLR
          have hPl : Plain rs c wd (c * (c - 1) / 2 + 1) := plainAll hrows hrsum hw5 hw12
          have hll : ∀ l ∈ [(⟨#[c0]⟩ : Str), ⟨#[c1]⟩, ⟨#[c2]⟩], l.length ≤ 1 := by
            intro l hl
            simp only [List.mem_cons, List.not_mem_nil, or_false] at hl
            rcases hl with rfl | rfl | rfl <;> exact Nat.le_refl _
          have N3' : News h₀ L h3 ((L + 2, oR') :: (LL, listOf [Value.str ⟨#[c0]⟩ t0, .str ⟨#[c1]⟩ t1, .str ⟨#[c2]⟩ t2].toArray epl) :: (R, listOf vr.toArray epr) :: [((D4 : Addr), listOf ys.toArray ys.length), (L + 1, oS), (37, tabObj #[]), (30, tabObj #[])]) := News.sub N3 (fun q hq => by
            simp only [List.mem_cons, List.not_mem_nil, or_false] at hq ⊢
            rcases hq with h | h | h | h
            · exact .inr (.inr (.inl h))
            · exact .inl h
            · exact .inr (.inl h)
            · exact .inr (.inr (.inr h)))
          clear N3
          refine law_seg4 hE B F3 X N3' T dR' hir (.cons _ _ (.cons _ _ (.cons _ _ .nil))) hb11 hrl hrs3 hrsum (by omega) (by omega) (hid_len hhid) hll rfl (plain0 hrows hhid h192 h01 h12') ?next4
          intro Ev Tk ev tv epe ept ow orr ok ot h4 tk4 g4 hb4 hie hit hET F4 N4
          clear N3' F3
          rw [rises_eq h01 h12' hrl (fun w hw => hw)] at hie
          rw [rises_eq h01 h12' hrl (fun w hw => (List.mem_filter.mp hw).1)] at hit
          have hE37 : @LT.lt Nat _ 37 Ev := Nat.lt_trans hL37 (hET (L + 2, oR') (.head _)).1
          have hT37 : @LT.lt Nat _ 37 Tk := Nat.lt_trans hL37 (hET (L + 2, oR') (.head _)).2
          have N4' : News h₀ L h4 ((Tk, listOf tv.toArray ept) :: (Ev, listOf ev.toArray epe) :: (L + 2, oR') :: (R, listOf vr.toArray epr) :: (D4, listOf ys.toArray ys.length) :: [((30 : Addr), tabObj #[]), (37, tabObj #[])]) := News.sub N4 (fun q hq => by
            simp only [List.mem_cons, List.not_mem_nil, or_false] at hq ⊢
            rcases hq with h | h | h | h | h | h | h
            · exact .inl h
            · exact .inr (.inl h)
            · exact .inr (.inr (.inl h))
            · exact .inr (.inr (.inr (.inr (.inl h))))
            · exact .inr (.inr (.inr (.inr (.inr (.inl h)))))
            · exact .inr (.inr (.inr (.inr (.inr (.inr (.inr (.inr h)))))))
            · exact .inr (.inr (.inr (.inr (.inr (.inr (.inr (.inl h))))))))
          clear N4
          refine law_seg5 (es := esW rs) (ts := tsW rs) (top := c * (c - 1) / 2 + 1) hE B F4 X N4' T Tabs2.zero C2 C1 hL37 hT37 hE37 hR37 hD37 dR' hir hie hys9 hrl hrs3 (by omega) (by omega) hw5 hw12 hPl.hel rfl hPl.hP0 hPl.hPb hPl.hXb5 hPl.hP1 hPl.hO0 ?next5
          intro sp tsp pp tpp orow tO ttp r5 h5 tk5 hr5 F5 N5
          clear N4' F4
          obtain ⟨kk, hkk, hk64, hdg⟩ := hPl.hkk
          have htop : 0 ≤ c * (c - 1) / 2 + 1 ∧ c * (c - 1) / 2 + 1 ≤ 60 := by
            have h1 : c = 3 ∨ c = 4 ∨ c = 5 ∨ c = 6 := by omega
            rcases h1 with rfl | rfl | rfl | rfl <;> decide
          refine law_seg6 (es := esW rs) (ts := tsW rs) (kk := kk) hE B F5 X N5 T hr5 C2 C1 hL37 hT37 hE37 hR37 hD37 dR' hir hit hrl hrs3 hw5 hw12 htop hPl.hab hPl.hO0 hPl.hOb rfl hPl.hhk hPl.hhl hPl.hH0 hPl.hHb hPl.hXb6 hPl.hdiv hPl.hmod hPl.hW0 hkk hk64 hPl.hWb hdg ?fin6
          intro h6 tk6 m6 F6 hG6
          exact hret h6 tk6 g4 m6 F6 hb4 hG6
end Mine
namespace Mine
/-- the law tells True, and no more is changed than the tables that grow -/
theorem law_post {M : Model} {A : Around} {cd : Code} {s s₁ : Shared} {cw : ClaimW} {cl : Str → Option Addr} {mean : ExcName → Option Value} {args : List WData} {tabs : List (Addr × Addr)} (hT : TabsAt tabs s₁.heap) (hr : ∀ a x, cw.raises a x = false) (hp : cw.post args (.bool true) args = true)
    (h : codeAny M A cd (fun r s' => r = .ok (.ret (.bool true)) ∧ (∀ b o, (ghostOf s₁.heap tabs).get? b = some o → s'.heap.get? b = some o) ∧ s'.os = s₁.os ∧ AllBare s'.gens ∧ GrownAll tabs s'.heap) s) : codeAny M A cd (GoodWG cw cl mean args s₁) s := by
  refine codeAny_mono h fun r s' q => ?_
  obtain ⟨e1, hk, hos, hg, hgr⟩ := q
  have step : ∀ b o, s₁.heap.get? b = some o → s'.heap.get? b = some o ∨ (isCodeTable s₁.heap b ∧ o = tabObj #[] ∧ ∃ ps, s'.heap.get? b = some (tabObj ps)) := by
    intro b o e
    by_cases hb : b ∈ tabs.map (·.2)
    · obtain ⟨t, ht, rfl⟩ := List.mem_map.mp hb
      obtain ⟨hc, h2⟩ := hT t ht
      rw [e] at h2
      exact .inr ⟨(hc.tab (hT t ht).2).isCodeTable, Option.some.inj h2, hgr.get t ht⟩
    · exact .inl (hk b o (ghost_ne e hb))
  refine ⟨.inl ⟨.bool true, .bool true, [], e1, hr args, .bool true, hp, fun _ => ⟨List.nodup_nil, fun a ha => nomatch ha⟩⟩, ⟨fun b o e => ?_, fun b o e => ?_⟩, hos, hg⟩
  · rcases step b o e with h1 | ⟨ht, rfl, ps, h2⟩
    · exact .inl h1
    · exact .inr (.inl ⟨ht, rfl, #[], ps, rfl, by simpa using h2⟩)
  · rcases step b o e with h1 | ⟨_, _, ps, h2⟩
    · exact ⟨o, h1⟩
    · exact ⟨_, h2⟩
theorem law_true (args : List WData) : PySem.Challenge.rw_ul0006_01.row.claim.post args (.bool true) args = true := by
  show (WShape.has [] (.bool true) .bool && (WTm.eq .res (.lit (.bool true))).holds [] { args := args, res := some (.bool true), after := args }) = true
  simp [WShape.has, WTm.holds, WShape.arms, WTm.value, PySem.W.same]
set_option maxRecDepth 100000 in
set_option maxHeartbeats 4000000 in
theorem top : PySem.Challenge.rw_ul0006_01.Holds := hd (by
  k_fill
  intro w s₀ s₁ mg mb G Y fa o pm cd doc dV kV ho hd1 hcd hD hmg hg args vals as hpre hlay hrd hwl hlo
  have KX := km_in_of Y
  km_tabs Y
  have X := (Ground.X G).1
  have V := (Ground.X G).2
  refine Ground.open G ?_
  intro T B D TE TW
  try (refine guard_noD D (by decide +kernel) ?_; clear D)
  km_lay T hmg ho hd1 cd
  clear hmg
  wrow_args hpre hlay hrd hwl hlo
  all_goals (
    first | refine callC_kw (enter_call ?_) | refine enter_call ?_
    w_top on
    refine law_post hT9 (fun _ _ => rfl) (law_true _) ?_
    w_call any ho hd1 hcd hD T F
    clear hd1
    kn_ghosts F T
    k_drop
    skip)
  all_goals (
    (rename Below _ _ _ _ => B9)
    (rename Fr _ _ _ _ => F9)
    (rename News _ _ _ _ => N9)
    (rename Frag.In _ _ => X9)
    (rename Top _ _ _ _ _ _ => T9)
    (rename IntsAre _ _ => I9)
    (rename ¬ _ < _ => L9)
    (rename Obj.data _ = _ => dS)
    revert dS
    (rename Obj.data _ = _ => dR)
    intro dS
    refine law_inner (L := s₁.heap.objs.size) (fa := fa) (cd := cd) B9 ?F X9 N9 T9 ?dR ?dS lifted I9 ?hlen ?C2 ?C1 ?hL ?hE (AllBare.of_eq hg) ?hret)
  case F => with_unfolding_all exact F9
  case dR => with_unfolding_all exact dR
  case dS => with_unfolding_all exact dS
  case hlen => omega
  case C2 => assumption
  case C1 => assumption
  case hL => omega
  case hE => passes_own
  case hret => exact fun h' tk' g' m' F' hb hG => ⟨rfl, fun b o e => F'.keep b o e, rfl, hb, hG⟩)
end Mine
set_option maxRecDepth 100000 in
set_option maxHeartbeats 8000000 in
theorem PySem.Challenge.cw_ul0006_01_holds : PySem.Challenge.rw_ul0006_01.Holds := by
  exact Mine.top
