import PyProof.Rows.All
import Wide.All
import OpenK.AllK
import Wide.FinOn
import Lean
import PySem.Challenge.RW_wb0007_01
set_option Elab.async false
set_option linter.unusedVariables false
section
open PySem PySem.W PyProof.Rows
set_option maxRecDepth 100000
namespace Mine
abbrev p0 : Program := PySem.Challenge.rw_wb0007_01.row.prog
def stAt (i : Nat) : Stmt := p0.main.body.getD i (.Pass ⟨0, 0, 0, 0⟩)
def stIn (i j : Nat) : Stmt := match stAt i with
  | .ClassDef _ _ _ b _ _ _ _ _ _ _ => b.getD j (.Pass ⟨0, 0, 0, 0⟩)
  | s => s
/-- a def of the text, as it lies in the heap once the text has run -/
def mkFn (nm ql : Str) {n : Str} {a : Arguments} {b : List Stmt} {d : List Expr} {r : Option Expr} {t : List TypeParam} {s : Scope} {ts : Option Scope} {bd : Str} {ps : Pos} (st : Stmt) (_h : st = Stmt.FunctionDef n a b d r t s ts bd ps)
    (md : Str) (mt : Tok) (cd : Addr) : Obj :=
  { cls := .type "function", data := .func { name := nm, qualname := ql, params := a, body := .stmts b, scope := s, globals := 3, closure := [], defaults := .none, kwdefaults := .none, pyModule := .str md mt, code := .ref cd } }
namespace hd
set_option maxHeartbeats 4000000 in
/-- the objects that the text leaves behind -/
noncomputable def heap_39 : Params → Frag := fun P =>
    (nat_lit 2, { cls := Value.none, data := Data.dict #[] }) ::
    (nat_lit 3, { cls := Value.type "dict", data := Data.dict #[{ hash := PyData.keyHash P (Str.ofString "__name__"), key := Value.str (Str.ofString "__name__") 165, val := Value.str (Str.ofString "law_wb0007_01") 391 }, { hash := PyData.keyHash P (Str.ofString "__doc__"), key := Value.str (Str.ofString "__doc__") 166, val := Value.none }, { hash := PyData.keyHash P (Str.ofString "__package__"), key := Value.str (Str.ofString "__package__") 167, val := Value.none }, { hash := PyData.keyHash P (Str.ofString "__loader__"), key := Value.str (Str.ofString "__loader__") 168, val := Value.builtin "__main__.__loader__#opaque" }, { hash := PyData.keyHash P (Str.ofString "__spec__"), key := Value.str (Str.ofString "__spec__") 169, val := Value.none }, { hash := PyData.keyHash P (Str.ofString "__annotations__"), key := Value.str (Str.ofString "__annotations__") 170, val := Value.ref 6 }, { hash := PyData.keyHash P (Str.ofString "__builtins__"), key := Value.str (Str.ofString "__builtins__") 171, val := Value.ref 4 }, { hash := PyData.keyHash P (Str.ofString "__file__"), key := Value.str (Str.ofString "__file__") 173, val := Value.str (Str.ofString "/claim/cut.py") 172 }, { hash := PyData.keyHash P (Str.ofString "__cached__"), key := Value.str (Str.ofString "__cached__") 174, val := Value.none }, { hash := PyData.keyHash P (Str.ofString "get_parent_map"), key := Value.str (Str.ofString "get_parent_map") 198, val := Value.ref 21 }, { hash := PyData.keyHash P (Str.ofString "_is_wildcard_tag"), key := Value.str (Str.ofString "_is_wildcard_tag") 205, val := Value.ref 28 }, { hash := PyData.keyHash P (Str.ofString "_SelectorContext"), key := Value.str (Str.ofString "_SelectorContext") 235, val := Value.ref 45 }, { hash := PyData.keyHash P (Str.ofString "_special_chars_map"), key := Value.str (Str.ofString "_special_chars_map") 383, val := Value.ref 51 }, { hash := PyData.keyHash P (Str.ofString "escape"), key := Value.str (Str.ofString "escape") 390, val := Value.ref 61 }, { hash := PyData.keyHash P (Str.ofString "_law_guarded"), key := Value.str (Str.ofString "_law_guarded") 399, val := Value.ref 68 }, { hash := PyData.keyHash P (Str.ofString "_law_told"), key := Value.str (Str.ofString "_law_told") 405, val := Value.ref 73 }, { hash := PyData.keyHash P (Str.ofString "_law_weights"), key := Value.str (Str.ofString "_law_weights") 415, val := Value.ref 80 }, { hash := PyData.keyHash P (Str.ofString "_law_text"), key := Value.str (Str.ofString "_law_text") 425, val := Value.ref 87 }, { hash := PyData.keyHash P (Str.ofString "_law_power"), key := Value.str (Str.ofString "_law_power") 431, val := Value.ref 92 }, { hash := PyData.keyHash P (Str.ofString "_law_chain"), key := Value.str (Str.ofString "_law_chain") 437, val := Value.ref 97 }, { hash := PyData.keyHash P (Str.ofString "_law_context"), key := Value.str (Str.ofString "_law_context") 446, val := Value.ref 104 }, { hash := PyData.keyHash P (Str.ofString "_law_climb"), key := Value.str (Str.ofString "_law_climb") 456, val := Value.ref 111 }, { hash := PyData.keyHash P (Str.ofString "law"), key := Value.str (Str.ofString "law") 462, val := Value.ref 116 }] 23 }) ::
    (nat_lit 6, { cls := Value.type "dict", data := Data.dict #[] }) ::
    (nat_lit 15, { cls := Value.type "tuple", data := Data.seq #[] }) ::
    (nat_lit 17, { cls := Value.type "tuple", data := Data.seq #[Value.str (Str.ofString "context") 192, Value.str (Str.ofString "parent_map") 193, Value.str (Str.ofString "p") 194, Value.str (Str.ofString "e") 195] }) ::
    (nat_lit 18, { cls := Value.type "tuple", data := Data.seq #[] }) ::
    (nat_lit 20, { cls := Value.type "code", data := Data.fields #[Value.str (Str.ofString "get_parent_map") 189, Value.str (Str.ofString "get_parent_map") 190, Value.str (Str.ofString "/claim/cut.py") 191, Value.int 2 0, Value.int 1 0, Value.int 0 0, Value.int 0 0, Value.int 3 0, Value.ref 15, Value.bool true, Value.int 181 0, Value.ref 16, Value.none, Value.ref 17, Value.ref 18, Value.ref 19, Value.int 196 0, Value.int 2 0, Value.str (Str.ofString "/claim/cut.py") 197] }) ::
    (nat_lit 21, mkFn (.ofString "get_parent_map") (.ofString "get_parent_map") (stAt 1) rfl (.ofString "cpy313.xml.etree.ElementPath") 187 20) ::
    (nat_lit 22, { cls := Value.type "tuple", data := Data.seq #[] }) ::
    (nat_lit 24, { cls := Value.type "tuple", data := Data.seq #[Value.str (Str.ofString "tag") 202] }) ::
    (nat_lit 25, { cls := Value.type "tuple", data := Data.seq #[] }) ::
    (nat_lit 27, { cls := Value.type "code", data := Data.fields #[Value.str (Str.ofString "_is_wildcard_tag") 199, Value.str (Str.ofString "_is_wildcard_tag") 200, Value.str (Str.ofString "/claim/cut.py") 201, Value.int 10 0, Value.int 1 0, Value.int 0 0, Value.int 0 0, Value.int 3 0, Value.ref 22, Value.bool true, Value.int 181 0, Value.ref 23, Value.none, Value.ref 24, Value.ref 25, Value.ref 26, Value.int 203 0, Value.int 10 0, Value.str (Str.ofString "/claim/cut.py") 204] }) ::
    (nat_lit 28, mkFn (.ofString "_is_wildcard_tag") (.ofString "_is_wildcard_tag") (stAt 2) rfl (.ofString "cpy313.xml.etree.ElementPath") 187 27) ::
    (nat_lit 36, { cls := Value.type "tuple", data := Data.seq #[] }) ::
    (nat_lit 38, { cls := Value.type "tuple", data := Data.seq #[Value.str (Str.ofString "self") 222, Value.str (Str.ofString "root") 223] }) ::
    (nat_lit 39, { cls := Value.type "tuple", data := Data.seq #[] }) ::
    (nat_lit 41, { cls := Value.type "code", data := Data.fields #[Value.str (Str.ofString "__init__") 219, Value.str (Str.ofString "_SelectorContext.__init__") 220, Value.str (Str.ofString "/claim/cut.py") 221, Value.int 15 0, Value.int 2 0, Value.int 0 0, Value.int 0 0, Value.int 3 0, Value.ref 36, Value.bool true, Value.int 181 0, Value.ref 37, Value.none, Value.ref 38, Value.ref 39, Value.ref 40, Value.int 224 0, Value.int 15 0, Value.str (Str.ofString "/claim/cut.py") 225] }) ::
    (nat_lit 42, mkFn (.ofString "__init__") (.ofString "_SelectorContext.__init__") (stIn 3 1) rfl (.ofString "cpy313.xml.etree.ElementPath") 187 41) ::
    (nat_lit 43, { cls := Value.type "tuple", data := Data.seq #[Value.str (Str.ofString "root") 227] }) ::
    (nat_lit 44, { cls := Value.type "dict", data := Data.dict #[{ hash := PyData.keyHash P (Str.ofString "__module__"), key := Value.str (Str.ofString "__module__") 213, val := Value.str (Str.ofString "cpy313.xml.etree.ElementPath") 187 }, { hash := PyData.keyHash P (Str.ofString "__firstlineno__"), key := Value.str (Str.ofString "__firstlineno__") 217, val := Value.int 12 216 }, { hash := PyData.keyHash P (Str.ofString "parent_map"), key := Value.str (Str.ofString "parent_map") 218, val := Value.none }, { hash := PyData.keyHash P (Str.ofString "__init__"), key := Value.str (Str.ofString "__init__") 226, val := Value.ref 42 }, { hash := PyData.keyHash P (Str.ofString "__static_attributes__"), key := Value.str (Str.ofString "__static_attributes__") 228, val := Value.ref 43 }, { hash := PyData.keyHash P (Str.ofString "__dict__"), key := Value.str (Str.ofString "__dict__") 230, val := Value.ref 46 }, { hash := PyData.keyHash P (Str.ofString "__weakref__"), key := Value.str (Str.ofString "__weakref__") 232, val := Value.ref 47 }, { hash := PyData.keyHash P (Str.ofString "__doc__"), key := Value.str (Str.ofString "__doc__") 233, val := Value.none }] 4 }) ::
    (nat_lit 45, { cls := Value.type "type", data := Data.cls { name := Str.ofString "_SelectorContext", bases := [Value.type "object"], mro := [Value.ref 45, Value.type "object"], ns := 44, qualname := Str.ofString "_SelectorContext" }, slots := #[none, none, some (Value.str (Str.ofString "_SelectorContext") 206), some (Value.str (Str.ofString "_SelectorContext") 214), some (Value.builtin "object.__new__"), some (Value.bool true)] }) ::
    (nat_lit 46, { cls := Value.type "getset_descriptor", data := Data.fields #[Value.str (Str.ofString "__dict__") 229, Value.ref 45, Value.builtin "function.__dict__", Value.builtin "function.__dict__#set"] }) ::
    (nat_lit 47, { cls := Value.type "getset_descriptor", data := Data.fields #[Value.str (Str.ofString "__weakref__") 231, Value.ref 45, Value.builtin "ExceptionGroup.__weakref__", Value.none] }) ::
    (nat_lit 51, { cls := Value.type "dict", data := Data.dict #[{ hash := 40, key := Value.int 40 239, val := Value.str (Str.ofString "\\(") 243 }, { hash := 41, key := Value.int 41 245, val := Value.str (Str.ofString "\\)") 249 }, { hash := 91, key := Value.int 91 251, val := Value.str (Str.ofString "\\[") 255 }, { hash := 93, key := Value.int 93 257, val := Value.str (Str.ofString "\\]") 261 }, { hash := 123, key := Value.int 123 263, val := Value.str (Str.ofString "\\{") 267 }, { hash := 125, key := Value.int 125 269, val := Value.str (Str.ofString "\\}") 273 }, { hash := 63, key := Value.int 63 275, val := Value.str (Str.ofString "\\?") 279 }, { hash := 42, key := Value.int 42 281, val := Value.str (Str.ofString "\\*") 285 }, { hash := 43, key := Value.int 43 287, val := Value.str (Str.ofString "\\+") 291 }, { hash := 45, key := Value.int 45 293, val := Value.str (Str.ofString "\\-") 297 }, { hash := 124, key := Value.int 124 299, val := Value.str (Str.ofString "\\|") 303 }, { hash := 94, key := Value.int 94 305, val := Value.str (Str.ofString "\\^") 309 }, { hash := 36, key := Value.int 36 311, val := Value.str (Str.ofString "\\$") 315 }, { hash := 92, key := Value.int 92 317, val := Value.str (Str.ofString "\\\\") 321 }, { hash := 46, key := Value.int 46 323, val := Value.str (Str.ofString "\\.") 327 }, { hash := 38, key := Value.int 38 329, val := Value.str (Str.ofString "\\&") 333 }, { hash := 126, key := Value.int 126 335, val := Value.str (Str.ofString "\\~") 339 }, { hash := 35, key := Value.int 35 341, val := Value.str (Str.ofString "\\#") 345 }, { hash := 32, key := Value.int 32 347, val := Value.str (Str.ofString "\\ ") 351 }, { hash := 9, key := Value.int 9 353, val := Value.str (Str.ofString "\\\t") 357 }, { hash := 10, key := Value.int 10 359, val := Value.str (Str.ofString "\\\n") 363 }, { hash := 13, key := Value.int 13 365, val := Value.str (Str.ofString "\\\x0d") 369 }, { hash := 11, key := Value.int 11 371, val := Value.str (Str.ofString "\\\x0b") 375 }, { hash := 12, key := Value.int 12 377, val := Value.str (Str.ofString "\\\x0c") 381 }] 24 }) ::
    (nat_lit 55, { cls := Value.type "tuple", data := Data.seq #[] }) ::
    (nat_lit 57, { cls := Value.type "tuple", data := Data.seq #[Value.str (Str.ofString "pattern") 387] }) ::
    (nat_lit 58, { cls := Value.type "tuple", data := Data.seq #[] }) ::
    (nat_lit 60, { cls := Value.type "code", data := Data.fields #[Value.str (Str.ofString "escape") 384, Value.str (Str.ofString "escape") 385, Value.str (Str.ofString "/claim/cut.py") 386, Value.int 19 0, Value.int 1 0, Value.int 0 0, Value.int 0 0, Value.int 3 0, Value.ref 55, Value.bool true, Value.int 181 0, Value.ref 56, Value.none, Value.ref 57, Value.ref 58, Value.ref 59, Value.int 388 0, Value.int 19 0, Value.str (Str.ofString "/claim/cut.py") 389] }) ::
    (nat_lit 61, mkFn (.ofString "escape") (.ofString "escape") (stAt 6) rfl (.ofString "cpy313.re") 236 60) ::
    (nat_lit 62, { cls := Value.type "tuple", data := Data.seq #[] }) ::
    (nat_lit 64, { cls := Value.type "tuple", data := Data.seq #[Value.str (Str.ofString "sign") 396] }) ::
    (nat_lit 65, { cls := Value.type "tuple", data := Data.seq #[] }) ::
    (nat_lit 67, { cls := Value.type "code", data := Data.fields #[Value.str (Str.ofString "_law_guarded") 393, Value.str (Str.ofString "_law_guarded") 394, Value.str (Str.ofString "/claim/cut.py") 395, Value.int 26 0, Value.int 1 0, Value.int 0 0, Value.int 0 0, Value.int 3 0, Value.ref 62, Value.bool true, Value.int 181 0, Value.ref 63, Value.none, Value.ref 64, Value.ref 65, Value.ref 66, Value.int 397 0, Value.int 26 0, Value.str (Str.ofString "/claim/cut.py") 398] }) ::
    (nat_lit 68, mkFn (.ofString "_law_guarded") (.ofString "_law_guarded") (stAt 8) rfl (.ofString "law_wb0007_01") 391 67) ::
    (nat_lit 69, { cls := Value.type "tuple", data := Data.seq #[] }) ::
    (nat_lit 72, { cls := Value.type "code", data := Data.fields #[Value.str (Str.ofString "_law_told") 400, Value.str (Str.ofString "_law_told") 401, Value.str (Str.ofString "/claim/cut.py") 402, Value.int 28 0, Value.int 1 0, Value.int 0 0, Value.int 0 0, Value.int 3 0, Value.ref 69, Value.bool true, Value.int 181 0, Value.ref 70, Value.none, Value.none, Value.none, Value.ref 71, Value.int 403 0, Value.int 28 0, Value.str (Str.ofString "/claim/cut.py") 404] }) ::
    (nat_lit 73, mkFn (.ofString "_law_told") (.ofString "_law_told") (stAt 9) rfl (.ofString "law_wb0007_01") 391 72) ::
    (nat_lit 74, { cls := Value.type "tuple", data := Data.seq #[] }) ::
    (nat_lit 76, { cls := Value.type "tuple", data := Data.seq #[Value.str (Str.ofString "text") 409, Value.str (Str.ofString "weights") 410, Value.str (Str.ofString "ahead") 411, Value.str (Str.ofString "sign") 412] }) ::
    (nat_lit 77, { cls := Value.type "tuple", data := Data.seq #[] }) ::
    (nat_lit 79, { cls := Value.type "code", data := Data.fields #[Value.str (Str.ofString "_law_weights") 406, Value.str (Str.ofString "_law_weights") 407, Value.str (Str.ofString "/claim/cut.py") 408, Value.int 48 0, Value.int 1 0, Value.int 0 0, Value.int 0 0, Value.int 3 0, Value.ref 74, Value.bool true, Value.int 181 0, Value.ref 75, Value.none, Value.ref 76, Value.ref 77, Value.ref 78, Value.int 413 0, Value.int 48 0, Value.str (Str.ofString "/claim/cut.py") 414] }) ::
    (nat_lit 80, mkFn (.ofString "_law_weights") (.ofString "_law_weights") (stAt 10) rfl (.ofString "law_wb0007_01") 391 79) ::
    (nat_lit 81, { cls := Value.type "tuple", data := Data.seq #[] }) ::
    (nat_lit 83, { cls := Value.type "tuple", data := Data.seq #[Value.str (Str.ofString "weights") 419, Value.str (Str.ofString "signs") 420, Value.str (Str.ofString "text") 421, Value.str (Str.ofString "k") 422] }) ::
    (nat_lit 84, { cls := Value.type "tuple", data := Data.seq #[] }) ::
    (nat_lit 86, { cls := Value.type "code", data := Data.fields #[Value.str (Str.ofString "_law_text") 416, Value.str (Str.ofString "_law_text") 417, Value.str (Str.ofString "/claim/cut.py") 418, Value.int 58 0, Value.int 2 0, Value.int 0 0, Value.int 0 0, Value.int 3 0, Value.ref 81, Value.bool true, Value.int 181 0, Value.ref 82, Value.none, Value.ref 83, Value.ref 84, Value.ref 85, Value.int 423 0, Value.int 58 0, Value.str (Str.ofString "/claim/cut.py") 424] }) ::
    (nat_lit 87, mkFn (.ofString "_law_text") (.ofString "_law_text") (stAt 11) rfl (.ofString "law_wb0007_01") 391 86) ::
    (nat_lit 88, { cls := Value.type "tuple", data := Data.seq #[] }) ::
    (nat_lit 91, { cls := Value.type "code", data := Data.fields #[Value.str (Str.ofString "_law_power") 426, Value.str (Str.ofString "_law_power") 427, Value.str (Str.ofString "/claim/cut.py") 428, Value.int 63 0, Value.int 1 0, Value.int 0 0, Value.int 0 0, Value.int 3 0, Value.ref 88, Value.bool true, Value.int 181 0, Value.ref 89, Value.none, Value.none, Value.none, Value.ref 90, Value.int 429 0, Value.int 63 0, Value.str (Str.ofString "/claim/cut.py") 430] }) ::
    (nat_lit 92, mkFn (.ofString "_law_power") (.ofString "_law_power") (stAt 12) rfl (.ofString "law_wb0007_01") 391 91) ::
    (nat_lit 93, { cls := Value.type "tuple", data := Data.seq #[] }) ::
    (nat_lit 96, { cls := Value.type "code", data := Data.fields #[Value.str (Str.ofString "_law_chain") 432, Value.str (Str.ofString "_law_chain") 433, Value.str (Str.ofString "/claim/cut.py") 434, Value.int 68 0, Value.int 2 0, Value.int 0 0, Value.int 0 0, Value.int 3 0, Value.ref 93, Value.bool true, Value.int 181 0, Value.ref 94, Value.none, Value.none, Value.none, Value.ref 95, Value.int 435 0, Value.int 68 0, Value.str (Str.ofString "/claim/cut.py") 436] }) ::
    (nat_lit 97, mkFn (.ofString "_law_chain") (.ofString "_law_chain") (stAt 13) rfl (.ofString "law_wb0007_01") 391 96) ::
    (nat_lit 98, { cls := Value.type "tuple", data := Data.seq #[] }) ::
    (nat_lit 100, { cls := Value.type "tuple", data := Data.seq #[Value.str (Str.ofString "families") 441, Value.str (Str.ofString "root") 442] }) ::
    (nat_lit 101, { cls := Value.type "tuple", data := Data.seq #[Value.str (Str.ofString "families") 443] }) ::
    (nat_lit 103, { cls := Value.type "code", data := Data.fields #[Value.str (Str.ofString "_law_context") 438, Value.str (Str.ofString "_law_context") 439, Value.str (Str.ofString "/claim/cut.py") 440, Value.int 75 0, Value.int 1 0, Value.int 0 0, Value.int 0 0, Value.int 3 0, Value.ref 98, Value.bool true, Value.int 181 0, Value.ref 99, Value.none, Value.ref 100, Value.ref 101, Value.ref 102, Value.int 444 0, Value.int 75 0, Value.str (Str.ofString "/claim/cut.py") 445] }) ::
    (nat_lit 104, mkFn (.ofString "_law_context") (.ofString "_law_context") (stAt 14) rfl (.ofString "law_wb0007_01") 391 103) ::
    (nat_lit 105, { cls := Value.type "tuple", data := Data.seq #[] }) ::
    (nat_lit 107, { cls := Value.type "tuple", data := Data.seq #[Value.str (Str.ofString "place") 450, Value.str (Str.ofString "table") 451, Value.str (Str.ofString "families") 452, Value.str (Str.ofString "steps") 453] }) ::
    (nat_lit 108, { cls := Value.type "tuple", data := Data.seq #[] }) ::
    (nat_lit 110, { cls := Value.type "code", data := Data.fields #[Value.str (Str.ofString "_law_climb") 447, Value.str (Str.ofString "_law_climb") 448, Value.str (Str.ofString "/claim/cut.py") 449, Value.int 79 0, Value.int 3 0, Value.int 0 0, Value.int 0 0, Value.int 3 0, Value.ref 105, Value.bool true, Value.int 181 0, Value.ref 106, Value.none, Value.ref 107, Value.ref 108, Value.ref 109, Value.int 454 0, Value.int 79 0, Value.str (Str.ofString "/claim/cut.py") 455] }) ::
    (nat_lit 111, mkFn (.ofString "_law_climb") (.ofString "_law_climb") (stAt 15) rfl (.ofString "law_wb0007_01") 391 110) ::
    (nat_lit 112, { cls := Value.type "tuple", data := Data.seq #[] }) ::
    (nat_lit 115, { cls := Value.type "code", data := Data.fields #[Value.str (Str.ofString "law") 457, Value.str (Str.ofString "law") 458, Value.str (Str.ofString "/claim/cut.py") 459, Value.int 85 0, Value.int 1 0, Value.int 0 0, Value.int 0 0, Value.int 3 0, Value.ref 112, Value.bool true, Value.int 181 0, Value.ref 113, Value.none, Value.none, Value.none, Value.ref 114, Value.int 460 0, Value.int 85 0, Value.str (Str.ofString "/claim/cut.py") 461] }) ::
    (nat_lit 116, mkFn (.ofString "law") (.ofString "law") (stAt 16) rfl (.ofString "law_wb0007_01") 391 115) :: []
end hd
noncomputable abbrev K : Params → Frag := hd.heap_39
abbrev asK : List Addr := [nat_lit 2, nat_lit 3, nat_lit 6, nat_lit 15, nat_lit 17, nat_lit 18, nat_lit 20, nat_lit 21, nat_lit 22, nat_lit 24, nat_lit 25, nat_lit 27, nat_lit 28, nat_lit 36, nat_lit 38, nat_lit 39, nat_lit 41, nat_lit 42, nat_lit 43, nat_lit 44, nat_lit 45, nat_lit 46, nat_lit 47, nat_lit 51, nat_lit 55, nat_lit 57, nat_lit 58, nat_lit 60, nat_lit 61, nat_lit 62, nat_lit 64, nat_lit 65, nat_lit 67, nat_lit 68, nat_lit 69, nat_lit 72, nat_lit 73, nat_lit 74, nat_lit 76, nat_lit 77, nat_lit 79, nat_lit 80, nat_lit 81, nat_lit 83, nat_lit 84, nat_lit 86, nat_lit 87, nat_lit 88, nat_lit 91, nat_lit 92, nat_lit 93, nat_lit 96, nat_lit 97, nat_lit 98, nat_lit 100, nat_lit 101, nat_lit 103, nat_lit 104, nat_lit 105, nat_lit 107, nat_lit 108, nat_lit 110, nat_lit 111, nat_lit 112, nat_lit 115, nat_lit 116]
theorem asK_eq (P : Params) : asK = (K P).map (·.1) := by kernel_rfl
def q : Program := view p0 [1, 2, 3, 5, 6, 8, 9, 10, 11, 12, 13, 14, 15, 16]
abbrev loose : List PySem.Str := [PySem.Str.ofString "_SelectorContext", PySem.Str.ofString "_special_chars_map"]
/-- the run of the text, in the library's quick words -/
theorem openEnds_q (p : Program) (w : World) (N : Nat) : openEnds treeTable p w N =
    ((PySem.W.Fast.tw10274390034422433532 PySem.W.Fast.tw14364793385576792824 (opening p) w N (PySem.W.Fast.tw1435165496053646825 (opening p)).1 (PySem.W.Fast.tw1435165496053646825 (opening p)).2).bind (PySem.W.Fast.tw14289696077712309145 p)).bind
    fun s₀ => match s₀.heap.isNs mainGlobals && s₀.gens.size == 0 with
      | true => (PySem.W.Fast.tw14082659384304107361 PySem.W.Fast.tw14364793385576792824 p w s₀.heap.objs.size (PySem.W.Fast.tw8920871248978507458 s₀.heap mainGlobals ⟨#[95, 95, 97, 110, 110, 111, 116, 97, 116, 105, 111, 110, 115, 95, 95]⟩) N s₀ (topStub p)).bind fun s₁ =>
          match staticsOk (importedModules p.main.body) s₀.heap s₁.heap && namesBound p s₁.heap && gensDone s₁ && laidKept s₀.heap s₁.heap with
          | true => some s₁
          | false => none
      | false => none := by
  have e : (⟨#[95, 95, 97, 110, 110, 111, 116, 97, 116, 105, 111, 110, 115, 95, 95]⟩ : PySem.Str) = PySem.Str.ofString "__annotations__" := by decide +kernel
  rw [e, ← PySem.W.Fast.te10274390034422433532, ← PySem.W.Fast.te14364793385576792824, ← PySem.W.Fast.te1435165496053646825, ← PySem.W.Fast.te14289696077712309145, ← PySem.W.Fast.te14082659384304107361, ← PySem.W.Fast.te8920871248978507458]
  rfl
abbrev rowR : RowW := PySem.Challenge.rw_wb0007_01.row.toRowW
noncomputable abbrev Hk : Hook := kmHook K asK asK_eq [99]
abbrev Xt : Shared → Bool := fun s => xlAt q [] s && recOk (RowW.records rowR) s
def Lft (w : World) : Prop := (openEnds treeTable p0 w 3846).map (fun s => (openSeen q loose (importedModules p0.main.body) Xt true s, Hook.obs Hk s)) = some (openGood q loose, Hook.val Hk w)
set_option maxHeartbeats 4000000
theorem left_ff (w : World) : Lft ((w.withFollow "special-get-raises" false).withFollow "comprehension-iter-twice" false) := by unfold Lft; rw [openEnds_q, PySem.W.Fast.te4187177175401517315]; kernel_rfl
theorem left_tf (w : World) : Lft ((w.withFollow "special-get-raises" true).withFollow "comprehension-iter-twice" false) := by unfold Lft; rw [openEnds_q, PySem.W.Fast.te4187177175401517315]; kernel_rfl
theorem left_ft (w : World) : Lft ((w.withFollow "special-get-raises" false).withFollow "comprehension-iter-twice" true) := by unfold Lft; rw [openEnds_q, PySem.W.Fast.te4187177175401517315]; kernel_rfl
theorem left_tt (w : World) : Lft ((w.withFollow "special-get-raises" true).withFollow "comprehension-iter-twice" true) := by unfold Lft; rw [openEnds_q, PySem.W.Fast.te4187177175401517315]; kernel_rfl
theorem left_all : LeftO p0 q loose Xt (Hook.obs Hk) (Hook.val Hk) 3846 := fun w =>
  byRow2 "comprehension-iter-twice" (P := Lft) (fun w => byRow2 "special-get-raises" (P := fun w => Lft (w.withFollow "comprehension-iter-twice" false)) left_ff left_tf w)
    (fun w => byRow2 "special-get-raises" (P := fun w => Lft (w.withFollow "comprehension-iter-twice" true)) left_ft left_tt w) w
theorem said : PySem.Challenge.rw_wb0007_01.wellSaid = true := by rw [PySem.W.Fast.te9446332074065402090]; kernel_rfl
theorem hd {d : DefRec} {kwd : List (PySem.Str × Expr)} (hdef : defOf q PySem.Challenge.rw_wb0007_01.row.toRowW.name = some (d, kwd)) (hp : PySem.Challenge.rw_wb0007_01.row.toRowW.prog.theDef PySem.Challenge.rw_wb0007_01.row.toRowW.name = some (d.params, d.body, d.scope)) (hk : kwWritten? d.params.kwonlyargs d.params.kw_defaults = some kwd)
    (call : WalkO q [PySem.Str.ofString "_SelectorContext", PySem.Str.ofString "_special_chars_map"] (XL q []) (kmHook hd.heap_39 [nat_lit 2, nat_lit 3, nat_lit 6, nat_lit 15, nat_lit 17, nat_lit 18, nat_lit 20, nat_lit 21, nat_lit 22, nat_lit 24, nat_lit 25, nat_lit 27, nat_lit 28, nat_lit 36, nat_lit 38, nat_lit 39, nat_lit 41, nat_lit 42, nat_lit 43, nat_lit 44, nat_lit 45, nat_lit 46, nat_lit 47, nat_lit 51, nat_lit 55, nat_lit 57, nat_lit 58, nat_lit 60, nat_lit 61, nat_lit 62, nat_lit 64, nat_lit 65, nat_lit 67, nat_lit 68, nat_lit 69, nat_lit 72, nat_lit 73, nat_lit 74, nat_lit 76, nat_lit 77, nat_lit 79, nat_lit 80, nat_lit 81, nat_lit 83, nat_lit 84, nat_lit 86, nat_lit 87, nat_lit 88, nat_lit 91, nat_lit 92, nat_lit 93, nat_lit 96, nat_lit 97, nat_lit 98, nat_lit 100, nat_lit 101, nat_lit 103, nat_lit 104, nat_lit 105, nat_lit 107, nat_lit 108, nat_lit 110, nat_lit 111, nat_lit 112, nat_lit 115, nat_lit 116] asK_eq [99]).says PySem.Challenge.rw_wb0007_01.row.toRowW d kwd fun f vs => PySem.call f vs) : PySem.Challenge.rw_wb0007_01.Holds :=
  holds_law said fun said => PySem.W.holds_open (q := q) (loose := loose) (Xt := Xt) (XP := XL q []) (Yf := Hook.obs Hk) (Ya := Hook.val Hk) (YP := Hook.says Hk) (N := 3846) left_all (Hook.of Hk) (Hook.keeps Hk)
    (fun s e => xl_of s (Bool.and_eq_true_iff.mp e).1) XL.keeps hdef hp hk (fun s e => recFacts_of (Bool.and_eq_true_iff.mp e).2) (by rfl) said (by decide +kernel) ⟨rfl, rfl, rfl, rfl, rfl, by decide +kernel⟩ (by w_on; w_witness2) call
end Mine
end
section
open PySem.W
local macro_rules | `(tactic| walk_at $s:str) => `(tactic| k_extra $s)
section
open PySem PySem.W PyProof.Rows PySem.Calls
set_option maxRecDepth 100000
namespace Mine
abbrev pr : Program := PySem.Challenge.rw_wb0007_01.row.prog
def Keep (h h' : Heap) : Prop := ∀ b o, h.get? b = some o → h'.get? b = some o
theorem Keep.refl (h : Heap) : Keep h h := fun _ _ e => e
theorem Keep.trans {a b c : Heap} (x : Keep a b) (y : Keep b c) : Keep a c := fun p o e => y p o (x p o e)
structure Env (P : Params) (h : Heap) : Prop where
  k : (hd.heap_39 P).In h
  t : ∃ p loose mg mb, TopRead p loose mg mb h
theorem Env.keeps {P : Params} {h h' : Heap} (x : Env P h) (k : Keep h h') : Env P h' := ⟨x.k.keeps k, let ⟨p, l, g, b, t⟩ := x.t; ⟨p, l, g, b, t.keeps k⟩⟩

theorem enter {w : World} {A : Around} {E : Value → Shared → Prop} {s : Shared} {Q : Value → Shared → Prop} {K : Frag} {p : Program} {loose : List Str} {mg mb : Str → Option Value}
    {name qual : Str} {params : Arguments} {body : List Stmt} {scope : Scope} {dV kV doc pm cdv ct oc : Value} {an od : Option Addr} {osl : Array (Option Value)} {f : Addr} {args : List Value} {binds : List (Str × Value)}
    (X : K.In s.heap) (T : TopRead p loose mg mb s.heap)
    (ho : K.lookup f = some ⟨oc, od, .func (fnOf name qual params body scope dV kV doc pm an cdv ct), osl⟩) (hcd : codeIn K cdv qual = true) (hroom : A.depth < recursionLimit)
    (hbind : BindsTo s (fnOf name qual params body scope dV kV doc pm an cdv ct) ⟨args, []⟩ binds) (hloc : ∀ y ∈ binds, scope.names.lookup y.1 = some .local)
    (h : ∀ L h₁, Fr s.heap L h₁ (fun y => binds.reverse.lookup y) → News s.heap L h₁ [] → s.heap.get? L = none →
      wpAny (model pr w) (A.deeper (envOf qual scope L f cdv)) (execs body (envOf qual scope L f cdv))
        (fun fl s' => Q (match fl with | .ret v => v | _ => .none) s') (fun _ _ => False)
        { s with heap := h₁, toks := s.toks + binds.length })
    (hcell : ∀ x ∈ scope.names, x.2 ≠ .cell) (hco : scope.isCoroutine = false) (hgen : scope.isGenerator = false) (hk : scope.kind = .function) :
    wpAny (model pr w) A (call (.ref f) args) Q E s := by
  refine wpAny_call (codeAny_call_def (fd := fnOf name qual params body scope dV kV doc pm an cdv ct) (body := body) (binds := binds) hroom (X _ _ ho) rfl T.nolimit (codeRec_of X hcd) rfl hbind hcell hloc (fun h₁ hns hk₁ => ?_) hco hgen hk)
  exact wpAny_mono (h s.heap.objs.size h₁ ⟨hns, hk₁, Nat.le_refl _⟩ News.nil (by
    cases e : s.heap.get? s.heap.objs.size with
    | none => rfl
    | some o => exact absurd (Heap.lt_size e) (Nat.lt_irrefl _))) (fun fl s' hl => hl) fun _ _ y => y.elim
/-- what comes after is hidden behind a letter -/
theorem hideQ {α : Type} {M : Model} {A : Around} {t : Sem α} {Q : α → Shared → Prop} {E : Value → Shared → Prop} {s : Shared}
    (h : ∀ Q', (∀ v s', Q v s' → Q' v s') → wpAny M A t Q' (fun _ _ => False) s) : wpAny M A t Q E s := wpAny_mono (h Q (fun _ _ x => x)) (fun _ _ x => x) fun _ _ x => x.elim
/-- the goal is hidden behind a letter, while things are taken apart -/
theorem hideG {X : Prop} (h : ∀ G : Prop, (X → G) → G) : X := h X id
theorem mapc {m r : Str → Option Value} {a : Str} {u : Option Value} (ha : u = m a) (hr : m = r) : m = fun y => if y = a then u else r y := by
  subst hr
  funext y
  by_cases h : y = a
  · subst h; rw [if_pos rfl, ha]
  · rw [if_neg h]
end Mine
end
section
open PySem PySem.W PyProof.Rows PySem.Calls
set_option maxRecDepth 100000
namespace Mine
def specials : List Nat := [40,41,91,93,123,125,63,42,43,45,124,94,36,46,38,126,35,32,9,10,13,11,12]
def gd (c : Nat) : Nat := if c ∈ specials then 1 else 0
theorem filled : hd.heap_39 = hd.heap_39 ∧ PySem.Challenge.rw_wb0007_01 = PySem.Challenge.rw_wb0007_01 := by
  k_fill
  exact ⟨rfl, rfl⟩
theorem spec_lit : (Str.ofString "()[]{}?*+-|^$.&~# \t\n\x0d\x0b\x0c").cps.toList = specials := by decide +kernel
set_option maxHeartbeats 4000000 in
theorem guarded_spec {w : World} {A : Around} {E : Value → Shared → Prop} {s : Shared} {Q : Value → Shared → Prop} (c : Nat) (t : Tok) (hroom : A.depth < recursionLimit)
    (hE : Env w.params s.heap) (h : ∀ h' tk t', Keep s.heap h' → Q (.int (gd c : Nat) t') { s with heap := h', toks := tk }) :
    wpAny (model pr w) A (call (.ref 68) [.str ⟨#[c]⟩ t]) Q E s := by
  obtain ⟨KX, p, loose, mg, mb, T⟩ := hE
  refine' enter (binds := [(Str.ofString "sign", .str ⟨#[c]⟩ t)]) KX T ?k1 ?k2 hroom ?k3 ?k4 ?_ ?k6 ?k7 ?k8 ?k9
  case k1 => k_is
  case k2 => k_is
  case k3 => exact BindsTo.of_eq rfl
  case k4 => exact locs rfl
  case k6 => decide
  case k7 => rfl
  case k8 => rfl
  case k9 => rfl
  intro L h₁ F N hL
  k_steps
  · rename_i e
    have e' := StrLaws.found_one (Str.ofString "()[]{}?*+-|^$.&~# \t\n\x0d\x0b\x0c") c
    rw [e, spec_lit] at e'
    have : gd c = 0 := by unfold gd; rw [if_neg]; simpa using e'
    rw [this] at h
    exact h _ _ _ F.keep
  · rename_i e
    have e' := StrLaws.found_one (Str.ofString "()[]{}?*+-|^$.&~# \t\n\x0d\x0b\x0c") c
    rw [e, spec_lit] at e'
    have : gd c = 1 := by unfold gd; rw [if_pos]; simpa using e'
    rw [this] at h
    exact h _ _ _ F.keep
end Mine
end
section
open PySem PySem.W PyProof.Rows PySem.Calls
set_option maxRecDepth 100000
namespace Mine
def wild (c : Str) : Bool := (Txt.slice c none (some 3) == Str.ofString "{*}") || (Txt.slice c (some (-2)) none == Str.ofString "}*")
set_option maxHeartbeats 4000000 in
theorem wild_spec {w : World} {A : Around} {E : Value → Shared → Prop} {s : Shared} {Q : Value → Shared → Prop} (c : Str) (t : Tok) (hroom : A.depth < recursionLimit)
    (hE : Env w.params s.heap) (hlen : c.length ≤ 10000) (h : ∀ h' tk, Keep s.heap h' → Q (.bool (wild c)) { s with heap := h', toks := tk }) :
    wpAny (model pr w) A (call (.ref 28) [.str c t]) Q E s := by
  obtain ⟨KX, p, loose, mg, mb, T⟩ := hE
  refine' enter (binds := [(Str.ofString "tag", .str c t)]) KX T ?k1 ?k2 hroom ?k3 ?k4 ?_ ?k6 ?k7 ?k8 ?k9
  case k1 => k_is
  case k2 => k_is
  case k3 => exact BindsTo.of_eq rfl
  case k4 => exact locs rfl
  case k6 => decide
  case k7 => rfl
  case k8 => rfl
  case k9 => rfl
  intro L h₁ F N hL
  k_steps
  · rename_i e
    have : wild c = true := by unfold wild; rw [e]; rfl
    rw [this] at h
    rw [e]
    exact h _ _ (by assumption : Fr s.heap L _ _).keep
  · rename_i e _ _ _ _ _ _
    have : wild c = (Txt.slice c (some (-2)) none == Str.ofString "}*") := by unfold wild; rw [e]; rfl
    rw [this] at h
    exact h _ _ (by assumption : Fr s.heap L _ _).keep
end Mine
end
section
open PySem PySem.W PyProof.Rows PySem.Calls PySem.Builtin PySem.Builtin.Str
set_option maxRecDepth 100000
namespace Mine
/-- the 24 signs with a meaning -/
def isSp (c : Nat) : Bool := c == 92 || specials.contains c
def escL (l : List Nat) : List Nat := l.flatMap fun c => if isSp c then [92, c] else [c]
def tx (l : List Nat) : Str := ⟨l.toArray⟩

/-- the table of escape: a text for each of the 24, with its mark -/
def EscTab (h : Heap) (d : Addr) (prog : Program) (w : World) : Prop :=
  (d == sysModules) = false ∧ ∃ f : Int → Option Value, h.MapOf (intKind prog w) d f ∧ ∀ c : Nat, (isSp c = true → ∃ t, f c = some (.str (tx [92, c]) t)) ∧ (isSp c = false → f c = none)

theorem look_spec {prog : Program} {w : World} {A : Around} {E : Value → Shared → Prop} {s : Shared} {d : Addr} {c : Nat} {Q : Mapped → Shared → Prop} (hh : A.handled = none) (T : EscTab s.heap d prog w)
    (h : ∀ h' tk, Keep s.heap h' → Q (if isSp c then .text (tx [92, c]) else .keep) { s with heap := h', toks := tk }) :
    wpAny (model prog w) A (tableLookup (.ref d) c) Q E s := by
  obtain ⟨hs, f, hm, hf⟩ := T
  unfold tableLookup
  refine wpAny_bind (wpAny_attempt (wpAny_bind (wpAny_mkInt ?_)))
  cases hc : isSp c with
  | true =>
    obtain ⟨t, ht⟩ := (hf c).1 hc
    refine wpAny_getItem_of (knd := intKind prog w) (k := (c : Int)) (intKind_is prog w _ _) hm ht ?_
    dsimp only
    refine wpAny_bind (wpAny_of_eq (a := none) rfl ?_)
    refine wpAny_bind (wpAny_of_eq (a := some (tx [92, c])) rfl ?_)
    rw [hc] at h
    exact wpAny_pure (h _ _ (Keep.refl _))
  | false =>
    refine wpAny_getItem_missing_of (knd := intKind prog w) (k := (c : Int)) (intKind_is prog w _ _) hs hh hm ((hf c).2 hc) ?_
    intro h' e ne
    obtain ⟨ob, t, hob, hcls, hdat⟩ := ne.there
    dsimp only
    refine wpAny_bind (wpAny_isInstance (T := "KeyError") (b := true) ⟨ob, hob, hcls⟩ (by rw [isSubtype_type]; kernel_rfl) ?_)
    simp only [if_true]
    refine wpAny_bind (wpAny_rule (wpAny_pure ?_))
    rw [hc] at h
    exact h _ _ ne.keeps

theorem EscTab.keeps {prog : Program} {w : World} {h h' : Heap} {d : Addr} (T : EscTab h d prog w) (k : Keep h h') : EscTab h' d prog w := by
  obtain ⟨hs, f, ⟨o, es, ep, ho, r⟩, hf⟩ := T
  exact ⟨hs, f, ⟨o, es, ep, k _ _ ho, r⟩, hf⟩
theorem escL_append (a b : List Nat) : escL (a ++ b) = escL a ++ escL b := by simp [escL]
theorem escL_one (c : Nat) : escL [c] = if isSp c then [92, c] else [c] := by simp [escL]
theorem escL_length (l : List Nat) : (escL l).length ≤ 2 * l.length := by
  induction l with
  | nil => simp [escL]
  | cons c l ih =>
    have : escL (c :: l) = escL [c] ++ escL l := escL_append [c] l
    rw [this, List.length_append, escL_one, List.length_cons]
    split <;> simp only [List.length_cons, List.length_nil] <;> omega
theorem joinP (l : List Str) (acc : Array Nat) : (l.foldl (fun acc p => acc ++ p.cps) acc).toList = acc.toList ++ l.flatMap (·.cps.toList) := by
  induction l generalizing acc with
  | nil => simp
  | cons p l ih => rw [List.foldl_cons, ih]; simp

/-- where the loop over the signs stands -/
def TrInv (s : Shared) (x : Str) (rest : List Nat) (b : List Str × Nat × Bool × List (Nat × Option Nat) × Bool) (s' : Shared) : Prop :=
  ∃ pre h' tk, x.cps.toList = pre ++ rest ∧ s' = { s with heap := h', toks := tk } ∧ Keep s.heap h' ∧ b.1.reverse.flatMap (·.cps.toList) = escL pre ∧ b.2.1 = (escL pre).length ∧
    b.2.2.2.2 = false ∧ ∀ p ∈ b.2.2.2.1, p.2 = some p.1 ∧ isSp p.1 = false

theorem known_lookup {known : List (Nat × Option Nat)} {c : Nat} {a : Option Nat} (hk : ∀ p ∈ known, p.2 = some p.1 ∧ isSp p.1 = false) (h : known.lookup c = some a) : a = some c ∧ isSp c = false := by
  induction known with
  | nil => cases h
  | cons p r ih =>
    rw [List.lookup_cons] at h
    by_cases e : (c == p.1) = true
    · simp only [e] at h
      have := hk p (List.mem_cons_self)
      have e' : c = p.1 := by simpa using e
      cases h
      rw [e']; exact this
    · simp only [e] at h
      exact ih (fun q hq => hk q (List.mem_cons_of_mem _ hq)) h

theorem five {α β γ δ ε : Type} {P : α × β × γ × δ × ε → Prop} (h : ∀ a b c d e, P (a, b, c, d, e)) : ∀ p, P p := fun ⟨a, b, c, d, e⟩ => h a b c d e
set_option maxHeartbeats 2000000 in
theorem translate_spec {prog : Program} {w : World} {A : Around} {E : Value → Shared → Prop} {s : Shared} {d : Addr} {x : Str} {t : Tok} {Q : Fin → Shared → Prop} (hh : A.handled = none) (T : EscTab s.heap d prog w)
    (hlen : x.length ≤ 100000)
    (h : ∀ h' tk t', Keep s.heap h' → Q (.done (.ret (.str (tx (escL x.cps.toList)) t'))) { s with heap := h', toks := tk }) :
    wpAny (model prog w) A (Builtin.«str.translate» ⟨[.str x t, .ref d], []⟩) Q E s := by
  unfold Builtin.«str.translate»
  refine wpAny_bind (wpAny_of_eq (a := (.str x t, x, .ref d)) rfl ?_)
  dsimp only
  have hs : (2 : Nat) * 100000 ≤ sizeLine := by decide
  split
  · rename_i e
    have e0 : x.cps.toList = [] := by
      have : x.cps.size = 0 := by simpa [Str.length] using e
      simpa using this
    refine wpAny_bind (wpAny_rule (wpAny_bind (wpAny_of_eq (a := .str x t) rfl ?_)))
    have hx : tx (escL x.cps.toList) = x := by rw [e0]; cases x with | mk c => simp at e0; subst e0; rfl
    rw [hx] at h
    exact wpAny_pure (h _ _ _ (Keep.refl _))
  · rename_i hne
    refine wpAny_bind (PySem.MeetsSeq2.wpAny_forIn_array _ (TrInv s x) _ ?_ ?_ _ _ ?_)
    · refine fun c rest => five fun pieces total fast known afterDrop s' hJ => ?_
      refine hideQ fun Q' hQ' => ?_
      dsimp only
      refine hideG fun G hG => ?_
      obtain ⟨pre, h', tk, hx, rfl, hk, hp, ht, ha, hkn⟩ := hJ
      dsimp only at hp ht ha hkn
      subst ha
      refine hG ?_
      have hl : x.cps.toList.length = x.length := by simp [Str.length]
      have hle : total ≤ sizeLine := by
        rw [ht]
        have := escL_length pre
        have h2 : x.cps.toList.length = pre.length + (rest.length + 1) := by rw [hx]; simp
        omega
      have htl : tooLong total = false := by simp [tooLong]; exact hle
      have T' := T.keeps hk
      have hx' : x.cps.toList = (pre ++ [c]) ++ rest := by rw [hx]; simp
      -- what each way of a sign's end hands on
      have fin : ∀ (p : Str) (kn : List (Nat × Option Nat)) (f : Bool) (n : Nat) (h₂ : Heap) (tk₂ : Nat), p.cps.toList = escL [c] → n = (escL [c]).length → (∀ p ∈ kn, p.2 = some p.1 ∧ isSp p.1 = false) → Keep h' h₂ →
          Q' (.yield (p :: pieces, total + n, f, kn, false)) { s with heap := h₂, toks := tk₂ } := by
        intro p kn f n h₂ tk₂ e1 e2 e3 e4
        refine hQ' _ _ ⟨pre ++ [c], h₂, tk₂, hx', rfl, hk.trans e4, ?_, ?_, rfl, e3⟩
        · simp only [List.reverse_cons, List.flatMap_append, List.flatMap_cons, List.flatMap_nil, List.append_nil, hp, e1, escL_append]
        · simp only [ht, e2, escL_append, List.length_append]
      have slow : ∀ (kn : List (Nat × Option Nat)) (h₂ : Heap) (tk₂ : Nat), (∀ p ∈ kn, p.2 = some p.1 ∧ isSp p.1 = false) → Keep h' h₂ → wpAny (model prog w) A (do
          let m ← tableLookup (.ref d) c
          match m with
            | Mapped.keep => pure (ForInStep.yield ((⟨#[c]⟩ : Str) :: pieces, total + 1, false, kn, false))
            | Mapped.drop => pure (ForInStep.yield (pieces, total, false, kn, true))
            | Mapped.char d => pure (ForInStep.yield ((⟨#[d]⟩ : Str) :: pieces, total + 1, false, kn, false))
            | Mapped.text t => pure (ForInStep.yield (t :: pieces, total + t.length, false, kn, false)))
          Q' (fun _ _ => False) { s with heap := h₂, toks := tk₂ } := by
        intro kn h₂ tk₂ e3 e4
        refine wpAny_bind (look_spec hh (T'.keeps e4) fun h₃ tk₃ k₃ => ?_)
        cases hc : isSp c with
        | true => exact wpAny_pure (fin _ kn false _ _ _ (by rw [escL_one, hc]; rfl) (by rw [escL_one, hc]; rfl) e3 (e4.trans k₃))
        | false => exact wpAny_pure (fin _ kn false _ _ _ (by rw [escL_one, hc]; rfl) (by rw [escL_one, hc]; rfl) e3 (e4.trans k₃))
      rw [htl]
      simp only [Bool.false_eq_true, if_false]
      cases fast with
      | false =>
        simp only [Bool.false_eq_true, if_false]
        exact slow known h' tk hkn (Keep.refl _)
      | true =>
        simp only [if_true]
        cases hlk : List.lookup c known with
        | some a =>
          obtain ⟨rfl, hc⟩ := known_lookup hkn hlk
          dsimp only
          refine wpAny_bind (wpAny_pure ?_)
          exact wpAny_pure (fin _ known true _ _ _ (by rw [escL_one, hc]; rfl) (by rw [escL_one, hc]; rfl) hkn (Keep.refl _))
        | none =>
          dsimp only
          refine wpAny_bind (look_spec hh T' fun h₃ tk₃ k₃ => ?_)
          cases hc : isSp c with
          | true =>
            simp only [if_true]
            have e : ((tx [92, c]).length == 1) = false := rfl
            simp only [e, Bool.false_and, Bool.false_eq_true, if_false]
            refine wpAny_bind (wpAny_pure ?_)
            dsimp only
            refine wpAny_bind (wpAny_rule ?_)
            exact slow known h₃ tk₃ hkn k₃
          | false =>
            simp only [Bool.false_eq_true, if_false]
            refine wpAny_bind (wpAny_pure ?_)
            refine wpAny_pure (fin _ _ true _ _ _ (by rw [escL_one, hc]; rfl) (by rw [escL_one, hc]; rfl) ?_ k₃)
            intro p hp
            rcases List.mem_cons.mp hp with rfl | hp
            · exact ⟨rfl, hc⟩
            · exact hkn p hp
    · refine five fun pieces total fast known afterDrop s' hJ => ?_
      dsimp only
      refine hideG fun G hG => ?_
      obtain ⟨pre, h', tk, hx, rfl, hk, hp, ht, ha, hkn⟩ := hJ
      dsimp only at hp ht ha hkn
      refine hG ?_
      rw [List.append_nil] at hx
      subst hx
      have hl : x.cps.toList.length = x.length := by simp [Str.length]
      have hle : (escL x.cps.toList).length ≤ sizeLine := by
        have := escL_length x.cps.toList
        omega
      have htl : tooLong total = false := by simp [tooLong, ht]; exact hle
      rw [htl]
      simp only [Bool.false_eq_true, if_false]
      have he : (⟨pieces.reverse.foldl (fun acc p => acc ++ p.cps) #[]⟩ : Str) = tx (escL x.cps.toList) := by
        unfold tx
        congr 1
        apply Array.toList_inj.mp
        rw [joinP, hp]; simp
      rw [he]
      unfold retStr mkStr
      have hz : ¬ ((tx (escL x.cps.toList)).length > sizeLine) := by simp [tx, Str.length]; exact hle
      rw [if_neg hz]
      exact wpAny_bind (wpAny_bind (wpAny_fresh (wpAny_pure (wpAny_pure (h _ _ _ hk)))))
    · exact ⟨[], s.heap, s.toks, by simp, rfl, Keep.refl _, rfl, rfl, rfl, fun _ hp => nomatch hp⟩
end Mine
end
section
open PySem PySem.W PyProof.Rows PySem.Calls PySem.Builtin PySem.Builtin.Str
set_option maxRecDepth 100000
namespace Mine
theorem isSp_mem (c : Nat) : isSp c = true ↔ c ∈ (92 :: specials) := by simp [isSp]
theorem esc_of {K : Frag} {h : Heap} {d : Addr} {prog : Program} {w : World} {es : Array DictEntry} {n : Nat} (X : K.In h) (ho : K.lookup d = some ⟨.type "dict", none, .dict es n, #[]⟩) (hs : (d == sysModules) = false)
    (h1 : es.all (fun e => match e.key with | .int k _ => e.hash == hashInt k && decide (0 ≤ k) && isSp k.toNat | _ => false) = true)
    (h2 : (92 :: specials).all (fun c => match findBy Value.isInt es (c : Int) with | some (.str y _) => y == tx [92, c] | _ => false) = true) : EscTab h d prog w := by
  have h1' : ∀ e ∈ es, ∃ k t, e.key = .int k t ∧ e.hash = hashInt k ∧ 0 ≤ k ∧ isSp k.toNat = true := by
    intro e he
    have := (Array.all_eq_true'.mp h1) e he
    cases hk : e.key with
    | int k t => rw [hk] at this; simp only [Bool.and_eq_true, beq_iff_eq, decide_eq_true_eq] at this; exact ⟨k, t, rfl, this.1.1, this.1.2, this.2⟩
    | _ => rw [hk] at this; cases this
  refine ⟨hs, fun k => findBy Value.isInt es k, ⟨_, es, n, X _ _ ho, ⟨rfl, rfl, rfl⟩, rfl, fun e he => ?_, fun _ => rfl⟩, fun c => ⟨fun hc => ?_, fun hc => ?_⟩⟩
  · obtain ⟨k, t, hk, hh, _⟩ := h1' e he
    exact ⟨k, by rw [hk]; exact intKind_is prog w k t, hh⟩
  · have := List.all_eq_true.mp h2 c ((isSp_mem c).mp hc)
    cases hf : findBy Value.isInt es (c : Int) with
    | none => rw [hf] at this; cases this
    | some v =>
      rw [hf] at this
      cases v with
      | str y t => exact ⟨t, by rw [← beq_iff_eq.mp this]; exact hf⟩
      | _ => cases this
  · unfold findBy
    rw [Option.map_eq_none_iff, Array.find?_eq_none]
    intro e he hq
    obtain ⟨k, t, hk, _, h0, hsp⟩ := h1' e he
    rw [hk] at hq
    have : k = (c : Int) := by simpa [Value.isInt] using hq
    subst this
    rw [Int.toNat_natCast] at hsp
    rw [hsp] at hc; cases hc
theorem escTab_K {w : World} {h : Heap} (KX : (hd.heap_39 w.params).In h) : EscTab h 51 pr w := by
  refine' esc_of KX ?k1 ?k2 ?k3 ?k4
  case k1 => k_is
  case k2 => rfl
  case k3 => decide +kernel
  case k4 => decide +kernel

theorem getMethod_translate {M : Model} {A : Around} {E : Value → Shared → Prop} {s : Shared} {x : Str} {t : Tok} {pl : Sem Bool} {Q : Value × List Value → Shared → Prop} (h : Q (.builtin "str.translate", [.str x t]) s) :
    wpAny M A (getMethod (.str x t) (Str.ofString "translate") pl) Q E s := by
  exact PySem.GM.of (name := Str.ofString "translate") (id := "str.translate") _ (typeIs_str s x t) PySem.F.slot_str_translate PySem.F.type_str_translate PySem.GM.noRef h
theorem call_translate {prog : Program} {w : World} {A : Around} {E : Value → Shared → Prop} {s : Shared} {d : Addr} {x : Str} {t : Tok} {Q : Value → Shared → Prop} (hh : A.handled = none) (T : EscTab s.heap d prog w) (hlen : x.length ≤ 100000)
    (h : ∀ h' tk t', Keep s.heap h' → Q (.str (tx (escL x.cps.toList)) t') { s with heap := h', toks := tk }) :
    wpAny (model prog w) A (call (.builtin "str.translate") [.str x t, .ref d]) Q E s :=
  wpAny_call_entry PySem.F.slot_str_translate (typeIs_str s x t) PySem.F.entry_str_translate
    (translate_spec (A := A.in1) hh T hlen fun h' tk t' k => ⟨_, rfl, h h' tk t' k⟩) (PySem.F.args_str_translate_2 _ _)
set_option maxHeartbeats 4000000 in
theorem escape_spec {w : World} {A : Around} {E : Value → Shared → Prop} {s : Shared} {Q : Value → Shared → Prop} (c : Str) (t : Tok) (hroom : A.depth < recursionLimit) (hh : A.handled = none)
    (hE : Env w.params s.heap) (hlen : c.length ≤ 100000) (h : ∀ h' tk t', Keep s.heap h' → Q (.str (tx (escL c.cps.toList)) t') { s with heap := h', toks := tk }) :
    wpAny (model pr w) A (call (.ref 61) [.str c t]) Q E s := by
  obtain ⟨KX, p, loose, mg, mb, T⟩ := hE
  refine' enter (binds := [(Str.ofString "pattern", .str c t)]) KX T ?k1 ?k2 hroom ?k3 ?k4 ?_ ?k6 ?k7 ?k8 ?k9
  case k1 => k_is
  case k2 => k_is
  case k3 => exact BindsTo.of_eq rfl
  case k4 => exact locs rfl
  case k6 => decide
  case k7 => rfl
  case k8 => rfl
  case k9 => rfl
  intro L h₁ F N hL
  k_steps
  refine getMethod_translate ?_
  k_steps
  refine call_translate hh (escTab_K (KX.keeps F.keep)) hlen ?_
  intro h' tk' t' k
  k_steps
  exact h _ _ _ (Keep.trans F.keep k)
end Mine
end
section
open PySem PySem.W PyProof.Rows PySem.Calls
set_option maxRecDepth 100000
namespace Mine
section
variable {prog : Program} {w : World} {A : Around} {E : Value → Shared → Prop} {s : Shared} {env : PySem.Env} {h₀ : Heap} {x : Str} {body : List Stmt} {Q : Flow → Shared → Prop}

/-- the end of a turn of a loop: the iterator's own object I stands as it stood -/
def TurnEnd (h₀ : Heap) (L I : Addr) (oI : Obj) (src : List (Addr × Obj)) (J : (Str → Option Value) → List (Addr × Obj) → Prop) (s₁ : Shared) (Q : Flow → Shared → Prop) (f : Flow) (s₂ : Shared) : Prop :=
  match f with
  | .ret v => Q (.ret v) s₂
  | .brk => Q .next s₂
  | _ => ∃ h' tk m' news', s₂ = { s₁ with heap := h', toks := tk } ∧ Fr h₀ L h' m' ∧ News h₀ L h' ((I, oI) :: news') ∧ (∀ p ∈ news', p.1 ≠ I) ∧ (∀ p ∈ src, p ∈ news') ∧ J m' news'

theorem turn_end {h₀ : Heap} {L I : Addr} {oI : Obj} {src : List (Addr × Obj)} {J : (Str → Option Value) → List (Addr × Obj) → Prop} {s₁ : Shared} {h' : Heap} {tk : Nat} {m' : Str → Option Value} {news' : List (Addr × Obj)}
    (F : Fr h₀ L h' m') (N : News h₀ L h' ((I, oI) :: news')) (ho : ∀ p ∈ news', p.1 ≠ I) (hs : ∀ p ∈ src, p ∈ news') (hj : J m' news') : TurnEnd h₀ L I oI src J s₁ Q .next { s₁ with heap := h', toks := tk } := ⟨_, _, _, _, rfl, F, N, ho, hs, hj⟩

theorem loopAt {I : Addr} {fp : List Addr} {n : Nat} {P : Nat → Value → Prop} {St : Nat → Heap → Prop} {m₀ : Str → Option Value} {news : List (Addr × Obj)} (src : List (Addr × Obj))
    (J : Nat → (Str → Option Value) → List (Addr × Obj) → Prop)
    (W : Walks prog w A I fp [I] n P St) (hfp : ∀ b ∈ fp, b = I ∨ (∃ o, h₀.get? b = some o) ∨ ∃ o, (b, o) ∈ src) (hL : env.locals ∉ fp) (hI : h₀.get? I = none) (hnw : ∀ p ∈ news, p.1 ≠ I)
    (hst : St 0 s.heap) (F : Fr h₀ env.locals s.heap m₀) (N : News h₀ env.locals s.heap news) (hsrc : ∀ p ∈ src, p ∈ news) (hIo : ∀ i h, St i h → ∃ o, h.get? I = some o) (hj : J 0 m₀ news)
    (turn : ∀ i v m₁ news₁ h tk oI, i < n → P i v → J i m₁ news₁ → (∀ p ∈ news₁, p.1 ≠ I) → (∀ p ∈ src, p ∈ news₁) → Fr h₀ env.locals h (fun y => if y = x then some v else m₁ y) → News h₀ env.locals h ((I, oI) :: news₁) →
      wpAny (model prog w) A (execs body env) (TurnEnd h₀ env.locals I oI src (J (i + 1)) { s with heap := h, toks := tk } Q) E { s with heap := h, toks := tk })
    (done : ∀ m₁ news₁ h tk, J n m₁ news₁ → (∀ p ∈ src, p ∈ news₁) → Fr h₀ env.locals h m₁ → News h₀ env.locals h news₁ → Q .next { s with heap := h, toks := tk }) :
    LoopAtV prog w A h₀ env x body Q E (.ref I) s := by
  have hIf : I ∈ fp := W.sub I (List.mem_singleton.mpr rfl)
  refine ⟨I, fp, [I], n, P, St, m₀, news, (fun i m nx => J i m nx ∧ ∀ p ∈ src, p ∈ nx), rfl, W, hL, ?_, ?_, hst, F, N, ⟨hj, hsrc⟩, ?_, ?_⟩
  · intro b hb; rw [List.mem_singleton.mp hb]; exact hI
  · intro p hp hm; exact hnw p hp (List.mem_singleton.mp hm)
  · rintro i v m₁ news₁ s₁ own ⟨h, tk, rfl⟩ hi hP ⟨hJ, hsr⟩ hoff hown hget hall hst₁ F₁ N₁
    obtain ⟨oI, hoI⟩ := hIo _ _ hst₁
    have hoff' : ∀ p ∈ news₁, p.1 ≠ I := fun p hp e => hoff p hp (List.mem_singleton.mpr e)
    have N₂ : News h₀ env.locals h ((I, oI) :: news₁) := by
      intro p hp
      rcases List.mem_cons.mp hp with rfl | hp
      · exact N₁ _ (List.mem_append_left _ (hall I hIf hI oI hoI))
      · exact N₁ p (List.mem_append_right _ hp)
    refine wpAny_mono (turn i v m₁ news₁ h tk oI hi hP hJ hoff' hsr F₁ N₂) (fun f s₂ p => ?_) fun _ _ e => e
    have fin : (∃ h' tk' m' news', s₂ = { s with heap := h', toks := tk' } ∧ Fr h₀ env.locals h' m' ∧ News h₀ env.locals h' ((I, oI) :: news') ∧ (∀ p ∈ news', p.1 ≠ I) ∧ (∀ p ∈ src, p ∈ news') ∧ J (i + 1) m' news') →
        LoopStepU h₀ env.locals [I] own (fun m nx => J (i + 1) m nx ∧ ∀ p ∈ src, p ∈ nx) { s with heap := h, toks := tk } .next s₂ := by
      rintro ⟨h', tk', m', news', rfl, F', N', ho, hs', hJ'⟩
      refine ⟨rfl, h', tk', m', news', rfl, F', fun p hp => ?_, fun p hp hm => ho p hp (List.mem_singleton.mp hm), hJ', hs'⟩
      rcases List.mem_append.mp hp with hp | hp
      · have hg := hget p hp
        have h2 := (N₁ p (List.mem_append_left _ hp)).2
        refine ⟨?_, h2⟩
        rcases hfp p.1 (hown p hp) with e | ⟨o, e⟩ | ⟨o, e⟩
        · have : p.2 = oI := by rw [e] at hg; exact Option.some.inj (hg.symm.trans hoI)
          rw [this, e]; exact (N' _ List.mem_cons_self).1
        · rw [h2.2] at e; cases e
        · have h3 := (N' _ (List.mem_cons_of_mem _ (hs' _ e))).1
          have h4 := (N₁ _ (List.mem_append_right _ (hsr _ e))).1
          have : p.2 = o := Option.some.inj (hg.symm.trans h4)
          rw [this]; exact h3
      · exact N' p (List.mem_cons_of_mem _ hp)
    cases f with
    | ret v => exact .ret p
    | brk => exact .brk p
    | next => exact .next (fin p)
    | cont => exact .cont (fin p)
  · rintro h' tk m' news' F' N' _ ⟨hJ, hs'⟩
    exact done m' news' h' tk hJ hs' F' N'

theorem not_led {h : Heap} {L : Addr} {news : List (Addr × Obj)} (N : News h₀ L h news) : ∀ p ∈ news, p.1 ≠ h.objs.size := fun p hp => Nat.ne_of_lt (Heap.lt_size (N p hp).1)
theorem not_loc {h : Heap} {L : Addr} {m : Str → Option Value} (F : Fr h₀ L h m) : L ≠ h.objs.size := Nat.ne_of_lt F.ns.lt

/-- a loop over a text's signs -/
theorem iter_str {X : Str} {t : Tok} {m₀ : Str → Option Value} {news : List (Addr × Obj)} (J : Nat → (Str → Option Value) → List (Addr × Obj) → Prop) (hh : A.handled = none)
    (F : Fr h₀ env.locals s.heap m₀) (N : News h₀ env.locals s.heap news) (hj : J 0 m₀ news)
    (turn : ∀ i c u m₁ news₁ h tk I oI, X.cps.toList[i]? = some c → J i m₁ news₁ → (∀ p ∈ news₁, p.1 ≠ I) → Fr h₀ env.locals h (fun y => if y = x then some (.str ⟨#[c]⟩ u) else m₁ y) → News h₀ env.locals h ((I, oI) :: news₁) →
      wpAny (model prog w) A (execs body env) (TurnEnd h₀ env.locals I oI [] (J (i + 1)) { s with heap := h, toks := tk } Q) E { s with heap := h, toks := tk })
    (done : ∀ m₁ news₁ h tk, J X.cps.toList.length m₁ news₁ → Fr h₀ env.locals h m₁ → News h₀ env.locals h news₁ → Q .next { s with heap := h, toks := tk }) :
    wpAny (model prog w) A (pyIter (.str X t)) (fun it s₂ => LoopAtV prog w A h₀ env x body Q E it s₂) E s := by
  cases ha : X.cps.all (· < 128)
  · refine wpAny_pyIter_wide ha ?_
    refine loopAt [] J (Walks.strWide hh s.heap.objs.size X t) (fun b hb => .inl (List.mem_singleton.mp hb)) (fun hm => not_loc F (List.mem_singleton.mp hm)) (next_is_new F) (not_led N) ⟨_, Heap.get?_push_size _ rfl, rfl, rfl⟩
      (F.push _) (N.grown fun _ _ e => Heap.get?_push_of_some _ e) (fun _ h => nomatch h) (fun i h st => ⟨_, st.choose_spec.1⟩) hj ?_ ?_
    · rintro i v m₁ news₁ h tk oI hi ⟨c, u, hc, rfl⟩ hJ ho _ F₁ N₁
      exact turn i c u m₁ news₁ h tk _ oI (by simpa using hc) hJ ho F₁ N₁
    · intro m₁ news₁ h tk hJ _ F₁ N₁
      exact done m₁ news₁ h tk (by simpa using hJ) F₁ N₁
  · refine wpAny_pyIter_ascii ha ?_
    refine loopAt [] J (Walks.strAscii hh s.heap.objs.size X t) (fun b hb => .inl (List.mem_singleton.mp hb)) (fun hm => not_loc F (List.mem_singleton.mp hm)) (next_is_new F) (not_led N) ⟨_, Heap.get?_push_size _ rfl, rfl, rfl⟩
      (F.push _) (N.grown fun _ _ e => Heap.get?_push_of_some _ e) (fun _ h => nomatch h) (fun i h st => ⟨_, st.choose_spec.1⟩) hj ?_ ?_
    · rintro i v m₁ news₁ h tk oI hi ⟨c, u, hc, rfl⟩ hJ ho _ F₁ N₁
      exact turn i c u m₁ news₁ h tk _ oI (by simpa using hc) hJ ho F₁ N₁
    · intro m₁ news₁ h tk hJ _ F₁ N₁
      exact done m₁ news₁ h tk (by simpa using hJ) F₁ N₁

/-- a loop over a list: of the base, or of the ledger (then it stands in src) -/
theorem iter_list {l : Addr} {vs : List Value} {m₀ : Str → Option Value} {news : List (Addr × Obj)} (src : List (Addr × Obj)) (J : Nat → (Str → Option Value) → List (Addr × Obj) → Prop) (hh : A.handled = none)
    (hl : s.heap.IsList l vs.toArray) (hb : (∃ o, h₀.get? l = some o) ∨ ∃ o, (l, o) ∈ src) (hsrc : ∀ p ∈ src, p ∈ news)
    (F : Fr h₀ env.locals s.heap m₀) (N : News h₀ env.locals s.heap news) (hj : J 0 m₀ news)
    (turn : ∀ i v m₁ news₁ h tk I oI, vs[i]? = some v → J i m₁ news₁ → (∀ p ∈ news₁, p.1 ≠ I) → (∀ p ∈ src, p ∈ news₁) → Fr h₀ env.locals h (fun y => if y = x then some v else m₁ y) → News h₀ env.locals h ((I, oI) :: news₁) →
      wpAny (model prog w) A (execs body env) (TurnEnd h₀ env.locals I oI src (J (i + 1)) { s with heap := h, toks := tk } Q) E { s with heap := h, toks := tk })
    (done : ∀ m₁ news₁ h tk, J vs.length m₁ news₁ → (∀ p ∈ src, p ∈ news₁) → Fr h₀ env.locals h m₁ → News h₀ env.locals h news₁ → Q .next { s with heap := h, toks := tk }) :
    wpAny (model prog w) A (pyIter (.ref l)) (fun it s₂ => LoopAtV prog w A h₀ env x body Q E it s₂) E s := by
  refine wpAny_pyIter_list hl ?_
  obtain ⟨ol, hol, hol'⟩ := id hl
  have hlt : l ≠ s.heap.objs.size := Nat.ne_of_lt (Heap.lt_size hol)
  have hLl : env.locals ≠ l := by
    rcases hb with ⟨o, e⟩ | ⟨o, e⟩
    · rintro rfl
      exact Nat.lt_irrefl _ (Nat.lt_of_lt_of_le (Heap.lt_size e) F.above)
    · exact fun e' => (N _ (hsrc _ e)).2.1 e'.symm
  refine loopAt src J (Walks.list hh s.heap.objs.size l hlt vs.toArray) (fun b hb' => ?_) (fun hm => ?_) (next_is_new F) (not_led N) ⟨⟨_, Heap.get?_push_size _ rfl, rfl, rfl⟩, ⟨ol, Heap.get?_push_of_some _ hol, hol'⟩⟩
      (F.push _) (N.grown fun _ _ e => Heap.get?_push_of_some _ e) hsrc (fun i h st => ⟨_, st.1.choose_spec.1⟩) hj ?_ ?_
  · rcases List.mem_cons.mp hb' with e | e
    · exact .inl e
    · rw [List.mem_singleton.mp e]; exact .inr hb
  · rcases List.mem_cons.mp hm with e | e
    · exact not_loc F e
    · exact hLl (List.mem_singleton.mp e)
  · intro i v m₁ news₁ h tk oI hi hP hJ ho hs F₁ N₁
    exact turn i v m₁ news₁ h tk _ oI (by simpa using hP) hJ ho hs F₁ N₁
  · intro m₁ news₁ h tk hJ hs F₁ N₁
    exact done m₁ news₁ h tk (by simpa using hJ) hs F₁ N₁

/-- a loop over range(n) -/
theorem iter_range {r : Addr} {t u v : Tok} {n : Nat} {m₀ : Str → Option Value} {news : List (Addr × Obj)} (J : Nat → (Str → Option Value) → List (Addr × Obj) → Prop) (hh : A.handled = none)
    (hr : IsRange s.heap r 0 (n : Int) 1 t u v) (hn : n ≤ sizeLine)
    (F : Fr h₀ env.locals s.heap m₀) (N : News h₀ env.locals s.heap news) (hj : J 0 m₀ news)
    (turn : ∀ i ti m₁ news₁ h tk I oI, i < n → J i m₁ news₁ → (∀ p ∈ news₁, p.1 ≠ I) → Fr h₀ env.locals h (fun y => if y = x then some (.int (i : Int) ti) else m₁ y) → News h₀ env.locals h ((I, oI) :: news₁) →
      wpAny (model prog w) A (execs body env) (TurnEnd h₀ env.locals I oI [] (J (i + 1)) { s with heap := h, toks := tk } Q) E { s with heap := h, toks := tk })
    (done : ∀ m₁ news₁ h tk, J n m₁ news₁ → Fr h₀ env.locals h m₁ → News h₀ env.locals h news₁ → Q .next { s with heap := h, toks := tk }) :
    wpAny (model prog w) A (pyIter (.ref r)) (fun it s₂ => LoopAtV prog w A h₀ env x body Q E it s₂) E s := by
  have hz : (sizeLine : Nat) = 16777216 := rfl
  have hsz : Builtin.Range.rangeSize 0 (n : Int) 1 = ((n : Nat) : Int) := by
    unfold Builtin.Range.rangeSize
    simp; omega
  have hsm : Builtin.Range.small 0 (n : Int) 1 = true := by
    unfold Builtin.Range.small
    rw [hsz]
    have h1 : ∀ i : Int, 0 ≤ i → i ≤ 16777217 → Builtin.Range.rangeFitsLong i = true := by
      intro i a b; unfold Builtin.Range.rangeFitsLong; simp; omega
    rw [if_pos (by decide), h1 0 (by omega) (by omega), h1 n (by omega) (by omega), h1 1 (by omega) (by omega), h1 (n + (1 - 1)) (by omega) (by omega)]
    simp
  refine wpAny_pyIter_range hr hsm ?_
  refine loopAt [] J (LCg.range_walks (I := s.heap.objs.size) hh 0 n) (fun b hb => .inl (List.mem_singleton.mp hb)) (fun hm => not_loc F (List.mem_singleton.mp hm)) (next_is_new F) (not_led N)
    (by show IsRangeIter _ _ _ _ _; rw [hsz]; simpa using Heap.get?_push_size _ rfl)
    (F.push _) (N.grown fun _ _ e => Heap.get?_push_of_some _ e) (fun _ h => nomatch h) (fun i h st => ⟨_, st⟩) hj ?_ ?_
  · rintro i v m₁ news₁ h tk oI hi ⟨t, rfl⟩ hJ ho _ F₁ N₁
    rw [Int.zero_add] at F₁
    exact turn i t m₁ news₁ h tk _ oI hi hJ ho F₁ N₁
  · intro m₁ news₁ h tk hJ _ F₁ N₁
    exact done m₁ news₁ h tk hJ F₁ N₁
end
end Mine
end
section
open PySem PySem.W PyProof.Rows PySem.Calls
set_option maxRecDepth 100000
namespace Mine
theorem look_cons (y a : Str) (v : Value) (l : List (Str × Value)) : ((a, v) :: l).lookup y = if y = a then some v else l.lookup y := by
  rw [List.lookup_cons]
  by_cases h : y = a
  · subst h; simp
  · have : (y == a) = false := by simpa using h
    rw [this, if_neg h]
theorem lk1 (a : Str) (v : Value) : (fun y => ([(a, v)] : List (Str × Value)).reverse.lookup y) = fun y => if y = a then some v else none := by
  funext y; simp only [List.reverse_cons, List.reverse_nil, List.nil_append, look_cons, List.lookup_nil]
theorem lk2 (a b : Str) (v u : Value) : (fun y => ([(a, v), (b, u)] : List (Str × Value)).reverse.lookup y) = fun y => if y = b then some u else if y = a then some v else none := by
  funext y; simp only [List.reverse_cons, List.reverse_nil, List.nil_append, List.cons_append, look_cons, List.lookup_nil]
theorem lk3 (a b c : Str) (v u z : Value) : (fun y => ([(a, v), (b, u), (c, z)] : List (Str × Value)).reverse.lookup y) = fun y => if y = c then some z else if y = b then some u else if y = a then some v else none := by
  funext y; simp only [List.reverse_cons, List.reverse_nil, List.nil_append, List.cons_append, look_cons, List.lookup_nil]

theorem enterM {w : World} {A : Around} {E : Value → Shared → Prop} {s : Shared} {Q : Value → Shared → Prop} {K : Frag} {p : Program} {loose : List Str} {mg mb : Str → Option Value}
    {name qual : Str} {params : Arguments} {body : List Stmt} {scope : Scope} {dV kV doc pm cdv ct oc : Value} {an od : Option Addr} {osl : Array (Option Value)} {f : Addr} {args : List Value} (binds : List (Str × Value)) (m : Str → Option Value)
    (X : K.In s.heap) (T : TopRead p loose mg mb s.heap)
    (ho : K.lookup f = some ⟨oc, od, .func (fnOf name qual params body scope dV kV doc pm an cdv ct), osl⟩) (hcd : codeIn K cdv qual = true) (hroom : A.depth < recursionLimit)
    (hbind : BindsTo s (fnOf name qual params body scope dV kV doc pm an cdv ct) ⟨args, []⟩ binds) (hloc : ∀ y ∈ binds, scope.names.lookup y.1 = some .local) (hm : (fun y => binds.reverse.lookup y) = m)
    (h : ∀ L h₁, Fr s.heap L h₁ m → News s.heap L h₁ [] → s.heap.get? L = none →
      wpAny (model pr w) (A.deeper (envOf qual scope L f cdv)) (execs body (envOf qual scope L f cdv))
        (fun fl s' => Q (match fl with | .ret v => v | _ => .none) s') (fun _ _ => False)
        { s with heap := h₁, toks := s.toks + binds.length })
    (hcell : ∀ x ∈ scope.names, x.2 ≠ .cell) (hco : scope.isCoroutine = false) (hgen : scope.isGenerator = false) (hk : scope.kind = .function) :
    wpAny (model pr w) A (call (.ref f) args) Q E s := by
  subst hm
  exact enter X T ho hcd hroom hbind hloc h hcell hco hgen hk
theorem Env.mk' {P : Params} {h h' : Heap} {p : Program} {loose : List Str} {mg mb : Str → Option Value} (X : (hd.heap_39 P).In h) (T : TopRead p loose mg mb h) (k : Keep h h') : Env P h' :=
  Env.keeps ⟨X, p, loose, mg, mb, T⟩ k
theorem Fr.after' {h₀ h h' : Heap} {L : Addr} {m : Str → Option Value} (F : Fr h₀ L h m) (k : Keep h h') : Fr h₀ L h' m := F.keeps k
theorem News.after' {h₀ h h' : Heap} {L : Addr} {news : List (Addr × Obj)} (N : News h₀ L h news) (k : Keep h h') : News h₀ L h' news := N.grown k
theorem room1 {A : Around} {e : PySem.Env} {k : Nat} (h : A.depth + (k + 1) < recursionLimit) : (A.deeper e).depth + k < recursionLimit := by
  have : (A.deeper e).depth = A.depth + 1 := rfl
  omega
theorem room0 {A : Around} {k : Nat} (h : A.depth + k < recursionLimit) : A.depth < recursionLimit := by omega
theorem guarded_call {w : World} {A : Around} {E : Value → Shared → Prop} {s : Shared} {Q : Value → Shared → Prop} {c : Nat} {t : Tok} {base : Heap} {L : Addr} {m : Str → Option Value} {news : List (Addr × Obj)} {p : Program} {loose : List Str} {mg mb : Str → Option Value}
    (F : Fr base L s.heap m) (N : News base L s.heap news) (hroom : A.depth < recursionLimit) (X : (hd.heap_39 w.params).In base) (T : TopRead p loose mg mb base)
    (h : ∀ h' tk t', Keep s.heap h' → Fr base L h' m → News base L h' news → Q (.int (gd c : Nat) t') { s with heap := h', toks := tk }) :
    wpAny (model pr w) A (call (.ref 68) [.str ⟨#[c]⟩ t]) Q E s :=
  guarded_spec c t hroom (Env.mk' X T F.keep) fun h' tk t' k => h h' tk t' k (Fr.after' F k) (News.after' N k)
end Mine
end
section
open PySem PySem.W PyProof.Rows PySem.Calls
set_option maxRecDepth 100000
namespace Mine
theorem wordsB7 : True := by
  k_with_none
  k_with "map_eq" => (funext y; (try dsimp only); repeat (first | rfl | (split; (· (first | contradiction | (rename_i hy; subst hy; rfl))))))
  k_with "call ref" => ((with_reducible show wpAny _ _ (call (Value.ref 68) [Value.str _ _]) _ _ _); refine guarded_call (by assumption) (by assumption) (by first | exact room0 (by assumption) | exact room0 (room1 (by assumption))) (by assumption) (by assumption) ?_; intro _ _ _ _ _ _)
  trivial
/-- the scan of _law_weights: the weights told so far, the marks ahead -/
def wst (l : List Nat) : List Nat × Nat := l.foldl (fun s c => if c = 92 then (s.1, s.2 + 1) else (s.1 ++ [s.2 + gd c], 0)) ([], 0)
def weightsL (l : List Nat) : List Nat := (wst l).1 ++ [(wst l).2]
def intsL (l : List Nat) : List Int := l.map fun (n : Nat) => (n : Int)
theorem intsL_append (a b : List Nat) : intsL (a ++ b) = intsL a ++ intsL b := by simp [intsL]
theorem wst_snoc (l : List Nat) (c : Nat) : wst (l ++ [c]) = if c = 92 then ((wst l).1, (wst l).2 + 1) else ((wst l).1 ++ [(wst l).2 + gd c], 0) := by
  simp [wst, List.foldl_append]
theorem wst_len (l : List Nat) : (wst l).1.length ≤ l.length := by
  have key : ∀ (l : List Nat) (s : List Nat × Nat), (l.foldl (fun (s : List Nat × Nat) c => if c = 92 then (s.1, s.2 + 1) else (s.1 ++ [s.2 + gd c], 0)) s).1.length ≤ s.1.length + l.length := by
    intro l
    induction l with
    | nil => intro s; exact Nat.le_refl _
    | cons c l ih =>
      intro s
      rw [List.foldl_cons]
      refine Nat.le_trans (ih _) ?_
      split <;> simp <;> omega
  have := key l ([], 0)
  simpa [wst] using this
theorem take_next {x : List Nat} {i c : Nat} (h : x[i]? = some c) : x.take (i + 1) = x.take i ++ [c] := by
  rw [List.take_add_one, h]; rfl
def WJ (D : Addr) (x : List Nat) (tv : Value) (i : Nat) (m : Str → Option Value) (news : List (Addr × Obj)) : Prop :=
  ∃ sg ta vs, m = (fun y => if y = Str.ofString "sign" then sg else if y = Str.ofString "ahead" then some (.int ((wst (x.take i)).2 : Nat) ta) else if y = Str.ofString "weights" then some (.ref D) else if y = Str.ofString "text" then some tv else none) ∧
    news = [(D, LCg.lst vs)] ∧ IntsAre vs (intsL (wst (x.take i)).1)
theorem bs_one (c : Nat) : ((⟨#[c]⟩ : Str) == Str.ofString "\\") = decide (c = 92) := by
  have e : Str.ofString "\\" = ⟨#[92]⟩ := by decide +kernel
  rw [e]
  by_cases h : c = 92
  · subst h; simp
  · simp [h]
set_option maxHeartbeats 4000000 in
theorem weights_spec {w : World} {A : Around} {E : Value → Shared → Prop} {s : Shared} {Q : Value → Shared → Prop} (x : List Nat) (t : Tok) (hroom : A.depth + 10 < recursionLimit) (hh : A.handled = none)
    (hE : Env w.params s.heap) (hlen : x.length ≤ 100000) (hQ : ∀ h' tk D vs n, Keep s.heap h' → s.heap.get? D = none → h'.get? D = some (W.listOf vs.toArray n) → IntsAre vs (intsL (weightsL x)) → Q (.ref D) { s with heap := h', toks := tk }) :
    wpAny (model pr w) A (call (.ref 80) [.str (tx x) t]) Q E s := by
  obtain ⟨KX, p, loose, mg, mb, T⟩ := hE
  refine' enterM [(Str.ofString "text", .str (tx x) t)] _ KX T ?k1 ?k2 (room0 hroom) ?k3 ?k4 (lk1 _ _) ?_ ?k6 ?k7 ?k8 ?k9
  case k1 => k_is
  case k2 => k_is
  case k3 => exact BindsTo.of_eq rfl
  case k4 => exact locs rfl
  case k6 => decide
  case k7 => rfl
  case k8 => rfl
  case k9 => rfl
  intro L h₁ F N hL
  k_steps
  refine For_invVF (by assumption) rfl rfl ?_
  walk1
  rename_i D _ _ _ _ F' N'
  have hxl : (tx x).cps.toList = x := rfl
  refine iter_str (WJ D x (.str (tx x) t)) hh (by assumption) (by assumption) ?_ ?_ ?_
  · refine' ⟨none, _, [], ?e, rfl, .nil⟩
    case e => walk_at "map_eq"
  · rintro i c u m₁ news₁ h tk I oI hi ⟨sg, ta, vs, rfl, rfl, hvs⟩ hoff F₁ N₁
    rw [hxl] at hi
    have hDI : @Ne Nat D I := hoff _ List.mem_cons_self
    have hvl : vs.length ≤ sizeLine := by
      have h1 := hvs.length
      have h2 := wst_len (x.take i)
      have h3 : (x.take i).length ≤ x.length := List.length_take_le' _ _
      have h4 : (sizeLine : Nat) = 16777216 := rfl
      simp only [intsL, List.length_map] at h1
      omega
    have hoff' : ∀ (vs' : List Value), ∀ p ∈ [(D, LCg.lst vs')], p.1 ≠ I := fun vs' p hp => by rw [List.mem_singleton.mp hp]; exact hDI
    k_steps
    · rename_i F₂ N₂
      rename (_ = true) => hc
      rw [bs_one] at hc
      have hc' : c = 92 := by simpa using hc
      have e := wst_snoc (x.take i) c
      rw [← take_next hi, if_pos hc'] at e
      refine' ⟨_, _, _, [(D, LCg.lst vs)], rfl, F₂, N₂, hoff' vs, (fun _ h => nomatch h), _, _, vs, ?e1, rfl, ?f1⟩
      case e1 => rw [e]; walk_at "map_eq"
      case f1 => rw [e]; exact hvs
    · rename_i F₂ N₂
      rename (_ = false) => hc
      rw [bs_one] at hc
      have hc' : c ≠ 92 := by simpa using hc
      have e := wst_snoc (x.take i) c
      rw [← take_next hi, if_neg hc'] at e
      refine' ⟨_, _, _, [(D, LCg.lst (vs ++ [_]))], rfl, F₂, ?n2, hoff' _, (fun _ h => nomatch h), _, _, _, ?e2, rfl, ?f2⟩
      case n2 => rw [← LCg.lst_snoc]; exact N₂
      case e2 => rw [e]; walk_at "map_eq"
      case f2 => rw [e]; dsimp only; rw [intsL_append]; exact hvs.append (.cons _ _ .nil)
  · rintro m₁ news₁ h tk ⟨sg, ta, vs, rfl, rfl, hvs⟩ F₁ N₁
    rw [hxl, List.take_length] at hvs F₁
    k_steps
    have hvl : vs.length ≤ 100000 := by
      have h1 := hvs.length
      have h2 := wst_len x
      simp only [intsL, List.length_map] at h1
      omega
    refine add_arrays_ints (its := vs.toArray) (by assumption) (by assumption) (by is_list) (by is_list) hvs (IntsAre.cons _ _ .nil) ?_ (by have h1 := hvs.length; have h4 : (sizeLine : Nat) = 16777216 := rfl; simp only [List.length_cons, List.length_nil]; omega)
    intro h' F' N' hi'
    k_steps
    refine hQ h' _ _ _ 0 F'.keep (N' _ List.mem_cons_self).2.2 (N' _ List.mem_cons_self).1 ?_
    unfold weightsL
    rw [intsL_append]
    exact hi'
end Mine
theorem Mine.offB7 : True := by
  k_with_none
  trivial
end
section
open PySem PySem.W PyProof.Rows PySem.Calls
set_option maxRecDepth 100000
namespace Mine
theorem tx_len (l : List Nat) : (tx l).length = l.length := rfl
theorem tx_cat (a b : List Nat) : tx a ++ tx b = tx (a ++ b) := by
  show (⟨a.toArray ++ b.toArray⟩ : Str) = ⟨(a ++ b).toArray⟩
  simp
theorem tx_inj {a b : List Nat} (h : tx a = tx b) : a = b := by
  have := congrArg (fun s : Str => s.cps.toList) h
  simpa [tx] using this
theorem tx_beq (a b : List Nat) : (tx a == tx b) = decide (a = b) := by
  by_cases h : a = b
  · subst h; simp
  · have : tx a ≠ tx b := fun e => h (tx_inj e)
    rw [decide_eq_false h]; simpa using this
theorem tx_get (l : List Nat) : (tx l).cps.toList = l := rfl
def Hold (P : Prop) : Prop := P
theorem Hold.out {P : Prop} (h : Hold P) : P := h
theorem Hold.mk {P : Prop} (h : P) : Hold P := h

theorem ite_l {α : Type} {c : Prop} [Decidable c] {a b R : α} (h1 : c → a = R) (h2 : ¬ c → b = R) : (if c then a else b) = R := by
  by_cases h : c
  · rw [if_pos h]; exact h1 h
  · rw [if_neg h]; exact h2 h
theorem ite_r {α : Type} {c : Prop} [Decidable c] {a b R : α} (h1 : c → R = a) (h2 : ¬ c → R = b) : R = (if c then a else b) := by
  by_cases h : c
  · rw [if_pos h]; exact h1 h
  · rw [if_neg h]; exact h2 h

section
variable {prog : Program} {w : World} {A : Around} {E : Value → Shared → Prop} {s : Shared}
theorem len_tx {l : List Nat} {t : Tok} {Q : Value → Shared → Prop} (hl : l.length ≤ 100000000) (h : Q (.int (l.length : Nat) (s.toks + 1)) { s with toks := s.toks + 1 + 1 }) : wpAny (model prog w) A (call (.builtin "len") [.str (tx l) t]) Q E s :=
  PyProof.Rows.len_str (by rw [tx_len]; omega) h
theorem add_tx {a b : List Nat} {t u : Tok} {Q : Value → Shared → Prop} (h : ∀ t' tk, Q (.str (tx (a ++ b)) t') { s with toks := tk }) (hsz : a.length + b.length ≤ 16000000) : wpAny (model prog w) A (binaryOp .Add (.str (tx a) t) (.str (tx b) u)) Q E s :=
  PyProof.Rows.add_str (fun t' tk => by rw [tx_cat]; exact h t' tk) (by rw [tx_len, tx_len]; have h4 : (sizeLine : Nat) = 16777216 := rfl; omega)
theorem fold_rep (a : Array Nat) : ∀ (l : List (Array Nat)) (acc : Array Nat), (l.foldl (· ++ ·) acc).toList = acc.toList ++ l.flatMap (·.toList)
  | [], acc => by simp
  | x :: l, acc => by rw [List.foldl_cons, fold_rep a l]; simp
theorem mul_tx {a : List Nat} {z : Int} {t u : Tok} {Q : Value → Shared → Prop} (h : ∀ t' tk, Q (.str (tx (List.replicate z.toNat a).flatten) t') { s with toks := tk }) (ha : a.length ≤ 1000) (hz : z ≤ 10000) (hz' : -100000 ≤ z) :
    wpAny (model prog w) A (binaryOp .Mult (.str (tx a) t) (.int z u)) Q E s := by
  refine SB.mul (mulOk_of 1000 10000 ha hz (by omega) (by decide) (by decide)) fun t' k => ?_
  have e : Txt.mul (tx a) z = tx (List.replicate z.toNat a).flatten := by
    unfold Txt.mul
    split
    · have : z.toNat = 0 := by omega
      rw [this]; rfl
    · split
      · rename_i h1 h2
        rcases Bool.or_eq_true_iff.mp h2 with h3 | h3
        · have : z.toNat = 1 := by have := beq_iff_eq.mp h3; omega
          rw [this]; simp
        · have h4 : a.length = 0 := by simpa [tx_len] using h3
          have h5 : a = [] := List.eq_nil_of_length_eq_zero h4
          rw [h5]; simp
      · show (⟨_⟩ : Str) = ⟨_⟩
        congr 1
        apply Array.toList_inj.mp
        rw [fold_rep #[]]
        simp [tx, List.flatMap_replicate]
  rw [e]; exact h t' k
theorem flat_one (n c : Nat) : (List.replicate n [c]).flatten = List.replicate n c := by
  induction n with
  | zero => rfl
  | succ n ih => rw [List.replicate_succ, List.flatten_cons, ih]; rfl

theorem lit_bs : Str.ofString "\\" = tx [92] := by decide +kernel
theorem mul_bs {a b : Nat} {t u : Tok} {Q : Value → Shared → Prop} (h : ∀ t' tk, Q (.str (tx (List.replicate (a - b) 92)) t') { s with toks := tk }) (ha : a ≤ 1000) (hb : b ≤ 1000) :
    wpAny (model prog w) A (binaryOp .Mult (.str (Str.ofString "\\") t) (.int ((a : Nat) - (b : Nat)) u)) Q E s := by
  rw [lit_bs]
  refine mul_tx (fun t' tk => ?_) (by decide) (by omega) (by omega)
  rw [flat_one, Int.toNat_sub]; exact h t' tk
theorem mul_bs1 {a : Nat} {t u : Tok} {Q : Value → Shared → Prop} (h : ∀ t' tk, Q (.str (tx (List.replicate a 92)) t') { s with toks := tk }) (ha : a ≤ 1000) :
    wpAny (model prog w) A (binaryOp .Mult (.str (Str.ofString "\\") t) (.int (a : Nat) u)) Q E s := by
  rw [lit_bs]
  refine mul_tx (fun t' tk => ?_) (by decide) (by omega) (by omega)
  rw [flat_one, Int.toNat_natCast]; exact h t' tk
theorem gd_le (c : Nat) : gd c ≤ 1 := by unfold gd; split <;> omega
theorem getD_le {ws : List Nat} {b : Nat} (h : ∀ k ∈ ws, k ≤ b) (i : Nat) : ws.getD i 0 ≤ b := by
  rw [List.getD_eq_getElem?_getD]
  cases e : ws[i]? with
  | none => exact Nat.zero_le _
  | some k => exact h k (List.mem_of_getElem? e)
theorem item_tx {value slice : Expr} {l : List Nat} {i : Nat} {t u : Tok} {Q : Value → Shared → Prop} (hi : i < l.length) (hb : l.length ≤ 100000000) (h : ∀ t' tk, Q (.str ⟨#[l.getD i 0]⟩ t') { s with toks := tk })
    (hs : subscripted slice false (.str (tx l) t) (.int i u) = operate [.str (tx l) t, .int i u] (getItem (.str (tx l) t) (.int i u)) := by with_unfolding_all rfl)
    (ht : ∀ r, letTemporaryGo value (.str (tx l) t) r = pure () := by intro _; with_unfolding_all rfl) :
    wpAny (model prog w) A (subscriptTail value slice (.str (tx l) t) (.int (i : Nat) u)) Q E s := by
  refine PyProof.Rows.item_str (fitsSsize_of (N := 9223372036854775808) (by omega) (by omega) (Int.le_refl _)) (by rw [tx_len]; omega) (by rw [tx_len]; omega) ?_ hs ht
  intro _
  have e : Txt.item (tx l) (i : Int) = ⟨#[l.getD i 0]⟩ := by
    have e1 : seqIndex? (i : Int) (tx l).length = some i := by
      unfold seqIndex?
      rw [tx_len]
      simp; omega
    have e2 : (tx l).cps[i]? = some (l.getD i 0) := by
      simp [tx, List.getD, hi]
    unfold Txt.item Txt.charAt
    rw [e1, Option.bind_some, e2]
    rfl
  rw [e]; exact h _ _
theorem item_nat {value slice : Expr} {l : Addr} {vs : List Value} {ws : List Nat} {i : Nat} {u : Tok} {Q : Value → Shared → Prop} (hl : s.heap.IsList l vs.toArray) (hv : IntsAre vs (intsL ws)) (hi : i < ws.length) (hb : ws.length ≤ 100000000)
    (h : ∀ t, Q (.int (ws.getD i 0 : Nat) t) s)
    (hs : subscripted slice false (.ref l) (.int i u) = operate [.ref l, .int i u] (getItem (.ref l) (.int i u)) := by with_unfolding_all rfl) (hg : ∀ r, letTemporaryGo value (.ref l) r = pure () := by intro _; with_unfolding_all rfl) :
    wpAny (model prog w) A (subscriptTail value slice (.ref l) (.int (i : Nat) u)) Q E s := by
  refine item_list_ints hl hv (by omega) (by simp [intsL]; omega) (by omega) (fun t => ?_) hs hg
  have e : (intsL ws).getD (i : Int).toNat 0 = (ws.getD i 0 : Nat) := by
    simp [intsL, List.getD]
    cases ws[i]? <;> rfl
  rw [e]; exact h t
theorem item_nat_last {value slice : Expr} {l : Addr} {vs : List Value} {ws : List Nat} {n : Nat} {u : Tok} {Q : Value → Shared → Prop} (hl : s.heap.IsList l vs.toArray) (hv : IntsAre vs (intsL ws)) (hi : ws.length = n + 1) (hb : ws.length ≤ 100000000)
    (h : ∀ t, Q (.int (ws.getD n 0 : Nat) t) s)
    (hs : subscripted slice false (.ref l) (.int (-1) u) = operate [.ref l, .int (-1) u] (getItem (.ref l) (.int (-1) u)) := by with_unfolding_all rfl) (hg : ∀ r, letTemporaryGo value (.ref l) r = pure () := by intro _; with_unfolding_all rfl) :
    wpAny (model prog w) A (subscriptTail value slice (.ref l) (.int (-1) u)) Q E s := by
  refine item_list_ints_neg hl hv (by omega) (by simp [intsL]; omega) (by omega) (fun t => ?_) hs hg
  have e : (intsL ws).getD ((-1 : Int) + ((intsL ws).length : Nat)).toNat 0 = (ws.getD n 0 : Nat) := by
    have e1 : ((-1 : Int) + ((intsL ws).length : Nat)).toNat = n := by simp [intsL]; omega
    rw [e1]
    simp [intsL, List.getD]
    cases ws[n]? <;> rfl
  rw [e]; exact h t
end
end Mine
end
section
open PySem PySem.W PyProof.Rows PySem.Calls
set_option maxRecDepth 100000
namespace Mine
theorem wordsB9 : True := by
  k_with_none
  k_with "subscriptTail Name UnaryOp ref int" => refine Hold.out ?_
  k_with "pyIter ref" => refine Hold.out ?_
  k_with "pyIter str" => refine Hold.out ?_
  k_with "call builtin:len" => ((with_reducible show wpAny _ _ (call (Value.builtin "len") [Value.str _ _]) _ _ _); refine len_tx (by omega) ?_)
  k_with "map_eq" => (funext y; (try dsimp only); repeat (first | rfl | (split; (· (first | contradiction | (rename_i hy; subst hy; rfl))))))
  k_with "call ref" => ((with_reducible show wpAny _ _ (call (Value.ref 68) [Value.str _ _]) _ _ _); refine guarded_call (by assumption) (by assumption) (by first | exact room0 (by assumption) | exact room0 (room1 (by assumption))) (by assumption) (by assumption) ?_; intro _ _ _ _ _ _)
  k_with "subscriptTail Name Name str int" => ((with_reducible show wpAny _ _ (subscriptTail _ _ (Value.str (tx _) _) (Value.int (Nat.cast _) _)) _ _ _); refine item_tx (by omega) (by omega) ?_; intro _ _)
  k_with "subscriptTail Name Name ref int" => ((with_reducible show wpAny _ _ (subscriptTail _ _ (Value.ref _) (Value.int (Nat.cast _) _)) _ _ _); refine item_nat (Fr.lst (by assumption) (by assumption)) (by assumption) (by omega) (by omega) ?_; intro _)
  k_with "binaryOp Mult str int" => (first | (refine mul_bs ?_ (by omega) (by omega); intro _ _) | (refine mul_bs1 ?_ (by omega); intro _ _))
  k_with "binaryOp Add str str" => (refine add_tx ?_ (by simp only [List.length_append, List.length_replicate, List.length_cons, List.length_nil]; omega); intro _ _)
  trivial
def tpart (ws ss : List Nat) (i : Nat) : List Nat := (List.range i).flatMap fun k => List.replicate (ws.getD k 0 - gd (ss.getD k 0)) 92 ++ [ss.getD k 0]
def textL (ws ss : List Nat) : List Nat := tpart ws ss ss.length ++ List.replicate (ws.getD ss.length 0) 92
theorem tpart_succ (ws ss : List Nat) (i : Nat) : tpart ws ss (i + 1) = tpart ws ss i ++ (List.replicate (ws.getD i 0 - gd (ss.getD i 0)) 92 ++ [ss.getD i 0]) := by
  simp [tpart, List.range_succ, List.flatMap_append]
theorem tpart_len (ws ss : List Nat) (hw : ∀ k ∈ ws, k ≤ 1000) (i : Nat) : (tpart ws ss i).length ≤ 1001 * i := by
  induction i with
  | zero => simp [tpart]
  | succ i ih =>
    have := getD_le hw i
    rw [tpart_succ]
    simp only [List.length_append, List.length_replicate, List.length_cons, List.length_nil]
    omega
def TJ (ws ss : List Nat) (wv sv : Value) (i : Nat) (m : Str → Option Value) (news : List (Addr × Obj)) : Prop :=
  ∃ kv tt, m = (fun y => if y = Str.ofString "k" then kv else if y = Str.ofString "text" then some (.str (tx (tpart ws ss i)) tt) else if y = Str.ofString "weights" then some wv else if y = Str.ofString "signs" then some sv else none) ∧ news = []
set_option maxHeartbeats 4000000 in
theorem text_spec {w : World} {A : Around} {E : Value → Shared → Prop} {s : Shared} {Q : Value → Shared → Prop} (W : Addr) (vs : List Value) (ws ss : List Nat) (t : Tok) (hroom : A.depth + 10 < recursionLimit) (hh : A.handled = none)
    (hE : Env w.params s.heap) (hW : s.heap.IsList W vs.toArray) (hv : IntsAre vs (intsL ws)) (hl : ws.length = ss.length + 1) (hlen : ss.length ≤ 100) (hw : ∀ k ∈ ws, k ≤ 1000)
    (hQ : ∀ h' tk t', Keep s.heap h' → Q (.str (tx (textL ws ss)) t') { s with heap := h', toks := tk }) :
    wpAny (model pr w) A (call (.ref 87) [.ref W, .str (tx ss) t]) Q E s := by
  obtain ⟨KX, p, loose, mg, mb, T⟩ := hE
  refine' enterM [(Str.ofString "weights", .ref W), (Str.ofString "signs", .str (tx ss) t)] _ KX T ?k1 ?k2 (room0 hroom) ?k3 ?k4 (lk2 _ _ _ _) ?_ ?k6 ?k7 ?k8 ?k9
  case k1 => k_is
  case k2 => k_is
  case k3 => exact BindsTo.of_eq rfl
  case k4 => exact locs rfl
  case k6 => decide
  case k7 => rfl
  case k8 => rfl
  case k9 => rfl
  intro L h₁ F N hL
  k_steps
  refine Hold.mk ?_
  refine iter_range (n := ss.length) (TJ ws ss (.ref W) (.str (tx ss) t)) hh (by assumption) (by have h4 : (sizeLine : Nat) = 16777216 := rfl; omega) (by assumption) (by assumption) ?_ ?_ ?_
  · refine' ⟨none, _, ?ez, rfl⟩
    case ez => walk_at "map_eq"
  · rintro i ti m₁ news₁ h tk I oI hi ⟨kv, tt, rfl, rfl⟩ hoff F₁ N₁
    have hpl := tpart_len ws ss hw i
    have hwi := getD_le hw i
    have hgi := gd_le (ss.getD i 0)
    k_steps
    rename_i F₂ N₂
    refine' ⟨_, _, _, [], rfl, F₂, N₂, hoff, (fun _ h => nomatch h), _, _, ?e1, rfl⟩
    case e1 => rw [tpart_succ, ← List.append_assoc]; walk_at "map_eq"
  · rintro m₁ news₁ h tk ⟨kv, tt, rfl, rfl⟩ F₁ N₁
    have hpl := tpart_len ws ss hw ss.length
    have hwi := getD_le hw ss.length
    k_steps
    refine Hold.mk ?_
    refine item_nat_last (Fr.lst F₁ hW) hv hl (by omega) ?_
    intro _
    k_steps
    exact hQ _ _ _ F₁.keep
end Mine
theorem Mine.offB9 : True := by
  k_with_none
  trivial
end
section
open PySem PySem.W PyProof.Rows PySem.Calls
set_option maxRecDepth 100000
namespace Mine
theorem enterC {w : World} {A : Around} {E : Value → Shared → Prop} {s : Shared} {Q : Value → Shared → Prop} {K : Frag} {p : Program} {loose : List Str} {mg mb : Str → Option Value}
    {name qual : Str} {params : Arguments} {body : List Stmt} {scope : Scope} {dV kV doc pm cdv ct oc : Value} {an od : Option Addr} {osl : Array (Option Value)} {f : Addr} {args : List Value} (binds : List (Str × Value))
    (X : K.In s.heap) (T : TopRead p loose mg mb s.heap)
    (ho : K.lookup f = some ⟨oc, od, .func (fnOf name qual params body scope dV kV doc pm an cdv ct), osl⟩) (hcd : codeIn K cdv qual = true) (hroom : A.depth < recursionLimit)
    (hbind : BindsTo s (fnOf name qual params body scope dV kV doc pm an cdv ct) ⟨args, []⟩ binds) (hkind : (binds.all fun y => scope.names.lookup y.1 == some .local || scope.names.lookup y.1 == some .cell) = true)
    (hnd : ((cellsFrom 0 scope.names []).map (·.1)).Nodup)
    (h : ∀ L h₁ tk cells, Fr s.heap L h₁ (bindL (envOfC qual scope L f cdv).kindOf binds fun _ => none) → News s.heap L h₁ cells →
      CellsAre (bindC (envOfC qual scope L f cdv).kindOf binds fun _ => none) (cellsFrom (L + 1) scope.names []) cells → s.heap.get? L = none →
      wpAny (model pr w) (A.deeper (envOfC qual scope L f cdv)) (execs body (envOfC qual scope L f cdv))
        (fun fl s' => Q (match fl with | .ret v => v | _ => .none) s') (fun _ _ => False)
        { s with heap := h₁, toks := tk })
    (hco : scope.isCoroutine = false) (hgen : scope.isGenerator = false) (hk : scope.kind = .function) :
    wpAny (model pr w) A (call (.ref f) args) Q E s := by
  refine wpAny_call (codeAny_call_function hroom (X _ _ ho) rfl hco hgen rfl (codeRec_of X hcd) (hbind _ _ _ _ ?_))
  refine wpAny_newFunctionEnv_cells hk (kindsX hkind _) fun env' he s' x => ?_
  subst he
  refine ⟨T.nolimit.keeps x.toInCall.keep, codeAny_func ?_⟩
  obtain ⟨h₁, tk, rfl, _⟩ := x.done
  have hk₁ := x.toInCall.keep
  obtain ⟨cells, NC, Y⟩ := Cl.news (h₀ := s.heap) (Nat.le_refl _) fun n c hm => ⟨x.cell n c (lookup_of_mem_nodup (cellsFrom_names scope.names 0 (s.heap.objs.size + 1) [] [] rfl ▸ hnd) hm), x.above n c hm⟩
  exact wpAny_mono (h s.heap.objs.size h₁ tk cells ⟨x.toInCall.ns, hk₁, Nat.le_refl _⟩ NC Y (Heap.get?_none_of_le (Nat.le_refl _))) (fun fl s' hl => hl) fun _ _ y => y.elim

/-- what a comprehension asks of its tests and elements, and hands on: no object that stands is touched -/
structure CompOk (prog : Program) (w : World) (A : Around) (env : PySem.Env) (scope : Scope) (cl : List (Str × Addr)) (x : Str) (ifs : List Expr) (elt : Expr) (s₁ : Shared) (n : Nat) (P : Nat → Value → Prop) (p : Value → Bool)
    (F : Value → Value → Prop) (fin : Addr → Heap → Nat → List Value → List Value → Prop) : Prop where
  tests : ∀ C i v s₃ m₃ E', s₁.heap.get? C = none → P i v → s₃.heap.Ns C m₃ → m₃ x = some v → Keep s₁.heap s₃.heap →
    wpAny (model prog w) A (forIn ifs true fun c r => if r = true then do let ok ← isTrue c (compEnvC scope cl C env) (eval c (compEnvC scope cl C env)); pure (ForInStep.yield ok) else pure (ForInStep.yield r))
      (fun ok s₄ => ok = p v ∧ Keeps s₃ s₄) E' s₃
  elt : ∀ C i v s₃ m₃ E', s₁.heap.get? C = none → P i v → p v = true → s₃.heap.Ns C m₃ → m₃ x = some v → Keep s₁.heap s₃.heap →
    wpAny (model prog w) A (eval elt (compEnvC scope cl C env)) (fun y s₄ => F v y ∧ Keeps s₃ s₄) E' s₃
  fin : ∀ D h' tk ys vs k, Keep s₁.heap h' → s₁.heap.get? D = none → h'.get? D = some (W.listOf ys.toArray k) → vs.length = n → (∀ j v, vs[j]? = some v → P j v) → Paired F (vs.filter p) ys → fin D h' tk vs ys

section
variable {prog : Program} {w : World} {A : Around} {E : Value → Shared → Prop} {env : PySem.Env} {scope : Scope} {cl : List (Str × Addr)} {x : Str} {ifs : List Expr} {elt : Expr} {s₁ : Shared} {n : Nat} {P : Nat → Value → Prop} {p : Value → Bool}
    {F : Value → Value → Prop} {Q : Value → Shared → Prop}
theorem get_push_ne {h : Heap} {b : Addr} {ob : Obj} (e : h.get? b = some ob) : b ≠ h.objs.size := Nat.ne_of_lt (Heap.lt_size e)

theorem comp_in {o : Obj} {fp : List Addr} {St : Nat → Heap → Prop} {fin : Addr → Heap → Nat → List Value → List Value → Prop}
    (W : Walks prog w A s₁.heap.objs.size fp [s₁.heap.objs.size] n P St) (hsz : n ≤ sizeLine) (hst : St 0 (s₁.heap.push o)) (hfp : ∀ b ∈ fp, b < (s₁.heap.push o).objs.size)
    (hq : CompOk prog w A env scope cl x ifs elt s₁ n P p F fin) (hQ : ∀ D h' tk vs ys, fin D h' tk vs ys → Q (.ref D) { s₁ with heap := h', toks := tk }) :
    ∃ I fp wr n P St, Value.ref s₁.heap.objs.size = .ref I ∧ Walks prog w A I fp wr n P St ∧ n ≤ sizeLine ∧ St 0 (s₁.heap.push o) ∧ (∀ b ∈ fp, b < (s₁.heap.push o).objs.size) ∧
      QuietOnC prog w A env scope cl x ifs elt wr P p F { s₁ with heap := s₁.heap.push o } ∧
      (∀ D h' tk ys (vs : List Value), (s₁.heap.push o).get? D = none → h'.IsList D ys → h'.PlainList D ys → vs.length = n → (∀ j v, vs[j]? = some v → P j v) → Paired F (vs.filter p) ys.toList →
        (∀ b o', b ∉ wr → (s₁.heap.push o).get? b = some o' → h'.get? b = some o') → Q (.ref D) { s₁ with heap := h', toks := tk }) := by
  have up : ∀ {h' : Heap}, (∀ b o', b ∉ [s₁.heap.objs.size] → (s₁.heap.push o).get? b = some o' → h'.get? b = some o') → Keep s₁.heap h' := fun hk b ob e =>
    hk b ob (fun hm => get_push_ne e (List.mem_singleton.mp hm)) (Heap.get?_push_of_some _ e)
  have none' : ∀ {D : Addr}, (s₁.heap.push o).get? D = none → s₁.heap.get? D = none := fun {D} hD => by
    cases e : s₁.heap.get? D with
    | none => rfl
    | some ob => rw [Heap.get?_push_of_some _ e] at hD; cases hD
  refine ⟨_, fp, _, n, P, St, rfl, W, hsz, hst, hfp, ⟨?_, ?_⟩, ?_⟩
  · intro C i v s₃ m₃ E' hC hP hn hm hk _
    exact hq.tests C i v s₃ m₃ E' (Heap.get?_none_of_le (Nat.le_trans (by simp) hC)) hP hn hm (up hk)
  · intro C i v s₃ m₃ E' hC hP hp hn hm hk _
    exact hq.elt C i v s₃ m₃ E' (Heap.get?_none_of_le (Nat.le_trans (by simp) hC)) hP hp hn hm (up hk)
  · intro D h' tk ys vs hD _ hl hlen hP hF hk
    obtain ⟨k, e⟩ := hl
    exact hQ _ _ _ _ _ (hq.fin D h' tk ys.toList vs k (up hk) (none' hD) (by rw [e]) hlen hP hF)

theorem comp_list {l : Addr} {vs : List Value} {fin : Addr → Heap → Nat → List Value → List Value → Prop} (hh : A.handled = none) (hl : s₁.heap.IsList l vs.toArray) (hsz : vs.length ≤ sizeLine)
    (hq : CompOk prog w A env scope cl x ifs elt s₁ vs.length (fun i v => vs[i]? = some v) p F fin) (hQ : ∀ D h' tk vs ys, fin D h' tk vs ys → Q (.ref D) { s₁ with heap := h', toks := tk }) :
    wpAny (model prog w) A (pyIter (.ref l)) (fun it s₂ => ∃ I fp wr n P St, it = .ref I ∧ Walks prog w A I fp wr n P St ∧ n ≤ sizeLine ∧ St 0 s₂.heap ∧ (∀ b ∈ fp, b < s₂.heap.objs.size) ∧
      QuietOnC prog w A env scope cl x ifs elt wr P p F s₂ ∧
      (∀ D h' tk ys (vs : List Value), s₂.heap.get? D = none → h'.IsList D ys → h'.PlainList D ys → vs.length = n → (∀ j v, vs[j]? = some v → P j v) → Paired F (vs.filter p) ys.toList →
        (∀ b o, b ∉ wr → s₂.heap.get? b = some o → h'.get? b = some o) → Q (.ref D) { s₂ with heap := h', toks := tk })) E s₁ := by
  refine wpAny_pyIter_list hl ?_
  obtain ⟨ol, hol, hol'⟩ := id hl
  have hlt : l ≠ s₁.heap.objs.size := Nat.ne_of_lt (Heap.lt_size hol)
  have W := Walks.list (prog := prog) (w := w) hh s₁.heap.objs.size l hlt vs.toArray
  rw [List.size_toArray] at W
  have hq' : CompOk prog w A env scope cl x ifs elt s₁ vs.length (fun (i : Nat) (v : Value) => vs.toArray[i]? = some v) p F fin := by
    have e : (fun (i : Nat) (v : Value) => vs.toArray[i]? = some v) = fun (i : Nat) (v : Value) => vs[i]? = some v := by funext i v; simp
    rw [e]; exact hq
  refine comp_in W hsz ⟨⟨_, Heap.get?_push_size _ rfl, rfl, rfl⟩, ⟨ol, Heap.get?_push_of_some _ hol, hol'⟩⟩ (fun b hb => ?_) hq' hQ
  rw [Heap.size_push]
  rcases List.mem_cons.mp hb with e | e
  · rw [e]; exact Nat.lt_succ_self _
  · rw [List.mem_singleton.mp e]; exact Nat.lt_succ_of_lt (Heap.lt_size hol)

theorem comp_str {X : List Nat} {t : Tok} {fin : Addr → Heap → Nat → List Value → List Value → Prop} (hh : A.handled = none) (hsz : X.length ≤ sizeLine)
    (hq : CompOk prog w A env scope cl x ifs elt s₁ X.length (fun i v => ∃ c u, X[i]? = some c ∧ v = .str ⟨#[c]⟩ u) p F fin) (hQ : ∀ D h' tk vs ys, fin D h' tk vs ys → Q (.ref D) { s₁ with heap := h', toks := tk }) :
    wpAny (model prog w) A (pyIter (.str (tx X) t)) (fun it s₂ => ∃ I fp wr n P St, it = .ref I ∧ Walks prog w A I fp wr n P St ∧ n ≤ sizeLine ∧ St 0 s₂.heap ∧ (∀ b ∈ fp, b < s₂.heap.objs.size) ∧
      QuietOnC prog w A env scope cl x ifs elt wr P p F s₂ ∧
      (∀ D h' tk ys (vs : List Value), s₂.heap.get? D = none → h'.IsList D ys → h'.PlainList D ys → vs.length = n → (∀ j v, vs[j]? = some v → P j v) → Paired F (vs.filter p) ys.toList →
        (∀ b o, b ∉ wr → s₂.heap.get? b = some o → h'.get? b = some o) → Q (.ref D) { s₂ with heap := h', toks := tk })) E s₁ := by
  have hq' : CompOk prog w A env scope cl x ifs elt s₁ X.length (SignAt (tx X)) p F fin := by
    have e : SignAt (tx X) = fun (i : Nat) (v : Value) => ∃ c u, X[i]? = some c ∧ v = .str ⟨#[c]⟩ u := by funext i v; simp [SignAt, tx]
    rw [e]; exact hq
  cases ha : (tx X).cps.all (· < 128)
  · refine wpAny_pyIter_wide ha ?_
    exact comp_in (n := X.length) (Walks.strWide hh s₁.heap.objs.size (tx X) t) hsz ⟨_, Heap.get?_push_size _ rfl, rfl, rfl⟩ (fun b hb => by rw [Heap.size_push, List.mem_singleton.mp hb]; exact Nat.lt_succ_self _) hq' hQ
  · refine wpAny_pyIter_ascii ha ?_
    exact comp_in (n := X.length) (Walks.strAscii hh s₁.heap.objs.size (tx X) t) hsz ⟨_, Heap.get?_push_size _ rfl, rfl, rfl⟩ (fun b hb => by rw [Heap.size_push, List.mem_singleton.mp hb]; exact Nat.lt_succ_self _) hq' hQ

theorem range_size (n : Nat) : Builtin.Range.rangeSize 0 (n : Int) 1 = ((n : Nat) : Int) := by
  unfold Builtin.Range.rangeSize
  simp; omega
theorem range_small (n : Nat) (hn : n ≤ sizeLine) : Builtin.Range.small 0 (n : Int) 1 = true := by
  have hz : (sizeLine : Nat) = 16777216 := rfl
  unfold Builtin.Range.small
  rw [range_size]
  have h1 : ∀ i : Int, 0 ≤ i → i ≤ 16777217 → Builtin.Range.rangeFitsLong i = true := by
    intro i a b; unfold Builtin.Range.rangeFitsLong; simp; omega
  rw [if_pos (by decide), h1 0 (by omega) (by omega), h1 n (by omega) (by omega), h1 1 (by omega) (by omega), h1 (n + (1 - 1)) (by omega) (by omega)]
  simp

theorem comp_range {r : Addr} {t u v : Tok} {n : Nat} {fin : Addr → Heap → Nat → List Value → List Value → Prop} (hh : A.handled = none) (hr : IsRange s₁.heap r 0 (n : Int) 1 t u v) (hsz : n ≤ sizeLine)
    (hq : CompOk prog w A env scope cl x ifs elt s₁ n (fun i v => ∃ t, v = .int (i : Int) t) p F fin) (hQ : ∀ D h' tk vs ys, fin D h' tk vs ys → Q (.ref D) { s₁ with heap := h', toks := tk }) :
    wpAny (model prog w) A (pyIter (.ref r)) (fun it s₂ => ∃ I fp wr n P St, it = .ref I ∧ Walks prog w A I fp wr n P St ∧ n ≤ sizeLine ∧ St 0 s₂.heap ∧ (∀ b ∈ fp, b < s₂.heap.objs.size) ∧
      QuietOnC prog w A env scope cl x ifs elt wr P p F s₂ ∧
      (∀ D h' tk ys (vs : List Value), s₂.heap.get? D = none → h'.IsList D ys → h'.PlainList D ys → vs.length = n → (∀ j v, vs[j]? = some v → P j v) → Paired F (vs.filter p) ys.toList →
        (∀ b o, b ∉ wr → s₂.heap.get? b = some o → h'.get? b = some o) → Q (.ref D) { s₂ with heap := h', toks := tk })) E s₁ := by
  refine wpAny_pyIter_range hr (range_small n hsz) ?_
  have hq' : CompOk prog w A env scope cl x ifs elt s₁ n (fun i v => ∃ t, v = .int ((0 : Int) + (i : Int)) t) p F fin := by
    have e : (fun (i : Nat) (v : Value) => ∃ t, v = .int ((0 : Int) + (i : Int)) t) = fun (i : Nat) (v : Value) => ∃ t, v = .int (i : Int) t := by funext i v; rw [Int.zero_add]
    rw [e]; exact hq
  refine comp_in (LCg.range_walks (I := s₁.heap.objs.size) hh 0 n) hsz (by show IsRangeIter _ _ _ _ _; rw [range_size]; simpa using Heap.get?_push_size _ rfl) (fun b hb => by rw [Heap.size_push, List.mem_singleton.mp hb]; exact Nat.lt_succ_self _) hq' hQ
end

/-- the source of a comprehension is at hand: what its body owes, and what comes of it -/
def CompAt (prog : Program) (w : World) (A : Around) (env : PySem.Env) (scope : Scope) (cl : List (Str × Addr)) (x : Str) (ifs : List Expr) (elt : Expr) (p : Value → Bool) (F : Value → Value → Prop) (Q : Value → Shared → Prop) (xv : Value) (s₁ : Shared) : Prop :=
  A.handled = none ∧ ((∃ (l : Addr) (vs : List Value), xv = .ref l ∧ s₁.heap.IsList l vs.toArray ∧ vs.length ≤ sizeLine ∧ CompOk prog w A env scope cl x ifs elt s₁ vs.length (fun (i : Nat) (v : Value) => vs[i]? = some v) p F fun D h' tk _ _ => Q (.ref D) { s₁ with heap := h', toks := tk }) ∨
  (∃ (X : List Nat) (t : Tok), xv = .str (tx X) t ∧ X.length ≤ sizeLine ∧ CompOk prog w A env scope cl x ifs elt s₁ X.length (fun (i : Nat) (v : Value) => ∃ c u, X[i]? = some c ∧ v = .str ⟨#[c]⟩ u) p F fun D h' tk _ _ => Q (.ref D) { s₁ with heap := h', toks := tk }) ∨
  (∃ (r : Addr) (n : Nat) (t u v : Tok), xv = .ref r ∧ IsRange s₁.heap r 0 ((n : Nat) : Int) 1 t u v ∧ n ≤ sizeLine ∧ CompOk prog w A env scope cl x ifs elt s₁ n (fun (i : Nat) (v : Value) => ∃ t, v = .int (i : Int) t) p F fun D h' tk _ _ => Q (.ref D) { s₁ with heap := h', toks := tk }))
section
variable {prog : Program} {w : World} {A : Around} {E : Value → Shared → Prop} {env : PySem.Env} {scope : Scope} {cl : List (Str × Addr)} {x : Str} {ifs : List Expr} {elt : Expr} {s₁ : Shared} {p : Value → Bool}
    {F : Value → Value → Prop} {Q : Value → Shared → Prop}
theorem CompAt.walk {xv : Value} (h : CompAt prog w A env scope cl x ifs elt p F Q xv s₁) :
    wpAny (model prog w) A (pyIter xv) (fun it s₂ => ∃ I fp wr n P St, it = .ref I ∧ Walks prog w A I fp wr n P St ∧ n ≤ sizeLine ∧ St 0 s₂.heap ∧ (∀ b ∈ fp, b < s₂.heap.objs.size) ∧
      QuietOnC prog w A env scope cl x ifs elt wr P p F s₂ ∧
      (∀ D h' tk ys (vs : List Value), s₂.heap.get? D = none → h'.IsList D ys → h'.PlainList D ys → vs.length = n → (∀ j v, vs[j]? = some v → P j v) → Paired F (vs.filter p) ys.toList →
        (∀ b o, b ∉ wr → s₂.heap.get? b = some o → h'.get? b = some o) → Q (.ref D) { s₂ with heap := h', toks := tk })) E s₁ := by
  obtain ⟨hh, ⟨l, vs, rfl, hl, hsz, hq⟩ | ⟨X, t, rfl, hsz, hq⟩ | ⟨r, n, t, u, v, rfl, hr, hsz, hq⟩⟩ := h
  · exact comp_list hh hl hsz hq fun _ _ _ _ _ x => x
  · exact comp_str hh hsz hq fun _ _ _ _ _ x => x
  · exact comp_range hh hr hsz hq fun _ _ _ _ _ x => x
theorem CompAt.list {l : Addr} {vs : List Value} (hh : A.handled = none) (hl : s₁.heap.IsList l vs.toArray) (hsz : vs.length ≤ sizeLine)
    (hq : CompOk prog w A env scope cl x ifs elt s₁ vs.length (fun (i : Nat) (v : Value) => vs[i]? = some v) p F fun D h' tk _ _ => Q (.ref D) { s₁ with heap := h', toks := tk }) : CompAt prog w A env scope cl x ifs elt p F Q (.ref l) s₁ :=
  ⟨hh, .inl ⟨l, vs, rfl, hl, hsz, hq⟩⟩
theorem CompAt.str {X : List Nat} {t : Tok} (hh : A.handled = none) (hsz : X.length ≤ sizeLine)
    (hq : CompOk prog w A env scope cl x ifs elt s₁ X.length (fun (i : Nat) (v : Value) => ∃ c u, X[i]? = some c ∧ v = .str ⟨#[c]⟩ u) p F fun D h' tk _ _ => Q (.ref D) { s₁ with heap := h', toks := tk }) : CompAt prog w A env scope cl x ifs elt p F Q (.str (tx X) t) s₁ :=
  ⟨hh, .inr (.inl ⟨X, t, rfl, hsz, hq⟩)⟩
theorem CompAt.range {r : Addr} {n : Nat} {t u v : Tok} (hh : A.handled = none) (hr : IsRange s₁.heap r 0 ((n : Nat) : Int) 1 t u v) (hsz : n ≤ sizeLine)
    (hq : CompOk prog w A env scope cl x ifs elt s₁ n (fun (i : Nat) (v : Value) => ∃ t, v = .int (i : Int) t) p F fun D h' tk _ _ => Q (.ref D) { s₁ with heap := h', toks := tk }) : CompAt prog w A env scope cl x ifs elt p F Q (.ref r) s₁ :=
  ⟨hh, .inr (.inr ⟨r, n, t, u, v, rfl, hr, hsz, hq⟩)⟩
theorem ListComp_At {s : Shared} {iter : Expr} {px : Pos} {pos : Pos} (cl : List (Str × Addr)) (p : Value → Bool) (F : Value → Value → Prop)
    (hclos : closureFor scope env = pure cl) (hcell : ∀ y ∈ scope.names, y.2 ≠ .cell) (hkind : scope.kind = .function)
    (hnames : ∀ y ∈ scope.names, y.2 = .local → scope.names.lookup y.1 = some .local) (hx : scope.names.lookup x = some .local)
    (h : wpAny (model prog w) A (eval iter env) (CompAt prog w A env scope cl x ifs elt p F Q) E s)
    (hs : ∀ x, foldedSetIterable iter env x = pure x := by intro _; rfl) :
    wpAny (model prog w) A (eval (.ListComp elt [⟨.Name x px, iter, ifs, 0⟩] scope pos) env) Q E s :=
  wpAny_ListComp_free p F hclos hcell hkind hnames hx (wpAny_mono h (fun _ _ h₁ => h₁.walk) fun _ _ e => e) hs
end

theorem News.add {h₀ h h' : Heap} {L D : Addr} {m : Str → Option Value} {o : Obj} {news : List (Addr × Obj)} (F : Fr h₀ L h m) (N : News h₀ L h news) (k : Keep h h') (hD : h.get? D = none) (ho : h'.get? D = some o) : News h₀ L h' ((D, o) :: news) := by
  intro p hp
  rcases List.mem_cons.mp hp with rfl | hp
  · refine ⟨ho, ?_, ?_⟩
    · rintro rfl
      obtain ⟨oL, _, _, hL, _⟩ := F.ns
      rw [hL] at hD; cases hD
    · cases e : h₀.get? D with
      | none => rfl
      | some o' => have := F.keep _ _ e; rw [this] at hD; cases hD
  · exact N.grown k p hp
theorem News.apart {h₀ h : Heap} {L D : Addr} {news : List (Addr × Obj)} (N : News h₀ L h news) (hD : h.get? D = none) : ∀ p ∈ news, p.1 ≠ D := by
  rintro p hp rfl
  rw [(N p hp).1] at hD; cases hD
theorem News.lst {h₀ h : Heap} {L D : Addr} {vs : List Value} {n : Nat} {news : List (Addr × Obj)} (N : News h₀ L h news) (hm : (D, PySem.W.listOf vs.toArray n) ∈ news) : h.IsList D vs.toArray := ⟨_, (N _ hm).1, rfl, n, rfl⟩

-- names within a comprehension
section
variable {M : Model} {A : Around} {E : Value → Shared → Prop} {s : Shared} {env : PySem.Env} {scope : Scope} {cl : List (Str × Addr)} {C : Addr} {Q : Value → Shared → Prop}
theorem cnm_local {x : Str} {pos : Pos} {m : Str → Option Value} {v : Value} (hn : s.heap.Ns C m) (hv : m x = some v) (h : Q v s) (hk : (compEnvC scope cl C env).scope.kind = .function := by rfl) (hl : (compEnvC scope cl C env).kindOf x = some .local := by rfl)
    (hd : (x == ("__debug__" : Str)) = false := by decide) : wpAny M A (eval (.Name x pos) (compEnvC scope cl C env)) Q E s := wpAny_Name (wpAny_loadName_local hk hl hn hv h) hd
theorem cnm_cell {x : Str} {pos : Pos} {c : Addr} {v : Value} (hc : cl.lookup x = some c) (hx : s.heap.IsCell c (some v)) (h : Q v s) (hk : (compEnvC scope cl C env).scope.kind = .function := by rfl) (hl : (compEnvC scope cl C env).kindOf x = some .cell := by rfl)
    (hd : (x == ("__debug__" : Str)) = false := by decide) : wpAny M A (eval (.Name x pos) (compEnvC scope cl C env)) Q E s := wpAny_Name (wpAny_loadName_cell hk hl hc hx h) hd
theorem cnm_glob {K : Frag} {x : Str} {pos : Pos} {v : Value} {p : Program} {loose : List Str} {mg mb : Str → Option Value} (X : K.In s.heap) (T : TopRead p loose mg mb s.heap) (e : nsIn K mainGlobals x = some (some v)) (h : Q v s)
    (hg : env.globals = mainGlobals := by rfl) (hk : (compEnvC scope cl C env).scope.kind = .function := by rfl) (hl : (compEnvC scope cl C env).kindOf x = some .globalImplicit := by rfl)
    (hd : (x == ("__debug__" : Str)) = false := by decide) : wpAny M A (eval (.Name x pos) (compEnvC scope cl C env)) Q E s :=
  Name_function_global hk hl (loadGlobal_global (env := compEnvC scope cl C env) (by show s.heap.Ns env.globals _; rw [hg]; exact T.g) (mg_of X T.g e) h) hd
end
end Mine
end
section
open PySem PySem.W PyProof.Rows PySem.Calls
set_option maxRecDepth 100000
namespace Mine
theorem wordsB11 : True := by
  k_with_none
  k_with "exec While" => refine Hold.out ?_
  k_with "eval ListComp" => refine Hold.out ?_
  k_with "call builtin:max" => refine Hold.out ?_
  k_with "compareOp Eq ref ref" => refine Hold.out ?_
  k_with "eval Name" => ((with_reducible show wpAny _ _ (eval (Expr.Name _ _) (compEnvC _ _ _ _)) _ _ _); k_dflt (first | refine cnm_local (by assumption) (by assumption) ?_ | refine cnm_cell rfl (by assumption) ?_))
  trivial
/-- P is the greatest power of two that divides all (1 if all are nought) -/
def IsPw (ws : List Nat) (P : Nat) : Prop := (∃ k, P = 2 ^ k) ∧ ((∀ m ∈ ws, m = 0) → P = 1) ∧ ((∃ m ∈ ws, m ≠ 0) → (∀ m ∈ ws, m % P = 0) ∧ ¬ ∀ m ∈ ws, m % (2 * P) = 0)
theorem ints_filter {p : Value → Bool} {q : Int → Bool} (hpq : ∀ n t, p (.int n t) = q n) : ∀ {vs : List Value} {ns : List Int}, IntsAre vs ns → IntsAre (vs.filter p) (ns.filter q)
  | _, _, .nil => .nil
  | _, _, .cons n t r => by
    have ih := ints_filter hpq r
    rw [List.filter_cons, List.filter_cons, hpq]
    split
    · exact .cons n t ih
    · exact ih
theorem paired_eq : ∀ {l₁ l₂ : List Value}, Paired (fun v y => y = v) l₁ l₂ → l₂ = l₁
  | _, _, .nil => rfl
  | _, _, .cons h r => by rw [h, paired_eq r]
theorem list_same {vs us : List Value} (hlen : us.length = vs.length) (h : ∀ (j : Nat) v, us[j]? = some v → vs[j]? = some v) : us = vs := by
  apply List.ext_getElem? 
  intro j
  cases e : us[j]? with
  | some v => exact (h j v e).symm
  | none =>
    have := List.getElem?_eq_none_iff.mp e
    exact (List.getElem?_eq_none (by omega)).symm
theorem sum_ge : ∀ {ws : List Nat} {m : Nat}, m ∈ ws → m ≤ ws.sum
  | w :: ws, m, h => by
    rcases List.mem_cons.mp h with rfl | h
    · simp
    · have := sum_ge h; simp; omega
theorem filter_nil {ws : List Nat} {P : Nat} : ((intsL ws).filter fun z => decide (z % (2 * (P : Int)) ≠ 0)) = [] ↔ ∀ m ∈ ws, m % (2 * P) = 0 := by
  have e : ∀ m : Nat, (m : Int) % (2 * (P : Int)) = ((m % (2 * P) : Nat) : Int) := fun m => rfl
  rw [List.filter_eq_nil_iff]
  constructor
  · intro h m hm
    have := h (m : Int) (List.mem_map.mpr ⟨m, hm, rfl⟩)
    simp only [ne_eq, decide_not, Bool.not_eq_true', decide_eq_false_iff_not, Decidable.not_not, e] at this
    omega
  · intro h z hz
    obtain ⟨m, hm, rfl⟩ := List.mem_map.mp hz
    have := h m hm
    simp only [ne_eq, decide_not, Bool.not_eq_true', decide_eq_false_iff_not, Decidable.not_not, e]
    omega
def PJ (L W : Addr) (ws : List Nat) (n : Nat) (m : Str → Option Value) (news : List (Addr × Obj)) : Prop :=
  m = (fun y => if y = Str.ofString "weights" then some (.ref W) else none) ∧ ∃ P tok oc, news = [(L + 1, oc)] ∧ oc.data = .cell (some (.int (P : Nat) tok)) ∧ (∃ k, P = 2 ^ k) ∧ (P = 1 ∨ ((∃ m ∈ ws, m ≠ 0) ∧ ∀ m ∈ ws, m % P = 0)) ∧ n + P = ws.sum + 2
set_option maxHeartbeats 4000000 in
theorem power_spec {w : World} {A : Around} {E : Value → Shared → Prop} {s : Shared} {Q : Value → Shared → Prop} (W : Addr) (vs : List Value) (ws : List Nat) (hroom : A.depth + 10 < recursionLimit) (hu : A.units + 200 < cLine) (hh : A.handled = none)
    (hE : Env w.params s.heap) (hW : s.heap.IsList W vs.toArray) (hv : IntsAre vs (intsL ws)) (hl : 0 < ws.length) (hlen : ws.length ≤ 1000)
    (hQ : ∀ h' tk P t', Keep s.heap h' → IsPw ws P → Q (.int (P : Nat) t') { s with heap := h', toks := tk }) :
    wpAny (model pr w) A (call (.ref 92) [.ref W]) Q E s := by
  obtain ⟨KX, p, loose, mg, mb, T⟩ := hE
  refine' enterC [(Str.ofString "weights", .ref W)] KX T ?k1 ?k2 (room0 hroom) ?k3 ?k4 ?k5 ?_ ?k7 ?k8 ?k9
  case k1 => k_is
  case k2 => k_is
  case k3 => exact BindsTo.of_eq rfl
  case k4 => rfl
  case k5 => decide +kernel
  case k7 => rfl
  case k8 => rfl
  case k9 => rfl
  intro L h₁ tk₁ cells F N Y hL
  obtain ⟨oc, hc, d1⟩ := CellsAre.one Y
  subst hc
  k_steps
  refine Hold.mk ?_
  rename_i h2 o2 F2 N2 d2
  have F3 : Fr s.heap L h2 (fun y => if y = Str.ofString "weights" then some (.ref W) else none) := F2
  refine While_inv (PJ L W ws) (n₀ := ws.sum + 1) F3 N2 ⟨rfl, 1, _, o2, rfl, d2, ⟨0, rfl⟩, .inl rfl, by omega⟩ ?_
  rintro n m₁ news₁ h₁ tk₁ F₁ N₁ ⟨rfl, P, tok, oc, rfl, d, hp2, hdiv, hn⟩
  k_steps
  refine Hold.mk ?_
  refine max_list_N (ns := intsL ws) hh F₁ N₁ (Fr.lst F₁ hW) hv (by simp [intsL]; omega) ?_
  intro h' M tM tk' F' N' hM hMax
  k_steps
  · rename_i hM0
    refine Hold.mk ?_
    refine' ListComp_At [(Str.ofString "power", L + 1)] (fun v => match v with | .int z _ => decide (z % (2 * (P : Int)) ≠ 0) | _ => false) (fun v y => y = v) ?hclos ?hcell rfl ?hnames rfl ?_
    case hclos => with_unfolding_all rfl
    case hcell => decide
    case hnames => decide
    walk1
    refine CompAt.list hh (by exact Fr.lst F' hW) (by have := hv.length; simp [intsL] at this; have h4 : (sizeLine : Nat) = 16777216 := rfl; omega) ⟨?_, ?_, ?_⟩
    · intro C i v s₃ m₃ E' hC hP hn hm hk
      obtain ⟨z, t, hv', hz⟩ := hv.at i v hP
      subst hv'
      have hcell : s₃.heap.IsCell (L + 1) (some (.int (P : Nat) tok)) := ⟨oc, hk _ _ (N' _ List.mem_cons_self).1, d⟩
      have hP0 : (2 * (P : Int)) ≠ 0 := by
        obtain ⟨k, rfl⟩ := hp2
        have := Nat.two_pow_pos k
        omega
      refine wpAny_tests_one ?_
      k_steps
      · rw [Int.fmod_eq_emod_of_nonneg z (by omega)]
        show (_ != _) = decide _
        by_cases hz : z % (2 * (P : Int)) = 0 <;> simp [hz]
      · exact ⟨_, _, rfl, fun _ _ e => e⟩
    · intro C i v s₃ m₃ E' hC hP hp hn hm hk
      obtain ⟨z, t, hv', hz⟩ := hv.at i v hP
      subst hv'
      k_steps
      exact ⟨_, _, rfl, fun _ _ e => e⟩
    · intro D h'' tk'' ys vs' k hk hD hDo hlen' hsame hpair
      have e1 : vs' = vs := list_same hlen' hsame
      subst e1
      have e2 := paired_eq hpair
      have hys : IntsAre ys ((intsL ws).filter fun z => decide (z % (2 * (P : Int)) ≠ 0)) := by rw [e2]; exact ints_filter (fun n t => rfl) hv
      have F4 := Fr.after' F' hk
      have N4 := News.add F' N' hk hD hDo
      have hLD : @Ne Nat (L + 1) D := News.apart N' hD _ List.mem_cons_self
      dsimp only
      k_steps
      rename_i l5 h5 F5 N5 lt5
      refine Hold.mk ?_
      refine eq_intsK (by exact News.lst N5 (List.mem_cons_of_mem _ List.mem_cons_self)) hys (by exact News.lst (vs := []) N5 List.mem_cons_self) .nil (by show A.units + 3 + 64 < cLine; omega) ?_
      have hPpos : 0 < P := by obtain ⟨k, rfl⟩ := hp2; exact Nat.two_pow_pos k
      have hnz : ∃ m ∈ ws, m ≠ 0 := by
        obtain ⟨m, hm, rfl⟩ := List.mem_map.mp hM
        exact ⟨m, hm, by omega⟩
      k_steps
      · rename_i h6 o6 F6 N6 d6
        rename (decide _ = true) => hc
        have hall := filter_nil.mp (of_decide_eq_true hc)
        obtain ⟨m, hm, hm0⟩ := hnz
        have hle : 2 * P ≤ m := Nat.le_of_dvd (by omega) (Nat.dvd_of_mod_eq_zero (hall m hm))
        have hsum := sum_ge hm
        refine WhileStep.intro (n' := n - P) F6 (fun p hp => N6 p (List.mem_cons_of_mem _ (List.mem_cons_of_mem _ hp))) (by omega) ⟨rfl, 2 * P, _, o6, rfl, d6, ?_, .inr ⟨⟨m, hm, hm0⟩, hall⟩, by omega⟩
        obtain ⟨k, rfl⟩ := hp2
        exact ⟨k + 1, by rw [Nat.pow_succ, Nat.mul_comm]⟩
      · rename (decide _ = false) => hc
        have hnall : ¬ ∀ m ∈ ws, m % (2 * P) = 0 := fun h => of_decide_eq_false hc (filter_nil.mpr h)
        refine hQ _ _ _ _ F5.keep ⟨hp2, ?_, fun _ => ⟨?_, hnall⟩⟩
        · intro h0
          obtain ⟨m, hm, hm0⟩ := hnz
          exact absurd (h0 m hm) hm0
        · rcases hdiv with rfl | h
          · intro m _; omega
          · exact h.2
  · rename_i hM0
    have hz : ∀ m ∈ ws, m = 0 := by
      intro m hm
      have := hMax (m : Int) (List.mem_map.mpr ⟨m, hm, rfl⟩)
      omega
    refine hQ _ _ _ _ F'.keep ⟨hp2, ?_, ?_⟩
    · intro _
      rcases hdiv with h | ⟨⟨m, hm, hm0⟩, _⟩
      · exact h
      · exact absurd (hz m hm) hm0
    · rintro ⟨m, hm, hm0⟩
      exact absurd (hz m hm) hm0
end Mine
theorem Mine.offB11 : True := by
  k_with_none
  trivial
end
section
open PySem PySem.W PyProof.Rows PySem.Calls
set_option maxRecDepth 100000
namespace Mine
theorem wordsB12 : True := by
  k_with_none
  k_with "pyIter ref" => refine Hold.out ?_
  k_with "eval ListComp" => refine Hold.out ?_
  k_with "go" => repeat' (first | (k_unfold; (try dsimp only)) | walk1 | (dsimp only; walk1))
  k_with "map_leaf" => ((repeat (first | (with_reducible refine Eq.trans ?_ (if_pos rfl).symm) | (refine Eq.trans ?_ (if_neg (by decide +kernel)).symm))); rfl)
  k_with "map_eq" => (funext y; (try dsimp only); (repeat (with_reducible refine ite_l (fun hy => ?_) (fun hn => ?_); (· (first | (exact absurd hy (by assumption)) | (subst hy; walk_at "map_leaf"))))); (repeat (with_reducible refine ite_r (fun hy => ?_) (fun hn => ?_); (· (first | exact absurd hy (by assumption) | rfl)))); rfl)
  k_with "binaryOp Add str str" => refine Hold.out ?_
  k_with "binaryOp Mult str int" => refine Hold.out ?_
  k_with "eval Name" => ((with_reducible show wpAny _ _ (eval (Expr.Name _ _) (compEnvC _ _ _ _)) _ _ _); k_dflt (first | refine cnm_local (by assumption) (by assumption) ?_ | refine cnm_cell rfl (by assumption) ?_ | refine cnm_glob (by assumption) (by assumption) (by k_is) ?_))
  k_with "call ref" => ((with_reducible show wpAny _ _ (call (Value.ref 68) [Value.str _ _]) _ _ _); refine guarded_spec _ _ (by first | exact room0 (by assumption) | exact room0 (room1 (by assumption))) ⟨by assumption, _, _, _, _, by assumption⟩ ?_; intro _ _ _ _)
  k_with "eval Call" => ((with_reducible show wpAny _ _ (eval (Expr.Call _ _ _ _) (compEnvC _ _ _ _)) _ _ _); refine wpAny_Call ?_)
  k_with "binaryOp Add ref ref" => refine Hold.out ?_
  k_with "call builtin:len" => refine Hold.out ?_
  trivial
def ToldJ (c : Addr) (oc : Obj) (hv tv cv : Value) (i : Nat) (m : Str → Option Value) (news : List (Addr × Obj)) : Prop :=
  ∃ (m0 : Str → Option Value) (l : List Nat) (ts : Tok) (z : Int) (tz : Tok), m = (fun y => if y = Str.ofString "signs" then some (.str (tx l) ts) else if y = Str.ofString "x" then some (.int z tz) else
      if y = Str.ofString "count" then some cv else if y = Str.ofString "tail" then some tv else if y = Str.ofString "head" then some hv else m0 y) ∧ news = [(c, oc)] ∧ l.length = i ∧ ∀ k ∈ l, k ≠ 92
theorem ToldJ.of {c : Addr} {oc : Obj} {hv tv cv : Value} {i : Nat} {m : Str → Option Value} {l : List Nat} {ts tz : Tok} {z : Int} (h1 : some (.str (tx l) ts) = m (Str.ofString "signs")) (h2 : some (.int z tz) = m (Str.ofString "x"))
    (h3 : some cv = m (Str.ofString "count")) (h4 : some tv = m (Str.ofString "tail")) (h5 : some hv = m (Str.ofString "head")) (h : l.length = i ∧ ∀ k ∈ l, k ≠ 92) : ToldJ c oc hv tv cv i m [(c, oc)] :=
  ⟨m, l, ts, z, tz, mapc h1 (mapc h2 (mapc h3 (mapc h4 (mapc h5 rfl)))), rfl, h⟩
theorem item_lit (k : Int) (h0 : 0 ≤ k) (h5 : k < 5) : ∃ c, Txt.item (Str.ofString "{*}.n") k = tx [c] ∧ c ≠ 92 := by
  have : k = 0 ∨ k = 1 ∨ k = 2 ∨ k = 3 ∨ k = 4 := by omega
  rcases this with rfl | rfl | rfl | rfl | rfl
  · exact ⟨123, by decide +kernel, by decide⟩
  · exact ⟨42, by decide +kernel, by decide⟩
  · exact ⟨125, by decide +kernel, by decide⟩
  · exact ⟨46, by decide +kernel, by decide⟩
  · exact ⟨110, by decide +kernel, by decide⟩
theorem paired_map {α : Type} {F : Value → Value → Prop} (R : α → Value → Prop) (f : α → Int) (hF : ∀ a v y, R a v → F v y → ∃ t, y = .int (f a) t) :
    ∀ {X : List α} {vs ys : List Value}, vs.length = X.length → (∀ (j : Nat) v, vs[j]? = some v → ∃ a, X[j]? = some a ∧ R a v) → Paired F vs ys → IntsAre ys (X.map f)
  | [], [], _, _, _, .nil => .nil
  | a :: X, v :: vs, _, hl, h, .cons h1 r => by
    obtain ⟨a', ha, hR⟩ := h 0 v rfl
    cases ha
    obtain ⟨t, rfl⟩ := hF a v _ hR h1
    exact .cons _ t (paired_map R f hF (by simpa using hl) (fun j u hj => by simpa using h (j + 1) u (by simpa using hj)) r)
theorem filt_true (l : List Value) : l.filter (fun _ => true) = l := List.filter_eq_self.mpr fun _ _ => rfl
theorem add_ints {prog : Program} {w : World} {A : Around} {E : Value → Shared → Prop} {s : Shared} {h₀ : Heap} {L : Addr} {m : Str → Option Value} {news : List (Addr × Obj)} {l b : Addr} {vs us : List Value} {ns ms : List Int} {Q : Value → Shared → Prop}
    (F : Fr h₀ L s.heap m) (N : News h₀ L s.heap news) (hl : s.heap.IsList l vs.toArray) (hb : s.heap.IsList b us.toArray) (hi : IntsAre vs ns) (hj : IntsAre us ms)
    (h : ∀ h' D ws, Fr h₀ L h' m → News h₀ L h' ((D, PySem.W.listOf ws.toArray 0) :: news) → (∀ p ∈ news, p.1 ≠ D) → IntsAre ws (ns ++ ms) → Q (.ref D) { s with heap := h' })
    (hsz : ns.length + ms.length ≤ sizeLine) : wpAny (model prog w) A (binaryOp .Add (.ref l) (.ref b)) Q E s :=
  add_arrays_ints (its := vs.toArray) (its2 := us.toArray) (hsz := hsz) F N hl hb hi hj fun h' F' N' hi' => h h' _ (vs ++ us) F' N' (fun p hp => Nat.ne_of_lt (Heap.lt_size (N p hp).1)) hi'
theorem News.sub {h₀ h : Heap} {L : Addr} {news news' : List (Addr × Obj)} (N : News h₀ L h news) (hs : ∀ p ∈ news', p ∈ news) : News h₀ L h news' := fun p hp => N p (hs p hp)
theorem ints_set : ∀ {vs : List Value} {ns : List Int} (h : IntsAre vs ns) (k : Nat) (z : Int) (t : Tok), IntsAre (vs.set k (.int z t)) (ns.set k z)
  | _, _, .nil, _, _, _ => .nil
  | _, _, .cons n t r, 0, z, t' => .cons z t' r
  | _, _, .cons n t r, k + 1, z, t' => .cons n t (ints_set r k z t')
theorem intsL_set (b : List Nat) (k e : Nat) : (intsL b).set k ((intsL b).getD k 0 + (e : Int)) = intsL (b.set k (b.getD k 0 + e)) := by
  have e1 : (intsL b).getD k 0 = (b.getD k 0 : Nat) := by
    simp only [intsL, List.getD_eq_getElem?_getD, List.getElem?_map]
    cases b[k]? <;> rfl
  rw [e1]
  simp only [intsL, List.map_set]
  rfl
/-- what a told text is: the base weights, one of them made greater, all times a factor -/
def ToldOk (ws ss : List Nat) : Prop :=
  ss.length ≤ 7 ∧ (∀ c ∈ ss, c ≠ 92) ∧ ∃ k e f, k < ss.length + 1 ∧ e ≤ 2 ∧ (f = 1 ∨ f = 2 ∨ f = 4) ∧ ws = ((ss.map gd ++ [0]).set k ((ss.map gd ++ [0]).getD k 0 + e)).map (· * f)
theorem lit_head : Str.ofString "{*}" = tx [123, 42, 125] := by decide +kernel
theorem lit_tail : Str.ofString "}*" = tx [125, 42] := by decide +kernel
theorem lit_nil : Str.ofString "" = tx [] := by decide +kernel
set_option maxHeartbeats 4000000 in
theorem told_spec {w : World} {A : Around} {E : Value → Shared → Prop} {s : Shared} {Q : Value → Shared → Prop} (x : Int) (t : Tok) (hroom : A.depth + 10 < recursionLimit) (hu : A.units + 200 < cLine) (hh : A.handled = none)
    (hE : Env w.params s.heap) 
    (hQ : ∀ h' tk T D ts vs ws ss n, Keep s.heap h' → s.heap.get? T = none → s.heap.get? D = none → h'.get? T = some { cls := .type "tuple", data := .seq #[.ref D, .str (tx ss) ts] 0 } → h'.get? D = some (W.listOf vs.toArray n) → IntsAre vs (intsL ws) → ToldOk ws ss →
      Q (.ref T) { s with heap := h', toks := tk }) :
    wpAny (model pr w) A (call (.ref 73) [.int x t]) Q E s := by
  obtain ⟨KX, p, loose, mg, mb, T⟩ := hE
  obtain ⟨hd', dp, fr, gs, un⟩ := A
  have hh' : hd' = none := hh
  subst hh'
  refine' enterC [(Str.ofString "x", .int x t)] KX T ?k1 ?k2 (room0 hroom) ?k3 ?k4 ?k5 ?_ ?k7 ?k8 ?k9
  case k1 => k_is
  case k2 => k_is
  case k3 => exact BindsTo.of_eq rfl
  case k4 => rfl
  case k5 => decide +kernel
  case k7 => rfl
  case k8 => rfl
  case k9 => rfl
  intro L h₁ tk₁ cells F N Y hL
  refine hideQ fun Q' hQ' => ?_
  refine hideG fun G hG => ?_
  obtain ⟨oc, hc, d1⟩ := CellsAre.one Y
  subst hc
  refine hG ?_
  replace F : Fr s.heap L h₁ (fun y => if y = Str.ofString "x" then some (.int x t) else none) := F
  walk_at "go"
  refine Hold.mk ?_
  rename IsRange _ _ _ _ _ _ _ _ => hr
  rename Obj => oc2
  rename (Obj.data _ = _) => d2
  rename Fr _ _ _ _ => F2
  rename News _ _ _ _ => N2
  obtain ⟨n, hn, hn2⟩ : ∃ n : Nat, ((x.fdiv 3).fdiv 4).fmod 3 = (n : Int) ∧ n ≤ 2 := by
    have h1 := fmod_lo ((x.fdiv 3).fdiv 4) (n := 3) (by omega)
    have h2 := fmod_hi ((x.fdiv 3).fdiv 4) (n := 3) (by omega)
    exact ⟨(((x.fdiv 3).fdiv 4).fmod 3).toNat, by omega, by omega⟩
  rw [hn] at hr
  refine' iter_range (n := n) (ToldJ (L + 1) _ _ _ _) rfl hr (by have h4 : (sizeLine : Nat) = 16777216 := rfl; omega) F2 (fun p hp => N2 p (List.mem_cons_of_mem _ hp)) ?hj0 ?turn0 ?done0
  case hj0 =>
    refine' ToldJ.of (l := []) ?_ ?_ ?_ ?_ ?_ ⟨rfl, fun _ h => nomatch h⟩
    all_goals (try with_unfolding_all rfl)
  case turn0 =>
    intro i ti m₁ news₁ h tk I oI hi hJ hoff F₁ N₁
    refine hideQ fun QT hQT => ?_
    refine hideG fun G hG => ?_
    obtain ⟨m0, l, ts, z, tz, rfl, rfl, hll, hl92⟩ := hJ
    refine hG ?_
    have k0 := fmod_lo z (n := 7) (by omega)
    have q0 := fmod_lo (z.fdiv 7) (n := 92) (by omega)
    have q1 := fmod_hi (z.fdiv 7) (n := 92) (by omega)
    have r0 := fmod_lo (z.fdiv 7) (n := 55203) (by omega)
    have fin : ∀ c, c ≠ 92 → (l ++ [c]).length = i + 1 ∧ ∀ k ∈ l ++ [c], k ≠ 92 := fun c hc => ⟨by rw [List.length_append, hll]; rfl, fun k hk => by
      rcases List.mem_append.mp hk with h | h
      · exact hl92 k h
      · rw [List.mem_singleton.mp h]; exact hc⟩
    walk_at "go"
    · refine Hold.mk ?_
      obtain ⟨c, hc, hc92⟩ := item_lit (z.fmod 7) k0 (by omega)
      rw [hc]
      refine add_tx ?_ (by simp only [List.length_cons, List.length_nil]; omega)
      intro _ _
      walk_at "go"
      rename_i F₂ N₂
      refine' hQT _ _ (turn_end F₂ N₂ hoff (fun _ h => nomatch h) (ToldJ.of ?_ ?_ ?_ ?_ ?_ (fin c hc92)))
      all_goals (try with_unfolding_all rfl)
    · refine Hold.mk ?_
      refine add_tx ?_ (by simp only [List.length_cons, List.length_nil]; omega)
      intro _ _
      walk_at "go"
      rename_i F₂ N₂
      refine' hQT _ _ (turn_end F₂ N₂ hoff (fun _ h => nomatch h) (ToldJ.of ?_ ?_ ?_ ?_ ?_ (fin ((z.fdiv 7).fmod 92).toNat (by omega))))
      all_goals (try with_unfolding_all rfl)
    · refine Hold.mk ?_
      refine add_tx ?_ (by simp only [List.length_cons, List.length_nil]; omega)
      intro _ _
      walk_at "go"
      rename_i F₂ N₂
      refine' hQT _ _ (turn_end F₂ N₂ hoff (fun _ h => nomatch h) (ToldJ.of ?_ ?_ ?_ ?_ ?_ (fin (93 + (z.fdiv 7).fmod 55203).toNat (by omega))))
      all_goals (try with_unfolding_all rfl)
  case done0 =>
    intro m₁ news₁ h tk hJ F₁ N₁
    refine hideG fun G hG => ?_
    obtain ⟨m0, l, ts, z, tz, rfl, rfl, hll, hl92⟩ := hJ
    refine hG ?_
    walk_at "go"
    refine Hold.mk ?_
    have a0 := fmod_lo (x.fdiv 3) (n := 2) (by omega)
    have a1 := fmod_hi (x.fdiv 3) (n := 2) (by omega)
    have b0 := fmod_lo ((x.fdiv 3).fdiv 2) (n := 2) (by omega)
    have b1 := fmod_hi ((x.fdiv 3).fdiv 2) (n := 2) (by omega)
    rw [lit_head]
    refine mul_tx ?_ (by decide) (by omega) (by omega)
    intro _ _
    generalize hhp : (List.replicate ((x.fdiv 3).fmod 2).toNat [123, 42, 125]).flatten = hp
    have hpl : hp.length ≤ 3 := by
      rw [← hhp]
      have : ((x.fdiv 3).fmod 2).toNat = 0 ∨ ((x.fdiv 3).fmod 2).toNat = 1 := by omega
      rcases this with e | e <;> rw [e] <;> decide
    have hp92 : ∀ k ∈ hp, k ≠ 92 := by
      rw [← hhp]
      have : ((x.fdiv 3).fmod 2).toNat = 0 ∨ ((x.fdiv 3).fmod 2).toNat = 1 := by omega
      rcases this with e | e <;> rw [e] <;> decide
    walk_at "go"
    refine Hold.mk ?_
    refine add_tx ?_ (by omega)
    intro _ _
    walk_at "go"
    refine Hold.mk ?_
    rw [lit_tail]
    refine mul_tx ?_ (by decide) (by omega) (by omega)
    intro _ _
    generalize htp : (List.replicate (((x.fdiv 3).fdiv 2).fmod 2).toNat [125, 42]).flatten = tp
    have tpl : tp.length ≤ 2 := by
      rw [← htp]
      have : (((x.fdiv 3).fdiv 2).fmod 2).toNat = 0 ∨ (((x.fdiv 3).fdiv 2).fmod 2).toNat = 1 := by omega
      rcases this with e | e <;> rw [e] <;> decide
    have tp92 : ∀ k ∈ tp, k ≠ 92 := by
      rw [← htp]
      have : (((x.fdiv 3).fdiv 2).fmod 2).toNat = 0 ∨ (((x.fdiv 3).fdiv 2).fmod 2).toNat = 1 := by omega
      rcases this with e | e <;> rw [e] <;> decide
    walk_at "go"
    refine Hold.mk ?_
    refine add_tx ?_ (by rw [List.length_append]; omega)
    intro _ _
    generalize hss : hp ++ l ++ tp = ss
    have ssl : ss.length ≤ 7 := by rw [← hss]; simp only [List.length_append]; omega
    have ss92 : ∀ k ∈ ss, k ≠ 92 := by
      rw [← hss]
      intro k hk
      rcases List.mem_append.mp hk with h | h
      · rcases List.mem_append.mp h with h | h
        · exact hp92 k h
        · exact hl92 k h
      · exact tp92 k h
    walk_at "go"
    refine Hold.mk ?_
    rename_i F5 N5
    have C5 : ∀ h', Keep _ h' → (hd.heap_39 w.params).In h' ∧ TopRead p loose mg mb h' := fun h' k => ⟨KX.keeps (Keep.trans F5.keep k), T.keeps (Keep.trans F5.keep k)⟩
    refine' ListComp_At [] (fun _ => true) (fun v y => ∃ c u t, v = .str ⟨#[c]⟩ u ∧ y = .int (gd c : Nat) t) ?hclos ?hcell rfl ?hnames rfl ?_
    case hclos => with_unfolding_all rfl
    case hcell => decide
    case hnames => decide
    walk1
    refine CompAt.str rfl (by have h4 : (sizeLine : Nat) = 16777216 := rfl; omega) ⟨?_, ?_, ?_⟩
    · intro C i v s₃ m₃ E' hC hP hn hm hk
      exact wpAny_tests_nil ⟨rfl, _, _, rfl, fun _ _ e => e⟩
    · intro C i v s₃ m₃ E' hC hP hp hn hm hk
      obtain ⟨c, u, hc, rfl⟩ := hP
      obtain ⟨KX3, T3⟩ := C5 _ hk
      walk_at "go"
      exact ⟨_, _, rfl, by assumption⟩
    · intro D h'' tk'' ys vs' k hk hD hDo hlen' hsame hpair
      have hys : IntsAre ys (ss.map fun c => (gd c : Int)) := by
        refine paired_map (fun (c : Nat) v => ∃ u, v = Value.str ⟨#[c]⟩ u) (fun c => (gd c : Int)) ?_ hlen' ?_ (by rw [filt_true] at hpair; exact hpair)
        · rintro a v y ⟨u, rfl⟩ ⟨c, u', t, e, rfl⟩
          have : a = c := by simp at e; exact e.1
          subst this; exact ⟨t, rfl⟩
        · intro j v hj
          obtain ⟨c, u, h1, h2⟩ := hsame j v hj
          exact ⟨c, h1, u, h2⟩
      have F6 := Fr.after' F5 hk
      have N6 := News.add F5 N5 hk hD hDo
      dsimp only
      walk_at "go"
      rename_i l7 h7 F7 N7 lt7
      refine Hold.mk ?_
      have hyl : ys.length = ss.length := by have := hys.length; simpa using this
      refine add_ints F7 N7 (by exact News.lst N7 (List.mem_cons_of_mem _ List.mem_cons_self)) (by exact News.lst (vs := [_]) N7 List.mem_cons_self) hys (IntsAre.cons _ _ .nil) ?_ (by have h4 : (sizeLine : Nat) = 16777216 := rfl; simp only [List.length_map, List.length_cons, List.length_nil]; omega)
      intro h8 W8 vs8 F8 N8 off8 hi8
      have hv8 : IntsAre vs8 (intsL (ss.map gd ++ [0])) := by
        have e : intsL (ss.map gd ++ [0]) = (ss.map fun c => (gd c : Int)) ++ [0] := by simp [intsL]
        rw [e]; exact hi8
      have N9 := News.sub N8 (fun p hp => (by simp only [List.mem_cons, List.not_mem_nil, or_false] at hp ⊢; rcases hp with h | h <;> simp [h]) : ∀ p ∈ [(W8, PySem.W.listOf vs8.toArray 0), (L + 1, oc2)], p ∈ _)
      have hWL : @Ne Nat (L + 1) W8 := off8 (L + 1, oc2) (by simp)
      clear N8 off8
      have hb : (intsL (ss.map gd ++ [0])).length = ss.length + 1 := by simp [intsL]
      walk_at "go"
      refine Hold.mk ?_
      rename_i F10 N10
      refine len_ints_fit (by exact News.lst N10 List.mem_cons_self) hv8 (by rw [hb]; omega) ?_
      rw [hb]
      have hn0 : (((ss.length + 1 : Nat) : Nat) : Int) ≠ 0 := by omega
      walk_at "go"
      refine Hold.mk ?_
      rename News _ _ _ _ => N11
      refine len_ints_fit (by exact News.lst N11 List.mem_cons_self) hv8 (by rw [hb]; omega) ?_
      rw [hb]
      walk_at "go"
      refine Hold.mk ?_
      rename News _ _ _ _ => N12
      rename Fr _ _ _ _ => F12
      have m0 := fmod_lo z (n := ((ss.length + 1 : Nat) : Int)) (by omega)
      have m1 := fmod_hi z (n := ((ss.length + 1 : Nat) : Int)) (by omega)
      have e0 := fmod_lo (z.fdiv ((ss.length + 1 : Nat) : Int)) (n := 3) (by omega)
      have e1 := fmod_hi (z.fdiv ((ss.length + 1 : Nat) : Int)) (n := 3) (by omega)
      refine hideG fun G hG => ?_
      obtain ⟨kk, hkk, hkl⟩ : ∃ k : Nat, z.fmod ((ss.length + 1 : Nat) : Int) = (k : Int) ∧ k < ss.length + 1 := ⟨(z.fmod ((ss.length + 1 : Nat) : Int)).toNat, by omega, by omega⟩
      obtain ⟨ee, hee, hel⟩ : ∃ e : Nat, (z.fdiv ((ss.length + 1 : Nat) : Int)).fmod 3 = (e : Int) ∧ e ≤ 2 := ⟨((z.fdiv ((ss.length + 1 : Nat) : Int)).fmod 3).toNat, by omega, by omega⟩
      have f0 := fmod_lo x (n := 3) (by omega)
      have f1 := fmod_hi x (n := 3) (by omega)
      obtain ⟨ff, hff, hfl⟩ : ∃ f : Nat, ((2 : Int) ^ (x.fmod 3).toNat) = (f : Int) ∧ (f = 1 ∨ f = 2 ∨ f = 4) := by
        have : (x.fmod 3).toNat = 0 ∨ (x.fmod 3).toNat = 1 ∨ (x.fmod 3).toNat = 2 := by omega
        rcases this with h | h | h <;> rw [h]
        · exact ⟨1, rfl, by omega⟩
        · exact ⟨2, rfl, by omega⟩
        · exact ⟨4, rfl, by omega⟩
      rw [hkk, hee, Int.toNat_natCast] at N12
      rw [hff] at d2
      have hv12 := fun t => ints_set hv8 kk ((intsL (ss.map gd ++ [0])).getD kk 0 + (ee : Int)) t
      rw [intsL_set] at hv12
      obtain ⟨vs13, n13, hv13, N13⟩ : ∃ vs13 n13, IntsAre vs13 (intsL ((ss.map gd ++ [0]).set kk ((ss.map gd ++ [0]).getD kk 0 + ee))) ∧ News s.heap L _ [(W8, W.listOf vs13.toArray n13), (L + 1, oc2)] := ⟨_, _, hv12 _, N12⟩
      clear N12 hv12
      refine hG ?_
      obtain ⟨ws1, hws1⟩ : ∃ ws1, ws1 = (ss.map gd ++ [0]).set kk ((ss.map gd ++ [0]).getD kk 0 + ee) := ⟨_, rfl⟩
      have hw3 : ∀ m ∈ ws1, m ≤ 3 := by
        have hb1 : ∀ m ∈ ss.map gd ++ [0], m ≤ 1 := by
          intro m hm
          rcases List.mem_append.mp hm with h | h
          · obtain ⟨c, _, rfl⟩ := List.mem_map.mp h
            exact gd_le c
          · rw [List.mem_singleton.mp h]; omega
        intro m hm
        rw [hws1] at hm
        rcases List.mem_or_eq_of_mem_set hm with h | h
        · have := hb1 m h; omega
        · have := getD_le hb1 kk; omega
      rw [← hws1] at hv13
      have hl13 : vs13.length ≤ 8 := by
        have h1 := hv13.length
        rw [hws1] at h1
        simp [intsL] at h1
        omega
      refine' ListComp_At [(Str.ofString "factor", L + 1)] (fun _ => true) (fun v y => ∃ n t t', v = .int n t ∧ y = .int (n * (ff : Int)) t') ?hclos2 ?hcell2 rfl ?hnames2 rfl ?_
      case hclos2 => with_unfolding_all rfl
      case hcell2 => decide
      case hnames2 => decide
      walk1
      refine CompAt.list rfl (by exact News.lst N13 List.mem_cons_self) (by have h4 : (sizeLine : Nat) = 16777216 := rfl; omega) ⟨?_, ?_, ?_⟩
      · intro C i v s₃ m₃ E' hC hP hn hm hk
        exact wpAny_tests_nil ⟨rfl, _, _, rfl, fun _ _ e => e⟩
      · intro C i v s₃ m₃ E' hC hP hp hn hm hk
        obtain ⟨z', t', hv', hz'⟩ := hv13.at i v hP
        subst hv'
        obtain ⟨m, hm', rfl⟩ := List.mem_map.mp (List.mem_of_getElem? hz')
        have hm3 := hw3 m hm'
        have hcell : s₃.heap.IsCell (L + 1) (some (.int (ff : Nat) _)) := ⟨oc2, hk _ _ (N13 _ (List.mem_cons_of_mem _ List.mem_cons_self)).1, d2⟩
        walk_at "go"
        exact ⟨_, _, rfl, fun _ _ e => e⟩
      · intro D2 h14 tk14 ys2 vs' k2 hk2 hD2 hDo2 hlen2 hsame2 hpair2
        have hsm : vs' = vs13 := list_same hlen2 hsame2
        subst hsm
        have hys2 : IntsAre ys2 (intsL (ws1.map (· * ff))) := by
          have h1 : IntsAre ys2 ((intsL ws1).map fun z => z * (ff : Int)) := by
            refine paired_map (fun (z : Int) v => ∃ u, v = Value.int z u) (fun z => z * (ff : Int)) ?_ hv13.length ?_ (by rw [filt_true] at hpair2; exact hpair2)
            · rintro a v y ⟨u, rfl⟩ ⟨c, u', t, e, rfl⟩
              cases e; exact ⟨t, rfl⟩
            · intro j v hj
              obtain ⟨z', t', hv', hz'⟩ := hv13.at j v hj
              exact ⟨z', hz', t', hv'⟩
          have e : (intsL ws1).map (fun z => z * (ff : Int)) = intsL (ws1.map (· * ff)) := by
            simp only [intsL, List.map_map]
            refine List.map_congr_left fun m _ => ?_
            simp
          rw [e] at h1; exact h1
        have F14 := Fr.after' F12 hk2
        have N14 := News.add F12 N13 hk2 hD2 hDo2
        clear N13
        dsimp only
        walk_at "go"
        rename News _ _ _ _ => N15
        rename Fr _ _ _ _ => F15
        have n1 := N15 _ List.mem_cons_self
        have n2 := N15 _ (List.mem_cons_of_mem _ List.mem_cons_self)
        exact hQ' _ _ (hQ _ _ _ _ _ _ _ _ _ F15.keep n1.2.2 n2.2.2 n1.1 n2.1 hys2 ⟨ssl, ss92, kk, ee, ff, hkl, hel, hfl, by rw [hws1]⟩)

end Mine
theorem Mine.offB12 : True := by
  k_with_none
  trivial
end
section
open PySem PySem.W PyProof.Rows PySem.Calls
set_option maxRecDepth 100000
namespace Mine
theorem wordsB13 : True := by
  k_with_none
  k_with "exec While" => refine Hold.out ?_
  k_with "eval ListComp" => refine Hold.out ?_
  k_with "call ref" => refine Hold.out ?_
  k_with "subscriptTail Name Constant ref int" => refine Hold.out ?_
  k_with "subscriptTail Name UnaryOp ref int" => refine Hold.out ?_
  k_with "go" => repeat' (first | (k_unfold; (try dsimp only)) | walk1 | (dsimp only; walk1))
  k_with "map_leaf" => ((repeat (first | (with_reducible refine Eq.trans ?_ (if_pos rfl).symm) | (refine Eq.trans ?_ (if_neg (by decide +kernel)).symm))); rfl)
  k_with "map_eq" => (funext y; (try dsimp only); (repeat (with_reducible refine ite_l (fun hy => ?_) (fun hn => ?_); (· (first | (exact absurd hy (by assumption)) | (subst hy; walk_at "map_leaf"))))); (repeat (with_reducible refine ite_r (fun hy => ?_) (fun hn => ?_); (· (first | exact absurd hy (by assumption) | rfl)))); rfl)
  k_with "eval Name" => ((with_reducible show wpAny _ _ (eval (Expr.Name _ _) (compEnvC _ _ _ _)) _ _ _); k_dflt (first | refine cnm_local (by assumption) (by assumption) ?_ | refine cnm_cell rfl (by assumption) ?_ | refine cnm_glob (by assumption) (by assumption) (by k_is) ?_))
  trivial
/-- escape, n times over -/
def escN : Nat → List Nat → List Nat
  | 0, b => b
  | n + 1, b => escL (escN n b)
theorem escN_len (n : Nat) (b : List Nat) : (escN n b).length ≤ 2 ^ n * b.length := by
  induction n with
  | zero => simp [escN]
  | succ n ih =>
    have := escL_length (escN n b)
    rw [Nat.pow_succ, escN]
    have e : 2 ^ n * 2 * b.length = 2 * (2 ^ n * b.length) := by rw [Nat.mul_comm (2 ^ n) 2, Nat.mul_assoc]
    omega
def divL (ws : List Nat) (P : Nat) : List Nat := ws.map (· / P)
def chainS (b : List Nat) (n : Nat) : List Str := (List.range n).map fun j => tx (escN j b)
theorem chainS_succ (b : List Nat) (n : Nat) : chainS b (n + 1) = chainS b n ++ [tx (escN n b)] := by simp [chainS, List.range_succ]
theorem chainS_len (b : List Nat) (n : Nat) : (chainS b n).length = n := by simp [chainS]
theorem textL_len (ws ss : List Nat) (hw : ∀ k ∈ ws, k ≤ 1000) : (textL ws ss).length ≤ 1001 * ss.length + 1000 := by
  have h1 := tpart_len ws ss hw ss.length
  have h2 := getD_le hw ss.length
  simp only [textL, List.length_append, List.length_replicate]
  omega
def CJ (L D : Addr) (wv sv : Value) (b : List Nat) (P : Nat) (n : Nat) (m : Str → Option Value) (news : List (Addr × Obj)) : Prop :=
  m = (fun y => if y = Str.ofString "chain" then some (.ref D) else if y = Str.ofString "signs" then some sv else if y = Str.ofString "weights" then some wv else none) ∧
  ∃ j tok oc vs c, news = [(D, W.listOf vs.toArray c), (L + 1, oc)] ∧ oc.data = .cell (some (.int (n : Nat) tok)) ∧ n = P / 2 ^ j ∧ 2 ^ j ≤ 2 * P ∧ StrsAre vs (chainS b (j + 1))
set_option maxHeartbeats 4000000 in
theorem chain_spec {w : World} {A : Around} {E : Value → Shared → Prop} {s : Shared} {Q : Value → Shared → Prop} (W : Addr) (vs : List Value) (ws ss : List Nat) (t : Tok) (hroom : A.depth + 12 < recursionLimit) (hu : A.units + 300 < cLine) (hh : A.handled = none)
    (hE : Env w.params s.heap) (hW : s.heap.IsList W vs.toArray) (hv : IntsAre vs (intsL ws)) (hl : ws.length = ss.length + 1) (hlen : ss.length ≤ 7) (hw : ∀ k ∈ ws, k ≤ 12)
    (hQ : ∀ h' tk D us k n, Keep s.heap h' → s.heap.get? D = none → h'.get? D = some (PySem.W.listOf us.toArray n) → IsPw ws (2 ^ k) → StrsAre us (chainS (textL (divL ws (2 ^ k)) ss) (k + 2)) →
      Q (.ref D) { s with heap := h', toks := tk }) :
    wpAny (model pr w) A (call (.ref 97) [.ref W, .str (tx ss) t]) Q E s := by
  obtain ⟨KX, p, loose, mg, mb, T⟩ := hE
  obtain ⟨hd', dp, fr, gs, un⟩ := A
  have hh' : hd' = none := hh
  subst hh'
  refine' enterC [(Str.ofString "weights", .ref W), (Str.ofString "signs", .str (tx ss) t)] KX T ?k1 ?k2 (room0 hroom) ?k3 ?k4 ?k5 ?_ ?k7 ?k8 ?k9
  case k1 => k_is
  case k2 => k_is
  case k3 => exact BindsTo.of_eq rfl
  case k4 => rfl
  case k5 => decide +kernel
  case k7 => rfl
  case k8 => rfl
  case k9 => rfl
  intro L h₁ tk₁ cells F N Y hL
  obtain ⟨oc, hc, d1⟩ := CellsAre.one Y
  subst hc
  replace F : Fr s.heap L h₁ (fun y => if y = Str.ofString "signs" then some (.str (tx ss) t) else if y = Str.ofString "weights" then some (.ref W) else none) := F
  walk_at "go"
  refine Hold.mk ?_
  refine' power_spec W vs ws (room1 (by show dp + 11 < recursionLimit; have : dp + 12 < recursionLimit := hroom; omega)) ?hu1 rfl ⟨KX.keeps (Keep.trans F.keep (fun _ _ e => e)), _, _, _, _, T.keeps (Keep.trans F.keep (fun _ _ e => e))⟩ (by exact Fr.lst F hW) hv (by omega) (by omega) ?_
  case hu1 => show un + 3 + 200 < cLine; have : un + 300 < cLine := hu; omega
  intro h2 tk2 P tp k2 hP
  have F2 := Fr.after' F k2
  have N2 := News.after' N k2
  dsimp only
  walk_at "go"
  refine Hold.mk ?_
  rename News _ _ _ _ => N3
  rename Fr _ _ _ _ => F3
  rename Obj => o3
  rename (_ = Data.cell (some (Value.int (P : Nat) tp))) => d3
  have C3 : ∀ h', Keep _ h' → (hd.heap_39 w.params).In h' ∧ TopRead p loose mg mb h' := fun h' k => ⟨KX.keeps (Keep.trans F3.keep k), T.keeps (Keep.trans F3.keep k)⟩
  obtain ⟨⟨k, hk⟩, hP0, hPd⟩ := hP
  have hPp : 0 < P := by rw [hk]; exact Nat.two_pow_pos k
  have hP12 : P ≤ 12 := by
    by_cases h : ∀ m ∈ ws, m = 0
    · rw [hP0 h]; omega
    · have ⟨m, hm, hm0⟩ : ∃ m, m ∈ ws ∧ m ≠ 0 := by
        apply Classical.byContradiction
        intro hn
        exact h fun m hm => Classical.byContradiction fun h0 => hn ⟨m, hm, h0⟩
      have h1 := (hPd ⟨m, hm, hm0⟩).1 m hm
      have h2 : P ≤ m := Nat.le_of_dvd (by omega) (Nat.dvd_of_mod_eq_zero h1)
      have := hw m hm
      omega
  refine' ListComp_At [(Str.ofString "power", L + 1)] (fun _ => true) (fun v y => ∃ (n : Nat) (t t' : Tok), v = .int (n : Int) t ∧ y = .int ((n / P : Nat) : Int) t') ?hclos ?hcell rfl ?hnames rfl ?_
  case hclos => with_unfolding_all rfl
  case hcell => decide
  case hnames => decide
  walk1
  refine CompAt.list rfl (by exact Fr.lst F3 hW) (by have h4 : (sizeLine : Nat) = 16777216 := rfl; have := hv.length; simp [intsL] at this; omega) ⟨?_, ?_, ?_⟩
  · intro C i v s₃ m₃ E' hC hPv hn hm hkk
    exact wpAny_tests_nil ⟨rfl, _, _, rfl, fun _ _ e => e⟩
  · intro C i v s₃ m₃ E' hC hPv hp hn hm hkk
    obtain ⟨z', t', hv', hz'⟩ := hv.at i v hPv
    subst hv'
    obtain ⟨m, hm', rfl⟩ := List.mem_map.mp (List.mem_of_getElem? hz')
    have hP1 : ((P : Nat) : Int) ≠ 0 := by omega
    have hm3 := hw m hm'
    have hcell : s₃.heap.IsCell (L + 1) (some (.int (P : Nat) _)) := ⟨o3, hkk _ _ (N3 _ (List.mem_cons_self)).1, d3⟩
    walk_at "go"
    · have ef : ((m : Nat) : Int).fdiv (P : Int) = ((m / P : Nat) : Int) := (Int.ofNat_fdiv m P).symm
      rw [ef]
    · exact ⟨_, _, rfl, fun _ _ e => e⟩
  · intro D h4 tk4 ys vs' k4 hk4 hD hDo hlen4 hsame hpair
    have hsm : vs' = vs := list_same hlen4 hsame
    subst hsm
    have hys : IntsAre ys (intsL (divL ws P)) := by
      have h1 : IntsAre ys ((intsL ws).map fun z => ((z.toNat / P : Nat) : Int)) := by
        refine paired_map (fun (z : Int) v => ∃ u, v = Value.int z u) (fun z => ((z.toNat / P : Nat) : Int)) ?_ hv.length ?_ (by rw [filt_true] at hpair; exact hpair)
        · rintro a v y ⟨u, rfl⟩ ⟨c, u', t, e, rfl⟩
          cases e; exact ⟨t, rfl⟩
        · intro j v hj
          obtain ⟨z', t', hv', hz'⟩ := hv.at j v hj
          exact ⟨z', hz', t', hv'⟩
      have e : (intsL ws).map (fun z => ((z.toNat / P : Nat) : Int)) = intsL (divL ws P) := by
        simp only [intsL, divL, List.map_map]
        refine List.map_congr_left fun m _ => ?_
        simp
      rw [e] at h1; exact h1
    have F4 := Fr.after' F3 hk4
    have N4 := News.add F3 N3 hk4 hD hDo
    have hLD : @Ne Nat (L + 1) D := News.apart N3 hD _ List.mem_cons_self
    clear N3
    dsimp only
    walk_at "go"
    refine Hold.mk ?_
    have hwd : ∀ m ∈ divL ws P, m ≤ 12 := by
      intro m hm
      obtain ⟨m', hm', rfl⟩ := List.mem_map.mp hm
      exact Nat.le_trans (Nat.div_le_self _ _) (hw m' hm')
    refine' text_spec D ys (divL ws P) ss t (room1 (by show dp + 11 < recursionLimit; have : dp + 12 < recursionLimit := hroom; omega)) rfl (Env.mk' KX T ?ek4) (by exact News.lst N4 List.mem_cons_self) hys (by simp [divL, hl]) (by omega) (fun k hk => Nat.le_trans (hwd k hk) (by omega)) ?_
    case ek4 => exact F4.keep
    intro h5 tk5 t5 k5
    have F5 := Fr.after' F4 k5
    have N5 := News.after' N4 k5
    clear N4
    dsimp only
    walk_at "go"
    refine Hold.mk ?_
    rename_i C h5b lt5b h6b F6 N6
    have N7 := News.sub N6 (fun p hp => (by simp only [List.mem_cons, List.not_mem_nil, or_false] at hp ⊢; rcases hp with h | h <;> simp [h]) : ∀ p ∈ [(C, PySem.W.listOf #[Value.str (tx (textL (divL ws P) ss)) t5] 0), (L + 1, o3)], p ∈ _)
    clear N6
    have hb : (textL (divL ws P) ss).length ≤ 1001 * 7 + 1000 := by
      have := textL_len (divL ws P) ss (fun m hm => Nat.le_trans (hwd m hm) (by omega))
      omega
    have hLC : @Ne Nat C (L + 1) := by
      exact Nat.ne_of_gt lt5b.2
    refine While_inv (CJ L C (.ref W) (.str (tx ss) t) (textL (divL ws P) ss) P) (n₀ := P) F6 N7 ⟨rfl, 0, _, o3, [_], 0, rfl, d3, by simp, by simp; omega, .cons _ _ .nil⟩ ?_
    clear F6 N7
    rintro n m₁ news₁ h8 tk8 F8 N8 ⟨rfl, j, tok, oc8, vs8, c8, rfl, d8, hn, hj, hvs⟩
    walk_at "go"
    · refine Hold.mk ?_
      rename (0 < ((n : Nat) : Int)) => hpos
      have hPj : 2 ^ j ≤ P := by
        apply Nat.le_of_not_lt
        intro h
        rw [Nat.div_eq_of_lt h] at hn
        omega
      have hln : (escN j (textL (divL ws P) ss)).length ≤ 100000 := by
        have h1 := escN_len j (textL (divL ws P) ss)
        have h2 : 2 ^ j * (textL (divL ws P) ss).length ≤ 12 * 8007 := Nat.mul_le_mul (by omega) (by omega)
        omega
      have hvl : vs8.length ≤ sizeLine := by
        have h1 := hvs.len_eq
        rw [chainS_len] at h1
        have h2 : j < 2 ^ j := Nat.lt_two_pow_self
        have h4 : (sizeLine : Nat) = 16777216 := rfl
        omega
      refine item_strs_neg (by exact News.lst N8 List.mem_cons_self) hvs (by omega) (by rw [chainS_len]; omega) (by omega) ?_
      intro t9
      have e9 : (chainS (textL (divL ws P) ss) (j + 1)).getD ((-1 : Int) + ((chainS (textL (divL ws P) ss) (j + 1)).length : Nat)).toNat Str.empty = tx (escN j (textL (divL ws P) ss)) := by
        rw [chainS_len]
        have e : ((-1 : Int) + ((j + 1 : Nat) : Int)).toNat = j := by omega
        rw [e, chainS_succ]
        simp [List.getD, chainS_len]
      rw [e9]
      dsimp only
      walk_at "go"
      refine Hold.mk ?_
      refine' escape_spec _ _ (room0 (room1 (k := 11) (by show dp + 12 < recursionLimit; exact hroom))) rfl (Env.mk' KX T ?ek9) (by rw [tx_len]; exact hln) ?_
      case ek9 => exact F8.keep
      intro h10 tk10 t10 k10
      have F10 := Fr.after' F8 k10
      have N10 := News.after' N8 k10
      clear N8 F8
      dsimp only
      walk_at "go"
      rename News _ _ _ _ => N11
      rename Fr _ _ _ _ => F11
      rename Obj => o11
      rename (o11.data = _) => d11
      rw [List.push_toArray] at N11
      have ef : ((n : Nat) : Int).fdiv 2 = ((n / 2 : Nat) : Int) := (Int.ofNat_fdiv n 2).symm
      rw [ef] at d11
      refine WhileStep.intro (n' := n / 2) F11 N11 (by omega) ⟨rfl, j + 1, _, o11, _, _, rfl, d11, ?_, ?_, ?_⟩
      · rw [hn, Nat.div_div_eq_div_mul, Nat.pow_succ]
      · rw [Nat.pow_succ]; omega
      · rw [chainS_succ]; exact kct_snoc hvs
    · rename (¬ (0 < ((n : Nat) : Int))) => hneg
      dsimp only
      have h0 : P / 2 ^ j = 0 := by omega
      have hlt : P < 2 ^ j := by
        apply Nat.lt_of_not_le
        intro h
        have := Nat.div_pos h (Nat.two_pow_pos j)
        omega
      have hjk : j = k + 1 := by
        rw [hk] at hlt hj
        have h1 := (Nat.pow_lt_pow_iff_right (by decide : 1 < 2)).mp hlt
        rw [Nat.mul_comm, ← Nat.pow_succ] at hj
        have h2 := (Nat.pow_le_pow_iff_right (by decide : 1 < 2)).mp hj
        omega
      have n1 := N8 _ List.mem_cons_self
      subst hjk
      refine hQ _ _ _ _ k _ F8.keep n1.2.2 n1.1 ?_ ?_
      · rw [← hk]; exact ⟨⟨k, hk⟩, hP0, hPd⟩
      · rw [← hk]; exact hvs

end Mine
theorem Mine.offB13 : True := by
  k_with_none
  trivial
end
section
open PySem PySem.W PyProof.Rows PySem.Calls
set_option maxRecDepth 100000
namespace Mine
/-- a value that is a list of these numbers -/
def FamAt (h : Heap) (v : Value) (x : List Nat) : Prop := ∃ a us c, v = .ref a ∧ h.get? a = some (PySem.W.listOf us.toArray c) ∧ IntsAre us (intsL x)
def Fams (h : Heap) (vs : List Value) (xs : List (List Nat)) : Prop := vs.length = xs.length ∧ ∀ (i : Nat) v, vs[i]? = some v → ∃ x, xs[i]? = some x ∧ FamAt h v x
theorem ints_fun : ∀ {vs : List Value} {ns ms : List Int}, IntsAre vs ns → IntsAre vs ms → ns = ms
  | _, _, _, .nil, .nil => rfl
  | _, _, _, .cons n t r, .cons _ _ r' => by rw [ints_fun r r']
theorem intsL_inj {a b : List Nat} (h : intsL a = intsL b) : a = b := by
  induction a generalizing b with
  | nil => cases b with
    | nil => rfl
    | cons y b => simp [intsL] at h
  | cons x a ih => cases b with
    | nil => simp [intsL] at h
    | cons y b =>
      simp only [intsL, List.map_cons, List.cons.injEq] at h
      rw [Int.ofNat.inj h.1, ih h.2]
theorem FamAt.keeps {h h' : Heap} {v : Value} {x : List Nat} (f : FamAt h v x) (k : Keep h h') : FamAt h' v x := by
  obtain ⟨a, us, c, e, g, i⟩ := f
  exact ⟨a, us, c, e, k _ _ g, i⟩
theorem Fams.keeps {h h' : Heap} {vs : List Value} {xs : List (List Nat)} (f : Fams h vs xs) (k : Keep h h') : Fams h' vs xs :=
  ⟨f.1, fun i v hv => let ⟨x, hx, g⟩ := f.2 i v hv; ⟨x, hx, g.keeps k⟩⟩
theorem FamAt.same {h : Heap} {v : Value} {x y : List Nat} (f : FamAt h v x) (g : FamAt h v y) : x = y := by
  obtain ⟨a, us, c, rfl, ga, i⟩ := f
  obtain ⟨a', us', c', e, gb, i'⟩ := g
  cases e
  rw [ga] at gb
  have e1 : us.toArray = us'.toArray := by
    have := congrArg (fun o => o.map Obj.data) gb
    simp only [Option.map_some, PySem.W.listOf, Option.some.injEq, Data.seq.injEq] at this
    exact this.1
  have e2 : us = us' := by simpa using e1
  subst e2
  exact intsL_inj (ints_fun i i')
theorem fam_eq {A : Around} {s : Shared} {v u : Value} {x y : List Nat} (f : FamAt s.heap v x) (g : FamAt s.heap u y) (hu : A.in1.units + 64 < cLine) : SeqAt.EqAt A.in1 s v u (decide (x = y)) := by
  obtain ⟨a, us, c, rfl, ga, i⟩ := f
  obtain ⟨a', us', c', rfl, gb, i'⟩ := g
  have k := keq_ints (A := A) (s := s) (PySem.IsL.isList (n := c) ga) i (PySem.IsL.isList (n := c') gb) i' hu
  have e : decide (intsL x = intsL y) = decide (x = y) := by
    by_cases h : x = y
    · subst h; simp
    · have : intsL x ≠ intsL y := fun h' => h (intsL_inj h')
      simp [h, this]
  rw [e] at k; exact k
theorem index_fam {prog : Program} {w : World} {A : Around} {E : Value → Shared → Prop} {s : Shared} {Q : Value → Shared → Prop} {fl : Addr} {vs : List Value} {xs : List (List Nat)} {c j : Nat} {v : Value} {x : List Nat}
    (hfl : s.heap.get? fl = some (PySem.W.listOf vs.toArray c)) (hf : Fams s.heap vs xs) (hv : vs[j]? = some v) (hx : xs[j]? = some x) (hno : ∀ q, q < j → xs[q]? ≠ some x) (hsz : vs.length ≤ 1000) (hu : A.in1.units + 64 < cLine)
    (h : Q (.int (j : Nat) s.toks) { s with toks := s.toks + 1 }) : wpAny (model prog w) A (call (.builtin "list.index") [.ref fl, v]) Q E s := by
  classical
  obtain ⟨x', hx', fx⟩ := hf.2 j v hv
  rw [hx] at hx'
  cases hx'
  have hj : j < vs.length := (List.getElem?_eq_some_iff.mp hv).1
  have hev : vs[j] = v := (List.getElem?_eq_some_iff.mp hv).2
  refine call_meets PySem.F.slot_list_index ⟨_, hfl, rfl⟩ PySem.F.entry_list_index (PySem.F.args_list_index_2 _ _)
    (SeqAt.list_indexAt fl vs.toArray c none #[] v (fun y => decide (FamAt s.heap y x)) j (by simpa using hj) (by omega) ?_ ?_) ⟨hfl, ?_, h⟩
  · simp only [List.getElem_toArray, hev, decide_eq_true_eq]; exact fx
  · intro m hm hmj
    simp only [List.getElem_toArray, decide_eq_false_iff_not]
    intro hc
    have hm' : m < vs.length := by simpa using hm
    obtain ⟨x2, hx2, f2⟩ := hf.2 m vs[m] (List.getElem?_eq_getElem hm')
    rw [FamAt.same f2 hc] at hx2
    exact hno m hmj hx2
  · intro y hy
    obtain ⟨m, hm, rfl⟩ := List.mem_iff_getElem.mp (by simpa using hy)
    obtain ⟨x2, hx2, f2⟩ := hf.2 m vs[m] (List.getElem?_eq_getElem hm)
    have k := fam_eq f2 fx hu
    have e : decide (x2 = x) = decide (FamAt s.heap vs[m] x) := by
      by_cases hc : x2 = x
      · subst hc; simp [f2]
      · have : ¬ FamAt s.heap vs[m] x := fun g => hc (FamAt.same f2 g)
        simp [hc, this]
    rw [e] at k; exact k
end Mine
end
section
open PySem PySem.W PyProof.Rows PySem.Calls
set_option maxRecDepth 100000
namespace Mine
theorem wordsB15 : True := by
  k_with_none
  k_with "exec While" => refine Hold.out ?_
  k_with "compareOp In int ref" => refine Hold.out ?_
  k_with "call builtin:len" => refine Hold.out ?_
  k_with "call builtin:list.index" => refine Hold.out ?_
  k_with "getMethod ref" => refine Hold.out ?_
  k_with "subscriptTail Name Name ref int" => refine Hold.out ?_
  k_with "go" => repeat' (first | (k_unfold; (try dsimp only)) | walk1 | (dsimp only; walk1))
  k_with "map_leaf" => ((repeat (first | (with_reducible refine Eq.trans ?_ (if_pos rfl).symm) | (refine Eq.trans ?_ (if_neg (by decide +kernel)).symm))); rfl)
  k_with "map_eq" => (funext y; (try dsimp only); (repeat (with_reducible refine ite_l (fun hy => ?_) (fun hn => ?_); (· (first | (exact absurd hy (by assumption)) | (subst hy; walk_at "map_leaf"))))); (repeat (with_reducible refine ite_r (fun hy => ?_) (fun hn => ?_); (· (first | exact absurd hy (by assumption) | rfl)))); rfl)
  trivial
def climbF (par : Nat → Option Nat) : Nat → Nat → Nat × Nat
  | 0, i => (0, i)
  | f + 1, i => match par i with
    | none => (0, i)
    | some p => ((climbF par f p).1 + 1, (climbF par f p).2)
/-- the table: which family holds which number -/
def TabOk (kvs : List (Int × Value)) (vs : List Value) (xs : List (List Nat)) (par : Nat → Option Nat) : Prop :=
  ∀ j : Nat, (par j = none → valueAt kvs (j : Int) = none) ∧ ∀ p, par j = some p → p < xs.length ∧ (∃ v, vs[p]? = some v ∧ valueAt kvs (j : Int) = some v) ∧ xs[p]? = some [j] ∧ ∀ q, q < p → xs[q]? ≠ some [j]
def ClJ (par : Nat → Option Nat) (tv fv : Value) (n i₀ : Nat) (f : Nat) (m : Str → Option Value) (news : List (Addr × Obj)) : Prop :=
  news = [] ∧ ∃ st pl t1 t2, m = (fun y => if y = Str.ofString "steps" then some (.int (st : Nat) t1) else if y = Str.ofString "families" then some fv else if y = Str.ofString "table" then some tv else if y = Str.ofString "place" then some (.int (pl : Nat) t2) else none) ∧
    st + f = n ∧ (st + (climbF par f pl).1, (climbF par f pl).2) = climbF par n i₀
set_option maxHeartbeats 4000000 in
theorem climb_spec {w : World} {A : Around} {E : Value → Shared → Prop} {s : Shared} {Q : Value → Shared → Prop} (i : Nat) (ti : Tok) (tb fl : Addr) (ot : Obj) (kvs : List (Int × Value)) (vs : List Value) (xs : List (List Nat)) (c : Nat) (par : Nat → Option Nat)
    (hroom : A.depth + 10 < recursionLimit) (hu : A.units + 300 < cLine) (hh : A.handled = none) (hE : Env w.params s.heap)
    (ht : s.heap.get? tb = some ot) (hd2 : ot.IsDictOf (intKind pr w) kvs) (lo : (tb == sysModules) = false) (hfl : s.heap.get? fl = some (PySem.W.listOf vs.toArray c)) (hf : Fams s.heap vs xs) (hsz : vs.length ≤ 1000) (hT : TabOk kvs vs xs par)
    (hQ : ∀ h' tk T t1 t2, Keep s.heap h' → s.heap.get? T = none → h'.get? T = some { cls := .type "tuple", data := .seq #[.int ((climbF par xs.length i).1 : Nat) t1, .int ((climbF par xs.length i).2 : Nat) t2] 0 } →
      Q (.ref T) { s with heap := h', toks := tk }) :
    wpAny (model pr w) A (call (.ref 111) [.int (i : Nat) ti, .ref tb, .ref fl]) Q E s := by
  obtain ⟨KX, p, loose, mg, mb, T⟩ := hE
  obtain ⟨hd', dp, fr, gs, un⟩ := A
  have hh' : hd' = none := hh
  subst hh'
  refine' enterM [(Str.ofString "place", .int (i : Nat) ti), (Str.ofString "table", .ref tb), (Str.ofString "families", .ref fl)] _ KX T ?k1 ?k2 (room0 hroom) ?k3 ?k4 (lk3 _ _ _ _ _ _) ?_ ?k6 ?k7 ?k8 ?k9
  case k1 => k_is
  case k2 => k_is
  case k3 => exact BindsTo.of_eq rfl
  case k4 => exact locs rfl
  case k6 => decide
  case k7 => rfl
  case k8 => rfl
  case k9 => rfl
  intro L h₁ F N hL
  walk_at "go"
  refine Hold.mk ?_
  rename_i F2 N2
  refine While_inv (ClJ par (.ref tb) (.ref fl) xs.length i) (n₀ := xs.length) F2 N2 ⟨rfl, 0, i, _, ti, rfl, by omega, by simp⟩ ?_
  rintro f m₁ news₁ h8 tk8 F8 N8 ⟨rfl, st, pl, t1, t2, rfl, hst, hcl⟩
  walk_at "go"
  refine Hold.mk ?_
  have hD : h8.DictOf (intKind pr w) tb kvs := Heap.dictOf_iff.mpr ⟨ot, F8.keep _ _ ht, hd2⟩
  refine wpAny_in_of (k := (pl : Int)) (intKind_is pr w _ _) lo hD.mapOf ?_
  dsimp only
  have hTp := hT pl
  cases hp : par pl with
  | none =>
    rw [hTp.1 hp]
    dsimp only [Option.isSome]
    walk_at "go"
    rename News _ _ _ _ => N9
    rename Fr _ _ _ _ => F9
    have n1 := N9 _ List.mem_cons_self
    have e0 : climbF par f pl = (0, pl) := by
      cases f with
      | zero => rfl
      | succ f => simp only [climbF, hp]
    rw [e0] at hcl
    rw [← hcl] at hQ
    exact hQ _ _ _ _ _ F9.keep n1.2.2 n1.1
  | some q =>
    obtain ⟨hq, ⟨v, hv, hvt⟩, hxq, hqn⟩ := hTp.2 q hp
    rw [hvt]
    dsimp only [Option.isSome]
    walk_at "go"
    refine Hold.mk ?_
    have hl9 : h8.get? fl = some (PySem.W.listOf vs.toArray c) := F8.keep _ _ hfl
    have hsz' : vs.toArray.size = xs.length := by simp [hf.1]
    refine len_list (by exact PySem.IsL.isList (n := c) hl9) (by rw [hsz']; have := hf.1; omega) ?_
    rw [hsz']
    dsimp only
    walk_at "go"
    · refine Hold.mk ?_
      refine getMethod_builtin ⟨_, hl9, rfl⟩ PySem.F.plainAttrs_list PySem.F.slot_list_index PySem.F.type_list_index (fun a e => by cases e; exact ⟨_, hl9, rfl⟩) ?_
      dsimp only
      walk_at "go"
      refine Hold.mk ?_
      refine subscriptTail_builtin hD.typeIs slot_dict_getitem.lookup (wpAny_getItem_of (intKind_is pr w _ _) hD.mapOf hvt ?_) (by with_unfolding_all rfl) (by intro _; with_unfolding_all rfl)
      dsimp only
      walk_at "go"
      refine Hold.mk ?_
      refine index_fam hl9 (hf.keeps F8.keep) hv hxq hqn hsz (by show un + 4 + 64 < cLine; have : un + 300 < cLine := hu; omega) ?_
      dsimp only
      walk_at "go"
      rename News _ _ _ _ => N9
      rename Fr _ _ _ _ => F9
      rw [show ((st : Nat) : Int) + 1 = ((st + 1 : Nat) : Int) from rfl] at F9
      cases f with
      | zero => omega
      | succ f =>
        refine' WhileStep.intro (n' := f) F9 N9 (by omega) ⟨rfl, st + 1, q, _, _, ?em1, by omega, ?ec1⟩
        case em1 => walk_at "map_eq"
        case ec1 =>
          rw [← hcl]
          simp only [climbF, hp]
          have e : st + 1 + (climbF par f q).1 = st + ((climbF par f q).1 + 1) := by omega
          rw [e]
    · rename News _ _ _ _ => N9
      rename Fr _ _ _ _ => F9
      have n1 := N9 _ List.mem_cons_self
      have hf0 : f = 0 := by omega
      subst hf0
      rw [← hcl] at hQ
      exact hQ _ _ _ _ _ F9.keep n1.2.2 n1.1

end Mine
theorem Mine.offB15 : True := by
  k_with_none
  trivial
end
section
open PySem PySem.W PyProof.Rows PySem.Calls
set_option maxRecDepth 100000
namespace Mine
/-- call of a plain def that may change what lies on the caller's ledger -/
theorem enterG {w : World} {A : Around} {R : Result → Shared → Prop} {s : Shared} {h₀ : Heap} {L : Addr} {m : Str → Option Value} {news : List (Addr × Obj)} {K : Frag} {p : Program} {loose : List Str} {mg mb : Str → Option Value}
    {name qual : Str} {params : Arguments} {body : List Stmt} {scope : Scope} {dV kV doc pm cdv ct oc : Value} {an od : Option Addr} {osl : Array (Option Value)} {f : Addr} {args : List Value} (binds : List (Str × Value))
    (F : Fr h₀ L s.heap m) (N : News h₀ L s.heap news) (X : K.In h₀) (T : TopRead p loose mg mb h₀)
    (ho : K.lookup f = some ⟨oc, od, .func (fnOf name qual params body scope dV kV doc pm an cdv ct), osl⟩) (hcd : codeIn K cdv qual = true) (hroom : A.depth < recursionLimit)
    (hbind : BindsTo s (fnOf name qual params body scope dV kV doc pm an cdv ct) ⟨args, []⟩ binds) (hloc : ∀ y ∈ binds, scope.names.lookup y.1 = some .local)
    (h : ∀ g L' h₁, Fr g L' h₁ (fun y => binds.reverse.lookup y) → News g L' h₁ news → K.In g → TopRead p loose mg mb g →
      (∀ h' m' news', Fr g L' h' m' → News g L' h' news' → Fr h₀ L h' m ∧ News h₀ L h' news') → (∀ b o, s.heap.get? b = some o → b ∉ news.map Prod.fst → g.get? b = some o) →
      wpAny (model pr w) (A.deeper (envOf qual scope L' f cdv)) (execs body (envOf qual scope L' f cdv))
        (fun fl s' => R (.ok (.ret (match fl with | .ret v => v | _ => .none))) s') (fun _ _ => False)
        { s with heap := h₁, toks := s.toks + binds.length })
    (hcell : ∀ x ∈ scope.names, x.2 ≠ .cell) (hco : scope.isCoroutine = false) (hgen : scope.isGenerator = false) (hk : scope.kind = .function) :
    codeAny (model pr w) A (.call (.ref f) ⟨args, []⟩) R s := by
  have Xs : K.In s.heap := X.keeps F.keep
  have Ts : TopRead p loose mg mb s.heap := T.keeps F.keep
  have nm : ∀ b o, h₀.get? b = some o → b ∉ news.map Prod.fst := fun b o e q => by
    obtain ⟨p, hp, rfl⟩ := List.mem_map.mp q
    rw [(N p hp).2.2] at e; cases e
  have st : Keep h₀ (hideAll s.heap (news.map Prod.fst)) := fun b o e => hideAll_get _ (F.keep b o e) (nm b o e)
  obtain ⟨oL, es, ep, hL, hLd, hLk, hLf⟩ := F.ns
  have nL : L ∉ news.map Prod.fst := fun q => by
    obtain ⟨p, hp, e⟩ := List.mem_map.mp q
    exact (N p hp).2.1 e
  have hLg := hideAll_get (news.map Prod.fst) hL nL
  refine codeAny_call_def (fd := fnOf name qual params body scope dV kV doc pm an cdv ct) (body := body) (binds := binds) hroom (Xs _ _ ho) rfl Ts.nolimit (codeRec_of Xs hcd) rfl hbind hcell hloc (fun h₁ hns hk₁ => ?_) hco hgen hk
  refine wpAny_mono (h (hideAll s.heap (news.map Prod.fst)) s.heap.objs.size h₁ ⟨hns, fun b o e => hk₁ b o (of_hideAll _ e), Nat.le_of_eq (hideAll_size _ _)⟩
    (fun p hp => ⟨hk₁ _ _ (N p hp).1, Nat.ne_of_lt (Heap.lt_size (N p hp).1), hideAll_none _ (List.mem_map_of_mem hp)⟩) (X.keeps st) (T.keeps st) ?_ (fun b o e hb => hideAll_get _ e hb)) (fun fl s' hl => hl) fun _ _ y => y.elim
  intro h' m' news' F' N'
  refine ⟨⟨⟨oL, es, ep, F'.keep L oL hLg, hLd, hLk, hLf⟩, fun b o e => F'.keep b o (st b o e), F.above⟩, fun p hp => ⟨(N' p hp).1, fun q => ?_, ?_⟩⟩
  · have := (N' p hp).2.2; rw [q, hLg] at this; cases this
  · cases e : h₀.get? p.1 with
    | none => rfl
    | some o => have := st _ _ e; rw [(N' p hp).2.2] at this; cases this
theorem wordsB16 : True := by
  k_with_none
  k_with "go" => repeat' (first | (k_unfold; (try dsimp only)) | walk1 | (dsimp only; walk1))
  trivial
set_option maxHeartbeats 4000000 in
theorem make_ctx {w : World} {A : Around} {E : Value → Shared → Prop} {s : Shared} {Q : Value → Shared → Prop} {h₀ : Heap} {L : Addr} {m : Str → Option Value} {news : List (Addr × Obj)} {p : Program} {loose : List Str} {mg mb : Str → Option Value} (v : Value)
    (hroom : A.depth + 10 < recursionLimit) (F : Fr h₀ L s.heap m) (N : News h₀ L s.heap news) (KX : (hd.heap_39 w.params).In h₀) (T : TopRead p loose mg mb h₀)
    (hQ : ∀ x dx h' tk tr n, Fr h₀ L h' m → News h₀ L h' ((x, instObj 45 dx) :: (dx, dictOf [⟨PyData.keyHash w.params (Str.ofString "root"), .str (Str.ofString "root") tr, v⟩] n) :: news) → (∀ p ∈ news, p.1 < dx) → dx < x →
      Q (.ref x) { s with heap := h', toks := tk }) :
    wpAny (model pr w) A (call (.ref 45) [v]) Q E s := by
  refine' call_cls F KX N ?m1 ?m2 ?m3 ?_
  case m1 => k_is
  case m2 => k_is
  case m3 => k_is
  intro x dx h' F' N' hlt hdx
  refine' enterG [(Str.ofString "self", .ref x), (Str.ofString "root", v)] F' N' KX T ?k1 ?k2 ?kr ?k3 ?k4 ?_ ?k6 ?k7 ?k8 ?k9
  case k1 => k_is
  case k2 => k_is
  case k3 => exact BindsTo.of_eq rfl
  case k4 => exact locs rfl
  case k6 => decide
  case k7 => rfl
  case k8 => rfl
  case k9 => rfl
  case kr =>
    first | k_room | (show A.depth + 0 < recursionLimit; omega) | (show A.depth + 1 < recursionLimit; omega)
  intro g L' h₁ F1 N1 K1 T1 back vis
  walk_at "go"
  refine' set_dict (C := 45) F1 K1 N1 (InstAt.of_news N1 List.mem_cons_self (List.mem_cons_of_mem _ List.mem_cons_self)) rfl ?s1 ?s2 ?s3 ?s4 ?s5 rfl (Upd.tail (Nat.ne_of_gt hdx) (Upd.head fun p hp => Nat.ne_of_lt (hlt p hp))) ?s6 ?_
  case s1 => k_is
  case s2 => k_is
  case s3 => k_is
  case s4 => k_is
  case s5 => rfl
  case s6 => show 1 ≤ 1000; omega
  intro h2 F2 N2
  walk_at "go"
  obtain ⟨F3, N3⟩ := back _ _ _ F2 N2
  exact ⟨rfl, hQ x dx h2 _ _ _ F3 N3 hlt hdx⟩
end Mine
theorem Mine.offB16 : True := by
  k_with_none
  trivial
end
section
open PySem PySem.W PyProof.Rows PySem.Calls
set_option maxRecDepth 100000
namespace Mine
/-- the same for a def with cells -/
theorem enterGC {w : World} {A : Around} {E : Value → Shared → Prop} {Q : Value → Shared → Prop} {s : Shared} {h₀ : Heap} {L : Addr} {m : Str → Option Value} {news : List (Addr × Obj)} {K : Frag} {p : Program} {loose : List Str} {mean : ExcName → Option Value} {mg mb : Str → Option Value}
    {name qual : Str} {params : Arguments} {body : List Stmt} {scope : Scope} {dV kV doc pm cdv ct oc : Value} {an od : Option Addr} {osl : Array (Option Value)} {f : Addr} {args : List Value} (binds : List (Str × Value))
    (F : Fr h₀ L s.heap m) (N : News h₀ L s.heap news) (X : K.In h₀) (T : Top p loose mean mg mb h₀)
    (ho : K.lookup f = some ⟨oc, od, .func (fnOf name qual params body scope dV kV doc pm an cdv ct), osl⟩) (hcd : codeIn K cdv qual = true) (hroom : A.depth < recursionLimit)
    (hbind : BindsTo s (fnOf name qual params body scope dV kV doc pm an cdv ct) ⟨args, []⟩ binds) (hkind : (binds.all fun y => scope.names.lookup y.1 == some .local || scope.names.lookup y.1 == some .cell) = true)
    (hnd : ((cellsFrom 0 scope.names []).map (·.1)).Nodup)
    (h : ∀ g L' h₁ tk cells, Fr g L' h₁ (bindL (envOfC qual scope L' f cdv).kindOf binds fun _ => none) → News g L' h₁ (cells ++ news) → Keep h₀ g →
      CellsAre (bindC (envOfC qual scope L' f cdv).kindOf binds fun _ => none) (cellsFrom (L' + 1) scope.names []) cells → (∀ q ∈ news, q.1 < L') →
      (∀ h' m' news', Fr g L' h' m' → News g L' h' news' → Fr h₀ L h' m ∧ News h₀ L h' news') → (∀ b o, s.heap.get? b = some o → b ∉ news.map Prod.fst → g.get? b = some o) → (∀ b o, s.heap.get? b = some o → b < L') →
      wpAny (model pr w) (A.deeper (envOfC qual scope L' f cdv)) (execs body (envOfC qual scope L' f cdv))
        (fun fl s' => Q (match fl with | .ret v => v | _ => .none) s') (fun _ _ => False)
        { s with heap := h₁, toks := tk })
    (hco : scope.isCoroutine = false) (hgen : scope.isGenerator = false) (hk : scope.kind = .function) :
    wpAny (model pr w) A (call (.ref f) args) Q E s := by
  have Xs : K.In s.heap := X.keeps F.keep
  have nm : ∀ b o, h₀.get? b = some o → b ∉ news.map Prod.fst := fun b o e q => by
    obtain ⟨p, hp, rfl⟩ := List.mem_map.mp q
    rw [(N p hp).2.2] at e; cases e
  have st : Keep h₀ (hideAll s.heap (news.map Prod.fst)) := fun b o e => hideAll_get _ (F.keep b o e) (nm b o e)
  obtain ⟨oL, es, ep, hL, hLd, hLk, hLf⟩ := F.ns
  have nL : L ∉ news.map Prod.fst := fun q => by
    obtain ⟨p, hp, e⟩ := List.mem_map.mp q
    exact (N p hp).2.1 e
  have hLg := hideAll_get (news.map Prod.fst) hL nL
  refine wpAny_call (codeAny_call_function hroom (Xs _ _ ho) rfl hco hgen rfl (codeRec_of Xs hcd) (hbind _ _ _ _ ?_))
  refine wpAny_newFunctionEnv_cells hk (kindsX hkind _) fun env' he s' x => ?_
  subst he
  refine ⟨(T.nolimit.keeps F.keep).keeps x.toInCall.keep, codeAny_func ?_⟩
  obtain ⟨h₁, tk, rfl, _⟩ := x.done
  have hk₁ := x.toInCall.keep
  obtain ⟨cells, NC, Y⟩ := Cl.news (h₀ := hideAll s.heap (news.map Prod.fst)) (Nat.le_of_eq (hideAll_size _ _)) fun n c hm => ⟨x.cell n c (lookup_of_mem_nodup (cellsFrom_names scope.names 0 (s.heap.objs.size + 1) [] [] rfl ▸ hnd) hm), x.above n c hm⟩
  refine wpAny_mono (h (hideAll s.heap (news.map Prod.fst)) s.heap.objs.size h₁ tk cells ⟨x.toInCall.ns, fun b o e => hk₁ b o (of_hideAll _ e), Nat.le_of_eq (hideAll_size _ _)⟩ ?_ st Y (fun q hq => Heap.lt_size (N q hq).1) ?_ (fun b o e hb => hideAll_get _ e hb) (fun b o e => Heap.lt_size e)) (fun fl s' hl => hl) fun _ _ y => y.elim
  · intro p hp
    rcases List.mem_append.mp hp with hp | hp
    · exact NC p hp
    · exact ⟨hk₁ _ _ (N p hp).1, Nat.ne_of_lt (Heap.lt_size (N p hp).1), hideAll_none _ (List.mem_map_of_mem hp)⟩
  · intro h' m' news' F' N'
    refine ⟨⟨⟨oL, es, ep, F'.keep L oL hLg, hLd, hLk, hLf⟩, fun b o e => F'.keep b o (st b o e), F.above⟩, fun p hp => ⟨(N' p hp).1, fun q => ?_, ?_⟩⟩
    · have := (N' p hp).2.2; rw [q, hLg] at this; cases this
    · cases e : h₀.get? p.1 with
      | none => rfl
      | some o => have := st _ _ e; rw [(N' p hp).2.2] at this; cases this
end Mine
end
section
open PySem PySem.W PyProof.Rows PySem.Calls
set_option maxRecDepth 100000
namespace Mine
theorem wordsB18 : True := by
  k_with_none
  k_with "eval Lambda" => refine Hold.out ?_
  k_with "call ref" => refine Hold.out ?_
  k_with "setAttr ref" => refine Hold.out ?_
  k_with "go" => repeat' (first | (k_unfold; (try dsimp only)) | walk1 | (dsimp only; walk1))
  trivial
def lamQ : Str := (envOfC (Str.ofString "_law_context") { kind := ScopeKind.function, names := [], isGenerator := false, isCoroutine := false } 0 104 (Value.ref 103)).qual ++ Str.ofString "<lambda>"
def lamObj (pm : Value) (cell c' : Addr) (ct : Value) : Obj := kla_obj (Str.ofString "<lambda>") lamQ { posonlyargs := [], args := [], vararg := none, kwonlyargs := [], kw_defaults := [], kwarg := none, defaults := [] }
  (Expr.Name (Str.ofString "families") { line := 77, col := 24, endLine := 77, endCol := 32 }) { kind := ScopeKind.function, names := [(Str.ofString "families", NameKind.free)], isGenerator := false, isCoroutine := false } [(Str.ofString "families", cell)] pm c' ct
def lamTab (c' : Addr) : Obj := tabObj #[rawInt 77, rawInt 16, .ref c']
def ent (P : Params) (x : String) (t : Tok) (v : Value) : DictEntry := ⟨PyData.keyHash P (Str.ofString x), .str (Str.ofString x) t, v⟩
set_option maxHeartbeats 4000000 in
theorem context_spec {w : World} {A : Around} {E : Value → Shared → Prop} {s : Shared} {Q : Value → Shared → Prop} {h₀ : Heap} {L : Addr} {m : Str → Option Value} {news : List (Addr × Obj)} {p : Program} {loose : List Str} {mean : ExcName → Option Value} {mg mb : Str → Option Value} (fl : Addr)
    (hroom : A.depth + 20 < recursionLimit) (hh : A.handled = none) (F : Fr h₀ L s.heap m) (N : News h₀ L s.heap ((99, tabObj #[]) :: news)) (KX : (hd.heap_39 w.params).In h₀) (T : Top p loose mean mg mb h₀) (C : CodeHd h₀ 103 99) (hap : ∀ p ∈ news, p.1 ≠ 99)
    (hQ : ∀ h' tk x1 dx1 n1 f' c' ct oc' vs' tv x0 dx0 n0 cl oc t0 t1 t2, Fr h₀ L h' m →
      News h₀ L h' ((x1, instObj 45 dx1) :: (dx1, dictOf [ent w.params "root" t0 (.ref x0)] n1) :: (f', lamObj ((mg (Str.ofString "__name__")).getD Value.none) cl c' ct) :: (c', oc') :: (x0, instObj 45 dx0) ::
        (dx0, dictOf [ent w.params "root" t1 .none, ent w.params "iter" t2 (.ref f')] n0) :: (cl, oc) :: (99, lamTab c') :: news) →
      oc'.data = .fields vs' → vs'[1]? = some (.str lamQ tv) → oc.data = .cell (some (.ref fl)) → (∀ q ∈ news, q.1 < cl) → 99 < cl → cl < dx0 → dx0 < x0 → x0 < c' → c' < f' → f' < dx1 → dx1 < x1 →
      (∀ b o, s.heap.get? b = some o → b ∉ (((99, tabObj #[]) :: news).map Prod.fst) → h'.get? b = some o) → (∀ b o, s.heap.get? b = some o → b < cl) →
      Q (.ref x1) { s with heap := h', toks := tk }) :
    wpAny (model pr w) A (call (.ref 104) [.ref fl]) Q E s := by
  obtain ⟨hd', dp, fr, gs, un⟩ := A
  have hh' : hd' = none := hh
  subst hh'
  refine' enterGC [(Str.ofString "families", .ref fl)] F N KX T ?k1 ?k2 (room0 hroom) ?k3 ?k4 ?k5 ?_ ?k7 ?k8 ?k9
  case k1 => k_is
  case k2 => k_is
  case k3 => exact BindsTo.of_eq rfl
  case k4 => rfl
  case k5 => decide +kernel
  case k7 => rfl
  case k8 => rfl
  case k9 => rfl
  intro g L' h₁ tk₁ cells F1 N1 k1 Y hlt back vis low
  obtain ⟨oc, hc, d1⟩ := CellsAre.one Y
  subst hc
  replace F1 : Fr g L' h₁ (fun y => none) := F1
  have Kg : (hd.heap_39 w.params).In g := KX.keeps k1
  have Tg := topRead_of (T.keeps k1)
  walk_at "go"
  refine Hold.mk ?_
  refine make_ctx .none (by show dp + 1 + 10 < recursionLimit; have : dp + 20 < recursionLimit := hroom; omega) F1 N1 Kg Tg ?_
  intro x0 dx0 h2 tk2 tr2 n2 F2 N2 lt2 lx2
  dsimp only
  walk_at "go"
  refine Hold.mk ?_
  rename News _ _ _ _ => N3
  rename Fr _ _ _ _ => F3
  have h99 : 99 < L' := hlt _ List.mem_cons_self
  k_dflt (refine' kla_eval ?d0 ?_; (case d0 => exact rfl))
  have hd99 : 99 < dx0 := lt2 (99, tabObj #[]) (List.mem_append_right _ List.mem_cons_self)
  k_dflt (refine' kla_nest F3 N3 (T.keeps k1) (C.keeps k1) rfl (UpdF.tail (Nat.ne_of_gt (Nat.lt_trans hd99 lx2)) (UpdF.tail (Nat.ne_of_gt hd99) (UpdF.tail (Nat.ne_of_gt (Nat.lt_succ_of_lt h99)) (UpdF.head hap)))) ?hkt ?hkn ?hkcl ?_)
  case hkt => kn_triples
  case hkn => kn_among
  case hkcl => exact rfl
  intro f' c' oc' vs' t' ct' h4 tk4 F4 N4 d4 d5 l4 l5
  dsimp only
  walk_at "go"
  refine Hold.mk ?_
  rename News _ _ _ _ => N5
  rename Fr _ _ _ _ => F5
  have hcd : dx0 < c' := l4 (dx0, _) (List.mem_cons_of_mem _ List.mem_cons_self)
  have hcx : x0 < c' := l4 (x0, _) List.mem_cons_self
  refine' set_dict (C := 45) F5 Kg N5 (InstAt.of_news N5 (List.mem_cons_of_mem _ (List.mem_cons_of_mem _ List.mem_cons_self)) (List.mem_cons_of_mem _ (List.mem_cons_of_mem _ (List.mem_cons_of_mem _ List.mem_cons_self)))) rfl ?s1 ?s2 ?s3 ?s4 ?s5 rfl
    (Upd.tail (Nat.ne_of_gt (Nat.lt_trans hcd l5)) (Upd.tail (Nat.ne_of_gt hcd) (Upd.tail (Nat.ne_of_gt lx2) (Upd.head ?s7)))) ?s6 ?_
  case s1 => k_is
  case s2 => k_is
  case s3 => k_is
  case s4 => k_is
  case s5 => rfl
  case s6 => show 2 ≤ 1000; omega
  case s7 =>
    intro q hq
    rcases List.mem_cons.mp hq with rfl | hq
    · exact Nat.ne_of_lt (lt2 (L' + 1, oc) List.mem_cons_self)
    rcases List.mem_cons.mp hq with rfl | hq
    · exact Nat.ne_of_lt hd99
    · exact Nat.ne_of_lt (lt2 q (List.mem_cons_of_mem _ (List.mem_cons_of_mem _ hq)))
  intro h6 F6 N6
  dsimp only
  walk_at "go"
  refine Hold.mk ?_
  rename News _ _ _ _ => N7
  rename Fr _ _ _ _ => F7
  refine make_ctx (.ref x0) (by show dp + 1 + 10 < recursionLimit; have : dp + 20 < recursionLimit := hroom; omega) F7 N7 Kg Tg ?_
  intro x1 dx1 h8 tk8 tr8 n8 F8 N8 lt8 lx8
  obtain ⟨F9, N9⟩ := back _ _ _ F8 N8
  have hcl : L' + 1 < dx0 := lt2 (L' + 1, oc) List.mem_cons_self
  exact hQ h8 tk8 x1 dx1 _ f' c' ct' oc' vs' t' x0 dx0 _ (L' + 1) oc _ _ _ F9 N9 d4 d5 d1 (fun q hq => Nat.lt_succ_of_lt (hlt q (List.mem_cons_of_mem _ hq))) (Nat.lt_succ_of_lt h99) hcl lx2 hcx l5 (lt8 _ List.mem_cons_self) lx8 (fun b o e hb => F8.keep _ _ (vis b o e hb)) (fun b o e => Nat.lt_succ_of_lt (low b o e))
end Mine
theorem Mine.offB18 : True := by
  k_with_none
  trivial
end
section
open PySem PySem.W PyProof.Rows PySem.Calls
set_option maxRecDepth 100000
namespace Mine
/-- the lambda hands out what its cell holds -/
theorem call_lam {w : World} {A : Around} {E : Value → Shared → Prop} {s : Shared} {Q : Value → Shared → Prop} {h₀ : Heap} {L : Addr} {m : Str → Option Value} {news : List (Addr × Obj)} {f' c' cl fl : Addr} {ct tv pm : Value} {oc' oc : Obj} {vs' : Array Value}
    {t : Tok} (hroom : A.depth < recursionLimit) (F : Fr h₀ L s.heap m) (N : News h₀ L s.heap news) (hn : s.heap.NoLimit) (h1 : (f', lamObj pm cl c' ct) ∈ news) (h2 : (c', oc') ∈ news) (h3 : (cl, oc) ∈ news) (hoc : oc.data = .cell (some (.ref fl)))
    (hd : oc'.data = .fields vs') (hv : vs'[1]? = some (.str lamQ t)) (hQ : ∀ h' tk, Keep s.heap h' → Q (.ref fl) { s with heap := h', toks := tk }) :
    wpAny (model pr w) A (call (.ref f') []) Q E s := by
  refine wpAny_call (kla_callFunE hroom (N _ h1).1 rfl rfl rfl rfl (codeRec_news N h2 hd hv) ?_)
  have hb : bindArgs (kla_fn (Str.ofString "<lambda>") lamQ { posonlyargs := [], args := [], vararg := none, kwonlyargs := [], kw_defaults := [], kwarg := none, defaults := [] }
    (Expr.Name (Str.ofString "families") { line := 77, col := 24, endLine := 77, endCol := 32 }) { kind := ScopeKind.function, names := [(Str.ofString "families", NameKind.free)], isGenerator := false, isCoroutine := false } [(Str.ofString "families", cl)] pm (.ref c') ct) ⟨[], []⟩ = pure [] := rfl
  rw [hb]
  refine wpAny_pure (wpAny_newFunctionEnv (by show ∀ x ∈ [(Str.ofString "families", NameKind.free)], x.2 ≠ NameKind.cell; decide) (fun y hy => nomatch hy) (fun h₁ hns hsb => ⟨hn.fresh _ hsb, ?_⟩) rfl)
  have hk₁ : ∀ b o, s.heap.get? b = some o → h₁.get? b = some o := fun b o e => hsb.extBut b o (Nat.ne_of_lt (Heap.lt_size e)) (Heap.get?_push_of_some _ e)
  refine kla_codeExpr ?_
  have N' : News h₀ s.heap.objs.size h₁ news := fun p hp => ⟨hk₁ _ _ (N p hp).1, Nat.ne_of_lt (Heap.lt_size (N p hp).1), (N p hp).2.2⟩
  exact nameX_F (cl := [(Str.ofString "families", cl)]) N' rfl h3 hoc (hQ _ _ hk₁)
end Mine
end
section
open PySem PySem.W PyProof.Rows PySem.Calls
set_option maxRecDepth 100000
namespace Mine
theorem wordsB20 : True := by
  k_with_none
  k_with "eval Attribute" => refine Hold.out ?_
  k_with "getAttr ref" => refine Hold.out ?_
  k_with "setAttr ref" => refine Hold.out ?_
  k_with "getMethod ref" => refine Hold.out ?_
  k_with "exec For Name Call cons nil" => refine Hold.out ?_
  k_with "exec For Name Name cons nil" => refine Hold.out ?_
  k_with "pyIter ref" => refine Hold.out ?_
  k_with "setItem ref int" => refine Hold.out ?_
  k_with "map_leaf" => ((repeat (first | (with_reducible refine Eq.trans ?_ (if_pos rfl).symm) | (refine Eq.trans ?_ (if_neg (by decide +kernel)).symm))); rfl)
  k_with "map_eq" => (funext y; (try dsimp only); (repeat (with_reducible refine ite_l (fun hy => ?_) (fun hn => ?_); (· (first | (exact absurd hy (by assumption)) | (subst hy; walk_at "map_leaf"))))); (repeat (with_reducible refine ite_r (fun hy => ?_) (fun hn => ?_); (· (first | exact absurd hy (by assumption) | rfl)))); rfl)
  k_with "go" => repeat' (first | (k_unfold; (try dsimp only)) | walk1 | (dsimp only; walk1))
  trivial
theorem valueAt_stored (kvs : List (Int × Value)) (k q : Int) (v : Value) : valueAt (stored kvs k v) q = if q = k then some v else valueAt kvs q := by
  unfold valueAt stored
  by_cases hany : kvs.any (fun kv => kv.1 = k) = true
  · rw [if_pos hany]
    induction kvs with
    | nil => simp at hany
    | cons p r ih =>
      simp only [List.map_cons, List.find?_cons]
      by_cases hp : p.1 = k
      · rw [if_pos hp]
        by_cases hq : q = k
        · subst hq; simp [hp]
        · have : ¬ p.1 = q := fun h => hq (by rw [← h, hp])
          rw [if_neg hq]
          simp only [this, decide_false]
          have e : ∀ r : List (Int × Value), ((r.map fun kv => if kv.1 = k then (kv.1, v) else kv).find? fun kv => decide (kv.1 = q)).map (·.2) = (r.find? fun kv => decide (kv.1 = q)).map (·.2) := by
            intro r
            induction r with
            | nil => rfl
            | cons p' r' ih' =>
              simp only [List.map_cons, List.find?_cons]
              by_cases hp' : p'.1 = k
              · rw [if_pos hp']
                have : ¬ p'.1 = q := fun h => hq (by rw [← h, hp'])
                simp only [this, decide_false]; exact ih'
              · rw [if_neg hp']
                by_cases h2 : p'.1 = q
                · simp only [h2, decide_true]
                · simp only [h2, decide_false]; exact ih'
          exact e r
      · rw [if_neg hp]
        have hany' : r.any (fun kv => decide (kv.1 = k)) = true := by simpa [hp] using hany
        by_cases h2 : p.1 = q
        · have hq : ¬ q = k := fun h => hp (by rw [h2, h])
          rw [if_neg hq]
          simp only [h2, decide_true]
        · simp only [h2, decide_false]; exact ih hany'
  · rw [if_neg hany]
    rw [List.find?_append]
    by_cases hq : q = k
    · subst hq
      have : kvs.find? (fun kv => decide (kv.1 = q)) = none := by
        rw [List.find?_eq_none]
        intro p hp h
        exact hany (List.any_eq_true.mpr ⟨p, hp, h⟩)
      simp [this]
    · rw [if_neg hq]
      have : ¬ k = q := fun h => hq h.symm
      simp [this]
/-- who hands out the number j -/
def parF (xs : List (List Nat)) (j : Nat) : Option Nat := xs.findIdx? (· == [j])
/-- each hands out one at most, and none is handed out twice -/
def Once (xs : List (List Nat)) : Prop := (∀ x ∈ xs, x.length ≤ 1) ∧ ∀ (p q j : Nat), xs[p]? = some [j] → xs[q]? = some [j] → p = q
def TabAt' (kvs : List (Int × Value)) (vs : List Value) (xs : List (List Nat)) : Prop := ∀ j : Nat, valueAt kvs (j : Int) = (parF xs j).bind fun p => vs[p]?
theorem tab_ok {kvs : List (Int × Value)} {vs : List Value} {xs : List (List Nat)} (h : TabAt' kvs vs xs) (hl : vs.length = xs.length) : TabOk kvs vs xs (parF xs) := by
  intro j
  refine ⟨fun hn => by rw [h j, hn]; rfl, fun p hp => ?_⟩
  obtain ⟨hlt, h1, h2⟩ := List.findIdx?_eq_some_iff_getElem.mp hp
  refine ⟨hlt, ⟨vs[p]'(by omega), List.getElem?_eq_getElem _, ?_⟩, ?_, ?_⟩
  · rw [h j, hp]
    exact List.getElem?_eq_getElem _
  · rw [List.getElem?_eq_getElem hlt]
    exact congrArg some (eq_of_beq h1)
  · intro q hq hx
    have := h2 q hq
    rw [List.getElem?_eq_getElem (by omega)] at hx
    rw [Option.some.inj hx] at this
    simp at this
theorem tab_nil {kvs : List (Int × Value)} {vs : List Value} {xs : List (List Nat)} {i : Nat} (h : TabAt' kvs vs (xs.take i)) (hx : xs[i]? = some []) : TabAt' kvs vs (xs.take (i + 1)) := by
  intro j
  rw [h j, List.take_add_one, hx]
  unfold parF
  rw [List.findIdx?_append]
  simp
theorem tab_one {kvs : List (Int × Value)} {vs : List Value} {xs : List (List Nat)} {i j : Nat} {v : Value} (h : TabAt' kvs vs (xs.take i)) (ho : Once xs) (hx : xs[i]? = some [j]) (hv : vs[i]? = some v) : TabAt' (stored kvs (j : Int) v) vs (xs.take (i + 1)) := by
  intro q
  have hi : i < xs.length := (List.getElem?_eq_some_iff.mp hx).1
  rw [valueAt_stored, List.take_add_one, hx]
  unfold parF
  rw [List.findIdx?_append]
  by_cases e : q = j
  · subst e
    rw [if_pos rfl]
    have : (xs.take i).findIdx? (· == [q]) = none := by
      rw [List.findIdx?_eq_none_iff]
      intro x hx'
      obtain ⟨k, hk, rfl⟩ := List.mem_iff_getElem.mp hx'
      rw [List.getElem_take]
      rw [List.length_take] at hk
      apply beq_false_of_ne
      intro e2
      have h3 : xs[k]? = some [q] := by rw [List.getElem?_eq_getElem (by omega), e2]
      have := ho.2 k i q h3 hx
      omega
    rw [this]
    simp [List.findIdx?_cons, Nat.min_eq_left (Nat.le_of_lt hi), hv]
  · have : ¬ ((q : Int) = (j : Int)) := by omega
    rw [if_neg this, h q]
    have e2 : ¬ ((j : Nat) = q) := fun h => e h.symm
    simp [parF, List.findIdx?_cons, e2]
def PrJ {prog : Program} {w : World} (vs : List Value) (xs : List (List Nat)) (d : Addr) (cv : Value) (rest : List (Addr × Obj)) (knd : KeyKind prog w Int) (i : Nat) (m : Str → Option Value) (news : List (Addr × Obj)) : Prop :=
  ∃ pv ev o kvs, m = (fun y => if y = Str.ofString "e" then ev else if y = Str.ofString "p" then pv else if y = Str.ofString "parent_map" then some (.ref d) else if y = Str.ofString "context" then some cv else none) ∧
    news = (d, o) :: rest ∧ o.IsDictOf knd kvs ∧ kvs.length ≤ i ∧ TabAt' kvs vs (xs.take i)
def PrK {prog : Program} {w : World} (vs : List Value) (xs : List (List Nat)) (x : List Nat) (d I : Addr) (cv pv : Value) (oI : Obj) (rest : List (Addr × Obj)) (knd : KeyKind prog w Int) (i k : Nat) (m : Str → Option Value) (news : List (Addr × Obj)) : Prop :=
  ∃ ev o kvs, m = (fun y => if y = Str.ofString "e" then ev else if y = Str.ofString "p" then some pv else if y = Str.ofString "parent_map" then some (.ref d) else if y = Str.ofString "context" then some cv else none) ∧
    news = (I, oI) :: (d, o) :: rest ∧ o.IsDictOf knd kvs ∧ kvs.length ≤ i + k ∧ (k = 0 → TabAt' kvs vs (xs.take i)) ∧ (x.length = k → TabAt' kvs vs (xs.take (i + 1)))
set_option maxHeartbeats 4000000 in
theorem parents_spec {w : World} {A : Around} {E : Value → Shared → Prop} {s : Shared} {Q : Value → Shared → Prop} {h₀ : Heap} {L : Addr} {m : Str → Option Value} {news : List (Addr × Obj)} {p : Program} {loose : List Str} {mean : ExcName → Option Value} {mg mb : Str → Option Value}
    {x1 dx1 n1 f' c' x0 dx0 n0 cl fl : Addr} {ct tv : Value} {oc' oc : Obj} {vs' : Array Value} {t0 t1 t2 tq : Tok} {pm : Value}
    (hroom : A.depth + 20 < recursionLimit) (hh : A.handled = none) (F : Fr h₀ L s.heap m) (KX : (hd.heap_39 w.params).In h₀) (T : Top p loose mean mg mb h₀)
    (N : News h₀ L s.heap ((x1, instObj 45 dx1) :: (dx1, dictOf [ent w.params "root" t0 (.ref x0)] n1) :: (f', lamObj pm cl c' ct) :: (c', oc') :: (x0, instObj 45 dx0) ::
        (dx0, dictOf [ent w.params "root" t1 .none, ent w.params "iter" t2 (.ref f')] n0) :: (cl, oc) :: news))
    (hod : oc'.data = .fields vs') (hov : vs'[1]? = some (.str lamQ tq)) (hoc : oc.data = .cell (some (.ref fl))) (e1 : ∀ q ∈ news, q.1 < cl) (e2 : cl < dx0) (e3 : dx0 < x0) (e4 : x0 < c') (e5 : c' < f') (e6 : f' < dx1) (e7 : dx1 < x1)
    (vs : List Value) (xs : List (List Nat)) (c : Nat) (ho : Once xs) (hsz : vs.length ≤ 1000)
    (hfam : ∀ g : Heap, (∀ b o, s.heap.get? b = some o → b ∉ x1 :: dx1 :: f' :: c' :: x0 :: dx0 :: cl :: news.map Prod.fst → g.get? b = some o) → g.get? fl = some (PySem.W.listOf vs.toArray c) ∧ Fams g vs xs)
    (hQ : ∀ h' tk tb ot kvs, Fr h₀ L h' m → News h₀ L h' ((tb, ot) :: news) → ot.IsDictOf (intKind pr w) kvs → (tb == sysModules) = false → TabOk kvs vs xs (parF xs) → s.heap.get? tb = none →
      (∀ b o, s.heap.get? b = some o → b ∉ x1 :: dx1 :: f' :: c' :: x0 :: dx0 :: cl :: news.map Prod.fst → h'.get? b = some o) → Q (.ref tb) { s with heap := h', toks := tk }) :
    wpAny (model pr w) A (call (.ref 21) [.ref x1]) Q E s := by
  obtain ⟨hd', dp, fr, gs, un⟩ := A
  have hh' : hd' = none := hh
  subst hh'
  refine wpAny_call ?_
  refine' enterG [(Str.ofString "context", .ref x1)] F N KX (topRead_of T) ?k1 ?k2 (room0 hroom) ?k3 ?k4 ?_ ?k6 ?k7 ?k8 ?k9
  case k1 => k_is
  case k2 => k_is
  case k3 => exact BindsTo.of_eq rfl
  case k4 => exact locs rfl
  case k6 => decide
  case k7 => rfl
  case k8 => rfl
  case k9 => rfl
  intro g L' h₁ F1 N1 Kg Tg back vis
  rw [lk1] at F1
  walk_at "go"
  refine Hold.mk ?_
  rename News _ _ _ _ => N2
  rename Fr _ _ _ _ => F2
  refine' get_cls (C := 45) (a := .none) F2 Kg (InstAt.of_news N2 List.mem_cons_self (List.mem_cons_of_mem _ List.mem_cons_self)) ?a1 ?a2 ?a3 ?a4 ?a5 ?a6 ?a7 ?_
  case a1 => k_is
  case a2 => k_is
  case a3 => k_is
  case a4 => k_is
  case a5 => rfl
  case a6 => decide +kernel
  case a7 => rfl
  dsimp only
  walk_at "go"
  rename News _ _ _ _ => N3
  rename Fr _ _ _ _ => F3
  refine' newDict_K F3 N3 Tg.nolimit ?_
  intro d4 h4 o4 F4 N4 l4 lo4 hs4 fs4 hi4 fi4
  dsimp only
  walk_at "go"
  refine Hold.mk ?_
  have m2 : c' < dx1 := Nat.lt_trans e5 e6
  have m3 : x0 < dx1 := Nat.lt_trans e4 m2
  have m4 : dx0 < dx1 := Nat.lt_trans e3 m3
  have m5 : cl < dx1 := Nat.lt_trans e2 m4
  have apart : ∀ q ∈ (f', lamObj pm cl c' ct) :: (c', oc') :: (x0, instObj 45 dx0) :: (dx0, dictOf [ent w.params "root" t1 .none, ent w.params "iter" t2 (.ref f')] n0) :: (cl, oc) :: news, q.1 ≠ dx1 := by
    intro q hq
    rcases List.mem_cons.mp hq with rfl | hq
    · exact Nat.ne_of_lt e6
    rcases List.mem_cons.mp hq with rfl | hq
    · exact Nat.ne_of_lt m2
    rcases List.mem_cons.mp hq with rfl | hq
    · exact Nat.ne_of_lt m3
    rcases List.mem_cons.mp hq with rfl | hq
    · exact Nat.ne_of_lt m4
    rcases List.mem_cons.mp hq with rfl | hq
    · exact Nat.ne_of_lt m5
    · exact Nat.ne_of_lt (Nat.lt_trans (e1 q hq) m5)
  refine' set_dict (C := 45) F4 Kg N4 (InstAt.of_news N4 (List.mem_cons_of_mem _ List.mem_cons_self) (List.mem_cons_of_mem _ (List.mem_cons_of_mem _ List.mem_cons_self))) rfl ?s1 ?s2 ?s3 ?s4 ?s5 rfl
    (Upd.tail (Nat.ne_of_gt (l4 (dx1, _) (List.mem_cons_of_mem _ List.mem_cons_self))) (Upd.tail (Nat.ne_of_gt e7) (Upd.head apart))) ?s6 ?_
  case s1 => k_is
  case s2 => k_is
  case s3 => k_is
  case s4 => k_is
  case s5 => rfl
  case s6 => show 2 ≤ 1000; omega
  intro h5 F5 N5
  dsimp only
  walk_at "go"
  refine Hold.mk ?_
  rename News _ _ _ _ => N6
  rename Fr _ _ _ _ => F6
  refine For_invVF F6 rfl rfl ?_
  walk_at "go"
  refine Hold.mk ?_
  rename News _ _ _ _ => N7
  rename Fr _ _ _ _ => F7
  refine' get_own (C := 45) (v := .ref x0) (attr := none) F7 Kg (InstAt.of_news N7 (List.mem_cons_of_mem _ List.mem_cons_self) (List.mem_cons_of_mem _ (List.mem_cons_of_mem _ List.mem_cons_self))) ?b1 ?b2 ?b3 ?b4 ?b5 ?b6 ?_
  case b1 => k_is
  case b2 => k_is
  case b3 => k_is
  case b4 => rfl
  case b5 => rfl
  case b6 => rfl
  dsimp only
  walk_at "go"
  refine Hold.mk ?_
  rename News _ _ _ _ => N8
  rename Fr _ _ _ _ => F8
  have I8 := InstAt.of_news N8 (x := x0) (dx := dx0) (od := dictOf [ent w.params "root" t1 .none, ent w.params "iter" t2 (.ref f')] n0) (C := 45) (sl := #[]) (List.mem_cons_of_mem _ (List.mem_cons_of_mem _ (List.mem_cons_of_mem _ (List.mem_cons_of_mem _ (List.mem_cons_of_mem _ List.mem_cons_self))))) (List.mem_cons_of_mem _ (List.mem_cons_of_mem _ (List.mem_cons_of_mem _ (List.mem_cons_of_mem _ (List.mem_cons_of_mem _ (List.mem_cons_of_mem _ List.mem_cons_self))))))
  refine' method_usual (r := none) (Kg.keeps F8.keep) I8 ?c1 ?c2 ?c3 rfl ?_
  case c1 => k_is
  case c2 => k_is
  case c3 => k_is
  refine' get_own (C := 45) (v := .ref f') (attr := none) F8 Kg I8 ?d1 ?d2 ?d3 ?d4 ?d5 ?d6 ?_
  case d1 => k_is
  case d2 => k_is
  case d3 => k_is
  case d4 => rfl
  case d5 => rfl
  case d6 => rfl
  dsimp only
  walk_at "go"
  rename News _ _ _ _ => N9
  rename Fr _ _ _ _ => F9
  refine callWith_F0 (FnAt.of N9 (List.mem_cons_of_mem _ (List.mem_cons_of_mem _ (List.mem_cons_of_mem _ List.mem_cons_self)))) ?_
  dsimp only [List.nil_append]
  refine call_lam (tv := .none) (by show dp + 1 < recursionLimit; have : dp + 20 < recursionLimit := hroom; omega) F9 N9 (Tg.nolimit.keeps F9.keep) (List.mem_cons_of_mem _ (List.mem_cons_of_mem _ (List.mem_cons_of_mem _ List.mem_cons_self))) (List.mem_cons_of_mem _ (List.mem_cons_of_mem _ (List.mem_cons_of_mem _ (List.mem_cons_of_mem _ List.mem_cons_self)))) (List.mem_cons_of_mem _ (List.mem_cons_of_mem _ (List.mem_cons_of_mem _ (List.mem_cons_of_mem _ (List.mem_cons_of_mem _ (List.mem_cons_of_mem _ (List.mem_cons_of_mem _ List.mem_cons_self))))))) hoc hod hov ?_
  intro h10 tk10 k10
  have F10 := Fr.after' F9 k10
  have N10 : News g L' h10 ((d4, o4) :: news) := News.sub (News.after' N9 k10) (fun q hq => by
    rcases List.mem_cons.mp hq with h | h
    · rw [h]; exact List.mem_cons_self
    · exact List.mem_cons_of_mem _ (List.mem_cons_of_mem _ (List.mem_cons_of_mem _ (List.mem_cons_of_mem _ (List.mem_cons_of_mem _ (List.mem_cons_of_mem _ (List.mem_cons_of_mem _ (List.mem_cons_of_mem _ h))))))))
  clear N9 F9
  have hd4 : ∀ q ∈ news, q.1 ≠ d4 := fun q hq => Nat.ne_of_lt (l4 q (List.mem_cons_of_mem _ (List.mem_cons_of_mem _ (List.mem_cons_of_mem _ (List.mem_cons_of_mem _ (List.mem_cons_of_mem _ (List.mem_cons_of_mem _ (List.mem_cons_of_mem _ hq))))))))
  obtain ⟨gfl, gfm⟩ := hfam g vis
  dsimp only
  refine iter_list (vs := vs) [] (PrJ vs xs d4 (.ref x1) news (intKind pr w)) rfl (by exact PySem.IsL.isList (n := c) (F10.keep _ _ gfl)) (.inl ⟨_, gfl⟩) (fun _ h => nomatch h) F10 N10 ?_ ?_ ?_
  · refine' ⟨none, none, _, [], ?em0, rfl, hi4, Nat.le_refl _, fun j => rfl⟩
    case em0 => walk_at "map_eq"
  · rintro i v m₁ news₁ h tk I oI hi ⟨pv, ev, o, kvs, rfl, rfl, hd, hkl, htab⟩ hoff _ F11 N11
    obtain ⟨x, hx, a, us, ca, rfl, hau, hus⟩ := gfm.2 i v hi
    have hIo : ∀ o', ∀ q ∈ (d4, o') :: news, q.1 ≠ I := fun o' q hq => by
      rcases List.mem_cons.mp hq with rfl | hq
      · exact hoff (d4, o) List.mem_cons_self
      · exact hoff _ (List.mem_cons_of_mem _ hq)
    walk_at "go"
    refine Hold.mk ?_
    rename News _ _ _ _ => N12
    rename Fr _ _ _ _ => F12
    refine For_invVF F12 rfl rfl ?_
    walk_at "go"
    refine Hold.mk ?_
    rename News _ _ _ _ => N13
    rename Fr _ _ _ _ => F13
    refine iter_list (vs := us) [] (PrK vs xs x d4 I (.ref x1) (.ref a) oI news (intKind pr w) i) rfl (by exact PySem.IsL.isList (n := ca) (F13.keep _ _ hau)) (.inl ⟨_, hau⟩) (fun _ h => nomatch h) F13 N13 ?_ ?_ ?_
    · refine' ⟨ev, o, kvs, ?em2, rfl, hd, hkl, fun _ => htab, fun h0 => ?_⟩
      case em2 => walk_at "map_eq"
      have hx0 : x = [] := List.eq_nil_of_length_eq_zero h0
      subst hx0
      exact tab_nil htab hx
    · rintro k v2 m₂ news₂ h14 tk14 I2 oI2 hk ⟨ev2, o2, kvs2, rfl, rfl, hd2, hkl2, ht0, ht1⟩ hoff2 _ F14 N14
      obtain ⟨z, tz, hvz, hz⟩ := hus.at k v2 hk
      subst hvz
      have hxl : x.length ≤ 1 := ho.1 x (List.mem_of_getElem? hx)
      have hkx : k < x.length := by
        have := (List.getElem?_eq_some_iff.mp hz).1
        simpa [intsL] using this
      have hk0 : k = 0 := by omega
      subst hk0
      obtain ⟨j, rfl⟩ : ∃ j, x = [j] := by
        cases x with
        | nil => simp at hkx
        | cons j r => cases r with
          | nil => exact ⟨j, rfl⟩
          | cons _ _ => simp at hxl
      have hzj : z = (j : Int) := by simpa [intsL] using hz.symm
      subst hzj
      walk_at "go"
      refine Hold.mk ?_
      rename News _ _ _ _ => N15
      rename Fr _ _ _ _ => F15
      have hne1 : @Ne Nat I d4 := fun e => hIo o2 _ List.mem_cons_self e.symm
      have hne2 : @Ne Nat I2 d4 := fun e => hoff2 (d4, o2) (List.mem_cons_of_mem _ List.mem_cons_self) e.symm
      have hi1000 : i < vs.length := (List.getElem?_eq_some_iff.mp hi).1
      refine kda_set F15 N15 (UpdF.tail hne2 (UpdF.tail hne1 (UpdF.head hd4))) hd2 (intKind_is pr w _ _) (by have h4 : (sizeLine : Nat) = 16777216 := rfl; omega) ?_
      intro h16 o16 F16 N16 hd16
      dsimp only
      walk_at "go"
      rename News _ _ _ _ => N17
      rename Fr _ _ _ _ => F17
      have hl2 := stored_length_le kvs2 (j : Int) (.ref a)
      have hoff3 : ∀ q ∈ (I, oI) :: (d4, o16) :: news, q.1 ≠ I2 := fun q hq => by
        rcases List.mem_cons.mp hq with rfl | hq
        · exact hoff2 (I, oI) List.mem_cons_self
        rcases List.mem_cons.mp hq with rfl | hq
        · exact fun e => hne2 e.symm
        · exact hoff2 q (List.mem_cons_of_mem _ (List.mem_cons_of_mem _ hq))
      refine' ⟨_, _, _, _, rfl, F17, N17, hoff3, (fun _ h => nomatch h), _, o16, _, ?em3, rfl, hd16, by omega, (fun h => nomatch h), fun _ => tab_one (ht0 rfl) ho hx hi⟩
      case em3 => walk_at "map_eq"
    · rintro m₂ news₂ h18 tk18 ⟨ev2, o2, kvs2, rfl, rfl, hd2, hkl2, ht0, ht1⟩ _ F18 N18
      have hul : us.length = x.length := by have := hus.length; simpa [intsL] using this
      have hxl : x.length ≤ 1 := ho.1 x (List.mem_of_getElem? hx)
      walk_at "go"
      rename News _ _ _ _ => N19
      rename Fr _ _ _ _ => F19
      refine' ⟨_, _, _, _, rfl, F19, N19, hIo o2, (fun _ h => nomatch h), _, _, o2, kvs2, ?em4, rfl, hd2, by omega, ht1 hul.symm⟩
      case em4 => walk_at "map_eq"
  · rintro m₁ news₁ h tk ⟨pv, ev, o, kvs, rfl, rfl, hd, hkl, htab⟩ _ F20 N20
    rw [gfm.1, List.take_length] at htab
    walk_at "go"
    rename News _ _ _ _ => N21
    rename Fr _ _ _ _ => F21
    obtain ⟨F22, N22⟩ := back _ _ _ F21 N21
    refine hQ _ _ d4 o kvs F22 N22 hd lo4 (tab_ok htab gfm.1) ?_ (fun b o hb hn => F21.keep _ _ (vis b o hb hn))
    cases e : s.heap.get? d4 with
    | none => rfl
    | some o' =>
      by_cases hm : d4 ∈ x1 :: dx1 :: f' :: c' :: x0 :: dx0 :: cl :: news.map Prod.fst
      · exfalso
        have hm' : d4 ∈ List.map Prod.fst ((x1, instObj 45 dx1) :: (dx1, dictOf [ent w.params "root" t0 (.ref x0)] n1) :: (f', lamObj pm cl c' ct) :: (c', oc') :: (x0, instObj 45 dx0) ::
          (dx0, dictOf [ent w.params "root" t1 .none, ent w.params "iter" t2 (.ref f')] n0) :: (cl, oc) :: news) := hm
        obtain ⟨q, hq, hqe⟩ := List.mem_map.mp hm'
        have := l4 q hq
        rw [hqe] at this
        exact Nat.lt_irrefl _ this
      · have h1 := vis d4 o' e hm
        have h2 := (N10 _ List.mem_cons_self).2.2
        rw [h1] at h2; cases h2
end Mine
theorem Mine.offB20 : True := by
  k_with_none
  trivial
end
section
open PySem PySem.W PyProof.Rows PySem.Calls
set_option maxRecDepth 100000
namespace Mine
/-- the signs of a text -/
def sgn (r : List Nat) : List Nat := r.filter (· ≠ 92)
def scan : Nat → List Nat → List Nat
  | m, [] => [m]
  | m, c :: l => if c = 92 then scan (m + 1) l else (m + gd c) :: scan 0 l
theorem weightsL_scan (l : List Nat) : weightsL l = scan 0 l := by
  have key : ∀ (l : List Nat) (a : List Nat) (m : Nat), (l.foldl (fun (s : List Nat × Nat) c => if c = 92 then (s.1, s.2 + 1) else (s.1 ++ [s.2 + gd c], 0)) (a, m)).1 ++
      [(l.foldl (fun (s : List Nat × Nat) c => if c = 92 then (s.1, s.2 + 1) else (s.1 ++ [s.2 + gd c], 0)) (a, m)).2] = a ++ scan m l := by
    intro l
    induction l with
    | nil => intro a m; rfl
    | cons c l ih =>
      intro a m
      rw [List.foldl_cons]
      by_cases h : c = 92
      · simp only [if_pos h]
        rw [ih, scan, if_pos h]
      · simp only [if_neg h]
        rw [ih, scan, if_neg h, List.append_assoc]; rfl
  exact key l [] 0
theorem scan_len (l : List Nat) : ∀ m, (scan m l).length = (sgn l).length + 1 := by
  induction l with
  | nil => intro m; rfl
  | cons c l ih =>
    intro m
    by_cases h : c = 92
    · subst h; rw [scan, if_pos rfl, ih]; simp [sgn]
    · rw [scan, if_neg h, List.length_cons, ih]; simp [sgn, h]
theorem weightsL_len (l : List Nat) : (weightsL l).length = (sgn l).length + 1 := by rw [weightsL_scan, scan_len]
theorem sgn_append (a b : List Nat) : sgn (a ++ b) = sgn a ++ sgn b := List.filter_append ..
theorem sgn_no (l : List Nat) : ∀ c ∈ sgn l, c ≠ 92 := by
  intro c hc; simpa [sgn] using (List.mem_filter.mp hc).2
-- a text from its weights and signs, from the front
theorem textL_cons (w c : Nat) (ws ss : List Nat) : textL (w :: ws) (c :: ss) = List.replicate (w - gd c) 92 ++ c :: textL ws ss := by
  have e : ∀ n, tpart (w :: ws) (c :: ss) (n + 1) = List.replicate (w - gd c) 92 ++ c :: tpart ws ss n := by
    intro n
    simp [tpart, List.range_succ_eq_map, List.flatMap_map]
  show tpart (w :: ws) (c :: ss) (ss.length + 1) ++ List.replicate ((w :: ws).getD (ss.length + 1) 0) 92 = _
  rw [e]; simp [textL]
theorem textL_nil (w : Nat) (ws : List Nat) : textL (w :: ws) [] = List.replicate w 92 := by simp [textL, tpart]
theorem scan_marks (n m : Nat) (l : List Nat) : scan m (List.replicate n 92 ++ l) = scan (m + n) l := by
  induction n generalizing m with
  | zero => rfl
  | succ n ih => rw [List.replicate_succ, List.cons_append, scan, if_pos rfl, ih]; congr 1; omega
theorem sgn_marks (n : Nat) : sgn (List.replicate n 92) = [] := by
  simp [sgn]
theorem sgn_cons {c : Nat} (h : c ≠ 92) (l : List Nat) : sgn (c :: l) = c :: sgn l := by simp [sgn, h]
theorem sgn_bs (l : List Nat) : sgn (92 :: l) = sgn l := by simp [sgn]
theorem round (l : List Nat) : ∀ m, textL (scan m l) (sgn l) = List.replicate m 92 ++ l := by
  induction l with
  | nil => intro m; rw [scan]; exact (textL_nil m []).trans (List.append_nil _).symm
  | cons c l ih =>
    intro m
    by_cases h : c = 92
    · subst h
      rw [scan, if_pos rfl, sgn_bs, ih]
      have : List.replicate (m + 1) 92 = List.replicate m 92 ++ [92] := List.replicate_succ'
      rw [this, List.append_assoc]; rfl
    · rw [scan, if_neg h, sgn_cons h, textL_cons, ih]
      simp
theorem back (l : List Nat) : textL (weightsL l) (sgn l) = l := by rw [weightsL_scan, round]; rfl
theorem same_of {a b : List Nat} (h1 : weightsL a = weightsL b) (h2 : sgn a = sgn b) : a = b := by rw [← back a, h1, h2, back b]
/-- a sign's weight holds its own mark -/
def Holds1 (ws ss : List Nat) : Prop := ws.length = ss.length + 1 ∧ (∀ c ∈ ss, c ≠ 92) ∧ ∀ k, k < ss.length → gd (ss.getD k 0) ≤ ws.getD k 0
theorem of_text : ∀ {ws ss : List Nat}, Holds1 ws ss → ∀ m, scan m (textL ws ss) = (match ws with | [] => [] | w :: r => (m + w) :: r) ∧ sgn (textL ws ss) = ss
  | [], _, h, _ => by have := h.1; simp at this
  | w :: ws, [], h, m => by
    have h1 : ws = [] := List.eq_nil_of_length_eq_zero (by simpa using h.1)
    subst h1
    rw [textL_nil]
    constructor
    · have := scan_marks w m []
      rw [List.append_nil] at this
      rw [this]; rfl
    · exact sgn_marks w
  | w :: ws, c :: ss, h, m => by
    obtain ⟨h1, h2, h3⟩ := h
    have hc : c ≠ 92 := h2 c List.mem_cons_self
    have hg : gd c ≤ w := h3 0 (by simp)
    have hr : Holds1 ws ss := ⟨by simpa using h1, fun c hc => h2 c (List.mem_cons_of_mem _ hc), fun k hk => by simpa using h3 (k + 1) (by simpa using hk)⟩
    have ih := of_text hr 0
    rw [textL_cons, scan_marks, scan, if_neg hc, sgn_append, sgn_marks, sgn_cons hc]
    refine ⟨?_, by rw [ih.2]; rfl⟩
    rw [ih.1]
    have e : m + (w - gd c) + gd c = m + w := by omega
    rw [e]
    cases ws with
    | nil => have := hr.1; simp at this
    | cons x r => simp
theorem weights_text {ws ss : List Nat} (h : Holds1 ws ss) : weightsL (textL ws ss) = ws := by
  rw [weightsL_scan, (of_text h 0).1]
  cases ws with
  | nil => rfl
  | cons x r => simp
theorem sgn_text {ws ss : List Nat} (h : Holds1 ws ss) : sgn (textL ws ss) = ss := (of_text h 0).2
theorem gd_sp {c : Nat} (h : c ≠ 92) : isSp c = true ↔ gd c = 1 := by
  unfold isSp gd
  simp [h]
theorem scan_esc (l : List Nat) : ∀ m, scan (2 * m) (escL l) = (scan m l).map (2 * ·) := by
  induction l with
  | nil => intro m; rfl
  | cons c l ih =>
    intro m
    have e : escL (c :: l) = escL [c] ++ escL l := escL_append [c] l
    rw [e, escL_one]
    by_cases h : c = 92
    · subst h
      have : isSp 92 = true := by decide
      rw [if_pos this]
      show scan (2 * m) (92 :: 92 :: escL l) = _
      rw [scan, if_pos rfl, scan, if_pos rfl, scan, if_pos rfl, ← ih]; rfl
    · by_cases hs : isSp c = true
      · rw [if_pos hs]
        show scan (2 * m) (92 :: c :: escL l) = _
        rw [scan, if_pos rfl, scan, if_neg h, scan, if_neg h, List.map_cons, ← ih]
        have := (gd_sp h).mp hs
        rw [this]; congr 1
      · rw [if_neg hs]
        show scan (2 * m) (c :: escL l) = _
        rw [scan, if_neg h, scan, if_neg h, List.map_cons, ← ih]
        have h0 : gd c = 0 := by
          have := gd_le c
          have h1 : gd c ≠ 1 := fun h1 => hs ((gd_sp h).mpr h1)
          omega
        rw [h0]; rfl
theorem weights_esc (l : List Nat) : weightsL (escL l) = (weightsL l).map (2 * ·) := by rw [weightsL_scan, weightsL_scan]; exact scan_esc l 0
theorem sgn_esc (l : List Nat) : sgn (escL l) = sgn l := by
  induction l with
  | nil => rfl
  | cons c l ih =>
    have e : escL (c :: l) = escL [c] ++ escL l := escL_append [c] l
    rw [e, escL_one, sgn_append, ih]
    by_cases h : c = 92
    · subst h; rw [sgn_bs]; rfl
    · rw [sgn_cons h]
      split
      · rw [sgn_bs, sgn_cons h]; rfl
      · rw [sgn_cons h]; rfl
theorem map_two_inj {a b : List Nat} (h : a.map (2 * ·) = b.map (2 * ·)) : a = b := by
  induction a generalizing b with
  | nil => cases b with
    | nil => rfl
    | cons y b => simp at h
  | cons x a ih => cases b with
    | nil => simp at h
    | cons y b =>
      simp only [List.map_cons, List.cons.injEq] at h
      rw [ih h.2]; congr 1; omega
theorem esc_inj {a b : List Nat} (h : escL a = escL b) : a = b := by
  refine same_of (map_two_inj ?_) ?_
  · rw [← weights_esc, ← weights_esc, h]
  · rw [← sgn_esc a, ← sgn_esc b, h]
theorem esc_fix {a : List Nat} : escL a = a ↔ ∀ m ∈ weightsL a, m = 0 := by
  constructor
  · intro h m hm
    have e := weights_esc a
    rw [h] at e
    obtain ⟨k, hk, rfl⟩ := List.mem_iff_getElem.mp hm
    have : (weightsL a)[k]? = ((weightsL a).map (2 * ·))[k]? := by rw [← e]
    rw [List.getElem?_map, List.getElem?_eq_getElem hk] at this
    simp at this
    omega
  · intro h
    refine same_of ?_ (sgn_esc a)
    rw [weights_esc]
    conv => rhs; rw [← List.map_id (weightsL a)]
    refine List.map_congr_left fun m hm => ?_
    rw [h m hm]; rfl
-- powers
theorem pw_two {ws : List Nat} {P : Nat} (h : IsPw ws P) (hn : ∃ m ∈ ws, m ≠ 0) : IsPw (ws.map (2 * ·)) (2 * P) := by
  obtain ⟨⟨k, hk⟩, _, h2⟩ := h
  obtain ⟨h3, h4⟩ := h2 hn
  refine ⟨⟨k + 1, by rw [hk, Nat.pow_succ, Nat.mul_comm]⟩, fun h0 => ?_, fun _ => ⟨?_, ?_⟩⟩
  · obtain ⟨m, hm, hm0⟩ := hn
    have := h0 (2 * m) (List.mem_map.mpr ⟨m, hm, rfl⟩)
    omega
  · intro m hm
    obtain ⟨m', hm', rfl⟩ := List.mem_map.mp hm
    rw [Nat.mul_mod_mul_left, h3 m' hm']
  · intro h5
    refine h4 fun m hm => ?_
    have := h5 (2 * m) (List.mem_map.mpr ⟨m, hm, rfl⟩)
    rw [Nat.mul_mod_mul_left] at this
    omega
theorem pw_le {ws : List Nat} {a b : Nat} (ha : IsPw ws (2 ^ a)) (hb : IsPw ws (2 ^ b)) (hn : ∃ m ∈ ws, m ≠ 0) : ¬ a < b := by
  intro h
  refine (ha.2.2 hn).2 fun m hm => ?_
  have h1 := (hb.2.2 hn).1 m hm
  obtain ⟨d, rfl⟩ : ∃ d, b = a + 1 + d := ⟨b - (a + 1), by omega⟩
  have h2 : 2 ^ (a + 1 + d) = 2 * 2 ^ a * 2 ^ d := by rw [Nat.pow_add, Nat.pow_succ, Nat.mul_comm (2 ^ a) 2]
  rw [h2] at h1
  have h3 := Nat.dvd_of_mod_eq_zero h1
  exact Nat.mod_eq_zero_of_dvd (Nat.dvd_trans (Nat.dvd_mul_right _ _) h3)
theorem not_all {ws : List Nat} (h : ¬ ∀ m ∈ ws, m = 0) : ∃ m ∈ ws, m ≠ 0 := by
  apply Classical.byContradiction
  intro hn
  exact h fun m hm => Classical.byContradiction fun h0 => hn ⟨m, hm, h0⟩
theorem pw_one {ws : List Nat} {P P' : Nat} (h : IsPw ws P) (h' : IsPw ws P') : P = P' := by
  by_cases h0 : ∀ m ∈ ws, m = 0
  · rw [h.2.1 h0, h'.2.1 h0]
  · have hn := not_all h0
    obtain ⟨a, rfl⟩ := h.1
    obtain ⟨b, rfl⟩ := h'.1
    have h1 := pw_le h h' hn
    have h2 := pw_le h' h hn
    have : a = b := by omega
    rw [this]
def Bare (r : List Nat) : Prop := IsPw (weightsL r) 1
theorem bare_esc {q : List Nat} (h : Bare (escL q)) : escL q = q := by
  apply esc_fix.mpr
  apply Classical.byContradiction
  intro hn
  obtain ⟨m, hm, hm0⟩ := not_all hn
  unfold Bare at h
  rw [weights_esc] at h
  refine (h.2.2 ⟨2 * m, List.mem_map.mpr ⟨m, hm, rfl⟩, by omega⟩).2 fun x hx => ?_
  obtain ⟨y, _, rfl⟩ := List.mem_map.mp hx
  omega
-- the told text and its chain
theorem told_holds {ws ss : List Nat} {k : Nat} (h : ToldOk ws ss) (hP : IsPw ws (2 ^ k)) : Holds1 (divL ws (2 ^ k)) ss := by
  obtain ⟨h7, h92, kk, e, f, hk, he, hf, rfl⟩ := h
  refine ⟨by simp [divL], h92, fun i hi => ?_⟩
  have hg := gd_le (ss.getD i 0)
  by_cases h0 : gd (ss.getD i 0) = 0
  · omega
  have h1 : gd (ss.getD i 0) = 1 := by omega
  rw [h1]
  have hx : ∃ v, (((ss.map gd ++ [0]).set kk ((ss.map gd ++ [0]).getD kk 0 + e)).map (· * f))[i]? = some v ∧ v ≠ 0 := by
    have hb : (ss.map gd ++ [0])[i]? = some 1 := by
      rw [List.getElem?_append_left (by simpa using hi), List.getElem?_map]
      rw [List.getD_eq_getElem?_getD] at h1
      cases hs : ss[i]? with
      | none => have := List.getElem?_eq_none_iff.mp hs; omega
      | some c => rw [hs] at h1; simpa using h1
    rw [List.getElem?_map, List.getElem?_set]
    by_cases hik : kk = i
    · subst hik
      rw [if_pos rfl, if_pos (by simp; omega)]
      refine ⟨_, rfl, ?_⟩
      rw [List.getD_eq_getElem?_getD, hb]
      rcases hf with rfl | rfl | rfl <;> simp <;> omega
    · rw [if_neg hik, hb]
      refine ⟨_, rfl, ?_⟩
      rcases hf with rfl | rfl | rfl <;> simp
  obtain ⟨v, hv, hv0⟩ := hx
  have hm := List.mem_of_getElem? hv
  have hd := (hP.2.2 ⟨v, hm, hv0⟩).1 v hm
  have hle : 2 ^ k ≤ v := Nat.le_of_dvd (by omega) (Nat.dvd_of_mod_eq_zero hd)
  have : (divL (((ss.map gd ++ [0]).set kk ((ss.map gd ++ [0]).getD kk 0 + e)).map (· * f)) (2 ^ k)).getD i 0 = v / 2 ^ k := by
    rw [List.getD_eq_getElem?_getD, divL, List.getElem?_map, hv]; rfl
  rw [this]
  exact Nat.div_pos hle (Nat.two_pow_pos k)
theorem told_le {ws ss : List Nat} (h : ToldOk ws ss) : ws.length = ss.length + 1 ∧ ss.length ≤ 7 ∧ ∀ m ∈ ws, m ≤ 12 := by
  obtain ⟨h7, h92, kk, e, f, hk, he, hf, rfl⟩ := h
  refine ⟨by simp, h7, fun m hm => ?_⟩
  obtain ⟨v, hv, rfl⟩ := List.mem_map.mp hm
  have hb : ∀ v ∈ ss.map gd ++ [0], v ≤ 1 := by
    intro v hv
    rcases List.mem_append.mp hv with h | h
    · obtain ⟨c, _, rfl⟩ := List.mem_map.mp h; exact gd_le c
    · rw [List.mem_singleton.mp h]; omega
  have hv3 : v ≤ 3 := by
    rcases List.mem_or_eq_of_mem_set hv with h | h
    · have := hb v h; omega
    · have := getD_le hb kk; omega
  rcases hf with rfl | rfl | rfl <;> omega
theorem weights_escN (n : Nat) (b : List Nat) : weightsL (escN n b) = (weightsL b).map (2 ^ n * ·) := by
  induction n with
  | zero =>
    rw [escN]
    conv => lhs; rw [← List.map_id (weightsL b)]
    refine List.map_congr_left fun m _ => by simp
  | succ n ih =>
    rw [escN, weights_esc, ih, List.map_map]
    refine List.map_congr_left fun m _ => ?_
    show 2 * (2 ^ n * m) = 2 ^ (n + 1) * m
    rw [← Nat.mul_assoc, Nat.pow_succ, Nat.mul_comm 2]
theorem sgn_escN (n : Nat) (b : List Nat) : sgn (escN n b) = sgn b := by
  induction n with
  | zero => rfl
  | succ n ih => rw [escN, sgn_esc, ih]
theorem div_mul {ws : List Nat} {P : Nat} (h : IsPw ws P) : (divL ws P).map (P * ·) = ws := by
  rw [divL, List.map_map]
  conv => rhs; rw [← List.map_id ws]
  refine List.map_congr_left fun m hm => ?_
  by_cases h0 : ∀ m ∈ ws, m = 0
  · rw [h0 m hm]; simp
  · have := (h.2.2 (not_all h0)).1 m hm
    exact Nat.mul_div_cancel' (Nat.dvd_of_mod_eq_zero this)
theorem told_top {ws ss : List Nat} {k : Nat} (h : ToldOk ws ss) (hP : IsPw ws (2 ^ k)) : escN k (textL (divL ws (2 ^ k)) ss) = textL ws ss := by
  have hh := told_holds h hP
  rw [← back (escN k (textL (divL ws (2 ^ k)) ss)), weights_escN, sgn_escN, weights_text hh, sgn_text hh, div_mul hP]
theorem pw_div {ws : List Nat} {P : Nat} (h : IsPw ws P) : IsPw (divL ws P) 1 := by
  have hPp : 0 < P := by obtain ⟨k, rfl⟩ := h.1; exact Nat.two_pow_pos k
  refine ⟨⟨0, rfl⟩, fun _ => rfl, fun hn => ⟨fun m _ => Nat.mod_one m, fun h5 => ?_⟩⟩
  have hn' : ∃ m ∈ ws, m ≠ 0 := by
    obtain ⟨m, hm, hm0⟩ := hn
    obtain ⟨v, hv, rfl⟩ := List.mem_map.mp hm
    exact ⟨v, hv, fun h0 => hm0 (by rw [h0]; exact Nat.zero_div _)⟩
  refine (h.2.2 hn').2 fun m hm => ?_
  have h1 := h5 (m / P) (List.mem_map.mpr ⟨m, hm, rfl⟩)
  have h2 := Nat.mul_div_cancel' (Nat.dvd_of_mod_eq_zero ((h.2.2 hn').1 m hm))
  have h3 : m = P * 2 * (m / P / 2) := by
    have : m / P = 2 * (m / P / 2) := by omega
    rw [Nat.mul_assoc, ← this, h2]
  rw [h3, Nat.mul_comm 2 P]
  exact Nat.mul_mod_right _ _
theorem told_bare {ws ss : List Nat} {k : Nat} (h : ToldOk ws ss) (hP : IsPw ws (2 ^ k)) : Bare (textL (divL ws (2 ^ k)) ss) := by
  unfold Bare
  rw [weights_text (told_holds h hP)]
  exact pw_div hP
/-- few signs, small weights -/
def Small (r : List Nat) : Prop := (sgn r).length ≤ 7 ∧ ∀ m ∈ weightsL r, m ≤ 24
theorem told_small {ws ss : List Nat} {k j : Nat} (h : ToldOk ws ss) (hP : IsPw ws (2 ^ k)) (hj : j < k + 2) : Small (escN j (textL (divL ws (2 ^ k)) ss)) := by
  have hh := told_holds h hP
  obtain ⟨hl, h7, h12⟩ := told_le h
  refine ⟨by rw [sgn_escN, sgn_text hh]; exact h7, fun m hm => ?_⟩
  rw [weights_escN, weights_text hh, divL, List.map_map] at hm
  obtain ⟨v, hv, rfl⟩ := List.mem_map.mp hm
  have h1 : 2 ^ k * (v / 2 ^ k) ≤ v := Nat.mul_div_le v (2 ^ k)
  have h2 : 2 ^ j ≤ 2 * 2 ^ k := by
    have : 2 ^ j ≤ 2 ^ (k + 1) := Nat.pow_le_pow_right (by decide) (by omega)
    rw [Nat.pow_succ, Nat.mul_comm] at this; exact this
  have h3 : 2 ^ j * (v / 2 ^ k) ≤ 2 * 2 ^ k * (v / 2 ^ k) := Nat.mul_le_mul_right _ h2
  rw [Nat.mul_assoc] at h3
  have := h12 v hv
  show 2 ^ j * (v / 2 ^ k) ≤ 24
  omega
theorem told_k {ws ss : List Nat} {k : Nat} (h : ToldOk ws ss) (hP : IsPw ws (2 ^ k)) : k ≤ 3 := by
  by_cases h0 : ∀ m ∈ ws, m = 0
  · have := hP.2.1 h0
    cases k with
    | zero => omega
    | succ k => rw [Nat.pow_succ] at this; omega
  · obtain ⟨m, hm, hm0⟩ := not_all h0
    have h1 := (hP.2.2 ⟨m, hm, hm0⟩).1 m hm
    have h2 : 2 ^ k ≤ m := Nat.le_of_dvd (by omega) (Nat.dvd_of_mod_eq_zero h1)
    have h3 := (told_le h).2.2 m hm
    apply Nat.le_of_not_lt
    intro h4
    have : 2 ^ 4 ≤ 2 ^ k := Nat.pow_le_pow_right (by decide) h4
    omega
theorem small_len {r : List Nat} (h : Small r) : r.length ≤ 7 + 8 * 24 := by
  have key : ∀ (l : List Nat) (m : Nat), m + l.length ≤ (sgn l).length + (scan m l).sum := by
    intro l
    induction l with
    | nil => intro m; simp [scan, sgn]
    | cons c l ih =>
      intro m
      by_cases h : c = 92
      · subst h
        rw [scan, if_pos rfl, sgn_bs, List.length_cons]
        have := ih (m + 1); omega
      · rw [scan, if_neg h, sgn_cons h, List.length_cons, List.length_cons, List.sum_cons]
        have := ih 0; omega
  have h1 := key r 0
  rw [← weightsL_scan] at h1
  have h2 : ∀ (l : List Nat), (∀ m ∈ l, m ≤ 24) → l.sum ≤ l.length * 24 := by
    intro l
    induction l with
    | nil => intro _; simp
    | cons c l ih =>
      intro h
      have := ih fun m hm => h m (List.mem_cons_of_mem _ hm)
      have := h c List.mem_cons_self
      rw [List.sum_cons, List.length_cons]; omega
  have h3 := h2 _ h.2
  rw [weightsL_len] at h3
  have := h.1
  omega
end Mine
end
section
open PySem PySem.W PyProof.Rows PySem.Calls PySem.Builtin PySem.Builtin.Str
set_option maxRecDepth 100000
namespace Mine
theorem slice_head (l : List Nat) : Txt.slice (tx l) none (some 3) = tx (l.take 3) := by
  match l with
  | [] => with_unfolding_all rfl
  | [a] => with_unfolding_all exact Eq.refl (tx [a])
  | [a, b] => with_unfolding_all exact Eq.refl (tx [a, b])
  | x :: y :: z :: r =>
    rw [beq_iff_eq.mp (slice_closes_toL (x := tx (x :: y :: z :: r)) (j := 3) (by decide) (by rw [tx_len]; simp only [List.length_cons]; omega))]
    rfl
theorem slice_tail2 (l : List Nat) (k : Nat) (h : l.length = k + 2) : Txt.slice (tx l) (some (-2)) none = tx (l.drop k) := by
  have e : strSliceIndices (some (-2)) none 1 (tx l).length = strSliceIndices (some (k : Int)) none 1 (tx l).length := by
    rw [tx_len, h]
    have h2 : (1 : Int) > 0 := by decide
    simp only [strSliceIndices, h2, if_true]
    congr 1
    clear h
    rw [if_pos (by decide), if_neg (by omega), show ((k + 2 : Nat) : Int) = (k : Int) + 2 from rfl]
    omega
  have e2 : Txt.slice (tx l) (some (-2)) none = Txt.slice (tx l) (some (k : Int)) none := by
    unfold Txt.slice
    rw [e]
  rw [e2, slice_from_eq (x := tx l) (b := (l.length : Int)) (by omega) (by rw [tx_len]; omega) rfl]
  unfold tx
  congr 1
  show ((l.drop _).take _).toArray = _
  rw [List.take_of_length_le]
  · simp
  · rw [List.length_drop]; omega
theorem slice_tail (l : List Nat) : Txt.slice (tx l) (some (-2)) none = tx (l.drop (l.length - 2)) := by
  match l with
  | [] => with_unfolding_all rfl
  | [a] => with_unfolding_all exact Eq.refl (tx [a])
  | x :: y :: r => exact slice_tail2 (x :: y :: r) r.length rfl
def hd3 (l : List Nat) : Bool := decide (l.take 3 = [123, 42, 125])
def tl2 (l : List Nat) : Bool := decide (l.drop (l.length - 2) = [125, 42])
theorem head_beq (l : List Nat) : (Txt.slice (tx l) none (some 3) == Str.ofString "{*}") = hd3 l := by rw [slice_head, lit_head, tx_beq]; rfl
theorem tail_beq (l : List Nat) : (Txt.slice (tx l) (some (-2)) none == Str.ofString "}*") = tl2 l := by rw [slice_tail, lit_tail, tx_beq]; rfl
theorem wild_tx (l : List Nat) : wild (tx l) = (hd3 l || tl2 l) := by unfold wild; rw [head_beq, tail_beq]
/-- the same asked of signs and weights -/
def hdW (P : Nat) (ws : List Nat) : Bool := decide (ws.take 3 = [P, P, P])
def tlW (P : Nat) (ws : List Nat) : Bool := decide (ws.drop (ws.length - 2) = [P, 0])
theorem hd3_text (b : List Nat) : hd3 b = (hd3 (sgn b) && hdW 1 (weightsL b)) := by
  have key : (b.take 3 = [123, 42, 125]) ↔ ((sgn b).take 3 = [123, 42, 125] ∧ (weightsL b).take 3 = [1, 1, 1]) := by
    constructor
    · intro h
      have e : b = 123 :: 42 :: 125 :: b.drop 3 := by rw [← List.take_append_drop 3 b, h]; rfl
      rw [e]
      refine ⟨rfl, ?_⟩
      rw [weightsL_scan]; rfl
    · rintro ⟨h1, h2⟩
      have e1 : sgn b = 123 :: 42 :: 125 :: (sgn b).drop 3 := by
        conv => lhs; rw [← List.take_append_drop 3 (sgn b), h1]
        rfl
      have e2 : weightsL b = 1 :: 1 :: 1 :: (weightsL b).drop 3 := by
        conv => lhs; rw [← List.take_append_drop 3 (weightsL b), h2]
        rfl
      have e3 := back b
      rw [e1, e2, textL_cons, textL_cons, textL_cons] at e3
      rw [← e3]; rfl
  unfold hd3 hdW
  by_cases h : b.take 3 = [123, 42, 125]
  · have := key.mp h
    simp [h, this.1, this.2]
  · rw [decide_eq_false h]
    symm
    rw [Bool.and_eq_false_iff]
    by_cases h1 : (sgn b).take 3 = [123, 42, 125]
    · right; exact decide_eq_false fun h2 => h (key.mpr ⟨h1, h2⟩)
    · left; exact decide_eq_false h1
theorem drop_end {l : List Nat} {x y : Nat} (h : l.drop (l.length - 2) = [x, y]) : ∃ t, l = t ++ [x, y] := ⟨l.take (l.length - 2), by
  conv => lhs; rw [← List.take_append_drop (l.length - 2) l, h]⟩
theorem end_drop (t : List Nat) (x y : Nat) : (t ++ [x, y]).drop ((t ++ [x, y]).length - 2) = [x, y] := by
  have : (t ++ [x, y]).length - 2 = t.length := by simp
  rw [this]; simp
theorem textL_app : ∀ (ws ss ws' ss' : List Nat), ws.length = ss.length → textL (ws ++ ws') (ss ++ ss') = tpart ws ss ss.length ++ textL ws' ss'
  | [], [], ws', ss', _ => by simp [tpart]
  | w :: ws, c :: ss, ws', ss', h => by
    have ih := textL_app ws ss ws' ss' (by simpa using h)
    rw [List.cons_append, List.cons_append, textL_cons, ih]
    have e : tpart (w :: ws) (c :: ss) (ss.length + 1) = List.replicate (w - gd c) 92 ++ c :: tpart ws ss ss.length := by
      simp [tpart, List.range_succ_eq_map, List.flatMap_map]
    show _ = tpart (w :: ws) (c :: ss) (ss.length + 1) ++ _
    rw [e]; simp
  | [], _ :: _, _, _, h => by simp at h
  | _ :: _, [], _, _, h => by simp at h
theorem tl2_text (b : List Nat) : tl2 b = (tl2 (sgn b) && tlW 1 (weightsL b)) := by
  have key : (b.drop (b.length - 2) = [125, 42]) ↔ ((sgn b).drop ((sgn b).length - 2) = [125, 42] ∧ (weightsL b).drop ((weightsL b).length - 2) = [1, 0]) := by
    constructor
    · intro h
      obtain ⟨t, e⟩ := drop_end h
      subst e
      refine ⟨?_, ?_⟩
      · have e1 : sgn (t ++ [125, 42]) = sgn t ++ [125, 42] := sgn_append _ _
        rw [e1]; exact end_drop _ _ _
      · have e2 : t ++ [125, 42] = (t ++ [125]) ++ [42] := by simp
        have e1 : weightsL (t ++ [125, 42]) = ((wst t).1 ++ [(wst t).2 + 1]) ++ [1, 0] := by
          unfold weightsL
          rw [e2, wst_snoc, if_neg (by decide), wst_snoc, if_neg (by decide)]
          simp only [List.append_assoc]
          rfl
        rw [e1]; exact end_drop _ _ _
    · rintro ⟨h1, h2⟩
      obtain ⟨s, es⟩ := drop_end h1
      obtain ⟨v, ev⟩ := drop_end h2
      have hl := weightsL_len b
      rw [es, ev] at hl
      have hlv : v.length = s.length + 1 := by simpa using hl
      have hv : ∃ v' x, v = v' ++ [x] := by
        rcases List.eq_nil_or_concat v with h | ⟨v', x, h⟩
        · rw [h] at hlv; simp at hlv
        · exact ⟨v', x, by rw [h]; simp⟩
      obtain ⟨v', x, rfl⟩ := hv
      have e3 := back b
      rw [es, ev, List.append_assoc, textL_app v' s ([x] ++ [1, 0]) [125, 42] (by simpa using hlv)] at e3
      have e4 : textL ([x] ++ [1, 0]) [125, 42] = List.replicate (x - 1) 92 ++ [125, 42] := by
        show textL (x :: 1 :: [0]) (125 :: 42 :: []) = _
        rw [textL_cons, textL_cons, textL_nil]; rfl
      rw [e4, ← List.append_assoc] at e3
      rw [← e3]; exact end_drop _ _ _
  unfold tl2 tlW
  by_cases h : b.drop (b.length - 2) = [125, 42]
  · have := key.mp h
    simp [h, this.1, this.2]
  · rw [decide_eq_false h]
    symm
    rw [Bool.and_eq_false_iff]
    by_cases h1 : (sgn b).drop ((sgn b).length - 2) = [125, 42]
    · right; exact decide_eq_false fun h2 => h (key.mpr ⟨h1, h2⟩)
    · left; exact decide_eq_false h1
theorem map_mul_inj {P : Nat} (hP : 0 < P) {a b : List Nat} (h : a.map (P * ·) = b.map (P * ·)) : a = b := by
  induction a generalizing b with
  | nil => cases b with
    | nil => rfl
    | cons y b => simp at h
  | cons x a ih => cases b with
    | nil => simp at h
    | cons y b =>
      simp only [List.map_cons, List.cons.injEq] at h
      rw [ih h.2, Nat.eq_of_mul_eq_mul_left hP h.1]
theorem hdW_mul {P : Nat} (hP : 0 < P) (ws : List Nat) : hdW P (ws.map (P * ·)) = hdW 1 ws := by
  unfold hdW
  have e : ([P, P, P] : List Nat) = [1, 1, 1].map (P * ·) := by simp
  rw [e, ← List.map_take]
  by_cases h : ws.take 3 = [1, 1, 1]
  · rw [h]; simp
  · rw [decide_eq_false h]; exact decide_eq_false fun h2 => h (map_mul_inj hP h2)
theorem tlW_mul {P : Nat} (hP : 0 < P) (ws : List Nat) : tlW P (ws.map (P * ·)) = tlW 1 ws := by
  unfold tlW
  have e : ([P, 0] : List Nat) = [1, 0].map (P * ·) := by simp
  rw [e, ← List.map_drop, List.length_map]
  by_cases h : ws.drop (ws.length - 2) = [1, 0]
  · rw [h]; simp
  · rw [decide_eq_false h]; exact decide_eq_false fun h2 => h (map_mul_inj hP h2)
theorem wild_some {b : List Nat} (h : wild (tx b) = true) : 1 ∈ weightsL b := by
  rw [wild_tx, hd3_text, tl2_text] at h
  rcases Bool.or_eq_true_iff.mp h with h | h
  · have h2 := of_decide_eq_true ((Bool.and_eq_true_iff.mp h).2)
    exact List.mem_of_mem_take (by rw [h2]; simp : 1 ∈ (weightsL b).take 3)
  · have h2 := of_decide_eq_true ((Bool.and_eq_true_iff.mp h).2)
    exact List.mem_of_mem_drop (by rw [h2]; simp : 1 ∈ (weightsL b).drop ((weightsL b).length - 2))
theorem wild_esc (q : List Nat) : wild (tx (escL q)) = false := by
  cases h : wild (tx (escL q)) with
  | false => rfl
  | true =>
    have := wild_some h
    rw [weights_esc] at this
    obtain ⟨m, _, hm⟩ := List.mem_map.mp this
    omega
end Mine
end
section
open PySem PySem.W PyProof.Rows PySem.Calls
set_option maxRecDepth 100000
namespace Mine
/-- rows: no text twice, each bare or the escape of a row ahead of it -/
structure RowsOk (R : List (List Nat)) : Prop where
  nodup : R.Nodup
  small : ∀ r ∈ R, Small r
  down : ∀ (i : Nat) r, R[i]? = some r → Bare r ∨ ∃ j q, j < i ∧ R[j]? = some q ∧ r = escL q
theorem RowsOk.nil : RowsOk [] := ⟨List.nodup_nil, (fun _ h => nomatch h), fun i r h => nomatch (List.mem_of_getElem? h)⟩
theorem RowsOk.snoc {R : List (List Nat)} (h : RowsOk R) {r : List Nat} (hn : r ∉ R) (hs : Small r) (hd : Bare r ∨ ∃ q ∈ R, r = escL q) : RowsOk (R ++ [r]) := by
  refine ⟨?_, ?_, ?_⟩
  · rw [List.nodup_append]
    refine ⟨h.nodup, List.nodup_cons.mpr ⟨List.not_mem_nil, List.nodup_nil⟩, ?_⟩
    intro a ha b hb
    rw [List.mem_singleton.mp hb]
    rintro rfl
    exact hn ha
  · intro a ha
    rcases List.mem_append.mp ha with ha | ha
    · exact h.small a ha
    · rw [List.mem_singleton.mp ha]; exact hs
  · intro i a hi
    by_cases hlt : i < R.length
    · rw [List.getElem?_append_left hlt] at hi
      rcases h.down i a hi with h1 | ⟨j, q, hj, hq, e⟩
      · exact .inl h1
      · exact .inr ⟨j, q, hj, by rw [List.getElem?_append_left (by omega)]; exact hq, e⟩
    · rw [List.getElem?_append_right (by omega)] at hi
      have h0 : i - R.length = 0 := by
        apply Classical.byContradiction
        intro hne
        have : i - R.length = (i - R.length - 1) + 1 := by omega
        rw [this] at hi
        simp at hi
      rw [h0] at hi
      have : r = a := by simpa using hi
      subst this
      rcases hd with hb | ⟨q, hq, e⟩
      · exact .inl hb
      · obtain ⟨j, hj, rfl⟩ := List.mem_iff_getElem.mp hq
        exact .inr ⟨j, R[j], by omega, by rw [List.getElem?_append_left hj, List.getElem?_eq_getElem hj], e⟩
/-- a row is put behind the others, once -/
def addRow (R : List (List Nat)) (r : List Nat) : List (List Nat) := if r ∈ R then R else R ++ [r]
/-- the rows while a chain is put to them: what of the chain is in -/
def ChainIn' (b : List Nat) (n j : Nat) (R : List (List Nat)) : Prop := RowsOk R ∧ R.length ≤ n + j ∧ (0 < j → escN (j - 1) b ∈ R)
theorem ChainIn'.step {b : List Nat} {n j : Nat} {R : List (List Nat)} (h : ChainIn' b n j R) (hb : Bare b) (hs : Small (escN j b)) : ChainIn' b n (j + 1) (addRow R (escN j b)) := by
  obtain ⟨h1, h2, h3⟩ := h
  unfold addRow
  by_cases hm : escN j b ∈ R
  · rw [if_pos hm]
    exact ⟨h1, by omega, fun _ => hm⟩
  · rw [if_neg hm]
    refine ⟨h1.snoc hm hs ?_, by simp; omega, fun _ => by simp⟩
    cases j with
    | zero => exact .inl hb
    | succ j => exact .inr ⟨escN j b, h3 (by omega), rfl⟩
-- families
def famL (R : List (List Nat)) (i : Nat) : List Nat := (List.range R.length).filter fun j => decide (j ≠ i) && decide (R.getD j [] = escL (R.getD i []))
def fams (R : List (List Nat)) : List (List Nat) := (List.range R.length).map (famL R)
theorem fams_len (R : List (List Nat)) : (fams R).length = R.length := by simp [fams]
theorem fams_get {R : List (List Nat)} {i : Nat} (h : i < R.length) : (fams R)[i]? = some (famL R i) := by simp [fams, h]
theorem getD_get {R : List (List Nat)} {i : Nat} {r : List Nat} (h : R[i]? = some r) : R.getD i [] = r := by rw [List.getD_eq_getElem?_getD, h]; rfl
theorem get_getD {R : List (List Nat)} {i : Nat} (h : i < R.length) : R[i]? = some (R.getD i []) := by rw [List.getD_eq_getElem?_getD, List.getElem?_eq_getElem h]; rfl
theorem nodup_idx {R : List (List Nat)} (h : R.Nodup) {i j : Nat} {r : List Nat} (hi : R[i]? = some r) (hj : R[j]? = some r) : i = j := by
  have hi' := (List.getElem?_eq_some_iff.mp hi)
  have hj' := (List.getElem?_eq_some_iff.mp hj)
  obtain ⟨h1, e1⟩ := hi'
  obtain ⟨h2, e2⟩ := hj'
  rcases Nat.lt_trichotomy i j with hlt | he | hlt
  · exact absurd (e1.trans e2.symm) (List.pairwise_iff_getElem.mp h i j h1 h2 hlt)
  · exact he
  · exact absurd (e2.trans e1.symm) (List.pairwise_iff_getElem.mp h j i h2 h1 hlt)
theorem mem_fam {R : List (List Nat)} {i j : Nat} : j ∈ famL R i ↔ j < R.length ∧ j ≠ i ∧ R.getD j [] = escL (R.getD i []) := by
  simp [famL, List.mem_filter]
theorem len_one {l : List Nat} (hn : l.Nodup) (h : ∀ a ∈ l, ∀ b ∈ l, a = b) : l.length ≤ 1 := by
  cases l with
  | nil => simp
  | cons a l => cases l with
    | nil => simp
    | cons b l =>
      have := h a List.mem_cons_self b (List.mem_cons_of_mem _ List.mem_cons_self)
      subst this
      simp at hn
theorem fam_one {R : List (List Nat)} (h : R.Nodup) (i : Nat) : (famL R i).length ≤ 1 := by
  refine len_one (List.Pairwise.filter _ List.nodup_range) fun a ha b hb => ?_
  have h1 := mem_fam.mp ha
  have h2 := mem_fam.mp hb
  refine nodup_idx h (r := R.getD a []) (get_getD h1.1) ?_
  rw [get_getD h2.1, h1.2.2, h2.2.2]
theorem fam_eq_one {R : List (List Nat)} (h : R.Nodup) {i j : Nat} : famL R i = [j] ↔ j ∈ famL R i := by
  constructor
  · intro e; rw [e]; exact List.mem_singleton.mpr rfl
  · intro hm
    have h1 := fam_one h i
    match hf : famL R i with
    | [] => rw [hf] at hm; cases hm
    | [a] => rw [hf] at hm; rw [List.mem_singleton.mp hm]
    | a :: b :: l => rw [hf] at h1; simp at h1
theorem fams_once {R : List (List Nat)} (h : R.Nodup) : Once (fams R) := by
  refine ⟨?_, ?_⟩
  · intro x hx
    obtain ⟨i, _, rfl⟩ := List.mem_map.mp hx
    exact fam_one h i
  · intro p q j hp hq
    have h1 : p < R.length := by have := (List.getElem?_eq_some_iff.mp hp).1; rwa [fams_len] at this
    have h2 : q < R.length := by have := (List.getElem?_eq_some_iff.mp hq).1; rwa [fams_len] at this
    rw [fams_get h1] at hp
    rw [fams_get h2] at hq
    have m1 := mem_fam.mp ((fam_eq_one h).mp (Option.some.inj hp))
    have m2 := mem_fam.mp ((fam_eq_one h).mp (Option.some.inj hq))
    have e : R.getD p [] = R.getD q [] := esc_inj (by rw [← m1.2.2, ← m2.2.2])
    exact nodup_idx h (get_getD h1) (by rw [get_getD h2, e])
theorem par_iff {R : List (List Nat)} (h : R.Nodup) {j p : Nat} : parF (fams R) j = some p ↔ p < R.length ∧ j < R.length ∧ j ≠ p ∧ R.getD j [] = escL (R.getD p []) := by
  unfold parF
  rw [List.findIdx?_eq_some_iff_getElem]
  constructor
  · rintro ⟨hp, h1, h2⟩
    have hp' : p < R.length := by rwa [fams_len] at hp
    have e : (fams R)[p] = famL R p := by simp [fams]
    rw [e] at h1
    have hm := mem_fam.mp ((fam_eq_one h).mp (eq_of_beq h1))
    exact ⟨hp', hm⟩
  · rintro ⟨hp, hm⟩
    have hm' := (fam_eq_one h).mpr (mem_fam.mpr hm)
    refine ⟨by rwa [fams_len], ?_, ?_⟩
    · have e : (fams R)[p]'(by rwa [fams_len]) = famL R p := by simp [fams]
      rw [e, hm']; simp
    · intro q hq hc
      have hq' : q < R.length := by omega
      have e : (fams R)[q]'(by rw [fams_len]; exact hq') = famL R q := by simp [fams]
      rw [e] at hc
      have hc' := eq_of_beq hc
      have := (fams_once h).2 q p j (by rw [fams_get hq', hc']) (by rw [fams_get hp, hm'])
      omega
theorem par_lt {R : List (List Nat)} (h : RowsOk R) {j p : Nat} (hp : parF (fams R) j = some p) : p < j := by
  obtain ⟨h1, h2, h3, h4⟩ := (par_iff h.nodup).mp hp
  rcases h.down j _ (get_getD h2) with hb | ⟨q, r, hq, hr, e⟩
  · rw [h4] at hb
    have e := bare_esc hb
    exact absurd (nodup_idx h.nodup (get_getD h2) (by rw [get_getD h1, h4, e])) h3
  · rw [h4] at e
    have : R.getD p [] = r := esc_inj e
    have hpq := nodup_idx h.nodup (get_getD h1) (by rw [hr, this])
    omega
theorem par_none {R : List (List Nat)} (h : RowsOk R) {j : Nat} (hj : j < R.length) (hp : parF (fams R) j = none) : Bare (R.getD j []) := by
  rcases h.down j _ (get_getD hj) with hb | ⟨q, r, hq, hr, e⟩
  · exact hb
  · have : parF (fams R) j = some q := (par_iff h.nodup).mpr ⟨by omega, hj, by omega, by rw [e, getD_get hr]⟩
    rw [this] at hp; cases hp
theorem climb_fuel {par : Nat → Option Nat} (hp : ∀ j p, par j = some p → p < j) : ∀ (i f f' : Nat), i ≤ f → i ≤ f' → climbF par f i = climbF par f' i := by
  intro i
  induction i using Nat.strongRecOn with
  | _ i ih =>
    intro f f' h h'
    have step : ∀ f, i ≤ f → climbF par f i = (match par i with | none => (0, i) | some p => ((climbF par (f - 1) p).1 + 1, (climbF par (f - 1) p).2)) := by
      intro f hf
      cases f with
      | zero =>
        have : i = 0 := by omega
        subst this
        cases hpp : par 0 with
        | none => simp [climbF]
        | some p => exact absurd (hp 0 p hpp) (by omega)
      | succ f => simp only [climbF]; rfl
    rw [step f h, step f' h']
    cases hpp : par i with
    | none => rfl
    | some p =>
      have := hp i p hpp
      dsimp only
      rw [ih p this (f - 1) (f' - 1) (by omega) (by omega)]
end Mine
end
section
open PySem PySem.W PyProof.Rows PySem.Calls
set_option maxRecDepth 100000
namespace Mine
def stp (R : List (List Nat)) (i : Nat) : Nat := (climbF (parF (fams R)) (fams R).length i).1
def top (R : List (List Nat)) (i : Nat) : Nat := (climbF (parF (fams R)) (fams R).length i).2
theorem climb_none {R : List (List Nat)} {i : Nat} (h : parF (fams R) i = none) : stp R i = 0 ∧ top R i = i := by
  unfold stp top
  cases (fams R).length with
  | zero => exact ⟨rfl, rfl⟩
  | succ n => simp [climbF, h]
theorem climb_some {R : List (List Nat)} (hR : RowsOk R) {i p : Nat} (h : parF (fams R) i = some p) : stp R i = stp R p + 1 ∧ top R i = top R p := by
  have hp := par_lt hR h
  obtain ⟨h1, h2, _, _⟩ := (par_iff hR.nodup).mp h
  have hl := fams_len R
  unfold stp top
  cases hn : (fams R).length with
  | zero => omega
  | succ n =>
    have e : climbF (parF (fams R)) n p = climbF (parF (fams R)) (n + 1) p := climb_fuel (fun _ _ => par_lt hR) p n (n + 1) (by omega) (by omega)
    rw [← e]
    simp only [climbF, h]
    exact ⟨trivial, trivial⟩
theorem climb_ok {R : List (List Nat)} (hR : RowsOk R) : ∀ i, i < R.length → top R i < R.length ∧ Bare (R.getD (top R i) []) ∧ sgn (R.getD i []) = sgn (R.getD (top R i) []) ∧
    weightsL (R.getD i []) = (weightsL (R.getD (top R i) [])).map (2 ^ stp R i * ·) ∧ IsPw (weightsL (R.getD i [])) (2 ^ stp R i) := by
  intro i
  induction i using Nat.strongRecOn with
  | _ i ih =>
    intro hi
    cases h : parF (fams R) i with
    | none =>
      obtain ⟨e1, e2⟩ := climb_none h
      have hb := par_none hR hi h
      rw [e1, e2]
      refine ⟨hi, hb, rfl, ?_, hb⟩
      conv => lhs; rw [← List.map_id (weightsL _)]
      exact List.map_congr_left fun m _ => by simp
    | some p =>
      obtain ⟨e1, e2⟩ := climb_some hR h
      have hp := par_lt hR h
      obtain ⟨h1, _, hne, he⟩ := (par_iff hR.nodup).mp h
      obtain ⟨a1, a2, a3, a4, a5⟩ := ih p hp h1
      rw [e1, e2]
      refine ⟨a1, a2, ?_, ?_, ?_⟩
      · rw [he, sgn_esc, a3]
      · rw [he, weights_esc, a4, List.map_map]
        refine List.map_congr_left fun m _ => ?_
        show 2 * (2 ^ stp R p * m) = 2 ^ (stp R p + 1) * m
        rw [← Nat.mul_assoc, Nat.pow_succ, Nat.mul_comm 2]
      · rw [he, weights_esc, Nat.pow_succ, Nat.mul_comm]
        refine pw_two a5 (not_all fun h0 => hne ?_)
        have := esc_fix.mpr h0
        exact nodup_idx hR.nodup (get_getD hi) (by rw [get_getD h1, he, this])
theorem pow_pos (k : Nat) : 0 < 2 ^ k := Nat.two_pow_pos k
theorem top_text {R : List (List Nat)} (hR : RowsOk R) {i : Nat} (hi : i < R.length) : R.getD (top R i) [] = textL (divL (weightsL (R.getD i [])) (2 ^ stp R i)) (sgn (R.getD i [])) := by
  obtain ⟨_, _, a3, a4, _⟩ := climb_ok hR i hi
  rw [a4, a3]
  have e : divL ((weightsL (R.getD (top R i) [])).map (2 ^ stp R i * ·)) (2 ^ stp R i) = weightsL (R.getD (top R i) []) := by
    rw [divL, List.map_map]
    conv => rhs; rw [← List.map_id (weightsL _)]
    exact List.map_congr_left fun m _ => Nat.mul_div_cancel_left m (pow_pos _)
  rw [e, back]
theorem top_wild {R : List (List Nat)} (hR : RowsOk R) {i : Nat} (hi : i < R.length) : wild (tx (R.getD (top R i) [])) =
    ((hd3 (sgn (R.getD i [])) && hdW (2 ^ stp R i) (weightsL (R.getD i []))) || (tl2 (sgn (R.getD i [])) && tlW (2 ^ stp R i) (weightsL (R.getD i [])))) := by
  obtain ⟨_, _, a3, a4, _⟩ := climb_ok hR i hi
  rw [a4, a3, hdW_mul (pow_pos _), tlW_mul (pow_pos _), wild_tx, ← hd3_text, ← tl2_text]
def home (R : List (List Nat)) (i : Nat) : List Nat := if wild (tx (R.getD (top R i) [])) = true then escL (R.getD i []) else R.getD i []
theorem top_moves {R : List (List Nat)} (hR : RowsOk R) {i : Nat} (hi : i < R.length) (h : wild (tx (R.getD (top R i) [])) = true) : escL (R.getD i []) ≠ R.getD i [] := by
  intro h2
  obtain ⟨_, _, _, a4, _⟩ := climb_ok hR i hi
  have h1 := wild_some h
  have h0 := esc_fix.mp h2 (2 ^ stp R i * 1) (by rw [a4]; exact List.mem_map.mpr ⟨1, h1, rfl⟩)
  have := pow_pos (stp R i)
  omega
theorem home_moves {R : List (List Nat)} (hR : RowsOk R) {i : Nat} (hi : i < R.length) : decide (home R i ≠ R.getD i []) = wild (tx (R.getD (top R i) [])) := by
  unfold home
  cases h : wild (tx (R.getD (top R i) [])) with
  | true => rw [if_pos rfl]; exact decide_eq_true (top_moves hR hi h)
  | false => simp
/-- a row that is no bare one is the escape of its parent -/
theorem par_esc {R : List (List Nat)} (hR : RowsOk R) {i : Nat} (hi : i < R.length) : (top R i = i) ∨ ∃ p, p < R.length ∧ R.getD i [] = escL (R.getD p []) ∧ top R i = top R p := by
  cases h : parF (fams R) i with
  | none => exact .inl (climb_none h).2
  | some p =>
    obtain ⟨h1, _, _, he⟩ := (par_iff hR.nodup).mp h
    exact .inr ⟨p, h1, he, (climb_some hR h).2⟩
theorem home_tame {R : List (List Nat)} (hR : RowsOk R) {i : Nat} (hi : i < R.length) : wild (tx (home R i)) = false := by
  unfold home
  cases h : wild (tx (R.getD (top R i) [])) with
  | true => rw [if_pos rfl]; exact wild_esc _
  | false =>
    rw [if_neg (by decide)]
    rcases par_esc hR hi with e | ⟨p, _, e, _⟩
    · rw [e] at h; exact h
    · rw [e]; exact wild_esc _
theorem count_one {f : Nat → List Nat} {a : List Nat} {i : Nat} : ∀ {l : List Nat}, l.Nodup → i ∈ l → f i = a → (∀ j ∈ l, f j = a → j = i) → (l.map f).count a = 1
  | x :: l, hn, hi, hf, hu => by
    have hn' := List.nodup_cons.mp hn
    rw [List.map_cons, List.count_cons]
    by_cases hx : x = i
    · subst hx
      have h0 : (l.map f).count a = 0 := by
        rw [List.count_eq_zero]
        intro hm
        obtain ⟨j, hj, e⟩ := List.mem_map.mp hm
        have := hu j (List.mem_cons_of_mem _ hj) e
        subst this
        exact hn'.1 hj
      rw [h0, hf]; simp
    · have h1 := count_one hn'.2 (by rcases List.mem_cons.mp hi with h | h; exact absurd h.symm hx; exact h) hf fun j hj => hu j (List.mem_cons_of_mem _ hj)
      have h2 : ¬ f x = a := fun e => hx (hu x List.mem_cons_self e)
      rw [h1]; simp [h2]
def homes (R : List (List Nat)) : List (List Nat) := (List.range R.length).map (home R)
theorem home_count {R : List (List Nat)} (hR : RowsOk R) {i : Nat} (hi : i < R.length) : (homes R).count (R.getD i []) = if wild (tx (R.getD i [])) = true then 0 else 1 := by
  by_cases hw : wild (tx (R.getD i [])) = true
  · rw [if_pos hw, List.count_eq_zero]
    intro hm
    obtain ⟨j, hj, e⟩ := List.mem_map.mp hm
    have := home_tame hR (List.mem_range.mp hj)
    rw [e, hw] at this; cases this
  · rw [if_neg hw]
    unfold homes
    by_cases ht : wild (tx (R.getD (top R i) [])) = true
    · rcases par_esc hR hi with e | ⟨p, hp, e, et⟩
      · rw [e] at ht; exact absurd ht hw
      · refine count_one (i := p) List.nodup_range (List.mem_range.mpr hp) ?_ fun j hj e2 => ?_
        · unfold home; rw [← et, if_pos ht, e]
        · have hj' := List.mem_range.mp hj
          unfold home at e2
          by_cases h2 : wild (tx (R.getD (top R j) [])) = true
          · rw [if_pos h2, e] at e2
            exact nodup_idx hR.nodup (get_getD hj') (by rw [get_getD hp, esc_inj e2])
          · rw [if_neg h2] at e2
            have := nodup_idx hR.nodup (get_getD hj') (by rw [get_getD hi, e2])
            subst this
            exact absurd ht h2
    · refine count_one (i := i) List.nodup_range (List.mem_range.mpr hi) ?_ fun j hj e2 => ?_
      · unfold home; rw [if_neg ht]
      · have hj' := List.mem_range.mp hj
        unfold home at e2
        by_cases h2 : wild (tx (R.getD (top R j) [])) = true
        · rw [if_pos h2] at e2
          apply Classical.byContradiction
          intro hne
          have hpar : parF (fams R) i = some j := (par_iff hR.nodup).mpr ⟨hj', hi, fun h => hne h.symm, e2.symm⟩
          rw [(climb_some hR hpar).2] at ht
          exact ht h2
        · rw [if_neg h2] at e2
          exact nodup_idx hR.nodup (get_getD hj') (by rw [get_getD hi, e2])
theorem small_get {R : List (List Nat)} (hR : RowsOk R) {i : Nat} (hi : i < R.length) : Small (R.getD i []) := hR.small _ (by
  rw [List.getD_eq_getElem?_getD, List.getElem?_eq_getElem hi]; exact List.getElem_mem hi)
theorem stp_le {R : List (List Nat)} (hR : RowsOk R) {i : Nat} (hi : i < R.length) : 2 ^ stp R i ≤ 24 := by
  obtain ⟨_, _, _, _, a5⟩ := climb_ok hR i hi
  by_cases h0 : ∀ m ∈ weightsL (R.getD i []), m = 0
  · rw [a5.2.1 h0]; omega
  · obtain ⟨m, hm, hm0⟩ := not_all h0
    have h1 := (a5.2.2 ⟨m, hm, hm0⟩).1 m hm
    have h2 := Nat.le_of_dvd (by omega) (Nat.dvd_of_mod_eq_zero h1)
    have := (small_get hR hi).2 m hm
    omega
theorem home_len {R : List (List Nat)} (hR : RowsOk R) {i : Nat} (hi : i < R.length) : (home R i).length ≤ 1000 := by
  have h1 := small_len (small_get hR hi)
  have h2 := escL_length (R.getD i [])
  unfold home
  split <;> omega
end Mine
end
section
open PySem PySem.W PyProof.Rows PySem.Calls
set_option maxRecDepth 100000
namespace Mine
section
variable {prog : Program} {w : World} {A : Around} {R : Result → Shared → Prop} {s : Shared}
/-- the loop of a comprehension whose elements are new objects: nothing that stands is changed -/
theorem grow_loop {elt iter : Expr} {x : Str} {px : Pos} {scope : Scope} {pos : Pos} {I D Z : Addr} {fp : List Addr} {n : Nat} {P : Nat → Value → Prop} {St : Nat → Heap → Prop} {cenv : PySem.Env}
    (W : Walks prog w A I fp [I] n P St) (hsz : n ≤ sizeLine) (ZOk : Heap → Prop) (X : Value → Heap → Prop) (zs : List Addr) (hZ : Z ∈ zs) (hDz : D ∉ zs) (hIz : I ∉ zs) (hID : I ≠ D) (hDf : D ∉ fp) (hZf : Z ∉ fp)
    (zkeep : ∀ h h', ZOk h → (∀ b o, b ∈ zs → h.get? b = some o → h'.get? b = some o) → ZOk h') (zhere : ∀ h, ZOk h → ∀ b ∈ zs, ∃ o, h.get? b = some o)
    (store : ∀ v s' (Q : Unit → Shared → Prop) E', ZOk s'.heap → (∀ h' tk', Heap.SameBut Z s'.heap h' → ZOk h' → X v h' → Q () { s' with heap := h', toks := tk' }) → wpAny (model prog w) A (assign (.Name x px) cenv v) Q E' s')
    (F : Value → Obj → Prop) (h₂ : Heap) (hbD : h₂.get? D = none) (hbZ : h₂.get? Z = none)
    (helt : ∀ i v s₃ E', P i v → X v s₃.heap → ZOk s₃.heap → (∀ b o, b ≠ I → h₂.get? b = some o → s₃.heap.get? b = some o) →
      wpAny (model prog w) A (eval elt cenv) (fun y s₄ => (∃ a o, y = .ref a ∧ s₃.heap.get? a = none ∧ s₄.heap.get? a = some o ∧ F v o) ∧ Keeps s₃ s₄) E' s₃)
    (hIo : ∀ i h, St i h → ∃ o, h.get? I = some o) (hst : St 0 s.heap) (hacc : s.heap.get? D = some (LCg.lst [])) (hz : ZOk s.heap) (hb : ∀ b o, h₂.get? b = some o → s.heap.get? b = some o)
    (hR : ∀ h tk ys, h.get? D = some (LCg.lst ys) → ZOk h → (∀ b o, b ≠ I → h₂.get? b = some o → h.get? b = some o) → ys.length = n →
      (∀ (j : Nat) y, ys[j]? = some y → ∃ v a o, P j v ∧ y = .ref a ∧ h₂.get? a = none ∧ a ∉ zs ∧ h.get? a = some o ∧ F v o) → R (.ok .next) { s with heap := h, toks := tk }) :
    codeAny (model prog w) A (.compLoop (.ListComp elt [⟨.Name x px, iter, [], 0⟩] scope pos) 0 (.ref I) (.ref D) cenv) R s := by
  have hIf : I ∈ fp := W.sub I (List.mem_singleton.mpr rfl)
  have hIZ : I ≠ Z := fun e => hIz (e ▸ hZ)
  have hDZ : D ≠ Z := fun e => hDz (e ▸ hZ)
  refine codeAny_compLoop_tests
    (fun k s' => ∃ h' tk i ys, s' = { s with heap := h', toks := tk } ∧ i ≤ n ∧ k = n + 1 - i ∧ ys.length = i ∧ St i h' ∧ h'.get? D = some (LCg.lst ys) ∧ ZOk h' ∧ (∀ b o, b ≠ I → h₂.get? b = some o → h'.get? b = some o) ∧
      ∀ (j : Nat) y, ys[j]? = some y → ∃ v a o, P j v ∧ y = .ref a ∧ h₂.get? a = none ∧ a ≠ I ∧ a ≠ D ∧ a ∉ zs ∧ h'.get? a = some o ∧ F v o) ?_ (n + 1)
    ⟨s.heap, s.toks, 0, [], rfl, Nat.zero_le _, rfl, rfl, hst, hacc, hz, fun b o _ e => hb b o e, fun j y h => by simp at h⟩
  rintro k s' ⟨h', tk, i, ys, rfl, hi, rfl, hyl, hst', hD', hz', hk', hel⟩
  by_cases hlt : i < n
  · refine W.item i _ _ _ hlt hst' fun v h2 tk₂ hPv hst₂ hk₂ => ?_
    have hD2 : h2.get? D = some (LCg.lst ys) := hk₂ _ _ (by simpa using Ne.symm hID) hD'
    have hz2 : ZOk h2 := zkeep _ _ hz' fun b o hb e => hk₂ b o (fun hm => hIz (List.mem_singleton.mp hm ▸ hb)) e
    refine store v _ _ _ hz2 fun h3 tk3 hs3 hz3 hX => ?_
    refine wpAny_tests_nil ?_
    simp only [if_true]
    have hst₃ : St (i + 1) h3 := W.frame _ _ _ hst₂ fun b hb o e => hs3.extBut b o (fun q => hZf (by have q' : b = Z := q; rw [← q']; exact hb)) e
    have hk3 : ∀ b o, b ≠ I → h₂.get? b = some o → h3.get? b = some o := fun b o hbI e =>
      hs3.extBut b o (fun q => by have q' : b = Z := q; rw [q', hbZ] at e; cases e) (hk₂ b o (fun hm => hbI (List.mem_singleton.mp hm)) (hk' b o hbI e))
    have hD3 : h3.get? D = some (LCg.lst ys) := hs3.extBut _ _ hDZ hD2
    refine wpAny_mono (helt i v _ _ hPv hX hz3 hk3) (fun y s₄ hy => ?_) fun _ _ e => e
    obtain ⟨⟨a, o, rfl, ha, hao, hF⟩, h4, tk4, rfl, k4⟩ := hy
    dsimp only at ha hao k4
    have hI3 := hIo _ _ hst₃
    have haI : a ≠ I := fun q => by obtain ⟨o', e⟩ := hI3; rw [← q, ha] at e; cases e
    have haD : a ≠ D := fun q => by rw [q, hD3] at ha; cases ha
    have haz : a ∉ zs := fun q => by obtain ⟨o', e⟩ := zhere _ hz3 a q; rw [ha] at e; cases e
    have hst₄ : St (i + 1) h4 := W.frame _ _ _ hst₃ fun b hb o e => k4 b o e
    refine append_at (hsz := by show ys.toArray.size ≤ sizeLine; rw [List.size_toArray, hyl]; exact Nat.le_trans hi hsz) (k4 _ _ hD3) fun h5 hs5 hD5 => ?_
    refine ⟨n + 1 - (i + 1), by omega, h5, tk4, i + 1, ys ++ [.ref a], rfl, hlt, rfl, by rw [List.length_append, List.length_singleton, hyl], W.frame _ _ _ hst₄ fun b hb o e => hs5.extBut b o (fun q => hDf (q ▸ hb)) e,
      hD5.trans (congrArg some (LCg.lst_snoc ys (.ref a))), ?_, ?_, ?_⟩
    · exact zkeep _ _ hz3 fun b o hb e => hs5.extBut b o (fun q => hDz (q ▸ hb)) (k4 b o e)
    · intro b o hbI e
      exact hs5.extBut b o (fun q => by have q' : b = D := q; rw [q', hbD] at e; cases e) (k4 b o (hk3 b o hbI e))
    · intro j y hy
      by_cases hj : j < ys.length
      · rw [List.getElem?_append_left hj] at hy
        obtain ⟨v', a', o', p1, p2, p3, p4, p5, p6, p7, p8⟩ := hel j y hy
        refine ⟨v', a', o', p1, p2, p3, p4, p5, p6, ?_, p8⟩
        exact hs5.extBut _ _ p5 (k4 _ _ (hs3.extBut _ _ (fun q => p6 (by have q' : a' = Z := q; rw [q']; exact hZ)) (hk₂ _ _ (fun hm => p4 (List.mem_singleton.mp hm)) p7)))
      · rw [List.getElem?_append_right (by omega)] at hy
        have h0 : j - ys.length = 0 := by
          apply Classical.byContradiction
          intro hne
          have : j - ys.length = (j - ys.length - 1) + 1 := by omega
          rw [this] at hy
          simp at hy
        rw [h0] at hy
        have hya : y = .ref a := by simpa using hy.symm
        have hji : j = i := by omega
        subst hji
        refine ⟨v, a, o, hPv, hya, ?_, haI, haD, haz, hs5.extBut _ _ haD hao, hF⟩
        cases e : h₂.get? a with
        | none => rfl
        | some o' => have := hk3 a o' haI e; rw [ha] at this; cases this
  · obtain rfl : i = n := Nat.le_antisymm hi (Nat.not_lt.mp hlt)
    refine W.done _ _ _ hst' fun h2 tk₂ hk₂ => ?_
    refine hR h2 tk₂ ys (hk₂ _ _ (by simpa using Ne.symm hID) hD') (zkeep _ _ hz' fun b o hb e => hk₂ b o (fun hm => hIz (List.mem_singleton.mp hm ▸ hb)) e) (fun b o hbI e => hk₂ b o (fun hm => hbI (List.mem_singleton.mp hm)) (hk' b o hbI e)) hyl fun j y hy => ?_
    obtain ⟨v', a', o', p1, p2, p3, p4, p5, p6, p7, p8⟩ := hel j y hy
    exact ⟨v', a', o', p1, p2, p3, p6, hk₂ _ _ (fun hm => p4 (List.mem_singleton.mp hm)) p7, p8⟩
end
end Mine
end
section
open PySem PySem.W PyProof.Rows PySem.Calls
set_option maxRecDepth 100000
namespace Mine
section
variable {prog : Program} {w : World} {A : Around} {E : Value → Shared → Prop} {env : PySem.Env} {s : Shared}
/-- a comprehension over a range whose elements change nothing and are no new objects; the index is known to be below the end -/
theorem ListComp_R {elt iter : Expr} {x : Str} {px : Pos} {ifs : List Expr} {scope : Scope} {pos : Pos} {Q : Value → Shared → Prop} (cl : List (Str × Addr)) (p : Value → Bool) (F : Value → Value → Prop)
    (hclos : closureFor scope env = pure cl) (hcell : ∀ y ∈ scope.names, y.2 ≠ .cell) (hkind : scope.kind = .function)
    (hnames : ∀ y ∈ scope.names, y.2 = .local → scope.names.lookup y.1 = some .local) (hx : scope.names.lookup x = some .local)
    (h : wpAny (model prog w) A (eval iter env) (fun xv s₁ => A.handled = none ∧ ∃ r n t u v, xv = .ref r ∧ IsRange s₁.heap r 0 ((n : Nat) : Int) 1 t u v ∧ n ≤ sizeLine ∧
      CompOk prog w A env scope cl x ifs elt s₁ n (fun (i : Nat) (v : Value) => i < n ∧ ∃ t, v = .int (i : Int) t) p F (fun D h' tk _ _ => Q (.ref D) { s₁ with heap := h', toks := tk })) E s)
    (hs : ∀ x, foldedSetIterable iter env x = pure x := by intro _; rfl) :
    wpAny (model prog w) A (eval (.ListComp elt [⟨.Name x px, iter, ifs, 0⟩] scope pos) env) Q E s := by
  refine wpAny_ListComp_free p F hclos hcell hkind hnames hx (wpAny_mono h (fun xv s₁ h₁ => ?_) fun _ _ e => e) hs
  obtain ⟨hh, r, n, t, u, v, rfl, hr, hsz, hq⟩ := h₁
  refine wpAny_pyIter_range hr (range_small n hsz) ?_
  have hq' : CompOk prog w A env scope cl x ifs elt s₁ n (fun i v => i < n ∧ ∃ t, v = .int ((0 : Int) + (i : Int)) t) p F (fun D h' tk _ _ => Q (.ref D) { s₁ with heap := h', toks := tk }) := by
    have e : (fun (i : Nat) (v : Value) => i < n ∧ ∃ t, v = .int ((0 : Int) + (i : Int)) t) = fun (i : Nat) (v : Value) => i < n ∧ ∃ t, v = .int (i : Int) t := by funext i v; rw [Int.zero_add]
    rw [e]; exact hq
  exact comp_in (LCg.range_walks (I := s₁.heap.objs.size) hh 0 n).bound hsz (by show IsRangeIter _ _ _ _ _; rw [range_size]; simpa using Heap.get?_push_size _ rfl) (fun b hb => by rw [Heap.size_push, List.mem_singleton.mp hb]; exact Nat.lt_succ_self _) hq' (fun _ _ _ _ _ x => x)

theorem newEnv_cells {scope : Scope} {globals : Addr} {cl : List (Str × Addr)} {qual : Str} {Q : PySem.Env → Shared → Prop}
    (hQ : Q (newEnv scope s.heap.objs.size globals (cellsFrom (s.heap.objs.size + 1) scope.names cl) qual none .none (some env) builtinsNs) { s with heap := pushCells (s.heap.push { cls := .type "dict", data := .dict #[] }) scope.names }) :
    wpAny (model prog w) A (newFunctionEnv scope globals cl [] qual none .none (some env)) Q E s := by
  simp only [newFunctionEnv, Option.isSome_some, if_true]
  refine wpAny_bind (wpAny_alloc ?_)
  refine wpAny_bind (wpAny_layCells _ (fun name kind cells => by cases hkc : kind == NameKind.cell <;> simp [hkc]) _ _ _ _ ?_)
  rw [List.forIn_nil]
  refine wpAny_bind (wpAny_pure (wpAny_pure ?_))
  rw [show ({ s with heap := s.heap.push { cls := .type "dict", data := .dict #[] } } : Shared).heap.objs.size = s.heap.objs.size + 1 from Heap.size_push ..]
  exact hQ

/-- what such a comprehension owes -/
structure GrowOk (prog : Program) (w : World) (A : Around) (env : PySem.Env) (scope : Scope) (elt : Expr) (s₁ : Shared) (n : Nat) (X : Addr → Value → Heap → Prop) (cls : Addr → List (Str × Addr)) (F : Value → Obj → Prop)
    (Q : Value → Shared → Prop) : Prop where
  elt : ∀ C i v s₃ E', s₁.heap.get? C = none → i < n → (∃ t, v = .int (i : Int) t) → X C v s₃.heap → Keep s₁.heap s₃.heap →
    wpAny (model prog w) A (eval elt (compEnvC scope (cls C) C env)) (fun y s₄ => (∃ a o, y = .ref a ∧ s₃.heap.get? a = none ∧ s₄.heap.get? a = some o ∧ F v o) ∧ Keeps s₃ s₄) E' s₃
  fin : ∀ (D : Addr) (h' : Heap) (tk : Nat) (ys : List Value) (k : Nat), Keep s₁.heap h' → s₁.heap.get? D = none → h'.get? D = some (W.listOf ys.toArray k) → ys.length = n →
    (∀ (j : Nat) y, ys[j]? = some y → ∃ t a o, y = .ref a ∧ s₁.heap.get? a = none ∧ h'.get? a = some o ∧ F (.int (j : Int) t) o) → Q (.ref D) { s₁ with heap := h', toks := tk }

/-- the block of such a comprehension, its room being made -/
theorem grow_block {elt iter : Expr} {x : Str} {px : Pos} {scope : Scope} {pos : Pos} {Q : Value → Shared → Prop} {s₁ : Shared} {n : Nat} {tk : Nat} (hh : A.handled = none) (hsz : n ≤ sizeLine) (X : Addr → Value → Heap → Prop) (cls : Addr → List (Str × Addr)) (F : Value → Obj → Prop)
    (hq : GrowOk prog w A env scope elt s₁ n X cls F Q) (ZOk : Heap → Prop) (zs : List Addr) (Z C : Addr) (h₁ : Heap) (hZ : Z ∈ zs) (hC : C ∈ zs) (hzl : ∀ b ∈ zs, s₁.heap.objs.size + 2 ≤ b)
    (zkeep : ∀ h h', ZOk h → (∀ b o, b ∈ zs → h.get? b = some o → h'.get? b = some o) → ZOk h') (zhere : ∀ h, ZOk h → ∀ b ∈ zs, ∃ o, h.get? b = some o) (zns : ∀ h, ZOk h → ∃ m, h.Ns C m)
    (store : ∀ v s' (Q : Unit → Shared → Prop) E', ZOk s'.heap → (∀ h' tk', Heap.SameBut Z s'.heap h' → ZOk h' → X C v h' → Q () { s' with heap := h', toks := tk' }) → wpAny (model prog w) A (assign (.Name x px) (compEnvC scope (cls C) C env) v) Q E' s')
    (hz : ZOk h₁) (hacc : h₁.get? (s₁.heap.objs.size + 1) = some (LCg.lst [])) (old : ∀ b o, (s₁.heap.push { cls := .type "range_iterator", data := .fields #[rawInt 0, rawInt (n : Int), rawInt 1] }).get? b = some o → h₁.get? b = some o)
    (hit : IsRangeIter h₁ s₁.heap.objs.size (0 + ((0 : Nat) : Int) * 1) ((n : Int) - ((0 : Nat) : Int)) 1) :
    codeAny (model prog w) A (.compStart (.ListComp elt [⟨.Name x px, iter, [], 0⟩] scope pos) 0 (.ref s₁.heap.objs.size) (.ref (s₁.heap.objs.size + 1)) (compEnvC scope (cls C) C env)) (compPost (model prog w) A E none Q (.ref (s₁.heap.objs.size + 1)) C) { s₁ with heap := h₁, toks := tk } := by
  have W := (LCg.range_walks (prog := prog) (w := w) (I := s₁.heap.objs.size) hh 0 n).bound
  have none₁ : ∀ b, s₁.heap.objs.size ≤ b → s₁.heap.get? b = none := fun b hb => Heap.get?_none_of_le hb
  have hne : ∀ b ∈ zs, b ≠ s₁.heap.objs.size := fun b hb e => by have := hzl b hb; rw [e] at this; exact absurd this (by omega)
  have hne1 : ∀ b ∈ zs, b ≠ s₁.heap.objs.size + 1 := fun b hb e => by have := hzl b hb; rw [e] at this; exact absurd this (by omega)
  have noneP : ∀ b, s₁.heap.objs.size + 1 ≤ b → (s₁.heap.push { cls := .type "range_iterator", data := .fields #[rawInt 0, rawInt (n : Int), rawInt 1] }).get? b = none := fun b hb => Heap.get?_none_of_le (by rw [Heap.size_push]; exact hb)
  have up : ∀ {h' : Heap}, (∀ b o, b ≠ s₁.heap.objs.size → (s₁.heap.push { cls := .type "range_iterator", data := .fields #[rawInt 0, rawInt (n : Int), rawInt 1] }).get? b = some o → h'.get? b = some o) → Keep s₁.heap h' := fun hk b ob e =>
    hk b ob (get_push_ne e) (Heap.get?_push_of_some _ e)
  have loop : codeAny (model prog w) A (.compLoop (.ListComp elt [⟨.Name x px, iter, [], 0⟩] scope pos) 0 (.ref s₁.heap.objs.size) (.ref (s₁.heap.objs.size + 1)) (compEnvC scope (cls C) C env)) (compPost (model prog w) A E none Q (.ref (s₁.heap.objs.size + 1)) C) { s₁ with heap := h₁, toks := tk } := by
    refine grow_loop W hsz ZOk (X C) zs hZ (fun hm => hne1 _ hm rfl) (fun hm => hne _ hm rfl) (Nat.ne_of_lt (Nat.lt_succ_self _)) (fun hm => by have := List.mem_singleton.mp hm; exact absurd this (Nat.ne_of_gt (Nat.lt_succ_self _))) (fun hm => hne _ hZ (List.mem_singleton.mp hm))
      zkeep zhere store F (s₁.heap.push { cls := .type "range_iterator", data := .fields #[rawInt 0, rawInt (n : Int), rawInt 1] }) (noneP _ (Nat.le_refl _)) (noneP _ (Nat.le_trans (Nat.le_succ _) (hzl _ hZ))) ?_ (fun i h st => ⟨_, st⟩) hit hacc hz old ?_
    · rintro i v s₃ E' ⟨hi, t, hv⟩ hX hz3 hk
      rw [Int.zero_add] at hv
      exact hq.elt C i v s₃ E' (none₁ _ (Nat.le_trans (by omega) (hzl _ hC))) hi ⟨t, hv⟩ hX (up hk)
    · intro h tk' ys hD hz' hk hlen hel
      obtain ⟨m, hm⟩ := zns _ hz'
      refine ⟨m, hm, fun h'' hs'' => ?_⟩
      have hCD : s₁.heap.objs.size + 1 ≠ C := fun e => hne1 _ hC e.symm
      refine hq.fin _ h'' tk' ys ys.length (fun b o e => hs''.extBut b o (fun q => ?_) (up hk b o e)) (none₁ _ (Nat.le_succ _)) (hs''.extBut _ _ hCD hD) hlen fun j y hy => ?_
      · have q' : b = C := q
        rw [q', none₁ _ (Nat.le_trans (by omega) (hzl _ hC))] at e; cases e
      · obtain ⟨v, a, o, ⟨_, t, hv⟩, hya, ha, haz, hao, hF⟩ := hel j y hy
        rw [Int.zero_add] at hv
        subst hv
        refine ⟨t, a, o, hya, ?_, hs''.extBut _ _ (fun q => haz (by have q' : a = C := q; rw [q']; exact hC)) hao, hF⟩
        cases e : s₁.heap.get? a with
        | none => rfl
        | some o' => rw [Heap.get?_push_of_some _ e] at ha; cases ha
  exact codeAny_compStart_list loop (W.self 0 _ _ _ hit loop)
theorem ListComp_GrL {elt iter : Expr} {x : Str} {px : Pos} {scope : Scope} {pos : Pos} {Q : Value → Shared → Prop} (cl : List (Str × Addr)) (F : Value → Obj → Prop)
    (hclos : closureFor scope env = pure cl) (hcell : ∀ y ∈ scope.names, y.2 ≠ .cell) (hkind : scope.kind = .function)
    (hnames : ∀ y ∈ scope.names, y.2 = .local → scope.names.lookup y.1 = some .local) (hx : scope.names.lookup x = some .local)
    (h : wpAny (model prog w) A (eval iter env) (fun xv s₁ => A.handled = none ∧ ∃ r n t u v, xv = .ref r ∧ IsRange s₁.heap r 0 ((n : Nat) : Int) 1 t u v ∧ n ≤ sizeLine ∧
      GrowOk prog w A env scope elt s₁ n (fun C v h => ∃ m, h.Ns C m ∧ m x = some v) (fun _ => cl) F Q) E s)
    (hs : ∀ x, foldedSetIterable iter env x = pure x := by intro _; rfl) :
    wpAny (model prog w) A (eval (.ListComp elt [⟨.Name x px, iter, [], 0⟩] scope pos) env) Q E s := by
  rw [eval_ListComp]
  refine wpAny_comprehension_free (use := none) rfl hs hclos hkind hnames (wpAny_mono h (fun xv s₁ h₁ => ?_) fun _ _ e => e)
  obtain ⟨hh, r, n, t, u, v, rfl, hr, hsz, hq⟩ := h₁
  refine wpAny_pyIter_range hr (range_small n hsz) ?_
  rw [range_size]
  refine wpAny_newObj_type (wpAny_newFunctionEnv hcell (by intro y hy; simp at hy) (fun h₁ hns₁ hsb₁ => ?_) hkind)
  dsimp only at hns₁ hsb₁ ⊢
  simp only [Heap.size_push] at hns₁ hsb₁ ⊢
  have old : ∀ b o, (s₁.heap.push { cls := .type "range_iterator", data := .fields #[rawInt 0, rawInt (n : Int), rawInt 1] }).get? b = some o → h₁.get? b = some o := fun b o e => hsb₁.extBut b o (fun q => by
    have hlt := Heap.lt_size e
    rw [Heap.size_push] at hlt
    have q' : b = s₁.heap.objs.size + 1 + 1 := q
    rw [q'] at hlt; exact Nat.lt_irrefl _ (Nat.lt_of_succ_lt hlt)) (Heap.get?_push_of_some _ (Heap.get?_push_of_some _ e))
  have hI : h₁.get? s₁.heap.objs.size = some { cls := .type "range_iterator", data := .fields #[rawInt 0, rawInt (n : Int), rawInt 1] } := old _ _ (Heap.get?_push_size _ rfl)
  refine grow_block (iter := iter) (x := x) (px := px) (pos := pos) hh hsz _ _ F hq (fun h => ∃ m, h.Ns (s₁.heap.objs.size + 1 + 1) m) [s₁.heap.objs.size + 1 + 1] (s₁.heap.objs.size + 1 + 1) (s₁.heap.objs.size + 1 + 1) h₁ (List.mem_singleton.mpr rfl) (List.mem_singleton.mpr rfl) (fun b hb => by rw [List.mem_singleton.mp hb]; exact Nat.le_refl _)
    ?_ ?_ (fun h hz => hz) ?_ ⟨_, hns₁⟩ ?_ old ?_
  · rintro h h' ⟨m, hm⟩ hk
    exact ⟨m, hm.at' fun o e => hk _ o (List.mem_singleton.mpr rfl) e⟩
  · rintro h ⟨m, o, es, ep, e, _⟩ b hb
    rw [List.mem_singleton.mp hb]; exact ⟨o, e⟩
  · rintro v s' Q' E' ⟨m, hm⟩ hQ'
    refine wpAny_assign_Name (wpAny_storeName_local (lookup_relabel_local hx) hm (fun h3 hn3 hs3 => hQ' h3 _ hs3 ⟨_, hn3⟩ ⟨_, hn3, by simp⟩) (by simp [compEnvC, relabel, hkind]))
  · exact hsb₁.extBut _ _ (Nat.ne_of_lt (Nat.lt_succ_self _)) (Heap.get?_push_of_some _ (by have := Heap.get?_push_size (s₁.heap.push { cls := .type "range_iterator", data := .fields #[rawInt 0, rawInt (n : Int), rawInt 1] }) (o := { cls := .type "list", data := .seq ([] : List Value).toArray }) rfl; rw [Heap.size_push] at this; exact this))
  · show h₁.get? _ = some _
    rw [hI]; simp
theorem ListComp_GrC {elt iter : Expr} {x : Str} {px : Pos} {scope : Scope} {pos : Pos} {Q : Value → Shared → Prop} (cl : List (Str × Addr)) (F : Value → Obj → Prop)
    (hclos : closureFor scope env = pure cl) (hcf : ∀ n, cellsFrom n scope.names cl = (x, n) :: cl) (hpc : ∀ h : Heap, pushCells h scope.names = h.push { cls := .type "cell", data := .cell none }) (hkind : scope.kind = .function)
    (hnames : ∀ y ∈ scope.names, y.2 = .local → scope.names.lookup y.1 = some .local) (hkx : ∀ C c, (compEnvC scope c C env).kindOf x = some .cell)
    (h : wpAny (model prog w) A (eval iter env) (fun xv s₁ => A.handled = none ∧ ∃ r n t u v, xv = .ref r ∧ IsRange s₁.heap r 0 ((n : Nat) : Int) 1 t u v ∧ n ≤ sizeLine ∧
      GrowOk prog w A env scope elt s₁ n (fun C v h => h.IsCell (C + 1) (some v)) (fun C => (x, C + 1) :: cl) F Q) E s)
    (hs : ∀ x, foldedSetIterable iter env x = pure x := by intro _; rfl) :
    wpAny (model prog w) A (eval (.ListComp elt [⟨.Name x px, iter, [], 0⟩] scope pos) env) Q E s := by
  rw [eval_ListComp]
  refine wpAny_comprehension_free (use := none) rfl hs hclos hkind hnames (wpAny_mono h (fun xv s₁ h₁ => ?_) fun _ _ e => e)
  obtain ⟨hh, r, n, t, u, v, rfl, hr, hsz, hq⟩ := h₁
  refine wpAny_pyIter_range hr (range_small n hsz) ?_
  rw [range_size]
  refine wpAny_newObj_type (newEnv_cells ?_)
  simp only [Heap.size_push]
  rw [hcf, hpc]
  generalize hh1 : ((((s₁.heap.push { cls := .type "range_iterator", data := .fields #[rawInt 0, rawInt (n : Int), rawInt 1] }).push { cls := .type "list", dict := none, data := .seq ([] : List Value).toArray }).push { cls := .type "dict", data := .dict #[] }).push { cls := .type "cell", data := .cell none }) = h₁
  have g1 : h₁.get? (s₁.heap.objs.size + 1 + 1 + 1) = some { cls := .type "cell", data := .cell none } := by
    have := Heap.get?_push_size (((s₁.heap.push { cls := .type "range_iterator", data := .fields #[rawInt 0, rawInt (n : Int), rawInt 1] }).push { cls := .type "list", dict := none, data := .seq ([] : List Value).toArray }).push { cls := .type "dict", data := .dict #[] }) (o := { cls := .type "cell", data := .cell none }) rfl
    simp only [Heap.size_push] at this
    rw [← hh1]; exact this
  have g2 : h₁.Ns (s₁.heap.objs.size + 1 + 1) (fun _ => none) := by
    have := Heap.Ns.new ((s₁.heap.push { cls := .type "range_iterator", data := .fields #[rawInt 0, rawInt (n : Int), rawInt 1] }).push { cls := .type "list", dict := none, data := .seq ([] : List Value).toArray }) (.type "dict")
    simp only [Heap.size_push] at this
    rw [← hh1]; exact this.keeps fun b o e => Heap.get?_push_of_some _ e
  have g3 : h₁.get? (s₁.heap.objs.size + 1) = some (LCg.lst []) := by
    have := Heap.get?_push_size (s₁.heap.push { cls := .type "range_iterator", data := .fields #[rawInt 0, rawInt (n : Int), rawInt 1] }) (o := { cls := .type "list", data := .seq ([] : List Value).toArray }) rfl
    simp only [Heap.size_push] at this
    rw [← hh1]; exact Heap.get?_push_of_some _ (Heap.get?_push_of_some _ this)
  have old : ∀ b o, (s₁.heap.push { cls := .type "range_iterator", data := .fields #[rawInt 0, rawInt (n : Int), rawInt 1] }).get? b = some o → h₁.get? b = some o := fun b o e => by
    rw [← hh1]; exact Heap.get?_push_of_some _ (Heap.get?_push_of_some _ (Heap.get?_push_of_some _ e))
  have hI : h₁.get? s₁.heap.objs.size = some { cls := .type "range_iterator", data := .fields #[rawInt 0, rawInt (n : Int), rawInt 1] } := old _ _ (Heap.get?_push_size _ rfl)
  have m1 : s₁.heap.objs.size + 1 + 1 ∈ [s₁.heap.objs.size + 1 + 1, s₁.heap.objs.size + 1 + 1 + 1] := List.mem_cons_self
  have m2 : s₁.heap.objs.size + 1 + 1 + 1 ∈ [s₁.heap.objs.size + 1 + 1, s₁.heap.objs.size + 1 + 1 + 1] := List.mem_cons_of_mem _ List.mem_cons_self
  refine grow_block (iter := iter) (x := x) (px := px) (pos := pos) hh hsz _ _ F hq (fun h => (∃ m, h.Ns (s₁.heap.objs.size + 1 + 1) m) ∧ ∃ v, h.IsCell (s₁.heap.objs.size + 1 + 1 + 1) v) [s₁.heap.objs.size + 1 + 1, s₁.heap.objs.size + 1 + 1 + 1]
    (s₁.heap.objs.size + 1 + 1 + 1) (s₁.heap.objs.size + 1 + 1) h₁ m2 m1 ?_ ?_ ?_ (fun h hz => hz.1) ?_ ⟨⟨_, g2⟩, none, _, g1, rfl⟩ g3 old ?_
  · intro b hb
    simp only [List.mem_cons, List.not_mem_nil, or_false] at hb
    rcases hb with rfl | rfl
    · exact Nat.le_refl _
    · exact Nat.le_succ _
  · rintro h h' ⟨⟨m, hm⟩, v, o, e, d⟩ hk
    exact ⟨⟨m, hm.at' fun o e => hk _ o m1 e⟩, v, o, hk _ _ m2 e, d⟩
  · rintro h ⟨⟨m, o, es, ep, e, _⟩, v, o', e', _⟩ b hb
    simp only [List.mem_cons, List.not_mem_nil, or_false] at hb
    rcases hb with rfl | rfl
    · exact ⟨o, e⟩
    · exact ⟨o', e'⟩
  · rintro v s' Q' E' ⟨⟨m, hm⟩, v', hv'⟩ hQ'
    refine wpAny_assign_Name (wpAny_storeName_cell (by simpa [compEnvC, relabel] using hkind) (hkx _ _) (by show List.lookup x ((x, _) :: cl) = _; simp) hv' (fun h3 hc3 hs3 => hQ' h3 s'.toks hs3 ⟨⟨m, ?_⟩, _, hc3⟩ hc3))
    exact hm.sameBut hs3 (Nat.ne_of_lt (Nat.lt_succ_self _))
  · show h₁.get? _ = some _
    rw [hI]; simp
end
end Mine
end
section
open PySem PySem.W PyProof.Rows PySem.Calls
set_option maxRecDepth 100000
namespace Mine
section
variable {prog : Program} {w : World} {A : Around} {E : Value → Shared → Prop} {s : Shared}
theorem cnm_boot {env : PySem.Env} {scope : Scope} {cl : List (Str × Addr)} {C : Addr} {K : Frag} {x : Str} {pos : Pos} {v : Value} {Q : Value → Shared → Prop} {p : Program} {loose : List Str} {mg mb : Str → Option Value} (X : K.In s.heap) (T : TopRead p loose mg mb s.heap)
    (e : nsIn K mainGlobals x = some none) (hv : bootBuiltins x = some v) (hn : x ≠ "__name__") (h : Q v s)
    (hg : env.globals = mainGlobals := by rfl) (hb : env.builtins = builtinsNs := by rfl) (hk : (compEnvC scope cl C env).scope.kind = .function := by rfl) (hl : (compEnvC scope cl C env).kindOf x = some .globalImplicit := by rfl)
    (hd : (x == ("__debug__" : Str)) = false := by decide) : wpAny (model prog w) A (eval (.Name x pos) (compEnvC scope cl C env)) Q E s :=
  Name_function_global hk hl (loadGlobal_builtin (env := compEnvC scope cl C env) (mg := mg) (mb := mb) (by show s.heap.Ns env.globals _; rw [hg]; exact T.g) (mg_none_of X T.g e) (by show s.heap.Ns env.builtins _; rw [hb]; exact T.b) ((T.builtins x hn).trans hv) h) hd
/-- an item of a list of texts -/
theorem item_row {value slice : Expr} {l : Addr} {vs : List Value} {R : List (List Nat)} {f : List Nat → List Nat} {i : Nat} {u : Tok} {Q : Value → Shared → Prop} (hl : s.heap.IsList l vs.toArray) (hv : StrsAre vs (R.map fun r => tx (f r))) (hi : i < R.length) (hb : R.length ≤ 1000)
    (h : ∀ t, Q (.str (tx (f (R.getD i []))) t) s)
    (hs : subscripted slice false (.ref l) (.int i u) = operate [.ref l, .int i u] (getItem (.ref l) (.int i u)) := by with_unfolding_all rfl) :
    wpAny (model prog w) A (subscriptTail value slice (.ref l) (.int (i : Nat) u)) Q E s := by
  have hlt : (i : Int).toNat < (R.map fun r => tx (f r)).length := by simp; omega
  have hvl := hv.len_eq
  have hi' : i < vs.length := by rw [hvl]; simpa using hi
  have e0 : (R.map fun r => tx (f r))[i]? = some (tx (f (R.getD i []))) := by
    rw [List.getElem?_map, List.getD_eq_getElem?_getD, List.getElem?_eq_getElem hi]; rfl
  obtain ⟨t, ht⟩ := hv.at e0
  exact item_litK hl (by omega) (by omega) (by simpa using ht) (h t) hs
theorem ints_range {vs : List Value} {n : Nat} (hl : vs.length = n) (h : ∀ (j : Nat) v, vs[j]? = some v → j < n ∧ ∃ t, v = .int (j : Int) t) : IntsAre vs (intsL (List.range n)) := by
  have key : ∀ (vs : List Value) (a : Nat), (∀ (j : Nat) v, vs[j]? = some v → ∃ t, v = .int ((a + j : Nat) : Int) t) → IntsAre vs (intsL (List.range' a vs.length)) := by
    intro vs
    induction vs with
    | nil => intro a _; exact .nil
    | cons v vs ih =>
      intro a h
      obtain ⟨t, ht⟩ := h 0 v rfl
      subst ht
      have e : intsL (List.range' a (vs.length + 1)) = ((a : Nat) : Int) :: intsL (List.range' (a + 1) vs.length) := by simp [intsL, List.range'_succ]
      show IntsAre _ (intsL (List.range' a (vs.length + 1)))
      rw [e]
      exact .cons _ t (ih (a + 1) fun j v hj => by
        obtain ⟨t, ht⟩ := h (j + 1) v (by simpa using hj)
        exact ⟨t, by rw [ht]; congr 1; omega⟩)
  have := key vs 0 (fun j v hj => by obtain ⟨_, t, ht⟩ := h j v hj; exact ⟨t, by rw [ht, Nat.zero_add]⟩)
  rw [hl] at this
  rwa [List.range_eq_range']
end
end Mine
end
section
open PySem PySem.W PyProof.Rows PySem.Calls
set_option maxRecDepth 100000
namespace Mine
/-- the objects that a list's references stand for -/
theorem objs_of {s₁ h' : Heap} {G : Nat → Obj → Prop} {ys : List Value} (h : ∀ (j : Nat) y, ys[j]? = some y → ∃ a o, y = .ref a ∧ s₁.get? a = none ∧ h'.get? a = some o ∧ G j o) :
    ∃ objs : List (Addr × Obj), (∀ p ∈ objs, s₁.get? p.1 = none ∧ h'.get? p.1 = some p.2) ∧ ∀ (j : Nat) y, ys[j]? = some y → ∃ a o, y = .ref a ∧ (a, o) ∈ objs ∧ G j o := by
  have key : ∀ (ys : List Value) (k : Nat), (∀ (j : Nat) y, ys[j]? = some y → ∃ a o, y = .ref a ∧ s₁.get? a = none ∧ h'.get? a = some o ∧ G (k + j) o) →
      ∃ objs : List (Addr × Obj), (∀ p ∈ objs, s₁.get? p.1 = none ∧ h'.get? p.1 = some p.2) ∧ ∀ (j : Nat) y, ys[j]? = some y → ∃ a o, y = .ref a ∧ (a, o) ∈ objs ∧ G (k + j) o := by
    intro ys
    induction ys with
    | nil => intro k _; exact ⟨[], (fun p hp => nomatch hp), fun j y hy => nomatch (List.mem_of_getElem? hy)⟩
    | cons v ys ih =>
      intro k h
      obtain ⟨a, o, e, h1, h2, h3⟩ := h 0 v rfl
      obtain ⟨objs, p1, p2⟩ := ih (k + 1) fun j y hy => by
        obtain ⟨a, o, e, h1, h2, h3⟩ := h (j + 1) y (by simpa using hy)
        exact ⟨a, o, e, h1, h2, by rw [show k + 1 + j = k + (j + 1) by omega]; exact h3⟩
      refine ⟨(a, o) :: objs, fun p hp => ?_, fun j y hy => ?_⟩
      · rcases List.mem_cons.mp hp with rfl | hp
        · exact ⟨h1, h2⟩
        · exact p1 p hp
      · cases j with
        | zero =>
          have : v = y := by simpa using hy
          subst this
          exact ⟨a, o, e, List.mem_cons_self, h3⟩
        | succ j =>
          obtain ⟨a', o', e', hm, h3'⟩ := p2 j y (by simpa using hy)
          exact ⟨a', o', e', List.mem_cons_of_mem _ hm, by rw [show k + (j + 1) = k + 1 + j by omega]; exact h3'⟩
  obtain ⟨objs, p1, p2⟩ := key ys 0 fun j y hy => by rw [Nat.zero_add]; exact h j y hy
  exact ⟨objs, p1, fun j y hy => by have := p2 j y hy; rwa [Nat.zero_add] at this⟩
section
variable {prog : Program} {w : World} {A : Around} {E : Value → Shared → Prop} {s : Shared} {h₀ : Heap} {L : Addr} {m : Str → Option Value} {news : List (Addr × Obj)}
theorem News.addL {h h' : Heap} {objs : List (Addr × Obj)} (F : Fr h₀ L h m) (N : News h₀ L h' news) (ho : ∀ p ∈ objs, h.get? p.1 = none ∧ h'.get? p.1 = some p.2) : News h₀ L h' (news ++ objs) := by
  intro p hp
  rcases List.mem_append.mp hp with hp | hp
  · exact N p hp
  · obtain ⟨h1, h2⟩ := ho p hp
    refine ⟨h2, ?_, ?_⟩
    · rintro rfl
      obtain ⟨oL, _, _, hL, _⟩ := F.ns
      rw [hL] at h1; cases h1
    · cases e : h₀.get? p.1 with
      | none => rfl
      | some o' => have := F.keep _ _ e; rw [this] at h1; cases h1
/-- a cell's name is stored -/
theorem stN {env : PySem.Env} {n : Str} {c : Addr} {o : Obj} {v₀ : Option Value} {v : Value} {g : Obj → List (Addr × Obj)} {Q : Unit → Shared → Prop} (hk : env.scope.kind = .function) (hl : env.kindOf n = some .cell) (hc : env.cells.lookup n = some c)
    (F : Fr h₀ L s.heap m) (N : News h₀ L s.heap news) (ho : o.data = .cell v₀) (U : UpdF c o news g)
    (h : ∀ h' o', Fr h₀ L h' m → News h₀ L h' (g o') → o'.data = .cell (some v) → Q () { s with heap := h' }) : wpAny (model prog w) A (storeName env n v) Q E s := by
  obtain ⟨pre, post, rfl, hg, a, b⟩ := U.split
  have hm := N (c, o) (List.mem_append_right _ (.head _))
  refine wpAny_storeName_cell hk hl hc ⟨o, hm.1, ho⟩ fun h' hc' hs => ?_
  obtain ⟨o', ho', hd'⟩ := hc'
  exact h h' o' (F.change hs hm.2.1 hm.2.2) (hg o' ▸ N.setIn a b hs ho') hd'
end
theorem updf_of2 {tail post : List (Addr × Obj)} {d : Addr} {o : Obj} (TD : ∀ p ∈ tail, p.1 ≠ d) : ∀ {pre : List (Addr × Obj)}, (pre.map Prod.fst ++ d :: post.map Prod.fst).Nodup → UpdF d o (pre ++ (d, o) :: (post ++ tail)) (fun o' => pre ++ (d, o') :: (post ++ tail))
  | [], AD => .head fun p hp => by
    rcases List.mem_append.mp hp with hp | hp
    · rintro rfl
      exact (List.nodup_cons.mp AD).1 (List.mem_map_of_mem hp)
    · exact TD p hp
  | q :: pre, AD => by
    have h := List.nodup_cons.mp (AD : (q.1 :: (pre.map Prod.fst ++ d :: post.map Prod.fst)).Nodup)
    exact .tail (fun e => h.1 (by rw [e]; exact List.mem_append_right _ List.mem_cons_self)) (updf_of2 TD h.2)
/-- the families as they lie on the ledger -/
def FamsOn (R : List (List Nat)) (ys : List Value) (objs : List (Addr × Obj)) : Prop := ys.length = R.length ∧ ∀ (j : Nat) y, ys[j]? = some y → ∃ a us c, y = .ref a ∧ (a, PySem.W.listOf us.toArray c) ∈ objs ∧ IntsAre us (intsL (famL R j))
theorem FamsOn.fams {R : List (List Nat)} {ys : List Value} {objs : List (Addr × Obj)} {h : Heap} (f : FamsOn R ys objs) (ho : ∀ p ∈ objs, h.get? p.1 = some p.2) : Fams h ys (fams R) := by
  refine ⟨by rw [f.1, fams_len], fun i v hv => ?_⟩
  obtain ⟨a, us, c, e, hm, hi⟩ := f.2 i v hv
  have hlt : i < R.length := by have := (List.getElem?_eq_some_iff.mp hv).1; rw [f.1] at this; exact this
  exact ⟨famL R i, fams_get hlt, a, us, c, e, ho _ hm, hi⟩
end Mine
end
section
open PySem PySem.W PyProof.Rows PySem.Calls
set_option maxRecDepth 100000
namespace Mine
section
variable {prog : Program} {w : World} {A : Around} {E : Value → Shared → Prop} {env : PySem.Env} {s : Shared}
/-- the same as ListComp_R, its list being stored under a local name -/
theorem Assign_ListComp_R {elt iter : Expr} {x y : Str} {px py : Pos} {ifs : List Expr} {scope : Scope} {pos spos : Pos} {Q : Flow → Shared → Prop} {h₀ : Heap} {m : Str → Option Value} {news : List (Addr × Obj)} (_F₀ : Fr h₀ env.locals s.heap m) (_N₀ : News h₀ env.locals s.heap news) (cl : List (Str × Addr)) (p : Value → Bool) (F : Value → Value → Prop)
    (hsw : swapsWith (.ListComp elt [⟨.Name x px, iter, ifs, 0⟩] scope pos) (some (.Name y py)) spos.line env = pure true)
    (hclos : closureFor scope env = pure cl) (hcell : ∀ z ∈ scope.names, z.2 ≠ .cell) (hkind : scope.kind = .function)
    (hnames : ∀ z ∈ scope.names, z.2 = .local → scope.names.lookup z.1 = some .local) (hx : scope.names.lookup x = some .local)
    (hy : env.kindOf y = some .local) (hp : (env.scope.kind == .class || (env.scope.kind == .module && env.locals != env.globals)) = false)
    (h : wpAny (model prog w) A (eval iter env) (fun xv s₁ => A.handled = none ∧ ∃ r n t u v, xv = .ref r ∧ IsRange s₁.heap r 0 ((n : Nat) : Int) 1 t u v ∧ n ≤ sizeLine ∧ Fr h₀ env.locals s₁.heap m ∧ News h₀ env.locals s₁.heap news ∧
      CompOk prog w A env scope cl x ifs elt s₁ n (fun (i : Nat) (v : Value) => i < n ∧ ∃ t, v = .int (i : Int) t) p F (fun _ _ _ _ _ => True) ∧
      ∀ (D : Addr) (h' : Heap) (tk : Nat) (ys vs : List Value) (k : Nat), Fr h₀ env.locals h' (fun z => if z = y then some (.ref D) else m z) → News h₀ env.locals h' ((D, PySem.W.listOf ys.toArray k) :: news) → (∀ q ∈ news, q.1 ≠ D) → vs.length = n → (∀ (j : Nat) v, vs[j]? = some v → j < n ∧ ∃ t, v = .int (j : Int) t) →
        Paired F (vs.filter p) ys → Q .next { s₁ with heap := h', toks := tk }) E s)
    (hs : ∀ x, foldedSetIterable iter env x = pure x := by intro _; rfl) :
    wpAny (model prog w) A (exec (.Assign [.Name y py] (.ListComp elt [⟨.Name x px, iter, ifs, 0⟩] scope pos) spos) env) Q E s := by
  refine wpAny_Assign_ListComp_free p F hsw hclos hcell hkind hnames hx hy hp (wpAny_mono h (fun xv s₁ h₁ => ?_) fun _ _ e => e) hs
  obtain ⟨hh, r, n, t, u, v, rfl, hr, hsz, F₁, N₁, hq, hQ⟩ := h₁
  refine wpAny_pyIter_range hr (range_small n hsz) ?_
  have e0 : (fun (i : Nat) (v : Value) => i < n ∧ ∃ t, v = .int ((0 : Int) + (i : Int)) t) = fun (i : Nat) (v : Value) => i < n ∧ ∃ t, v = .int (i : Int) t := by funext i v; rw [Int.zero_add]
  have W := (LCg.range_walks (prog := prog) (w := w) (I := s₁.heap.objs.size) hh 0 n).bound
  rw [e0] at W
  have up : ∀ {o : Obj} {h' : Heap}, (∀ b o', b ∉ [s₁.heap.objs.size] → (s₁.heap.push o).get? b = some o' → h'.get? b = some o') → Keep s₁.heap h' := fun hk b ob e =>
    hk b ob (fun hm => get_push_ne e (List.mem_singleton.mp hm)) (Heap.get?_push_of_some _ e)
  have FP := F₁.push { cls := .type "range_iterator", data := .fields #[rawInt 0, rawInt (Builtin.Range.rangeSize 0 (n : Int) 1), rawInt 1] }
  refine ⟨_, _, _, n, _, _, m, rfl, W, hsz, (by show IsRangeIter _ _ _ _ _; rw [range_size]; simpa using Heap.get?_push_size _ rfl), (fun b hb => by rw [Heap.size_push, List.mem_singleton.mp hb]; exact Nat.lt_succ_self _), (fun hm => not_loc F₁ (List.mem_singleton.mp hm)), FP.ns, ⟨?_, ?_⟩, ?_⟩
  · intro C i v s₃ m₃ E' hC hP hn hm hk _
    exact hq.tests C i v s₃ m₃ E' (Heap.get?_none_of_le (Nat.le_trans (by simp) hC)) hP hn hm (up hk)
  · intro C i v s₃ m₃ E' hC hP hp hn hm hk _
    exact hq.elt C i v s₃ m₃ E' (Heap.get?_none_of_le (Nat.le_trans (by simp) hC)) hP hp hn hm (up hk)
  · intro D h' tk ys vs hD _ hl hlen hP hF hns hk
    obtain ⟨k, e⟩ := hl
    have none₁ : s₁.heap.get? D = none := by
      cases e : s₁.heap.get? D with
      | none => rfl
      | some ob => rw [Heap.get?_push_of_some _ e] at hD; cases hD
    have kept : ∀ b o, b ≠ env.locals → s₁.heap.get? b = some o → h'.get? b = some o := fun b o hb e =>
      hk b o hb (fun hm => get_push_ne e (List.mem_singleton.mp hm)) (Heap.get?_push_of_some _ e)
    have h₀L : h₀.get? env.locals = none := by
      cases e : h₀.get? env.locals with
      | none => rfl
      | some o => exact absurd (Heap.lt_size e) (Nat.not_lt.mpr F₁.above)
    refine hQ D h' tk ys.toList vs k ⟨hns, fun b o e => kept b o (fun q => by rw [q, h₀L] at e; cases e) (F₁.keep b o e), F₁.above⟩ (fun q hq => ?_) (News.apart N₁ none₁) hlen hP hF
    rcases List.mem_cons.mp hq with rfl | hq
    · refine ⟨by rw [e], ?_, ?_⟩
      · rintro rfl
        obtain ⟨oL, _, _, hL, _⟩ := F₁.ns
        rw [hL] at none₁; cases none₁
      · cases e : h₀.get? D with
        | none => rfl
        | some o' => have := F₁.keep _ _ e; rw [this] at none₁; cases none₁
    · exact ⟨kept _ _ (N₁ q hq).2.1 (N₁ q hq).1, (N₁ q hq).2⟩
end
end Mine
end
section
open PySem PySem.W PyProof.Rows PySem.Calls
set_option maxRecDepth 100000
namespace Mine
theorem map1 {m : Str → Option Value} {a : Str} {u : Option Value} (ha : u = m a) : m = fun y => if y = a then u else m y := by
  funext y
  by_cases h : y = a
  · subst h; rw [if_pos rfl, ha]
  · rw [if_neg h]
theorem map2 {m : Str → Option Value} {a b : Str} {u v : Option Value} (ha : u = m a) (hb : v = m b) : m = fun y => if y = a then u else if y = b then v else m y := by
  funext y
  by_cases h : y = a
  · subst h; rw [if_pos rfl, ha]
  · rw [if_neg h]
    by_cases h2 : y = b
    · subst h2; rw [if_pos rfl, hb]
    · rw [if_neg h2]
/-- a statement that stores one truth value: all its ways meet -/
theorem seam {prog : Program} {w : World} {A : Around} {E : Value → Shared → Prop} {s : Shared} {h₀ : Heap} {L : Addr} {m : Str → Option Value} {news : List (Addr × Obj)} {t : Sem Flow} {Q : Flow → Shared → Prop} (x : Str) (b : Bool)
    (_F : Fr h₀ L s.heap m) (_N : News h₀ L s.heap news)
    (h1 : wpAny (model prog w) A t (fun fl s' => fl = .next ∧ ∃ h' tk, s' = { s with heap := h', toks := tk } ∧ Fr h₀ L h' (fun y => if y = x then some (.bool b) else m y) ∧ News h₀ L h' news) E s)
    (h2 : ∀ h' tk, Fr h₀ L h' (fun y => if y = x then some (.bool b) else m y) → News h₀ L h' news → Q .next { s with heap := h', toks := tk }) : wpAny (model prog w) A t Q E s :=
  wpAny_mono h1 (fun fl s' ⟨e, h', tk, e2, F', N'⟩ => by subst e; subst e2; exact h2 h' tk F' N') fun _ _ e => e
/-- a statement that stores nothing -/
theorem seam0 {prog : Program} {w : World} {A : Around} {E : Value → Shared → Prop} {s : Shared} {h₀ : Heap} {L : Addr} {m : Str → Option Value} {news : List (Addr × Obj)} {t : Sem Flow} {Q : Flow → Shared → Prop}
    (_F : Fr h₀ L s.heap m) (_N : News h₀ L s.heap news)
    (h1 : wpAny (model prog w) A t (fun fl s' => fl = .next ∧ ∃ h' tk, s' = { s with heap := h', toks := tk } ∧ Fr h₀ L h' m ∧ News h₀ L h' news) E s)
    (h2 : ∀ h' tk, Fr h₀ L h' m → News h₀ L h' news → Q .next { s with heap := h', toks := tk }) : wpAny (model prog w) A t Q E s :=
  wpAny_mono h1 (fun fl s' ⟨e, h', tk, e2, F', N'⟩ => by subst e; subst e2; exact h2 h' tk F' N') fun _ _ e => e
theorem count_tx (l : List (List Nat)) (a : List Nat) : (l.map tx).count (tx a) = l.count a := by
  induction l with
  | nil => rfl
  | cons x l ih =>
    rw [List.map_cons, List.count_cons, List.count_cons, ih]
    congr 1
    by_cases h : x = a
    · subst h; simp
    · have : tx x ≠ tx a := fun e => h (tx_inj e)
      simp [h, this]
theorem countIn_tx (l : List (List Nat)) (a : List Nat) : PySem.Spec.countIn (.str (tx a)) ((l.map tx).map PyData.str) = ((l.count a : Nat) : Int) := by
  induction l with
  | nil => rfl
  | cons x l ih =>
    rw [List.map_cons, List.map_cons, List.count_cons]
    show (if PySem.Spec.same (.str (tx x)) (.str (tx a)) = true then (1 : Int) else 0) + _ = _
    rw [ih]
    have e : PySem.Spec.same (.str (tx x)) (.str (tx a)) = (x == a) := by
      have e1 : PySem.Spec.same (.str (tx x)) (.str (tx a)) = (tx x == tx a) := by simp [PySem.Spec.same]
      rw [e1, tx_beq]
      by_cases h : x = a <;> simp [h]
    rw [e]
    by_cases h : (x == a) = true
    · rw [if_pos h, if_pos h]; omega
    · rw [if_neg h, if_neg h]; omega
theorem hdW_ints (P : Nat) (ws : List Nat) : decide ((intsL ws).take 3 = [(P : Int), (P : Int), (P : Int)]) = hdW P ws := by
  have e : [(P : Int), (P : Int), (P : Int)] = intsL [P, P, P] := rfl
  have e2 : (intsL ws).take 3 = intsL (ws.take 3) := by simp [intsL, List.map_take]
  rw [e, e2]
  unfold hdW
  by_cases h : ws.take 3 = [P, P, P]
  · rw [h]; simp
  · rw [decide_eq_false h]; exact decide_eq_false fun h2 => h (intsL_inj h2)
theorem tlW_ints (P : Nat) (ws : List Nat) : decide ((intsL ws).drop ((intsL ws).length - (-(-2 : Int)).toNat) = [(P : Int), (0 : Int)]) = tlW P ws := by
  have e : [(P : Int), (0 : Int)] = intsL [P, 0] := rfl
  have e2 : (intsL ws).drop ((intsL ws).length - (-(-2 : Int)).toNat) = intsL (ws.drop (ws.length - 2)) := by
    have : (-(-2 : Int)).toNat = 2 := by decide
    rw [this]
    simp [intsL, List.map_drop]
  rw [e, e2]
  unfold tlW
  by_cases h : ws.drop (ws.length - 2) = [P, 0]
  · rw [h]; simp
  · rw [decide_eq_false h]; exact decide_eq_false fun h2 => h (intsL_inj h2)
theorem replace_bs (r : List Nat) : Txt.replace (tx r) (Str.ofString "\\") (Str.ofString "") = tx (sgn r) := by
  have e1 : Str.ofString "\\" = ⟨#[92]⟩ := by decide +kernel
  have e2 : Str.ofString "" = ⟨#[]⟩ := by decide +kernel
  rw [e1, e2]
  have h := replace_strikes (tx r) 92
  rw [tx_get] at h
  have e3 : r.filter (· != 92) = sgn r := by
    unfold sgn
    refine List.filter_congr fun c _ => ?_
    by_cases h : c = 92 <;> simp [h]
  rw [e3] at h
  show _ = (⟨(sgn r).toArray⟩ : Str)
  rw [← h]
end Mine
end
section
open PySem PySem.W PyProof.Rows PySem.Calls
set_option maxRecDepth 100000
namespace Mine
/-- said when the stop at a statement has done its work -/
def HoldOff : Prop := True
theorem wordsLF : True := by
  k_with_none
  k_with "exec For Name Call cons nil" => refine Hold.out ?_
  k_with "go" => repeat' (first | (k_unfold; (try dsimp only)) | walk1 | (dsimp only; walk1))
  k_with "subscriptTail Name Name ref int" => refine Hold.out ?_
  k_with "subscriptTail Name Slice ref ref" => refine Hold.out ?_
  k_with "call builtin:sum" => refine Hold.out ?_
  k_with "call ref" => refine Hold.out ?_
  k_with "subscriptTail Name UnaryOp ref int" => refine Hold.out ?_
  k_with "exec For Name Name cons nil" => refine Hold.out ?_
  k_with "compareOp NotIn str ref" => refine Hold.out ?_
  k_with "call builtin:list.append" => refine Hold.out ?_
  k_with "eval ListComp" => refine Hold.out ?_
  k_with "eval Name" => ((with_reducible show wpAny _ _ (eval (Expr.Name _ _) (compEnvC _ _ _ _)) _ _ _); k_dflt (first | refine cnm_local (by assumption) (by assumption) ?_ | refine cnm_cell rfl (by assumption) ?_ | refine cnm_glob (by assumption) (by assumption) (by k_is) ?_ | refine cnm_boot (by assumption) (by assumption) (by k_is) boot_range (by decide) ?_ | refine cnm_boot (by assumption) (by assumption) (by k_is) boot_len (by decide) ?_))
  k_with "eval Call" => ((with_reducible show wpAny _ _ (eval (Expr.Call _ _ _ _) (compEnvC _ _ _ _)) _ _ _); refine wpAny_Call ?_)
  k_with "call builtin:len" => refine Hold.out ?_
  k_with "call type:range" => ((with_reducible show wpAny _ _ (call (Value.type "range") [Value.int (Nat.cast _) _]) _ _ _); refine Hold.out ?_)
  k_with "storeName" => ((first | (with_reducible show wpAny _ _ (storeName _ (Str.ofString "families") _) _ _ _) | (with_reducible show wpAny _ _ (storeName _ (Str.ofString "table") _) _ _ _) | (with_reducible show wpAny _ _ (storeName _ (Str.ofString "climbs") _) _ _ _) | (with_reducible show wpAny _ _ (storeName _ (Str.ofString "power") _) _ _ _)); refine Hold.out ?_)
  k_with "exec Assign cons ListComp" => ((with_reducible show wpAny _ _ (exec (Stmt.Assign [Expr.Name (Str.ofString "homes") _] _ _) _) _ _ _); refine Hold.out ?_)
  k_with "subscriptTail Subscript Name Name Constant ref int" => refine Hold.out ?_
  k_with "call builtin:str.replace" => refine Hold.out ?_
  k_with "execs cons" => ((with_reducible show wpAny _ _ (execs (Stmt.Assign [Expr.Name (Str.ofString "mine") _] _ _ :: _) _) _ _ _); refine Hold.out ?_)
  k_with "exec Assign cons" => ((first | (with_reducible show wpAny _ _ (exec (Stmt.Assign [Expr.Name (Str.ofString "head") _] _ _) _) _ _ _) | (with_reducible show wpAny _ _ (exec (Stmt.Assign [Expr.Name (Str.ofString "tail") _] _ _) _) _ _ _)); (fail_if_success (have _x : HoldOff := (by assumption))); refine Hold.out ?_)
  k_with "subscriptTail Name Slice str ref" => refine Hold.out ?_
  k_with "compareOp Eq ref ref" => refine Hold.out ?_
  k_with "compareOp Eq str str" => ((with_reducible show wpAny _ _ (compareOp _ (Value.str (Txt.slice _ _ _) _) _) _ _ _); refine Hold.out ?_)
  k_with "exec If" => ((first | (with_reducible show wpAny _ _ (exec (Stmt.If (Expr.Compare _ [CmpOp.IsNot] _ _) _ _ _) _) _ _ _) | (with_reducible show wpAny _ _ (exec (Stmt.If (Expr.Compare _ _ [Expr.IfExp _ _ _ _] _) _ _ _) _) _ _ _)); (fail_if_success (have _x : HoldOff := (by assumption))); refine Hold.out ?_)
  k_with "compareOp NotEq str str" => ((with_reducible show wpAny _ _ (compareOp _ (Value.str (tx (home _ _)) _) _) _ _ _); refine Hold.out ?_)
  k_with "getMethod ref" => ((with_reducible show wpAny _ _ (getMethod (Value.ref _) (Str.ofString "count") _) _ _ _); refine Hold.out ?_)
  k_with "call builtin:list.count" => refine Hold.out ?_
  k_with "leaf" => first | exact trivial | (rename Fr _ _ _ _ => Fx; exact Fx) | (rename News _ _ _ _ => Nx; exact News.sub Nx (fun p hp => by repeat (first | exact hp | apply List.mem_cons_of_mem)))
  k_with "map_at" => ((try dsimp only); walk_at "map_leaf")
  k_with "in_list" => first | exact List.mem_of_getElem? (i := 0) rfl | exact List.mem_of_getElem? (i := 1) rfl | exact List.mem_of_getElem? (i := 2) rfl | exact List.mem_of_getElem? (i := 3) rfl | exact List.mem_of_getElem? (i := 4) rfl | exact List.mem_of_getElem? (i := 5) rfl | exact List.mem_of_getElem? (i := 6) rfl | exact List.mem_of_getElem? (i := 7) rfl | exact List.mem_of_getElem? (i := 8) rfl | exact List.mem_of_getElem? (i := 9) rfl | exact List.mem_of_getElem? (i := 10) rfl | exact List.mem_of_getElem? (i := 11) rfl | exact List.mem_of_getElem? (i := 12) rfl | exact List.mem_of_getElem? (i := 13) rfl | repeat (first | exact List.mem_cons_self | apply List.mem_cons_of_mem)
  k_with "pyIter ref" => refine Hold.out ?_
  k_with "map_leaf" => ((repeat (first | (with_reducible refine Eq.trans ?_ (if_pos rfl).symm) | (refine Eq.trans ?_ (if_neg (by decide +kernel)).symm))); rfl)
  k_with "map_eq" => (funext y; (try dsimp only); (repeat (with_reducible refine ite_l (fun hy => ?_) (fun hn => ?_); (· (first | (exact absurd hy (by assumption)) | (subst hy; walk_at "map_leaf"))))); (repeat (with_reducible refine ite_r (fun hy => ?_) (fun hn => ?_); (· (first | exact absurd hy (by assumption) | rfl)))); rfl)
  trivial
theorem ints_pick {vs : List Value} {ns : List Int} (h : IntsAre vs ns) (f : List Nat) : ∃ ms, IntsAre (f.filterMap (vs.toArray[·]?)) ms := by
  induction f with
  | nil => exact ⟨[], .nil⟩
  | cons i f ih =>
    obtain ⟨ms, hm⟩ := ih
    rw [List.filterMap_cons]
    cases e : vs.toArray[i]? with
    | none => exact ⟨ms, hm⟩
    | some v =>
      rw [List.getElem?_toArray] at e
      obtain ⟨z, t, hv, _⟩ := h.at i v e
      subst hv
      exact ⟨z :: ms, .cons z t hm⟩
theorem ints_slice {vs : List Value} {ns : List Int} (h : IntsAre vs ns) (lo hi st : Option Int) : ∃ ms, IntsAre (slicePick vs.toArray lo hi st).toList ms := ints_pick h _
theorem News.two {h₀ h : Heap} {L : Addr} {news : List (Addr × Obj)} {a b : Addr × Obj} (N : News h₀ L h (a :: news)) (N' : News h₀ L h (b :: news)) : News h₀ L h (a :: b :: news) := fun p hp => by
  rcases List.mem_cons.mp hp with rfl | hp
  · exact N _ List.mem_cons_self
  · exact N' p hp
theorem News.drop2 {h₀ h : Heap} {L : Addr} {news : List (Addr × Obj)} {a b : Addr × Obj} (N : News h₀ L h (a :: b :: news)) : News h₀ L h (a :: news) := fun p hp => by
  rcases List.mem_cons.mp hp with rfl | hp
  · exact N _ List.mem_cons_self
  · exact N p (List.mem_cons_of_mem _ (List.mem_cons_of_mem _ hp))
/-- the rows' loop: what stands between its turns -/
def RwJ (R D fl : Addr) (rest : List (Addr × Obj)) (i : Nat) (m : Str → Option Value) (news : List (Addr × Obj)) : Prop :=
  ∃ m0 : Str → Option Value, m = (fun y => if y = Str.ofString "firsts" then some (.ref D) else if y = Str.ofString "script" then some (.ref fl) else m0 y) ∧
    ∃ us n rws, news = (R, W.listOf us.toArray n) :: rest ∧ StrsAre us (rws.map tx) ∧ RowsOk rws ∧ rws.length ≤ 5 * i
/-- the inner loop: a chain is put to the rows -/
def InJ (R D C I fl : Addr) (oC oI : Obj) (b : List Nat) (q : Nat) (rest : List (Addr × Obj)) (j : Nat) (m : Str → Option Value) (news : List (Addr × Obj)) : Prop :=
  ∃ m0 : Str → Option Value, m = (fun y => if y = Str.ofString "firsts" then some (.ref D) else if y = Str.ofString "script" then some (.ref fl) else m0 y) ∧
    ∃ us n rws, news = (C, oC) :: (I, oI) :: (R, W.listOf us.toArray n) :: rest ∧ StrsAre us (rws.map tx) ∧ ChainIn' b q j rws
theorem isList_keep {h h' : Heap} {a : Addr} {its : Array Value} (x : h.IsList a its) (k : Keep h h') : h'.IsList a its := let ⟨o, e, r⟩ := x; ⟨o, k _ _ e, r⟩
def EscF (v y : Value) : Prop := ∃ r t t', v = .str (tx r) t ∧ y = .str (tx (escL r)) t'
theorem esc_strs : ∀ {vs ys : List Value} {rws : List (List Nat)}, StrsAre vs (rws.map tx) → Paired EscF vs ys → StrsAre ys (rws.map fun r => tx (escL r))
  | [], [], [], _, _ => .nil
  | _ :: _, _ :: _, r :: rws, h, .cons h1 h2 => by
    obtain ⟨r', t, t', e1, rfl⟩ := h1
    obtain ⟨t2, vs', e2, h3⟩ := StrsAre.cons_inv h
    injection e2 with e3 e4
    subst e4
    rw [e1] at e3
    injection e3 with e5 e6
    rw [tx_inj e5]
    exact .cons _ _ (esc_strs h3 h2)
def Down (l : List Nat) : Prop := l.Pairwise fun x y => y < x
theorem down_cons {a b : Nat} {l : List Nat} (h : b < a) (hl : Down (b :: l)) : Down (a :: b :: l) := List.pairwise_cons.mpr ⟨fun y hy => by
  rcases List.mem_cons.mp hy with rfl | hy
  · exact h
  · exact Nat.lt_trans ((List.pairwise_cons.mp hl).1 y hy) h, hl⟩
theorem down_nodup {l : List Nat} (h : Down l) : l.Nodup := List.Pairwise.imp (fun h => Nat.ne_of_gt h) h
theorem nm_cons {G a : Nat} {l : List Nat} (h : a ≠ G) (hl : G ∉ l) : G ∉ a :: l := fun hm => (List.mem_cons.mp hm).elim (fun e => h e.symm) hl
theorem nodup_led {F G R L : Nat} (h1 : 99 < L) (h2 : L + 1 + 1 + 1 + 1 + 1 + 1 < R) (gR : R ≠ G) (g1 : L + 1 ≠ G) (g2 : L + 1 + 1 ≠ G) (g3 : L + 1 + 1 + 1 ≠ G) (g4 : L + 1 + 1 + 1 + 1 ≠ G) (g5 : L + 1 + 1 + 1 + 1 + 1 ≠ G) (g6 : L + 1 + 1 + 1 + 1 + 1 + 1 ≠ G) (g99 : 99 ≠ G)
    (hF : ∀ x ∈ [G, R, L + 1 + 1 + 1 + 1 + 1 + 1, L + 1 + 1 + 1 + 1 + 1, L + 1 + 1 + 1 + 1, L + 1 + 1 + 1, L + 1 + 1, L + 1, 99], x ≠ F) :
    [F, G, R, L + 1 + 1 + 1 + 1 + 1 + 1, L + 1 + 1 + 1 + 1 + 1, L + 1 + 1 + 1 + 1, L + 1 + 1 + 1, L + 1 + 1, L + 1, 99].Nodup :=
  List.nodup_cons.mpr ⟨fun h => hF F h rfl, List.nodup_cons.mpr ⟨nm_cons gR (nm_cons g6 (nm_cons g5 (nm_cons g4 (nm_cons g3 (nm_cons g2 (nm_cons g1 (nm_cons g99 List.not_mem_nil))))))),
    down_nodup (down_cons h2 (down_cons (Nat.lt_succ_self _) (down_cons (Nat.lt_succ_self _) (down_cons (Nat.lt_succ_self _) (down_cons (Nat.lt_succ_self _) (down_cons (Nat.lt_succ_self _) (down_cons (Nat.lt_succ_of_lt h1) (List.pairwise_singleton _ _))))))))⟩⟩
/-- an element of the climbs: how many steps, and where they end -/
def ClF (R : List (List Nat)) (v : Value) (o : Obj) : Prop := ∃ (i : Nat) (t t1 t2 : Tok), v = .int (i : Int) t ∧ o = { cls := .type "tuple", data := .seq #[.int (stp R i : Nat) t1, .int (top R i : Nat) t2] 0 }
/-- an element of the homes -/
def HmF (R : List (List Nat)) (v y : Value) : Prop := ∃ (i : Nat) (t t' : Tok), v = .int (i : Int) t ∧ y = .str (tx (home R i)) t'
theorem home_strs {R : List (List Nat)} {vs ys : List Value} {n : Nat} (hl : vs.length = n) (h : ∀ (j : Nat) v, vs[j]? = some v → j < n ∧ ∃ t, v = .int (j : Int) t) (hp : Paired (HmF R) vs ys) : StrsAre ys ((List.range n).map fun i => tx (home R i)) := by
  have key : ∀ (vs ys : List Value) (a : Nat), (∀ (j : Nat) v, vs[j]? = some v → ∃ t, v = .int ((a + j : Nat) : Int) t) → Paired (HmF R) vs ys → StrsAre ys ((List.range' a vs.length).map fun i => tx (home R i)) := by
    intro vs
    induction vs with
    | nil => intro ys a _ hp; cases hp; exact .nil
    | cons v vs ih =>
      intro ys a h hp
      cases hp with
      | cons h1 h2 =>
        obtain ⟨i, t, t', e, rfl⟩ := h1
        obtain ⟨t2, ht⟩ := h 0 v rfl
        rw [e] at ht
        injection ht with e4 e5
        have : i = a := by omega
        subst this
        rw [List.length_cons, List.range'_succ, List.map_cons]
        exact .cons _ _ (ih _ (i + 1) (fun j v hj => by
          obtain ⟨t, ht⟩ := h (j + 1) v (by simpa using hj)
          exact ⟨t, by rw [ht]; congr 1; omega⟩) h2)
  have := key vs ys 0 (fun j v hj => by obtain ⟨_, t, ht⟩ := h j v hj; exact ⟨t, by rw [ht, Nat.zero_add]⟩) hp
  rw [hl] at this
  rwa [List.range_eq_range']
/-- the last loop: what stands between its turns -/
def FJ (Hm : Addr) (led : Obj → List (Addr × Obj)) (_ : Nat) (m : Str → Option Value) (news : List (Addr × Obj)) : Prop :=
  ∃ m0 : Str → Option Value, m = (fun y => if y = Str.ofString "homes" then some (.ref Hm) else m0 y) ∧ ∃ (o : Obj) (v : Option Value), news = led o ∧ o.data = .cell v
theorem div_ints {vs ys : List Value} {ws : List Nat} {P : Nat} (hv : IntsAre vs (intsL ws)) (hp : Paired (fun v y => ∃ (n : Nat) (t t' : Tok), v = .int (n : Int) t ∧ y = .int ((n / P : Nat) : Int) t') vs ys) : IntsAre ys (intsL (divL ws P)) := by
  have h1 : IntsAre ys ((intsL ws).map fun z => ((z.toNat / P : Nat) : Int)) := by
    refine paired_map (fun (z : Int) v => ∃ u, v = Value.int z u) (fun z => ((z.toNat / P : Nat) : Int)) ?_ hv.length ?_ hp
    · rintro a v y ⟨u, rfl⟩ ⟨c, u', t, e, rfl⟩
      cases e; exact ⟨t, rfl⟩
    · intro j v hj
      obtain ⟨z', t', hv', hz'⟩ := hv.at j v hj
      exact ⟨z', hz', t', hv'⟩
  have e : (intsL ws).map (fun z => ((z.toNat / P : Nat) : Int)) = intsL (divL ws P) := by
    simp only [intsL, divL, List.map_map]
    refine List.map_congr_left fun m _ => ?_
    simp
  rw [e] at h1; exact h1
theorem nodup_last {l : List Nat} {a : Nat} (h : (l ++ [a]).Nodup) : ∀ x ∈ l, x ≠ a := fun x hx e => by
  rw [List.nodup_append] at h
  exact h.2.2 x hx a (List.mem_singleton.mpr rfl) e
theorem not_hi {b x1 dx1 f' c' x0 dx0 cl : Nat} (hb : b < cl) (h : b ≠ 99) (q6 : cl < dx0) (q7 : dx0 < x0) (q8 : x0 < c') (q9 : c' < f') (q10 : f' < dx1) (q11 : dx1 < x1) : b ∉ [x1, dx1, f', c', x0, dx0, cl, 99] :=
  have h1 := Nat.lt_trans hb q6
  have h2 := Nat.lt_trans h1 q7
  have h3 := Nat.lt_trans h2 q8
  have h4 := Nat.lt_trans h3 q9
  have h5 := Nat.lt_trans h4 q10
  nm_cons (Nat.ne_of_gt (Nat.lt_trans h5 q11)) (nm_cons (Nat.ne_of_gt h5) (nm_cons (Nat.ne_of_gt h4) (nm_cons (Nat.ne_of_gt h3) (nm_cons (Nat.ne_of_gt h2) (nm_cons (Nat.ne_of_gt h1) (nm_cons (Nat.ne_of_gt hb) (nm_cons (Ne.symm h) List.not_mem_nil)))))))
/-- an element of the families: a list of the row's escape's places -/
def FamF (R : List (List Nat)) (v : Value) (o : Obj) : Prop := ∃ (i : Nat) (t : Tok) (us : List Value) (c : Nat), v = .int (i : Int) t ∧ o = W.listOf us.toArray c ∧ IntsAre us (intsL (famL R i))
set_option maxHeartbeats 4000000 in
theorem law_holds : PySem.Challenge.rw_wb0007_01.Holds := hd rfl rfl rfl (by
  k_go0
  rename World => w
  rename Shared => s1
  rename List Int => ns
  rename IntsAre _ _ => hI
  rename Fr _ _ _ _ => F0
  rename News _ _ _ _ => N0
  rename Top topProg _ _ _ _ _ => T0
  rename Below _ _ _ _ => B0
  rename (¬ _ < _) => h63
  rename_i h1 tk1 o6 o5 o4 o3 o2 o1 e6 e5 e4 e3 e2 e1 Y0 KX l99
  clear B0 Y0
  change o1.data = Data.cell none at e1
  change o2.data = Data.cell none at e2
  change o3.data = Data.cell none at e3
  change o4.data = Data.cell none at e4
  change o5.data = Data.cell none at e5
  change o6.data = Data.cell none at e6
  rename_i fl vs al hL ra w1 r0 hr hc hD
  clear hD hc hr w1 r0 ra
  have hl63 : ns.length ≤ 63 := by omega
  replace F0 : Fr _ _ h1 (fun y => if y = Str.ofString "script" then some (.ref fl) else none) := F0
  have TR := topRead_of T0
  have rm : ∀ (e : PySem.Env) (k : Nat), k ≤ 30 → (callerA.deeper e).depth + k < recursionLimit := fun e k hk => by
    have h : callerA.depth + 1 + 30 < recursionLimit := by decide
    show callerA.depth + 1 + k < recursionLimit
    omega
  have um : ∀ (e : PySem.Env) (k : Nat), k ≤ 400 → (callerA.deeper e).units + k < cLine := fun e k hk => by
    have h : callerA.units + 3 + 400 < cLine := by decide
    show callerA.units + 3 + k < cLine
    omega
  have KT : ∀ h', Keep _ h' → Env w.params h' := fun h' k => Env.mk' KX TR k
  refine hideQ ?_
  intro Q0 hQ0
  walk_at "go"
  refine Hold.mk ?_
  rename News _ _ _ _ => N1
  rename Fr _ _ _ _ => F1
  rename_i D h2 lD h3 R h4 lR h5 o7 d7
  refine For_invVF F1 rfl rfl ?_
  walk_at "go"
  refine Hold.mk ?_
  rename IsRange _ _ _ _ _ _ _ _ => hr
  rename News _ _ _ _ => N2
  rename Fr _ _ _ _ => F2
  obtain ⟨tl, htl⟩ : ∃ tl : List (Addr × Obj), tl = [(s1.heap.objs.size + 1 + 1 + 1 + 1 + 1 + 1, o6), (s1.heap.objs.size + 1 + 1 + 1 + 1 + 1, o5), (s1.heap.objs.size + 1 + 1 + 1 + 1, o4), (s1.heap.objs.size + 1 + 1 + 1, o3), (s1.heap.objs.size + 1 + 1, o2), (99, tabObj #[])] := ⟨_, rfl⟩
  have htlR : ∀ p ∈ tl, p.1 ≠ R := fun p hp => by
    obtain ⟨q1, q2, q3, q4, q5, q6, q7, q8⟩ := lR
    rw [htl] at hp
    simp only [List.mem_cons, List.not_mem_nil, or_false] at hp
    rcases hp with rfl | rfl | rfl | rfl | rfl | rfl <;> exact Nat.ne_of_lt (by assumption)
  have N3 : News _ _ _ ((R, W.listOf #[] 0) :: (D, W.listOf #[Value.int 160 tk1, Value.int 122 (tk1 + 1), Value.int 1278 (tk1 + 1 + 1)] 0) :: (s1.heap.objs.size + 1, o7) :: tl) := News.sub N2 (fun p hp => by
    rw [htl] at hp
    simp only [List.mem_cons, List.not_mem_nil, or_false] at hp ⊢
    rcases hp with h | h | h | h | h | h | h | h | h <;> simp only [h, eq_self, true_or, or_true])
  clear N2
  refine' iter_range (n := 3) (RwJ R D fl _) rfl hr (by decide) F2 N3 ?jz ?jt ?jd
  case jz =>
    refine' ⟨_, map2 ?em0 ?em1, [], 0, [], rfl, .nil, RowsOk.nil, Nat.le_refl _⟩
    case em0 => walk_at "map_at"
    case em1 => walk_at "map_at"
  case jt =>
    rintro i ti m₁ news₁ h8 tk8 I oI hi ⟨m0, rfl, us, n, rws, rfl, hus, hrw, hlen⟩ hoff F8 N8
    refine hideQ ?_
    intro Q1 hQ1
    walk_at "go"
    refine Hold.mk ?_
    rename News _ _ _ _ => N9
    rename Fr _ _ _ _ => F9
    obtain ⟨z0, hz0⟩ : ∃ z0, ([160, 122, 1278] : List Int).getD ((i : Nat) : Int).toNat 0 = z0 := ⟨_, rfl⟩
    refine item_list_ints (vs := [_, _, _]) (ns := [160, 122, 1278]) (by exact News.lst N9 (List.mem_cons_of_mem _ (List.mem_cons_of_mem _ List.mem_cons_self))) (.cons _ _ (.cons _ _ (.cons _ _ .nil))) (by omega) (by simp; omega) (by omega) ?_
    intro t10
    rw [hz0]
    dsimp only
    walk_at "go"
    refine Hold.mk ?_
    rename News _ _ _ _ => N11
    rename Fr _ _ _ _ => F11
    dsimp only
    obtain ⟨ms, hms⟩ := ints_slice hI (some ((i : Nat) : Int)) (some 60) (some 3)
    k_dflt (refine' kmk_slice3_lit (s := { s1 with heap := h8, toks := _ }) (lo := some ((i : Nat) : Int)) (hi := some 60) (st := some 3) ?sF ?sN ?sl ?sp ?sq ?sk ?so rfl ?_ ?ss ?st ?sz; (case sF => exact F11); (case sN => exact N11); (case sl => exact Fr.lst F11 lifted); (case sp => kmk_part); (case sq => kmk_part); (case sk => kmk_part); (case so => decide); (case ss => with_unfolding_all rfl); (case st => kmk_pure); (case sz => have := hI.length; have h4 : (sizeLine : Nat) = 16777216 := rfl; simp; omega))
    intro S h12 F12 N12 lS
    dsimp only
    walk_at "go"
    refine Hold.mk ?_
    rename News _ _ _ _ => N13
    rename Fr _ _ _ _ => F13
    refine sumK rfl F13 N13 (by exact News.lst (n := 0) N13 List.mem_cons_self) hms ?_
    intro h14 tk14 t14 F14 N14
    dsimp only
    walk_at "go"
    refine Hold.mk ?_
    replace N14 := News.sub N14 (fun p hp => List.mem_cons_of_mem _ hp)
    clear N13 F13
    refine told_spec _ _ (rm _ _ (by decide)) (um _ _ (by decide)) rfl (KT _ F14.keep) ?_
    intro h16 tk16 T2 D2 t2 vs2 ws ss n2 k16 hT2 hD2 hT2o hD2o hvs2 hto
    have F16 := Fr.after' F14 k16
    have N16 := News.two (News.add F14 N14 k16 hT2 hT2o) (News.add F14 N14 k16 hD2 hD2o)
    clear N14 F14
    dsimp only
    walk_at "go"
    refine Hold.mk ?_
    rename News _ _ _ _ => N17
    rename Fr _ _ _ _ => F17
    replace N17 := News.sub N17 (fun p hp => List.mem_cons_of_mem _ hp)
    obtain ⟨hwl, hsl, hw12⟩ := told_le hto
    refine chain_spec D2 vs2 ws ss t2 (rm _ _ (by decide)) (um _ _ (by decide)) rfl (KT _ F17.keep) (News.lst N17 List.mem_cons_self) hvs2 hwl hsl hw12 ?_
    intro h18 tk18 C us18 k18 n18 kk18 hC hCo hP hus18
    have F18 := Fr.after' F17 kk18
    have N18 := News.add F17 N17 kk18 hC hCo
    have hCa := News.apart N17 hC
    clear F17 N17
    dsimp only
    walk_at "go"
    refine Hold.mk ?_
    rename News _ _ _ _ => N19
    rename Fr _ _ _ _ => F19
    have hk3 := told_k hto hP
    refine item_strs_neg (by exact News.lst N19 List.mem_cons_self) hus18 (by omega) (by rw [chainS_len]; omega) (by omega) ?_
    intro t20
    have e20 : (chainS (textL (divL ws (2 ^ k18)) ss) (k18 + 2)).getD ((-2 : Int) + ((chainS (textL (divL ws (2 ^ k18)) ss) (k18 + 2)).length : Nat)).toNat Str.empty = tx (textL ws ss) := by
      rw [chainS_len]
      have e : ((-2 : Int) + ((k18 + 2 : Nat) : Int)).toNat = k18 := by omega
      rw [e, ← told_top hto hP]
      simp [chainS, List.getD]
    rw [e20]
    dsimp only
    walk_at "go"
    refine Hold.mk ?_
    refine text_spec D2 vs2 ws ss t2 (rm _ _ (by decide)) rfl (KT _ F19.keep) (News.lst N19 (List.mem_cons_of_mem _ List.mem_cons_self)) hvs2 hwl (by omega) (fun k hk => Nat.le_trans (hw12 k hk) (by omega)) ?_
    intro h22 tk22 t22 k22
    have F22 := Fr.after' F19 k22
    have N22 := News.after' N19 k22
    clear F19 N19
    dsimp only
    walk_at "go"
    · rename ((_ != _) = true) => hc
      simp at hc
    refine Hold.mk ?_
    rename News _ _ _ _ => N23
    rename Fr _ _ _ _ => F23
    replace N23 := News.drop2 N23
    refine For_invVF F23 rfl rfl ?_
    walk_at "go"
    refine Hold.mk ?_
    rename News _ _ _ _ => N24
    rename Fr _ _ _ _ => F24
    have hCR : @Ne Nat C R := fun e => hCa (R, W.listOf us.toArray n) (List.mem_cons_of_mem _ (List.mem_cons_of_mem _ List.mem_cons_self)) e.symm
    have hIR : @Ne Nat I R := fun e => hoff (R, _) List.mem_cons_self e.symm
    have hCI : @Ne Nat C I := fun e => hCa (I, oI) (List.mem_cons_of_mem _ List.mem_cons_self) e.symm
    refine' iter_list (vs := us18) [(C, W.listOf us18.toArray n18)] (InJ R D C I fl _ oI (textL (divL ws (2 ^ k18)) ss) (5 * i) _) rfl (by exact News.lst N24 List.mem_cons_self) (.inr ⟨_, List.mem_cons_self⟩) (fun p hp => by rw [List.mem_singleton.mp hp]; exact List.mem_cons_self) F24 N24 ?iz ?it ?id
    case iz =>
      refine' ⟨_, map2 ?em2 ?em2b, us, n, rws, rfl, hus, hrw, by omega, fun h => absurd h (Nat.lt_irrefl _)⟩
      case em2 => walk_at "map_at"
      case em2b => walk_at "map_at"
    case it =>
      rintro j v m₂ news₂ h30 tk30 I2 oI2 hj ⟨m3, rfl, us3, n3, rws3, rfl, hus3, hci⟩ hoff2 hsrc2 F30 N30
      refine hideQ ?_
      intro Q2 hQ2
      obtain ⟨y, ty, rfl, hy⟩ := hus18.item j v hj
      have hjk : j < k18 + 2 := by have := (List.getElem?_eq_some_iff.mp hy).1; rwa [chainS_len] at this
      have hyj : y = tx (escN j (textL (divL ws (2 ^ k18)) ss)) := by
        have e : (chainS (textL (divL ws (2 ^ k18)) ss) (k18 + 2))[j]? = some (tx (escN j (textL (divL ws (2 ^ k18)) ss))) := by simp [chainS, hjk]
        rw [e] at hy; exact (Option.some.inj hy).symm
      subst hyj
      have hI2C : @Ne Nat I2 C := fun e => hoff2 (C, _) List.mem_cons_self e.symm
      have hI2R : @Ne Nat I2 R := fun e => hoff2 (R, _) (List.mem_cons_of_mem _ (List.mem_cons_of_mem _ List.mem_cons_self)) e.symm
      have hst := hci.step (told_bare hto hP) (told_small hto hP hjk)
      walk_at "go"
      refine Hold.mk ?_
      rename News _ _ _ _ => N31
      rename Fr _ _ _ _ => F31
      refine notin_list_strs (by exact News.lst N31 (List.mem_cons_of_mem _ (List.mem_cons_of_mem _ (List.mem_cons_of_mem _ List.mem_cons_self)))) hus3 ?_
      have ein : ((rws3.map tx).any (· == tx (escN j (textL (divL ws (2 ^ k18)) ss)))) = decide (escN j (textL (divL ws (2 ^ k18)) ss) ∈ rws3) := by
        rw [List.any_map]
        by_cases h : escN j (textL (divL ws (2 ^ k18)) ss) ∈ rws3
        · rw [decide_eq_true h, List.any_eq_true]
          exact ⟨_, h, by simp⟩
        · rw [decide_eq_false h, List.any_eq_false]
          intro r hr hc
          have : r = escN j (textL (divL ws (2 ^ k18)) ss) := tx_inj (by simpa using hc)
          rw [this] at hr; exact h hr
      rw [ein]
      by_cases hin : escN j (textL (divL ws (2 ^ k18)) ss) ∈ rws3
      · rw [decide_eq_true hin]
        unfold addRow at hst
        rw [if_pos hin] at hst
        rw [Bool.not_true]
        walk_at "go"
        rename News _ _ _ _ => N32
        rename Fr _ _ _ _ => F32
        refine hQ2 _ _ ?_
        refine' ⟨_, _, _, _, rfl, F32, N32, hoff2, hsrc2, _, map2 ?em3 ?em3b, us3, n3, rws3, rfl, hus3, hst⟩
        case em3 => walk_at "map_at"
        case em3b => walk_at "map_at"
      · rw [decide_eq_false hin]
        unfold addRow at hst
        rw [if_neg hin] at hst
        rw [Bool.not_false]
        walk_at "go"
        refine Hold.mk ?_
        rename News _ _ _ _ => N32
        rename Fr _ _ _ _ => F32
        obtain ⟨q1, q2, q3, q4, q5, q6, q7, q8⟩ := lR
        refine append_K F32 N32 (.tail hI2R (.tail hCR (.tail hIR (.head (fun p hp => ?_))))) ?_ ?_
        · rcases List.mem_cons.mp hp with rfl | hp
          · exact Nat.ne_of_lt q1
          rcases List.mem_cons.mp hp with rfl | hp
          · exact Nat.ne_of_lt q7
          · exact htlR p hp
        · intro h33 F33 N33
          dsimp only
          walk_at "go"
          rename News _ _ _ _ => N34
          rename Fr _ _ _ _ => F34
          rw [List.push_toArray] at N34
          refine hQ2 _ _ ?_
          refine' ⟨_, _, _, _, rfl, F34, N34, fun p hp => ?_, fun p hp => by rw [List.mem_singleton.mp hp]; exact List.mem_cons_self, _, map2 ?em4 ?em4b, us3 ++ [_], n3 + 1, rws3 ++ [_], rfl, ?_, hst⟩
          case em4 => walk_at "map_at"
          case em4b => walk_at "map_at"
          · rcases List.mem_cons.mp hp with rfl | hp
            · exact fun e => hI2C e.symm
            rcases List.mem_cons.mp hp with rfl | hp
            · exact hoff2 (I, oI) (List.mem_cons_of_mem _ List.mem_cons_self)
            rcases List.mem_cons.mp hp with rfl | hp
            · exact fun e => hI2R e.symm
            · exact hoff2 p (List.mem_cons_of_mem _ (List.mem_cons_of_mem _ (List.mem_cons_of_mem _ hp)))
          · rw [List.map_append]
            exact kct_snoc hus3
        · have h1 := hus3.len_eq
          have h2 := hci.2.1
          have h4 : (sizeLine : Nat) = 16777216 := rfl
          simp at h1 ⊢
          omega
    case id =>
      rintro m₂ news₂ h30 tk30 ⟨m3, rfl, us3, n3, rws3, rfl, hus3, hci⟩ _ F30 N30
      have hcl : us18.length = k18 + 2 := by rw [hus18.len_eq, chainS_len]
      rw [hcl] at hci
      have hrl := hci.2.1
      walk_at "go"
      rename News _ _ _ _ => N31
      rename Fr _ _ _ _ => F31
      refine hQ1 _ _ ?_
      refine' ⟨_, _, _, _, rfl, F31, News.sub N31 (fun p hp => List.mem_cons_of_mem _ hp), fun p hp => ?_, (fun _ h => nomatch h), _, map2 ?em5 ?em5b, us3, n3, rws3, rfl, hus3, hci.1, by omega⟩
      case em5 => walk_at "map_at"
      case em5b => walk_at "map_at"
      rcases List.mem_cons.mp hp with rfl | hp
      · exact fun e => hIR e.symm
      · exact hoff p (List.mem_cons_of_mem _ hp)
  case jd =>
    rintro m₁ news₁ h8 tk8 ⟨m0, rfl, us, n, rws, rfl, hus, hrw, hlen⟩ F8 N8
    have N8b : News _ _ _ ((R, W.listOf us.toArray n) :: (s1.heap.objs.size + 1 + 1 + 1 + 1 + 1 + 1, o6) :: (s1.heap.objs.size + 1 + 1 + 1 + 1 + 1, o5) :: (s1.heap.objs.size + 1 + 1 + 1 + 1, o4) :: (s1.heap.objs.size + 1 + 1 + 1, o3) :: (s1.heap.objs.size + 1 + 1, o2) :: (s1.heap.objs.size + 1, o7) :: [(99, tabObj #[])]) := News.sub N8 (fun p hp => by
      rw [htl]
      simp only [List.mem_cons, List.not_mem_nil, or_false] at hp ⊢
      rcases hp with h | h | h | h | h | h | h | h <;> simp only [h, eq_self, true_or, or_true])
    clear N8 htl htlR
    walk_at "go"
    refine Hold.mk ?_
    rename News _ _ _ _ => N9
    rename Fr _ _ _ _ => F9
    have hul : us.length = rws.length := by have := hus.len_eq; simpa using this
    refine' ListComp_At [] (fun _ => true) EscF ?hclos1 ?hcell1 rfl ?hnames1 rfl ?_
    case hclos1 => with_unfolding_all rfl
    case hcell1 => decide
    case hnames1 => decide
    walk_at "go"
    refine CompAt.list rfl (by exact News.lst N9 List.mem_cons_self) (by have h4 : (sizeLine : Nat) = 16777216 := rfl; omega) ⟨?_, ?_, ?_⟩
    · intro C i v s₃ m₃ E' hC hP hn hm hk
      exact wpAny_tests_nil ⟨rfl, _, _, rfl, fun _ _ e => e⟩
    · intro C i v s₃ m₃ E' hC hP hp hn hm hk
      obtain ⟨y, ty, rfl, hy⟩ := hus.item i v hP
      rw [List.getElem?_map] at hy
      obtain ⟨r, hr9, rfl⟩ := Option.map_eq_some_iff.mp hy
      have hrs := small_len (hrw.small r (List.mem_of_getElem? hr9))
      have KX3 := KX.keeps (Keep.trans F9.keep hk)
      have T3 := TR.keeps (Keep.trans F9.keep hk)
      walk_at "go"
      refine Hold.mk ?_
      refine escape_spec _ _ (room0 (rm _ 0 (by decide))) rfl ⟨KX3, _, _, _, _, T3⟩ (by rw [tx_len]; omega) ?_
      intro h12 tk12 t12 k12
      exact ⟨⟨r, _, _, rfl, rfl⟩, _, _, rfl, k12⟩
    · intro G h10 tk10 ys vs' k10 hk10 hG hGo hlen10 hsame hpair
      have e1 : vs' = us := list_same hlen10 hsame
      subst e1
      have hys := esc_strs hus (by rw [filt_true] at hpair; exact hpair)
      have F10 := Fr.after' F9 hk10
      have N10 := News.add F9 N9 hk10 hG hGo
      have aG := News.apart N9 hG
      clear N9 F9
      have gG1 : @Ne Nat (s1.heap.objs.size + 1) G := aG (_, o7) (by walk_at "in_list")
      have gG2 : @Ne Nat (s1.heap.objs.size + 1 + 1) G := aG (_, o2) (by walk_at "in_list")
      have gG3 : @Ne Nat (s1.heap.objs.size + 1 + 1 + 1) G := aG (_, o3) (by walk_at "in_list")
      have gG4 : @Ne Nat (s1.heap.objs.size + 1 + 1 + 1 + 1) G := aG (_, o4) (by walk_at "in_list")
      have gG5 : @Ne Nat (s1.heap.objs.size + 1 + 1 + 1 + 1 + 1) G := aG (_, o5) (by walk_at "in_list")
      have gG6 : @Ne Nat (s1.heap.objs.size + 1 + 1 + 1 + 1 + 1 + 1) G := aG (_, o6) (by walk_at "in_list")
      have gG99 : @Ne Nat 99 G := aG (_, tabObj #[]) (by walk_at "in_list")
      dsimp only
      walk_at "go"
      refine Hold.mk ?_
      rename News _ _ _ _ => N11
      rename Fr _ _ _ _ => F11
      rename Obj => o8
      rename (o8.data = _) => d8
      refine' ListComp_GrC [(Str.ofString "rows", s1.heap.objs.size + 1), (Str.ofString "guards", s1.heap.objs.size + 1 + 1)] (FamF rws) ?hclos2 (fun n => rfl) (fun h => rfl) rfl ?hnames2 (fun C c => rfl) ?_
      case hclos2 => with_unfolding_all rfl
      case hnames2 => decide
      walk_at "go"
      refine Hold.mk ?_
      refine len_list (by exact News.lst N11 (List.mem_cons_of_mem _ List.mem_cons_self)) (by simp; omega) ?_
      dsimp only
      walk_at "go"
      refine Hold.mk ?_
      refine range1_rows F11 N11 ?_
      intro h12 tk12 t12 u12 v12 hr12 F12 N12 k12
      clear F11 N11
      dsimp only
      refine ⟨rfl, _, vs'.length, _, _, _, rfl, hr12, (by have h4 : (sizeLine : Nat) = 16777216 := rfl; omega), ?_, ?_⟩
      · rintro C i v s₃ E' hC hi ⟨t, rfl⟩ hX hk
        have hk0 : Keep _ s₃.heap := Keep.trans F12.keep hk
        have KX3 := KX.keeps hk0
        have T3 := TR.keeps hk0
        have c1 : s₃.heap.IsCell (s1.heap.objs.size + 1) (some (.ref R)) := ⟨o7, hk _ _ (N12 (_, o7) (by walk_at "in_list")).1, d7⟩
        have c2 : s₃.heap.IsCell (s1.heap.objs.size + 1 + 1) (some (.ref G)) := ⟨o8, hk _ _ (N12 (_, o8) (by walk_at "in_list")).1, d8⟩
        refine' ListComp_R [(Str.ofString "rows", s1.heap.objs.size + 1), (Str.ofString "i", C + 1), (Str.ofString "guards", s1.heap.objs.size + 1 + 1)] (fun v => match v with | .int z _ => (decide (z.toNat ≠ i) && decide (rws.getD z.toNat [] = escL (rws.getD i []))) | _ => false) (fun v y => y = v) ?hclos3 ?hcell3 rfl ?hnames3 rfl ?_
        case hclos3 => with_unfolding_all rfl
        case hcell3 => decide
        case hnames3 => decide
        walk_at "go"
        refine Hold.mk ?_
        have lR3 : s₃.heap.IsList R vs'.toArray := ⟨_, hk _ _ (N12 (R, _) (by walk_at "in_list")).1, rfl, n, rfl⟩
        have lG3 : s₃.heap.IsList G ys.toArray := ⟨_, hk _ _ (N12 (G, _) (by walk_at "in_list")).1, rfl, k10, rfl⟩
        refine len_list lR3 (by simp; omega) ?_
        have esz : vs'.toArray.size = rws.length := by simp; exact hul
        rw [esz]
        walk_at "go"
        refine Hold.mk ?_
        refine call_range_1 ?_
        refine ⟨rfl, _, rws.length, _, _, _, rfl, Heap.get?_push_size _ rfl, (by have h4 : (sizeLine : Nat) = 16777216 := rfl; omega), ?_, ?_, ?_⟩
        · rintro C2 j v s₄ m₄ E2 hC2 ⟨hj, t2, rfl⟩ hn4 hm4 hk4
          have hk34 : Keep s₃.heap s₄.heap := fun b o e => hk4 b o (Heap.get?_push_of_some _ e)
          have KX4 := KX3.keeps hk34
          have T4 := T3.keeps hk34
          have c1' : s₄.heap.IsCell (s1.heap.objs.size + 1) (some (.ref R)) := c1.keeps hk34
          have c2' : s₄.heap.IsCell (s1.heap.objs.size + 1 + 1) (some (.ref G)) := c2.keeps hk34
          have c3' : s₄.heap.IsCell (C + 1) (some (.int (i : Nat) t)) := hX.keeps hk34
          refine wpAny_tests_one ?_
          walk_at "go"
          · refine Hold.mk ?_
            rename (¬ _) => hne
            have hji : j ≠ i := by omega
            have lR4 : s₄.heap.IsList R vs'.toArray := isList_keep lR3 hk34
            have lG4 : s₄.heap.IsList G ys.toArray := isList_keep lG3 hk34
            refine item_row (f := fun r => r) lR4 hus hj (by omega) ?_
            intro t5
            walk_at "go"
            refine Hold.mk ?_
            refine item_row (f := escL) lG4 hys (by omega : i < rws.length) (by omega) ?_
            intro t6
            walk_at "go"
            all_goals first
              | exact ⟨_, _, rfl, fun _ _ e => e⟩
              | (rename (_ = true) => hq; rw [tx_beq] at hq; have hq' := of_decide_eq_true hq; show true = (decide ((j : Int).toNat ≠ i) && decide (rws.getD (j : Int).toNat [] = escL (rws.getD i []))); rw [Int.toNat_natCast, decide_eq_true hji, decide_eq_true hq']; rfl)
              | (rename (_ = false) => hq; rw [tx_beq] at hq; have hq' := of_decide_eq_false hq; show false = (decide ((j : Int).toNat ≠ i) && decide (rws.getD (j : Int).toNat [] = escL (rws.getD i []))); rw [Int.toNat_natCast, decide_eq_true hji, decide_eq_false hq']; rfl)
          · rename (_ = _) => heq
            have : j = i := by omega
            subst this
            simp
          · exact ⟨_, _, rfl, fun _ _ e => e⟩
        · rintro C2 j v s₄ m₄ E2 hC2 ⟨hj, t2, rfl⟩ hp hn4 hm4 hk4
          walk_at "go"
          exact ⟨_, _, rfl, fun _ _ e => e⟩
        · intro D3 h14 tk14 ys3 vs3 k14 hk14 hD3 hD3o hlen3 hsame3 hpair3
          have hk34 : Keep s₃.heap h14 := fun b o e => hk14 b o (Heap.get?_push_of_some _ e)
          have hi3 := ints_range hlen3 hsame3
          have e3 := paired_eq hpair3
          refine ⟨⟨D3, _, rfl, ?_, hD3o, i, t, ys3, k14, rfl, rfl, ?_⟩, _, _, rfl, hk34⟩
          · cases e : s₃.heap.get? D3 with
            | none => rfl
            | some o => have := Heap.get?_push_of_some { cls := .type "range", data := .fields #[.int 0 (s₃.toks + 1 + 1), .int (rws.length : Int) (s₃.toks + 1), .int 1 (s₃.toks + 1 + 1 + 1)] } e; exact absurd (hD3.symm.trans this) (fun h => nomatch h)
          · rw [e3]
            have := ints_filter (p := fun v => match v with | .int z _ => (decide (z.toNat ≠ i) && decide (rws.getD z.toNat [] = escL (rws.getD i []))) | _ => false) (q := fun z => (decide (z.toNat ≠ i) && decide (rws.getD z.toNat [] = escL (rws.getD i [])))) (fun n t => rfl) hi3
            have e4 : (intsL (List.range rws.length)).filter (fun z => (decide (z.toNat ≠ i) && decide (rws.getD z.toNat [] = escL (rws.getD i [])))) = intsL (famL rws i) := by
              unfold intsL famL
              rw [List.filter_map]; rfl
            rw [e4] at this
            exact this
      · intro Fa h16 tk16 fys k16 hk16 hFa hFao hflen hfel
        obtain ⟨fob, hfo, hfm⟩ := objs_of (G := fun j o => ∃ us c, o = W.listOf us.toArray c ∧ IntsAre us (intsL (famL rws j))) (fun j y hy => by
          obtain ⟨t, a, o, e, ha, hao, i, t', us, c, e2, e3, hi⟩ := hfel j y hy
          injection e2 with e4 e5
          have : j = i := by omega
          subst this
          exact ⟨a, o, e, ha, hao, us, c, e3, hi⟩)
        have hfams : FamsOn rws fys fob := ⟨by rw [hflen, hul], fun j y hy => by obtain ⟨a, o, e, hm, us, c, rfl, hi⟩ := hfm j y hy; exact ⟨a, us, c, e, hm, hi⟩⟩
        have F16 := Fr.after' F12 hk16
        have N16 := News.addL F12 (News.add F12 N12 hk16 hFa hFao) hfo
        have aFa := News.apart N12 hFa
        have AD : [Fa, G, R, s1.heap.objs.size + 1 + 1 + 1 + 1 + 1 + 1, s1.heap.objs.size + 1 + 1 + 1 + 1 + 1, s1.heap.objs.size + 1 + 1 + 1 + 1, s1.heap.objs.size + 1 + 1 + 1, s1.heap.objs.size + 1 + 1, s1.heap.objs.size + 1, 99].Nodup := by
          refine nodup_led l99 lR.2.1 (aG (R, _) (by walk_at "in_list")) gG1 gG2 gG3 gG4 gG5 gG6 gG99 fun x hx => ?_
          simp only [List.mem_cons, List.not_mem_nil, or_false] at hx
          rcases hx with h | h | h | h | h | h | h | h | h <;> (rw [h]; exact aFa (_, _) (by walk_at "in_list"))
        have TD : ∀ p ∈ fob, p.1 ∉ [G, R, s1.heap.objs.size + 1 + 1 + 1 + 1 + 1 + 1, s1.heap.objs.size + 1 + 1 + 1 + 1 + 1, s1.heap.objs.size + 1 + 1 + 1 + 1, s1.heap.objs.size + 1 + 1 + 1, s1.heap.objs.size + 1 + 1, s1.heap.objs.size + 1, 99] := by
          intro p hp hm
          have aps := News.apart N12 (hfo p hp).1
          simp only [List.mem_cons, List.not_mem_nil, or_false] at hm
          rcases hm with h | h | h | h | h | h | h | h | h <;> exact aps (_, _) (by walk_at "in_list") h.symm
        dsimp only [List.cons_append, List.nil_append] at N16
        clear N12 F12
        dsimp only
        walk_at "go"
        refine Hold.mk ?_
        rename News _ _ _ _ => N17
        rename Fr _ _ _ _ => F17
        refine stN rfl rfl rfl F17 N17 e3 (updf_of2 (pre := [(Fa, _), (G, _), (R, _), (_, o6), (_, o5), (_, o4)]) (post := [(_, o8), (_, o7), (99, _)]) (tail := fob) (fun p hp e => TD p hp (by rw [e]; walk_at "in_list")) AD) ?_
        intro h18 o9 F18 N18 d9
        dsimp only [List.cons_append, List.nil_append] at N18
        clear F17 N17
        walk_at "go"
        refine Hold.mk ?_
        rename News _ _ _ _ => N19
        rename Fr _ _ _ _ => F19
        refine context_spec Fa (rm _ _ (by decide)) rfl F19 (news := []) (News.sub N19 (fun p hp => by rw [List.mem_singleton.mp hp]; walk_at "in_list")) KX T0 codeHd (fun p hp => nomatch hp) ?_
        intro h20 tk20 x1 dx1 n1 f' c' ct oc' vs20 tv x0 dx0 n0 cl oc t0 t1 t2 F20 N20 q1 q2 q3 q4 q5 q6 q7 q8 q9 q10 q11 kept low
        walk_at "go"
        refine Hold.mk ?_
        have nz := nodup_last (l := [Fa, G, R, s1.heap.objs.size + 1 + 1 + 1 + 1 + 1 + 1, s1.heap.objs.size + 1 + 1 + 1 + 1 + 1, s1.heap.objs.size + 1 + 1 + 1 + 1, s1.heap.objs.size + 1 + 1 + 1, s1.heap.objs.size + 1 + 1, s1.heap.objs.size + 1]) AD
        have hs20 := fun (q : Addr × Obj) (hq : q ∈ _) (hne : q.1 ≠ 99) => (⟨kept _ _ (N19 q hq).1 (fun hm => hne (List.mem_singleton.mp hm)), low _ _ (N19 q hq).1⟩ : h20.get? q.1 = some q.2 ∧ q.1 < cl)
        have fz : ∀ p ∈ fob, p.1 ≠ 99 := fun p hp e => TD p hp (by rw [e]; walk_at "in_list")
        refine parents_spec (tv := .none) (rm _ _ (by decide)) rfl F20 KX T0 N20 q1 q2 q3 (fun q hq => by rw [List.mem_singleton.mp hq]; exact q5) q6 q7 q8 q9 q10 q11 fys (fams rws) k16 (fams_once hrw.nodup) (by omega) (fun g hg => ?_) ?_
        · have hFa20 := hs20 (Fa, _) (by walk_at "in_list") (nz Fa (by walk_at "in_list"))
          refine ⟨hg _ _ hFa20.1 (not_hi hFa20.2 (nz Fa (by walk_at "in_list")) q6 q7 q8 q9 q10 q11), hfams.fams fun p hp => ?_⟩
          have hp20 := hs20 p (by repeat (first | exact hp | apply List.mem_cons_of_mem)) (fz p hp)
          exact hg _ _ hp20.1 (not_hi hp20.2 (fz p hp) q6 q7 q8 q9 q10 q11)
        · intro h22 tk22 tb ot kvs F22 N22 dk lo22 htab htb kept22
          have hs22 := fun (q : Addr × Obj) (hq : q ∈ _) (hne : q.1 ≠ 99) => (⟨kept22 _ _ (hs20 q hq hne).1 (not_hi (hs20 q hq hne).2 hne q6 q7 q8 q9 q10 q11), (N19 q hq).2⟩ : h22.get? q.1 = some q.2 ∧ q.1 ≠ _ ∧ (ghostOf s1.heap [(103, 99)]).get? q.1 = none)
          have N23 : News (ghostOf s1.heap [(103, 99)]) s1.heap.objs.size h22 ((tb, ot) :: (Fa, W.listOf fys.toArray k16) :: (G, W.listOf ys.toArray k10) :: (R, W.listOf vs'.toArray n) :: (s1.heap.objs.size + 1 + 1 + 1 + 1 + 1 + 1, o6) :: (s1.heap.objs.size + 1 + 1 + 1 + 1 + 1, o5) :: (s1.heap.objs.size + 1 + 1 + 1 + 1, o4) :: (s1.heap.objs.size + 1 + 1 + 1, o9) :: (s1.heap.objs.size + 1 + 1, o8) :: (s1.heap.objs.size + 1, o7) :: (99, lamTab c') :: fob) := by
            intro p hp
            rcases List.mem_cons.mp hp with rfl | hp
            · exact N22 _ List.mem_cons_self
            rcases List.mem_cons.mp hp with rfl | hp
            · exact hs22 _ (by walk_at "in_list") (nz _ (by walk_at "in_list"))
            rcases List.mem_cons.mp hp with rfl | hp
            · exact hs22 _ (by walk_at "in_list") (nz _ (by walk_at "in_list"))
            rcases List.mem_cons.mp hp with rfl | hp
            · exact hs22 _ (by walk_at "in_list") (nz _ (by walk_at "in_list"))
            rcases List.mem_cons.mp hp with rfl | hp
            · exact hs22 _ (by walk_at "in_list") (nz _ (by walk_at "in_list"))
            rcases List.mem_cons.mp hp with rfl | hp
            · exact hs22 _ (by walk_at "in_list") (nz _ (by walk_at "in_list"))
            rcases List.mem_cons.mp hp with rfl | hp
            · exact hs22 _ (by walk_at "in_list") (nz _ (by walk_at "in_list"))
            rcases List.mem_cons.mp hp with rfl | hp
            · exact hs22 _ (by walk_at "in_list") (nz _ (by walk_at "in_list"))
            rcases List.mem_cons.mp hp with rfl | hp
            · exact hs22 _ (by walk_at "in_list") (nz _ (by walk_at "in_list"))
            rcases List.mem_cons.mp hp with rfl | hp
            · exact hs22 _ (by walk_at "in_list") (nz _ (by walk_at "in_list"))
            rcases List.mem_cons.mp hp with rfl | hp
            · exact N22 _ (List.mem_cons_of_mem _ List.mem_cons_self)
            · exact hs22 p (by repeat (first | exact hp | apply List.mem_cons_of_mem)) (fz p hp)
          have AD23 : [tb, Fa, G, R, s1.heap.objs.size + 1 + 1 + 1 + 1 + 1 + 1, s1.heap.objs.size + 1 + 1 + 1 + 1 + 1, s1.heap.objs.size + 1 + 1 + 1 + 1, s1.heap.objs.size + 1 + 1 + 1, s1.heap.objs.size + 1 + 1, s1.heap.objs.size + 1, 99].Nodup := by
            refine List.nodup_cons.mpr ⟨fun h => ?_, AD⟩
            have no : ∀ o, h20.get? tb ≠ some o := fun o e => by rw [htb] at e; cases e
            simp only [List.mem_cons, List.not_mem_nil, or_false] at h
            rcases h with h | h | h | h | h | h | h | h | h | h
            · exact no _ (by rw [h]; exact (hs20 (_, _) (by walk_at "in_list") (nz _ (by walk_at "in_list"))).1)
            · exact no _ (by rw [h]; exact (hs20 (_, _) (by walk_at "in_list") (nz _ (by walk_at "in_list"))).1)
            · exact no _ (by rw [h]; exact (hs20 (_, _) (by walk_at "in_list") (nz _ (by walk_at "in_list"))).1)
            · exact no _ (by rw [h]; exact (hs20 (_, _) (by walk_at "in_list") (nz _ (by walk_at "in_list"))).1)
            · exact no _ (by rw [h]; exact (hs20 (_, _) (by walk_at "in_list") (nz _ (by walk_at "in_list"))).1)
            · exact no _ (by rw [h]; exact (hs20 (_, _) (by walk_at "in_list") (nz _ (by walk_at "in_list"))).1)
            · exact no _ (by rw [h]; exact (hs20 (_, _) (by walk_at "in_list") (nz _ (by walk_at "in_list"))).1)
            · exact no _ (by rw [h]; exact (hs20 (_, _) (by walk_at "in_list") (nz _ (by walk_at "in_list"))).1)
            · exact no _ (by rw [h]; exact (hs20 (_, _) (by walk_at "in_list") (nz _ (by walk_at "in_list"))).1)
            · exact no _ (by rw [h]; exact (N20 (99, _) (by walk_at "in_list")).1)
          clear N19 F19 N20 F20 N22
          refine stN rfl rfl rfl F22 N23 e4 (updf_of2 (pre := [(tb, _), (Fa, _), (G, _), (R, _), (_, o6), (_, o5)]) (post := [(_, o9), (_, o8), (_, o7), (99, _)]) (tail := fob) (fun p hp e => TD p hp (by rw [e]; walk_at "in_list")) AD23) ?_
          intro h24 o10 F24 N24 d10
          dsimp only [List.cons_append, List.nil_append] at N24
          clear F22 N23
          walk_at "go"
          refine Hold.mk ?_
          rename News _ _ _ _ => N25
          rename Fr _ _ _ _ => F25
          refine' ListComp_GrL [(Str.ofString "table", s1.heap.objs.size + 1 + 1 + 1 + 1), (Str.ofString "families", s1.heap.objs.size + 1 + 1 + 1)] (ClF rws) ?hclos4 ?hcell4 rfl ?hnames4 rfl ?_
          case hclos4 => with_unfolding_all rfl
          case hcell4 => decide
          case hnames4 => decide
          walk_at "go"
          refine Hold.mk ?_
          refine len_list (by exact News.lst N25 (by walk_at "in_list")) (by simp; omega) ?_
          have esz : vs'.toArray.size = rws.length := by simp; exact hul
          rw [esz]
          walk_at "go"
          refine Hold.mk ?_
          refine range1_rows F25 N25 ?_
          intro h26 tk26 t26 u26 v26 hr26 F26 N26 k26
          clear F25 N25
          dsimp only
          refine ⟨rfl, _, rws.length, _, _, _, rfl, hr26, (by have h4 : (sizeLine : Nat) = 16777216 := rfl; omega), ?_, ?_⟩
          · rintro C i v s₃ E' hC hi ⟨t, rfl⟩ ⟨m3, hn3, hm3⟩ hk
            have hk0 : Keep _ s₃.heap := Keep.trans F26.keep hk
            have KX3 := KX.keeps hk0
            have T3 := TR.keeps hk0
            have c3 : s₃.heap.IsCell (s1.heap.objs.size + 1 + 1 + 1) (some (.ref Fa)) := ⟨o9, hk _ _ (N26 (_, o9) (by walk_at "in_list")).1, d9⟩
            have c4 : s₃.heap.IsCell (s1.heap.objs.size + 1 + 1 + 1 + 1) (some (.ref tb)) := ⟨o10, hk _ _ (N26 (_, o10) (by walk_at "in_list")).1, d10⟩
            walk_at "go"
            refine Hold.mk ?_
            refine climb_spec i t tb Fa ot kvs fys (fams rws) k16 (parF (fams rws)) (rm _ _ (by decide)) (um _ _ (by decide)) rfl ⟨KX3, _, _, _, _, T3⟩ (hk _ _ (N26 (tb, ot) (by walk_at "in_list")).1) dk lo22 (hk _ _ (N26 (Fa, _) (by walk_at "in_list")).1)
              (hfams.fams fun p hp => hk _ _ (N26 p (by repeat (first | exact hp | apply List.mem_cons_of_mem))).1) (by omega) htab ?_
            intro h28 tk28 T t1 t2 k28 hT hTo
            exact ⟨⟨T, _, rfl, hT, hTo, i, t, t1, t2, rfl, rfl⟩, _, _, rfl, k28⟩
          · intro Cl h28 tk28 cys k28 hk28 hCl hClo hclen hcel
            obtain ⟨cob, hco, hcm⟩ := objs_of (G := fun j o => ∃ t1 t2, o = { cls := .type "tuple", data := .seq #[.int (stp rws j : Nat) t1, .int (top rws j : Nat) t2] 0 }) (fun j y hy => by
              obtain ⟨t, a, o, e, ha, hao, i, t', t1, t2, e2, e3⟩ := hcel j y hy
              injection e2 with e4 e5
              have : j = i := by omega
              subst this
              exact ⟨a, o, e, ha, hao, t1, t2, e3⟩)
            have F28 := Fr.after' F26 hk28
            have N28 := News.addL F26 (News.add F26 N26 hk28 hCl hClo) hco
            have aCl := News.apart N26 hCl
            have AD28 : [Cl, G, R, s1.heap.objs.size + 1 + 1 + 1 + 1 + 1 + 1, s1.heap.objs.size + 1 + 1 + 1 + 1 + 1, s1.heap.objs.size + 1 + 1 + 1 + 1, s1.heap.objs.size + 1 + 1 + 1, s1.heap.objs.size + 1 + 1, s1.heap.objs.size + 1, 99].Nodup := by
              refine List.nodup_cons.mpr ⟨fun h => ?_, (List.nodup_cons.mp AD).2⟩
              simp only [List.mem_cons, List.not_mem_nil, or_false] at h
              rcases h with h | h | h | h | h | h | h | h | h <;> exact aCl (_, _) (by walk_at "in_list") h.symm
            have TD28 : ∀ p ∈ cob, p.1 ∉ [G, R, s1.heap.objs.size + 1 + 1 + 1 + 1 + 1 + 1, s1.heap.objs.size + 1 + 1 + 1 + 1 + 1, s1.heap.objs.size + 1 + 1 + 1 + 1, s1.heap.objs.size + 1 + 1 + 1, s1.heap.objs.size + 1 + 1, s1.heap.objs.size + 1, 99] := by
              intro p hp hm
              have aps := News.apart N26 (hco p hp).1
              simp only [List.mem_cons, List.not_mem_nil, or_false] at hm
              rcases hm with h | h | h | h | h | h | h | h | h <;> exact aps (_, _) (by walk_at "in_list") h.symm
            have N29 : News (ghostOf s1.heap [(103, 99)]) s1.heap.objs.size h28 ((Cl, W.listOf cys.toArray k28) :: (G, W.listOf ys.toArray k10) :: (R, W.listOf vs'.toArray n) :: (s1.heap.objs.size + 1 + 1 + 1 + 1 + 1 + 1, o6) :: (s1.heap.objs.size + 1 + 1 + 1 + 1 + 1, o5) :: (s1.heap.objs.size + 1 + 1 + 1 + 1, o10) :: (s1.heap.objs.size + 1 + 1 + 1, o9) :: (s1.heap.objs.size + 1 + 1, o8) :: (s1.heap.objs.size + 1, o7) :: (99, lamTab c') :: cob) := by
              intro p hp
              rcases List.mem_cons.mp hp with rfl | hp
              · exact N28 _ (List.mem_append_left _ (by walk_at "in_list"))
              rcases List.mem_cons.mp hp with rfl | hp
              · exact N28 _ (List.mem_append_left _ (by walk_at "in_list"))
              rcases List.mem_cons.mp hp with rfl | hp
              · exact N28 _ (List.mem_append_left _ (by walk_at "in_list"))
              rcases List.mem_cons.mp hp with rfl | hp
              · exact N28 _ (List.mem_append_left _ (by walk_at "in_list"))
              rcases List.mem_cons.mp hp with rfl | hp
              · exact N28 _ (List.mem_append_left _ (by walk_at "in_list"))
              rcases List.mem_cons.mp hp with rfl | hp
              · exact N28 _ (List.mem_append_left _ (by walk_at "in_list"))
              rcases List.mem_cons.mp hp with rfl | hp
              · exact N28 _ (List.mem_append_left _ (by walk_at "in_list"))
              rcases List.mem_cons.mp hp with rfl | hp
              · exact N28 _ (List.mem_append_left _ (by walk_at "in_list"))
              rcases List.mem_cons.mp hp with rfl | hp
              · exact N28 _ (List.mem_append_left _ (by walk_at "in_list"))
              rcases List.mem_cons.mp hp with rfl | hp
              · exact N28 _ (List.mem_append_left _ (by walk_at "in_list"))
              exact N28 _ (List.mem_append_right _ hp)
            clear N28 N26 F26
            dsimp only
            walk_at "go"
            refine Hold.mk ?_
            refine stN rfl rfl rfl F28 N29 e5 (updf_of2 (pre := [(Cl, _), (G, _), (R, _), (_, o6)]) (post := [(_, o10), (_, o9), (_, o8), (_, o7), (99, _)]) (tail := cob) (fun p hp e => TD28 p hp (by rw [e]; walk_at "in_list")) AD28) ?_
            intro h30 o11 F30 N30 d11
            dsimp only [List.cons_append, List.nil_append] at N30
            clear F28 N29
            walk_at "go"
            refine Hold.mk ?_
            rename News _ _ _ _ => N31
            rename Fr _ _ _ _ => F31
            refine' Assign_ListComp_R F31 N31 [(Str.ofString "rows", s1.heap.objs.size + 1), (Str.ofString "guards", s1.heap.objs.size + 1 + 1), (Str.ofString "climbs", s1.heap.objs.size + 1 + 1 + 1 + 1 + 1)] (fun _ => true) (HmF rws) ?hsw5 ?hclos5 ?hcell5 rfl ?hnames5 rfl rfl rfl ?_
            case hsw5 => with_unfolding_all rfl
            case hclos5 => with_unfolding_all rfl
            case hcell5 => decide
            case hnames5 => decide
            walk_at "go"
            refine Hold.mk ?_
            refine len_list (by exact News.lst N31 (by walk_at "in_list")) (by simp; omega) ?_
            rw [esz]
            walk_at "go"
            refine Hold.mk ?_
            refine range1_rows F31 N31 ?_
            intro h32 tk32 t32 u32 v32 hr32 F32 N32 k32
            clear F31 N31
            dsimp only
            refine ⟨rfl, _, rws.length, _, _, _, rfl, hr32, (by have h4 : (sizeLine : Nat) = 16777216 := rfl; omega), F32, N32, ⟨?_, ?_, fun _ _ _ _ _ _ _ _ _ _ _ _ => trivial⟩, ?_⟩
            · intro C i v s₃ m₃ E' hC hP hn hm hk
              exact wpAny_tests_nil ⟨rfl, _, _, rfl, fun _ _ e => e⟩
            · rintro C i v s₃ m₃ E' hC ⟨hi, t, rfl⟩ hp hn hm hk
              have hk0 : Keep _ s₃.heap := Keep.trans F32.keep hk
              have KX3 := KX.keeps hk0
              have T3 := TR.keeps hk0
              have c1 : s₃.heap.IsCell (s1.heap.objs.size + 1) (some (.ref R)) := ⟨o7, hk _ _ (N32 (_, o7) (by walk_at "in_list")).1, d7⟩
              have c2 : s₃.heap.IsCell (s1.heap.objs.size + 1 + 1) (some (.ref G)) := ⟨o8, hk _ _ (N32 (_, o8) (by walk_at "in_list")).1, d8⟩
              have c5 : s₃.heap.IsCell (s1.heap.objs.size + 1 + 1 + 1 + 1 + 1) (some (.ref Cl)) := ⟨o11, hk _ _ (N32 (_, o11) (by walk_at "in_list")).1, d11⟩
              have lR3 : s₃.heap.IsList R vs'.toArray := ⟨_, hk _ _ (N32 (R, _) (by walk_at "in_list")).1, rfl, n, rfl⟩
              have lG3 : s₃.heap.IsList G ys.toArray := ⟨_, hk _ _ (N32 (G, _) (by walk_at "in_list")).1, rfl, k10, rfl⟩
              have lC3 : s₃.heap.IsList Cl cys.toArray := ⟨_, hk _ _ (N32 (Cl, _) (by walk_at "in_list")).1, rfl, k28, rfl⟩
              walk_at "go"
              refine Hold.mk ?_
              have hci : cys[i]? = some cys[i] := List.getElem?_eq_getElem (by omega)
              obtain ⟨a, o, hya, hma, t1, t2, rfl⟩ := hcm i _ hci
              rw [hya] at hci
              obtain ⟨htop, _, _, _, _⟩ := climb_ok hrw i hi
              refine item_litK lC3 (by omega) (by omega) (by simpa using hci) ?_
              walk1
              refine item_anyT (vs := [.int (stp rws i : Nat) t1, .int (top rws i : Nat) t2]) ⟨_, hk _ _ (N32 (a, _) (by repeat (first | exact hma | apply List.mem_cons_of_mem))).1, rfl, 0, rfl⟩ (.cons _ _ (.cons _ _ .nil)) (by omega) (by simp) (by omega) ?_
              intro t6
              show wpAny _ _ (subscriptTail _ _ _ (.int ((top rws i : Nat) : Int) t6)) _ _ _
              refine item_row (f := fun r => r) lR3 hus htop (by omega) ?_
              intro t7
              walk_at "go"
              refine Hold.mk ?_
              refine wild_spec _ _ (room0 (rm _ 0 (by decide))) ⟨KX3, _, _, _, _, T3⟩ (by rw [tx_len]; have := small_len (small_get hrw htop); omega) ?_
              intro h34 tk34 k34
              have hn4 := hn.keeps k34
              have c1' := c1.keeps k34
              have c2' := c2.keeps k34
              have lR4 := isList_keep lR3 k34
              have lG4 := isList_keep lG3 k34
              clear hn c1 c2 c5 lR3 lG3 lC3
              walk_at "go"
              · refine Hold.mk ?_
                rename (_ = true) => hw
                refine item_row (f := escL) lG4 hys hi (by omega) ?_
                intro t9
                exact ⟨⟨i, t, t9, rfl, by unfold home; rw [if_pos hw]⟩, _, _, rfl, k34⟩
              · refine Hold.mk ?_
                rename (_ = false) => hw
                refine item_row (f := fun r => r) lR4 hus hi (by omega) ?_
                intro t9
                exact ⟨⟨i, t, t9, rfl, by unfold home; rw [if_neg (by rw [hw]; decide)]⟩, _, _, rfl, k34⟩
            · intro Hm h36 tk36 hms vs6 k36 F36 N36 aHm hlen6 hsame6 hpair6
              have hmst := home_strs hlen6 hsame6 (by rw [filt_true] at hpair6; exact hpair6)
              clear F32 N32
              have AD36 : [Hm, Cl, G, R, s1.heap.objs.size + 1 + 1 + 1 + 1 + 1 + 1, s1.heap.objs.size + 1 + 1 + 1 + 1 + 1, s1.heap.objs.size + 1 + 1 + 1 + 1, s1.heap.objs.size + 1 + 1 + 1, s1.heap.objs.size + 1 + 1, s1.heap.objs.size + 1, 99].Nodup := by
                refine List.nodup_cons.mpr ⟨fun h => ?_, AD28⟩
                simp only [List.mem_cons, List.not_mem_nil, or_false] at h
                rcases h with h | h | h | h | h | h | h | h | h | h <;> exact aHm (_, _) (by walk_at "in_list") h.symm
              walk_at "go"
              refine Hold.mk ?_
              rename News _ _ _ _ => N37
              rename Fr _ _ _ _ => F37
              refine For_invVF F37 rfl rfl ?_
              walk_at "go"
              refine Hold.mk ?_
              refine len_list (by exact News.lst N37 (by walk_at "in_list")) (by simp; omega) ?_
              rw [esz]
              walk_at "go"
              refine Hold.mk ?_
              refine range1_rows F37 N37 ?_
              intro h38 tk38 t38 u38 v38 hr38 F38 N38 k38
              dsimp only
              walk_at "go"
              refine Hold.mk ?_
              obtain ⟨tlx, htlx⟩ : ∃ tl : List (Addr × Obj), tl = (G, W.listOf ys.toArray k10) :: (s1.heap.objs.size + 1 + 1 + 1 + 1, o10) :: (s1.heap.objs.size + 1 + 1 + 1, o9) :: (s1.heap.objs.size + 1 + 1, o8) :: (99, lamTab c') :: cob := ⟨_, rfl⟩
              have hcob : ∀ p ∈ cob, p ∈ tlx := fun p hp => by
                rw [htlx]; repeat (first | exact hp | apply List.mem_cons_of_mem)
              have ht6 : ∀ p ∈ tlx, p.1 ≠ s1.heap.objs.size + 1 + 1 + 1 + 1 + 1 + 1 := fun p hp => by
                rw [htlx] at hp
                rcases List.mem_cons.mp hp with rfl | hp
                · exact fun e => gG6 e.symm
                rcases List.mem_cons.mp hp with rfl | hp
                · show @Ne Nat _ _; omega
                rcases List.mem_cons.mp hp with rfl | hp
                · show @Ne Nat _ _; omega
                rcases List.mem_cons.mp hp with rfl | hp
                · show @Ne Nat _ _; omega
                rcases List.mem_cons.mp hp with rfl | hp
                · show @Ne Nat _ _; omega
                · exact fun e => TD28 p hp (by rw [e]; walk_at "in_list")
              have N39 : News _ _ _ ((Hm, W.listOf hms.toArray k36) :: (Cl, W.listOf cys.toArray k28) :: (R, W.listOf vs'.toArray n) :: (s1.heap.objs.size + 1 + 1 + 1 + 1 + 1 + 1, o6) :: (s1.heap.objs.size + 1 + 1 + 1 + 1 + 1, o11) :: (s1.heap.objs.size + 1, o7) :: tlx) := fun p hp => by
                rcases List.mem_cons.mp hp with rfl | hp
                · exact N38 _ (by walk_at "in_list")
                rcases List.mem_cons.mp hp with rfl | hp
                · exact N38 _ (by walk_at "in_list")
                rcases List.mem_cons.mp hp with rfl | hp
                · exact N38 _ (by walk_at "in_list")
                rcases List.mem_cons.mp hp with rfl | hp
                · exact N38 _ (by walk_at "in_list")
                rcases List.mem_cons.mp hp with rfl | hp
                · exact N38 _ (by walk_at "in_list")
                rcases List.mem_cons.mp hp with rfl | hp
                · exact N38 _ (by walk_at "in_list")
                rw [htlx] at hp
                rcases List.mem_cons.mp hp with rfl | hp
                · exact N38 _ (by walk_at "in_list")
                rcases List.mem_cons.mp hp with rfl | hp
                · exact N38 _ (by walk_at "in_list")
                rcases List.mem_cons.mp hp with rfl | hp
                · exact N38 _ (by walk_at "in_list")
                rcases List.mem_cons.mp hp with rfl | hp
                · exact N38 _ (by walk_at "in_list")
                rcases List.mem_cons.mp hp with rfl | hp
                · exact N38 _ (by walk_at "in_list")
                exact N38 p (by repeat (first | exact hp | apply List.mem_cons_of_mem))
              clear N38
              refine' iter_range (n := rws.length) (FJ Hm (fun o => (Hm, W.listOf hms.toArray k36) :: (Cl, W.listOf cys.toArray k28) :: (R, W.listOf vs'.toArray n) :: (s1.heap.objs.size + 1 + 1 + 1 + 1 + 1 + 1, o) :: (s1.heap.objs.size + 1 + 1 + 1 + 1 + 1, o11) :: (s1.heap.objs.size + 1, o7) :: tlx)) rfl hr38 (by have h4 : (sizeLine : Nat) = 16777216 := rfl; omega) F38 N39 ?fz ?ft ?fd
              case fz =>
                refine' ⟨_, map1 ?em6, o6, _, rfl, e6⟩
                case em6 => walk_at "map_at"
              case ft =>
                rintro i ti m₁ news₁ h tk I oI hi ⟨m0, rfl, o, v0, rfl, ho⟩ hoff F40 N40
                dsimp only at F40 N40
                refine hideQ ?_
                intro Q1 hQ1
                have hci : cys[i]? = some cys[i] := List.getElem?_eq_getElem (by omega)
                obtain ⟨a, oa, hya, hma, t1, t2, rfl⟩ := hcm i _ hci
                rw [hya] at hci
                obtain ⟨htop, _, _, _, hpw⟩ := climb_ok hrw i hi
                have h24 := stp_le hrw hi
                have hst4 : stp rws i ≤ 4 := by
                  apply Nat.le_of_not_lt
                  intro h5
                  have : 2 ^ 5 ≤ 2 ^ stp rws i := Nat.pow_le_pow_right (by decide) h5
                  omega
                walk_at "go"
                refine Hold.mk ?_
                rename News _ _ _ _ => N41
                rename Fr _ _ _ _ => F41
                refine item_litK (by exact News.lst N41 (by walk_at "in_list")) (by omega) (by omega) (by simpa using hci) ?_
                have N42 : News _ _ _ ((a, { cls := .type "tuple", data := .seq #[.int (stp rws i : Nat) t1, .int (top rws i : Nat) t2] 0 }) :: _) := fun p hp => by
                  rcases List.mem_cons.mp hp with rfl | hp
                  · exact N41 _ (by repeat (first | exact hcob _ hma | apply List.mem_cons_of_mem))
                  · exact N41 p hp
                clear N41
                walk_at "go"
                refine Hold.mk ?_
                rename News _ _ _ _ => N43
                rename Fr _ _ _ _ => F43
                replace N43 := News.sub N43 (fun p hp => List.mem_cons_of_mem _ hp)
                have e2p : (2 : Int) ^ (((stp rws i : Nat) : Int)).toNat = ((2 ^ stp rws i : Nat) : Int) := by rw [Int.toNat_natCast, Int.natCast_pow]; rfl
                rw [e2p]
                dsimp only at hoff
                have AD43 : [I, Hm, Cl, R, s1.heap.objs.size + 1 + 1 + 1 + 1 + 1 + 1, s1.heap.objs.size + 1 + 1 + 1 + 1 + 1, s1.heap.objs.size + 1].Nodup := by
                  refine List.nodup_cons.mpr ⟨fun h => ?_, AD36.sublist (.cons₂ _ (.cons₂ _ (.cons _ (.cons₂ _ (.cons₂ _ (.cons₂ _ (.cons _ (.cons _ (.cons _ (.cons₂ _ (.cons _ .slnil)))))))))))⟩
                  simp only [List.mem_cons, List.not_mem_nil, or_false] at h
                  rcases h with h | h | h | h | h | h <;> exact hoff (_, _) (by walk_at "in_list") h.symm
                refine stN rfl rfl rfl F43 N43 ho (updf_of2 (pre := [(I, _), (Hm, _), (Cl, _), (R, _)]) (post := [(_, o11), (_, o7)]) (tail := tlx) ht6 AD43) ?_
                intro h44 o12 F44 N44 d12
                dsimp only [List.cons_append, List.nil_append] at N44
                clear F43 N43
                walk_at "go"
                refine Hold.mk ?_
                rename News _ _ _ _ => N45
                rename Fr _ _ _ _ => F45
                refine item_row (f := fun r => r) (by exact News.lst N45 (by walk_at "in_list")) hus hi (by omega) ?_
                intro t46
                dsimp only
                walk_at "go"
                refine Hold.mk ?_
                have hsm := small_get hrw hi
                have hsl := small_len hsm
                refine weights_spec _ _ (rm _ _ (by decide)) rfl (KT _ F45.keep) (by omega) ?_
                intro h47 tk47 Se svs n47 k47 hSe hSeo hsv
                have F47 := Fr.after' F45 k47
                have N47 := News.add F45 N45 k47 hSe hSeo
                clear F45 N45
                dsimp only
                walk_at "go"
                refine Hold.mk ?_
                refine wpAny_execs_cons ?_
                dsimp only
                walk_at "go"
                refine Hold.mk ?_
                rename News _ _ _ _ => N48
                rename Fr _ _ _ _ => F48
                refine item_row (f := fun r => r) (by exact News.lst N48 (by walk_at "in_list")) hus hi (by omega) ?_
                intro t49
                dsimp only
                walk_at "go"
                refine Hold.mk ?_
                refine SC.replaceW (Nat.succ_ne_zero _) (Nat.succ_ne_zero _) (Nat.ne_of_lt (Nat.lt_succ_self _)) (by decide +kernel) (by rw [tx_len]; omega) (by decide +kernel) ?_
                intro t50 tk50
                rw [replace_bs]
                walk_at "go"
                refine Hold.mk ?_
                rename News _ _ _ _ => N51
                rename Fr _ _ _ _ => F51
                have hwl := weightsL_len (rws.getD i [])
                have hs7 := hsm.1
                refine power_spec Se svs (weightsL (rws.getD i [])) (rm _ _ (by decide)) (um _ _ (by decide)) rfl (KT _ F51.keep) (by exact News.lst N51 (by walk_at "in_list")) hsv (by omega) (by omega) ?_
                intro h52 tk52 P t52 k52 hP52
                obtain rfl := pw_one hP52 hpw
                have F52 := Fr.after' F51 k52
                have N52 := News.after' N51 k52
                clear F51 N51
                dsimp only
                walk_at "go"
                · rename (¬ _) => hne
                  exact absurd rfl hne
                refine Hold.mk ?_
                refine item_row (f := fun r => r) (by exact News.lst N52 (by walk_at "in_list")) hus htop (by omega) ?_
                intro t53
                walk_at "go"
                refine Hold.mk ?_
                rename News _ _ _ _ => N54
                rename Fr _ _ _ _ => F54
                have hPp : 0 < 2 ^ stp rws i := pow_pos _
                refine' ListComp_At [(Str.ofString "power", s1.heap.objs.size + 1 + 1 + 1 + 1 + 1 + 1)] (fun _ => true) (fun v y => ∃ (n : Nat) (t t' : Tok), v = .int (n : Int) t ∧ y = .int ((n / 2 ^ stp rws i : Nat) : Int) t') ?hclos6 ?hcell6 rfl ?hnames6 rfl ?_
                case hclos6 => with_unfolding_all rfl
                case hcell6 => decide
                case hnames6 => decide
                walk_at "go"
                have hsvl : svs.length = (weightsL (rws.getD i [])).length := by have := hsv.length; simpa [intsL] using this
                refine CompAt.list rfl (by exact News.lst N54 (by walk_at "in_list")) (by have h4 : (sizeLine : Nat) = 16777216 := rfl; omega) ⟨?_, ?_, ?_⟩
                · intro C i v s₃ m₃ E' hC hPv hn hm hkk
                  exact wpAny_tests_nil ⟨rfl, _, _, rfl, fun _ _ e => e⟩
                · intro C q v s₃ m₃ E' hC hPv hp hn hm hkk
                  obtain ⟨z', t', hv', hz'⟩ := hsv.at q v hPv
                  subst hv'
                  obtain ⟨mm, hm', rfl⟩ := List.mem_map.mp (List.mem_of_getElem? hz')
                  have hP1 : ((2 ^ stp rws i : Nat) : Int) ≠ 0 := by omega
                  have hm3 := hsm.2 mm hm'
                  have hcell : s₃.heap.IsCell (s1.heap.objs.size + 1 + 1 + 1 + 1 + 1 + 1) (some (.int ((2 ^ stp rws i : Nat) : Int) _)) := ⟨o12, hkk _ _ (N54 (_, o12) (by walk_at "in_list")).1, d12⟩
                  walk_at "go"
                  · have ef : ((mm : Nat) : Int).fdiv ((2 ^ stp rws i : Nat) : Int) = ((mm / 2 ^ stp rws i : Nat) : Int) := (Int.ofNat_fdiv mm (2 ^ stp rws i)).symm
                    rw [ef]
                  · exact ⟨_, _, rfl, fun _ _ e => e⟩
                · intro Dv h56 tk56 dvs vs8 k56 hk56 hDv hDvo hlen56 hsame56 hpair56
                  have e8 : vs8 = svs := list_same hlen56 hsame56
                  subst e8
                  have hdv := div_ints hsv (by rw [filt_true] at hpair56; exact hpair56)
                  have F56 := Fr.after' F54 hk56
                  have N56 := News.add F54 N54 hk56 hDv hDvo
                  clear F54 N54
                  dsimp only
                  walk_at "go"
                  refine Hold.mk ?_
                  refine text_spec Dv dvs (divL (weightsL (rws.getD i [])) (2 ^ stp rws i)) (sgn (rws.getD i [])) t50 (rm _ _ (by decide)) rfl (KT _ F56.keep) (by exact News.lst N56 (by walk_at "in_list")) hdv (by rw [divL, List.length_map, hwl]) (by omega) (fun k hk => by
                    obtain ⟨m', hm', rfl⟩ := List.mem_map.mp hk
                    exact Nat.le_trans (Nat.div_le_self _ _) (Nat.le_trans (hsm.2 m' hm') (by omega))) ?_
                  intro h58 tk58 t58 k58
                  rw [← top_text hrw hi]
                  have F58 := Fr.after' F56 k58
                  have N58 := News.after' (News.sub N56 (fun p hp => List.mem_cons_of_mem _ hp)) k58
                  clear F56 N56
                  dsimp only
                  walk_at "go"
                  · rename ((_ != _) = true) => hc
                    simp at hc
                  refine Hold.mk ?_
                  rename News _ _ _ _ => N59
                  rename Fr _ _ _ _ => F59
                  obtain ⟨H, hH⟩ : ∃ H, H = (hd3 (sgn (rws.getD i [])) && hdW (2 ^ stp rws i) (weightsL (rws.getD i []))) := ⟨_, rfl⟩
                  refine seam (Str.ofString "head") H F59 N59 ?_ ?_
                  · have hOff : HoldOff := trivial
                    rw [hH]
                    walk_at "go"
                    refine Hold.mk ?_
                    refine slice_strN_ns (s := { s1 with heap := h58, toks := _ }) F59 N59 ?_ (hsz := by rw [tx_len]; have h4 : (sizeLine : Nat) = 16777216 := rfl; omega)
                    intro h60 t60 tk60 F60 N60
                    dsimp only
                    walk_at "go"
                    refine Hold.mk ?_
                    refine eq_str ?_
                    rw [head_beq]
                    cases hb : hd3 (sgn (rws.getD i [])) with
                    | true =>
                      walk_at "go"
                      refine Hold.mk ?_
                      dsimp only
                      k_dflt (refine' kmk_slice_lit (s := { s1 with heap := h60, toks := _ }) (lo := none) (hi := some 3) ?aF ?aN ?al ?ap ?aq rfl ?_ ?as ?aj ?az; (case aF => exact F60); (case aN => exact N60); (case al => exact News.lst N60 (by walk_at "in_list")); (case ap => kmk_part); (case aq => kmk_part); (case as => with_unfolding_all rfl); (case aj => kmk_pure); (case az => have h4 : (sizeLine : Nat) = 16777216 := rfl; simp; omega))
                      intro S62 h62 F62 N62 lS62
                      dsimp only
                      walk_at "go"
                      refine Hold.mk ?_
                      rename News _ _ _ _ => N63
                      rename Fr _ _ _ _ => F63
                      refine eq_intsK (ns := (intsL (weightsL (rws.getD i []))).take 3) (ms := [((2 ^ stp rws i : Nat) : Int), ((2 ^ stp rws i : Nat) : Int), ((2 ^ stp rws i : Nat) : Int)]) (by exact News.lst N63 (by walk_at "in_list")) (kmk_upto (y := 3) hsv (by decide)) (by exact News.lst (vs := [_, _, _]) (n := 0) N63 (by walk_at "in_list")) (.cons _ _ (.cons _ _ (.cons _ _ .nil))) (um _ _ (by decide)) ?_
                      rw [hdW_ints]
                      walk_at "go"
                      all_goals walk_at "leaf"
                    | false =>
                      walk_at "go"
                      all_goals walk_at "leaf"
                  · intro h70 tk70 F70 N70
                    clear F59 N59
                    walk_at "go"
                    refine Hold.mk ?_
                    rename News _ _ _ _ => N71
                    rename Fr _ _ _ _ => F71
                    obtain ⟨T, hT⟩ : ∃ T, T = (tl2 (sgn (rws.getD i [])) && tlW (2 ^ stp rws i) (weightsL (rws.getD i []))) := ⟨_, rfl⟩
                    refine seam (Str.ofString "tail") T F71 N71 ?_ ?_
                    · have hOff : HoldOff := trivial
                      rw [hT]
                      walk_at "go"
                      refine Hold.mk ?_
                      refine slice_strN_sn (s := { s1 with heap := h70, toks := _ }) F71 N71 ?_ (hsz := by rw [tx_len]; have h4 : (sizeLine : Nat) = 16777216 := rfl; omega)
                      intro h72 t72 tk72 F72 N72
                      dsimp only
                      walk_at "go"
                      refine Hold.mk ?_
                      refine eq_str ?_
                      rw [tail_beq]
                      cases hb : tl2 (sgn (rws.getD i [])) with
                      | true =>
                        walk_at "go"
                        refine Hold.mk ?_
                        dsimp only
                        k_dflt (refine' kmk_slice_lit (s := { s1 with heap := h72, toks := _ }) (lo := some (-2)) (hi := none) ?bF ?bN ?bl ?bp ?bq rfl ?_ ?bs ?bj ?bz; (case bF => exact F72); (case bN => exact N72); (case bl => exact News.lst N72 (by walk_at "in_list")); (case bp => kmk_part); (case bq => kmk_part); (case bs => with_unfolding_all rfl); (case bj => kmk_pure); (case bz => have h4 : (sizeLine : Nat) = 16777216 := rfl; simp; omega))
                        intro S74 h74 F74 N74 lS74
                        dsimp only
                        walk_at "go"
                        refine Hold.mk ?_
                        rename News _ _ _ _ => N75
                        rename Fr _ _ _ _ => F75
                        refine eq_intsK (ns := (intsL (weightsL (rws.getD i []))).drop ((intsL (weightsL (rws.getD i []))).length - (-(-2 : Int)).toNat)) (ms := [((2 ^ stp rws i : Nat) : Int), (0 : Int)]) (by exact News.lst N75 (by walk_at "in_list")) (kmk_from_neg (x := -2) hsv (by decide)) (by exact News.lst (vs := [_, _]) (n := 0) N75 (by walk_at "in_list")) (.cons _ _ (.cons _ _ .nil)) (um _ _ (by decide)) ?_
                        rw [tlW_ints]
                        walk_at "go"
                        all_goals walk_at "leaf"
                      | false =>
                        walk_at "go"
                        all_goals walk_at "leaf"
                    · intro h80 tk80 F80 N80
                      clear F71 N71
                      have e80 : (tx (home rws i) != tx (rws.getD i [])) = (H || T) := by
                        rw [hH, hT, ← top_wild hrw hi, ← home_moves hrw hi]
                        have : (tx (home rws i) != tx (rws.getD i [])) = !(tx (home rws i) == tx (rws.getD i [])) := rfl
                        rw [this, tx_beq]; simp
                      obtain ⟨tm, htm⟩ := hmst.at (j := i) (y := tx (home rws i)) (by simp [hi])
                      walk_at "go"
                      refine Hold.mk ?_
                      rename News _ _ _ _ => N81
                      rename Fr _ _ _ _ => F81
                      refine seam0 F81 N81 ?_ ?_
                      · have hOff : HoldOff := trivial
                        walk_at "go"
                        refine Hold.mk ?_
                        refine item_litK (by exact News.lst N81 (by walk_at "in_list")) (by omega) (by omega) (by simpa using htm) ?_
                        walk_at "go"
                        refine Hold.mk ?_
                        refine item_row (f := fun r => r) (by exact News.lst N81 (by walk_at "in_list")) hus hi (by omega) ?_
                        intro t82
                        walk_at "go"
                        refine Hold.mk ?_
                        refine ne_str ?_
                        rw [e80]
                        cases H <;> cases T <;> walk_at "go"
                        all_goals walk_at "leaf"
                      · intro h84 tk84 F84 N84
                        clear F81 N81
                        walk_at "go"
                        refine Hold.mk ?_
                        rename News _ _ _ _ => N85
                        rename Fr _ _ _ _ => F85
                        refine seam0 F85 N85 ?_ ?_
                        · have hOff : HoldOff := trivial
                          walk_at "go"
                          refine Hold.mk ?_
                          refine item_litK (by exact News.lst N85 (by walk_at "in_list")) (by omega) (by omega) (by simpa using htm) ?_
                          walk_at "go"
                          refine Hold.mk ?_
                          refine wild_spec _ _ (room0 (rm _ 0 (by decide))) (KT _ F85.keep) (by rw [tx_len]; have := home_len hrw hi; omega) ?_
                          intro h86 tk86 k86
                          rw [home_tame hrw hi]
                          have F86 := Fr.after' F85 k86
                          have N86 := News.after' N85 k86
                          clear F85 N85
                          dsimp only
                          walk_at "go"
                          all_goals walk_at "leaf"
                        · intro h88 tk88 F88 N88
                          clear F85 N85
                          walk_at "go"
                          refine Hold.mk ?_
                          rename News _ _ _ _ => N89
                          rename Fr _ _ _ _ => F89
                          refine seam0 F89 N89 ?_ ?_
                          · have hOff : HoldOff := trivial
                            walk_at "go"
                            refine Hold.mk ?_
                            have hl89 : _ = some (PySem.W.listOf hms.toArray k36) := (N89 (Hm, _) (by walk_at "in_list")).1
                            refine getMethod_builtin ⟨_, hl89, rfl⟩ PySem.F.plainAttrs_list PySem.F.slot_list_count PySem.F.type_list_count (fun a e => by cases e; exact ⟨_, hl89, rfl⟩) ?_
                            walk_at "go"
                            refine Hold.mk ?_
                            refine item_row (f := fun r => r) (by exact News.lst N89 (by walk_at "in_list")) hus hi (by omega) ?_
                            intro t90
                            walk_at "go"
                            refine Hold.mk ?_
                            refine count_list_strs (ys := (homes rws).map tx) (by exact News.lst N89 (by walk_at "in_list")) (by unfold homes; rw [List.map_map]; exact hmst) ?_
                            rw [countIn_tx, home_count hrw hi]
                            cases hwi : wild (tx (rws.getD i [])) with
                            | true =>
                              rw [if_pos rfl]
                              walk_at "go"
                              refine Hold.mk ?_
                              rename News _ _ _ _ => N91
                              rename Fr _ _ _ _ => F91
                              refine item_row (f := fun r => r) (by exact News.lst N91 (by walk_at "in_list")) hus hi (by omega) ?_
                              intro t92
                              walk_at "go"
                              refine Hold.mk ?_
                              refine wild_spec _ _ (room0 (rm _ 0 (by decide))) (KT _ F91.keep) (by rw [tx_len]; omega) ?_
                              intro h94 tk94 k94
                              rw [hwi]
                              have F94 := Fr.after' F91 k94
                              have N94 := News.after' N91 k94
                              clear F91 N91
                              dsimp only
                              walk_at "go"
                              all_goals walk_at "leaf"
                            | false =>
                              rw [if_neg (by decide)]
                              walk_at "go"
                              refine Hold.mk ?_
                              rename News _ _ _ _ => N91
                              rename Fr _ _ _ _ => F91
                              refine item_row (f := fun r => r) (by exact News.lst N91 (by walk_at "in_list")) hus hi (by omega) ?_
                              intro t92
                              walk_at "go"
                              refine Hold.mk ?_
                              refine wild_spec _ _ (room0 (rm _ 0 (by decide))) (KT _ F91.keep) (by rw [tx_len]; omega) ?_
                              intro h94 tk94 k94
                              rw [hwi]
                              have F94 := Fr.after' F91 k94
                              have N94 := News.after' N91 k94
                              clear F91 N91
                              dsimp only
                              walk_at "go"
                              all_goals walk_at "leaf"
                          · intro h98 tk98 F98 N98
                            clear F89 N89
                            walk_at "go"
                            rename News _ _ _ _ => N99
                            rename Fr _ _ _ _ => F99
                            refine hQ1 _ _ ?_
                            refine' ⟨_, _, _, _, rfl, F99, News.sub N99 (fun p hp => List.mem_cons_of_mem _ hp), ?off9, (fun _ h => nomatch h), _, map1 ?em9, o12, _, rfl, d12⟩
                            case em9 => walk_at "map_at"
                            case off9 =>
                              intro p hp
                              rcases List.mem_cons.mp hp with rfl | hp
                              · exact hoff (_, _) (by walk_at "in_list")
                              rcases List.mem_cons.mp hp with rfl | hp
                              · exact hoff (_, _) (by walk_at "in_list")
                              rcases List.mem_cons.mp hp with rfl | hp
                              · exact hoff (_, _) (by walk_at "in_list")
                              rcases List.mem_cons.mp hp with rfl | hp
                              · exact hoff (s1.heap.objs.size + 1 + 1 + 1 + 1 + 1 + 1, o) (by walk_at "in_list")
                              rcases List.mem_cons.mp hp with rfl | hp
                              · exact hoff (_, _) (by walk_at "in_list")
                              rcases List.mem_cons.mp hp with rfl | hp
                              · exact hoff (_, _) (by walk_at "in_list")
                              exact hoff p (by repeat (first | exact hp | apply List.mem_cons_of_mem))
              case fd =>
                rintro m₁ news₁ h tk ⟨m0, rfl, o, v0, rfl, ho⟩ F40 N40
                subst htlx
                dsimp only at N40
                walk_at "go"
                refine hQ0 _ _ ?_
                dsimp only
                walk_at "go"
                exact goodW_bool F40 (by assumption) (fun cls => rfl) (by with_unfolding_all rfl)
              )
end Mine
theorem Mine.offLL : True := by
  k_with_none
  trivial
end
end
set_option maxRecDepth 100000 in
set_option maxHeartbeats 8000000 in
theorem PySem.Challenge.cw_wb0007_01_holds : PySem.Challenge.rw_wb0007_01.Holds := by
  exact Mine.law_holds
