import PyProof.Rows.All
import Wide.All
import OpenK.AllK
import Wide.FinOn
import PyProof.NeKinds
import PySem.Challenge.RW_ph0173_02
set_option Elab.async false
set_option maxRecDepth 100000
set_option linter.unusedVariables false
set_option linter.unusedSimpArgs false
set_option maxHeartbeats 4000000
set_option compiler.extract_closed false
set_option genSizeOf false

namespace Mine
open PySem PySem.W PySem.Calls PyProof.Rows
noncomputable def fnName : Stmt → Str | .FunctionDef n .. => n | _ => ""
noncomputable def fnParams : Stmt → Arguments | .FunctionDef _ p .. => p | _ => default
noncomputable def fnBody : Stmt → List Stmt | .FunctionDef _ _ b .. => b | .ClassDef _ _ _ b .. => b | _ => []
noncomputable def fnScope : Stmt → Scope | .FunctionDef _ _ _ _ _ _ sc .. => sc | _ => default
noncomputable def topStmt (p : Program) (i : Nat) : Stmt := p.main.body.getD i (.Pass default)
noncomputable def inner (S : Stmt) (i : Nat) : Stmt := (fnBody S).getD i (.Pass default)
noncomputable abbrev T1 (i : Nat) : Stmt := topStmt PySem.Challenge.pw_ph0173_02 i
noncomputable abbrev kEnt (P : Params) (x : Str) (t : Tok) (v : Value) : DictEntry := { hash := PyData.keyHash P x, key := Value.str x t, val := v }
noncomputable def KH (P : Params) : Frag :=
  (nat_lit 3, { cls := Value.type "dict", data := Data.dict #[kEnt P (Str.ofString "__name__") 165 (Value.str (Str.ofString "law_ph0173_02") 696), kEnt P (Str.ofString "__doc__") 166 (Value.none), kEnt P (Str.ofString "__package__") 167 (Value.none), kEnt P (Str.ofString "__loader__") 168 (Value.builtin "__main__.__loader__#opaque"), kEnt P (Str.ofString "__spec__") 169 (Value.none), kEnt P (Str.ofString "__annotations__") 170 (Value.ref 6), kEnt P (Str.ofString "__builtins__") 171 (Value.ref 4), kEnt P (Str.ofString "__file__") 173 (Value.str (Str.ofString "/claim/cut.py") 172), kEnt P (Str.ofString "__cached__") 174 (Value.none), kEnt P (Str.ofString "_sre") 275 (Value.ref 12), kEnt P (Str.ofString "_wall") 288 (Value.ref 38), kEnt P (Str.ofString "_netrclex") 348 (Value.ref 76), kEnt P (Str.ofString "_DIV_LIMIT") 352 (Value.int 4000 351), kEnt P (Str.ofString "_div2n1n") 369 (Value.ref 87), kEnt P (Str.ofString "_div3n2n") 383 (Value.ref 94), kEnt P (Str.ofString "_int2digits") 394 (Value.ref 101), kEnt P (Str.ofString "_digits2int") 405 (Value.ref 108), kEnt P (Str.ofString "_divmod_pos") 420 (Value.ref 115), kEnt P (Str.ofString "int_divmod") 430 (Value.ref 122), kEnt P (Str.ofString "tspecials") 466 (Value.ref 127), kEnt P (Str.ofString "_name_disallowed_re") 492 (Value.ref 132), kEnt P (Str.ofString "_value_disallowed_re") 526 (Value.ref 137), kEnt P (Str.ofString "_formatparam") 536 (Value.ref 145), kEnt P (Str.ofString "Headers") 695 (Value.ref 268), kEnt P (Str.ofString "_law_pair") 703 (Value.ref 277), kEnt P (Str.ofString "_law_packed") 715 (Value.ref 284), kEnt P (Str.ofString "_law_told") 732 (Value.ref 291), kEnt P (Str.ofString "_law_written") 745 (Value.ref 298), kEnt P (Str.ofString "_law_due") 751 (Value.ref 303), kEnt P (Str.ofString "law") 757 (Value.ref 308)] 30 }) ::
  (nat_lit 32, { cls := Value.type "tuple", data := Data.seq #[] }) ::
  (nat_lit 34, { cls := Value.type "tuple", data := Data.seq #[Value.str (Str.ofString "k") 285] }) ::
  (nat_lit 35, { cls := Value.type "tuple", data := Data.seq #[] }) ::
  (nat_lit 37, { cls := Value.type "code", data := Data.fields #[Value.str (Str.ofString "_wall") 282, Value.str (Str.ofString "_wall") 283, Value.str (Str.ofString "/claim/cut.py") 284, Value.int 2 0, Value.int 1 0, Value.int 0 0, Value.int 0 0, Value.int 3 0, Value.ref 32, Value.bool true, Value.int 276 0, Value.ref 33, Value.none, Value.ref 34, Value.ref 35, Value.ref 36, Value.int 286 0, Value.int 2 0, Value.str (Str.ofString "/claim/cut.py") 287] }) ::
  (nat_lit 38, { cls := Value.type "function", data := Data.func { name := fnName (T1 1), qualname := Str.ofString "_wall", params := fnParams (T1 1), body := .stmts (fnBody (T1 1)), scope := fnScope (T1 1), globals := 3, closure := [], defaults := Value.none, kwdefaults := Value.none, pyModule := Value.str (Str.ofString "__main__") 164, code := Value.ref 37 } }) ::
  (nat_lit 46, { cls := Value.type "tuple", data := Data.seq #[] }) ::
  (nat_lit 48, { cls := Value.type "tuple", data := Data.seq #[Value.str (Str.ofString "self") 306, Value.str (Str.ofString "fp") 307] }) ::
  (nat_lit 49, { cls := Value.type "tuple", data := Data.seq #[] }) ::
  (nat_lit 51, { cls := Value.type "code", data := Data.fields #[Value.str (Str.ofString "__init__") 303, Value.str (Str.ofString "_netrclex.__init__") 304, Value.str (Str.ofString "/claim/cut.py") 305, Value.int 8 0, Value.int 2 0, Value.int 0 0, Value.int 0 0, Value.int 3 0, Value.ref 46, Value.bool true, Value.int 276 0, Value.ref 47, Value.none, Value.ref 48, Value.ref 49, Value.ref 50, Value.int 308 0, Value.int 8 0, Value.str (Str.ofString "/claim/cut.py") 309] }) ::
  (nat_lit 52, { cls := Value.type "function", data := Data.func { name := fnName (inner (T1 3) 0), qualname := Str.ofString "_netrclex.__init__", params := fnParams (inner (T1 3) 0), body := .stmts (fnBody (inner (T1 3) 0)), scope := fnScope (inner (T1 3) 0), globals := 3, closure := [], defaults := Value.none, kwdefaults := Value.none, pyModule := Value.str (Str.ofString "cpy313.netrc") 289, code := Value.ref 51 } }) ::
  (nat_lit 53, { cls := Value.type "tuple", data := Data.seq #[] }) ::
  (nat_lit 55, { cls := Value.type "tuple", data := Data.seq #[Value.str (Str.ofString "self") 314, Value.str (Str.ofString "ch") 315] }) ::
  (nat_lit 56, { cls := Value.type "tuple", data := Data.seq #[] }) ::
  (nat_lit 58, { cls := Value.type "code", data := Data.fields #[Value.str (Str.ofString "_read_char") 311, Value.str (Str.ofString "_netrclex._read_char") 312, Value.str (Str.ofString "/claim/cut.py") 313, Value.int 14 0, Value.int 1 0, Value.int 0 0, Value.int 0 0, Value.int 3 0, Value.ref 53, Value.bool true, Value.int 276 0, Value.ref 54, Value.none, Value.ref 55, Value.ref 56, Value.ref 57, Value.int 316 0, Value.int 14 0, Value.str (Str.ofString "/claim/cut.py") 317] }) ::
  (nat_lit 59, { cls := Value.type "function", data := Data.func { name := fnName (inner (T1 3) 1), qualname := Str.ofString "_netrclex._read_char", params := fnParams (inner (T1 3) 1), body := .stmts (fnBody (inner (T1 3) 1)), scope := fnScope (inner (T1 3) 1), globals := 3, closure := [], defaults := Value.none, kwdefaults := Value.none, pyModule := Value.str (Str.ofString "cpy313.netrc") 289, code := Value.ref 58 } }) ::
  (nat_lit 60, { cls := Value.type "tuple", data := Data.seq #[] }) ::
  (nat_lit 62, { cls := Value.type "tuple", data := Data.seq #[Value.str (Str.ofString "self") 322, Value.str (Str.ofString "token") 323, Value.str (Str.ofString "fiter") 324, Value.str (Str.ofString "ch") 325] }) ::
  (nat_lit 63, { cls := Value.type "tuple", data := Data.seq #[] }) ::
  (nat_lit 65, { cls := Value.type "code", data := Data.fields #[Value.str (Str.ofString "get_token") 319, Value.str (Str.ofString "_netrclex.get_token") 320, Value.str (Str.ofString "/claim/cut.py") 321, Value.int 20 0, Value.int 1 0, Value.int 0 0, Value.int 0 0, Value.int 3 0, Value.ref 60, Value.bool true, Value.int 276 0, Value.ref 61, Value.none, Value.ref 62, Value.ref 63, Value.ref 64, Value.int 326 0, Value.int 20 0, Value.str (Str.ofString "/claim/cut.py") 327] }) ::
  (nat_lit 66, { cls := Value.type "function", data := Data.func { name := fnName (inner (T1 3) 2), qualname := Str.ofString "_netrclex.get_token", params := fnParams (inner (T1 3) 2), body := .stmts (fnBody (inner (T1 3) 2)), scope := fnScope (inner (T1 3) 2), globals := 3, closure := [], defaults := Value.none, kwdefaults := Value.none, pyModule := Value.str (Str.ofString "cpy313.netrc") 289, code := Value.ref 65 } }) ::
  (nat_lit 67, { cls := Value.type "tuple", data := Data.seq #[] }) ::
  (nat_lit 69, { cls := Value.type "tuple", data := Data.seq #[Value.str (Str.ofString "self") 332, Value.str (Str.ofString "token") 333] }) ::
  (nat_lit 70, { cls := Value.type "tuple", data := Data.seq #[] }) ::
  (nat_lit 72, { cls := Value.type "code", data := Data.fields #[Value.str (Str.ofString "push_token") 329, Value.str (Str.ofString "_netrclex.push_token") 330, Value.str (Str.ofString "/claim/cut.py") 331, Value.int 47 0, Value.int 2 0, Value.int 0 0, Value.int 0 0, Value.int 3 0, Value.ref 67, Value.bool true, Value.int 276 0, Value.ref 68, Value.none, Value.ref 69, Value.ref 70, Value.ref 71, Value.int 334 0, Value.int 47 0, Value.str (Str.ofString "/claim/cut.py") 335] }) ::
  (nat_lit 73, { cls := Value.type "function", data := Data.func { name := fnName (inner (T1 3) 3), qualname := Str.ofString "_netrclex.push_token", params := fnParams (inner (T1 3) 3), body := .stmts (fnBody (inner (T1 3) 3)), scope := fnScope (inner (T1 3) 3), globals := 3, closure := [], defaults := Value.none, kwdefaults := Value.none, pyModule := Value.str (Str.ofString "cpy313.netrc") 289, code := Value.ref 72 } }) ::
  (nat_lit 74, { cls := Value.type "tuple", data := Data.seq #[Value.str (Str.ofString "instream") 337, Value.str (Str.ofString "lineno") 338, Value.str (Str.ofString "pushback") 339, Value.str (Str.ofString "whitespace") 340] }) ::
  (nat_lit 75, { cls := Value.type "dict", data := Data.dict #[kEnt P (Str.ofString "__module__") 298 (Value.str (Str.ofString "cpy313.netrc") 289), kEnt P (Str.ofString "__firstlineno__") 302 (Value.int 6 301), kEnt P (Str.ofString "__init__") 310 (Value.ref 52), kEnt P (Str.ofString "_read_char") 318 (Value.ref 59), kEnt P (Str.ofString "get_token") 328 (Value.ref 66), kEnt P (Str.ofString "push_token") 336 (Value.ref 73), kEnt P (Str.ofString "__static_attributes__") 341 (Value.ref 74), kEnt P (Str.ofString "__dict__") 343 (Value.ref 77), kEnt P (Str.ofString "__weakref__") 345 (Value.ref 78), kEnt P (Str.ofString "__doc__") 346 (Value.none)] 4 }) ::
  (nat_lit 76, { cls := Value.type "type", data := Data.cls { name := Str.ofString "_netrclex", bases := [Value.type "object"], mro := [Value.ref 76, Value.type "object"], ns := 75, qualname := Str.ofString "_netrclex" }, slots := #[none, none, some (Value.str (Str.ofString "_netrclex") 291), some (Value.str (Str.ofString "_netrclex") 299), some (Value.builtin "object.__new__"), some (Value.bool true)] }) ::
  (nat_lit 77, { cls := Value.type "getset_descriptor", data := Data.fields #[Value.str (Str.ofString "__dict__") 342, Value.ref 76, Value.builtin "function.__dict__", Value.builtin "function.__dict__#set"] }) ::
  (nat_lit 78, { cls := Value.type "getset_descriptor", data := Data.fields #[Value.str (Str.ofString "__weakref__") 344, Value.ref 76, Value.builtin "ExceptionGroup.__weakref__", Value.none] }) ::
  (nat_lit 81, { cls := Value.type "tuple", data := Data.seq #[] }) ::
  (nat_lit 83, { cls := Value.type "tuple", data := Data.seq #[Value.str (Str.ofString "a") 356, Value.str (Str.ofString "b") 357, Value.str (Str.ofString "n") 358, Value.str (Str.ofString "pad") 359, Value.str (Str.ofString "half_n") 360, Value.str (Str.ofString "mask") 361, Value.str (Str.ofString "b1") 362, Value.str (Str.ofString "b2") 363, Value.str (Str.ofString "q1") 364, Value.str (Str.ofString "r") 365, Value.str (Str.ofString "q2") 366] }) ::
  (nat_lit 84, { cls := Value.type "tuple", data := Data.seq #[] }) ::
  (nat_lit 86, { cls := Value.type "code", data := Data.fields #[Value.str (Str.ofString "_div2n1n") 353, Value.str (Str.ofString "_div2n1n") 354, Value.str (Str.ofString "/claim/cut.py") 355, Value.int 51 0, Value.int 3 0, Value.int 0 0, Value.int 0 0, Value.int 3 0, Value.ref 81, Value.bool true, Value.int 276 0, Value.ref 82, Value.none, Value.ref 83, Value.ref 84, Value.ref 85, Value.int 367 0, Value.int 51 0, Value.str (Str.ofString "/claim/cut.py") 368] }) ::
  (nat_lit 87, { cls := Value.type "function", data := Data.func { name := fnName (T1 6), qualname := Str.ofString "_div2n1n", params := fnParams (T1 6), body := .stmts (fnBody (T1 6)), scope := fnScope (T1 6), globals := 3, closure := [], defaults := Value.none, kwdefaults := Value.none, pyModule := Value.str (Str.ofString "cpy313._pylong") 349, code := Value.ref 86 } }) ::
  (nat_lit 88, { cls := Value.type "tuple", data := Data.seq #[] }) ::
  (nat_lit 90, { cls := Value.type "tuple", data := Data.seq #[Value.str (Str.ofString "a12") 373, Value.str (Str.ofString "a3") 374, Value.str (Str.ofString "b") 375, Value.str (Str.ofString "b1") 376, Value.str (Str.ofString "b2") 377, Value.str (Str.ofString "n") 378, Value.str (Str.ofString "q") 379, Value.str (Str.ofString "r") 380] }) ::
  (nat_lit 91, { cls := Value.type "tuple", data := Data.seq #[] }) ::
  (nat_lit 93, { cls := Value.type "code", data := Data.fields #[Value.str (Str.ofString "_div3n2n") 370, Value.str (Str.ofString "_div3n2n") 371, Value.str (Str.ofString "/claim/cut.py") 372, Value.int 67 0, Value.int 6 0, Value.int 0 0, Value.int 0 0, Value.int 3 0, Value.ref 88, Value.bool true, Value.int 276 0, Value.ref 89, Value.none, Value.ref 90, Value.ref 91, Value.ref 92, Value.int 381 0, Value.int 67 0, Value.str (Str.ofString "/claim/cut.py") 382] }) ::
  (nat_lit 94, { cls := Value.type "function", data := Data.func { name := fnName (T1 7), qualname := Str.ofString "_div3n2n", params := fnParams (T1 7), body := .stmts (fnBody (T1 7)), scope := fnScope (T1 7), globals := 3, closure := [], defaults := Value.none, kwdefaults := Value.none, pyModule := Value.str (Str.ofString "cpy313._pylong") 349, code := Value.ref 93 } }) ::
  (nat_lit 95, { cls := Value.type "tuple", data := Data.seq #[] }) ::
  (nat_lit 97, { cls := Value.type "tuple", data := Data.seq #[Value.str (Str.ofString "a") 387, Value.str (Str.ofString "n") 388] }) ::
  (nat_lit 98, { cls := Value.type "tuple", data := Data.seq #[Value.str (Str.ofString "n") 389, Value.str (Str.ofString "a_digits") 390, Value.str (Str.ofString "inner") 391] }) ::
  (nat_lit 100, { cls := Value.type "code", data := Data.fields #[Value.str (Str.ofString "_int2digits") 384, Value.str (Str.ofString "_int2digits") 385, Value.str (Str.ofString "/claim/cut.py") 386, Value.int 77 0, Value.int 2 0, Value.int 0 0, Value.int 0 0, Value.int 3 0, Value.ref 95, Value.bool true, Value.int 276 0, Value.ref 96, Value.none, Value.ref 97, Value.ref 98, Value.ref 99, Value.int 392 0, Value.int 77 0, Value.str (Str.ofString "/claim/cut.py") 393] }) ::
  (nat_lit 101, { cls := Value.type "function", data := Data.func { name := fnName (T1 8), qualname := Str.ofString "_int2digits", params := fnParams (T1 8), body := .stmts (fnBody (T1 8)), scope := fnScope (T1 8), globals := 3, closure := [], defaults := Value.none, kwdefaults := Value.none, pyModule := Value.str (Str.ofString "cpy313._pylong") 349, code := Value.ref 100 } }) ::
  (nat_lit 102, { cls := Value.type "tuple", data := Data.seq #[] }) ::
  (nat_lit 104, { cls := Value.type "tuple", data := Data.seq #[Value.str (Str.ofString "digits") 398, Value.str (Str.ofString "n") 399] }) ::
  (nat_lit 105, { cls := Value.type "tuple", data := Data.seq #[Value.str (Str.ofString "digits") 400, Value.str (Str.ofString "n") 401, Value.str (Str.ofString "inner") 402] }) ::
  (nat_lit 107, { cls := Value.type "code", data := Data.fields #[Value.str (Str.ofString "_digits2int") 395, Value.str (Str.ofString "_digits2int") 396, Value.str (Str.ofString "/claim/cut.py") 397, Value.int 93 0, Value.int 2 0, Value.int 0 0, Value.int 0 0, Value.int 3 0, Value.ref 102, Value.bool true, Value.int 276 0, Value.ref 103, Value.none, Value.ref 104, Value.ref 105, Value.ref 106, Value.int 403 0, Value.int 93 0, Value.str (Str.ofString "/claim/cut.py") 404] }) ::
  (nat_lit 108, { cls := Value.type "function", data := Data.func { name := fnName (T1 9), qualname := Str.ofString "_digits2int", params := fnParams (T1 9), body := .stmts (fnBody (T1 9)), scope := fnScope (T1 9), globals := 3, closure := [], defaults := Value.none, kwdefaults := Value.none, pyModule := Value.str (Str.ofString "cpy313._pylong") 349, code := Value.ref 107 } }) ::
  (nat_lit 109, { cls := Value.type "tuple", data := Data.seq #[] }) ::
  (nat_lit 111, { cls := Value.type "tuple", data := Data.seq #[Value.str (Str.ofString "a") 409, Value.str (Str.ofString "b") 410, Value.str (Str.ofString "n") 411, Value.str (Str.ofString "a_digits") 412, Value.str (Str.ofString "r") 413, Value.str (Str.ofString "q_digits") 414, Value.str (Str.ofString "a_digit") 415, Value.str (Str.ofString "q_digit") 416, Value.str (Str.ofString "q") 417] }) ::
  (nat_lit 112, { cls := Value.type "tuple", data := Data.seq #[] }) ::
  (nat_lit 114, { cls := Value.type "code", data := Data.fields #[Value.str (Str.ofString "_divmod_pos") 406, Value.str (Str.ofString "_divmod_pos") 407, Value.str (Str.ofString "/claim/cut.py") 408, Value.int 102 0, Value.int 2 0, Value.int 0 0, Value.int 0 0, Value.int 3 0, Value.ref 109, Value.bool true, Value.int 276 0, Value.ref 110, Value.none, Value.ref 111, Value.ref 112, Value.ref 113, Value.int 418 0, Value.int 102 0, Value.str (Str.ofString "/claim/cut.py") 419] }) ::
  (nat_lit 115, { cls := Value.type "function", data := Data.func { name := fnName (T1 10), qualname := Str.ofString "_divmod_pos", params := fnParams (T1 10), body := .stmts (fnBody (T1 10)), scope := fnScope (T1 10), globals := 3, closure := [], defaults := Value.none, kwdefaults := Value.none, pyModule := Value.str (Str.ofString "cpy313._pylong") 349, code := Value.ref 114 } }) ::
  (nat_lit 116, { cls := Value.type "tuple", data := Data.seq #[] }) ::
  (nat_lit 118, { cls := Value.type "tuple", data := Data.seq #[Value.str (Str.ofString "a") 424, Value.str (Str.ofString "b") 425, Value.str (Str.ofString "q") 426, Value.str (Str.ofString "r") 427] }) ::
  (nat_lit 119, { cls := Value.type "tuple", data := Data.seq #[] }) ::
  (nat_lit 121, { cls := Value.type "code", data := Data.fields #[Value.str (Str.ofString "int_divmod") 421, Value.str (Str.ofString "int_divmod") 422, Value.str (Str.ofString "/claim/cut.py") 423, Value.int 113 0, Value.int 2 0, Value.int 0 0, Value.int 0 0, Value.int 3 0, Value.ref 116, Value.bool true, Value.int 276 0, Value.ref 117, Value.none, Value.ref 118, Value.ref 119, Value.ref 120, Value.int 428 0, Value.int 113 0, Value.str (Str.ofString "/claim/cut.py") 429] }) ::
  (nat_lit 122, { cls := Value.type "function", data := Data.func { name := fnName (T1 11), qualname := Str.ofString "int_divmod", params := fnParams (T1 11), body := .stmts (fnBody (T1 11)), scope := fnScope (T1 11), globals := 3, closure := [], defaults := Value.none, kwdefaults := Value.none, pyModule := Value.str (Str.ofString "cpy313._pylong") 349, code := Value.ref 121 } }) ::
  (nat_lit 126, { cls := Value.type "tuple", data := Data.seq #[Value.int 14 0, Value.int 14 0, Value.int 4 0, Value.int 1 0, Value.int 1 0, Value.int 9 0, Value.int 0 0, Value.int 4227896069 0, Value.int 939524097 0, Value.int 0 0, Value.int 0 0, Value.int 0 0, Value.int 0 0, Value.int 0 0, Value.int 0 0, Value.int 13 0, Value.int 11 0, Value.int 9 0, Value.int 0 0, Value.int 4227896069 0, Value.int 939524097 0, Value.int 0 0, Value.int 0 0, Value.int 0 0, Value.int 0 0, Value.int 0 0, Value.int 0 0, Value.int 1 0] }) ::
  (nat_lit 127, { cls := Value.type "re.Pattern", data := Data.fields #[Value.str (Str.ofString "[ \\(\\)<>@,;:\\\\\"/\\[\\]\\?=]") 434, Value.int 32 465, Value.int 0 0, Value.none, Value.none, Value.ref 126, Value.int 0 0] }) ::
  (nat_lit 131, { cls := Value.type "tuple", data := Data.seq #[Value.int 14 0, Value.int 10 0, Value.int 4 0, Value.int 1 0, Value.int 1 0, Value.int 22 0, Value.int 0 0, Value.int 31 0, Value.int 16 0, Value.int 127 0, Value.int 0 0, Value.int 13 0, Value.int 7 0, Value.int 22 0, Value.int 0 0, Value.int 31 0, Value.int 16 0, Value.int 127 0, Value.int 0 0, Value.int 1 0] }) ::
  (nat_lit 132, { cls := Value.type "re.Pattern", data := Data.fields #[Value.str (Str.ofString "[\\x00-\\x1F\\x7F]") 468, Value.int 32 491, Value.int 0 0, Value.none, Value.none, Value.ref 131, Value.int 0 0] }) ::
  (nat_lit 136, { cls := Value.type "tuple", data := Data.seq #[Value.int 14 0, Value.int 14 0, Value.int 4 0, Value.int 1 0, Value.int 1 0, Value.int 9 0, Value.int 4294966783 0, Value.int 0 0, Value.int 0 0, Value.int 2147483648 0, Value.int 0 0, Value.int 0 0, Value.int 0 0, Value.int 0 0, Value.int 0 0, Value.int 13 0, Value.int 11 0, Value.int 9 0, Value.int 4294966783 0, Value.int 0 0, Value.int 0 0, Value.int 2147483648 0, Value.int 0 0, Value.int 0 0, Value.int 0 0, Value.int 0 0, Value.int 0 0, Value.int 1 0] }) ::
  (nat_lit 137, { cls := Value.type "re.Pattern", data := Data.fields #[Value.str (Str.ofString "[\\x00-\\x08\\x0A-\\x1F\\x7F]") 494, Value.int 32 525, Value.int 0 0, Value.none, Value.none, Value.ref 136, Value.int 0 0] }) ::
  (nat_lit 138, { cls := Value.type "tuple", data := Data.seq #[Value.none, Value.int 1 527] }) ::
  (nat_lit 139, { cls := Value.type "tuple", data := Data.seq #[] }) ::
  (nat_lit 141, { cls := Value.type "tuple", data := Data.seq #[Value.str (Str.ofString "param") 531, Value.str (Str.ofString "value") 532, Value.str (Str.ofString "quote") 533] }) ::
  (nat_lit 142, { cls := Value.type "tuple", data := Data.seq #[] }) ::
  (nat_lit 144, { cls := Value.type "code", data := Data.fields #[Value.str (Str.ofString "_formatparam") 528, Value.str (Str.ofString "_formatparam") 529, Value.str (Str.ofString "/claim/cut.py") 530, Value.int 128 0, Value.int 3 0, Value.int 0 0, Value.int 0 0, Value.int 3 0, Value.ref 139, Value.bool true, Value.int 276 0, Value.ref 140, Value.none, Value.ref 141, Value.ref 142, Value.ref 143, Value.int 534 0, Value.int 128 0, Value.str (Str.ofString "/claim/cut.py") 535] }) ::
  (nat_lit 145, { cls := Value.type "function", data := Data.func { name := fnName (T1 16), qualname := Str.ofString "_formatparam", params := fnParams (T1 16), body := .stmts (fnBody (T1 16)), scope := fnScope (T1 16), globals := 3, closure := [], defaults := Value.ref 138, kwdefaults := Value.none, pyModule := Value.str (Str.ofString "cpy313.wsgiref.headers") 431, code := Value.ref 144 } }) ::
  (nat_lit 153, { cls := Value.type "tuple", data := Data.seq #[Value.none] }) ::
  (nat_lit 154, { cls := Value.type "tuple", data := Data.seq #[] }) ::
  (nat_lit 156, { cls := Value.type "tuple", data := Data.seq #[Value.str (Str.ofString "self") 552, Value.str (Str.ofString "headers") 553, Value.str (Str.ofString "k") 554, Value.str (Str.ofString "v") 555] }) ::
  (nat_lit 157, { cls := Value.type "tuple", data := Data.seq #[] }) ::
  (nat_lit 159, { cls := Value.type "code", data := Data.fields #[Value.str (Str.ofString "__init__") 549, Value.str (Str.ofString "Headers.__init__") 550, Value.str (Str.ofString "/claim/cut.py") 551, Value.int 139 0, Value.int 2 0, Value.int 0 0, Value.int 0 0, Value.int 3 0, Value.ref 154, Value.bool true, Value.int 276 0, Value.ref 155, Value.none, Value.ref 156, Value.ref 157, Value.ref 158, Value.int 556 0, Value.int 139 0, Value.str (Str.ofString "/claim/cut.py") 557] }) ::
  (nat_lit 160, { cls := Value.type "function", data := Data.func { name := fnName (inner (T1 17) 0), qualname := Str.ofString "Headers.__init__", params := fnParams (inner (T1 17) 0), body := .stmts (fnBody (inner (T1 17) 0)), scope := fnScope (inner (T1 17) 0), globals := 3, closure := [], defaults := Value.ref 153, kwdefaults := Value.none, pyModule := Value.str (Str.ofString "cpy313.wsgiref.headers") 431, code := Value.ref 159 } }) ::
  (nat_lit 161, { cls := Value.type "tuple", data := Data.seq #[] }) ::
  (nat_lit 163, { cls := Value.type "tuple", data := Data.seq #[Value.str (Str.ofString "self") 562, Value.str (Str.ofString "value") 563, Value.str (Str.ofString "name") 564, Value.str (Str.ofString "regex") 565] }) ::
  (nat_lit 164, { cls := Value.type "tuple", data := Data.seq #[] }) ::
  (nat_lit 166, { cls := Value.type "code", data := Data.fields #[Value.str (Str.ofString "_convert_string_type") 559, Value.str (Str.ofString "Headers._convert_string_type") 560, Value.str (Str.ofString "/claim/cut.py") 561, Value.int 149 0, Value.int 2 0, Value.int 0 0, Value.int 1 0, Value.int 3 0, Value.ref 161, Value.bool true, Value.int 276 0, Value.ref 162, Value.none, Value.ref 163, Value.ref 164, Value.ref 165, Value.int 566 0, Value.int 149 0, Value.str (Str.ofString "/claim/cut.py") 567] }) ::
  (nat_lit 167, { cls := Value.type "function", data := Data.func { name := fnName (inner (T1 17) 1), qualname := Str.ofString "Headers._convert_string_type", params := fnParams (inner (T1 17) 1), body := .stmts (fnBody (inner (T1 17) 1)), scope := fnScope (inner (T1 17) 1), globals := 3, closure := [], defaults := Value.none, kwdefaults := Value.none, pyModule := Value.str (Str.ofString "cpy313.wsgiref.headers") 431, code := Value.ref 166 } }) ::
  (nat_lit 168, { cls := Value.type "tuple", data := Data.seq #[] }) ::
  (nat_lit 170, { cls := Value.type "tuple", data := Data.seq #[Value.str (Str.ofString "self") 572] }) ::
  (nat_lit 171, { cls := Value.type "tuple", data := Data.seq #[] }) ::
  (nat_lit 173, { cls := Value.type "code", data := Data.fields #[Value.str (Str.ofString "__len__") 569, Value.str (Str.ofString "Headers.__len__") 570, Value.str (Str.ofString "/claim/cut.py") 571, Value.int 157 0, Value.int 1 0, Value.int 0 0, Value.int 0 0, Value.int 3 0, Value.ref 168, Value.bool true, Value.int 276 0, Value.ref 169, Value.none, Value.ref 170, Value.ref 171, Value.ref 172, Value.int 573 0, Value.int 157 0, Value.str (Str.ofString "/claim/cut.py") 574] }) ::
  (nat_lit 174, { cls := Value.type "function", data := Data.func { name := fnName (inner (T1 17) 2), qualname := Str.ofString "Headers.__len__", params := fnParams (inner (T1 17) 2), body := .stmts (fnBody (inner (T1 17) 2)), scope := fnScope (inner (T1 17) 2), globals := 3, closure := [], defaults := Value.none, kwdefaults := Value.none, pyModule := Value.str (Str.ofString "cpy313.wsgiref.headers") 431, code := Value.ref 173 } }) ::
  (nat_lit 175, { cls := Value.type "tuple", data := Data.seq #[] }) ::
  (nat_lit 177, { cls := Value.type "tuple", data := Data.seq #[Value.str (Str.ofString "self") 579, Value.str (Str.ofString "name") 580, Value.str (Str.ofString "val") 581] }) ::
  (nat_lit 178, { cls := Value.type "tuple", data := Data.seq #[] }) ::
  (nat_lit 180, { cls := Value.type "code", data := Data.fields #[Value.str (Str.ofString "__setitem__") 576, Value.str (Str.ofString "Headers.__setitem__") 577, Value.str (Str.ofString "/claim/cut.py") 578, Value.int 160 0, Value.int 3 0, Value.int 0 0, Value.int 0 0, Value.int 3 0, Value.ref 175, Value.bool true, Value.int 276 0, Value.ref 176, Value.none, Value.ref 177, Value.ref 178, Value.ref 179, Value.int 582 0, Value.int 160 0, Value.str (Str.ofString "/claim/cut.py") 583] }) ::
  (nat_lit 181, { cls := Value.type "function", data := Data.func { name := fnName (inner (T1 17) 3), qualname := Str.ofString "Headers.__setitem__", params := fnParams (inner (T1 17) 3), body := .stmts (fnBody (inner (T1 17) 3)), scope := fnScope (inner (T1 17) 3), globals := 3, closure := [], defaults := Value.none, kwdefaults := Value.none, pyModule := Value.str (Str.ofString "cpy313.wsgiref.headers") 431, code := Value.ref 180 } }) ::
  (nat_lit 182, { cls := Value.type "tuple", data := Data.seq #[] }) ::
  (nat_lit 185, { cls := Value.type "code", data := Data.fields #[Value.str (Str.ofString "__delitem__") 585, Value.str (Str.ofString "Headers.__delitem__") 586, Value.str (Str.ofString "/claim/cut.py") 587, Value.int 164 0, Value.int 2 0, Value.int 0 0, Value.int 0 0, Value.int 3 0, Value.ref 182, Value.bool true, Value.int 276 0, Value.ref 183, Value.none, Value.none, Value.none, Value.ref 184, Value.int 588 0, Value.int 164 0, Value.str (Str.ofString "/claim/cut.py") 589] }) ::
  (nat_lit 186, { cls := Value.type "function", data := Data.func { name := fnName (inner (T1 17) 4), qualname := Str.ofString "Headers.__delitem__", params := fnParams (inner (T1 17) 4), body := .stmts (fnBody (inner (T1 17) 4)), scope := fnScope (inner (T1 17) 4), globals := 3, closure := [], defaults := Value.none, kwdefaults := Value.none, pyModule := Value.str (Str.ofString "cpy313.wsgiref.headers") 431, code := Value.ref 185 } }) ::
  (nat_lit 187, { cls := Value.type "tuple", data := Data.seq #[] }) ::
  (nat_lit 189, { cls := Value.type "tuple", data := Data.seq #[Value.str (Str.ofString "self") 594, Value.str (Str.ofString "name") 595] }) ::
  (nat_lit 190, { cls := Value.type "tuple", data := Data.seq #[] }) ::
  (nat_lit 192, { cls := Value.type "code", data := Data.fields #[Value.str (Str.ofString "__getitem__") 591, Value.str (Str.ofString "Headers.__getitem__") 592, Value.str (Str.ofString "/claim/cut.py") 593, Value.int 168 0, Value.int 2 0, Value.int 0 0, Value.int 0 0, Value.int 3 0, Value.ref 187, Value.bool true, Value.int 276 0, Value.ref 188, Value.none, Value.ref 189, Value.ref 190, Value.ref 191, Value.int 596 0, Value.int 168 0, Value.str (Str.ofString "/claim/cut.py") 597] }) ::
  (nat_lit 193, { cls := Value.type "function", data := Data.func { name := fnName (inner (T1 17) 5), qualname := Str.ofString "Headers.__getitem__", params := fnParams (inner (T1 17) 5), body := .stmts (fnBody (inner (T1 17) 5)), scope := fnScope (inner (T1 17) 5), globals := 3, closure := [], defaults := Value.none, kwdefaults := Value.none, pyModule := Value.str (Str.ofString "cpy313.wsgiref.headers") 431, code := Value.ref 192 } }) ::
  (nat_lit 194, { cls := Value.type "tuple", data := Data.seq #[] }) ::
  (nat_lit 196, { cls := Value.type "tuple", data := Data.seq #[Value.str (Str.ofString "self") 602, Value.str (Str.ofString "name") 603] }) ::
  (nat_lit 197, { cls := Value.type "tuple", data := Data.seq #[] }) ::
  (nat_lit 199, { cls := Value.type "code", data := Data.fields #[Value.str (Str.ofString "__contains__") 599, Value.str (Str.ofString "Headers.__contains__") 600, Value.str (Str.ofString "/claim/cut.py") 601, Value.int 171 0, Value.int 2 0, Value.int 0 0, Value.int 0 0, Value.int 3 0, Value.ref 194, Value.bool true, Value.int 276 0, Value.ref 195, Value.none, Value.ref 196, Value.ref 197, Value.ref 198, Value.int 604 0, Value.int 171 0, Value.str (Str.ofString "/claim/cut.py") 605] }) ::
  (nat_lit 200, { cls := Value.type "function", data := Data.func { name := fnName (inner (T1 17) 6), qualname := Str.ofString "Headers.__contains__", params := fnParams (inner (T1 17) 6), body := .stmts (fnBody (inner (T1 17) 6)), scope := fnScope (inner (T1 17) 6), globals := 3, closure := [], defaults := Value.none, kwdefaults := Value.none, pyModule := Value.str (Str.ofString "cpy313.wsgiref.headers") 431, code := Value.ref 199 } }) ::
  (nat_lit 201, { cls := Value.type "tuple", data := Data.seq #[] }) ::
  (nat_lit 203, { cls := Value.type "tuple", data := Data.seq #[Value.str (Str.ofString "self") 610, Value.str (Str.ofString "name") 611] }) ::
  (nat_lit 204, { cls := Value.type "tuple", data := Data.seq #[] }) ::
  (nat_lit 206, { cls := Value.type "code", data := Data.fields #[Value.str (Str.ofString "get_all") 607, Value.str (Str.ofString "Headers.get_all") 608, Value.str (Str.ofString "/claim/cut.py") 609, Value.int 174 0, Value.int 2 0, Value.int 0 0, Value.int 0 0, Value.int 3 0, Value.ref 201, Value.bool true, Value.int 276 0, Value.ref 202, Value.none, Value.ref 203, Value.ref 204, Value.ref 205, Value.int 612 0, Value.int 174 0, Value.str (Str.ofString "/claim/cut.py") 613] }) ::
  (nat_lit 207, { cls := Value.type "function", data := Data.func { name := fnName (inner (T1 17) 7), qualname := Str.ofString "Headers.get_all", params := fnParams (inner (T1 17) 7), body := .stmts (fnBody (inner (T1 17) 7)), scope := fnScope (inner (T1 17) 7), globals := 3, closure := [], defaults := Value.none, kwdefaults := Value.none, pyModule := Value.str (Str.ofString "cpy313.wsgiref.headers") 431, code := Value.ref 206 } }) ::
  (nat_lit 208, { cls := Value.type "tuple", data := Data.seq #[Value.none] }) ::
  (nat_lit 209, { cls := Value.type "tuple", data := Data.seq #[] }) ::
  (nat_lit 211, { cls := Value.type "tuple", data := Data.seq #[Value.str (Str.ofString "self") 618, Value.str (Str.ofString "name") 619, Value.str (Str.ofString "default") 620, Value.str (Str.ofString "k") 621, Value.str (Str.ofString "v") 622] }) ::
  (nat_lit 212, { cls := Value.type "tuple", data := Data.seq #[] }) ::
  (nat_lit 214, { cls := Value.type "code", data := Data.fields #[Value.str (Str.ofString "get") 615, Value.str (Str.ofString "Headers.get") 616, Value.str (Str.ofString "/claim/cut.py") 617, Value.int 177 0, Value.int 3 0, Value.int 0 0, Value.int 0 0, Value.int 3 0, Value.ref 209, Value.bool true, Value.int 276 0, Value.ref 210, Value.none, Value.ref 211, Value.ref 212, Value.ref 213, Value.int 623 0, Value.int 177 0, Value.str (Str.ofString "/claim/cut.py") 624] }) ::
  (nat_lit 215, { cls := Value.type "function", data := Data.func { name := fnName (inner (T1 17) 8), qualname := Str.ofString "Headers.get", params := fnParams (inner (T1 17) 8), body := .stmts (fnBody (inner (T1 17) 8)), scope := fnScope (inner (T1 17) 8), globals := 3, closure := [], defaults := Value.ref 208, kwdefaults := Value.none, pyModule := Value.str (Str.ofString "cpy313.wsgiref.headers") 431, code := Value.ref 214 } }) ::
  (nat_lit 216, { cls := Value.type "tuple", data := Data.seq #[] }) ::
  (nat_lit 219, { cls := Value.type "code", data := Data.fields #[Value.str (Str.ofString "keys") 626, Value.str (Str.ofString "Headers.keys") 627, Value.str (Str.ofString "/claim/cut.py") 628, Value.int 184 0, Value.int 1 0, Value.int 0 0, Value.int 0 0, Value.int 3 0, Value.ref 216, Value.bool true, Value.int 276 0, Value.ref 217, Value.none, Value.none, Value.none, Value.ref 218, Value.int 629 0, Value.int 184 0, Value.str (Str.ofString "/claim/cut.py") 630] }) ::
  (nat_lit 220, { cls := Value.type "function", data := Data.func { name := fnName (inner (T1 17) 9), qualname := Str.ofString "Headers.keys", params := fnParams (inner (T1 17) 9), body := .stmts (fnBody (inner (T1 17) 9)), scope := fnScope (inner (T1 17) 9), globals := 3, closure := [], defaults := Value.none, kwdefaults := Value.none, pyModule := Value.str (Str.ofString "cpy313.wsgiref.headers") 431, code := Value.ref 219 } }) ::
  (nat_lit 221, { cls := Value.type "tuple", data := Data.seq #[] }) ::
  (nat_lit 224, { cls := Value.type "code", data := Data.fields #[Value.str (Str.ofString "values") 632, Value.str (Str.ofString "Headers.values") 633, Value.str (Str.ofString "/claim/cut.py") 634, Value.int 187 0, Value.int 1 0, Value.int 0 0, Value.int 0 0, Value.int 3 0, Value.ref 221, Value.bool true, Value.int 276 0, Value.ref 222, Value.none, Value.none, Value.none, Value.ref 223, Value.int 635 0, Value.int 187 0, Value.str (Str.ofString "/claim/cut.py") 636] }) ::
  (nat_lit 225, { cls := Value.type "function", data := Data.func { name := fnName (inner (T1 17) 10), qualname := Str.ofString "Headers.values", params := fnParams (inner (T1 17) 10), body := .stmts (fnBody (inner (T1 17) 10)), scope := fnScope (inner (T1 17) 10), globals := 3, closure := [], defaults := Value.none, kwdefaults := Value.none, pyModule := Value.str (Str.ofString "cpy313.wsgiref.headers") 431, code := Value.ref 224 } }) ::
  (nat_lit 226, { cls := Value.type "tuple", data := Data.seq #[] }) ::
  (nat_lit 228, { cls := Value.type "tuple", data := Data.seq #[Value.str (Str.ofString "self") 641] }) ::
  (nat_lit 229, { cls := Value.type "tuple", data := Data.seq #[] }) ::
  (nat_lit 231, { cls := Value.type "code", data := Data.fields #[Value.str (Str.ofString "items") 638, Value.str (Str.ofString "Headers.items") 639, Value.str (Str.ofString "/claim/cut.py") 640, Value.int 190 0, Value.int 1 0, Value.int 0 0, Value.int 0 0, Value.int 3 0, Value.ref 226, Value.bool true, Value.int 276 0, Value.ref 227, Value.none, Value.ref 228, Value.ref 229, Value.ref 230, Value.int 642 0, Value.int 190 0, Value.str (Str.ofString "/claim/cut.py") 643] }) ::
  (nat_lit 232, { cls := Value.type "function", data := Data.func { name := fnName (inner (T1 17) 11), qualname := Str.ofString "Headers.items", params := fnParams (inner (T1 17) 11), body := .stmts (fnBody (inner (T1 17) 11)), scope := fnScope (inner (T1 17) 11), globals := 3, closure := [], defaults := Value.none, kwdefaults := Value.none, pyModule := Value.str (Str.ofString "cpy313.wsgiref.headers") 431, code := Value.ref 231 } }) ::
  (nat_lit 233, { cls := Value.type "tuple", data := Data.seq #[] }) ::
  (nat_lit 235, { cls := Value.type "tuple", data := Data.seq #[Value.str (Str.ofString "self") 648] }) ::
  (nat_lit 236, { cls := Value.type "tuple", data := Data.seq #[] }) ::
  (nat_lit 238, { cls := Value.type "code", data := Data.fields #[Value.str (Str.ofString "__repr__") 645, Value.str (Str.ofString "Headers.__repr__") 646, Value.str (Str.ofString "/claim/cut.py") 647, Value.int 193 0, Value.int 1 0, Value.int 0 0, Value.int 0 0, Value.int 3 0, Value.ref 233, Value.bool true, Value.int 276 0, Value.ref 234, Value.none, Value.ref 235, Value.ref 236, Value.ref 237, Value.int 649 0, Value.int 193 0, Value.str (Str.ofString "/claim/cut.py") 650] }) ::
  (nat_lit 239, { cls := Value.type "function", data := Data.func { name := fnName (inner (T1 17) 12), qualname := Str.ofString "Headers.__repr__", params := fnParams (inner (T1 17) 12), body := .stmts (fnBody (inner (T1 17) 12)), scope := fnScope (inner (T1 17) 12), globals := 3, closure := [], defaults := Value.none, kwdefaults := Value.none, pyModule := Value.str (Str.ofString "cpy313.wsgiref.headers") 431, code := Value.ref 238 } }) ::
  (nat_lit 240, { cls := Value.type "tuple", data := Data.seq #[] }) ::
  (nat_lit 243, { cls := Value.type "code", data := Data.fields #[Value.str (Str.ofString "__str__") 652, Value.str (Str.ofString "Headers.__str__") 653, Value.str (Str.ofString "/claim/cut.py") 654, Value.int 196 0, Value.int 1 0, Value.int 0 0, Value.int 0 0, Value.int 3 0, Value.ref 240, Value.bool true, Value.int 276 0, Value.ref 241, Value.none, Value.none, Value.none, Value.ref 242, Value.int 655 0, Value.int 196 0, Value.str (Str.ofString "/claim/cut.py") 656] }) ::
  (nat_lit 244, { cls := Value.type "function", data := Data.func { name := fnName (inner (T1 17) 13), qualname := Str.ofString "Headers.__str__", params := fnParams (inner (T1 17) 13), body := .stmts (fnBody (inner (T1 17) 13)), scope := fnScope (inner (T1 17) 13), globals := 3, closure := [], defaults := Value.none, kwdefaults := Value.none, pyModule := Value.str (Str.ofString "cpy313.wsgiref.headers") 431, code := Value.ref 243 } }) ::
  (nat_lit 245, { cls := Value.type "tuple", data := Data.seq #[] }) ::
  (nat_lit 247, { cls := Value.type "tuple", data := Data.seq #[Value.str (Str.ofString "self") 661] }) ::
  (nat_lit 248, { cls := Value.type "tuple", data := Data.seq #[] }) ::
  (nat_lit 250, { cls := Value.type "code", data := Data.fields #[Value.str (Str.ofString "__bytes__") 658, Value.str (Str.ofString "Headers.__bytes__") 659, Value.str (Str.ofString "/claim/cut.py") 660, Value.int 199 0, Value.int 1 0, Value.int 0 0, Value.int 0 0, Value.int 3 0, Value.ref 245, Value.bool true, Value.int 276 0, Value.ref 246, Value.none, Value.ref 247, Value.ref 248, Value.ref 249, Value.int 662 0, Value.int 199 0, Value.str (Str.ofString "/claim/cut.py") 663] }) ::
  (nat_lit 251, { cls := Value.type "function", data := Data.func { name := fnName (inner (T1 17) 14), qualname := Str.ofString "Headers.__bytes__", params := fnParams (inner (T1 17) 14), body := .stmts (fnBody (inner (T1 17) 14)), scope := fnScope (inner (T1 17) 14), globals := 3, closure := [], defaults := Value.none, kwdefaults := Value.none, pyModule := Value.str (Str.ofString "cpy313.wsgiref.headers") 431, code := Value.ref 250 } }) ::
  (nat_lit 252, { cls := Value.type "tuple", data := Data.seq #[] }) ::
  (nat_lit 254, { cls := Value.type "tuple", data := Data.seq #[Value.str (Str.ofString "self") 668, Value.str (Str.ofString "name") 669, Value.str (Str.ofString "value") 670] }) ::
  (nat_lit 255, { cls := Value.type "tuple", data := Data.seq #[] }) ::
  (nat_lit 257, { cls := Value.type "code", data := Data.fields #[Value.str (Str.ofString "setdefault") 665, Value.str (Str.ofString "Headers.setdefault") 666, Value.str (Str.ofString "/claim/cut.py") 667, Value.int 202 0, Value.int 3 0, Value.int 0 0, Value.int 0 0, Value.int 3 0, Value.ref 252, Value.bool true, Value.int 276 0, Value.ref 253, Value.none, Value.ref 254, Value.ref 255, Value.ref 256, Value.int 671 0, Value.int 202 0, Value.str (Str.ofString "/claim/cut.py") 672] }) ::
  (nat_lit 258, { cls := Value.type "function", data := Data.func { name := fnName (inner (T1 17) 15), qualname := Str.ofString "Headers.setdefault", params := fnParams (inner (T1 17) 15), body := .stmts (fnBody (inner (T1 17) 15)), scope := fnScope (inner (T1 17) 15), globals := 3, closure := [], defaults := Value.none, kwdefaults := Value.none, pyModule := Value.str (Str.ofString "cpy313.wsgiref.headers") 431, code := Value.ref 257 } }) ::
  (nat_lit 259, { cls := Value.type "tuple", data := Data.seq #[] }) ::
  (nat_lit 261, { cls := Value.type "tuple", data := Data.seq #[Value.str (Str.ofString "self") 677, Value.str (Str.ofString "_name") 678, Value.str (Str.ofString "_value") 679, Value.str (Str.ofString "_params") 680, Value.str (Str.ofString "parts") 681, Value.str (Str.ofString "k") 682, Value.str (Str.ofString "v") 683] }) ::
  (nat_lit 262, { cls := Value.type "tuple", data := Data.seq #[] }) ::
  (nat_lit 264, { cls := Value.type "code", data := Data.fields #[Value.str (Str.ofString "add_header") 674, Value.str (Str.ofString "Headers.add_header") 675, Value.str (Str.ofString "/claim/cut.py") 676, Value.int 205 0, Value.int 3 0, Value.int 0 0, Value.int 0 0, Value.int 11 0, Value.ref 259, Value.bool true, Value.int 276 0, Value.ref 260, Value.none, Value.ref 261, Value.ref 262, Value.ref 263, Value.int 684 0, Value.int 205 0, Value.str (Str.ofString "/claim/cut.py") 685] }) ::
  (nat_lit 265, { cls := Value.type "function", data := Data.func { name := fnName (inner (T1 17) 16), qualname := Str.ofString "Headers.add_header", params := fnParams (inner (T1 17) 16), body := .stmts (fnBody (inner (T1 17) 16)), scope := fnScope (inner (T1 17) 16), globals := 3, closure := [], defaults := Value.none, kwdefaults := Value.none, pyModule := Value.str (Str.ofString "cpy313.wsgiref.headers") 431, code := Value.ref 264 } }) ::
  (nat_lit 266, { cls := Value.type "tuple", data := Data.seq #[Value.str (Str.ofString "_headers") 687] }) ::
  (nat_lit 267, { cls := Value.type "dict", data := Data.dict #[kEnt P (Str.ofString "__module__") 544 (Value.str (Str.ofString "cpy313.wsgiref.headers") 431), kEnt P (Str.ofString "__firstlineno__") 548 (Value.int 137 547), kEnt P (Str.ofString "__init__") 558 (Value.ref 160), kEnt P (Str.ofString "_convert_string_type") 568 (Value.ref 167), kEnt P (Str.ofString "__len__") 575 (Value.ref 174), kEnt P (Str.ofString "__setitem__") 584 (Value.ref 181), kEnt P (Str.ofString "__delitem__") 590 (Value.ref 186), kEnt P (Str.ofString "__getitem__") 598 (Value.ref 193), kEnt P (Str.ofString "__contains__") 606 (Value.ref 200), kEnt P (Str.ofString "get_all") 614 (Value.ref 207), kEnt P (Str.ofString "get") 625 (Value.ref 215), kEnt P (Str.ofString "keys") 631 (Value.ref 220), kEnt P (Str.ofString "values") 637 (Value.ref 225), kEnt P (Str.ofString "items") 644 (Value.ref 232), kEnt P (Str.ofString "__repr__") 651 (Value.ref 239), kEnt P (Str.ofString "__str__") 657 (Value.ref 244), kEnt P (Str.ofString "__bytes__") 664 (Value.ref 251), kEnt P (Str.ofString "setdefault") 673 (Value.ref 258), kEnt P (Str.ofString "add_header") 686 (Value.ref 265), kEnt P (Str.ofString "__static_attributes__") 688 (Value.ref 266), kEnt P (Str.ofString "__dict__") 690 (Value.ref 269), kEnt P (Str.ofString "__weakref__") 692 (Value.ref 270), kEnt P (Str.ofString "__doc__") 693 (Value.none)] 4 }) ::
  (nat_lit 268, { cls := Value.type "type", data := Data.cls { name := Str.ofString "Headers", bases := [Value.type "object"], mro := [Value.ref 268, Value.type "object"], ns := 267, qualname := Str.ofString "Headers" }, slots := #[none, none, some (Value.str (Str.ofString "Headers") 537), some (Value.str (Str.ofString "Headers") 545), some (Value.builtin "object.__new__"), some (Value.bool true)] }) ::
  (nat_lit 269, { cls := Value.type "getset_descriptor", data := Data.fields #[Value.str (Str.ofString "__dict__") 689, Value.ref 268, Value.builtin "function.__dict__", Value.builtin "function.__dict__#set"] }) ::
  (nat_lit 270, { cls := Value.type "getset_descriptor", data := Data.fields #[Value.str (Str.ofString "__weakref__") 691, Value.ref 268, Value.builtin "ExceptionGroup.__weakref__", Value.none] }) ::
  (nat_lit 273, { cls := Value.type "tuple", data := Data.seq #[] }) ::
  (nat_lit 276, { cls := Value.type "code", data := Data.fields #[Value.str (Str.ofString "_law_pair") 698, Value.str (Str.ofString "_law_pair") 699, Value.str (Str.ofString "/claim/cut.py") 700, Value.int 219 0, Value.int 1 0, Value.int 0 0, Value.int 0 0, Value.int 3 0, Value.ref 273, Value.bool true, Value.int 276 0, Value.ref 274, Value.none, Value.none, Value.none, Value.ref 275, Value.int 701 0, Value.int 219 0, Value.str (Str.ofString "/claim/cut.py") 702] }) ::
  (nat_lit 277, { cls := Value.type "function", data := Data.func { name := fnName (T1 19), qualname := Str.ofString "_law_pair", params := fnParams (T1 19), body := .stmts (fnBody (T1 19)), scope := fnScope (T1 19), globals := 3, closure := [], defaults := Value.none, kwdefaults := Value.none, pyModule := Value.str (Str.ofString "law_ph0173_02") 696, code := Value.ref 276 } }) ::
  (nat_lit 278, { cls := Value.type "tuple", data := Data.seq #[] }) ::
  (nat_lit 280, { cls := Value.type "tuple", data := Data.seq #[Value.str (Str.ofString "text") 707, Value.str (Str.ofString "signs") 708, Value.str (Str.ofString "book") 709, Value.str (Str.ofString "rows") 710, Value.str (Str.ofString "piece") 711, Value.str (Str.ofString "sign") 712] }) ::
  (nat_lit 281, { cls := Value.type "tuple", data := Data.seq #[] }) ::
  (nat_lit 283, { cls := Value.type "code", data := Data.fields #[Value.str (Str.ofString "_law_packed") 704, Value.str (Str.ofString "_law_packed") 705, Value.str (Str.ofString "/claim/cut.py") 706, Value.int 224 0, Value.int 1 0, Value.int 0 0, Value.int 0 0, Value.int 3 0, Value.ref 278, Value.bool true, Value.int 276 0, Value.ref 279, Value.none, Value.ref 280, Value.ref 281, Value.ref 282, Value.int 713 0, Value.int 224 0, Value.str (Str.ofString "/claim/cut.py") 714] }) ::
  (nat_lit 284, { cls := Value.type "function", data := Data.func { name := fnName (T1 20), qualname := Str.ofString "_law_packed", params := fnParams (T1 20), body := .stmts (fnBody (T1 20)), scope := fnScope (T1 20), globals := 3, closure := [], defaults := Value.none, kwdefaults := Value.none, pyModule := Value.str (Str.ofString "law_ph0173_02") 696, code := Value.ref 283 } }) ::
  (nat_lit 285, { cls := Value.type "tuple", data := Data.seq #[] }) ::
  (nat_lit 287, { cls := Value.type "tuple", data := Data.seq #[Value.str (Str.ofString "number") 719, Value.str (Str.ofString "read") 720, Value.str (Str.ofString "stream") 721, Value.str (Str.ofString "lexer") 722, Value.str (Str.ofString "told") 723, Value.str (Str.ofString "word") 724] }) ::
  (nat_lit 288, { cls := Value.type "tuple", data := Data.seq #[Value.str (Str.ofString "book") 725, Value.str (Str.ofString "heard") 726, Value.str (Str.ofString "ready") 727, Value.str (Str.ofString "signs") 728, Value.str (Str.ofString "state") 729] }) ::
  (nat_lit 290, { cls := Value.type "code", data := Data.fields #[Value.str (Str.ofString "_law_told") 716, Value.str (Str.ofString "_law_told") 717, Value.str (Str.ofString "/claim/cut.py") 718, Value.int 239 0, Value.int 1 0, Value.int 0 0, Value.int 0 0, Value.int 3 0, Value.ref 285, Value.bool true, Value.int 276 0, Value.ref 286, Value.none, Value.ref 287, Value.ref 288, Value.ref 289, Value.int 730 0, Value.int 239 0, Value.str (Str.ofString "/claim/cut.py") 731] }) ::
  (nat_lit 291, { cls := Value.type "function", data := Data.func { name := fnName (T1 21), qualname := Str.ofString "_law_told", params := fnParams (T1 21), body := .stmts (fnBody (T1 21)), scope := fnScope (T1 21), globals := 3, closure := [], defaults := Value.none, kwdefaults := Value.none, pyModule := Value.str (Str.ofString "law_ph0173_02") 696, code := Value.ref 290 } }) ::
  (nat_lit 292, { cls := Value.type "tuple", data := Data.seq #[] }) ::
  (nat_lit 294, { cls := Value.type "tuple", data := Data.seq #[Value.str (Str.ofString "pairs") 736, Value.str (Str.ofString "text") 737, Value.str (Str.ofString "spots") 738, Value.str (Str.ofString "name") 739, Value.str (Str.ofString "word") 740, Value.str (Str.ofString "places") 741, Value.str (Str.ofString "sign") 742] }) ::
  (nat_lit 295, { cls := Value.type "tuple", data := Data.seq #[] }) ::
  (nat_lit 297, { cls := Value.type "code", data := Data.fields #[Value.str (Str.ofString "_law_written") 733, Value.str (Str.ofString "_law_written") 734, Value.str (Str.ofString "/claim/cut.py") 735, Value.int 272 0, Value.int 1 0, Value.int 0 0, Value.int 0 0, Value.int 3 0, Value.ref 292, Value.bool true, Value.int 276 0, Value.ref 293, Value.none, Value.ref 294, Value.ref 295, Value.ref 296, Value.int 743 0, Value.int 272 0, Value.str (Str.ofString "/claim/cut.py") 744] }) ::
  (nat_lit 298, { cls := Value.type "function", data := Data.func { name := fnName (T1 22), qualname := Str.ofString "_law_written", params := fnParams (T1 22), body := .stmts (fnBody (T1 22)), scope := fnScope (T1 22), globals := 3, closure := [], defaults := Value.none, kwdefaults := Value.none, pyModule := Value.str (Str.ofString "law_ph0173_02") 696, code := Value.ref 297 } }) ::
  (nat_lit 299, { cls := Value.type "tuple", data := Data.seq #[] }) ::
  (nat_lit 302, { cls := Value.type "code", data := Data.fields #[Value.str (Str.ofString "_law_due") 746, Value.str (Str.ofString "_law_due") 747, Value.str (Str.ofString "/claim/cut.py") 748, Value.int 292 0, Value.int 1 0, Value.int 0 0, Value.int 0 0, Value.int 3 0, Value.ref 299, Value.bool true, Value.int 276 0, Value.ref 300, Value.none, Value.none, Value.none, Value.ref 301, Value.int 749 0, Value.int 292 0, Value.str (Str.ofString "/claim/cut.py") 750] }) ::
  (nat_lit 303, { cls := Value.type "function", data := Data.func { name := fnName (T1 23), qualname := Str.ofString "_law_due", params := fnParams (T1 23), body := .stmts (fnBody (T1 23)), scope := fnScope (T1 23), globals := 3, closure := [], defaults := Value.none, kwdefaults := Value.none, pyModule := Value.str (Str.ofString "law_ph0173_02") 696, code := Value.ref 302 } }) ::
  (nat_lit 304, { cls := Value.type "tuple", data := Data.seq #[] }) ::
  (nat_lit 307, { cls := Value.type "code", data := Data.fields #[Value.str (Str.ofString "law") 752, Value.str (Str.ofString "law") 753, Value.str (Str.ofString "/claim/cut.py") 754, Value.int 326 0, Value.int 1 0, Value.int 0 0, Value.int 0 0, Value.int 3 0, Value.ref 304, Value.bool true, Value.int 276 0, Value.ref 305, Value.none, Value.none, Value.none, Value.ref 306, Value.int 755 0, Value.int 326 0, Value.str (Str.ofString "/claim/cut.py") 756] }) ::
  (nat_lit 308, { cls := Value.type "function", data := Data.func { name := fnName (T1 24), qualname := Str.ofString "law", params := fnParams (T1 24), body := .stmts (fnBody (T1 24)), scope := fnScope (T1 24), globals := 3, closure := [], defaults := Value.none, kwdefaults := Value.none, pyModule := Value.str (Str.ofString "law_ph0173_02") 696, code := Value.ref 307 } }) :: []
noncomputable def vw : Program := { PySem.Challenge.pw_ph0173_02 with main := { PySem.Challenge.pw_ph0173_02.main with body := [0, 1, 3, 5, 6, 7, 8, 9, 10, 11, 13, 14, 15, 17, 19, 20, 21, 22, 23, 24].map (topStmt PySem.Challenge.pw_ph0173_02) } }
noncomputable abbrev asH : List Addr := [3, 32, 34, 35, 37, 38, 46, 48, 49, 51, 52, 53, 55, 56, 58, 59, 60, 62, 63, 65, 66, 67, 69, 70, 72, 73, 74, 75, 76, 77, 78, 81, 83, 84, 86, 87, 88, 90, 91, 93, 94, 95, 97, 98, 100, 101, 102, 104, 105, 107, 108, 109, 111, 112, 114, 115, 116, 118, 119, 121, 122, 126, 127, 131, 132, 136, 137, 138, 139, 141, 142, 144, 145, 153, 154, 156, 157, 159, 160, 161, 163, 164, 166, 167, 168, 170, 171, 173, 174, 175, 177, 178, 180, 181, 182, 185, 186, 187, 189, 190, 192, 193, 194, 196, 197, 199, 200, 201, 203, 204, 206, 207, 208, 209, 211, 212, 214, 215, 216, 219, 220, 221, 224, 225, 226, 228, 229, 231, 232, 233, 235, 236, 238, 239, 240, 243, 244, 245, 247, 248, 250, 251, 252, 254, 255, 257, 258, 259, 261, 262, 264, 265, 266, 267, 268, 269, 270, 273, 276, 277, 278, 280, 281, 283, 284, 285, 287, 288, 290, 291, 292, 294, 295, 297, 298, 299, 302, 303, 304, 307, 308]
noncomputable abbrev HK : Hook := kmHook KH asH (fun _ => by kernel_rfl) [96, 286, 103]
theorem leftA : ∀ w, (openEnds treeTable PySem.Challenge.pw_ph0173_02 w 4032).map (fun s => openSeen vw ["tspecials", "_name_disallowed_re", "_value_disallowed_re", "_formatparam"] (importedModules PySem.Challenge.pw_ph0173_02.main.body) (fun s => xlAt vw [] s && recOk [] s) true s) = some (openGood vw ["tspecials", "_name_disallowed_re", "_value_disallowed_re", "_formatparam"]) := fun w => by kernel_rfl
theorem leftB : ∀ w, (openEnds treeTable PySem.Challenge.pw_ph0173_02 w 4032).map HK.obs = some (HK.val w) := fun w => by kernel_rfl
theorem left : LeftO PySem.Challenge.pw_ph0173_02 vw ["tspecials", "_name_disallowed_re", "_value_disallowed_re", "_formatparam"] (fun s => xlAt vw [] s && recOk [] s) HK.obs HK.val 4032 := fun w => by
  obtain ⟨s, e, h1⟩ := Option.map_eq_some_iff.mp (leftA w)
  have h2 := leftB w
  rw [e] at h2 ⊢
  exact congrArg some (Prod.ext h1 (Option.some.inj h2))
end Mine

namespace Mine
open PySem PySem.W PySem.Calls PyProof.Rows
theorem away {A : Prop} (h : ∀ G : Prop, (A → G) → G) : A := h A id

/-! abstract values, ledgers, the state relation -/
noncomputable abbrev Fz := Addr → Option Obj
noncomputable def Fz.le (β β' : Fz) : Prop := ∀ a o, β a = some o → β' a = some o
theorem Fz.le.rfl {β : Fz} : β.le β := fun _ _ e => e
theorem Fz.le.trans {β β' β'' : Fz} (x : β.le β') (y : β'.le β'') : β.le β'' := fun a o e => y a o (x a o e)

inductive V where
  | none | bool (b : Bool) | int (i : Int) | str (s : List Nat) | tup (vs : List V) | raw (v : Value)

mutual
inductive VRel (β : Fz) : V → Value → Prop
  | none : VRel β .none .none
  | bool (b) : VRel β (.bool b) (.bool b)
  | int (i t) : VRel β (.int i) (.int i t)
  | str (s t) : VRel β (.str s) (.str ⟨s.toArray⟩ t)
  | tup {vs a its n} : β a = some { cls := .type "tuple", data := .seq its n } → VsRel β vs its.toList → VRel β (.tup vs) (.ref a)
  | raw (v) : VRel β (.raw v) v
inductive VsRel (β : Fz) : List V → List Value → Prop
  | nil : VsRel β [] []
  | cons {v x vs xs} : VRel β v x → VsRel β vs xs → VsRel β (v :: vs) (x :: xs)
end

mutual
theorem VRel.mono {β β' : Fz} (le : β.le β') : ∀ {v x}, VRel β v x → VRel β' v x
  | _, _, .none => .none
  | _, _, .bool b => .bool b
  | _, _, .int i t => .int i t
  | _, _, .str s t => .str s t
  | _, _, .tup e r => .tup (le _ _ e) (VsRel.mono le r)
  | _, _, .raw v => .raw v
theorem VsRel.mono {β β' : Fz} (le : β.le β') : ∀ {v x}, VsRel β v x → VsRel β' v x
  | _, _, .nil => .nil
  | _, _, .cons a b => .cons (VRel.mono le a) (VsRel.mono le b)
end

theorem VsRel.length {β : Fz} : ∀ {vs xs}, VsRel β vs xs → xs.length = vs.length
  | _, _, .nil => rfl
  | _, _, .cons _ b => by simp [VsRel.length b]
theorem VsRel.append {β : Fz} : ∀ {vs xs ws ys}, VsRel β vs xs → VsRel β ws ys → VsRel β (vs ++ ws) (xs ++ ys)
  | _, _, _, _, .nil, h => h
  | _, _, _, _, .cons a b, h => .cons a (VsRel.append b h)
theorem VsRel.get {β : Fz} : ∀ {vs xs}, VsRel β vs xs → ∀ {i : Nat} {v}, vs[i]? = some v → ∃ x, xs[i]? = some x ∧ VRel β v x
  | _, _, .nil, i, v, e => by simp at e
  | _, _, .cons a b, 0, v, e => by simp at e; subst e; exact ⟨_, rfl, a⟩
  | _, _, .cons a b, i+1, v, e => by simpa using VsRel.get b (by simpa using e)
theorem VsRel.drop {β : Fz} : ∀ {vs xs}, VsRel β vs xs → ∀ n, VsRel β (vs.drop n) (xs.drop n)
  | _, _, h, 0 => h
  | _, _, .nil, n+1 => by simpa using .nil
  | _, _, .cons a b, n+1 => by simpa using VsRel.drop b n
theorem VsRel.take {β : Fz} : ∀ {vs xs}, VsRel β vs xs → ∀ n, VsRel β (vs.take n) (xs.take n)
  | _, _, h, 0 => by simpa using .nil
  | _, _, .nil, n+1 => by simpa using .nil
  | _, _, .cons a b, n+1 => by simpa using .cons a (VsRel.take b n)
theorem VsRel.reverse {β : Fz} : ∀ {vs xs}, VsRel β vs xs → VsRel β vs.reverse xs.reverse
  | _, _, .nil => .nil
  | _, _, .cons a b => by simpa using (VsRel.reverse b).append (.cons a .nil)
noncomputable abbrev Loc := List (Str × Option V)
inductive AObj where
  | list (xs : List V)
  | inst (C d : Addr)
  | ns (σ : Loc)
  | dict (σ : Loc)
  | cell (v : Option V)
  | fn (fd : FuncData) (d : Option Addr)
  | pred (p : Obj → Prop)

noncomputable def OptRel (β : Fz) : Option V → Option Value → Prop
  | none, none => True
  | some v, some x => VRel β v x
  | _, _ => False
theorem OptRel.mono {β β' : Fz} (le : β.le β') : ∀ {v x}, OptRel β v x → OptRel β' v x
  | none, none, _ => trivial
  | some _, some _, h => VRel.mono le h
  | none, some _, h => h.elim
  | some _, none, h => h.elim

structure NsRel (β : Fz) (σ : Loc) (es : Array DictEntry) : Prop where
  keys : StrKeys es
  nd : (σ.map (·.1)).Nodup
  val : ∀ p ∈ σ, OptRel β p.2 (nsFind es p.1)
theorem NsRel.mono {β β' : Fz} (le : β.le β') {σ es} (h : NsRel β σ es) : NsRel β' σ es := ⟨h.keys, h.nd, fun p hp => (h.val p hp).mono le⟩

inductive DRel (β : Fz) : Loc → List DictEntry → Prop
  | nil : DRel β [] []
  | cons {n v t hsh x σ es} : VRel β v x → DRel β σ es → DRel β ((n, some v) :: σ) (⟨hsh, .str n t, x⟩ :: es)
theorem DRel.mono {β β' : Fz} (le : β.le β') : ∀ {σ es}, DRel β σ es → DRel β' σ es
  | _, _, .nil => .nil
  | _, _, .cons a b => .cons (VRel.mono le a) (DRel.mono le b)

inductive isTup : Obj → Prop
  | tup (its n) : isTup { cls := .type "tuple", data := .seq its n }
  | code {o vs q t} : o.data = .fields vs → vs[1]? = some (.str q t) → 5 < vs.size → isTup o

noncomputable def thaw (β : Fz) (ks : List Addr) : Fz := fun a => if a ∈ ks then none else β a
noncomputable def CodeIn (β : Fz) (fd : FuncData) : Prop := ∃ c o vs t, fd.code = .ref c ∧ β c = some o ∧ o.data = .fields vs ∧ vs[1]? = some (.str fd.qualname t) ∧ 5 < vs.size
theorem CodeIn.mono {β β' : Fz} (le : β.le β') {fd} : CodeIn β fd → CodeIn β' fd := fun ⟨c, o, vs, t, e1, e2, e3, e4⟩ => ⟨c, o, vs, t, e1, le _ _ e2, e3, e4⟩
theorem CodeIn.thaw {β : Fz} {ks : List Addr} (hk : ∀ k ∈ ks, ∀ o, β k = some o → ¬ isTup o) {fd} : CodeIn β fd → CodeIn (Mine.thaw β ks) fd := fun ⟨c, o, vs, t, e1, e2, e3, e4⟩ => ⟨c, o, vs, t, e1, by unfold Mine.thaw; rw [if_neg (fun m => hk c m _ e2 (.code e3 e4.1 e4.2))]; exact e2, e3, e4⟩

noncomputable def ORel (β : Fz) : AObj → Obj → Prop
  | .list xs, o => ∃ its n, o = W.listOf its n ∧ VsRel β xs its.toList
  | .inst C d, o => o = instObj C d
  | .ns σ, o => ∃ es ep, o.data = .dict es ep ∧ NsRel β σ es
  | .dict σ, o => ∃ es n, o = dictOf es n ∧ DRel β σ es
  | .cell v, o => ∃ x, o.data = .cell x ∧ OptRel β v x
  | .fn fd d, o => o = { cls := .type "function", dict := d, data := .func fd } ∧ CodeIn β fd
  | .pred p, o => p o ∧ ¬ isTup o
theorem ORel.mono {β β' : Fz} (le : β.le β') : ∀ {a o}, ORel β a o → ORel β' a o
  | .list _, _, ⟨its, n, e, r⟩ => ⟨its, n, e, r.mono le⟩
  | .inst .., _, h => h
  | .ns _, _, ⟨es, ep, e, r⟩ => ⟨es, ep, e, r.mono le⟩
  | .dict _, _, ⟨es, ep, e, r⟩ => ⟨es, ep, e, r.mono le⟩
  | .cell _, _, ⟨x, e, r⟩ => ⟨x, e, r.mono le⟩
  | .fn .., _, h => ⟨h.1, h.2.mono le⟩
  | .pred _, _, h => h
theorem isTup.cases {o : Obj} (h : isTup o) : (∃ its n, o = { cls := .type "tuple", data := .seq its n }) ∨ ∃ vs q t, o.data = .fields vs ∧ vs[1]? = some (.str q t) ∧ 5 < vs.size := by
  cases h with
  | tup its n => exact .inl ⟨its, n, rfl⟩
  | code a b c => exact .inr ⟨_, _, _, a, b, c⟩
theorem ORel.notTup {β : Fz} : ∀ {a o}, ORel β a o → ¬ isTup o
  | .list _, _, ⟨its, n, e, r⟩, q => by subst e; rcases q.cases with ⟨_, _, q⟩ | ⟨_, _, _, q, _⟩ <;> simp [W.listOf] at q
  | .inst .., _, h, q => by cases h; rcases q.cases with ⟨_, _, q⟩ | ⟨_, _, _, q, _⟩ <;> simp [instObj] at q
  | .ns _, _, ⟨es, ep, e, r⟩, q => by rcases q.cases with ⟨_, _, q⟩ | ⟨_, _, _, q, _⟩ <;> (first | (subst q; cases e) | (rw [e] at q; cases q))
  | .dict _, _, ⟨es, ep, e, r⟩, q => by subst e; rcases q.cases with ⟨_, _, q⟩ | ⟨_, _, _, q, _⟩ <;> simp [dictOf] at q
  | .cell _, _, ⟨x, e, r⟩, q => by rcases q.cases with ⟨_, _, q⟩ | ⟨_, _, _, q, _⟩ <;> (first | (subst q; cases e) | (rw [e] at q; cases q))
  | .fn .., _, h, q => by obtain ⟨h, _⟩ := h; cases h; rcases q.cases with ⟨_, _, q⟩ | ⟨_, _, _, q, _⟩ <;> simp at q
  | .pred _, _, h, q => h.2 q

noncomputable abbrev Led := List (Addr × AObj)

structure TabGood (qa : Nat → Nat → Str) (β : Fz) (ps : Array Value) : Prop where
  ok : TriplesOk ps.toList
  hit : ∀ pos cv, codeAmong pos ps.toList = some cv → ∃ c, cv = .ref c ∧ ∃ o vs t, β c = some o ∧ o.data = .fields vs ∧ vs[1]? = some (.str (qa pos.line pos.col) t) ∧ 5 < vs.size

set_option genInjectivity false in
structure Par where
  prog : Program
  w : World
  K : Frag
  h₀ : Heap
  tabs : List (Addr × Addr)
  qualAt : Nat → Nat → Str
  mg : Str → Option Value
  mb : Str → Option Value
  inK : K.In h₀
  g : h₀.Ns mainGlobals mg
  b : h₀.Ns builtinsNs mb
  nolimit : h₀.NoLimit
  builtins : ∀ x : Str, x ≠ "__name__" → mb x = bootBuiltins x
  nodigits : ∃ mc, h₀.Ns cStatics mc ∧ mc "sys.int_max_str_digits" = none
  bmain : ∃ bm ob, mg "__builtins__" = some (.ref bm) ∧ bm ≠ builtinsNs ∧ h₀.get? bm = some ob ∧ ob.cls = .type "module" ∧ ob.dict = some builtinsNs ∧ ob.data = .plain
  codeHd : ∀ q ∈ tabs, CodeHd h₀ q.1 q.2
  tabsNd : (tabs.map (·.2)).Nodup

structure Inv (P : Par) (β : Fz) (μ : Led) (h : Heap) : Prop where
  base : ∀ a o, P.h₀.get? a = some o → β a = some o
  froz : ∀ a o, β a = some o → h.get? a = some o
  led : ∀ p ∈ μ, ∃ o, h.get? p.1 = some o ∧ ORel β p.2 o
  sep : ∀ p ∈ μ, β p.1 = none
  nd : (μ.map (·.1)).Nodup
  tab : ∀ q ∈ P.tabs, (∃ ps, h.get? q.2 = some (tabObj ps) ∧ TabGood P.qualAt β ps) ∧ β q.2 = none ∧ q.2 ∉ μ.map (·.1)

theorem Inv.keep {P : Par} {β μ h} (I : Inv P β μ h) : ∀ a o, P.h₀.get? a = some o → h.get? a = some o := fun a o e => I.froz a o (I.base a o e)
theorem Inv.inK {P : Par} {β μ h} (I : Inv P β μ h) : P.K.In h := P.inK.keeps I.keep
theorem TabGood.mono {qa : Nat → Nat → Str} {β β' : Fz} (le : β.le β') {ps} (t : TabGood qa β ps) : TabGood qa β' ps := ⟨t.ok, fun pos cv e => let ⟨c, e1, o, vs, u, e2, e3, e4⟩ := t.hit pos cv e; ⟨c, e1, o, vs, u, le _ _ e2, e3, e4⟩⟩

theorem Inv.perm {P : Par} {β μ μ' h} (I : Inv P β μ h) (p : μ.Perm μ') : Inv P β μ' h where
  base := I.base
  froz := I.froz
  led := fun q hq => I.led q (p.mem_iff.mpr hq)
  sep := fun q hq => I.sep q (p.mem_iff.mpr hq)
  nd := (p.map _).nodup_iff.mp I.nd
  tab := fun q hq => ⟨(I.tab q hq).1, (I.tab q hq).2.1, fun m => (I.tab q hq).2.2 ((p.map _).mem_iff.mpr m)⟩
theorem Inv.forget {P : Par} {β μ μ' h} (I : Inv P β μ h) (p : μ'.Sublist μ) : Inv P β μ' h where
  base := I.base
  froz := I.froz
  led := fun q hq => I.led q (p.subset hq)
  sep := fun q hq => I.sep q (p.subset hq)
  nd := (p.map _).nodup I.nd
  tab := fun q hq => ⟨(I.tab q hq).1, (I.tab q hq).2.1, fun m => (I.tab q hq).2.2 ((p.map _).subset m)⟩

noncomputable def freeze (β : Fz) (ks : List Addr) (h : Heap) : Fz := fun a => if a ∈ ks then h.get? a else β a
theorem freeze_le {β : Fz} {ks h} (hn : ∀ k ∈ ks, β k = none) : β.le (freeze β ks h) := fun a o e => by
  unfold freeze
  by_cases hk : a ∈ ks
  · rw [hn a hk] at e; cases e
  · rw [if_neg hk]; exact e
theorem thaw_le {β : Fz} {ks} : (thaw β ks).le β := fun a o e => by
  unfold thaw at e
  by_cases hk : a ∈ ks
  · rw [if_pos hk] at e; cases e
  · rwa [if_neg hk] at e

mutual
theorem VRel.thaw {β : Fz} {ks : List Addr} (hk : ∀ k ∈ ks, ∀ o, β k = some o → ¬ isTup o) : ∀ {v x}, VRel β v x → VRel (Mine.thaw β ks) v x
  | _, _, .none => .none
  | _, _, .bool b => .bool b
  | _, _, .int i t => .int i t
  | _, _, .str s t => .str s t
  | _, _, .tup (a := a) e r => .tup (by unfold Mine.thaw; rw [if_neg (fun m => hk a m _ e (.tup _ _))]; exact e) (VsRel.thaw hk r)
  | _, _, .raw v => .raw v
theorem VsRel.thaw {β : Fz} {ks : List Addr} (hk : ∀ k ∈ ks, ∀ o, β k = some o → ¬ isTup o) : ∀ {v x}, VsRel β v x → VsRel (Mine.thaw β ks) v x
  | _, _, .nil => .nil
  | _, _, .cons a b => .cons (VRel.thaw hk a) (VsRel.thaw hk b)
end
theorem OptRel.thaw {β : Fz} {ks : List Addr} (hk : ∀ k ∈ ks, ∀ o, β k = some o → ¬ isTup o) : ∀ {v x}, OptRel β v x → OptRel (Mine.thaw β ks) v x
  | none, none, _ => trivial
  | some _, some _, h => VRel.thaw hk h
  | none, some _, h => h.elim
  | some _, none, h => h.elim
theorem DRel.thaw {β : Fz} {ks : List Addr} (hk : ∀ k ∈ ks, ∀ o, β k = some o → ¬ isTup o) : ∀ {σ es}, DRel β σ es → DRel (Mine.thaw β ks) σ es
  | _, _, .nil => .nil
  | _, _, .cons a b => .cons (VRel.thaw hk a) (DRel.thaw hk b)
theorem ORel.thaw {β : Fz} {ks : List Addr} (hk : ∀ k ∈ ks, ∀ o, β k = some o → ¬ isTup o) : ∀ {a o}, ORel β a o → ORel (Mine.thaw β ks) a o
  | .list _, _, ⟨its, n, e, r⟩ => ⟨its, n, e, r.thaw hk⟩
  | .inst .., _, h => h
  | .ns _, _, ⟨es, ep, e, r⟩ => ⟨es, ep, e, r.keys, r.nd, fun p hp => (r.val p hp).thaw hk⟩
  | .dict _, _, ⟨es, ep, e, r⟩ => ⟨es, ep, e, r.thaw hk⟩
  | .cell _, _, ⟨x, e, r⟩ => ⟨x, e, r.thaw hk⟩
  | .fn .., _, h => ⟨h.1, h.2.thaw hk⟩
  | .pred _, _, h => h

theorem TabGood.thaw {qa : Nat → Nat → Str} {β : Fz} {ks : List Addr} {ps} (t : TabGood qa β ps) (hk : ∀ k ∈ ks, ∀ o, β k = some o → ¬ isTup o) : TabGood qa (Mine.thaw β ks) ps :=
  ⟨t.ok, fun pos cv e => let ⟨c, e1, o, vs, u, e2, e3, e4⟩ := t.hit pos cv e; ⟨c, e1, o, vs, u, by unfold Mine.thaw; rw [if_neg (fun m => hk c m _ e2 (.code e3 e4.1 e4.2))]; exact e2, e3, e4⟩⟩

theorem Inv.freeze {P : Par} {β μ ν h} (I : Inv P β (μ ++ ν) h) : Inv P (freeze β (ν.map (·.1)) h) μ h ∧ β.le (freeze β (ν.map (·.1)) h) := by
  have hn : ∀ k ∈ ν.map (·.1), β k = none := fun k hk => by
    obtain ⟨q, hq, rfl⟩ := List.mem_map.mp hk
    exact I.sep q (List.mem_append_right _ hq)
  have le := freeze_le (h := h) hn
  have nd := I.nd
  rw [List.map_append, List.nodup_append] at nd
  refine ⟨⟨fun a o e => le _ _ (I.base a o e), fun a o e => ?_, fun p hp => ?_, fun p hp => ?_, nd.1, fun q hq => ?_⟩, le⟩
  · unfold Mine.freeze at e
    split at e
    · exact e
    · exact I.froz a o e
  · obtain ⟨o, e, r⟩ := I.led p (List.mem_append_left _ hp)
    exact ⟨o, e, r.mono le⟩
  · unfold Mine.freeze
    rw [if_neg (fun m => nd.2.2 p.1 (List.mem_map_of_mem hp) p.1 m rfl)]
    exact I.sep p (List.mem_append_left _ hp)
  · obtain ⟨⟨ps, e1, e2⟩, e3, e4⟩ := I.tab q hq
    rw [List.map_append, List.mem_append, not_or] at e4
    exact ⟨⟨ps, e1, e2.mono le⟩, by unfold Mine.freeze; rw [if_neg e4.2]; exact e3, e4.1⟩

theorem Inv.thaw {P : Par} {β β' μ ν μ' h h'} (I : Inv P β (μ ++ ν) h) (I' : Inv P β' μ' h') (le : (Mine.freeze β (ν.map (·.1)) h).le β') :
    Inv P (Mine.thaw β' (ν.map (·.1))) (μ' ++ ν) h' ∧ β.le (Mine.thaw β' (ν.map (·.1))) ∧ ∀ {v x}, VRel β' v x → VRel (Mine.thaw β' (ν.map (·.1))) v x := by
  have hn : ∀ k ∈ ν.map (·.1), β k = none := fun k hk => by
    obtain ⟨q, hq, rfl⟩ := List.mem_map.mp hk
    exact I.sep q (List.mem_append_right _ hq)
  have hfr : ∀ p ∈ ν, ∃ o, β' p.1 = some o ∧ ORel β p.2 o := fun p hp => by
    obtain ⟨o, e, r⟩ := I.led p (List.mem_append_right _ hp)
    exact ⟨o, le _ _ (by unfold Mine.freeze; rw [if_pos (List.mem_map_of_mem hp)]; exact e), r⟩
  have hk : ∀ k ∈ ν.map (·.1), ∀ o, β' k = some o → ¬ isTup o := fun k hk o e => by
    obtain ⟨q, hq, rfl⟩ := List.mem_map.mp hk
    obtain ⟨o', e', r⟩ := hfr q hq
    rw [e] at e'; cases e'
    exact r.notTup
  have le2 : β.le (Mine.thaw β' (ν.map (·.1))) := fun a o e => by
    have hna : a ∉ ν.map (·.1) := fun m => by rw [hn a m] at e; cases e
    unfold Mine.thaw
    rw [if_neg hna]
    exact le _ _ (by unfold Mine.freeze; rw [if_neg hna]; exact e)
  have nd := I.nd
  rw [List.map_append, List.nodup_append] at nd
  refine ⟨⟨fun a o e => le2 _ _ (I.base a o e), fun a o e => I'.froz a o (thaw_le _ _ e), fun p hp => ?_, fun p hp => ?_, ?_, fun q hq => ?_⟩, le2, fun r => r.thaw hk⟩
  · rcases List.mem_append.mp hp with hp | hp
    · obtain ⟨o, e, r⟩ := I'.led p hp
      exact ⟨o, e, r.thaw hk⟩
    · obtain ⟨o, e, r⟩ := hfr p hp
      exact ⟨o, I'.froz _ _ e, r.mono le2⟩
  · unfold Mine.thaw
    split
    · rfl
    · rename_i hm
      rcases List.mem_append.mp hp with hp | hp
      · exact I'.sep p hp
      · exact absurd (List.mem_map_of_mem hp) hm
  · rw [List.map_append, List.nodup_append]
    refine ⟨I'.nd, nd.2.1, fun a ha b hb e => ?_⟩
    subst e
    obtain ⟨q, hq, rfl⟩ := List.mem_map.mp ha
    obtain ⟨q', hq', e'⟩ := List.mem_map.mp hb
    obtain ⟨o, e, _⟩ := hfr q' hq'
    rw [e', I'.sep q hq] at e
    cases e
  · obtain ⟨⟨ps, e1, e2⟩, e3, e4⟩ := I'.tab q hq
    have e5 := (I.tab q hq).2.2
    rw [List.map_append, List.mem_append, not_or] at e5
    refine ⟨⟨ps, e1, e2.thaw hk⟩, by unfold Mine.thaw; rw [if_neg e5.2]; exact e3, ?_⟩
    rw [List.map_append, List.mem_append, not_or]
    exact ⟨e4, e5.2⟩
end Mine

namespace Mine
theorem skol {α β : Type} {ne : Nonempty β} {Q : α → β → Prop} (h : ∀ a, Q a (@Classical.epsilon β ne fun b => ∃ a, ¬ Q a b)) (a : α) (b : β) : Q a b :=
  Classical.byContradiction fun n => (Classical.epsilon_spec (p := fun b => ∃ a, ¬ Q a b) ⟨b, a, n⟩).elim fun a' n' => n' (h a')
end Mine

namespace Mine
/-! small facts of numbers, each with a short proof -/
theorem ar_clip {n L : Nat} (h : n ≤ L) : (max 0 (min (if (n : Int) < 0 then (n : Int) + L else n) L)).toNat = n := by
  rw [if_neg (Int.not_lt.mpr (Int.natCast_nonneg n)), Int.min_eq_left (Int.ofNat_le.mpr h), Int.max_eq_right (Int.natCast_nonneg n), Int.toNat_natCast]
theorem ar_dec2 {k k' L : Nat} (h : k < L) (e : k' = k + 1) : L - min (k' + 1) L + 1 < L - k + 1 :=
  Nat.succ_lt_succ (Nat.sub_lt_sub_left h (Nat.lt_min.mpr ⟨by rw [e]; exact Nat.lt_succ_of_lt (Nat.lt_succ_self k), h⟩))
theorem ar_dec1 {k k' L : Nat} (h : k < L) (e : k' = k + 1) : L - k' + 1 < L - k + 1 := Nat.succ_lt_succ (Nat.sub_lt_sub_left h (by rw [e]; exact Nat.lt_succ_self k))
theorem ar_dec {i L : Nat} (h : i < L) : L - (i + 1) < L - i := Nat.sub_lt_sub_left h (Nat.lt_succ_self i)
theorem ar_idx {k : Int} {L : Nat} (h : 0 ≤ k) (h2 : k.toNat < L) : ((0 ≤ if k < 0 then k + (L : Int) else k) ∧ (if k < 0 then k + (L : Int) else k) < (L : Int)) ∧ (if k < 0 then k + (L : Int) else k).toNat = k.toNat := by
  rw [if_neg (Int.not_lt.mpr h)]
  exact ⟨⟨h, (Int.toNat_lt h).mp h2⟩, rfl⟩
theorem ar_seg {L m R : Nat} (h : L ≤ m) (h2 : m ≤ R) : R - L = m - L + (R - m) := by rw [Nat.add_comm, Nat.sub_add_sub_cancel h2 h]
theorem ar_le1 {k0 k k' : Nat} (h : k0 ≤ k) (e : k' = k + 1) : k0 ≤ k' := by rw [e]; exact Nat.le_succ_of_le h
theorem ar_le3 {k k' L : Nat} (h : k < L) (e : k' = k + 1) : k' ≤ L := by rw [e]; exact h
theorem ar_le2 {k0 k k' L : Nat} (h : k0 ≤ k) (h2 : k < L) (e : k' = k + 1) : k0 ≤ min (k' + 1) L := Nat.le_min.mpr ⟨Nat.le_succ_of_le (ar_le1 h e), Nat.le_trans h (Nat.le_of_lt h2)⟩
theorem ar_lt2 {k0 k k' L : Nat} (h : k0 ≤ k) (h2 : k < L) (e : k' = k + 1) : k0 < min (k' + 1) L := Nat.lt_min.mpr ⟨Nat.lt_succ_of_le (ar_le1 h e), Nat.lt_of_le_of_lt h h2⟩
theorem ar_lt1 {k0 k k' : Nat} (h : k0 ≤ k) (e : k' = k + 1) : k0 < k' := by rw [e]; exact Nat.lt_succ_of_le h
end Mine

namespace Mine
open PySem PySem.W PySem.Calls PyProof.Rows

structure St (s s' : Shared) : Prop where
  gens : s'.gens = s.gens
  drawn : s'.drawn = s.drawn
  os : s'.os = s.os
theorem St.rfl {s : Shared} : St s s := ⟨Eq.refl _, Eq.refl _, Eq.refl _⟩
theorem St.trans {s s' s'' : Shared} (a : St s s') (b : St s' s'') : St s s'' := ⟨b.gens.trans a.gens, b.drawn.trans a.drawn, b.os.trans a.os⟩
theorem St.mk' {s : Shared} {h : Heap} {t : Nat} : St s { s with heap := h, toks := t } := ⟨Eq.refl _, Eq.refl _, Eq.refl _⟩

inductive LP {α : Type} (β : Fz) (Q : α → Fz → Heap → Prop) (s : Shared) (a : α) (s' : Shared) : Prop
  | mk (st : St s s') (β' : Fz) (le : β.le β') (q : Q a β' s'.heap)
noncomputable def wpL (P : Par) {α : Type} (A : Around) (β : Fz) (t : Sem α) (Q : α → Fz → Heap → Prop) (s : Shared) : Prop :=
  wpAny (model P.prog P.w) A t (LP β Q s) (fun _ _ => False) s

structure Room (A : Around) (d : Nat) : Prop where
  depth : A.depth + 2 * d < 1000
  units : A.units + 8 * d + 40 < 9900
  handled : A.handled = none
theorem Room.le {A : Around} {d d' : Nat} (r : Room A d) (h : d' ≤ d) : Room A d' := ⟨by have := r.depth; lia, by have := r.units; lia, r.handled⟩

section
variable {P : Par} {α γ : Type} {A : Around} {β : Fz} {s : Shared}

theorem wpL.mono {t : Sem α} {Q Q' : α → Fz → Heap → Prop} (h : wpL P A β t Q s) (hq : ∀ a β' h', β.le β' → Q a β' h' → Q' a β' h') : wpL P A β t Q' s :=
  wpAny_mono h (fun a s' ⟨st, β', le, q⟩ => ⟨st, β', le, hq a β' s'.heap le q⟩) fun _ _ x => x
theorem wpL.bind {m : Sem α} {f : α → Sem γ} {Q : γ → Fz → Heap → Prop}
    (h : wpL P A β m (fun a β' h' => ∀ s', s'.heap = h' → wpL P A β' (f a) Q s') s) : wpL P A β (m >>= f) Q s := by
  refine wpAny_bind (wpAny_mono h (fun a s' hX0 => ?_) fun _ _ x => x)
  refine away fun G hG => ?_
  obtain ⟨st, β', le, q⟩ := hX0
  refine hG ?_
  clear hG G
  exact wpAny_mono (q s' rfl) (fun c s'' ⟨st', β'', le', q'⟩ => ⟨st.trans st', β'', le.trans le', q'⟩) fun _ _ x => x
theorem wpL.pure {a : α} {Q : α → Fz → Heap → Prop} (h : Q a β s.heap) : wpL P A β (pure a) Q s := wpAny_pure ⟨.rfl, β, .rfl, h⟩
theorem wpL.holding {vs : List Value} {m : Sem α} {Q : α → Fz → Heap → Prop} (h : wpL P A β m Q s) : wpL P A β (holding vs m) Q s := wpAny_holding h
theorem wpL.standAt_bind {pos : Pos} {f : Unit → Sem γ} {Q : γ → Fz → Heap → Prop} (h : wpL P A β (f ()) Q s) : wpL P A β (PySem.standAt pos >>= f) Q s :=
  wpAny_bind (wpAny_standAt h)
theorem wpL.pure_bind {a : α} {f : α → Sem γ} {Q : γ → Fz → Heap → Prop} (h : wpL P A β (f a) Q s) : wpL P A β (Pure.pure a >>= f) Q s :=
  wpAny_bind (wpAny_pure h)
theorem wpL.release {vs keep : List Value} {Q : Unit → Fz → Heap → Prop} (h : Q () β s.heap) : wpL P A β (release vs keep) Q s := fun Γ p hΓ => by
  rw [Sem.wp_release]; exact ⟨.rfl, β, .rfl, h⟩
theorem wpL.operate {vs : List Value} {m : Sem Value} {Q : Value → Fz → Heap → Prop} (h : wpL P A β m Q s) : wpL P A β (operate vs m) Q s := fun Γ p hΓ => by
  rw [Sem.wp_operate]; exact h Γ p hΓ
end

/-! triples -/
inductive OpP {α γ : Type} (P : Par) (rel : Fz → γ → α → Prop) (ν : Led) (Q : γ → Led → Prop) (a : α) (β' : Fz) (h' : Heap) : Prop
  | mk (c : γ) (μ' : Led) (I : Inv P β' (μ' ++ ν) h') (r : rel β' c a) (q : Q c μ')
noncomputable def opOk {α γ : Type} (P : Par) (rel : Fz → γ → α → Prop) (d : Nat) (μ : Led) (T : Fz → Sem α → Prop) (Q : γ → Led → Prop) : Prop :=
  ∀ ν A s β t, Room A d → Inv P β (μ ++ ν) s.heap → T β t → wpL P A β t (OpP P rel ν Q) s

inductive Fl where
  | next | brk | cont | ret (v : V)
inductive FlRel (β : Fz) : Fl → Flow → Prop
  | next : FlRel β .next .next
  | brk : FlRel β .brk .brk
  | cont : FlRel β .cont .cont
  | ret {v x} : VRel β v x → FlRel β (.ret v) (.ret x)

noncomputable def KwRel (β : Fz) (kw : List (Str × V)) (kw' : List (Str × Value)) : Prop := kw'.map (·.1) = kw.map (·.1) ∧ VsRel β (kw.map (·.2)) (kw'.map (·.2))

noncomputable def callT (f : V) (args : List V) (kw : List (Str × V)) : Fz → Sem Value → Prop := fun β t => ∃ f' a' k', VRel β f f' ∧ VsRel β args a' ∧ KwRel β kw k' ∧ t = PySem.call f' a' k'
noncomputable abbrev callOk (P : Par) (d : Nat) (μ : Led) (f : V) (args : List V) (kw : List (Str × V)) (Q : V → Led → Prop) : Prop := opOk P VRel d μ (callT f args kw) Q

noncomputable def binT (op : Operator) (a b : V) : Fz → Sem Value → Prop := fun β t => ∃ a' b', VRel β a a' ∧ VRel β b b' ∧ t = binaryOp op a' b'
noncomputable abbrev binOk (P : Par) (d : Nat) (μ : Led) (op : Operator) (a b : V) (Q : V → Led → Prop) : Prop := opOk P VRel d μ (binT op a b) Q
noncomputable def inT (op : Operator) (a b : V) : Fz → Sem Value → Prop := fun β t => ∃ a' b', VRel β a a' ∧ VRel β b b' ∧ t = inplaceOp op a' b'
noncomputable abbrev inOk (P : Par) (d : Nat) (μ : Led) (op : Operator) (a b : V) (Q : V → Led → Prop) : Prop := opOk P VRel d μ (inT op a b) Q
noncomputable def unT (op : UnaryOp) (a : V) : Fz → Sem Value → Prop := fun β t => ∃ a', VRel β a a' ∧ t = unaryOp op a'
noncomputable abbrev unOk (P : Par) (d : Nat) (μ : Led) (op : UnaryOp) (a : V) (Q : V → Led → Prop) : Prop := opOk P VRel d μ (unT op a) Q
noncomputable def cmpT (op : CmpOp) (a b : V) : Fz → Sem Value → Prop := fun β t => ∃ a' b', VRel β a a' ∧ VRel β b b' ∧ t = compareOp op a' b'
noncomputable abbrev cmpOk (P : Par) (d : Nat) (μ : Led) (op : CmpOp) (a b : V) (Q : V → Led → Prop) : Prop := opOk P VRel d μ (cmpT op a b) Q
noncomputable def truT (a : V) : Fz → Sem Bool → Prop := fun β t => ∃ a', VRel β a a' ∧ t = truthy a'
noncomputable def bRel (_ : Fz) (b b' : Bool) : Prop := b = b'
noncomputable abbrev truOk (P : Par) (d : Nat) (μ : Led) (a : V) (Q : Bool → Led → Prop) : Prop := opOk P bRel d μ (truT a) Q
noncomputable def getT (a : V) (name : Str) : Fz → Sem Value → Prop := fun β t => ∃ a', VRel β a a' ∧ t = getAttr a' name true
noncomputable abbrev getOk (P : Par) (d : Nat) (μ : Led) (a : V) (name : Str) (Q : V → Led → Prop) : Prop := opOk P VRel d μ (getT a name) Q
noncomputable def methT (a : V) (name : Str) : Fz → Sem (Value × List Value) → Prop := fun β t => ∃ a' pl, VRel β a a' ∧ t = getMethod a' name pl
noncomputable def methRel (β : Fz) (c : V × List V) (x : Value × List Value) : Prop := VRel β c.1 x.1 ∧ VsRel β c.2 x.2
noncomputable abbrev methOk (P : Par) (d : Nat) (μ : Led) (a : V) (name : Str) (Q : V × List V → Led → Prop) : Prop := opOk P methRel d μ (methT a name) Q
noncomputable def itemT (a i : V) : Fz → Sem Value → Prop := fun β t => ∃ a' i', VRel β a a' ∧ VRel β i i' ∧ t = getItem a' i'
noncomputable abbrev itemOk (P : Par) (d : Nat) (μ : Led) (a i : V) (Q : V → Led → Prop) : Prop := opOk P VRel d μ (itemT a i) Q

noncomputable def Keep (P : Par) (μ : Led) (f : V) : Prop := ∀ (M : Model) β ν h f', Inv P β (μ ++ ν) h → VRel β f f' → ∃ k, (k = Keeper.frame ∨ k = Keeper.machine ∨ k = Keeper.boundFrame) ∧ Looks M h (keeperOf f') k

inductive EvP {α γ : Type} (P : Par) (rel : Fz → γ → α → Prop) (L : Addr) (σ : Loc) (Q : γ → Led → Prop) (a : α) (β' : Fz) (h' : Heap) : Prop
  | mk (c : γ) (μ' : Led) (I : Inv P β' ((L, .ns σ) :: μ') h') (r : rel β' c a) (q : Q c μ')
inductive KwP (P : Par) (L : Addr) (σ : Loc) (names : List Str) (Q : List (Str × V) → Led → Prop) (x : List Value) (β' : Fz) (h' : Heap) : Prop
  | mk (kw : List (Str × V)) (μ' : Led) (I : Inv P β' ((L, .ns σ) :: μ') h') (r : VsRel β' (kw.map (·.2)) x) (e : kw.map (·.1) = names) (q : Q kw μ')
inductive IsP (P : Par) (L : Addr) (σ : Loc) (Q : Bool → Led → Prop) (b : Bool) (β' : Fz) (h' : Heap) : Prop
  | mk (μ' : Led) (I : Inv P β' ((L, .ns σ) :: μ') h') (q : Q b μ')
inductive ExP (P : Par) (L : Addr) (Q : Fl → Loc → Led → Prop) (x : Flow) (β' : Fz) (h' : Heap) : Prop
  | mk (f : Fl) (σ' : Loc) (μ' : Led) (I : Inv P β' ((L, .ns σ') :: μ') h') (r : FlRel β' f x) (q : Q f σ' μ')
inductive AsP (P : Par) (L : Addr) (Q : Loc → Led → Prop) (_u : Unit) (β' : Fz) (h' : Heap) : Prop
  | mk (σ' : Loc) (μ' : Led) (I : Inv P β' ((L, .ns σ') :: μ') h') (q : Q σ' μ')
noncomputable def evOk (P : Par) (d : Nat) (env : Env) (σ : Loc) (μ : Led) (e : Expr) (Q : V → Led → Prop) : Prop :=
  ∀ A s β, Room A d → Inv P β ((env.locals, .ns σ) :: μ) s.heap → wpL P A β (eval e env) (EvP P VRel env.locals σ Q) s
noncomputable def evsOk (P : Par) (d : Nat) (env : Env) (σ : Loc) (μ : Led) (es : List Expr) (Q : List V → Led → Prop) : Prop :=
  ∀ A s β pos, Room A d → Inv P β ((env.locals, .ns σ) :: μ) s.heap → wpL P A β (spliced (backTo pos (starEach es env))) (EvP P VsRel env.locals σ Q) s
noncomputable def kwsOk (P : Par) (d : Nat) (env : Env) (σ : Loc) (μ : Led) (kws : List Keyword) (Q : List (Str × V) → Led → Prop) : Prop :=
  ∀ A s β pos, Room A d → Inv P β ((env.locals, .ns σ) :: μ) s.heap →
    wpL P A β (evalAll ((backToKw pos (keywordEach kws env)).map (·.2))) (KwP P env.locals σ ((backToKw pos (keywordEach kws env)).filterMap (·.1)) Q) s
noncomputable def isOk (P : Par) (d : Nat) (env : Env) (σ : Loc) (μ : Led) (e : Expr) (Q : Bool → Led → Prop) : Prop :=
  ∀ A s β, Room A d → Inv P β ((env.locals, .ns σ) :: μ) s.heap → wpL P A β (isTrue e env (eval e env)) (IsP P env.locals σ Q) s
noncomputable def exOk (P : Par) (d : Nat) (env : Env) (σ : Loc) (μ : Led) (st : Stmt) (Q : Fl → Loc → Led → Prop) : Prop :=
  ∀ A s β, Room A d → Inv P β ((env.locals, .ns σ) :: μ) s.heap → wpL P A β (exec st env) (ExP P env.locals Q) s
noncomputable def exsOk (P : Par) (d : Nat) (env : Env) (σ : Loc) (μ : Led) (sts : List Stmt) (Q : Fl → Loc → Led → Prop) : Prop :=
  ∀ A s β, Room A d → Inv P β ((env.locals, .ns σ) :: μ) s.heap → wpL P A β (execs sts env) (ExP P env.locals Q) s
noncomputable def asOk (P : Par) (d : Nat) (env : Env) (σ : Loc) (μ : Led) (t : Expr) (v : V) (Q : Loc → Led → Prop) : Prop :=
  ∀ A s β x, Room A d → Inv P β ((env.locals, .ns σ) :: μ) s.heap → VRel β v x → wpL P A β (assign t env x) (AsP P env.locals Q) s

section
variable {P : Par} {d : Nat} {env : Env} {σ : Loc} {μ : Led}

theorem opOk.loc {α γ : Type} {rel : Fz → γ → α → Prop} {T : Fz → Sem α → Prop} {Q : γ → Led → Prop} (h : opOk P rel d μ T Q) {A s β t} {L : Addr} {σ : Loc} (hR : Room A d) (hI : Inv P β ((L, .ns σ) :: μ) s.heap) (ht : T β t) :
    wpL P A β t (EvP P rel L σ Q) s :=
  (h [(L, .ns σ)] A s β t hR (hI.perm (List.perm_append_comm (l₁ := [(L, AObj.ns σ)]) (l₂ := μ))) ht).mono fun a β' h' _ ⟨c, μ', I, r, q⟩ => ⟨c, μ', I.perm (List.perm_append_comm (l₁ := μ') (l₂ := [(L, AObj.ns σ)])), r, q⟩

theorem opOk.mono {α γ : Type} {rel : Fz → γ → α → Prop} {T : Fz → Sem α → Prop} {Q Q' : γ → Led → Prop} (h : opOk P rel d μ T Q) (hq : ∀ c μ', Q c μ' → Q' c μ') : opOk P rel d μ T Q' :=
  fun ν A s β t hR hI ht => (h ν A s β t hR hI ht).mono fun _ _ _ _ ⟨c, μ', I, r, q⟩ => ⟨c, μ', I, r, hq c μ' q⟩
theorem opOk.le {α γ : Type} {rel : Fz → γ → α → Prop} {T : Fz → Sem α → Prop} {Q : γ → Led → Prop} {d' : Nat} (h : opOk P rel d μ T Q) (hd : d ≤ d') : opOk P rel d' μ T Q :=
  fun ν A s β t hR hI ht => h ν A s β t (hR.le hd) hI ht
theorem opOk.frame {α γ : Type} {rel : Fz → γ → α → Prop} {T : Fz → Sem α → Prop} {Q : γ → Led → Prop} {μ' ρ : Led} (hp : μ.Perm (μ' ++ ρ)) (h : opOk P rel d μ' T (fun c μ1 => Q c (μ1 ++ ρ))) : opOk P rel d μ T Q :=
  fun ν A s β t hR hI ht => (h (ρ ++ ν) A s β t hR (by rw [← List.append_assoc]; exact hI.perm (hp.append_right ν)) ht).mono fun _ _ _ _ ⟨c, μ1, I, r, q⟩ => ⟨c, μ1 ++ ρ, by rw [List.append_assoc]; exact I, r, q⟩
/-! constants and names -/
theorem evOk.cint {i k pos} {Q : V → Led → Prop} (h : Q (.int i) μ) : evOk P d env σ μ (.Constant (.int i) k pos) Q := fun A s β _ hI =>
  wpAny_Constant_int ⟨.mk', β, .rfl, _, _, hI, .int .., h⟩
theorem evOk.cstr {x k pos} {Q : V → Led → Prop} (h : Q (.str x.cps.toList) μ) : evOk P d env σ μ (.Constant (.str x) k pos) Q := fun A s β _ hI =>
  wpAny_Constant_str ⟨.mk', β, .rfl, _, _, hI, by
    have := VRel.str (β := β) x.cps.toList s.toks
    rwa [show (⟨x.cps.toList.toArray⟩ : Str) = x from rfl] at this, h⟩
theorem evOk.cnone {k pos} {Q : V → Led → Prop} (h : Q .none μ) : evOk P d env σ μ (.Constant .none k pos) Q := fun A s β _ hI =>
  wpAny_Constant_none ⟨.rfl, β, .rfl, _, _, hI, .none, h⟩
theorem evOk.cbool {b k pos} {Q : V → Led → Prop} (h : Q (.bool b) μ) : evOk P d env σ μ (.Constant (.bool b) k pos) Q := fun A s β _ hI =>
  wpAny_Constant_bool ⟨.rfl, β, .rfl, _, _, hI, .bool _, h⟩

theorem loc_look {β : Fz} {h : Heap} (I : Inv P β ((env.locals, .ns σ) :: μ) h) {x : Str} {v : V} (hm : (x, some v) ∈ σ) : ∃ m v', h.Ns env.locals m ∧ m x = some v' ∧ VRel β v v' := by
  refine away fun G hG => ?_
  obtain ⟨o, ho, es, ep, hd, hk, hnd, hv⟩ := I.led _ (.head _)
  refine hG ?_
  clear hG G
  have := hv _ hm
  cases hq : nsFind es x with
  | none => rw [hq] at this; exact this.elim
  | some v' => rw [hq] at this; exact ⟨nsFind es, v', ⟨o, es, ep, ho, hd, hk, fun _ => rfl⟩, hq, this⟩

theorem evOk.name {x : Str} {pos} {v : V} {Q : V → Led → Prop} (hm : (x, some v) ∈ σ) (h : Q v μ) (hk : env.scope.kind = .function) (hl : env.kindOf x = some .local) (hd : (x == ("__debug__" : Str)) = false) :
    evOk P d env σ μ (.Name x pos) Q := fun A s β _ hI => by
  refine away fun G hG => ?_
  obtain ⟨m, v', hn, hv, r⟩ := loc_look hI hm
  refine hG ?_
  clear hG G
  exact wpAny_Name (wpAny_loadName_local hk hl hn hv ⟨.rfl, β, .rfl, _, _, hI, r, h⟩) hd

theorem cell_look {β : Fz} {h : Heap} {x : Addr × AObj} (I : Inv P β (x :: μ) h) {c : Addr} {v : V} (hm : (c, AObj.cell (some v)) ∈ μ) : ∃ v', h.IsCell c (some v') ∧ VRel β v v' := by
  refine away fun G hG => ?_
  obtain ⟨o, ho, w, e, r⟩ := I.led _ (.tail _ hm)
  refine hG ?_
  clear hG G
  cases w with
  | none => exact r.elim
  | some w => exact ⟨w, ⟨o, ho, e⟩, r⟩
theorem evOk.free {x : Str} {pos} {c : Addr} {v : V} {Q : V → Led → Prop} (hc : env.cells.lookup x = some c) (hm : (c, AObj.cell (some v)) ∈ μ) (h : Q v μ) (hk : env.scope.kind = .function) (hl : env.kindOf x = some .free)
    (hd : (x == ("__debug__" : Str)) = false) (hn : (x == ("__classdict__" : Str)) = false) : evOk P d env σ μ (.Name x pos) Q := fun A s β _ hI => by
  refine away fun G hG => ?_
  obtain ⟨v', hv, r⟩ := cell_look hI hm
  refine hG ?_
  clear hG G
  exact wpAny_Name (wpAny_loadName_free hk hl hc hv ⟨.rfl, β, .rfl, _, _, hI, r, h⟩ hn) hd
theorem evOk.cell {x : Str} {pos} {c : Addr} {v : V} {Q : V → Led → Prop} (hc : env.cells.lookup x = some c) (hm : (c, AObj.cell (some v)) ∈ μ) (h : Q v μ) (hk : env.scope.kind = .function) (hl : env.kindOf x = some .cell)
    (hd : (x == ("__debug__" : Str)) = false) : evOk P d env σ μ (.Name x pos) Q := fun A s β _ hI => by
  refine away fun G hG => ?_
  obtain ⟨v', hv, r⟩ := cell_look hI hm
  refine hG ?_
  clear hG G
  exact wpAny_Name (wpAny_loadName_cell hk hl hc hv ⟨.rfl, β, .rfl, _, _, hI, r, h⟩) hd

theorem evOk.global {x : Str} {pos} {v : Value} {w : V} {Q : V → Led → Prop} (hv : P.mg x = some v) (hw : ∀ β, VRel β w v) (h : Q w μ) (hk : env.scope.kind = .function) (hl : env.kindOf x = some .globalImplicit)
    (hg : env.globals = mainGlobals) (hd : (x == ("__debug__" : Str)) = false) : evOk P d env σ μ (.Name x pos) Q := fun A s β _ hI =>
  Name_function_global hk hl (loadGlobal_global (by rw [hg]; exact P.g.keeps hI.keep) hv ⟨.rfl, β, .rfl, _, _, hI, hw β, h⟩) hd
theorem evOk.builtin {x : Str} {pos} {v : Value} {Q : V → Led → Prop} (hm : P.mg x = none) (hv : bootBuiltins x = some v) (hx : x ≠ "__name__") (h : Q (.raw v) μ) (hk : env.scope.kind = .function) (hl : env.kindOf x = some .globalImplicit)
    (hg : env.globals = mainGlobals) (hb : env.builtins = builtinsNs) (hd : (x == ("__debug__" : Str)) = false) : evOk P d env σ μ (.Name x pos) Q := fun A s β _ hI =>
  Name_function_global hk hl (loadGlobal_builtin (by rw [hg]; exact P.g.keeps hI.keep) hm (by rw [hb]; exact P.b.keeps hI.keep) ((P.builtins x hx).trans hv) ⟨.rfl, β, .rfl, _, _, hI, .raw _, h⟩) hd

/-! operators -/
theorem evOk.binop {l r : Expr} {op pos} {Q : V → Led → Prop} (h : evOk P d env σ μ l fun a μ1 => evOk P d env σ μ1 r fun b μ2 => binOk P d μ2 op a b Q) : evOk P d env σ μ (.BinOp l op r pos) Q := fun A s β hR hI => by
  rw [arm_eval_BinOp]
  refine wpL.bind ((h A s β hR hI).mono fun a' β1 h1 le1 hX1 s1 e1 => ?_)
  refine away fun G hG => ?_
  obtain ⟨a, μ1, I1, ra, q1⟩ := hX1
  refine hG ?_
  clear hG G
  refine wpL.bind (wpL.holding ((q1 A s1 β1 hR (e1 ▸ I1)).mono fun b' β2 h2 le2 hX2 s2 e2 => ?_))
  refine away fun G hG => ?_
  obtain ⟨b, μ2, I2, rb, q2⟩ := hX2
  refine hG ?_
  clear hG G
  exact wpL.standAt_bind (wpL.operate (q2.loc hR (e2 ▸ I2) ⟨a', b', ra.mono le2, rb, rfl⟩))
theorem evOk.unop {x : Expr} {op pos} {Q : V → Led → Prop} (h : evOk P d env σ μ x fun a μ1 => unOk P d μ1 op a Q) : evOk P d env σ μ (.UnaryOp op x pos) Q := fun A s β hR hI => by
  rw [arm_eval_UnaryOp]
  refine wpL.bind ((h A s β hR hI).mono fun a' β1 h1 le1 hX3 s1 e1 => ?_)
  refine away fun G hG => ?_
  obtain ⟨a, μ1, I1, ra, q1⟩ := hX3
  refine hG ?_
  clear hG G
  exact wpL.standAt_bind (wpL.holding (q1.loc hR (e1 ▸ I1) ⟨a', ra, rfl⟩))
theorem evOk.cmp {l r : Expr} {op pos} {Q : V → Led → Prop} (h : evOk P d env σ μ l fun a μ1 => evOk P d env σ μ1 r fun b μ2 => cmpOk P d μ2 op a b Q) (hs : behindInMarks op r = false) : evOk P d env σ μ (.Compare l [op] [r] pos) Q := fun A s β hR hI => by
  rw [arm_eval_Compare]
  refine wpL.bind ((h A s β hR hI).mono fun a' β1 h1 le1 hX4 s1 e1 => ?_)
  refine away fun G hG => ?_
  obtain ⟨a, μ1, I1, ra, q1⟩ := hX4
  refine hG ?_
  clear hG G
  show wpL P A β1 (compareChain pos a' [op] [markedBehindIn op r (eval r env)]) _ s1
  rw [markedBehindIn_of_false hs]
  refine wpL.bind (wpL.holding ((q1 A s1 β1 hR (e1 ▸ I1)).mono fun b' β2 h2 le2 hX5 s2 e2 => ?_))
  refine away fun G hG => ?_
  obtain ⟨b, μ2, I2, rb, q2⟩ := hX5
  refine hG ?_
  clear hG G
  exact wpL.standAt_bind (wpL.operate (q2.loc hR (e2 ▸ I2) ⟨a', b', ra.mono le2, rb, rfl⟩))
theorem evOk.ifexp {t b o : Expr} {pos} {Q : V → Led → Prop} (h : isOk P d env σ μ t fun c μ1 => if c then evOk P d env σ μ1 b Q else evOk P d env σ μ1 o Q) : evOk P d env σ μ (.IfExp t b o pos) Q := fun A s β hR hI => by
  rw [arm_eval_IfExp]
  refine wpL.bind ((h A s β hR hI).mono fun c β1 h1 le1 hX6 s1 e1 => ?_)
  refine away fun G hG => ?_
  obtain ⟨μ1, I1, q1⟩ := hX6
  refine hG ?_
  clear hG G
  cases c
  · exact q1 A s1 β1 hR (e1 ▸ I1)
  · exact q1 A s1 β1 hR (e1 ▸ I1)

/-! tests -/
theorem isOk.cmp {l r : Expr} {op pos} {Q : Bool → Led → Prop} (h : evOk P d env σ μ l fun a μ1 => evOk P d env σ μ1 r fun b μ2 => cmpOk P d μ2 op a b fun v μ3 => truOk P d μ3 v Q) (hs : behindInMarks op r = false) : isOk P d env σ μ (.Compare l [op] [r] pos) Q := fun A s β hR hI => by
  rw [arm_isTrue_Compare]
  refine wpL.bind ((h A s β hR hI).mono fun a' β1 h1 le1 hX7 s1 e1 => ?_)
  refine away fun G hG => ?_
  obtain ⟨a, μ1, I1, ra, q1⟩ := hX7
  refine hG ?_
  clear hG G
  show wpL P A β1 (testChain pos a' [op] [markedBehindIn op r (eval r env)]) _ s1
  rw [markedBehindIn_of_false hs]
  refine wpL.bind (wpL.holding ((q1 A s1 β1 hR (e1 ▸ I1)).mono fun b' β2 h2 le2 hX8 s2 e2 => ?_))
  refine away fun G hG => ?_
  obtain ⟨b, μ2, I2, rb, q2⟩ := hX8
  refine hG ?_
  clear hG G
  refine wpL.standAt_bind (wpL.bind (wpL.operate ((q2.loc hR (e2 ▸ I2) ⟨a', b', ra.mono le2, rb, rfl⟩).mono fun c' β3 h3 le3 hX9 s3 e3 => ?_)))
  refine away fun G hG => ?_
  obtain ⟨c, μ3, I3, rc, q3⟩ := hX9
  refine hG ?_
  clear hG G
  refine wpL.holding ((q3.loc hR (e3 ▸ I3) ⟨c', rc, rfl⟩).mono fun t β4 h4 le4 hX10 => ?_)
  refine away fun G hG => ?_
  obtain ⟨b, μ4, I4, rt, q4⟩ := hX10
  refine hG ?_
  clear hG G
  cases rt
  exact ⟨μ4, I4, q4⟩
theorem isOk.not {x : Expr} {pos} {Q : Bool → Led → Prop} (h : isOk P d env σ μ x fun b μ1 => Q (!b) μ1) : isOk P d env σ μ (.UnaryOp .Not x pos) Q := fun A s β hR hI => by
  rw [arm_isTrue_UnaryOp]
  exact wpL.bind ((h A s β hR hI).mono fun c β1 h1 le1 ⟨μ1, I1, q1⟩ s1 e1 => wpL.pure ⟨μ1, e1 ▸ I1, q1⟩)
theorem isOk.val {e : Expr} {Q : Bool → Led → Prop} (h : evOk P d env σ μ e fun v μ1 => truOk P d μ1 v Q) (he : isTrue e env (eval e env) = (do let v ← eval e env; standAt e.pos; holding [v] (truthy v))) : isOk P d env σ μ e Q := fun A s β hR hI => by
  rw [he]
  refine wpL.bind ((h A s β hR hI).mono fun a' β1 h1 le1 hX11 s1 e1 => ?_)
  refine away fun G hG => ?_
  obtain ⟨a, μ1, I1, ra, q1⟩ := hX11
  refine hG ?_
  clear hG G
  refine wpL.standAt_bind (wpL.holding ((q1.loc hR (e1 ▸ I1) ⟨a', ra, rfl⟩).mono fun t β4 h4 le4 hX12 => ?_))
  refine away fun G hG => ?_
  obtain ⟨b, μ4, I4, rt, q4⟩ := hX12
  refine hG ?_
  clear hG G
  cases rt
  exact ⟨μ4, I4, q4⟩
noncomputable def allOk (P : Par) (d : Nat) (env : Env) (σ : Loc) (μ : Led) (op : BoolOp) (es : List Expr) (Q : Bool → Led → Prop) : Prop :=
  ∀ A s β, Room A d → Inv P β ((env.locals, .ns σ) :: μ) s.heap → wpL P A β (allTrue op es env) (IsP P env.locals σ Q) s
theorem isOk.boolop {op es pos} {Q : Bool → Led → Prop} (h : allOk P d env σ μ op es Q) : isOk P d env σ μ (.BoolOp op es pos) Q := fun A s β hR hI => by
  rw [arm_isTrue_BoolOp]; exact h A s β hR hI
theorem allOk.andNil {Q : Bool → Led → Prop} (h : Q true μ) : allOk P d env σ μ .And [] Q := fun A s β hR hI => wpL.pure ⟨μ, hI, h⟩
theorem allOk.andCons {x rest} {Q : Bool → Led → Prop} (h : isOk P d env σ μ x fun b μ1 => if b then allOk P d env σ μ1 .And rest Q else Q false μ1) : allOk P d env σ μ .And (x :: rest) Q := fun A s β hR hI => by
  show wpL P A β (do match BoolOp.And, ← isTrue x env (eval x env) with | .And, false => pure false | .Or, true => pure true | _, _ => allTrue .And rest env) _ s
  refine wpL.bind ((h A s β hR hI).mono fun c β1 h1 le1 hX13 s1 e1 => ?_)
  refine away fun G hG => ?_
  obtain ⟨μ1, I1, q1⟩ := hX13
  refine hG ?_
  clear hG G
  cases c
  · exact wpL.pure ⟨μ1, e1 ▸ I1, q1⟩
  · exact q1 A s1 β1 hR (e1 ▸ I1)
theorem allOk.orNil {Q : Bool → Led → Prop} (h : Q false μ) : allOk P d env σ μ .Or [] Q := fun A s β hR hI => wpL.pure ⟨μ, hI, h⟩
theorem allOk.orCons {x rest} {Q : Bool → Led → Prop} (h : isOk P d env σ μ x fun b μ1 => if b then Q true μ1 else allOk P d env σ μ1 .Or rest Q) : allOk P d env σ μ .Or (x :: rest) Q := fun A s β hR hI => by
  show wpL P A β (do match BoolOp.Or, ← isTrue x env (eval x env) with | .And, false => pure false | .Or, true => pure true | _, _ => allTrue .Or rest env) _ s
  refine wpL.bind ((h A s β hR hI).mono fun c β1 h1 le1 hX14 s1 e1 => ?_)
  refine away fun G hG => ?_
  obtain ⟨μ1, I1, q1⟩ := hX14
  refine hG ?_
  clear hG G
  cases c
  · exact q1 A s1 β1 hR (e1 ▸ I1)
  · exact wpL.pure ⟨μ1, e1 ▸ I1, q1⟩

/-! value of and -/
theorem evOk.and2 {x y : Expr} {pos} {Q : V → Led → Prop} (h : evOk P d env σ μ x fun v μ1 => truOk P d μ1 v fun b μ2 => if b then evOk P d env σ μ2 y Q else Q v μ2) : evOk P d env σ μ (.BoolOp .And [x, y] pos) Q := fun A s β hR hI => by
  rw [arm_eval_BoolOp]
  show wpL P A β (do
    let v ← eval x env
    standAt pos
    let t ← holding [v] (truthy v)
    match BoolOp.And, t with
    | .And, false | .Or, true => pure v
    | _, _ => boolOp pos .And [eval y env]) _ s
  refine wpL.bind ((h A s β hR hI).mono fun a' β1 h1 le1 hX15 s1 e1 => ?_)
  refine away fun G hG => ?_
  obtain ⟨a, μ1, I1, ra, q1⟩ := hX15
  refine hG ?_
  clear hG G
  refine wpL.standAt_bind (wpL.bind (wpL.holding ((q1.loc hR (e1 ▸ I1) ⟨a', ra, rfl⟩).mono fun t β4 h4 le4 hX16 s4 e4 => ?_)))
  refine away fun G hG => ?_
  obtain ⟨b, μ4, I4, rt, q4⟩ := hX16
  refine hG ?_
  clear hG G
  cases rt
  cases t
  · exact wpL.pure ⟨a, μ4, e4 ▸ I4, ra.mono le4, q4⟩
  · exact q4 A s4 β4 hR (e4 ▸ I4)

/-! several values -/
theorem evsOk.nil {Q : List V → Led → Prop} (h : Q [] μ) : evsOk P d env σ μ [] Q := fun A s β pos hR hI => wpL.pure ⟨[], μ, hI, .nil, h⟩
theorem evsOk.cons {e rest} {Q : List V → Led → Prop} (h : evOk P d env σ μ e fun v μ1 => evsOk P d env σ μ1 rest fun vs μ2 => Q (v :: vs) μ2) (he : starEach (e :: rest) env = (false, eval e env) :: starEach rest env) : evsOk P d env σ μ (e :: rest) Q := by
  intro A s β pos hR hI
  rw [he]
  show wpL P A β (do
    let v ← eval e env
    let here ← (pure [v] : Sem (List Value))
    return here ++ (← holding here (spliced (backTo pos (starEach rest env))))) _ s
  refine wpL.bind ((h A s β hR hI).mono fun a' β1 h1 le1 hX17 s1 e1 => ?_)
  refine away fun G hG => ?_
  obtain ⟨a, μ1, I1, ra, q1⟩ := hX17
  refine hG ?_
  clear hG G
  refine wpL.pure_bind (wpL.bind (wpL.holding ((q1 A s1 β1 pos hR (e1 ▸ I1)).mono fun vs' β2 h2 le2 hX18 s2 e2 => ?_)))
  refine away fun G hG => ?_
  obtain ⟨vs, μ2, I2, rs, q2⟩ := hX18
  refine hG ?_
  clear hG G
  exact wpL.pure ⟨a :: vs, μ2, e2 ▸ I2, .cons (ra.mono le2) rs, q2⟩
theorem kwsOk.nil {Q : List (Str × V) → Led → Prop} (h : Q [] μ) : kwsOk P d env σ μ [] Q := fun A s β pos hR hI => wpL.pure ⟨[], μ, hI, .nil, rfl, h⟩
theorem kwsOk.cons {n e p rest} {Q : List (Str × V) → Led → Prop} (h : evOk P d env σ μ e fun v μ1 => kwsOk P d env σ μ1 rest fun kw μ2 => Q ((n, v) :: kw) μ2) : kwsOk P d env σ μ (⟨some n, e, p⟩ :: rest) Q := by
  intro A s β pos hR hI
  show wpL P A β (do
    let v ← (do let v ← eval e env; standAt pos; pure v)
    return v :: (← holding [v] (evalAll ((backToKw pos (keywordEach rest env)).map (·.2))))) _ s
  refine wpL.bind (wpL.bind ((h A s β hR hI).mono fun a' β1 h1 le1 hX19 s1 e1 => ?_))
  refine away fun G hG => ?_
  obtain ⟨a, μ1, I1, ra, q1⟩ := hX19
  refine hG ?_
  clear hG G
  refine wpL.standAt_bind (wpL.pure fun s1' e1' => ?_)
  refine wpL.bind (wpL.holding ((q1 A s1' β1 pos hR (by rw [e1', e1]; exact I1)).mono fun vs' β2 h2 le2 hX20 s2 e2 => ?_))
  refine away fun G hG => ?_
  obtain ⟨kw, μ2, I2, rs, en, q2⟩ := hX20
  refine hG ?_
  clear hG G
  exact wpL.pure ⟨(n, a) :: kw, μ2, e2 ▸ I2, .cons (ra.mono le2) rs, by show n :: kw.map (·.1) = n :: _; rw [en]; rfl, q2⟩
end
end Mine

namespace Mine
open PySem PySem.W PySem.Calls PyProof.Rows

/-! the ledger under heap changes -/
inductive UpdL (a : Addr) (x' : AObj) : AObj → Led → Led → Prop
  | head {x r} : UpdL a x' x ((a, x) :: r) ((a, x') :: r)
  | tail {x p r r'} : UpdL a x' x r r' → UpdL a x' x (p :: r) (p :: r')
theorem UpdL.mem {a x' x} : ∀ {μ μ'}, UpdL a x' x μ μ' → (a, x) ∈ μ
  | _, _, .head => .head _
  | _, _, .tail u => .tail _ u.mem
theorem UpdL.keys {a x' x} : ∀ {μ μ'}, UpdL a x' x μ μ' → μ'.map (·.1) = μ.map (·.1)
  | _, _, .head => rfl
  | _, _, .tail u => by simp [u.keys]
theorem UpdL.spec {a x' x} : ∀ {μ μ'}, UpdL a x' x μ μ' → (μ.map (·.1)).Nodup → ∀ p ∈ μ', p = (a, x') ∨ (p ∈ μ ∧ p.1 ≠ a)
  | _, _, .head, nd, p, hp => by
    simp only [List.map_cons, List.nodup_cons] at nd
    rcases List.mem_cons.mp hp with rfl | hp
    · exact .inl rfl
    · exact .inr ⟨.tail _ hp, fun e => nd.1 (e ▸ List.mem_map_of_mem hp)⟩
  | _, _, .tail (p := q) u, nd, p, hp => by
    simp only [List.map_cons, List.nodup_cons] at nd
    rcases List.mem_cons.mp hp with rfl | hp
    · exact .inr ⟨.head _, fun e => nd.1 (e ▸ List.mem_map_of_mem u.mem)⟩
    · rcases u.spec nd.2 p hp with h | h
      · exact .inl h
      · exact .inr ⟨.tail _ h.1, h.2⟩
theorem UpdL.app {a x' x} : ∀ {μ μ'} (ν : Led), UpdL a x' x μ μ' → UpdL a x' x (μ ++ ν) (μ' ++ ν)
  | _, _, _, .head => .head
  | _, _, ν, .tail u => .tail (u.app ν)

section
variable {P : Par} {β : Fz} {μ : Led} {h h' : Heap}

theorem Inv.upd (I : Inv P β μ h) {a x x' μ'} (u : UpdL a x' x μ μ') (hs : Heap.ExtBut a h h') (ho : ∃ o, h'.get? a = some o ∧ ORel β x' o) : Inv P β μ' h' where
  base := I.base
  froz := fun b o e => hs b o (fun q => by rw [q, I.sep _ u.mem] at e; cases e) (I.froz b o e)
  led := fun p hp => by
    rcases u.spec I.nd p hp with rfl | ⟨hp, hne⟩
    · exact ho
    · refine away fun G hG => ?_
      obtain ⟨o, e, r⟩ := I.led p hp
      refine hG ?_
      clear hG G
      exact ⟨o, hs _ _ hne e, r⟩
  sep := fun p hp => by
    rcases u.spec I.nd p hp with rfl | ⟨hp, hne⟩
    · have := I.sep _ u.mem; exact this
    · exact I.sep p hp
  nd := by rw [u.keys]; exact I.nd
  tab := fun q hq => by
    refine away fun G hG => ?_
    obtain ⟨⟨ps, e1, e2⟩, e3, e4⟩ := I.tab q hq
    refine hG ?_
    clear hG G
    rw [u.keys]
    exact ⟨⟨ps, hs _ _ (fun q' => e4 (q' ▸ List.mem_map_of_mem u.mem)) e1, e2⟩, e3, e4⟩
theorem Inv.ext (I : Inv P β μ h) (hs : ∀ b o, h.get? b = some o → h'.get? b = some o) : Inv P β μ h' where
  base := I.base
  froz := fun b o e => hs b o (I.froz b o e)
  led := fun p hp => let ⟨o, e, r⟩ := I.led p hp; ⟨o, hs _ _ e, r⟩
  sep := I.sep
  nd := I.nd
  tab := fun q hq => let ⟨⟨ps, e1, e2⟩, r⟩ := I.tab q hq; ⟨⟨ps, hs _ _ e1, e2⟩, r⟩
theorem Inv.size_none (I : Inv P β μ h) {a : Addr} (ha : h.get? a = none) : β a = none ∧ a ∉ μ.map (·.1) ∧ ∀ q ∈ P.tabs, q.2 ≠ a := by
  refine ⟨?_, fun m => ?_, fun q hq e => ?_⟩
  · cases e : β a with
    | none => rfl
    | some o => rw [I.froz a o e] at ha; cases ha
  · refine away fun G hG => ?_
    obtain ⟨p, hp, eY1⟩ := List.mem_map.mp m
    refine hG ?_
    clear hG G
    subst eY1
    refine away fun G hG => ?_
    obtain ⟨o, e, _⟩ := I.led p hp
    refine hG ?_
    clear hG G
    rw [ha] at e; cases e
  · refine away fun G hG => ?_
    obtain ⟨⟨ps, e1, _⟩, _⟩ := I.tab q hq
    refine hG ?_
    clear hG G
    rw [e, ha] at e1; cases e1
theorem Inv.new (I : Inv P β μ h) (hs : ∀ b o, h.get? b = some o → h'.get? b = some o) {a : Addr} {x : AObj} (ha : h.get? a = none) (ho : ∃ o, h'.get? a = some o ∧ ORel β x o) : Inv P β ((a, x) :: μ) h' := by
  have I' := I.ext hs
  refine away fun G hG => ?_
  obtain ⟨n1, n2, n3⟩ := I.size_none ha
  refine hG ?_
  clear hG G
  exact ⟨I'.base, I'.froz, fun p hp => by
      rcases List.mem_cons.mp hp with rfl | hp
      · exact ho
      · exact I'.led p hp,
    fun p hp => by
      rcases List.mem_cons.mp hp with rfl | hp
      · exact n1
      · exact I'.sep p hp,
    List.nodup_cons.mpr ⟨n2, I'.nd⟩, fun q hq => ⟨(I'.tab q hq).1, (I'.tab q hq).2.1, fun m => by
      rcases List.mem_cons.mp m with e | m
      · exact n3 q hq e
      · exact (I'.tab q hq).2.2 m⟩⟩
noncomputable def Fz.put (β : Fz) (a : Addr) (o : Obj) : Fz := fun b => if b = a then some o else β b
theorem Fz.put_le {a : Addr} {o : Obj} (h : β a = none) : β.le (β.put a o) := fun b o' e => by
  unfold Fz.put
  split
  · rename_i q; rw [q, h] at e; cases e
  · exact e
theorem Fz.put_self {a : Addr} {o : Obj} : β.put a o a = some o := by unfold Fz.put; rw [if_pos rfl]
theorem Inv.froze (I : Inv P β μ h) (hs : ∀ b o, h.get? b = some o → h'.get? b = some o) {a : Addr} {o : Obj} (ha : h.get? a = none) (ho : h'.get? a = some o) : Inv P (β.put a o) μ h' ∧ β.le (β.put a o) := by
  have I' := I.ext hs
  refine away fun G hG => ?_
  obtain ⟨n1, n2, n3⟩ := I.size_none ha
  refine hG ?_
  clear hG G
  have le := Fz.put_le (o := o) n1
  refine ⟨⟨fun b o' e => le _ _ (I'.base b o' e), fun b o' e => ?_, fun p hp => ?_, fun p hp => ?_, I'.nd, fun q hq => ?_⟩, le⟩
  · unfold Fz.put at e
    split at e
    · rename_i q; cases e; rw [q]; exact ho
    · exact I'.froz b o' e
  · refine away fun G hG => ?_
    obtain ⟨o', e, r⟩ := I'.led p hp
    refine hG ?_
    clear hG G
    exact ⟨o', e, r.mono le⟩
  · unfold Fz.put
    rw [if_neg (fun (q : p.1 = a) => n2 (q ▸ List.mem_map_of_mem hp))]
    exact I'.sep p hp
  · refine away fun G hG => ?_
    obtain ⟨⟨ps, e1, e2⟩, e3, e4⟩ := I'.tab q hq
    refine hG ?_
    clear hG G
    exact ⟨⟨ps, e1, e2.mono le⟩, by unfold Fz.put; rw [if_neg (n3 q hq)]; exact e3, e4⟩
theorem get_size_none {h : Heap} : h.get? h.objs.size = none := Heap.get?_none_of_le (Nat.le_refl _)
theorem push_keeps {h : Heap} (o : Obj) : ∀ b o', h.get? b = some o' → (h.push o).get? b = some o' := fun _ _ e => Heap.get?_push_of_some _ e

/-! locals -/
inductive StoreL (n : Str) (v : V) : Loc → Loc → Prop
  | head {o r} : StoreL n v ((n, o) :: r) ((n, some v) :: r)
  | tail {p r r'} : StoreL n v r r' → StoreL n v (p :: r) (p :: r')
theorem StoreL.mem {n v} : ∀ {σ σ'}, StoreL n v σ σ' → n ∈ σ.map (·.1)
  | _, _, .head => .head _
  | _, _, .tail u => .tail _ u.mem
theorem StoreL.keys {n v} : ∀ {σ σ'}, StoreL n v σ σ' → σ'.map (·.1) = σ.map (·.1)
  | _, _, .head => rfl
  | _, _, .tail u => by simp [u.keys]
theorem StoreL.spec {n v} : ∀ {σ σ'}, StoreL n v σ σ' → (σ.map (·.1)).Nodup → ∀ p ∈ σ', p = (n, some v) ∨ (p ∈ σ ∧ p.1 ≠ n)
  | _, _, .head, nd, p, hp => by
    simp only [List.map_cons, List.nodup_cons] at nd
    rcases List.mem_cons.mp hp with rfl | hp
    · exact .inl rfl
    · exact .inr ⟨.tail _ hp, fun e => nd.1 (e ▸ List.mem_map_of_mem hp)⟩
  | _, _, .tail (p := q) u, nd, p, hp => by
    simp only [List.map_cons, List.nodup_cons] at nd
    rcases List.mem_cons.mp hp with rfl | hp
    · exact .inr ⟨.head _, fun e => nd.1 (e ▸ u.mem)⟩
    · rcases u.spec nd.2 p hp with h | h
      · exact .inl h
      · exact .inr ⟨.tail _ h.1, h.2⟩
end

section
variable {P : Par} {d : Nat} {env : Env} {σ : Loc} {μ : Led} {A : Around} {β : Fz} {s : Shared}

theorem st_local {n : Str} {v : V} {x : Value} {σ'} (hS : StoreL n v σ σ') (hl : env.kindOf n = some .local) (hk : env.scope.kind = .function) (hI : Inv P β ((env.locals, .ns σ) :: μ) s.heap) (r : VRel β v x) :
    wpL P A β (storeName env n x) (fun _ β' h' => Inv P β' ((env.locals, .ns σ') :: μ) h') s := by
  refine away fun G hG => ?_
  obtain ⟨o, ho, es, ep, hd, hks, hnd, hv⟩ := hI.led _ (.head _)
  refine hG ?_
  clear hG G
  refine wpAny_storeName_local hl ⟨o, es, ep, ho, hd, hks, fun _ => rfl⟩ (fun h' hn hs => ⟨.mk', β, .rfl, ?_⟩) (by rw [hk]; rfl)
  refine away fun G hG => ?_
  obtain ⟨o', es', ep', ho', hd', hk', hf'⟩ := hn
  refine hG ?_
  clear hG G
  refine hI.upd (.head) hs.extBut ⟨o', ho', es', ep', hd', hk', by rw [hS.keys]; exact hnd, fun p hp => ?_⟩
  rw [hf']
  show OptRel β p.2 (if p.1 = n then some x else nsFind es p.1)
  rcases hS.spec hnd p hp with rfl | ⟨hp, hne⟩
  · simp only [if_true]; exact r
  · rw [if_neg hne]; exact hv p hp

theorem st_cell {n : Str} {v : V} {x : Value} {c : Addr} {o : Option V} {μ'} (hl : env.kindOf n = some .cell) (hk : env.scope.kind = .function) (hc : env.cells.lookup n = some c) (hU : UpdL c (.cell (some v)) (.cell o) μ μ')
    (hI : Inv P β ((env.locals, .ns σ) :: μ) s.heap) (r : VRel β v x) : wpL P A β (storeName env n x) (fun _ β' h' => Inv P β' ((env.locals, .ns σ) :: μ') h') s := by
  refine away fun G hG => ?_
  obtain ⟨ob, ho, w, e, _⟩ := hI.led _ (.tail _ hU.mem)
  refine hG ?_
  clear hG G
  unfold storeName
  rw [hl, hk]
  refine wpAny_bind (wpAny_cellOf hc ?_)
  unfold cellSet
  refine wpAny_bind (wpAny_load ho ?_)
  rw [e]
  refine wpAny_update ho ⟨.mk', β, .rfl, hI.upd (.tail hU) (Heap.SameBut.update ..).extBut ⟨_, Heap.get?_update_self _ ho rfl, some x, rfl, r⟩⟩

/-! statements -/
theorem exsOk.nil {Q : Fl → Loc → Led → Prop} (h : Q .next σ μ) : exsOk P d env σ μ [] Q := fun A s β hR hI => wpL.pure ⟨.next, σ, μ, hI, .next, h⟩
theorem exsOk.cons {st rest} {Q : Fl → Loc → Led → Prop} (h : exOk P d env σ μ st fun f σ1 μ1 => match f with | .next => exsOk P d env σ1 μ1 rest Q | f => Q f σ1 μ1) : exsOk P d env σ μ (st :: rest) Q := fun A s β hR hI => by
  rw [arm_execs_cons]
  refine wpL.bind ((h A s β hR hI).mono fun f' β1 h1 le1 hX0 s1 e1 => ?_)
  refine away fun G hG => ?_
  obtain ⟨f, σ1, μ1, I1, rf, q1⟩ := hX0
  refine hG ?_
  clear hG G
  cases rf with
  | next => exact q1 A s1 β1 hR (e1 ▸ I1)
  | brk => exact wpL.pure ⟨.brk, σ1, μ1, e1 ▸ I1, .brk, q1⟩
  | cont => exact wpL.pure ⟨.cont, σ1, μ1, e1 ▸ I1, .cont, q1⟩
  | ret r => exact wpL.pure ⟨.ret _, σ1, μ1, e1 ▸ I1, .ret r, q1⟩
theorem exsOk.mono {sts} {Q Q' : Fl → Loc → Led → Prop} (h : exsOk P d env σ μ sts Q) (hq : ∀ f σ μ, Q f σ μ → Q' f σ μ) : exsOk P d env σ μ sts Q' := fun A s β hR hI => (h A s β hR hI).mono fun f' β1 h1 le1 ⟨f, σ1, μ1, I1, rf, q1⟩ => ⟨f, σ1, μ1, I1, rf, hq _ _ _ q1⟩
theorem evOk.mono {e} {Q Q' : V → Led → Prop} (h : evOk P d env σ μ e Q) (hq : ∀ v μ, Q v μ → Q' v μ) : evOk P d env σ μ e Q' := fun A s β hR hI => (h A s β hR hI).mono fun f' β1 h1 le1 ⟨v, μ1, I1, rf, q1⟩ => ⟨v, μ1, I1, rf, hq _ _ q1⟩
theorem exOk.if_ {t b o pos} {Q : Fl → Loc → Led → Prop} (h : isOk P d env σ μ t fun c μ1 => if c then exsOk P d env σ μ1 b Q else exsOk P d env σ μ1 o Q) : exOk P d env σ μ (.If t b o pos) Q := fun A s β hR hI => by
  rw [arm_exec_If]
  refine wpL.standAt_bind (wpL.bind ((h A s β hR hI).mono fun c β1 h1 le1 hX1 s1 e1 => ?_))
  refine away fun G hG => ?_
  obtain ⟨μ1, I1, q1⟩ := hX1
  refine hG ?_
  clear hG G
  cases c
  · exact q1 A s1 β1 hR (e1 ▸ I1)
  · exact q1 A s1 β1 hR (e1 ▸ I1)
theorem exOk.ret {e pos} {Q : Fl → Loc → Led → Prop} (h : evOk P d env σ μ e fun v μ1 => Q (.ret v) σ μ1) : exOk P d env σ μ (.Return (some e) pos) Q := fun A s β hR hI => by
  rw [arm_exec_Return]
  refine wpL.standAt_bind ?_
  show wpL P A β (do return Flow.ret (← eval e env)) _ s
  exact wpL.bind ((h A s β hR hI).mono fun a' β1 h1 le1 ⟨a, μ1, I1, ra, q1⟩ s1 e1 => wpL.pure ⟨.ret a, σ, μ1, e1 ▸ I1, .ret ra, q1⟩)
theorem exOk.pass {pos} {Q : Fl → Loc → Led → Prop} (h : Q .next σ μ) : exOk P d env σ μ (.Pass pos) Q := fun A s β hR hI => wpL.standAt_bind (wpL.pure ⟨.next, σ, μ, hI, .next, h⟩)
theorem exOk.cont_ {pos} {Q : Fl → Loc → Led → Prop} (h : Q .cont σ μ) : exOk P d env σ μ (.Continue pos) Q := fun A s β hR hI => wpL.standAt_bind (wpL.pure ⟨.cont, σ, μ, hI, .cont, h⟩)

theorem asOk.name {n pos v σ'} {Q : Loc → Led → Prop} (hS : StoreL n v σ σ') (h : Q σ' μ) (hk : env.scope.kind = .function) (hl : env.kindOf n = some .local) : asOk P d env σ μ (.Name n pos) v Q := fun A s β x hR hI r => by
  rw [arm_assign_Name]
  refine wpL.standAt_bind ?_
  refine (show wpL P A β (bindName env n x) _ s from wpAny_bindName (st_local hS hl hk hI r) : wpL P A β (bindName env n x) (fun _ β' h' => Inv P β' ((env.locals, .ns σ') :: μ) h') s).mono fun _ β1 h1 _ I => ⟨σ', μ, I, h⟩
theorem asOk.cellname {n pos v c o μ'} {Q : Loc → Led → Prop} (hc : env.cells.lookup n = some c) (hU : UpdL c (.cell (some v)) (.cell o) μ μ') (h : Q σ μ') (hk : env.scope.kind = .function) (hl : env.kindOf n = some .cell) : asOk P d env σ μ (.Name n pos) v Q := fun A s β x hR hI r => by
  rw [arm_assign_Name]
  refine wpL.standAt_bind ?_
  refine (show wpL P A β (bindName env n x) _ s from wpAny_bindName (st_cell hl hk hc hU hI r) : wpL P A β (bindName env n x) (fun _ β' h' => Inv P β' ((env.locals, .ns σ) :: μ') h') s).mono fun _ β1 h1 _ I => ⟨σ, μ', I, h⟩

theorem exOk.asg {t value pos} {Q : Fl → Loc → Led → Prop} (h : evOk P d env σ μ value fun v μ1 => asOk P d env σ μ1 t v fun σ2 μ2 => Q .next σ2 μ2)
    (hs : swapsWith value (some t) pos.line env = pure false) (hw : swappedStores [t] value env = pure none) (he : assignEach [t] env = [(false, assign t env)]) : exOk P d env σ μ (.Assign [t] value pos) Q := fun A s β hR hI => by
  rw [arm_exec_Assign]
  refine wpL.standAt_bind ?_
  show wpL P A β (do
    if ← swapsWith value (some t) pos.line env then do
      evalThenUse value env fun v => assignAll v ((assignEach [t] env).map (·.2))
      pure .next
    else do
      let v ← eval value env
      assignStores env v (← swappedStores [t] value env) ((assignEach [t] env).map (·.2))) _ s
  rw [hs, hw, he]
  refine wpL.pure_bind ?_
  simp only [Bool.false_eq_true, if_false]
  refine wpL.bind ((h A s β hR hI).mono fun a' β1 h1 le1 hX2 s1 e1 => ?_)
  refine away fun G hG => ?_
  obtain ⟨a, μ1, I1, ra, q1⟩ := hX2
  refine hG ?_
  clear hG G
  refine wpL.pure_bind ?_
  show wpL P A β1 (do PySem.assign t env a'; pure Flow.next) _ s1
  exact wpL.bind ((q1 A s1 β1 a' hR (e1 ▸ I1) ra).mono fun _ β2 h2 le2 ⟨σ2, μ2, I2, q2⟩ s2 e2 => wpL.pure ⟨.next, σ2, μ2, e2 ▸ I2, .next, q2⟩)
end
end Mine

namespace Mine
open PySem PySem.W PySem.Calls PyProof.Rows

section
variable {P : Par} {d : Nat} {env : Env} {σ : Loc} {μ : Led} {A : Around} {β : Fz} {s : Shared}

theorem Keep.builtin {id : String} : Keep P μ (.raw (.builtin id)) := fun M β ν h f' _ r => by cases r; exact ⟨.machine, .inr (.inl rfl), .now⟩
theorem Keep.type {n : String} : Keep P μ (.raw (.type n)) := fun M β ν h f' _ r => by cases r; exact ⟨.machine, .inr (.inl rfl), .now⟩
theorem Keep.inK {f : Value} (hk : keepIn P.K f = true) : Keep P μ (.raw f) := fun M β ν h f' I r => by cases r; exact keeps_K hk h I.inK
theorem Keep.fn {a : Addr} {fd dd} (hm : (a, AObj.fn fd dd) ∈ μ) : Keep P μ (.raw (.ref a)) := fun M β ν h f' I r => by
  cases r
  refine away fun G hG => ?_
  obtain ⟨o, e, eY1, _⟩ := I.led _ (List.mem_append_left _ hm)
  refine hG ?_
  clear hG G
  subst eY1
  exact ⟨.frame, .inl rfl, (Looks.ld (part := none) e).andThen .now⟩

theorem evalArgs_any {f : Value} {args : List (Bool × Sem Value)} {kws : List (Option Str × Sem Value)} {M : Model} {E : Value → Shared → Prop} {Q : Args → Shared → Prop} (hns : args.any (·.1) = false) (hall : kws.all (·.1.isSome) = true)
    (h : wpAny M A (spliced args) (fun vs s1 => wpAny M A (evalAll (kws.map (·.2))) (fun ks s2 => Q ⟨vs, (kws.filterMap (·.1)).zip ks⟩ s2) E s1) E s) : wpAny M A (evalArgs f true args kws) Q E s := by
  match args, hns, h with
  | [], _, h => exact evalArgs_kw_nil hall fun Γ p hΓ => (h Γ p hΓ) Γ p hΓ
  | (false, x) :: rest, _, h => exact evalArgs_kw hall h
  | (true, x) :: rest, hns, _ => simp at hns

theorem KwRel.zip {β : Fz} : ∀ {kw : List (Str × V)} {xs : List Value}, VsRel β (kw.map (·.2)) xs → KwRel β kw ((kw.map (·.1)).zip xs)
  | [], _, .nil => ⟨rfl, .nil⟩
  | (n, v) :: kw, _, .cons a b => by
    refine away fun G hG => ?_
    obtain ⟨p, q⟩ := KwRel.zip b
    refine hG ?_
    clear hG G
    exact ⟨congrArg (n :: ·) p, .cons a q⟩

theorem callW {pos : Pos} {f : V} {first : List V} {args : List Expr} {kws : List Keyword} {f' : Value} {first' : List Value} {Q : V → Led → Prop} (rf : VRel β f f') (rfi : VsRel β first first') (hR : Room A d) (hI : Inv P β ((env.locals, .ns σ) :: μ) s.heap)
    (ha : ∀ pos, (backTo pos (starEach args env)).any (·.1) = false) (hk : ∀ pos, (backToKw pos (keywordEach kws env)).all (·.1.isSome) = true)
    (h : evsOk P d env σ μ args fun vs μ2 => kwsOk P d env σ μ2 kws fun kw μ3 => Keep P μ3 f ∧ callOk P d μ3 f (first ++ vs) kw Q) :
    wpL P A β (callWith pos f' first' (backTo pos (starEach args env)) (backToKw pos (keywordEach kws env))) (EvP P VRel env.locals σ Q) s := by
  unfold wpL
  refine callWith_of (P := fun h => ∃ k, (k = Keeper.frame ∨ k = Keeper.machine ∨ k = Keeper.boundFrame) ∧ Looks (model P.prog P.w) h (keeperOf f') k) ?_ (fun _ x => x) ?_
  · rw [ha pos, Bool.false_or, List.any_eq_false]
    intro x hx
    have := List.all_eq_true.mp (hk pos) x hx
    cases hq : x.1 <;> simp_all
  refine evalArgs_any (ha pos) (hk pos) ?_
  refine wpAny_mono (h A s β pos hR hI) (fun xs s1 hX0 => ?_) fun _ _ x => x
  refine away fun G hG => ?_
  obtain ⟨st1, β1, le1, vs, μ2, I2, rs, q2⟩ := hX0
  refine hG ?_
  clear hG G
  refine wpAny_mono (q2 A s1 β1 pos hR I2) (fun ks s2 hX1 => ?_) fun _ _ x => x
  refine away fun G hG => ?_
  obtain ⟨st2, β2, le2, kw, μ3, I3, rk, en, kf, q3⟩ := hX1
  refine hG ?_
  clear hG G
  refine ⟨kf _ β2 [(env.locals, .ns σ)] s2.heap f' (I3.perm (List.perm_append_comm (l₁ := [_]) (l₂ := μ3))) (rf.mono (le1.trans le2)), ?_⟩
  have hc := q3.loc (L := env.locals) (σ := σ) (s := s2) (A := A) (t := PySem.call f' (first' ++ xs) (((backToKw pos (keywordEach kws env)).filterMap (·.1)).zip ks)) hR I3 ⟨f', _, _, rf.mono (le1.trans le2), (rfi.mono (le1.trans le2)).append (rs.mono le2), by rw [← en]; exact KwRel.zip rk, rfl⟩
  exact wpAny_mono hc (fun v s3 ⟨st3, β3, le3, c, μ', I', r, q⟩ => ⟨st1.trans (st2.trans st3), β3, le1.trans (le2.trans le3), c, μ', I', r, q⟩) fun _ _ x => x

theorem evOk.call {func : Expr} {args kws pos} {Q : V → Led → Prop} (h : evOk P d env σ μ func fun f μ1 => evsOk P d env σ μ1 args fun vs μ2 => kwsOk P d env σ μ2 kws fun kw μ3 => Keep P μ3 f ∧ callOk P d μ3 f vs kw Q)
    (ha : ∀ pos, (backTo pos (starEach args env)).any (·.1) = false) (hk : ∀ pos, (backToKw pos (keywordEach kws env)).all (·.1.isSome) = true)
    (he : eval (.Call func args kws pos) env = (do callWith pos (← eval func env) [] (backTo pos (starEach args env)) (backToKw pos (keywordEach kws env)))) : evOk P d env σ μ (.Call func args kws pos) Q := fun A s β hR hI => by
  rw [he]
  exact wpL.bind ((h A s β hR hI).mono fun f' β1 h1 le1 ⟨f, μ1, I1, rf, q1⟩ s1 e1 => callW rf .nil hR (e1 ▸ I1) ha hk q1)
theorem evOk.meth {o : Expr} {name apos args kws pos pl} {Q : V → Led → Prop} (h : evOk P d env σ μ o fun ov μ1 => methOk P d μ1 ov name fun fx μ2 => evsOk P d env σ μ2 args fun vs μ3 => kwsOk P d env σ μ3 kws fun kw μ4 => Keep P μ4 fx.1 ∧ callOk P d μ4 fx.1 (fx.2 ++ vs) kw Q)
    (ha : ∀ pos, (backTo pos (starEach args env)).any (·.1) = false) (hk : ∀ pos, (backToKw pos (keywordEach kws env)).all (·.1.isSome) = true)
    (he : eval (.Call (.Attribute o name apos) args kws pos) env = (do
      let ov ← eval o env
      standAt apos.atName
      let (f, first) ← holding [ov] (getMethod ov name pl)
      callWith pos f first (backTo pos (starEach args env)) (backToKw pos (keywordEach kws env)))) : evOk P d env σ μ (.Call (.Attribute o name apos) args kws pos) Q := fun A s β hR hI => by
  rw [he]
  refine wpL.bind ((h A s β hR hI).mono fun o' β1 h1 le1 hX2 s1 e1 => ?_)
  refine away fun G hG => ?_
  obtain ⟨ov, μ1, I1, ro, q1⟩ := hX2
  refine hG ?_
  clear hG G
  refine wpL.standAt_bind (wpL.bind (wpL.holding ((q1.loc hR (e1 ▸ I1) ⟨o', pl, ro, rfl⟩).mono fun fx' β2 h2 le2 hX3 s2 e2 => ?_)))
  refine away fun G hG => ?_
  obtain ⟨fx, μ2, I2, ⟨rf, rfi⟩, q2⟩ := hX3
  refine hG ?_
  clear hG G
  exact callW rf rfi hR (e2 ▸ I2) ha hk q2

/-! calls of the text's own functions -/
noncomputable def initL (sc : Scope) (binds : List (Str × V)) : Loc := (sc.names.filter (fun p => p.2 == .local)).map fun p => (p.1, binds.reverse.lookup p.1)
noncomputable def BindV (P : Par) (μ : Led) (fd : FuncData) (args : List V) (kw : List (Str × V)) (binds : List (Str × V)) : Prop :=
  ∀ β ν s xs ks, Inv P β (μ ++ ν) s.heap → VsRel β args xs → KwRel β kw ks → ∃ b', BindsTo s fd ⟨xs, ks⟩ b' ∧ KwRel β binds b'
noncomputable def retV : Fl → V
  | .ret v => v
  | _ => .none

theorem KwRel.lookup {β : Fz} {x : Str} : ∀ {kw : List (Str × V)} {ks : List (Str × Value)}, KwRel β kw ks → OptRel β (kw.lookup x) (ks.lookup x)
  | [], [], _ => trivial
  | [], (_, _) :: _, h => by have := h.1; simp at this
  | (_, _) :: _, [], h => by have := h.1; simp at this
  | (n, v) :: kw, (n', y) :: ks, h => by
    have h1 : n' :: ks.map (·.1) = n :: kw.map (·.1) := h.1
    have e : n' = n := (List.cons.inj h1).1
    have e2 := (List.cons.inj h1).2
    subst e
    have h2 : VsRel β (v :: kw.map (·.2)) (y :: ks.map (·.2)) := h.2
    cases h2 with
    | cons a b =>
      rw [List.lookup_cons, List.lookup_cons]
      cases x == n' with
      | true => exact a
      | false => exact KwRel.lookup ⟨e2, b⟩
theorem KwRel.reverse {β : Fz} {kw : List (Str × V)} {ks : List (Str × Value)} (h : KwRel β kw ks) : KwRel β kw.reverse ks.reverse :=
  ⟨by rw [List.map_reverse, List.map_reverse, h.1], by rw [List.map_reverse, List.map_reverse]; exact h.2.reverse⟩
noncomputable def FnAt' (P : Par) (μ : Led) (a : Addr) (fd : FuncData) : Prop := ∀ β ν h, Inv P β (μ ++ ν) h → ∃ o, h.get? a = some o ∧ o.data = .func fd ∧ h.CodeRec fd.code fd.qualname

structure LocOk (sc : Scope) (binds : List (Str × V)) (σ : Loc) : Prop where
  nd : (σ.map (·.1)).Nodup
  val : σ.map (·.2) = σ.map fun p => binds.reverse.lookup p.1

noncomputable def fnOk (P : Par) (d : Nat) (μ : Led) (f : V) (args : List V) (kw : List (Str × V)) (Q : V → Led → Prop) : Prop :=
  ∀ ν A s β f' xs ks, Room A d → Inv P β (μ ++ ν) s.heap → VRel β f f' → VsRel β args xs → KwRel β kw ks →
    codeAny (model P.prog P.w) A (.call f' ⟨xs, ks⟩) (fun r s' => match r with
      | .ok (.ret v) => LP β (OpP P VRel ν Q) s v s'
      | .ok _ => False
      | .error _ => False) s
theorem fnOk.call {f args kw} {Q : V → Led → Prop} (h : fnOk P d μ f args kw Q) : callOk P d μ f args kw Q := by
  rintro ν A s β t hR hI hY0
  refine away fun G hG => ?_
  obtain ⟨f', xs, ks, rf, rx, rk, eY1⟩ := hY0
  refine hG ?_
  clear hG G
  subst eY1
  exact wpAny_call (h ν A s β f' xs ks hR hI rf rx rk)

theorem fnOk.body {a : Addr} {name qual : Str} {params : Arguments} {body : List Stmt} {sc : Scope} {cl : List (Str × Addr)} {dV kV doc pm : Value} {an : Option Addr} {cdv ct : Value} {args : List V} {kw binds : List (Str × V)} {σ₀ : Loc} {Q : V → Led → Prop}
    (hf : FnAt' P μ a (fnX name qual params body sc cl dV kV doc pm an cdv ct)) (hb : BindV P μ (fnX name qual params body sc cl dV kV doc pm an cdv ct) args kw binds)
    (hcell : ∀ x ∈ sc.names, x.2 ≠ .cell) (hloc : ∀ x ∈ binds, sc.names.lookup x.1 = some .local) (hL : LocOk sc binds σ₀)
    (hco : sc.isCoroutine = false) (hgen : sc.isGenerator = false) (hk : sc.kind = .function)
    (h : ∀ L, exsOk P d (envX qual sc L a cdv cl) σ₀ μ body fun f _ μ' => Q (retV f) μ') : fnOk P (d + 1) μ (.raw (.ref a)) args kw Q := by
  intro ν A s β f' xs ks hR hI rf rx rk
  cases rf
  refine away fun G hG => ?_
  obtain ⟨o, ho, hd, hcd⟩ := hf β ν _ hI
  refine hG ?_
  clear hG G
  refine away fun G hG => ?_
  obtain ⟨b', hb', rb⟩ := hb β ν s xs ks hI rx rk
  refine hG ?_
  clear hG G
  have hroom : A.depth < recursionLimit := by have := hR.depth; show A.depth < 1000; lia
  refine codeAny_call_def (fd := fnX name qual params body sc cl dV kV doc pm an cdv ct) (body := body) (binds := b') hroom ho hd (P.nolimit.keeps hI.keep) hcd rfl hb' hcell (fun x hx => ?_) (fun h₁ hns hk₁ => ?_) hco hgen hk
  · have h1 : x.1 ∈ binds.map (·.1) := rb.1 ▸ List.mem_map_of_mem hx
    refine away fun G hG => ?_
    obtain ⟨y, hy, e⟩ := List.mem_map.mp h1
    refine hG ?_
    clear hG G
    rw [← e]; exact hloc y hy
  have hR' : Room (A.deeper (envX qual sc s.heap.objs.size a cdv cl)) d := ⟨by have := hR.depth; show A.depth + 1 + 2 * d < 1000; lia, by have := hR.units; show A.units + 3 + 8 * d + 40 < 9900; lia, hR.handled⟩
  refine away fun G hG => ?_
  obtain ⟨oL, es, ep, hoL, hdL, hkL, hfL⟩ := hns
  refine hG ?_
  clear hG G
  have I1 : Inv P β ((s.heap.objs.size, .ns σ₀) :: (μ ++ ν)) h₁ := hI.new hk₁ get_size_none ⟨oL, hoL, es, ep, hdL, hkL, hL.nd, fun p hp => by
    rw [hfL]
    have e : p.2 = binds.reverse.lookup p.1 := by
      have := List.map_inj_left.mp hL.val p hp
      exact this
    rw [e]
    exact rb.reverse.lookup⟩
  have I2 : Inv P β (((s.heap.objs.size, .ns σ₀) :: μ) ++ ν) h₁ := I1
  refine away fun G hG => ?_
  obtain ⟨I3, le3⟩ := I2.freeze
  refine hG ?_
  clear hG G
  refine wpAny_mono (h s.heap.objs.size (A.deeper (envX qual sc s.heap.objs.size a cdv cl)) { s with heap := h₁, toks := s.toks + b'.length } _ hR' I3) (fun fl s' hX4 => ?_) fun _ _ x => x.elim
  obtain ⟨st, β', le', f, σ', μ', I', rfl', q⟩ := hX4
  refine away fun G hG => ?_
  obtain ⟨I4, le4, hv⟩ := I2.thaw I' le'
  refine hG ?_
  clear hG G
  have I5 : Inv P (Mine.thaw β' (ν.map (·.1))) (μ' ++ ν) s'.heap := I4.forget (List.sublist_cons_self ..)
  refine ⟨⟨st.gens, st.drawn, st.os⟩, _, le4, retV f, μ', I5, ?_, q⟩
  cases rfl' with
  | ret r => exact hv r
  | _ => exact .none
end
end Mine

namespace Mine
open PySem PySem.W PySem.Calls PyProof.Rows

section
variable {P : Par} {d : Nat} {env : Env} {σ : Loc} {μ : Led} {A : Around} {β : Fz} {s : Shared}

theorem Inv.newMany {h h' : Heap} (I : Inv P β μ h) (hs : ∀ b o, h.get? b = some o → h'.get? b = some o) {νs : Led} (hn : ∀ p ∈ νs, h.get? p.1 = none) (nd : (νs.map (·.1)).Nodup) (ho : ∀ p ∈ νs, ∃ o, h'.get? p.1 = some o ∧ ORel β p.2 o) : Inv P β (νs ++ μ) h' := by
  have I' := I.ext hs
  exact ⟨I'.base, I'.froz, fun p hp => by
      rcases List.mem_append.mp hp with hp | hp
      · exact ho p hp
      · exact I'.led p hp,
    fun p hp => by
      rcases List.mem_append.mp hp with hp | hp
      · exact (I.size_none (hn p hp)).1
      · exact I'.sep p hp,
    by
      rw [List.map_append, List.nodup_append]
      refine ⟨nd, I'.nd, fun a ha b hb e => ?_⟩
      subst e
      refine away fun G hG => ?_
      obtain ⟨p, hp, eY1⟩ := List.mem_map.mp ha
      refine hG ?_
      clear hG G
      subst eY1
      exact (I.size_none (hn p hp)).2.1 hb,
    fun q hq => ⟨(I'.tab q hq).1, (I'.tab q hq).2.1, fun m => by
      rw [List.map_append, List.mem_append] at m
      rcases m with m | m
      · refine away fun G hG => ?_
        obtain ⟨p, hp, e⟩ := List.mem_map.mp m
        refine hG ?_
        clear hG G
        exact (I.size_none (hn p hp)).2.2 q hq e.symm
      · exact (I'.tab q hq).2.2 m⟩⟩

noncomputable def cellsBy (f : Nat → Addr) : Nat → List (Str × NameKind) → List (Str × Addr) → List (Str × Addr)
  | _, [], acc => acc
  | n, (name, kind) :: r, acc => if kind == .cell then cellsBy f (n + 1) r ((name, f n) :: acc) else cellsBy f n r acc
theorem cellsBy_from (k : Nat) : ∀ (names : List (Str × NameKind)) (n : Nat) (acc : List (Str × Addr)), cellsFrom (k + n) names acc = cellsBy (fun i => k + i) n names acc
  | [], _, _ => rfl
  | (name, kind) :: r, n, acc => by
    unfold cellsFrom cellsBy
    split
    · exact cellsBy_from k r (n + 1) _
    · exact cellsBy_from k r n _
noncomputable def aL (kindOf : Str → Option NameKind) : List (Str × V) → (Str → Option V) → Str → Option V
  | [], m => m
  | (n, v) :: r, m => aL kindOf r (if kindOf n = some .local then fun y => if y = n then some v else m y else m)
noncomputable def aC (kindOf : Str → Option NameKind) : List (Str × V) → (Str → Option V) → Str → Option V
  | [], m => m
  | (n, v) :: r, m => aC kindOf r (if kindOf n = some .local then m else fun y => if y = n then some v else m y)
theorem aL_rel {kindOf : Str → Option NameKind} : ∀ {kw : List (Str × V)} {ks : List (Str × Value)} {m : Str → Option V} {m' : Str → Option Value}, KwRel β kw ks → (∀ x, OptRel β (m x) (m' x)) → ∀ x, OptRel β (aL kindOf kw m x) (bindL kindOf ks m' x)
  | [], [], _, _, _, h => h
  | [], (_, _) :: _, _, _, h, _ => by have := h.1; simp at this
  | (_, _) :: _, [], _, _, h, _ => by have := h.1; simp at this
  | (n, v) :: kw, (n', y) :: ks, m, m', h, hm => by
    have h1 : n' :: ks.map (·.1) = n :: kw.map (·.1) := h.1
    have e : n' = n := (List.cons.inj h1).1
    have e2 := (List.cons.inj h1).2
    subst e
    have h2 : VsRel β (v :: kw.map (·.2)) (y :: ks.map (·.2)) := h.2
    cases h2 with
    | cons a b =>
      refine aL_rel (kw := kw) (ks := ks) ⟨e2, b⟩ fun x => ?_
      by_cases hk : kindOf n' = some .local
      · rw [if_pos hk, if_pos hk]
        by_cases hx : x = n'
        · simp only [hx, if_true]; exact a
        · simp only [hx, if_false]; exact hm x
      · rw [if_neg hk, if_neg hk]; exact hm x
theorem aC_rel {kindOf : Str → Option NameKind} : ∀ {kw : List (Str × V)} {ks : List (Str × Value)} {m : Str → Option V} {m' : Str → Option Value}, KwRel β kw ks → (∀ x, OptRel β (m x) (m' x)) → ∀ x, OptRel β (aC kindOf kw m x) (bindC kindOf ks m' x)
  | [], [], _, _, _, h => h
  | [], (_, _) :: _, _, _, h, _ => by have := h.1; simp at this
  | (_, _) :: _, [], _, _, h, _ => by have := h.1; simp at this
  | (n, v) :: kw, (n', y) :: ks, m, m', h, hm => by
    have h1 : n' :: ks.map (·.1) = n :: kw.map (·.1) := h.1
    have e : n' = n := (List.cons.inj h1).1
    have e2 := (List.cons.inj h1).2
    subst e
    have h2 : VsRel β (v :: kw.map (·.2)) (y :: ks.map (·.2)) := h.2
    cases h2 with
    | cons a b =>
      refine aC_rel (kw := kw) (ks := ks) ⟨e2, b⟩ fun x => ?_
      by_cases hk : kindOf n' = some .local
      · rw [if_pos hk, if_pos hk]; exact hm x
      · rw [if_neg hk, if_neg hk]
        by_cases hx : x = n'
        · simp only [hx, if_true]; exact a
        · simp only [hx, if_false]; exact hm x

structure LocOkC (sc : Scope) (binds : List (Str × V)) (σ : Loc) : Prop where
  nd : (σ.map (·.1)).Nodup
  val : σ.map (·.2) = σ.map fun p => aL (fun x => sc.names.lookup x) binds (fun _ => none) p.1

theorem fnOk.bodyC {a : Addr} {name qual : Str} {params : Arguments} {body : List Stmt} {sc : Scope} {dV kV doc pm : Value} {an : Option Addr} {cdv ct : Value} {args : List V} {kw binds : List (Str × V)} {σ₀ : Loc} {Q : V → Led → Prop}
    (cs : (Nat → Addr) → List (Str × Addr)) (μc : (Nat → Addr) → Led)
    (hf : FnAt' P μ a (fnX name qual params body sc [] dV kV doc pm an cdv ct)) (hb : BindV P μ (fnX name qual params body sc [] dV kV doc pm an cdv ct) args kw binds)
    (hcs : ∀ f, cellsBy f 0 sc.names [] = cs f) (hμc : ∀ f, (cs f).map (fun p => (p.2, AObj.cell (aC (fun x => sc.names.lookup x) binds (fun _ => none) p.1))) = μc f)
    (hnd : ∀ f, ((cs f).map (·.1)).Nodup)
    (hkind : (binds.all fun y => sc.names.lookup y.1 == some .local || sc.names.lookup y.1 == some .cell) = true) (hL : LocOkC sc binds σ₀)
    (hco : sc.isCoroutine = false) (hgen : sc.isGenerator = false) (hk : sc.kind = .function)
    (h : ∀ L f, exsOk P d (envX qual sc L a cdv (cs f)) σ₀ (μc f ++ μ) body fun fl _ μ' => ∃ μ2, μ2.Sublist μ' ∧ Q (retV fl) μ2) : fnOk P (d + 1) μ (.raw (.ref a)) args kw Q := by
  intro ν A s β f' xs ks hR hI rf rx rk
  cases rf
  refine away fun G hG => ?_
  obtain ⟨o, ho, hd, hcd⟩ := hf β ν _ hI
  refine hG ?_
  clear hG G
  refine away fun G hG => ?_
  obtain ⟨b', hb', rb⟩ := hb β ν s xs ks hI rx rk
  refine hG ?_
  clear hG G
  have hroom : A.depth < recursionLimit := by have := hR.depth; show A.depth < 1000; lia
  refine codeAny_call_function (body := body) hroom ho hd hco hgen rfl hcd (hb' _ _ _ _ ?_)
  have hkind' : ∀ x ∈ b', sc.names.lookup x.1 = some .local ∨ (sc.names.lookup x.1 = some .cell ∧ ((cellsFrom (s.heap.objs.size + 1) sc.names []).lookup x.1).isSome = true) := fun x hx => by
    have h1 : x.1 ∈ binds.map (·.1) := rb.1 ▸ List.mem_map_of_mem hx
    refine away fun G hG => ?_
    obtain ⟨y, hy, e⟩ := List.mem_map.mp h1
    refine hG ?_
    clear hG G
    rw [← e]
    have e5 := List.all_eq_true.mp hkind y hy
    rcases Bool.or_eq_true_iff.mp e5 with q | q
    · exact .inl (by simpa using q)
    · have q' : sc.names.lookup y.1 = some .cell := by simpa using q
      exact .inr ⟨q', cellsFrom_some _ _ _ (.inl q')⟩
  refine wpAny_newFunctionEnv_cells hk hkind' fun env he s' X => ?_
  have hcs' : cellsFrom (s.heap.objs.size + 1) sc.names [] = cs (fun i => s.heap.objs.size + 1 + i) := by
    rw [← hcs]; exact cellsBy_from _ _ 0 _
  have he2 : env = envX qual sc s.heap.objs.size a cdv (cs (fun i => s.heap.objs.size + 1 + i)) := by rw [he, ← hcs']; rfl
  clear he
  subst he2
  refine away fun G hG => ?_
  obtain ⟨h', tk, e1, hkeep⟩ := X.done
  refine hG ?_
  clear hG G
  have hlim : s'.heap.NoLimit := (P.nolimit.keeps hI.keep).keeps X.toInCall.keep
  refine ⟨hlim, codeAny_func ?_⟩
  have hR' : Room (A.deeper (envX qual sc s.heap.objs.size a cdv (cs (fun i => s.heap.objs.size + 1 + i)))) d := ⟨by have := hR.depth; show A.depth + 1 + 2 * d < 1000; lia, by have := hR.units; show A.units + 3 + 8 * d + 40 < 9900; lia, hR.handled⟩
  refine away fun G hG => ?_
  obtain ⟨oL, es, ep, hoL, hdL, hkL, hfL⟩ := X.toInCall.ns
  refine hG ?_
  clear hG G
  have I0 : Inv P β ((μc (fun i => s.heap.objs.size + 1 + i)) ++ (μ ++ ν)) s'.heap := by
    refine hI.newMany X.toInCall.keep (fun p hp => ?_) ?_ fun p hp => ?_
    · rw [← hμc] at hp
      refine away fun G hG => ?_
      obtain ⟨q, hq, eY1⟩ := List.mem_map.mp hp
      refine hG ?_
      clear hG G
      subst eY1
      have := X.above q.1 q.2 hq
      exact Heap.get?_none_of_le (Nat.le_of_lt this)
    · rw [← hμc, List.map_map]
      have := X.apart
      exact (List.pairwise_map.mpr (this.imp fun h => h))
    · rw [← hμc] at hp
      refine away fun G hG => ?_
      obtain ⟨q, hq, eY1⟩ := List.mem_map.mp hp
      refine hG ?_
      clear hG G
      subst eY1
      have hlk : (cs (fun i => s.heap.objs.size + 1 + i)).lookup q.1 = some q.2 := by
        have nd := hnd (fun i => s.heap.objs.size + 1 + i)
        revert hq nd
        generalize cs (fun i => s.heap.objs.size + 1 + i) = l
        intro hq nd
        induction l with
        | nil => cases hq
        | cons b l ih =>
          refine away fun G hG => ?_
          obtain ⟨n, c⟩ := b
          refine hG ?_
          clear hG G
          rw [List.lookup_cons]
          simp only [List.map_cons, List.nodup_cons] at nd
          rcases List.mem_cons.mp hq with rfl | hq
          · simp
          · have hne : (q.1 == n) = false := by
              rw [beq_eq_false_iff_ne]; intro e; exact nd.1 (e ▸ List.mem_map_of_mem hq)
            rw [hne]; exact ih hq nd.2
      refine away fun G hG => ?_
      obtain ⟨oc, hoc, hdc⟩ := X.cell q.1 q.2 hlk
      refine hG ?_
      clear hG G
      exact ⟨oc, hoc, _, hdc, aC_rel (m := fun _ => none) (m' := fun _ => none) rb (fun _ => (trivial : OptRel β none none)) q.1⟩
  have I1 : Inv P β ((s.heap.objs.size, .ns σ₀) :: ((μc (fun i => s.heap.objs.size + 1 + i)) ++ (μ ++ ν))) s'.heap := by
    have hLnone : s.heap.get? s.heap.objs.size = none := get_size_none
    refine away fun G hG => ?_
    obtain ⟨n1, n2, n3⟩ := hI.size_none hLnone
    refine hG ?_
    clear hG G
    refine ⟨I0.base, I0.froz, fun p hp => ?_, fun p hp => ?_, ?_, fun q hq => ⟨(I0.tab q hq).1, (I0.tab q hq).2.1, fun m => ?_⟩⟩
    · rcases List.mem_cons.mp hp with rfl | hp
      · refine ⟨oL, hoL, es, ep, hdL, hkL, hL.nd, fun p hp => ?_⟩
        rw [hfL]
        have e : p.2 = aL (fun x => sc.names.lookup x) binds (fun _ => none) p.1 := List.map_inj_left.mp hL.val p hp
        rw [e]
        exact aL_rel (m := fun _ => none) (m' := fun _ => none) rb (fun _ => (trivial : OptRel β none none)) p.1
      · exact I0.led p hp
    · rcases List.mem_cons.mp hp with rfl | hp
      · exact n1
      · exact I0.sep p hp
    · rw [List.map_cons, List.nodup_cons]
      refine ⟨fun m => ?_, I0.nd⟩
      rw [List.map_append, List.mem_append] at m
      rcases m with m | m
      · rw [← hμc, List.map_map] at m
        refine away fun G hG => ?_
        obtain ⟨q, hq, e⟩ := List.mem_map.mp m
        refine hG ?_
        clear hG G
        have := X.above q.1 q.2 hq
        have e' : q.2 = s.heap.objs.size := e
        have e3 : (envX qual sc s.heap.objs.size a cdv (cs (fun i => s.heap.objs.size + 1 + i))).locals = s.heap.objs.size := rfl
        rw [e3, e'] at this
        exact Nat.lt_irrefl _ this
      · exact n2 m
    · rcases List.mem_cons.mp m with e | m
      · exact n3 q hq e
      · exact (I0.tab q hq).2.2 m
  have I2 : Inv P β (((s.heap.objs.size, .ns σ₀) :: (μc (fun i => s.heap.objs.size + 1 + i) ++ μ)) ++ ν) s'.heap := by simpa using I1
  refine away fun G hG => ?_
  obtain ⟨I3, le3⟩ := I2.freeze
  refine hG ?_
  clear hG G
  refine wpAny_mono (h s.heap.objs.size (fun i => s.heap.objs.size + 1 + i) (A.deeper _) s' _ hR' I3) (fun fl s'' hX0 => ?_) fun _ _ x => x.elim
  obtain ⟨st, β', le', f, σ', μ', I', rfl', μ2, sb, q⟩ := hX0
  refine away fun G hG => ?_
  obtain ⟨I4, le4, hv⟩ := I2.thaw I' le'
  refine hG ?_
  clear hG G
  have I5 : Inv P (Mine.thaw β' (ν.map (·.1))) (μ2 ++ ν) s''.heap := I4.forget ((sb.cons _).append (List.Sublist.refl ν))
  refine ⟨St.trans ?_ st, _, le4, retV f, μ2, I5, ?_, q⟩
  · rw [e1]; exact .mk'
  cases rfl' with
  | ret r => exact hv r
  | _ => exact .none
end
end Mine

namespace Mine
open PySem PySem.W PySem.Calls PyProof.Rows

section
variable {P : Par} {d : Nat} {env : Env} {σ : Loc} {μ : Led} {A : Around} {β : Fz} {s : Shared}

/-! ints -/
theorem bin_int {op : Operator} {a b c : Int} {Q : V → Led → Prop} (h : Q (.int c) μ)
    (rule : ∀ {M : World} {A : Around} {s : Shared} {t u : Tok} {R : Value → Shared → Prop}, A.handled = none → s.heap.NoLimit → R (.int c s.toks) { s with toks := s.toks + 1 } → wpAny (model P.prog M) A (binaryOp op (.int a t) (.int b u)) R (fun _ _ => False) s) : binOk P d μ op (.int a) (.int b) Q := by
  rintro ν A s β t hR hI ⟨a', b', ra, rb, rfl⟩
  cases ra; cases rb
  exact rule hR.handled (P.nolimit.keeps hI.keep) ⟨.mk', β, .rfl, _, μ, hI, .int .., h⟩
theorem bin_add {a b : Int} {Q : V → Led → Prop} (h : Q (.int (a + b)) μ) : binOk P d μ .Add (.int a) (.int b) Q := bin_int h fun _ _ x => PyProof.Rows.add_int x
theorem bin_sub {a b : Int} {Q : V → Led → Prop} (h : Q (.int (a - b)) μ) : binOk P d μ .Sub (.int a) (.int b) Q := bin_int h fun _ _ x => PyProof.Rows.sub_int x
theorem bin_mul {a b : Int} {Q : V → Led → Prop} (hm : IntMulOk a b) (h : Q (.int (a * b)) μ) : binOk P d μ .Mult (.int a) (.int b) Q := bin_int h fun _ _ x => PyProof.Rows.mul_int x hm
theorem bin_mulL {a b : Int} {Q : V → Led → Prop} (hm : a.natAbs < 2 ^ 64) (h : Q (.int (a * b)) μ) : binOk P d μ .Mult (.int a) (.int b) Q := bin_mul (.of_left (intBits_le hm)) h
theorem bin_mulR {a b : Int} {Q : V → Led → Prop} (hm : b.natAbs < 2 ^ 64) (h : Q (.int (a * b)) μ) : binOk P d μ .Mult (.int a) (.int b) Q := bin_mul (.of_right (intBits_le hm)) h
theorem bin_fdiv {a b : Int} {Q : V → Led → Prop} (hb : b ≠ 0) (hs : b.natAbs < 1073741824) (h : Q (.int (a.fdiv b)) μ) : binOk P d μ .FloorDiv (.int a) (.int b) Q := bin_int h fun _ _ x => PyProof.Rows.floordiv_int hb x (.inl (PyProof.noPylong_small hs))
theorem bin_fmod {a b : Int} {Q : V → Led → Prop} (hb : b ≠ 0) (h : Q (.int (a.fmod b)) μ) : binOk P d μ .Mod (.int a) (.int b) Q := bin_int h fun _ _ x => PyProof.Rows.mod_int' hb x
theorem bin_pow {a n : Int} {Q : V → Led → Prop} (hn : 0 ≤ n) (hn2 : n ≤ 1000000) (ha : a.natAbs < 2 ^ 64) (h : Q (.int (a ^ n.toNat)) μ) : binOk P d μ .Pow (.int a) (.int n) Q := bin_int h fun _ _ x => PyProof.Rows.pow_int_small hn hn2 ha x
theorem bin_shl {a n : Int} {Q : V → Led → Prop} (hn : 0 ≤ n) (hsz : (Builtin.Int.intBits a : Int) + n ≤ 2 ^ 27) (h : Q (.int (a * 2 ^ n.toNat)) μ) : binOk P d μ .LShift (.int a) (.int n) Q := bin_int h fun _ _ x => PyProof.Rows.lshift_int hn hsz x
theorem bin_shr {a n : Int} {Q : V → Led → Prop} (hn : 0 ≤ n) (h : Q (.int (a.fdiv (2 ^ n.toNat))) μ) : binOk P d μ .RShift (.int a) (.int n) Q := bin_int h fun _ _ x => PyProof.Rows.rshift_int hn x
theorem bin_xor {a b : Int} {Q : V → Led → Prop} (h : Q (.int (Builtin.bitXor a b)) μ) : binOk P d μ .BitXor (.int a) (.int b) Q := bin_int h fun _ _ x => PyProof.Rows.xor_int x
theorem un_neg {a : Int} {Q : V → Led → Prop} (h : Q (.int (-a)) μ) : unOk P d μ .USub (.int a) Q := by
  rintro ν A s β t hR hI ⟨a', ra, rfl⟩
  cases ra
  exact PyProof.Rows.neg_int ⟨.mk', β, .rfl, _, μ, hI, .int .., h⟩
theorem un_inv {a : Int} {Q : V → Led → Prop} (h : Q (.int (Builtin.bitNot a)) μ) : unOk P d μ .Invert (.int a) Q := by
  rintro ν A s β t hR hI ⟨a', ra, rfl⟩
  cases ra
  exact PyProof.Rows.invert_int ⟨.mk', β, .rfl, _, μ, hI, .int .., h⟩
theorem un_not {a : V} {Q : V → Led → Prop} (h : truOk P d μ a fun b μ' => Q (.bool (!b)) μ') : unOk P d μ .Not a Q := by
  rintro ν A s β t hR hI ⟨a', ra, rfl⟩
  refine not_value (wpAny_mono (h ν A s β _ hR hI ⟨a', ra, rfl⟩) (fun b s1 hX0 => ?_) fun _ _ x => x)
  obtain ⟨st, β1, le, c, μ', I, rb, q⟩ := hX0
  cases rb
  exact ⟨st, β1, le, _, μ', I, .bool _, q⟩
theorem cmp_int {op : CmpOp} {a b : Int} {c : Bool} {Q : V → Led → Prop} (h : Q (.bool c) μ)
    (rule : ∀ {M : World} {A : Around} {s : Shared} {t u : Tok} {R : Value → Shared → Prop}, R (.bool c) s → wpAny (model P.prog M) A (compareOp op (.int a t) (.int b u)) R (fun _ _ => False) s) : cmpOk P d μ op (.int a) (.int b) Q := by
  rintro ν A s β t hR hI ⟨a', b', ra, rb, rfl⟩
  cases ra; cases rb
  exact rule ⟨.rfl, β, .rfl, _, μ, hI, .bool _, h⟩
theorem cmp_eq {a b : Int} {Q : V → Led → Prop} (h : Q (.bool (a == b)) μ) : cmpOk P d μ .Eq (.int a) (.int b) Q := cmp_int h PyProof.Rows.eq_int
theorem cmp_ne {a b : Int} {Q : V → Led → Prop} (h : Q (.bool (a != b)) μ) : cmpOk P d μ .NotEq (.int a) (.int b) Q := cmp_int h PyProof.Rows.ne_int
theorem cmp_lt {a b : Int} {Q : V → Led → Prop} (h : Q (.bool (decide (a < b))) μ) : cmpOk P d μ .Lt (.int a) (.int b) Q := cmp_int h PyProof.Rows.lt_int
theorem cmp_gt {a b : Int} {Q : V → Led → Prop} (h : Q (.bool (decide (b < a))) μ) : cmpOk P d μ .Gt (.int a) (.int b) Q := cmp_int h PyProof.Rows.gt_int
theorem cmp_le {a b : Int} {Q : V → Led → Prop} (h : Q (.bool (decide (a ≤ b))) μ) : cmpOk P d μ .LtE (.int a) (.int b) Q := cmp_int h PyProof.Rows.le_int
theorem cmp_ge {a b : Int} {Q : V → Led → Prop} (h : Q (.bool (decide (b ≤ a))) μ) : cmpOk P d μ .GtE (.int a) (.int b) Q := cmp_int h PyProof.Rows.ge_int
theorem tru_bool {b : Bool} {Q : Bool → Led → Prop} (h : Q b μ) : truOk P d μ (.bool b) Q := by
  rintro ν A s β t hR hI ⟨a', ra, rfl⟩
  cases ra
  exact wpAny_truthy_bool ⟨.rfl, β, .rfl, b, μ, hI, rfl, h⟩
theorem tru_int {a : Int} {Q : Bool → Led → Prop} (h : Q (a != 0) μ) : truOk P d μ (.int a) Q := by
  rintro ν A s β t hR hI ⟨a', ra, rfl⟩
  cases ra
  exact PyProof.Rows.truthy_int ⟨.rfl, β, .rfl, _, μ, hI, rfl, h⟩

/-! strs -/
noncomputable abbrev mkS (l : List Nat) : Str := ⟨l.toArray⟩
theorem mkS_len (l : List Nat) : (mkS l).length = l.length := by show l.toArray.size = _; simp
theorem mkS_beq (a b : List Nat) : (mkS a == mkS b) = (a == b) := by
  rw [Bool.eq_iff_iff, beq_iff_eq, beq_iff_eq]
  constructor
  · intro h
    have := congrArg (fun x : Str => x.cps.toList) h
    simpa using this
  · rintro rfl; rfl
theorem mkS_app (a b : List Nat) : mkS a ++ mkS b = mkS (a ++ b) := by
  show (⟨a.toArray ++ b.toArray⟩ : Str) = _
  rw [List.append_toArray]
theorem VRel.str' {x : Str} {t : Tok} {l : List Nat} (h : x.cps.toList = l) : VRel β (.str l) (.str x t) := by
  subst h
  have := VRel.str (β := β) x.cps.toList t
  rwa [show (⟨x.cps.toList.toArray⟩ : Str) = x from rfl] at this
theorem bin_cat {a b : List Nat} {Q : V → Led → Prop} (hsz : a.length + b.length ≤ sizeLine) (h : Q (.str (a ++ b)) μ) : binOk P d μ .Add (.str a) (.str b) Q := by
  rintro ν A s β t hR hI ⟨a', b', ra, rb, rfl⟩
  cases ra; cases rb
  refine PyProof.Rows.add_str (fun t' tk => ⟨.mk', β, .rfl, _, μ, hI, ?_, h⟩) (by rw [mkS_len, mkS_len]; exact hsz)
  show VRel β (.str (a ++ b)) (.str (mkS a ++ mkS b) t')
  rw [mkS_app]; exact .str ..
theorem cmp_eqs {a b : List Nat} {Q : V → Led → Prop} (h : Q (.bool (a == b)) μ) : cmpOk P d μ .Eq (.str a) (.str b) Q := by
  rintro ν A s β t hR hI ⟨a', b', ra, rb, rfl⟩
  cases ra; cases rb
  exact PyProof.Rows.eq_str (by rw [mkS_beq]; exact ⟨.rfl, β, .rfl, _, μ, hI, .bool _, h⟩)
theorem cmp_nes {a b : List Nat} {Q : V → Led → Prop} (h : Q (.bool (a != b)) μ) : cmpOk P d μ .NotEq (.str a) (.str b) Q := by
  rintro ν A s β t hR hI ⟨a', b', ra, rb, rfl⟩
  cases ra; cases rb
  exact PyProof.Rows.ne_str (by show LP _ _ _ _ _; rw [show (mkS a != mkS b) = (a != b) from by show (!(mkS a == mkS b)) = _; rw [mkS_beq]; rfl]; exact ⟨.rfl, β, .rfl, _, μ, hI, .bool _, h⟩)

/-! None -/
theorem cmp_isNone {a : V} {c : Bool} {Q : V → Led → Prop} (hc : ∀ (β : Fz) x, VRel β a x → (x == Value.none) = c) (h : Q (.bool c) μ) : cmpOk P d μ .Is a .none Q := by
  rintro ν A s β t hR hI ⟨a', b', ra, rb, rfl⟩
  cases rb
  · exact is_none (by rw [hc β _ ra]; exact ⟨.rfl, β, .rfl, _, μ, hI, .bool _, h⟩)
theorem cmp_isNotNone {a : V} {c : Bool} {Q : V → Led → Prop} (hc : ∀ (β : Fz) x, VRel β a x → (x == Value.none) = c) (h : Q (.bool (!c)) μ) : cmpOk P d μ .IsNot a .none Q := by
  rintro ν A s β t hR hI ⟨a', b', ra, rb, rfl⟩
  cases rb
  · exact isNot_none (by rw [hc β _ ra]; exact ⟨.rfl, β, .rfl, _, μ, hI, .bool _, h⟩)
theorem none_none : ∀ (β : Fz) x, VRel β .none x → (x == Value.none) = true := fun β x r => by cases r; rfl
theorem none_str {l} : ∀ (β : Fz) x, VRel β (.str l) x → (x == Value.none) = false := fun β x r => by cases r; rfl
theorem none_raw {a : Addr} : ∀ (β : Fz) x, VRel β (.raw (.ref a)) x → (x == Value.none) = false := fun β x r => by cases r; rfl
end
end Mine

namespace Mine
open PySem PySem.W PySem.Calls PyProof.Rows

section
variable {P : Par} {d : Nat} {env : Env} {σ : Loc} {μ : Led} {A : Around} {β : Fz} {s : Shared}

noncomputable abbrev R (a : Addr) : V := .raw (.ref a)
noncomputable abbrev B (id : String) : V := .raw (.builtin id)
noncomputable abbrev T (n : String) : V := .raw (.type n)

theorem VsRel.one {a : V} {xs : List Value} (h : VsRel β [a] xs) : ∃ x, xs = [x] ∧ VRel β a x := by
  cases h with | cons r1 r2 => cases r2; exact ⟨_, rfl, r1⟩
theorem VsRel.two {a b : V} {xs : List Value} (h : VsRel β [a, b] xs) : ∃ x y, xs = [x, y] ∧ VRel β a x ∧ VRel β b y := by
  cases h with | cons r1 r2 => obtain ⟨y, rfl, r⟩ := r2.one; exact ⟨_, y, rfl, r1, r⟩
theorem VsRel.three {a b c : V} {xs : List Value} (h : VsRel β [a, b, c] xs) : ∃ x y z, xs = [x, y, z] ∧ VRel β a x ∧ VRel β b y ∧ VRel β c z := by
  cases h with | cons r1 r2 => obtain ⟨y, z, rfl, r, r'⟩ := r2.two; exact ⟨_, y, z, rfl, r1, r, r'⟩
theorem listLook {ν : Led} {l : Addr} {xs : List V} (I : Inv P β (μ ++ ν) s.heap) (hm : (l, AObj.list xs) ∈ μ) : ∃ its n, s.heap.get? l = some { cls := .type "list", dict := none, data := .seq its n, slots := #[] } ∧ VsRel β xs its.toList ∧ its.size = xs.length := by
  obtain ⟨o, e, its, n, rfl, r⟩ := I.led _ (List.mem_append_left _ hm)
  exact ⟨its, n, e, r, by have := r.length; simpa using this⟩

/-! methods of built-in types -/
theorem meth_list {name : Str} {id : String} {l : Addr} {xs : List V} {Q : V × List V → Led → Prop} (slot : Slot "list" name id) (hty : typeOf (.builtin id) = pure (.type "method_descriptor")) (hm : (l, AObj.list xs) ∈ μ) (h : Q (B id, [R l]) μ) : methOk P d μ (R l) name Q := by
  rintro ν A s β t hR hI ⟨a', pl, ra, rfl⟩
  cases ra
  obtain ⟨its, n, e, r, _⟩ := listLook hI hm
  exact getMethod_builtin ⟨_, e, rfl⟩ PySem.F.plainAttrs_list slot hty (fun a q => by cases q; exact ⟨_, e, rfl⟩) ⟨.rfl, β, .rfl, _, μ, hI, ⟨.raw _, .cons (.raw _) .nil⟩, h⟩
theorem meth_str {name : Str} {id : String} {l : List Nat} {Q : V × List V → Led → Prop} (slot : Slot "str" name id) (hty : typeOf (.builtin id) = pure (.type "method_descriptor")) (h : Q (B id, [.str l]) μ) : methOk P d μ (.str l) name Q := by
  rintro ν A s β t hR hI ⟨a', pl, ra, rfl⟩
  cases ra
  exact getMethod_builtin (typeIs_str _ _ _) PySem.F.plainAttrs_str slot hty (fun a q => by cases q) ⟨.rfl, β, .rfl, _, μ, hI, ⟨.raw _, .cons (.str ..) .nil⟩, h⟩
theorem meth_int {name : Str} {id : String} {i : Int} {Q : V × List V → Led → Prop} (slot : Slot "int" name id) (hty : typeOf (.builtin id) = pure (.type "method_descriptor")) (h : Q (B id, [.int i]) μ) : methOk P d μ (.int i) name Q := by
  rintro ν A s β t hR hI ⟨a', pl, ra, rfl⟩
  cases ra
  exact getMethod_builtin (typeIs_int _ _ _) PySem.F.plainAttrs_int slot hty (fun a q => by cases q) ⟨.rfl, β, .rfl, _, μ, hI, ⟨.raw _, .cons (.int ..) .nil⟩, h⟩

theorem KwRel.nil' {β : Fz} {ks : List (Str × Value)} (h : KwRel β [] ks) : ks = [] := by
  have := h.1
  simpa using this

/-! lists -/
theorem call_append {l : Addr} {xs : List V} {v : V} {μ' : Led} {Q : V → Led → Prop} (hU : UpdL l (.list (xs ++ [v])) (.list xs) μ μ') (hsz : xs.length ≤ sizeLine) (h : Q .none μ') : callOk P d μ (B "list.append") [R l, v] [] Q := by
  rintro ν A s β t hR hI ⟨f', as, ks, rf, ra, rk, rfl⟩
  cases rf
  cases rk.nil'
  obtain ⟨_, x, rfl, r1, r3⟩ := ra.two
  cases r1
  obtain ⟨its, n, e, r, es⟩ := listLook hI hU.mem
  refine call_meets F.slot_list_append ⟨_, e, rfl⟩ F.entry_list_append (F.args_list_append_2 _ _) (AutoListH.list_append_list_val_0 l its n x (by lia)) ⟨e, .mk', β, .rfl, _, μ', ?_, .none, h⟩
  exact hI.upd (hU.app ν) (Heap.SameBut.update ..).extBut ⟨_, Heap.get?_update_self _ e rfl, _, _, rfl, by simpa using r.append (.cons r3 .nil)⟩
theorem call_reverse {l : Addr} {xs : List V} {μ' : Led} {Q : V → Led → Prop} (hU : UpdL l (.list xs.reverse) (.list xs) μ μ') (hsz : xs.length ≤ sizeLine) (h : Q .none μ') : callOk P d μ (B "list.reverse") [R l] [] Q := by
  rintro ν A s β t hR hI ⟨f', as, ks, rf, ra, rk, rfl⟩
  cases rf
  cases rk.nil'
  obtain ⟨_, rfl, r1⟩ := ra.one
  cases r1
  obtain ⟨its, n, e, r, es⟩ := listLook hI hU.mem
  refine call_meets F.slot_list_reverse ⟨_, e, rfl⟩ F.entry_list_reverse (F.args_list_reverse_1 _) (AutoListH.list_reverse_list_0 l its n (by lia)) ⟨e, .mk', β, .rfl, _, μ', ?_, .none, h⟩
  exact hI.upd (hU.app ν) (Heap.SameBut.update ..).extBut ⟨_, Heap.get?_update_self _ e rfl, _, _, rfl, by simpa using r.reverse⟩
theorem call_pop0 {l : Addr} {v : V} {xs : List V} {μ' : Led} {Q : V → Led → Prop} (hU : UpdL l (.list xs) (.list (v :: xs)) μ μ') (hsz : xs.length < sizeLine) (h : Q v μ') : callOk P d μ (B "list.pop") [R l, .int 0] [] Q := by
  rintro ν A s β t hR hI ⟨f', as, ks, rf, ra, rk, rfl⟩
  cases rf
  cases rk.nil'
  obtain ⟨_, _, rfl, r1, r3⟩ := ra.two
  cases r1; cases r3
  obtain ⟨its, n, e, r, es⟩ := listLook hI hU.mem
  obtain ⟨its⟩ := its
  cases r with
  | cons ry rr =>
    rename_i y ys
    refine call_meets F.slot_list_pop ⟨_, e, rfl⟩ F.entry_list_pop (F.args_list_pop_2 _ _) (MeetsSeq.list_pop_at l _ n 0 _ 0 y (by decide +kernel) (by simp [seqIndex?]) (by simp) (by rw [es]; simp; lia)) ⟨e, .mk', β, .rfl, _, μ', ?_, ry, h⟩
    exact hI.upd (hU.app ν) (Heap.SameBut.update ..).extBut ⟨_, Heap.get?_update_self _ e rfl, _, _, rfl, by simpa [Obj.mapSeq, Array.eraseIdxIfInBounds] using rr⟩
theorem tru_list {l : Addr} {xs : List V} {Q : Bool → Led → Prop} (hm : (l, AObj.list xs) ∈ μ) (hsz : xs.length ≤ sizeLine) (h : Q (!xs.isEmpty) μ) : truOk P d μ (R l) Q := by
  rintro ν A s β t hR hI ⟨a', ra, rfl⟩
  cases ra
  obtain ⟨its, n, e, r, es⟩ := listLook hI hm
  refine wpAny_truthy_list ⟨_, e, rfl, n, rfl⟩ (by rw [es]; rw [sizeLine_eq] at hsz; lia) ⟨.mk', β, .rfl, _, μ, hI, ?_, h⟩
  show _ = _
  cases xs <;> simp_all [Array.isEmpty]
theorem call_len {l : Addr} {xs : List V} {Q : V → Led → Prop} (hm : (l, AObj.list xs) ∈ μ) (hsz : xs.length ≤ sizeLine) (h : Q (.int xs.length) μ) : callOk P d μ (B "len") [R l] [] Q := by
  rintro ν A s β t hR hI ⟨f', as, ks, rf, ra, rk, rfl⟩
  cases rf
  cases rk.nil'
  obtain ⟨_, rfl, r1⟩ := ra.one
  cases r1
  obtain ⟨its, n, e, r, es⟩ := listLook hI hm
  refine PyProof.Rows.len_list (items := its) ⟨_, e, rfl, n, rfl⟩ (by rw [es]; rw [sizeLine_eq] at hsz; lia) ⟨.mk', β, .rfl, _, μ, hI, ?_, h⟩
  rw [es]; exact .int ..
theorem call_lenStr {l : List Nat} {Q : V → Led → Prop} (hsz : l.length ≤ sizeLine) (h : Q (.int l.length) μ) : callOk P d μ (B "len") [.str l] [] Q := by
  rintro ν A s β t hR hI ⟨f', as, ks, rf, ra, rk, rfl⟩
  cases rf
  cases rk.nil'
  obtain ⟨_, rfl, r1⟩ := ra.one
  cases r1
  refine PyProof.Rows.len_str (by rw [sizeLine_eq] at hsz; rw [mkS_len]; lia) ⟨.mk', β, .rfl, _, μ, hI, ?_, h⟩
  rw [mkS_len]; exact .int ..

/-! displays -/
theorem evOk.tuple {es k pos} {Q : V → Led → Prop} (h : evsOk P d env σ μ es fun vs μ1 => vs.length ≤ sizeLine ∧ Q (.tup vs) μ1) : evOk P d env σ μ (.Tuple es k pos) Q := fun A s β hR hI => by
  rw [arm_eval_Tuple]
  refine wpL.standAt_bind (wpL.bind ((h A s β pos hR hI).mono fun vs' β1 h1 le1 hX0 s1 e1 => ?_))
  obtain ⟨vs, μ1, I1, rs, hl, q1⟩ := hX0
  subst e1
  obtain ⟨I2, le2⟩ := I1.froze (push_keeps { cls := .type "tuple", data := .seq vs'.toArray }) get_size_none (Heap.get?_push_size _ rfl)
  exact wpAny_newObj_type ⟨.mk', _, le2, _, μ1, I2, .tup Fz.put_self (by simpa using rs.mono le2), q1⟩ (by show vs'.toArray.size ≤ sizeLine; rw [List.size_toArray, rs.length]; exact hl)
theorem evOk.list {es pos} {Q : V → Led → Prop} (h : evsOk P d env σ μ es fun vs μ1 => vs.length ≤ sizeLine ∧ ∀ l, Q (R l) ((l, .list vs) :: μ1)) : evOk P d env σ μ (.List es pos) Q := fun A s β hR hI => by
  rw [arm_eval_List]
  refine wpL.standAt_bind (wpL.bind ((h A s β pos hR hI).mono fun vs' β1 h1 le1 hX1 s1 e1 => ?_))
  obtain ⟨vs, μ1, I1, rs, hl, q1⟩ := hX1
  subst e1
  have I2 := I1.new (push_keeps { cls := .type "list", data := .seq vs'.toArray }) get_size_none (x := .list vs) ⟨_, Heap.get?_push_size _ rfl, _, _, rfl, by simpa using rs⟩
  exact wpAny_newObj_type ⟨.mk', β1, .rfl, _, _, I2.perm (List.Perm.swap ..), .raw _, q1 _⟩ (by show vs'.toArray.size ≤ sizeLine; rw [List.size_toArray, rs.length]; exact hl)
end
end Mine

namespace Mine
open PySem PySem.W PySem.Calls PyProof.Rows

section
variable {P : Par} {d : Nat} {env : Env} {σ : Loc} {μ : Led} {A : Around} {β : Fz} {s : Shared}

theorem VRel.strInv {l : List Nat} {x : Value} (h : VRel β (.str l) x) : ∃ t, x = .str (mkS l) t := by cases h; exact ⟨_, rfl⟩
/-! subscripts -/
noncomputable def subT (value slice : Expr) (a i : V) : Fz → Sem Value → Prop := fun β t => ∃ a' i', VRel β a a' ∧ VRel β i i' ∧ t = subscriptTail value slice a' i'
noncomputable abbrev subOk (P : Par) (d : Nat) (μ : Led) (value slice : Expr) (a i : V) (Q : V → Led → Prop) : Prop := opOk P VRel d μ (subT value slice a i) Q
theorem evOk.sub {value slice : Expr} {pos} {Q : V → Led → Prop} (h : evOk P d env σ μ value fun o μ1 => evOk P d env σ μ1 slice fun i μ2 => subOk P d μ2 value slice o i Q) : evOk P d env σ μ (.Subscript value slice pos) Q := fun A s β hR hI => by
  rw [eval_Subscript]
  refine wpL.bind ((h A s β hR hI).mono fun a' β1 h1 le1 hX0 s1 e1 => ?_)
  refine away fun G hG => ?_
  obtain ⟨a, μ1, I1, ra, q1⟩ := hX0
  refine hG ?_
  clear hG G
  refine wpL.bind (wpL.holding ((q1 A s1 β1 hR (e1 ▸ I1)).mono fun i' β2 h2 le2 hX1 s2 e2 => ?_))
  refine away fun G hG => ?_
  obtain ⟨i, μ2, I2, ri, q2⟩ := hX1
  refine hG ?_
  clear hG G
  exact wpL.standAt_bind (q2.loc hR (e2 ▸ I2) ⟨a', i', ra.mono le2, ri, rfl⟩)
theorem sub_list {value slice : Expr} {l : Addr} {xs : List V} {k : Int} {v : V} {Q : V → Led → Prop} (hm : (l, AObj.list xs) ∈ μ) (h0 : 0 ≤ k) (hfit : k < 2 ^ 63) (hx : xs[k.toNat]? = some v) (h : Q v μ)
    (hs : ∀ u, subscripted slice false (.ref l) (.int k u) = operate [.ref l, .int k u] (getItem (.ref l) (.int k u))) : subOk P d μ value slice (R l) (.int k) Q := by
  rintro ν A s β t hR hI hY0
  refine away fun G hG => ?_
  obtain ⟨a', i', ra, ri, eY1⟩ := hY0
  refine hG ?_
  clear hG G
  subst eY1
  cases ra; cases ri
  refine away fun G hG => ?_
  obtain ⟨its, n, e, r, es⟩ := listLook hI hm
  refine hG ?_
  clear hG G
  refine away fun G hG => ?_
  obtain ⟨x, hx', rx⟩ := r.get hx
  refine hG ?_
  clear hG G
  exact tail_any ⟨_, e, rfl⟩ slot_list_getitem.lookup (wpAny_getItem_list ⟨_, e, rfl, n, rfl⟩ h0 hfit (by simpa using hx') ⟨.rfl, β, .rfl, v, μ, hI, rx, h⟩) (hs _)
theorem sub_str {value slice : Expr} {l : List Nat} {k : Int} {c : Nat} {Q : V → Led → Prop} (h0 : 0 ≤ k) (hfit : k < 2 ^ 63) (hx : l[k.toNat]? = some c) (h : Q (.str [c]) μ)
    (hs : ∀ t u, subscripted slice false (.str (mkS l) t) (.int k u) = operate [.str (mkS l) t, .int k u] (getItem (.str (mkS l) t) (.int k u))) : subOk P d μ value slice (.str l) (.int k) Q := by
  rintro ν A s β t hR hI hY0
  refine away fun G hG => ?_
  obtain ⟨a', i', ra, ri, eY1⟩ := hY0
  refine hG ?_
  clear hG G
  subst eY1
  cases ra; cases ri
  have hlt : k.toNat < l.length := (List.getElem?_eq_some_iff.mp hx).1
  refine tail_any (typeIs_str _ _ _) PySem.F.slot_str_getitem.lookup (PyProof.Rows.getItem_str (c := c) (by simp; lia) ?_ ⟨.mk', β, .rfl, _, μ, hI, .str [c] _, h⟩) (hs _ _)
  have hq : seqIndex? k l.length = some k.toNat := by unfold seqIndex?; simp; exact ar_idx h0 hlt
  show (seqIndex? k (mkS l).length).bind _ = _
  rw [mkS_len, hq]
  simpa using hx
/-! slices -/
noncomputable def optOk (P : Par) (d : Nat) (env : Env) (σ : Loc) (μ : Led) (e : Option Expr) (Q : Option Int → Led → Prop) : Prop :=
  ∀ A s β, Room A d → Inv P β ((env.locals, .ns σ) :: μ) s.heap → wpL P A β (evalPart e env) (fun x β' h' => ∃ k μ', Inv P β' ((env.locals, .ns σ) :: μ') h' ∧ IsPart x k ∧ Q k μ') s
theorem optOk.none_ {Q : Option Int → Led → Prop} (h : Q none μ) : optOk P d env σ μ none Q := fun A s β hR hI => by
  rw [evalPart_none]; exact wpL.pure ⟨none, μ, hI, .none, h⟩
theorem optOk.some_ {e} {Q : Option Int → Led → Prop} (h : evOk P d env σ μ e fun v μ1 => ∃ i, v = .int i ∧ Q (some i) μ1) : optOk P d env σ μ (some e) Q := fun A s β hR hI => by
  rw [evalPart_some]
  refine (h A s β hR hI).mono fun x β1 h1 le1 hX2 => ?_
  refine away fun G hG => ?_
  obtain ⟨v, μ1, I1, rv, i, e, q⟩ := hX2
  refine hG ?_
  clear hG G
  subst e
  cases rv
  exact ⟨some i, μ1, I1, .int .., q⟩
noncomputable def clip0 (n : Nat) (lo : Option Int) : Nat := lo.elim 0 (clipAt n)
noncomputable def clipN (n : Nat) (hi : Option Int) : Nat := hi.elim n (clipAt n)
noncomputable def pySlice {α : Type} (xs : List α) (lo hi : Option Int) : List α := (xs.drop (clip0 xs.length lo)).take (clipN xs.length hi - clip0 xs.length lo)

theorem evOk.sliceL {value : Expr} {lower upper : Option Expr} {p pos} {Q : V → Led → Prop} (ht : ∀ o r, letTemporaryGo value o r = pure ())
    (h : evOk P d env σ μ value fun o μ1 => optOk P d env σ μ1 lower fun lo μ2 => optOk P d env σ μ2 upper fun hi μ3 => ∃ l xs, o = R l ∧ (l, AObj.list xs) ∈ μ3 ∧ xs.length ≤ sizeLine ∧ ∀ l', Q (R l') ((l', .list (pySlice xs lo hi)) :: μ3)) : evOk P d env σ μ (.Subscript value (.Slice lower upper none p) pos) Q := fun A s β hR hI => by
  refine wpAny_Subscript_list_slice (wpAny_mono (h A s β hR hI) (fun o' s1 hX3 => ?_) fun _ _ x => x) ht
  refine away fun G hG => ?_
  obtain ⟨st1, β1, le1, o, μ1, I1, ro, q1⟩ := hX3
  refine hG ?_
  clear hG G
  refine wpAny_mono (q1 A s1 β1 hR I1) (fun lo' s2 hX4 => ?_) fun _ _ x => x
  refine away fun G hG => ?_
  obtain ⟨st2, β2, le2, lo, μ2, I2, rl, q2⟩ := hX4
  refine hG ?_
  clear hG G
  refine wpAny_mono (q2 A s2 β2 hR I2) (fun hi' s3 hX5 => ?_) fun _ _ x => x
  refine away fun G hG => ?_
  obtain ⟨st3, β3, le3, hi, μ3, I3, rh, l, xs, eo, hm, hsz, q3⟩ := hX5
  refine hG ?_
  clear hG G
  subst eo
  cases ro
  refine away fun G hG => ?_
  obtain ⟨o, e, its, n, eY1, r⟩ := I3.led _ (.tail _ hm)
  refine hG ?_
  clear hG G
  subst eY1
  have es : its.size = xs.length := by have := r.length; simpa using this
  refine ⟨l, its, lo, hi, rfl, ⟨_, e, rfl, n, rfl⟩, by lia, rl, rh, st1.trans (st2.trans (st3.trans ⟨rfl, rfl, rfl⟩)), β3, le1.trans (le2.trans le3), _, _, ?_, .raw _, q3 _⟩
  have I4 := I3.ext (push_keeps { cls := .type "slice", data := .fields #[lo', hi', .none] })
  have I5 := I4.new (push_keeps { cls := .type "list", data := .seq (slicePick its lo hi none) }) get_size_none (x := .list (pySlice xs lo hi)) ⟨_, Heap.get?_push_size _ rfl, _, _, rfl, ?_⟩
  · rw [Heap.size_push] at I5
    exact I5.perm (List.Perm.swap ..)
  · rw [slicePick_plain]
    show VsRel β3 ((xs.drop _).take _) ((its.toList.drop _).take _)
    unfold clip0 clipN
    rw [es]
    exact (r.drop _).take _

theorem picked_plain (x : List Nat) (lo hi : Option Int) : (Builtin.Str.strSliceIndices lo hi 1 x.length).filterMap (x.toArray[·]?) = pySlice x lo hi := by
  have hb := sliceBounds_plain lo hi x.length
  have e : Builtin.Str.strSliceIndices lo hi 1 x.length = sliceRange (sliceBounds lo hi none x.length).1 (sliceBounds lo hi none x.length).2.1 1 := by
    unfold Builtin.Str.strSliceIndices sliceBounds
    cases lo <;> cases hi <;> rfl
  rw [e, hb]
  show (sliceRange _ _ 1).filterMap _ = _
  rw [sliceRange_one, pick_run]
  rfl
theorem evOk.sliceS {value : Expr} {lower upper : Option Expr} {p pos} {Q : V → Led → Prop} (ht : ∀ o r, letTemporaryGo value o r = pure ())
    (h : evOk P d env σ μ value fun o μ1 => optOk P d env σ μ1 lower fun lo μ2 => optOk P d env σ μ2 upper fun hi μ3 => ∃ x, o = .str x ∧ x.length ≤ sizeLine ∧ Q (.str (pySlice x lo hi)) μ3) : evOk P d env σ μ (.Subscript value (.Slice lower upper none p) pos) Q := fun A s β hR hI => by
  refine wpAny_Subscript_str_slice (wpAny_mono (h A s β hR hI) (fun o' s1 hX6 => ?_) fun _ _ x => x) ht
  refine away fun G hG => ?_
  obtain ⟨st1, β1, le1, o, μ1, I1, ro, q1⟩ := hX6
  refine hG ?_
  clear hG G
  refine wpAny_mono (q1 A s1 β1 hR I1) (fun lo' s2 hX7 => ?_) fun _ _ x => x
  refine away fun G hG => ?_
  obtain ⟨st2, β2, le2, lo, μ2, I2, rl, q2⟩ := hX7
  refine hG ?_
  clear hG G
  refine wpAny_mono (q2 A s2 β2 hR I2) (fun hi' s3 hX8 => ?_) fun _ _ x => x
  refine away fun G hG => ?_
  obtain ⟨st3, β3, le3, hi, μ3, I3, rh, x, eo, hsz, q3⟩ := hX8
  refine hG ?_
  clear hG G
  subst eo
  refine away fun G hG => ?_
  obtain ⟨tk, eY1⟩ := ro.strInv
  refine hG ?_
  clear hG G
  subst eY1
  have I4 := I3.ext (push_keeps { cls := .type "slice", data := .fields #[lo', hi', .none] })
  have key : ∀ (l u : Option (Int × Tok)), l.map (·.1) = lo → u.map (·.1) = hi → (sliceMade (mkS x) tk l u none).post (LP β (EvP P VRel env.locals σ Q) s) { s3 with heap := s3.heap.push { cls := .type "slice", data := .fields #[lo', hi', .none] } } := fun l u el eu => by
    unfold sliceMade slicePicked
    rw [el, eu]
    have pk : (Builtin.Str.strSliceIndices lo hi 1 (mkS x).length).filterMap ((mkS x).cps[·]?) = pySlice x lo hi := by rw [mkS_len]; exact picked_plain x lo hi
    split
    · rename_i hc
      refine ⟨st1.trans (st2.trans (st3.trans ⟨rfl, rfl, rfl⟩)), β3, le1.trans (le2.trans le3), _, μ3, I4, ?_, q3⟩
      have hl : (Builtin.Str.strSliceIndices lo hi 1 x.length).length = x.length := by
        simp only [Option.map_none, Option.getD_none, mkS_len, beq_self_eq_true, Bool.true_and, beq_iff_eq] at hc
        exact hc
      have : pySlice x lo hi = x := by
        have hb := sliceBounds_plain lo hi x.length
        have e : Builtin.Str.strSliceIndices lo hi 1 x.length = sliceRange (sliceBounds lo hi none x.length).1 (sliceBounds lo hi none x.length).2.1 1 := by
          unfold Builtin.Str.strSliceIndices sliceBounds
          cases lo <;> cases hi <;> rfl
        rw [e, hb] at hl
        simp only [sliceRange_one, List.length_map, List.length_range] at hl
        unfold pySlice clip0 clipN
        have h1 : hi.elim x.length (clipAt x.length) ≤ x.length := by
          cases hi with
          | none => exact Nat.le_refl _
          | some i => show clipAt x.length i ≤ _; unfold clipAt; lia
        have h2 : lo.elim 0 (clipAt x.length) = 0 ∨ x.length = 0 := by lia
        rcases h2 with h2 | h2
        · rw [h2] at hl ⊢
          rw [List.drop_zero, hl, List.take_length]
        · have := List.eq_nil_of_length_eq_zero h2
          subst this; simp
      rw [this]; exact .str ..
    · have e2 : (Option.map (fun x : Int × Tok => x.1) none).getD 1 = (1 : Int) := rfl
      rw [e2, pk]
      refine ⟨?_, st1.trans (st2.trans (st3.trans ⟨rfl, rfl, rfl⟩)), β3, le1.trans (le2.trans le3), _, μ3, I4, .str .., q3⟩
      show (mkS _).length ≤ _
      rw [mkS_len]
      unfold pySlice
      rw [List.length_take, List.length_drop]; lia
  cases rl <;> cases rh
  · exact ⟨_, tk, none, none, rfl, rfl, rfl, key none none rfl rfl⟩
  · exact ⟨_, tk, none, some (_, _), rfl, rfl, rfl, key none (some (_, _)) rfl rfl⟩
  · exact ⟨_, tk, some (_, _), none, rfl, rfl, rfl, key (some (_, _)) none rfl rfl⟩
  · exact ⟨_, tk, some (_, _), some (_, _), rfl, rfl, rfl, key (some (_, _)) (some (_, _)) rfl rfl⟩
end
end Mine

namespace Mine
open PySem PySem.W PySem.Calls PyProof.Rows

section
variable {P : Par} {d : Nat} {env : Env} {σ : Loc} {μ : Led} {A : Around} {β : Fz} {s : Shared}

inductive NxP (P : Par) (A : Around) (target : Expr) (it : Addr) (x : V) (ρ : Led) (r : Option Value) (β' : Fz) (h' : Heap) : Prop
  | mk (y : Value) (e : r = some y) (q : ∀ s', s'.heap = h' → wpL P A β' (letOwnedTupleGo target (.ref it) y) (fun _ β'' h'' => Inv P β'' ρ h'' ∧ VRel β'' x y) s')
structure IterOk (P : Par) (target : Expr) (it : Addr) (I : Nat → AObj) (src : Led) (items : List V) : Prop where
  next : ∀ i x, items[i]? = some x → ∀ A s β ν, A.handled = none → Inv P β ((it, I i) :: (src ++ ν)) s.heap → wpL P A β (pyNext (.ref it)) (NxP P A target it x ((it, I (i + 1)) :: (src ++ ν))) s
  stop : ∀ A s β ν, A.handled = none → Inv P β ((it, I items.length) :: (src ++ ν)) s.heap → wpL P A β (pyNext (.ref it)) (fun r β' h' => r = none ∧ Inv P β' (src ++ ν) h') s
  self : ∀ i A s β ν, Inv P β ((it, I i) :: (src ++ ν)) s.heap → wpL P A β (pyIter (.ref it)) (fun v β' h' => v = .ref it ∧ Inv P β' ((it, I i) :: (src ++ ν)) h') s

inductive ItP (P : Par) (target : Expr) (ν : Led) (Q : Led → List V → Led → Prop) (it : Value) (β' : Fz) (h' : Heap) : Prop
  | mk (a : Addr) (I : Nat → AObj) (src : Led) (items : List V) (μ' : Led) (e : it = .ref a) (ok : IterOk P target a I src items) (inv : Inv P β' ((a, I 0) :: (μ' ++ ν)) h') (q : Q src items μ')
noncomputable def itOk (P : Par) (d : Nat) (μ : Led) (target : Expr) (v : V) (Q : Led → List V → Led → Prop) : Prop :=
  ∀ ν A s β x, Room A d → Inv P β (μ ++ ν) s.heap → VRel β v x → wpL P A β (pyIter x) (ItP P target ν Q) s

noncomputable def ForOk (P : Par) (d : Nat) (env : Env) (src : Led) (items : List V) (σ : Loc) (μ : Led) (target : Expr) (body : List Stmt) (Q : Fl → Loc → Led → Prop) : Prop :=
  ∃ J : Nat → Loc → Led → Prop, J 0 σ μ ∧ (∀ i σ μ, J i σ μ → ∃ rest, μ.Perm (src ++ rest)) ∧
    (∀ i x σ μ, items[i]? = some x → J i σ μ → asOk P d env σ μ target x fun σ1 μ1 => exsOk P d env σ1 μ1 body fun f σ2 μ2 => match f with
      | .next => J (i + 1) σ2 μ2
      | .cont => J (i + 1) σ2 μ2
      | .brk => Q .next σ2 μ2
      | .ret v => Q (.ret v) σ2 μ2) ∧
    (∀ σ μ, J items.length σ μ → Q .next σ μ)

theorem FlRel.thaw {ks : List Addr} (hk : ∀ {v x}, VRel β v x → VRel (Mine.thaw β ks) v x) : ∀ {f x}, FlRel β f x → FlRel (Mine.thaw β ks) f x
  | _, _, .next => .next
  | _, _, .brk => .brk
  | _, _, .cont => .cont
  | _, _, .ret r => .ret (hk r)

inductive ExU (P : Par) (L : Addr) (ν : Led) (Q : Fl → Loc → Led → Prop) (x : Flow) (β' : Fz) (h' : Heap) : Prop
  | mk (f : Fl) (σ' : Loc) (μ' : Led) (I : Inv P β' (((L, .ns σ') :: μ') ++ ν) h') (r : FlRel β' f x) (q : Q f σ' μ')
inductive AsU (P : Par) (L : Addr) (ν : Led) (Q : Loc → Led → Prop) (_u : Unit) (β' : Fz) (h' : Heap) : Prop
  | mk (σ' : Loc) (μ' : Led) (I : Inv P β' (((L, .ns σ') :: μ') ++ ν) h') (q : Q σ' μ')
inductive EvU (P : Par) (L : Addr) (σ : Loc) (ν : Led) (Q : V → Led → Prop) (x : Value) (β' : Fz) (h' : Heap) : Prop
  | mk (v : V) (μ' : Led) (I : Inv P β' (((L, .ns σ) :: μ') ++ ν) h') (r : VRel β' v x) (q : Q v μ')
inductive IsU (P : Par) (L : Addr) (σ : Loc) (ν : Led) (Q : Bool → Led → Prop) (b : Bool) (β' : Fz) (h' : Heap) : Prop
  | mk (μ' : Led) (I : Inv P β' (((L, .ns σ) :: μ') ++ ν) h') (q : Q b μ')
theorem exsOk.under {sts} {Q : Fl → Loc → Led → Prop} (h : exsOk P d env σ μ sts Q) {ν : Led} (hR : Room A d) (hI : Inv P β (((env.locals, .ns σ) :: μ) ++ ν) s.heap) :
    wpL P A β (execs sts env) (ExU P env.locals ν Q) s := by
  refine away fun G hG => ?_
  obtain ⟨I1, le1⟩ := hI.freeze
  refine hG ?_
  clear hG G
  refine wpAny_mono (h A s _ hR I1) (fun x s' hX0 => ?_) fun _ _ x => x
  refine away fun G hG => ?_
  obtain ⟨st, β', le', f, σ', μ', I', r, q⟩ := hX0
  refine hG ?_
  clear hG G
  refine away fun G hG => ?_
  obtain ⟨I2, le2, hv⟩ := hI.thaw I' le'
  refine hG ?_
  clear hG G
  exact ⟨st, _, le2, f, σ', μ', I2, r.thaw hv, q⟩
theorem asOk.under {t v} {Q : Loc → Led → Prop} (h : asOk P d env σ μ t v Q) {ν : Led} {x : Value} (hR : Room A d) (hI : Inv P β (((env.locals, .ns σ) :: μ) ++ ν) s.heap) (hv : VRel β v x) :
    wpL P A β (assign t env x) (AsU P env.locals ν Q) s := by
  refine away fun G hG => ?_
  obtain ⟨I1, le1⟩ := hI.freeze
  refine hG ?_
  clear hG G
  refine wpAny_mono (h A s _ x hR I1 (hv.mono le1)) (fun x s' hX1 => ?_) fun _ _ x => x
  refine away fun G hG => ?_
  obtain ⟨st, β', le', σ', μ', I', q⟩ := hX1
  refine hG ?_
  clear hG G
  refine away fun G hG => ?_
  obtain ⟨I2, le2, hv⟩ := hI.thaw I' le'
  refine hG ?_
  clear hG G
  exact ⟨st, _, le2, σ', μ', I2, q⟩
theorem evOk.under {e} {Q : V → Led → Prop} (h : evOk P d env σ μ e Q) {ν : Led} (hR : Room A d) (hI : Inv P β (((env.locals, .ns σ) :: μ) ++ ν) s.heap) :
    wpL P A β (eval e env) (EvU P env.locals σ ν Q) s := by
  refine away fun G hG => ?_
  obtain ⟨I1, le1⟩ := hI.freeze
  refine hG ?_
  clear hG G
  refine wpAny_mono (h A s _ hR I1) (fun x s' hX2 => ?_) fun _ _ x => x
  refine away fun G hG => ?_
  obtain ⟨st, β', le', v, μ', I', r, q⟩ := hX2
  refine hG ?_
  clear hG G
  refine away fun G hG => ?_
  obtain ⟨I2, le2, hv⟩ := hI.thaw I' le'
  refine hG ?_
  clear hG G
  exact ⟨st, _, le2, v, μ', I2, hv r, q⟩
theorem isOk.under {e} {Q : Bool → Led → Prop} (h : isOk P d env σ μ e Q) {ν : Led} (hR : Room A d) (hI : Inv P β (((env.locals, .ns σ) :: μ) ++ ν) s.heap) :
    wpL P A β (isTrue e env (eval e env)) (IsU P env.locals σ ν Q) s := by
  refine away fun G hG => ?_
  obtain ⟨I1, le1⟩ := hI.freeze
  refine hG ?_
  clear hG G
  refine wpAny_mono (h A s _ hR I1) (fun x s' hX3 => ?_) fun _ _ x => x
  refine away fun G hG => ?_
  obtain ⟨st, β', le', μ', I', q⟩ := hX3
  refine hG ?_
  clear hG G
  refine away fun G hG => ?_
  obtain ⟨I2, le2, hv⟩ := hI.thaw I' le'
  refine hG ?_
  clear hG G
  exact ⟨st, _, le2, μ', I2, q⟩

inductive ForI (P : Par) (L a : Addr) (I : Nat → AObj) (len : Nat) (J : Nat → Loc → Led → Prop) (s2 : Shared) (β2 : Fz) (n : Nat) (s' : Shared) : Prop
  | mk (i : Nat) (σi : Loc) (μi : Led) (β' : Fz) (e : n = len - i) (hi : i ≤ len) (st : St s2 s') (le : β2.le β') (inv : Inv P β' (((L, .ns σi) :: μi) ++ [(a, I i)]) s'.heap) (j : J i σi μi)
theorem exOk.for_ {target iter body pos} {Q : Fl → Loc → Led → Prop} (h : evOk P d env σ μ iter fun v μ1 => itOk P d μ1 target v fun src items μ2 => ForOk P d env src items σ μ2 target body Q)
    (hs : ∀ x, foldedSetIterable iter env x = pure x) : exOk P d env σ μ (.For target iter body [] pos) Q := fun A s β hR hI => by
  refine wpAny_For (wpAny_mono (h A s β hR hI) (fun x s1 hX4 => ?_) fun _ _ x => x) hs
  refine away fun G hG => ?_
  obtain ⟨st1, β1, le1, v, μ1, I1, r1, q1⟩ := hX4
  refine hG ?_
  clear hG G
  refine wpAny_mono (q1 [(env.locals, .ns σ)] A s1 β1 x hR (I1.perm (List.perm_append_comm (l₁ := [_]) (l₂ := μ1))) r1) (fun it s2 hX5 => ?_) fun _ _ x => x
  refine away fun G hG => ?_
  obtain ⟨st2, β2, le2, a, I, src, items, μ2, ei, hIt, I2, J, j0, jsrc, jstep, jend⟩ := hX5
  refine hG ?_
  clear hG G
  subst ei
  have hinit : Inv P β2 (((env.locals, .ns σ) :: μ2) ++ [(a, I 0)]) s2.heap := I2.perm (by
    refine List.Perm.trans (List.Perm.cons _ (List.perm_append_comm (l₁ := μ2) (l₂ := [(env.locals, AObj.ns σ)]))) ?_
    exact List.perm_append_comm (l₁ := [(a, I 0)]) (l₂ := (env.locals, AObj.ns σ) :: μ2))
  refine codeAny_forLoop_any (ForI P env.locals a I items.length J s2 β2) ?_ items.length ⟨0, σ, μ2, β2, rfl, Nat.zero_le _, .rfl, .rfl, hinit, j0⟩
  rintro n s' hY0
  refine away fun G hG => ?_
  obtain ⟨i, σi, μi, β', eY1, hi, st', le', I', j⟩ := hY0
  refine hG ?_
  clear hG G
  subst eY1
  have sto : St s s' := st1.trans (st2.trans st')
  have leo : β.le β' := le1.trans (le2.trans le')
  refine away fun G hG => ?_
  obtain ⟨rest, hperm⟩ := jsrc i σi μi j
  refine hG ?_
  clear hG G
  have hp2 : (((env.locals, AObj.ns σi) :: μi) ++ [(a, I i)]).Perm ((a, I i) :: (src ++ (rest ++ [(env.locals, .ns σi)]))) := by
    refine (List.perm_append_comm (l₁ := (env.locals, AObj.ns σi) :: μi) (l₂ := [(a, I i)])).trans (List.Perm.cons _ ?_)
    rw [← List.append_assoc]
    exact (List.Perm.cons _ hperm).trans (List.perm_append_comm (l₁ := [(env.locals, AObj.ns σi)]) (l₂ := src ++ rest))
  by_cases hlt : i < items.length
  · have hx : items[i]? = some items[i] := List.getElem?_eq_getElem hlt
    refine wpAny_mono (hIt.next i _ hx A s' β' (rest ++ [(env.locals, .ns σi)]) hR.handled (I'.perm hp2)) (fun r s3 hX6 => ?_) fun _ _ x => x.elim
    refine away fun G hG => ?_
    obtain ⟨st3, β3, le3, y, er, hown⟩ := hX6
    refine hG ?_
    clear hG G
    subst er
    have hp3 : ((a, I (i + 1)) :: (src ++ (rest ++ [(env.locals, AObj.ns σi)]))).Perm ((a, I (i + 1)) :: ((env.locals, AObj.ns σi) :: μi)) := by
      refine List.Perm.cons _ ?_
      rw [← List.append_assoc]
      exact (List.perm_append_comm (l₁ := src ++ rest) (l₂ := [(env.locals, AObj.ns σi)])).trans (List.Perm.cons _ hperm.symm)
    refine wpAny_mono (hown s3 rfl) (fun _ s4 hX7 => ?_) fun _ _ x => x.elim
    refine away fun G hG => ?_
    obtain ⟨st4, β4, le4, I4, rv⟩ := hX7
    refine hG ?_
    clear hG G
    have I5 : Inv P β4 (((env.locals, .ns σi) :: μi) ++ [(a, I (i + 1))]) s4.heap := (I4.perm hp3).perm (List.perm_append_comm (l₁ := [(a, I (i + 1))]) (l₂ := (env.locals, AObj.ns σi) :: μi))
    refine wpAny_mono ((jstep i _ σi μi hx j).under hR I5 rv) (fun _ s5 hX8 => ?_) fun _ _ x => x.elim
    refine away fun G hG => ?_
    obtain ⟨st5, β5, le5, σ1, μ1', I6, q⟩ := hX8
    refine hG ?_
    clear hG G
    refine wpAny_mono (q.under hR I6) (fun fl s6 hX9 => ?_) fun _ _ x => x.elim
    refine away fun G hG => ?_
    obtain ⟨st6, β6, le6, f, σ2, μ2', I7, rf, q2⟩ := hX9
    refine hG ?_
    clear hG G
    have stn : St s' s6 := st3.trans (st4.trans (st5.trans st6))
    have len : β'.le β6 := le3.trans (le4.trans (le5.trans le6))
    cases rf with
    | next => exact ⟨items.length - (i + 1), ar_dec hlt, i + 1, σ2, μ2', β6, rfl, hlt, st'.trans stn, le'.trans len, I7, q2⟩
    | cont => exact ⟨items.length - (i + 1), ar_dec hlt, i + 1, σ2, μ2', β6, rfl, hlt, st'.trans stn, le'.trans len, I7, q2⟩
    | brk => exact ⟨sto.trans stn, β6, leo.trans len, .next, σ2, μ2', I7.forget (List.sublist_append_left ..), .next, q2⟩
    | ret rv => exact ⟨sto.trans stn, β6, leo.trans len, .ret _, σ2, μ2', I7.forget (List.sublist_append_left ..), .ret rv, q2⟩
  · have he : i = items.length := by lia
    subst he
    refine wpAny_mono (hIt.stop A s' β' (rest ++ [(env.locals, .ns σi)]) hR.handled (I'.perm hp2)) (fun r s3 hX10 => ?_) fun _ _ x => x.elim
    refine away fun G hG => ?_
    obtain ⟨st3, β3, le3, er, I3⟩ := hX10
    refine hG ?_
    clear hG G
    subst er
    have hp3 : (src ++ (rest ++ [(env.locals, AObj.ns σi)])).Perm ((env.locals, AObj.ns σi) :: μi) := by
      rw [← List.append_assoc]
      exact (List.perm_append_comm (l₁ := src ++ rest) (l₂ := [(env.locals, AObj.ns σi)])).trans (List.Perm.cons _ hperm.symm)
    exact wpAny_execs_nil ⟨sto.trans st3, β3, leo.trans le3, .next, σi, μi, I3.perm hp3, .next, jend σi μi j⟩

/-! while -/
noncomputable def WhileOk (P : Par) (d : Nat) (env : Env) (σ : Loc) (μ : Led) (test : Expr) (body : List Stmt) (Q : Fl → Loc → Led → Prop) : Prop :=
  ∃ J : Nat → Loc → Led → Prop, (∃ n, J n σ μ) ∧ (∀ n σ μ, J n σ μ → isOk P d env σ μ test fun b μ1 => if b then exsOk P d env σ μ1 body fun f σ2 μ2 => match f with
      | .next => ∃ m, m < n ∧ J m σ2 μ2
      | .cont => ∃ m, m < n ∧ J m σ2 μ2
      | .brk => Q .next σ2 μ2
      | .ret v => Q (.ret v) σ2 μ2
    else Q .next σ μ1)
theorem exOk.while_ {test body pos} {Q : Fl → Loc → Led → Prop} (h : WhileOk P d env σ μ test body Q) : exOk P d env σ μ (.While test body [] pos) Q := fun A s β hR hI => by
  refine away fun G hG => ?_
  obtain ⟨J, ⟨n₀, j0⟩, jstep⟩ := h
  refine hG ?_
  clear hG G
  refine wpAny_While ?_
  refine codeAny_whileLoop (fun n s' => ∃ σi μi β', St s s' ∧ β.le β' ∧ Inv P β' ((env.locals, .ns σi) :: μi) s'.heap ∧ J n σi μi) ?_ n₀ ⟨σ, μ, β, .rfl, .rfl, hI, j0⟩
  rintro n s' hY0
  refine away fun G hG => ?_
  obtain ⟨σi, μi, β', st', le', I', j⟩ := hY0
  refine hG ?_
  clear hG G
  refine wpAny_mono (jstep n σi μi j A s' β' hR I') (fun b s1 hX11 => ?_) fun _ _ x => x.elim
  refine away fun G hG => ?_
  obtain ⟨st1, β1, le1, μ1, I1, q1⟩ := hX11
  refine hG ?_
  clear hG G
  cases b with
  | true =>
    refine wpAny_mono (q1 A s1 β1 hR I1) (fun fl s2 hX12 => ?_) fun _ _ x => x.elim
    refine away fun G hG => ?_
    obtain ⟨st2, β2, le2, f, σ2, μ2, I2, rf, q2⟩ := hX12
    refine hG ?_
    clear hG G
    cases rf with
    | next => obtain ⟨m, hm, jm⟩ := q2; exact ⟨m, hm, σ2, μ2, β2, st'.trans (st1.trans st2), le'.trans (le1.trans le2), I2, jm⟩
    | cont => obtain ⟨m, hm, jm⟩ := q2; exact ⟨m, hm, σ2, μ2, β2, st'.trans (st1.trans st2), le'.trans (le1.trans le2), I2, jm⟩
    | brk => exact ⟨st'.trans (st1.trans st2), β2, le'.trans (le1.trans le2), .next, σ2, μ2, I2, .next, q2⟩
    | ret rv => exact ⟨st'.trans (st1.trans st2), β2, le'.trans (le1.trans le2), .ret _, σ2, μ2, I2, .ret rv, q2⟩
  | false => exact wpAny_execs_nil ⟨st'.trans st1, β1, le'.trans le1, .next, σi, μ1, I1, .next, q1⟩
end
end Mine

namespace Mine
open PySem PySem.W PySem.Calls PyProof.Rows

section
variable {P : Par} {d : Nat} {env : Env} {σ : Loc} {μ : Led} {A : Around} {β : Fz} {s : Shared}

theorem Inv.gone {h h' : Heap} {a : Addr} {x : AObj} (I : Inv P β ((a, x) :: μ) h) (hs : Heap.ExtBut a h h') : Inv P β μ h' where
  base := I.base
  froz := fun b o e => hs b o (fun q => by rw [q, I.sep _ (.head _)] at e; cases e) (I.froz b o e)
  led := fun p hp => by
    refine away fun G hG => ?_
    obtain ⟨o, e, r⟩ := I.led p (.tail _ hp)
    refine hG ?_
    clear hG G
    have nd := I.nd
    simp only [List.map_cons, List.nodup_cons] at nd
    exact ⟨o, hs _ _ (fun q => nd.1 (q ▸ List.mem_map_of_mem hp)) e, r⟩
  sep := fun p hp => I.sep p (.tail _ hp)
  nd := by have nd := I.nd; simp only [List.map_cons, List.nodup_cons] at nd; exact nd.2
  tab := fun q hq => by
    refine away fun G hG => ?_
    obtain ⟨⟨ps, e1, e2⟩, e3, e4⟩ := I.tab q hq
    refine hG ?_
    clear hG G
    simp only [List.map_cons, List.mem_cons, not_or] at e4
    exact ⟨⟨ps, hs _ _ e4.1 e1, e2⟩, e3, e4.2⟩

theorem own_plain {target : Expr} {it : Addr} {y : Value} {o : Obj} {n : String} {Q : Unit → Fz → Heap → Prop} (ho : s.heap.get? it = some o) (hc : o.cls = .type n)
    (hn : ["enumerate", "zip", "dict_itemiterator", "dict_reverseitemiterator", "odict_iterator", "itertools.zip_longest", "itertools.pairwise"].contains n = false) (h : Q () β s.heap) : wpL P A β (letOwnedTupleGo target (.ref it) y) Q s := by
  have key : wpL P A β (do
      let (.ref r, .ref a) := (Value.ref it, y) | return
      let o ← load r
      match o.cls, o.data with
      | .type n, .fields vs =>
        if ["enumerate", "zip", "dict_itemiterator", "dict_reverseitemiterator", "odict_iterator", "itertools.zip_longest", "itertools.pairwise"].contains n && vs[0]? == some (rawInt a) then
          rule "for.unpacks-the-owned-tuple"
          updateField r 0 .none
      | _, _ => pure () : Sem Unit) Q s := by
    cases y with
    | ref b =>
      refine wpAny_bind (wpAny_load ho ?_)
      rw [hc]
      cases hd : o.data with
      | fields vs =>
        show wpAny _ _ (if (_ && _) = true then _ else _) _ _ _
        rw [hn, Bool.false_and, if_neg Bool.false_ne_true]
        exact wpL.pure h
      | _ => exact wpL.pure h
    | _ => exact wpL.pure h
  cases target with
  | Tuple _ _ _ => exact key
  | List _ _ => exact key
  | _ => exact wpL.pure h

noncomputable abbrev itO (n : String) (a : Value) (b : Value) : AObj := .pred (fun o => o.cls = .type n ∧ o.data = .fields #[a, b])
theorem itO_rel {n : String} {a b : Value} {o : Obj} (hc : o.cls = .type n) (hd : o.data = .fields #[a, b]) (hn : ∀ q t, b ≠ .str q t) : ORel β (itO n a b) o := ⟨⟨hc, hd⟩, fun h => by
  rcases h.cases with ⟨_, _, q⟩ | ⟨_, _, _, q, q'⟩
  · rw [q] at hd; cases hd
  · rw [hd] at q; cases q; simp at q'⟩

theorem list_ext_get {P : Par} {l : Addr} {xs : List V} {h : Heap} {ρ : Led} (I : Inv P β ρ h) (hm : (l, AObj.list xs) ∈ ρ) : ∃ its, h.IsList l its ∧ VsRel β xs its.toList ∧ its.size = xs.length := by
  refine away fun G hG => ?_
  obtain ⟨o, e, its, n, eY1, r⟩ := I.led _ hm
  refine hG ?_
  clear hG G
  subst eY1
  exact ⟨its, ⟨_, e, rfl, n, rfl⟩, r, by have := r.length; simpa using this⟩

/-! lists -/
theorem iter_list_ok {target : Expr} {it l : Addr} {xs : List V} : IterOk P target it (fun i => itO "list_iterator" (.ref l) (.int i 0)) [(l, .list xs)] xs where
  next := fun i x hx A s β ν hh hI => by
    refine away fun G hG => ?_
    obtain ⟨o, ho, ⟨hc, hd⟩, _⟩ := hI.led _ (.head _)
    refine hG ?_
    clear hG G
    refine away fun G hG => ?_
    obtain ⟨its, hl, r, es⟩ := list_ext_get hI (l := l) (xs := xs) (.tail _ (.head _))
    refine hG ?_
    clear hG G
    refine away fun G hG => ?_
    obtain ⟨y, hy, ry⟩ := r.get hx
    refine hG ?_
    clear hG G
    refine wpAny_pyNext_list_item ⟨o, ho, hc, hd⟩ hl (by simpa using hy) fun h' ⟨o', ho', hc', hd'⟩ hs => ⟨.mk', β, .rfl, y, rfl, fun s' e' => ?_⟩
    subst e'
    exact own_plain ho' hc' (by decide) ⟨hI.upd .head hs.extBut ⟨o', ho', itO_rel hc' hd' (fun _ _ q => by cases q)⟩, ry⟩
  stop := fun A s β ν hh hI => by
    refine away fun G hG => ?_
    obtain ⟨o, ho, ⟨hc, hd⟩, _⟩ := hI.led _ (.head _)
    refine hG ?_
    clear hG G
    refine away fun G hG => ?_
    obtain ⟨its, hl, r, es⟩ := list_ext_get hI (l := l) (xs := xs) (.tail _ (.head _))
    refine hG ?_
    clear hG G
    exact wpAny_pyNext_list_end hh ⟨o, ho, hc, hd⟩ hl (by rw [← es]; simp) fun h' hs => ⟨.mk', β, .rfl, rfl, hI.gone hs⟩
  self := fun i A s β ν hI => by
    refine away fun G hG => ?_
    obtain ⟨o, ho, ⟨hc, hd⟩, _⟩ := hI.led _ (.head _)
    refine hG ?_
    clear hG G
    exact wpAny_pyIter_listiter ⟨o, ho, hc, hd⟩ ⟨.rfl, β, .rfl, rfl, hI⟩
theorem it_list {target : Expr} {l : Addr} {xs : List V} {Q : Led → List V → Led → Prop} (hm : (l, AObj.list xs) ∈ μ) (h : Q [(l, .list xs)] xs μ) : itOk P d μ target (R l) Q := fun ν A s β x hR hI r => by
  cases r
  refine away fun G hG => ?_
  obtain ⟨its, hl, r, es⟩ := list_ext_get hI (List.mem_append_left _ hm)
  refine hG ?_
  clear hG G
  refine wpAny_pyIter_list hl ⟨.mk', β, .rfl, _, _, _, _, μ, rfl, iter_list_ok, ?_, h⟩
  exact hI.new (push_keeps _) get_size_none ⟨_, Heap.get?_push_size _ rfl, itO_rel rfl rfl (fun _ _ q => by cases q)⟩

/-! strs of ascii signs -/
noncomputable def chars (l : List Nat) : List V := l.map fun c => .str [c]
theorem iter_str_ok {target : Expr} {it : Addr} {x : List Nat} {t : Tok} : IterOk P target it (fun i => itO "str_ascii_iterator" (.str (mkS x) t) (.int i 0)) [] (chars x) where
  next := fun i v hv A s β ν hh hI => by
    refine away fun G hG => ?_
    obtain ⟨o, ho, ⟨hc, hd⟩, _⟩ := hI.led _ (.head _)
    refine hG ?_
    clear hG G
    unfold chars at hv
    rw [List.getElem?_map] at hv
    cases hx : x[i]? with
    | none => rw [hx] at hv; cases hv
    | some c =>
      rw [hx] at hv
      cases hv
      refine wpAny_pyNext_ascii_item (c := c) ⟨o, ho, hc, hd⟩ (by simpa using hx) fun h' ⟨o', ho', hc', hd'⟩ hs => ⟨.mk', β, .rfl, _, rfl, fun s' e' => ?_⟩
      subst e'
      exact own_plain ho' hc' (by decide) ⟨hI.upd .head hs.extBut ⟨o', ho', itO_rel hc' hd' (fun _ _ q => by cases q)⟩, VRel.str [c] _⟩
  stop := fun A s β ν hh hI => by
    refine away fun G hG => ?_
    obtain ⟨o, ho, ⟨hc, hd⟩, _⟩ := hI.led _ (.head _)
    refine hG ?_
    clear hG G
    refine wpAny_pyNext_ascii_end hh ⟨o, ho, hc, hd⟩ (by simp [chars]) fun h' hs => ⟨.mk', β, .rfl, rfl, hI.gone hs⟩
  self := fun i A s β ν hI => by
    refine away fun G hG => ?_
    obtain ⟨o, ho, ⟨hc, hd⟩, _⟩ := hI.led _ (.head _)
    refine hG ?_
    clear hG G
    exact wpAny_pyIter_striter_ascii ⟨o, ho, hc, hd⟩ ⟨.rfl, β, .rfl, rfl, hI⟩
theorem it_str {target : Expr} {x : List Nat} {Q : Led → List V → Led → Prop} (ha : ∀ c ∈ x, c < 128) (h : Q [] (chars x) μ) : itOk P d μ target (.str x) Q := fun ν A s β v hR hI r => by
  refine away fun G hG => ?_
  obtain ⟨t, eY1⟩ := r.strInv
  refine hG ?_
  clear hG G
  subst eY1
  refine wpAny_pyIter_ascii (by simpa using ha) ⟨.mk', β, .rfl, _, _, _, _, μ, rfl, iter_str_ok (t := t), ?_, h⟩
  exact hI.new (push_keeps _) get_size_none ⟨_, Heap.get?_push_size _ rfl, itO_rel rfl rfl (fun _ _ q => by cases q)⟩

/-! ranges -/
noncomputable abbrev rangeO (a b : Int) : AObj := .pred (fun o => ∃ t u v, o = { cls := .type "range", dict := none, data := .fields #[.int a t, .int b u, .int 1 v], slots := #[] })
noncomputable def rangeItO (x left step : Int) : AObj := .pred (fun o => o = { cls := .type "range_iterator", dict := none, data := .fields #[rawInt x, rawInt left, rawInt step], slots := #[] })
noncomputable def irange (a : Int) (n : Nat) : List V := (List.range n).map fun i : Nat => .int (a + i)
theorem iter_range_ok {target : Expr} {it : Addr} {a : Int} {n : Nat} : IterOk P target it (fun i => rangeItO (a + i) (n - i) 1) [] (irange a n) where
  next := fun i v hv A s β ν hh hI => by
    refine away fun G hG => ?_
    obtain ⟨o, ho, he, _⟩ := hI.led _ (.head _)
    refine hG ?_
    clear hG G
    subst he
    unfold irange at hv
    rw [List.getElem?_map] at hv
    have hlt : i < n := by
      by_cases q : i < n
      · exact q
      · rw [List.getElem?_eq_none (by simpa using Nat.le_of_not_lt q)] at hv; cases hv
    rw [List.getElem?_range hlt] at hv
    cases hv
    refine wpAny_pyNext_range_item ho (by lia) fun h' ho' hs => ⟨.mk', β, .rfl, _, rfl, fun s' e' => ?_⟩
    subst e'
    refine own_plain ho' rfl (by decide) ⟨hI.upd .head hs.extBut ⟨_, ho', ?_, ?_⟩, VRel.int _ _⟩
    · show _ = _
      congr 4
      · push_cast; rw [Int.add_assoc]
      · push_cast; congr 2; lia
    · intro q; rcases q.cases with ⟨_, _, q⟩ | ⟨_, _, _, q, q'⟩
      · have := congrArg Obj.data q; cases this
      · cases q; simp [rawInt] at q'
  stop := fun A s β ν hh hI => by
    refine away fun G hG => ?_
    obtain ⟨o, ho, he, _⟩ := hI.led _ (.head _)
    refine hG ?_
    clear hG G
    subst he
    exact wpAny_pyNext_range_end hh ho (by simp [irange]) fun h' hs => ⟨.mk', β, .rfl, rfl, hI.gone hs⟩
  self := fun i A s β ν hI => by
    refine away fun G hG => ?_
    obtain ⟨o, ho, he, _⟩ := hI.led _ (.head _)
    refine hG ?_
    clear hG G
    subst he
    exact wpAny_pyIter_rangeiter ho ⟨.rfl, β, .rfl, rfl, hI⟩
theorem it_range {target : Expr} {r : Addr} {a b : Int} {n : Nat} {Q : Led → List V → Led → Prop} (hm : (r, rangeO a b) ∈ μ) (hsm : Builtin.Range.small a b 1 = true) (hn : Builtin.Range.rangeSize a b 1 = (n : Int)) (h : Q [] (irange a n) μ) : itOk P d μ target (R r) Q := fun ν A s β v hR hI rr => by
  cases rr
  refine away fun G hG => ?_
  obtain ⟨o, ho, ⟨t, u, w, he⟩, _⟩ := hI.led _ (List.mem_append_left _ hm)
  refine hG ?_
  clear hG G
  subst he
  refine wpAny_pyIter_range ho hsm ⟨.mk', β, .rfl, _, _, _, _, μ, rfl, iter_range_ok (a := a) (n := n), ?_, h⟩
  refine hI.new (push_keeps _) get_size_none ⟨_, Heap.get?_push_size _ rfl, ?_, ?_⟩
  · show _ = _
    rw [hn]; simp
  · intro q; rcases q.cases with ⟨_, _, q⟩ | ⟨_, _, _, q, q'⟩
    · have := congrArg Obj.data q; cases this
    · cases q; simp [rawInt] at q'
theorem rangeO_rel {a b : Int} {t u v : Tok} : ORel β (rangeO a b) { cls := .type "range", dict := none, data := .fields #[.int a t, .int b u, .int 1 v], slots := #[] } := ⟨⟨t, u, v, rfl⟩, fun q => by
  rcases q.cases with ⟨_, _, q⟩ | ⟨_, _, _, q, q'⟩
  · have := congrArg Obj.data q; cases this
  · cases q; simp at q'⟩
theorem call_range1 {n : Int} {Q : V → Led → Prop} (h : ∀ r, Q (R r) ((r, rangeO 0 n) :: μ)) : callOk P d μ (T "range") [.int n] [] Q := by
  rintro ν A s β t hR hI hY0
  refine away fun G hG => ?_
  obtain ⟨f', as, ks, rf, ra, rk, eY1⟩ := hY0
  refine hG ?_
  clear hG G
  subst eY1
  cases rf
  cases rk.nil'
  refine away fun G hG => ?_
  obtain ⟨_, eY1, r1⟩ := ra.one
  refine hG ?_
  clear hG G
  subst eY1
  cases r1
  exact call_range_1 ⟨.mk', β, .rfl, _, _, hI.new (push_keeps _) get_size_none ⟨_, Heap.get?_push_size _ rfl, rangeO_rel⟩, .raw _, h _⟩
theorem call_range2 {a b : Int} {Q : V → Led → Prop} (h : ∀ r, Q (R r) ((r, rangeO a b) :: μ)) : callOk P d μ (T "range") [.int a, .int b] [] Q := by
  rintro ν A s β t hR hI hY0
  refine away fun G hG => ?_
  obtain ⟨f', as, ks, rf, ra, rk, eY1⟩ := hY0
  refine hG ?_
  clear hG G
  subst eY1
  cases rf
  cases rk.nil'
  refine away fun G hG => ?_
  obtain ⟨_, _, eY1, r1, r2⟩ := ra.two
  refine hG ?_
  clear hG G
  subst eY1
  cases r1; cases r2
  exact call_range_2 ⟨.mk', β, .rfl, _, _, hI.new (push_keeps _) get_size_none ⟨_, Heap.get?_push_size _ rfl, rangeO_rel⟩, .raw _, h _⟩
end
end Mine

namespace Mine
open PySem PySem.W PySem.Calls PyProof.Rows

section
variable {P : Par} {d : Nat} {env : Env} {σ : Loc} {μ : Led} {A : Around} {β : Fz} {s : Shared}

noncomputable def tstOk (P : Par) (d : Nat) (env : Env) (σ : Loc) (μ : Led) : List Expr → (Bool → Led → Prop) → Prop
  | [], Q => Q true μ
  | [c], Q => isOk P d env σ μ c Q
  | _, _ => False

noncomputable def CompOk (P : Par) (d : Nat) (env : Env) (src : Led) (items : List V) (σ : Loc) (μ : Led) (target elt : Expr) (ifs : List Expr) (Q : List V → Led → Prop) : Prop :=
  items.length ≤ sizeLine ∧ (∀ p ∈ σ, p.2 = none) ∧ (σ.map (·.1)).Nodup ∧
  ∃ J : Nat → List V → Loc → Led → Prop, J 0 [] σ μ ∧ (∀ i ys σ μ, J i ys σ μ → ∃ rest, μ.Perm (src ++ rest)) ∧
    (∀ i x ys σ μ, items[i]? = some x → J i ys σ μ → asOk P d env σ μ target x fun σ1 μ1 => tstOk P d env σ1 μ1 ifs fun b μ2 =>
      if b then evOk P d env σ1 μ2 elt fun v μ3 => J (i + 1) (ys ++ [v]) σ1 μ3 else J (i + 1) ys σ1 μ2) ∧
    (∀ ys σ μ, J items.length ys σ μ → Q ys μ)

theorem comp_loop {elt target iter : Expr} {ifs : List Expr} {scope : Scope} {pos : Pos} {it acc : Value} {cenv : Env} {R : Result → Shared → Prop} (I : Nat → Shared → Prop) (hifs : ifs = [] ∨ ∃ c, ifs = [c])
    (turn : ∀ n s, I n s → wpAny (model P.prog P.w) A (pyNext it) (fun r s₁ => match r with
      | none => R (.ok .next) s₁
      | some v => wpAny (model P.prog P.w) A (letOwnedTupleGo target it v) (fun _ s₀ => wpAny (model P.prog P.w) A (assign target cenv v) (fun _ s₂ =>
          (match ifs with
            | [] => wpAny (model P.prog P.w) A (eval elt cenv) (fun x s₄ => wpAny (model P.prog P.w) A (call (.builtin "list.append") [acc, x]) (fun _ s₅ => ∃ m, m < n ∧ I m s₅) (fun _ _ => False) s₄) (fun _ _ => False) s₂
            | c :: _ => wpAny (model P.prog P.w) A (isTrue c cenv (eval c cenv)) (fun ok s₃ => if ok = true then wpAny (model P.prog P.w) A (eval elt cenv) (fun x s₄ =>
              wpAny (model P.prog P.w) A (call (.builtin "list.append") [acc, x]) (fun _ s₅ => ∃ m, m < n ∧ I m s₅) (fun _ _ => False) s₄) (fun _ _ => False) s₃
              else ∃ m, m < n ∧ I m s₃) (fun _ _ => False) s₂)) (fun _ _ => False) s₀) (fun _ _ => False) s₁) (fun _ _ => False) s)
    (n : Nat) (h : I n s) : codeAny (model P.prog P.w) A (.compLoop (.ListComp elt [⟨target, iter, ifs, 0⟩] scope pos) 0 it acc cenv) R s := by
  rcases hifs with rfl | ⟨c, rfl⟩
  · refine kcp_loop I (fun n s hI => wpAny_mono (turn n s hI) (fun r s₁ h₁ => ?_) fun _ _ f => f.elim) n h
    cases r with
    | none => exact h₁
    | some v => exact wpAny_mono h₁ (fun _ s₀ h₀ => wpAny_mono h₀ (fun _ s₂ h₂ => wpAny_mono h₂ (fun x s₄ h₄ => wpAny_mono h₄ (fun _ _ q => q) fun _ _ f => f.elim) fun _ _ f => f.elim) fun _ _ f => f.elim) fun _ _ f => f.elim
  · refine kct_loop I (fun n s hI => wpAny_mono (turn n s hI) (fun r s₁ h₁ => ?_) fun _ _ f => f.elim) n h
    cases r with
    | none => exact h₁
    | some v =>
      refine wpAny_mono h₁ (fun _ s₀ h₀ => wpAny_mono h₀ (fun _ s₂ h₂ => wpAny_mono h₂ (fun b s₃ h₃ => ?_) fun _ _ f => f.elim) fun _ _ f => f.elim) fun _ _ f => f.elim
      cases b with
      | false => exact h₃
      | true => exact wpAny_mono h₃ (fun x s₄ h₄ => wpAny_mono h₄ (fun _ _ q => q) fun _ _ f => f.elim) fun _ _ f => f.elim

theorem perm_in {c l dd a : Addr × AObj} {μ src rest : Led} (h : μ.Perm (src ++ rest)) : ((c :: μ) ++ [l, dd, a]).Perm (a :: (src ++ (rest ++ [l, dd, c]))) := by
  have h1 : ((c :: μ) ++ [l, dd, a]).Perm (l :: dd :: a :: c :: μ) := List.perm_append_comm (l₁ := c :: μ) (l₂ := [l, dd, a])
  have h2 : (l :: dd :: a :: c :: μ).Perm (a :: l :: dd :: c :: μ) := (List.Perm.cons l (List.Perm.swap a dd _)).trans (List.Perm.swap a l _)
  have h3 : (src ++ (rest ++ [l, dd, c])).Perm (l :: dd :: c :: μ) := by
    rw [← List.append_assoc]
    exact (List.perm_append_comm (l₁ := src ++ rest) (l₂ := [l, dd, c])).trans (((h.symm.cons c).cons dd).cons l)
  exact h1.trans (h2.trans (h3.symm.cons a))
theorem perm_acc {c l dd a : Addr × AObj} {μ : Led} : ((c :: μ) ++ [l, dd, a]).Perm ([dd] ++ (c :: μ ++ [l, a])) := by
  have h1 : ((c :: μ) ++ [l, dd, a]).Perm (l :: dd :: a :: c :: μ) := List.perm_append_comm (l₁ := c :: μ) (l₂ := [l, dd, a])
  have h2 : (l :: dd :: a :: c :: μ).Perm (dd :: l :: a :: c :: μ) := List.Perm.swap _ _ _
  have h3 : (c :: μ ++ [l, a]).Perm (l :: a :: c :: μ) := List.perm_append_comm (l₁ := c :: μ) (l₂ := [l, a])
  exact h1.trans (h2.trans (h3.symm.cons dd))

inductive CompI (P : Par) (L C D a : Addr) (σ : Loc) (I : Nat → AObj) (len : Nat) (J : Nat → List V → Loc → Led → Prop) (s : Shared) (β : Fz) (n : Nat) (s' : Shared) : Prop
  | mk (i : Nat) (ys : List V) (σi : Loc) (μi : Led) (β' : Fz) (e : n = len - i) (hi : i ≤ len) (hyl : ys.length ≤ i) (st : St s s') (le : β.le β') (inv : Inv P β' (((C, .ns σi) :: μi) ++ [(L, .ns σ), (D, .list ys), (a, I i)]) s'.heap) (j : J i ys σi μi)
theorem comp_core {elt target iter : Expr} {ifs : List Expr} {scope : Scope} {cl : List (Str × Addr)} {pos : Pos} {RR : Value → Addr → Result → Shared → Prop} {σc : Loc} {Q : List V → Led → Prop}
    (hifs : ifs = [] ∨ ∃ c, ifs = [c])
    (hcell : ∀ y ∈ scope.names, y.2 ≠ .cell) (hkind : scope.kind = .function)
    (h : evOk P d env σ μ iter fun v μ1 => itOk P d μ1 target v fun src items μ2 => ∀ C, CompOk P d (compEnvC scope cl C env) src items σc μ2 target elt ifs Q)
    (hR : Room A d) (hI : Inv P β ((env.locals, .ns σ) :: μ) s.heap)
    (hRR : ∀ D C s' β' ys μ' σ', St s s' → β.le β' → Inv P β' ((C, .ns σ') :: (D, .list ys) :: (env.locals, .ns σ) :: μ') s'.heap → Q ys μ' → RR (.ref D) C (.ok .next) s') :
    wpAny (model P.prog P.w) A (eval iter env) (fun x s₁ => wpAny (model P.prog P.w) A (pyIter x) (fun it s₂ => wpAny (model P.prog P.w) A (newList []) (fun acc s₃ =>
      wpAny (model P.prog P.w) A (newFunctionEnv scope env.globals cl [] env.qual none .none (some env)) (fun cenv s₄ =>
        codeAny (model P.prog P.w) A (.compStart (.ListComp elt [⟨target, iter, ifs, 0⟩] scope pos) 0 it acc { cenv with scope := relabel scope env }) (RR acc cenv.locals) s₄) (fun _ _ => False) s₃) (fun _ _ => False) s₂) (fun _ _ => False) s₁) (fun _ _ => False) s := by
  refine wpAny_mono (h A s β hR hI) (fun x s1 hX0 => ?_) fun _ _ x => x
  refine away fun G hG => ?_
  obtain ⟨st1, β1, le1, v, μ1, I1, r1, q1⟩ := hX0
  refine hG ?_
  clear hG G
  refine wpAny_mono (q1 [(env.locals, .ns σ)] A s1 β1 x hR (I1.perm (List.perm_append_comm (l₁ := [_]) (l₂ := μ1))) r1) (fun it s2 hX1 => ?_) fun _ _ x => x
  refine away fun G hG => ?_
  obtain ⟨st2, β2, le2, a, I, src, items, μ2, ei, hIt, I2, hCo⟩ := hX1
  refine hG ?_
  clear hG G
  subst ei
  refine wpAny_newObj_type (wpAny_newFunctionEnv hcell (by intro y hy; simp at hy) (fun h₁ hns₁ hsb₁ => ?_) hkind)
  refine away fun G hG => ?_
  obtain ⟨hlen, hnone, hnd, J, j0, jsrc, jstep, jend⟩ := hCo (s2.heap.push { cls := .type "list", data := .seq ([] : List Value).toArray }).objs.size
  refine hG ?_
  clear hG G
  generalize eD : s2.heap.objs.size = D at *
  have I3 : Inv P β2 ((D, .list []) :: (a, I 0) :: (μ2 ++ [(env.locals, .ns σ)])) (s2.heap.push { cls := .type "list", data := .seq ([] : List Value).toArray }) := by
    rw [← eD]
    exact I2.new (push_keeps _) get_size_none ⟨_, Heap.get?_push_size _ rfl, _, _, rfl, .nil⟩
  dsimp only at hns₁ hsb₁ ⊢
  generalize (s2.heap.push { cls := .type "list", data := .seq ([] : List Value).toArray }) = H2 at *
  generalize eC : H2.objs.size = C at *
  have hCn : H2.get? C = none := by rw [← eC]; exact get_size_none
  have I4 : Inv P β2 ((C, .ns σc) :: (D, .list []) :: (a, I 0) :: (μ2 ++ [(env.locals, .ns σ)])) h₁ := by
    refine away fun G hG => ?_
    obtain ⟨o, es, ep, ho, hd, hk, hf⟩ := hns₁
    refine hG ?_
    clear hG G
    refine I3.new (fun b o e => hsb₁.extBut b o (fun q => by rw [q, hCn] at e; cases e) (push_keeps _ _ _ e)) hCn ⟨o, ho, es, ep, hd, hk, hnd, fun p hp => ?_⟩
    rw [hnone p hp, hf]
    exact (trivial : OptRel β2 none none)
  have I5 : Inv P β2 (((C, .ns σc) :: μ2) ++ [(env.locals, .ns σ), (D, .list []), (a, I 0)]) h₁ := I4.perm (by
    have q1 : (((C, AObj.ns σc) :: μ2) ++ [(env.locals, AObj.ns σ), (D, .list []), (a, I 0)]).Perm ((a, I 0) :: (μ2 ++ ([] ++ [(env.locals, .ns σ), (D, .list []), (C, .ns σc)]))) := perm_in (by simp)
    refine List.Perm.trans ?_ q1.symm
    have q2 : (μ2 ++ [(env.locals, AObj.ns σ), (D, .list []), (C, .ns σc)]).Perm ((D, .list []) :: (C, .ns σc) :: (μ2 ++ [(env.locals, AObj.ns σ)])) := by
      rw [show (μ2 ++ [(env.locals, AObj.ns σ), (D, .list []), (C, .ns σc)]) = (μ2 ++ [(env.locals, AObj.ns σ)]) ++ [(D, .list []), (C, .ns σc)] from by simp]
      exact List.perm_append_comm
    refine List.Perm.trans ?_ (q2.symm.cons _)
    exact ((List.Perm.swap _ _ _).cons _ |>.trans (List.Perm.swap _ _ _) |>.trans ((List.Perm.swap _ _ _).cons _))
    )
  have loop : ∀ s₃ β₃, St s s₃ → β.le β₃ → Inv P β₃ (((C, .ns σc) :: μ2) ++ [(env.locals, .ns σ), (D, .list []), (a, I 0)]) s₃.heap →
      codeAny (model P.prog P.w) A (.compLoop (.ListComp elt [⟨target, iter, ifs, 0⟩] scope pos) 0 (.ref a) (.ref D) (compEnvC scope cl C env)) (RR (.ref D) C) s₃ := fun s₃ β₃ st₃ le₃ I₃ => by
    refine comp_loop (CompI P env.locals C D a σ I items.length J s β) hifs ?_ items.length ⟨0, [], σc, μ2, β₃, rfl, Nat.zero_le _, Nat.le_refl _, st₃, le₃, I₃, j0⟩
    rintro n s' hY0
    refine away fun G hG => ?_
    obtain ⟨i, ys, σi, μi, β', eY1, hi, hyl, st', le', I', j⟩ := hY0
    refine hG ?_
    clear hG G
    subst eY1
    refine away fun G hG => ?_
    obtain ⟨rest, hperm⟩ := jsrc i ys σi μi j
    refine hG ?_
    clear hG G
    by_cases hlt : i < items.length
    · have hx : items[i]? = some items[i] := List.getElem?_eq_getElem hlt
      refine wpAny_mono (hIt.next i _ hx A s' β' (rest ++ [(env.locals, .ns σ), (D, .list ys), (C, .ns σi)]) hR.handled (I'.perm (perm_in hperm))) (fun r s3 hX2 => ?_) fun _ _ x => x
      refine away fun G hG => ?_
      obtain ⟨st3, β3, le3, y, er, hown⟩ := hX2
      refine hG ?_
      clear hG G
      subst er
      refine wpAny_mono (hown s3 rfl) (fun _ s4 hX3 => ?_) fun _ _ x => x
      refine away fun G hG => ?_
      obtain ⟨st4, β4, le4, I4, rv⟩ := hX3
      refine hG ?_
      clear hG G
      have I5 : Inv P β4 (((C, .ns σi) :: μi) ++ [(env.locals, .ns σ), (D, .list ys), (a, I (i + 1))]) s4.heap := I4.perm (perm_in hperm).symm
      refine wpAny_mono ((jstep i _ ys σi μi hx j).under (env := compEnvC scope cl C env) hR I5 rv) (fun _ s5 hX4 => ?_) fun _ _ x => x
      refine away fun G hG => ?_
      obtain ⟨st5, β5, le5, σ1, μ1', I6, q⟩ := hX4
      refine hG ?_
      clear hG G
      have st5' : St s s5 := st'.trans (st3.trans (st4.trans st5))
      have le5' : β.le β5 := le'.trans (le3.trans (le4.trans le5))
      have fin : ∀ s6 β6 μ6, St s s6 → β.le β6 → Inv P β6 (((C, .ns σ1) :: μ6) ++ [(env.locals, .ns σ), (D, .list ys), (a, I (i + 1))]) s6.heap → (evOk P d (compEnvC scope cl C env) σ1 μ6 elt fun v μ3 => J (i + 1) (ys ++ [v]) σ1 μ3) →
          wpAny (model P.prog P.w) A (eval elt (compEnvC scope cl C env)) (fun x s₄ => wpAny (model P.prog P.w) A (call (.builtin "list.append") [.ref D, x]) (fun _ s₅ => ∃ m, m < items.length - i ∧ CompI P env.locals C D a σ I items.length J s β m s₅) (fun _ _ => False) s₄) (fun _ _ => False) s6 := fun s6 β6 μ6 st6 le6 I6 q => by
        refine wpAny_mono (q.under hR I6) (fun x s7 hX5 => ?_) fun _ _ x => x
        refine away fun G hG => ?_
        obtain ⟨st7, β7, le7, v, μ7, I7, rx, q7⟩ := hX5
        refine hG ?_
        clear hG G
        have hap : callOk P d [(D, .list ys)] (B "list.append") [R D, v] [] (fun _ μ' => μ' = [(D, .list (ys ++ [v]))]) := call_append .head (Nat.le_trans hyl (Nat.le_trans hi hlen)) rfl
        refine wpAny_mono (hap _ A s7 β7 _ hR (I7.perm perm_acc) ⟨_, _, [], .raw _, .cons (.raw _) (.cons rx .nil), ⟨rfl, .nil⟩, rfl⟩) (fun _ s8 hX6 => ?_) fun _ _ x => x
        refine away fun G hG => ?_
        obtain ⟨st8, β8, le8, c, μ8, I8, r8, e8⟩ := hX6
        refine hG ?_
        clear hG G
        subst e8
        exact ⟨items.length - (i + 1), by lia, i + 1, ys ++ [v], σ1, μ7, β8, rfl, hlt, by simp; lia, st6.trans (st7.trans st8), le6.trans (le7.trans le8), I8.perm perm_acc.symm, q7⟩
      rcases hifs with rfl | ⟨c, rfl⟩
      · exact fin s5 β5 μ1' st5' le5' I6 q
      · refine wpAny_mono (isOk.under (env := compEnvC scope cl C env) q hR I6) (fun b s6 hX7 => ?_) fun _ _ x => x
        refine away fun G hG => ?_
        obtain ⟨st6, β6, le6, μ6, I7, q6⟩ := hX7
        refine hG ?_
        clear hG G
        cases b with
        | true => exact fin s6 β6 μ6 (st5'.trans st6) (le5'.trans le6) I7 q6
        | false => exact ⟨items.length - (i + 1), by lia, i + 1, ys, σ1, μ6, β6, rfl, hlt, by lia, st5'.trans st6, le5'.trans le6, I7, q6⟩
    · have he : i = items.length := by lia
      subst he
      refine wpAny_mono (hIt.stop A s' β' (rest ++ [(env.locals, .ns σ), (D, .list ys), (C, .ns σi)]) hR.handled (I'.perm (perm_in hperm))) (fun r s3 hX8 => ?_) fun _ _ x => x
      refine away fun G hG => ?_
      obtain ⟨st3, β3, le3, er, I3⟩ := hX8
      refine hG ?_
      clear hG G
      subst er
      refine hRR D C s3 β3 ys μi σi (st'.trans st3) (le'.trans le3) (I3.perm ?_) (jend ys σi μi j)
      rw [← List.append_assoc]
      have q1 : ((src ++ rest) ++ [(env.locals, AObj.ns σ), (D, .list ys), (C, .ns σi)]).Perm ([(env.locals, AObj.ns σ), (D, .list ys), (C, .ns σi)] ++ μi) := List.perm_append_comm.trans (hperm.symm.append_left _)
      refine q1.trans ?_
      exact (List.Perm.swap _ _ _).trans (((List.Perm.swap _ _ _).cons _).trans (List.Perm.swap _ _ _))
  refine codeAny_compStart_list (loop _ β2 (st1.trans (st2.trans ⟨rfl, rfl, rfl⟩)) (le1.trans le2) I5) ?_
  refine away fun G hG => ?_
  obtain ⟨rest, hperm⟩ := jsrc _ _ _ _ j0
  refine hG ?_
  clear hG G
  refine wpAny_mono (hIt.self 0 A _ β2 (rest ++ [(env.locals, .ns σ), (D, .list []), (C, .ns σc)]) (I5.perm (perm_in hperm))) (fun it' s' hX9 => ?_) fun _ _ f => f.elim
  refine away fun G hG => ?_
  obtain ⟨st', β', le', ei, I'⟩ := hX9
  refine hG ?_
  clear hG G
  subst ei
  exact loop s' β' (st1.trans (st2.trans (⟨st'.gens, st'.drawn, st'.os⟩ : St s2 s'))) (le1.trans (le2.trans le')) (I'.perm (perm_in hperm).symm)

theorem ns_of {h : Heap} {C : Addr} {σ' : Loc} {ρ : Led} (I : Inv P β ((C, .ns σ') :: ρ) h) : ∃ m, h.Ns C m := by
  refine away fun G hG => ?_
  obtain ⟨o, ho, es, ep, hd, hk, _⟩ := I.led _ (.head _)
  refine hG ?_
  clear hG G
  exact ⟨_, o, es, ep, ho, hd, hk, fun _ => rfl⟩

theorem evOk.listcomp {elt target iter : Expr} {ifs : List Expr} {scope : Scope} {pos : Pos} {Q : V → Led → Prop} (σc : Loc) (cl : List (Str × Addr))
    (h : evOk P d env σ μ iter fun v μ1 => itOk P d μ1 target v fun src items μ2 => ∀ C, CompOk P d (compEnvC scope cl C env) src items σc μ2 target elt ifs fun ys μ3 => ∀ D, Q (R D) ((D, .list ys) :: μ3))
    (hclos : closureFor scope env = pure cl) (hs : ∀ x, foldedSetIterable iter env x = pure x) (hifs : ifs = [] ∨ ∃ c, ifs = [c])
    (hcell : ∀ y ∈ scope.names, y.2 ≠ .cell) (hkind : scope.kind = .function) (hnames : ∀ y ∈ scope.names, y.2 = .local → scope.names.lookup y.1 = some .local) :
    evOk P d env σ μ (.ListComp elt [⟨target, iter, ifs, 0⟩] scope pos) Q := fun A s β hR hI => by
  rw [eval_ListComp]
  refine wpAny_comprehension_free (use := none) rfl hs hclos hkind hnames ?_
  refine comp_core (RR := fun acc C r s' => compPost _ A (fun _ _ => False) none _ acc C r s') hifs hcell hkind h hR hI fun D C s' β' ys μ' σ' st le I' q => ?_
  refine away fun G hG => ?_
  obtain ⟨m, hm⟩ := ns_of I'
  refine hG ?_
  clear hG G
  exact ⟨m, hm, fun h' hs' => ⟨st.trans ⟨rfl, rfl, rfl⟩, β', le, R D, (D, .list ys) :: μ', (I'.gone hs'.extBut).perm (List.Perm.swap _ _ _), .raw _, q D⟩⟩

theorem exOk.asgComp {elt target iter : Expr} {ifs : List Expr} {scope : Scope} {pos spos : Pos} {y : Str} {py : Pos} {Q : Fl → Loc → Led → Prop} (σc : Loc) (cl : List (Str × Addr))
    (h : evOk P d env σ μ iter fun v μ1 => itOk P d μ1 target v fun src items μ2 => ∀ C, CompOk P d (compEnvC scope cl C env) src items σc μ2 target elt ifs fun ys μ3 => ∀ D, ∃ σ', StoreL y (R D) σ σ' ∧ Q .next σ' ((D, .list ys) :: μ3))
    (hsw : swapsWith (.ListComp elt [⟨target, iter, ifs, 0⟩] scope pos) (some (.Name y py)) spos.line env = pure true)
    (hclos : closureFor scope env = pure cl) (hs : ∀ x, foldedSetIterable iter env x = pure x) (hifs : ifs = [] ∨ ∃ c, ifs = [c])
    (hcell : ∀ y ∈ scope.names, y.2 ≠ .cell) (hkind : scope.kind = .function) (hnames : ∀ y ∈ scope.names, y.2 = .local → scope.names.lookup y.1 = some .local)
    (hk : env.scope.kind = .function) (hl : env.kindOf y = some .local) :
    exOk P d env σ μ (.Assign [.Name y py] (.ListComp elt [⟨target, iter, ifs, 0⟩] scope pos) spos) Q := fun A s β hR hI => by
  rw [exec_Assign_Name_used _ _ _ _ hsw]
  refine wpL.standAt_bind (wpAny_bind ?_)
  show wpAny _ A (do let _ ← comprehension (.ListComp elt [⟨target, iter, ifs, 0⟩] scope pos) scope env _ (newList []) false (eval iter env) (some (assign (.Name y py) env))) _ _ s
  refine wpAny_bind (wpAny_mono (wpAny_comprehension_free (use := some (assign (.Name y py) env)) (Q := fun _ s' => LP β (ExP P env.locals Q) s Flow.next s') rfl hs hclos hkind hnames ?_)
    (fun _ s' hq => wpAny_pure (wpAny_pure hq)) fun _ _ e => e)
  refine comp_core (RR := fun acc C r s' => compPost _ A (fun _ _ => False) (some (assign (.Name y py) env)) _ acc C r s') hifs hcell hkind h hR hI fun D C s' β' ys μ' σ' st le I' q => ?_
  refine away fun G hG => ?_
  obtain ⟨σ2, hS, q⟩ := q D
  refine hG ?_
  clear hG G
  have as : asOk P d env σ ((D, .list ys) :: μ') (.Name y py) (R D) (fun σ3 μ3 => σ3 = σ2 ∧ μ3 = (D, .list ys) :: μ') := asOk.name hS ⟨rfl, rfl⟩ hk hl
  refine wpAny_mono (as.under (ν := [(C, .ns σ')]) hR (I'.perm ?_) (.raw _)) (fun _ s'' ⟨st2, β2, le2, σ3, μ3, I3, e1, e2⟩ => ?_) fun _ _ x => x
  · refine (List.perm_append_comm (l₁ := [_]) (l₂ := (D, AObj.list ys) :: (env.locals, .ns σ) :: μ')).trans ?_
    exact (List.Perm.swap _ _ _)
  · subst e1; subst e2
    have I4 : Inv P β2 ((C, .ns σ') :: (env.locals, .ns σ3) :: (D, .list ys) :: μ') s''.heap := I3.perm (List.perm_append_comm (l₂ := [_]))
    refine away fun G hG => ?_
    obtain ⟨m, hm⟩ := ns_of I4
    refine hG ?_
    clear hG G
    exact ⟨m, hm, fun h' hs' => ⟨st.trans (st2.trans ⟨rfl, rfl, rfl⟩), β2, le.trans le2, .next, σ3, _, I4.gone hs'.extBut, .next, q⟩⟩
end
theorem CompOk.one {P : Par} {d : Nat} {env : Env} {src : Led} {items : List V} {x0 : Str} {μ : Led} {target elt : Expr} {ifs : List Expr} {Q : List V → Led → Prop} (hl : items.length ≤ sizeLine) (M : Nat → Led) (Y : Nat → List V) (h0 : M 0 = μ) (hY : Y 0 = [])
    (hs : ∀ i, ∃ rest, (M i).Perm (src ++ rest))
    (step : ∀ i x o, items[i]? = some x → asOk P d env [(x0, o)] (M i) target x fun σ1 μ1 => tstOk P d env σ1 μ1 ifs fun b μ2 =>
      if b then evOk P d env σ1 μ2 elt fun v μ3 => ∃ o, σ1 = [(x0, o)] ∧ μ3 = M (i + 1) ∧ Y i ++ [v] = Y (i + 1) else ∃ o, σ1 = [(x0, o)] ∧ μ2 = M (i + 1) ∧ Y i = Y (i + 1))
    (fin : Q (Y items.length) (M items.length)) : CompOk P d env src items [(x0, none)] μ target elt ifs Q := by
  refine ⟨hl, by simp, by simp, fun i ys σ μ' => ∃ o, σ = [(x0, o)] ∧ μ' = M i ∧ ys = Y i, ⟨none, rfl, h0.symm, hY.symm⟩, ?_, ?_, ?_⟩
  · rintro i ys σ μ' ⟨o, rfl, rfl, rfl⟩; exact hs i
  · rintro i x ys σ μ' hx ⟨o, rfl, rfl, rfl⟩; exact step i x o hx
  · rintro ys σ μ' ⟨o, rfl, rfl, rfl⟩; exact fin
end Mine

namespace Mine
open PySem PySem.W PySem.Calls PyProof.Rows

section
variable {P : Par} {d : Nat} {env : Env} {σ : Loc} {μ : Led} {A : Around} {β : Fz} {s : Shared}

/-! an expression as a statement -/
theorem exOk.expr {e : Expr} {pos} {Q : Fl → Loc → Led → Prop} (h : evOk P d env σ μ e fun _ μ1 => Q .next σ μ1) (hi : interactive env = false) (hs : swapsWith e none pos.line env = pure false) : exOk P d env σ μ (.Expr e pos) Q := fun A s β hR hI => by
  rw [exec_Expr env e pos hi hs]
  refine wpL.standAt_bind (wpL.bind ((h A s β hR hI).mono fun a' β1 h1 le1 hX0 s1 e1 => ?_))
  refine away fun G hG => ?_
  obtain ⟨a, μ1, I1, ra, q1⟩ := hX0
  refine hG ?_
  clear hG G
  exact wpAny_dropValue ⟨.rfl, β1, .rfl, .next, σ, μ1, e1 ▸ I1, .next, q1⟩
theorem exOk.retNone {pos} {Q : Fl → Loc → Led → Prop} (h : Q (.ret .none) σ μ) : exOk P d env σ μ (.Return none pos) Q := fun A s β hR hI => by
  rw [arm_exec_Return]
  exact wpL.standAt_bind (wpL.pure ⟨.ret .none, σ, μ, hI, .ret .none, h⟩)

/-! targets: several -/
noncomputable def assOk (P : Par) (d : Nat) (env : Env) : Loc → Led → List Expr → List V → (Loc → Led → Prop) → Prop
  | σ, μ, [], [], Q => Q σ μ
  | σ, μ, t :: ts, v :: vs, Q => asOk P d env σ μ t v fun σ1 μ1 => assOk P d env σ1 μ1 ts vs Q
  | _, _, _, _, _ => False
theorem assOk.run : ∀ {ts : List Expr} {vs : List V} {xs : List Value} {σ μ} {s : Shared} {β : Fz} {Q : Loc → Led → Prop}, assOk P d env σ μ ts vs Q → Room A d → Inv P β ((env.locals, .ns σ) :: μ) s.heap → VsRel β vs xs →
    wpL P A β (assignInOrder (ts.map fun t => assign t env) xs) (AsP P env.locals Q) s
  | [], [], _, σ, μ, s, β, Q, h, hR, hI, .nil => wpL.pure ⟨σ, μ, hI, h⟩
  | t :: ts, v :: vs, _, σ, μ, s, β, Q, h, hR, hI, .cons r rs => by
    show wpL P A β (do holding _ (assign t env _); assignInOrder _ _) _ s
    exact wpL.bind (wpL.holding ((h A s β _ hR hI r).mono fun _ β1 h1 le1 ⟨σ1, μ1, I1, q1⟩ s1 e1 => assOk.run q1 hR (e1 ▸ I1) (rs.mono le1)))
  | [], _ :: _, _, _, _, _, _, _, h, _, _, _ => h.elim
  | _ :: _, [], _, _, _, _, _, _, h, _, _, _ => h.elim
theorem asOk.tuple {ts : List Expr} {x1 pos} {vs : List V} {Q : Loc → Led → Prop} (h : assOk P d env σ μ ts vs Q) (hlen : ts.length = vs.length) (he : assignEach ts env = ts.map fun t => (false, assign t env)) : asOk P d env σ μ (.Tuple ts x1 pos) (.tup vs) Q := fun A s β x hR hI r => by
  rw [arm_assign_Tuple, he]
  cases r with | tup e r =>
  rename_i its n
  have hl := r.length
  simp only [Array.length_toList] at hl
  refine wpL.standAt_bind (wpAny_unpack_tuple (items := its) hR.handled ⟨_, hI.froz _ _ e, rfl, n, rfl⟩ (by rw [List.length_map, hlen, hl]) ?_ fun h' hs => ?_)
  · rw [List.findIdx?_eq_none_iff]
    intro q hq
    refine away fun G hG => ?_
    obtain ⟨t, _, eY1⟩ := List.mem_map.mp hq
    refine hG ?_
    clear hG G
    subst eY1
    rfl
  · have I' : Inv P β ((env.locals, .ns σ) :: μ) h' := by
      have hn : s.heap.get? s.heap.objs.size = none := get_size_none
      exact hI.ext fun b o e => hs b o (fun q => by rw [q, hn] at e; cases e) e
    rw [List.map_map]
    exact wpAny_mono (assOk.run (s := { s with heap := h' }) h hR I' r) (fun _ s' ⟨st, β', le, q⟩ => ⟨⟨st.gens, st.drawn, st.os⟩, β', le, q⟩) fun _ _ x => x

/-! changing a name in place -/
theorem exOk.aug {id : Str} {npos op value pos} {v : V} {Q : Fl → Loc → Led → Prop} (hm : (id, some v) ∈ σ) (h : evOk P d env σ μ value fun w μ1 => inOk P d μ1 op v w fun r μ2 => ∃ σ', StoreL id r σ σ' ∧ Q .next σ' μ2)
    (hk : env.scope.kind = .function) (hl : env.kindOf id = some .local) : exOk P d env σ μ (.AugAssign (.Name id npos) op value pos) Q := fun A s β hR hI => by
  rw [arm_exec_AugAssign]
  refine away fun G hG => ?_
  obtain ⟨m, v', hn, hv, r⟩ := loc_look hI hm
  refine hG ?_
  clear hG G
  refine wpL.standAt_bind (wpAny_bind (wpAny_loadName_local hk hl hn hv ?_))
  change wpL P A β _ (ExP P env.locals Q) s
  refine wpL.bind (wpL.holding ((h A s β hR hI).mono fun w' β1 h1 le1 hX1 s1 e1 => ?_))
  refine away fun G hG => ?_
  obtain ⟨w, μ1, I1, rw', q1⟩ := hX1
  refine hG ?_
  clear hG G
  subst e1
  refine wpL.standAt_bind (wpL.bind (wpL.operate ((q1.loc hR I1 ⟨v', w', r.mono le1, rw', rfl⟩).mono fun x β2 h2 le2 hX2 s2 e2 => ?_)))
  refine away fun G hG => ?_
  obtain ⟨c, μ2, I2, rc, σ', hS, q2⟩ := hX2
  refine hG ?_
  clear hG G
  subst e2
  refine wpL.standAt_bind (wpL.bind ((show wpL P A β2 (bindName env id x) _ s2 from wpAny_bindName (st_local hS hl hk I2 rc) : wpL P A β2 (bindName env id x) (fun _ β' h' => Inv P β' ((env.locals, .ns σ') :: μ2) h') s2).mono fun _ β3 h3 le3 I3 s3 e3 => ?_))
  subst e3
  exact wpL.pure ⟨.next, σ', μ2, I3, .next, q2⟩
theorem in_str {a b : List Nat} {Q : V → Led → Prop} (hsz : a.length + b.length ≤ sizeLine) (h : Q (.str (a ++ b)) μ) : inOk P d μ .Add (.str a) (.str b) Q := by
  rintro ν A s β t hR hI hY0
  refine away fun G hG => ?_
  obtain ⟨a', b', ra, rb, eY1⟩ := hY0
  refine hG ?_
  clear hG G
  subst eY1
  refine away fun G hG => ?_
  obtain ⟨t, eY1⟩ := ra.strInv
  refine hG ?_
  clear hG G
  subst eY1
  refine away fun G hG => ?_
  obtain ⟨u, eY1⟩ := rb.strInv
  refine hG ?_
  clear hG G
  subst eY1
  refine PyProof.Rows.iadd_str (fun t' tk => ⟨.mk', β, .rfl, _, μ, hI, ?_, h⟩) (by rw [mkS_len, mkS_len]; exact hsz)
  show VRel β _ (.str (mkS a ++ mkS b) _)
  rw [mkS_app]; exact .str ..

/-! an item of a list stored -/
noncomputable def setT (a i v : V) : Fz → Sem Unit → Prop := fun β t => ∃ a' i' v', VRel β a a' ∧ VRel β i i' ∧ VRel β v v' ∧ t = setItem a' i' v'
noncomputable def uRel (_ : Fz) (_ _ : Unit) : Prop := True
noncomputable abbrev setOk (P : Par) (d : Nat) (μ : Led) (a i v : V) (Q : Led → Prop) : Prop := opOk P uRel d μ (setT a i v) (fun _ => Q)
theorem asOk.item {o i : Expr} {pos v} {Q : Loc → Led → Prop} (h : evOk P d env σ μ o fun ov μ1 => evOk P d env σ μ1 i fun iv μ2 => setOk P d μ2 ov iv v fun μ3 => Q σ μ3) : asOk P d env σ μ (.Subscript o i pos) v Q := fun A s β x hR hI r => by
  rw [arm_assign_Subscript]
  refine wpL.bind (wpL.holding ((h A s β hR hI).mono fun o' β1 h1 le1 hX3 s1 e1 => ?_))
  refine away fun G hG => ?_
  obtain ⟨ov, μ1, I1, ro, q1⟩ := hX3
  refine hG ?_
  clear hG G
  refine wpL.bind (wpL.holding ((q1 A s1 β1 hR (e1 ▸ I1)).mono fun i' β2 h2 le2 hX4 s2 e2 => ?_))
  refine away fun G hG => ?_
  obtain ⟨iv, μ2, I2, ri, q2⟩ := hX4
  refine hG ?_
  clear hG G
  refine wpL.standAt_bind (wpL.bind (wpL.holding ((q2.loc hR (e2 ▸ I2) ⟨o', i', x, ro.mono le2, ri, r.mono (le1.trans le2), rfl⟩).mono fun _ β3 h3 le3 hX5 s3 e3 => ?_)))
  refine away fun G hG => ?_
  obtain ⟨_, μ3, I3, _, q3⟩ := hX5
  refine hG ?_
  clear hG G
  exact wpL.release ⟨σ, μ3, e3 ▸ I3, q3⟩
theorem VsRel.set {β : Fz} : ∀ {vs xs}, VsRel β vs xs → ∀ (i : Nat) {v x}, VRel β v x → VsRel β (vs.set i v) (xs.set i x)
  | _, _, .nil, _, _, _, _ => .nil
  | _, _, .cons a b, 0, _, _, r => .cons r b
  | _, _, .cons a b, i + 1, _, _, r => .cons a (VsRel.set b i r)
theorem set_list {l : Addr} {xs : List V} {k : Int} {v : V} {μ' : Led} {Q : Led → Prop} (hU : UpdL l (.list (xs.set k.toNat v)) (.list xs) μ μ') (h0 : 0 ≤ k) (hn : k < xs.length) (hfit : k < 2 ^ 63) (h : Q μ') : setOk P d μ (R l) (.int k) v Q := by
  rintro ν A s β t hR hI hY0
  refine away fun G hG => ?_
  obtain ⟨a', i', v', ra, ri, rv, eY1⟩ := hY0
  refine hG ?_
  clear hG G
  subst eY1
  cases ra; cases ri
  refine away fun G hG => ?_
  obtain ⟨o, e, its, n, eY1, r⟩ := hI.led _ (List.mem_append_left _ hU.mem)
  refine hG ?_
  clear hG G
  subst eY1
  have es : its.size = xs.length := by have := r.length; simpa using this
  refine ki_setAt e h0 hfit (by rw [es]; exact hn) ⟨.mk', β, .rfl, (), μ', ?_, trivial, h⟩
  refine hI.upd (hU.app ν) (Heap.SameBut.update ..).extBut ⟨_, Heap.get?_update_self _ e rfl, _, _, rfl, ?_⟩
  have := r.set k.toNat rv
  simpa using this
end
end Mine

namespace Mine
open PySem PySem.W PySem.Calls PyProof.Rows

section
variable {P : Par} {d : Nat} {env : Env} {σ : Loc} {μ : Led} {A : Around} {β : Fz} {s : Shared}

theorem call_bitlen {a : Int} {Q : V → Led → Prop} (h : Q (.int (Builtin.Int.intBits a : Nat)) μ) : callOk P d μ (B "int.bit_length") [.int a] [] Q := by
  rintro ν A s β t hR hI ⟨f', as, ks, rf, ra, rk, rfl⟩
  cases rf
  cases rk.nil'
  obtain ⟨_, rfl, r1⟩ := ra.one
  cases r1
  exact call_gives F.slot_int_bit_length (typeIs_int _ _ _) F.entry_int_bit_length (F.args_int_bit_length_1 _) (AutoIntG2.int_bit_length_int_0 _ _) ⟨.mk', β, .rfl, _, μ, hI, .int .., h⟩
theorem call_divmod {a b : Int} {Q : V → Led → Prop} (hb : b ≠ 0) (hs : b.natAbs < 1073741824) (h : Q (.tup [.int (a.fdiv b), .int (a.fmod b)]) μ) : callOk P d μ (B "divmod") [.int a, .int b] [] Q := by
  rintro ν A s β t hR hI ⟨f', as, ks, rf, ra, rk, rfl⟩
  cases rf
  cases rk.nil'
  obtain ⟨_, _, rfl, r1, r2⟩ := ra.two
  cases r1; cases r2
  obtain ⟨I2, le2⟩ := hI.froze (push_keeps { cls := .type "tuple", data := .seq #[.int (a.fdiv b) s.toks, .int (a.fmod b) (s.toks + 1)] }) get_size_none (Heap.get?_push_size _ rfl)
  exact PyProof.Rows.divmod_int hb ⟨.mk', _, le2, _, μ, I2, .tup Fz.put_self (.cons (.int ..) (.cons (.int ..) .nil)), h⟩ (.inl (PyProof.noPylong_small hs))

theorem flat_rep {α : Type} (xs : List α) (n : Nat) : (List.foldl (fun x1 x2 => x1 ++ x2) #[] (List.replicate (if xs.toArray.isEmpty = true then 0 else n) xs.toArray)).toList = (List.replicate n xs).flatten := by
  have key : ∀ (n : Nat) (acc : Array α), (List.foldl (fun x1 x2 => x1 ++ x2) acc (List.replicate n xs.toArray)).toList = acc.toList ++ (List.replicate n xs).flatten := fun n => by
    induction n with
    | zero => intro acc; simp
    | succ n ih => intro acc; rw [List.replicate_succ, List.foldl_cons, ih, List.replicate_succ]; simp
  rw [key]
  cases xs with
  | nil => simp
  | cons => simp
theorem VsRel.rep {β : Fz} {vs xs} (h : VsRel β vs xs) : ∀ n, VsRel β (List.replicate n vs).flatten (List.replicate n xs).flatten
  | 0 => .nil
  | n + 1 => by rw [List.replicate_succ, List.replicate_succ]; exact h.append (VsRel.rep h n)
theorem bin_listMul {l : Addr} {xs : List V} {k : Int} {Q : V → Led → Prop} (hm : (l, AObj.list xs) ∈ μ) (hlo : -(2 ^ 63 : Int) ≤ k) (hhi : k < 2 ^ 63) (hsz : xs.length * k.toNat ≤ 2 ^ 24) (h : ∀ D, Q (R D) ((D, .list (List.replicate k.toNat xs).flatten) :: μ)) : binOk P d μ .Mult (R l) (.int k) Q := by
  rintro ν A s β t hR hI ⟨a', b', ra, rb, rfl⟩
  cases ra; cases rb
  obtain ⟨its, n, e, r, es⟩ := listLook hI hm
  obtain ⟨its⟩ := its
  refine wpAny_binaryOp_repeat_ref (T := "list") (U := "int") (by decide) ⟨_, e, rfl⟩ (fun s' => typeIs_int s' _ _) noFill_list_mul F.fills_int_mul F.slot_int_rmul repeat_list F.slot_int_index.lookup
    (call_meets F.slot_int_rmul (typeIs_int _ _ _) F.entry_int_rmul (F.args_int_rmul_2 _ _) (int___rmul___int_list _ _ l _ n)
      ⟨e, rfl, ⟨_, e, rfl⟩, call_meets F.slot_list_mul ⟨_, e, rfl⟩ F.entry_list_mul (F.args_list_mul_2 _ _)
        (AutoListH.list___mul___list_int_3 l _ n _ _ (by simp [Builtin.List.listFitsIndex]; lia) (by rw [es]; lia) (by rw [es]; simp [Builtin.List.listTooLong, sizeLine]; lia))
        ⟨e, .mk', β, .rfl, _, _, hI.new (push_keeps _) get_size_none (x := .list (List.replicate k.toNat xs).flatten) ⟨_, Heap.get?_push_size _ rfl, _, _, rfl, ?_⟩, .raw _, h _⟩⟩)
  rw [flat_rep]
  exact r.rep _

/-! reversed lists -/
noncomputable abbrev revO (l : Addr) (i : Int) : AObj := itO "list_reverseiterator" (.ref l) (rawInt i)
theorem iter_rev_ok {target : Expr} {it l : Addr} {xs : List V} : IterOk P target it (fun i => revO l ((xs.length : Int) - 1 - i)) [(l, .list xs)] xs.reverse where
  next := fun i x hx A s β ν hh hI => by
    obtain ⟨o, ho, ⟨hc, hd⟩, _⟩ := hI.led _ (.head _)
    obtain ⟨its, hl, r, es⟩ := list_ext_get hI (l := l) (xs := xs) (.tail _ (.head _))
    have hlt : i < xs.length := by simpa using (List.getElem?_eq_some_iff.mp hx).1
    rw [List.getElem?_reverse hlt] at hx
    obtain ⟨y, hy, ry⟩ := r.get hx
    have hcast : ((xs.length : Int) - 1 - (i : Nat)) = ((xs.length - 1 - i : Nat) : Int) := by lia
    rw [hcast] at hd
    refine wpAny_pyNext_rev_item (i := xs.length - 1 - i) ⟨o, ho, hc, hd⟩ hl (by simpa using hy) fun h' ⟨o', ho', hc', hd'⟩ hs => ⟨.mk', β, .rfl, y, rfl, fun s' e' => ?_⟩
    subst e'
    refine own_plain ho' hc' (by decide) ⟨hI.upd .head hs.extBut ⟨o', ho', itO_rel hc' (hd'.trans ?_) (fun _ _ q => by cases q)⟩, ry⟩
    rw [show ((xs.length - 1 - i : Nat) : Int) - 1 = (xs.length : Int) - 1 - (i + 1 : Nat) from by lia]
  stop := fun A s β ν hh hI => by
    obtain ⟨o, ho, ⟨hc, hd⟩, _⟩ := hI.led _ (.head _)
    refine wpAny_pyNext_rev_end (l := l) hh ⟨o, ho, hc, hd.trans ?_⟩ fun h' hs => ⟨.mk', β, .rfl, rfl, hI.gone hs⟩
    rw [List.length_reverse, show (xs.length : Int) - 1 - (xs.length : Nat) = -1 from by lia]
  self := fun i A s β ν hI => by
    obtain ⟨o, ho, ⟨hc, hd⟩, _⟩ := hI.led _ (.head _)
    exact wpAny_pyIter_slot ⟨o, ho, hc⟩ F.slot_lri_iter (wpAny_call_entry F.slot_lri_iter ⟨o, ho, hc⟩ F.entry_lri_iter (by
      show wpAny _ _ (ret (.ref it)) _ _ _
      exact wpAny_pure ⟨_, rfl, "list_reverseiterator", _, ⟨o, ho, hc⟩, F.slot_lri_next.lookup, .rfl, β, .rfl, rfl, hI⟩) (F.args_lri_iter_1 _))
theorem it_rev {target : Expr} {r l : Addr} {xs : List V} {μ' : Led} {Q : Led → List V → Led → Prop} (hp : μ.Perm ((r, revO l ((xs.length : Int) - 1)) :: μ')) (hm : (l, AObj.list xs) ∈ μ') (h : Q [(l, .list xs)] xs.reverse μ') : itOk P d μ target (R r) Q := fun ν A s β x hR hI rr => by
  cases rr
  have I1 : Inv P β ((r, revO l ((xs.length : Int) - 1)) :: (μ' ++ ν)) s.heap := hI.perm (hp.append_right ν)
  obtain ⟨o, ho, ⟨hc, hd⟩, _⟩ := I1.led _ (.head _)
  refine wpAny_pyIter_slot ⟨o, ho, hc⟩ F.slot_lri_iter (wpAny_call_entry F.slot_lri_iter ⟨o, ho, hc⟩ F.entry_lri_iter (by
      show wpAny _ _ (ret (.ref r)) _ _ _
      refine wpAny_pure ⟨_, rfl, "list_reverseiterator", _, ⟨o, ho, hc⟩, F.slot_lri_next.lookup, .rfl, β, .rfl, r, _, _, _, μ', rfl, iter_rev_ok (l := l) (xs := xs), ?_, h⟩
      have e : ((xs.length : Int) - 1 - (0 : Nat)) = (xs.length : Int) - 1 := by lia
      rw [e]; exact I1) (F.args_lri_iter_1 _))
theorem call_reversed {l : Addr} {xs : List V} {Q : V → Led → Prop} (hm : (l, AObj.list xs) ∈ μ) (h : ∀ r, Q (R r) ((r, revO l ((xs.length : Int) - 1)) :: μ)) : callOk P d μ (T "reversed") [R l] [] Q := by
  rintro ν A s β t hR hI ⟨f', as, ks, rf, ra, rk, rfl⟩
  cases rf
  cases rk.nil'
  obtain ⟨_, rfl, r1⟩ := ra.one
  cases r1
  obtain ⟨its, hl, r, es⟩ := list_ext_get hI (List.mem_append_left _ hm)
  refine call_reversed_list hl ⟨.mk', β, .rfl, _, _, hI.new (push_keeps _) get_size_none (x := revO l ((xs.length : Int) - 1)) ⟨_, Heap.get?_push_size _ rfl, itO_rel rfl ?_ (fun _ _ q => by cases q)⟩, .raw _, h _⟩
  show Data.fields #[_, _] = _
  rw [es]
end
end Mine

namespace Mine
open PySem PySem.W PySem.Calls PyProof.Rows

noncomputable def lowN (c : Nat) : Nat := if 65 ≤ c && c ≤ 90 then c + 32 else c
noncomputable def upN (c : Nat) : Nat := if 97 ≤ c && c ≤ 122 then c - 32 else c
noncomputable def low (l : List Nat) : List Nat := l.map lowN
noncomputable def up (l : List Nat) : List Nat := l.map upN
theorem lowerOf_ascii : ∀ c < 128, Unicode.lowerOf c = [lowN c] := by decide +kernel
theorem placed_one {l : List Nat} {f : Nat → Nat → List Nat} {g : Nat → Nat} (h : ∀ i c, l[i]? = some c → f i c = [g c]) : (⟨placed (mkS l) f⟩ : Str) = mkS (l.map g) := by
  show (⟨_⟩ : Str) = ⟨_⟩
  congr 1
  apply Array.toList_inj.mp
  unfold placed
  rw [Array.toList_flatten, Array.toList_mapIdx]
  show (List.map Array.toList (List.mapIdx _ l)).flatten = _
  have e : List.mapIdx (fun i c => (f i c).toArray) l = l.map fun c => #[g c] := by
    apply List.ext_getElem?
    intro i
    rw [List.getElem?_mapIdx, List.getElem?_map]
    cases hc : l[i]? with
    | none => rfl
    | some c => simp [h i c hc]
  rw [e]
  clear e h
  induction l with
  | nil => rfl
  | cons a l ih => simpa using ih

section
variable {P : Par} {d : Nat} {env : Env} {σ : Loc} {μ : Led} {A : Around} {β : Fz} {s : Shared}
theorem tooLong_false {n : Nat} (h : n ≤ sizeLine) : Builtin.Str.tooLong n = false := by
  unfold Builtin.Str.tooLong; simpa using h
theorem call_lower {l : List Nat} {Q : V → Led → Prop} (ha : ∀ c ∈ l, c < 128) (hsz : l.length ≤ sizeLine) (h : Q (.str (low l)) μ) : callOk P d μ (B "str.lower") [.str l] [] Q := by
  rintro ν A s β t hR hI ⟨f', as, ks, rf, ra, rk, rfl⟩
  cases rf
  cases rk.nil'
  obtain ⟨_, rfl, r1⟩ := ra.one
  obtain ⟨t, rfl⟩ := r1.strInv
  have e : (⟨placed (mkS l) fun i _ => Unicode.lowerAt (mkS l).cps i⟩ : Str) = mkS (low l) := placed_one fun i c hc => by
    have hc' : (mkS l).cps[i]? = some c := by simpa using hc
    unfold Unicode.lowerAt
    rw [hc']
    have h128 := ha c (List.mem_of_getElem? hc)
    have : (c == 0x3A3) = false := by simp; lia
    simp only [this, Bool.false_and, Bool.false_eq_true, if_false]
    exact lowerOf_ascii c h128
  have e' : placed (mkS l) (fun i _ => Unicode.lowerAt (mkS l).cps i) = (low l).toArray := congrArg Str.cps e
  have hz : (low l).length ≤ sizeLine := by unfold low; rw [List.length_map]; exact hsz
  refine call_gives F.slot_str_lower (typeIs_str _ _ _) F.entry_str_lower (F.args_str_lower_1 _) (gives_str_lower _ _ (by rw [e', List.size_toArray]; exact tooLong_false hz)) ?_
  rw [e]
  exact ⟨by rw [mkS_len]; exact hz, .mk', β, .rfl, _, μ, hI, .str .., h⟩
/-! join -/
noncomputable def joinN (sep : List Nat) : List (List Nat) → List Nat
  | [] => []
  | x :: r => r.foldl (fun acc p => acc ++ sep ++ p) x
theorem glued_mk (sep : List Nat) (xs : List (List Nat)) : Builtin.Str.glued (mkS sep) (xs.map mkS) = mkS (joinN sep xs) := by
  cases xs with
  | nil => rfl
  | cons x r =>
    show (⟨List.foldl (fun acc (p : Str) => acc ++ (mkS sep).cps ++ p.cps) x.toArray (r.map mkS)⟩ : Str) = ⟨(r.foldl (fun acc p => acc ++ sep ++ p) x).toArray⟩
    congr 1
    induction r generalizing x with
    | nil => rfl
    | cons y r ih =>
      rw [List.map_cons, List.foldl_cons, List.foldl_cons]
      have : x.toArray ++ (mkS sep).cps ++ (mkS y).cps = (x ++ sep ++ y).toArray := by simp
      rw [this]
      exact ih _
theorem joinN_nil (xs : List (List Nat)) : joinN [] xs = xs.flatten := by
  cases xs with
  | nil => rfl
  | cons x r =>
    show r.foldl (fun acc p => acc ++ [] ++ p) x = _
    induction r generalizing x with
    | nil => simp
    | cons y r ih => rw [List.foldl_cons, ih]; simp
theorem strs_inv : ∀ {xs : List (List Nat)} {ys : List Value}, VsRel β (xs.map .str) ys → ∃ l : List (Str × Tok), ys = strValues l ∧ l.map (·.1) = xs.map mkS
  | [], _, .nil => ⟨[], rfl, rfl⟩
  | x :: xs, _, .cons a b => by
    obtain ⟨t, rfl⟩ := a.strInv
    obtain ⟨l, rfl, e⟩ := strs_inv b
    exact ⟨(mkS x, t) :: l, rfl, by rw [List.map_cons, e]; rfl⟩
theorem sum_fold (k : Nat) : ∀ (xs : List (List Nat)) (n : Nat), (xs.map mkS).foldl (fun a b => a + b.length + k) n = n + (xs.map fun x => x.length + k).sum
  | [], n => by simp
  | x :: xs, n => by
    rw [List.map_cons, List.foldl_cons, sum_fold k xs, mkS_len]
    simp; lia
theorem call_join {sep : List Nat} {l : Addr} {xs : List (List Nat)} {Q : V → Led → Prop} (hm : (l, AObj.list (xs.map .str)) ∈ μ) (hsz : (xs.map fun x => x.length + sep.length).sum ≤ sizeLine) (hj : (joinN sep xs).length ≤ sizeLine) (h : Q (.str (joinN sep xs)) μ) : callOk P d μ (B "str.join") [.str sep, R l] [] Q := by
  rintro ν A s β t hR hI ⟨f', as, ks, rf, ra, rk, rfl⟩
  cases rf
  cases rk.nil'
  obtain ⟨_, _, rfl, r1, r2⟩ := ra.two
  obtain ⟨t, rfl⟩ := r1.strInv
  cases r2
  obtain ⟨its, hl, r, es⟩ := list_ext_get hI (List.mem_append_left _ hm)
  obtain ⟨ls, e1, e2⟩ := strs_inv r
  have e3 : its = (strValues ls).toArray := by rw [← e1]
  rw [e3] at hl
  refine call_meets F.slot_str_join (typeIs_str _ _ _) F.entry_str_join (F.args_str_join_2 _ _) (meets_str_join_list (mkS sep) t l ls ?_) ⟨hl, ?_⟩
  · rw [e2]
    refine tooLong_false ?_
    rw [List.foldl_toArray]
    show List.foldl (fun a (b : Str) => a + b.length + (mkS sep).length) 0 _ ≤ _
    rw [mkS_len, sum_fold]
    lia
  · have key : (Made.str (Builtin.Str.glued (mkS sep) (ls.map (·.1)))).post (fun v s' => wants (LP β (OpP P VRel ν Q) s) (fun _ _ => False) (.ok (.ret v)) s') s := by
      rw [e2, glued_mk]
      exact ⟨by rw [mkS_len]; exact hj, .mk', β, .rfl, _, μ, hI, .str .., h⟩
    rcases ls with _ | ⟨p, _ | ⟨p', ls⟩⟩
    · exact key
    · rcases xs with _ | ⟨x, _ | ⟨x', xs⟩⟩
      · simp at e2
      · obtain ⟨p1, p2⟩ := p
        simp at e2
        subst e2
        exact ⟨.rfl, β, .rfl, _, μ, hI, .str x _, h⟩
      · simp at e2
    · exact key

/-! strs of numbers, numbers of strs -/
noncomputable def codes (x : String) : List Nat := (Str.ofString x).cps.toList
theorem call_strInt {a : Int} {Q : V → Led → Prop} (ha : a.natAbs < 2 ^ 64) (h : Q (.str (codes (toString a))) μ) : callOk P d μ (T "str") [.int a] [] Q := by
  rintro ν A s β t hR hI ⟨f', as, ks, rf, ra, rk, rfl⟩
  cases rf
  cases rk.nil'
  obtain ⟨_, rfl, r1⟩ := ra.one
  cases r1
  refine PySem.P.str_of_int ?_ ⟨.mk', β, .rfl, _, μ, hI, .str' rfl, h⟩
  by_cases h0 : a.natAbs = 0
  · rw [h0]; decide
  · exact Nat.lt_of_lt_of_le ((Nat.log2_lt h0).mpr ha) (by decide)
theorem call_intStr {l : List Nat} {n : Int} {Q : V → Led → Prop} (hn : PySem.intText? (mkS l) = some n) (hl : l.length ≤ 640) (h : Q (.int n) μ) : callOk P d μ (T "int") [.str l] [] Q := by
  rintro ν A s β t hR hI ⟨f', as, ks, rf, ra, rk, rfl⟩
  cases rf
  cases rk.nil'
  obtain ⟨_, rfl, r1⟩ := ra.one
  obtain ⟨t, rfl⟩ := r1.strInv
  exact PySem.W.KIN.call_text hn (by rw [mkS_len]; exact hl) ⟨.mk', β, .rfl, _, μ, hI, .int .., h⟩
theorem cmp_inStr {a b : List Nat} {c : Bool} {Q : V → Led → Prop} (hc : (!(Builtin.Str.occurrences (mkS b) (mkS a) 0 b.length 1).isEmpty) = c) (h : Q (.bool c) μ) : cmpOk P d μ .In (.str a) (.str b) Q := by
  rintro ν A s β t hR hI ⟨a', b', ra, rb, rfl⟩
  obtain ⟨t, rfl⟩ := ra.strInv
  obtain ⟨u, rfl⟩ := rb.strInv
  exact PyProof.Rows.in_str ⟨.rfl, β, .rfl, _, μ, hI, by rw [mkS_len, hc]; exact .bool _, h⟩
theorem call_index {x y : List Nat} {i : Nat} {rest : List Nat} {Q : V → Led → Prop} (hc : Builtin.Str.occurrences (mkS x) (mkS y) 0 x.length 1 = i :: rest) (h : Q (.int i) μ) : callOk P d μ (B "str.index") [.str x, .str y] [] Q := by
  rintro ν A s β t hR hI ⟨f', as, ks, rf, ra, rk, rfl⟩
  cases rf
  cases rk.nil'
  obtain ⟨_, _, rfl, r1, r2⟩ := ra.two
  obtain ⟨t, rfl⟩ := r1.strInv
  obtain ⟨u, rfl⟩ := r2.strInv
  exact call_gives F.slot_str_index (typeIs_str _ _ _) F.entry_str_index (F.args_str_index_2 _ _) (gives_str_index _ _ _ _ i rest (by rw [mkS_len]; exact hc)) ⟨.mk', β, .rfl, _, μ, hI, .int .., h⟩
end
end Mine

namespace Mine
open PySem PySem.W PySem.Calls PyProof.Rows

section
variable {P : Par} {d : Nat} {env : Env} {σ : Loc} {μ : Led} {A : Around} {β : Fz} {s : Shared}

/-! the dict of an instance -/
noncomputable def putD (n : Str) (v : V) : Loc → Loc
  | [] => [(n, some v)]
  | (m, o) :: r => if m == n then (m, some v) :: r else (m, o) :: putD n v r
theorem DRel.refs : ∀ {σ es}, DRel β σ es → es.any (·.refKey) = false
  | _, _, .nil => rfl
  | _, _, .cons a b => by rw [List.any_cons, DRel.refs b]; rfl
theorem DRel.length : ∀ {σ es}, DRel β σ es → es.length = σ.length
  | _, _, .nil => rfl
  | _, _, .cons a b => by simp [DRel.length b]
theorem DRel.look {n : Str} : ∀ {σ es}, DRel β σ es → ∃ r, getL n es = some r ∧ OptRel β ((σ.lookup n).join) r
  | _, _, .nil => ⟨none, rfl, trivial⟩
  | (m, some v) :: σ, _, .cons (t := t) (hsh := hsh) (x := x) (es := es) a b => by
    refine away fun G hG => ?_
    obtain ⟨r, e, q⟩ := DRel.look (n := n) b
    refine hG ?_
    clear hG G
    rw [List.lookup_cons]
    unfold getL at e ⊢
    rw [List.find?_cons]
    have hk : ((⟨hsh, .str m t, x⟩ : DictEntry).key.isStr n) = (m == n) := rfl
    rw [hk]
    by_cases h : m = n
    · subst h
      simp only [beq_self_eq_true]
      exact ⟨some x, rfl, a⟩
    · have h1 : (m == n) = false := by simpa using h
      have h2 : (n == m) = false := by simpa using fun q => h q.symm
      rw [h1, h2]
      rw [DRel.refs b] at e
      refine ⟨r, ?_, q⟩
      rw [← e]
      cases es.find? (·.key.isStr n) with
      | some e => rfl
      | none =>
        rw [show ((⟨hsh, .str m t, x⟩ : DictEntry) :: es).any (·.refKey) = false from by rw [List.any_cons, DRel.refs b]; rfl]
theorem DRel.put {n : Str} {v : V} {hsh : Int} {t : Tok} {x : Value} (r : VRel β v x) : ∀ {σ es}, DRel β σ es → DRel β (putD n v σ) (putL n hsh (.str n t) x es)
  | _, _, .nil => .cons r .nil
  | (m, some w) :: σ, _, .cons (t := t') (hsh := hsh') (x := y) (es := es) a b => by
    unfold putD putL
    show DRel β (if (m == n) = true then _ else _) (if (m == n) = true then _ else _)
    cases m == n with
    | true => exact .cons r b
    | false => exact .cons a (DRel.put r b)
theorem putD_len {n : Str} {v : V} : ∀ {σ : Loc}, (putD n v σ).length ≤ σ.length + 1
  | [] => Nat.le_refl _
  | (m, o) :: r => by
    unfold putD
    split
    · simp
    · simpa using putD_len

theorem instLook {ν : Led} {x C dd : Addr} {σd : Loc} (I : Inv P β (μ ++ ν) s.heap) (hx : (x, AObj.inst C dd) ∈ μ) (hd : (dd, AObj.dict σd) ∈ μ) : ∃ es n, InstAt s.heap x (instObj C dd) C (some (dictOf es n)) ∧ DRel β σd es ∧ s.heap.get? dd = some (dictOf es n) := by
  refine away fun G hG => ?_
  obtain ⟨o, e, eY1⟩ := I.led _ (List.mem_append_left _ hx)
  refine hG ?_
  clear hG G
  subst eY1
  refine away fun G hG => ?_
  obtain ⟨o', e', es, n, eY1, r⟩ := I.led _ (List.mem_append_left _ hd)
  refine hG ?_
  clear hG G
  subst eY1
  exact ⟨es, n, ⟨e, rfl, rfl, e'⟩, r, e'⟩

theorem get_inst {x C dd : Addr} {σd : Loc} {name : Str} {attr : Option Value} {v : V} {Q : V → Led → Prop} (hx : (x, AObj.inst C dd) ∈ μ) (hd : (dd, AObj.dict σd) ∈ μ) (hl : (σd.lookup name).join = some v)
    (hg : plainGet P.K C name = true) (hh : hasDictIn P.K C = true) (ha : findIn P.K (.ref C) name = some attr) (hn : noGet P.K attr = true) (hv : ∀ β y, VRel β v y → handedIn y = true) (h : Q v μ) : getOk P d μ (R x) name Q := by
  rintro ν A s β t hR hI hY0
  refine away fun G hG => ?_
  obtain ⟨a', ra, eY1⟩ := hY0
  refine hG ?_
  clear hG G
  subst eY1
  cases ra
  refine away fun G hG => ?_
  obtain ⟨es, n, I, r, _⟩ := instLook hI hx hd
  refine hG ?_
  clear hG G
  refine away fun G hG => ?_
  obtain ⟨w, e, q⟩ := r.look (n := name)
  refine hG ?_
  clear hG G
  rw [hl] at q
  cases w with
  | none => exact q.elim
  | some w => exact get_value hI.inK I (plainGet_of hg).1 (findObj_own hh ha hn (by rw [lookIn_dict]; exact e)) (hv _ _ q) ⟨.mk', β, .rfl, v, μ, hI, q, h⟩
theorem handed_raw {a : Addr} : ∀ (β : Fz) y, VRel β (R a) y → handedIn y = true := fun _ _ r => by cases r; rfl
theorem handed_str {l} : ∀ (β : Fz) y, VRel β (.str l) y → handedIn y = true := fun _ _ r => by cases r; rfl
theorem handed_int {l} : ∀ (β : Fz) y, VRel β (.int l) y → handedIn y = true := fun _ _ r => by cases r; rfl

theorem meth_inst {x C dd f : Addr} {σd : Loc} {name : Str} {Q : V × List V → Led → Prop} (hx : (x, AObj.inst C dd) ∈ μ) (hd : (dd, AObj.dict σd) ∈ μ) (hl : (σd.lookup name).join = none)
    (hg : plainGet P.K C name = true) (hf : findIn P.K (.ref C) name = some (some (.ref f))) (ht : isFn P.K (.ref f) = true) (h : Q (R f, [R x]) μ) : methOk P d μ (R x) name Q := by
  rintro ν A s β t hR hI hY0
  refine away fun G hG => ?_
  obtain ⟨a', pl, ra, eY1⟩ := hY0
  refine hG ?_
  clear hG G
  subst eY1
  cases ra
  refine away fun G hG => ?_
  obtain ⟨es, n, I, r, _⟩ := instLook hI hx hd
  refine hG ?_
  clear hG G
  refine away fun G hG => ?_
  obtain ⟨w, e, q⟩ := r.look (n := name)
  refine hG ?_
  clear hG G
  rw [hl] at q
  cases w with
  | some w => exact q.elim
  | none => exact method_fn hI.inK I (plainGet_of hg).1 (plainGet_of hg).2 hf (beq_iff_eq.mp ht) (by show (lookIn name (dictOf es n)).map _ = _; rw [lookIn_dict, e]; rfl) ⟨.rfl, β, .rfl, _, μ, hI, ⟨.raw _, .cons (.raw _) .nil⟩, h⟩

theorem evOk.attr {o : Expr} {name : Str} {pos} {Q : V → Led → Prop} (h : evOk P d env σ μ o fun ov μ1 => getOk P d μ1 ov name Q) (hb : attributeBase o name env (eval o env) = eval o env) (ht : ∀ a b, letTemporaryGo o a b = pure ()) : evOk P d env σ μ (.Attribute o name pos) Q := fun A s β hR hI => by
  rw [arm_eval_Attribute, hb]
  refine wpL.bind ((h A s β hR hI).mono fun a' β1 h1 le1 hX0 s1 e1 => ?_)
  refine away fun G hG => ?_
  obtain ⟨a, μ1, I1, ra, q1⟩ := hX0
  refine hG ?_
  clear hG G
  refine wpL.standAt_bind (wpL.bind (wpL.holding ((q1.loc hR (e1 ▸ I1) ⟨a', ra, rfl⟩).mono fun r' β2 h2 le2 hX1 s2 e2 => ?_)))
  refine away fun G hG => ?_
  obtain ⟨r, μ2, I2, rr, q2⟩ := hX1
  refine hG ?_
  clear hG G
  rw [ht]
  exact wpL.pure_bind (wpL.pure ⟨r, μ2, e2 ▸ I2, rr, q2⟩)
end
end Mine

namespace Mine
open PySem PySem.W PySem.Calls PyProof.Rows

section
variable {P : Par} {d : Nat} {env : Env} {σ : Loc} {μ : Led} {A : Around} {β : Fz} {s : Shared}

theorem Inv.change {h h' : Heap} {μ' : Led} (I : Inv P β μ h) (hkeys : μ'.map (·.1) = μ.map (·.1)) (hl : ∀ p ∈ μ', ∃ o, h'.get? p.1 = some o ∧ ORel β p.2 o)
    (hk : ∀ b o, b ∉ μ.map (·.1) → h.get? b = some o → h'.get? b = some o) : Inv P β μ' h' where
  base := I.base
  froz := fun b o e => hk b o (fun m => by obtain ⟨p, hp, rfl⟩ := List.mem_map.mp m; rw [I.sep p hp] at e; cases e) (I.froz b o e)
  led := hl
  sep := fun p hp => by
    have : p.1 ∈ μ.map (·.1) := hkeys ▸ List.mem_map_of_mem hp
    refine away fun G hG => ?_
    obtain ⟨q, hq, e⟩ := List.mem_map.mp this
    refine hG ?_
    clear hG G
    rw [← e]; exact I.sep q hq
  nd := by rw [hkeys]; exact I.nd
  tab := fun q hq => by
    refine away fun G hG => ?_
    obtain ⟨⟨ps, e1, e2⟩, e3, e4⟩ := I.tab q hq
    refine hG ?_
    clear hG G
    rw [hkeys]
    exact ⟨⟨ps, hk _ _ e4 e1, e2⟩, e3, e4⟩

noncomputable def emptyHeap (h : Heap) : Heap := { h with objs := #[] }
theorem emptyHeap_none {h : Heap} {a : Addr} : (emptyHeap h).get? a = none := by
  unfold emptyHeap
  exact Heap.get?_none_of_le (Nat.zero_le _)
noncomputable def others (h : Heap) (L dx : Addr) : List (Addr × Obj) := (List.range h.objs.size).filterMap fun a => if a = L ∨ a = dx then none else (h.get? a).map fun o => (a, o)
theorem mem_others {h : Heap} {L dx a : Addr} {o : Obj} : (a, o) ∈ others h L dx ↔ (a ≠ L ∧ a ≠ dx ∧ h.get? a = some o) := by
  unfold others
  rw [List.mem_filterMap]
  constructor
  · rintro ⟨b, _, e⟩
    split at e
    · cases e
    · rename_i hn
      cases hb : h.get? b with
      | none => rw [hb] at e; cases e
      | some o' =>
        rw [hb] at e
        cases e
        exact ⟨fun q => hn (.inl q), fun q => hn (.inr q), hb⟩
  · rintro ⟨h1, h2, h3⟩
    exact ⟨a, List.mem_range.mpr (Heap.lt_size h3), by rw [if_neg (fun q => q.elim h1 h2), h3]; rfl⟩

theorem asOk.attr {o : Expr} {name : Str} {pos} {v : V} {Q : Loc → Led → Prop}
    (h : evOk P d env σ μ o fun ov μ1 => ∃ x C dd σd μ2, ov = R x ∧ (x, AObj.inst C dd) ∈ μ1 ∧ UpdL dd (.dict (putD name v σd)) (.dict σd) μ1 μ2 ∧ σd.length < 900 ∧
      findIn P.K (.ref C) "__setattr__" = some (some (.builtin "object.__setattr__")) ∧ plainOver P.K C = true ∧ takerIn P.K C name = some none ∧ hasDictIn P.K C = true ∧ Q σ μ2) : asOk P d env σ μ (.Attribute o name pos) v Q := fun A s β y hR hI ry => by
  rw [arm_assign_Attribute]
  refine wpL.bind (wpL.holding ((h A s β hR hI).mono fun o' β1 h1 le1 hX0 s1 e1 => ?_))
  refine away fun G hG => ?_
  obtain ⟨ov, μ1, I1, ro, x, C, dd, σd, μ2, eo, hx, hU, hlen, hs, hp, ht, hh, q⟩ := hX0
  refine hG ?_
  clear hG G
  subst eo; subst e1
  cases ro
  refine wpL.standAt_bind (wpL.bind (wpL.holding ?_))
  refine away fun G hG => ?_
  obtain ⟨es, n, Ia, r, hdd⟩ := instLook (μ := μ1) (ν := [(env.locals, .ns σ)]) (I1.perm (List.perm_append_comm (l₁ := [_]) (l₂ := μ1))) hx hU.mem
  refine hG ?_
  clear hG G
  refine away fun G hG => ?_
  obtain ⟨oL, hoL, esL, epL, hdL, hkL, hndL, hvL⟩ := I1.led _ (.head _)
  refine hG ?_
  clear hG G
  have hLd : dd ≠ env.locals := fun q => by
    have nd := I1.nd
    simp only [List.map_cons, List.nodup_cons] at nd
    exact nd.1 (q ▸ List.mem_map_of_mem hU.mem)
  refine away fun G hG => ?_
  obtain ⟨w, ew, _⟩ := r.look (n := name)
  refine hG ?_
  clear hG G
  have F : Fr (emptyHeap s1.heap) env.locals s1.heap (nsFind esL) := ⟨⟨oL, esL, epL, hoL, hdL, hkL, fun _ => rfl⟩, (fun b o e => by rw [emptyHeap_none] at e; cases e), Nat.zero_le _⟩
  have N : News (emptyHeap s1.heap) env.locals s1.heap (others s1.heap env.locals dd ++ (dd, dictOf es n) :: []) := fun p hp => by
    rcases List.mem_append.mp hp with hp | hp
    · refine away fun G hG => ?_
      obtain ⟨a, o⟩ := p
      refine hG ?_
      clear hG G
      refine away fun G hG => ?_
      obtain ⟨e1, e2, e3⟩ := mem_others.mp hp
      refine hG ?_
      clear hG G
      exact ⟨e3, e1, emptyHeap_none⟩
    · rw [List.mem_singleton.mp hp]
      exact ⟨hdd, hLd, emptyHeap_none⟩
  refine set_plain I1.inK Ia hs ?_
  refine osa_dict (s := { s1 with toks := s1.toks + 1 }) F N I1.inK Ia rfl hp ht hh (by rw [lookIn_dict, ew]; rfl) (fun p hp => (mem_others.mp hp).2.1) (by simp) (putName_dict name _ _ _ es n) rfl ?_ fun h' F' N' => ?_
  · have := (r.put (n := name) (v := v) (hsh := PyData.keyHash P.w.params name) (t := s1.toks + 1) (ry.mono le1)).length
    rw [this]
    have := putD_len (n := name) (v := v) (σ := σd)
    lia
  · have hk : ∀ b o, b ≠ env.locals → b ≠ dd → s1.heap.get? b = some o → h'.get? b = some o := fun b o n1 n2 e => (N' (b, o) (List.mem_append_left _ (mem_others.mpr ⟨n1, n2, e⟩))).1
    have hdd' := (N' _ (List.mem_append_right _ (List.mem_singleton.mpr rfl))).1
    have I2 : Inv P β1 ((env.locals, .ns σ) :: μ2) h' := by
      refine I1.change (by simp [hU.keys]) (fun p hp => ?_) fun b o hb e => hk b o (fun q => hb (q ▸ .head _)) (fun q => hb (q ▸ .tail _ (List.mem_map_of_mem (f := Prod.fst) hU.mem))) e
      rcases List.mem_cons.mp hp with rfl | hp
      · refine away fun G hG => ?_
        obtain ⟨o', es', ep', ho', hd', hk', hf'⟩ := F'.ns
        refine hG ?_
        clear hG G
        exact ⟨o', ho', es', ep', hd', hk', hndL, fun p hp => by rw [hf']; exact hvL p hp⟩
      · have nd := I1.nd
        simp only [List.map_cons, List.nodup_cons] at nd
        rcases hU.spec nd.2 p hp with rfl | ⟨hp, hne⟩
        · exact ⟨_, hdd', _, _, rfl, r.put (ry.mono le1)⟩
        · refine away fun G hG => ?_
          obtain ⟨o, e, ro⟩ := I1.led p (.tail _ hp)
          refine hG ?_
          clear hG G
          exact ⟨o, hk _ _ (fun q => nd.1 (q ▸ List.mem_map_of_mem hp)) hne e, ro⟩
    exact ⟨⟨rfl, rfl, rfl⟩, β1, .rfl, fun s2 e2 => wpL.release ⟨σ, μ2, e2 ▸ I2, q⟩⟩

theorem unitsC (C : Addr) (xs : List Value) (ks : List (Str × Value)) : (Code.builtin "type.__call__" ⟨.ref C :: xs, ks⟩).cUnits ≤ 4 := by
  show 1 + 3 * (if (Code.builtin "type.__call__" ⟨.ref C :: xs, ks⟩).isFrame then 1 else 0) ≤ 4
  split <;> decide
theorem callOk.cls {C fI : Addr} {args : List V} {kw : List (Str × V)} {Q : V → Led → Prop} (hm : makesIn P.K C = true) (hi : findIn P.K (.ref C) "__init__" = some (some (.ref fI))) (hf : isFn P.K (.ref fI) = true)
    (h : ∀ x dd, fnOk P d ((x, .inst C dd) :: (dd, .dict []) :: μ) (R fI) (R x :: args) kw fun v μ' => v = .none ∧ Q (R x) μ') : callOk P (d + 1) μ (R C) args kw Q := by
  rintro ν A s β t hR hI hY0
  refine away fun G hG => ?_
  obtain ⟨f', xs, ks, rf, rx, rk, eY1⟩ := hY0
  refine hG ?_
  clear hG G
  subst eY1
  cases rf
  refine away fun G hG => ?_
  obtain ⟨hh, g, dd, tk, os⟩ := s
  refine hG ?_
  clear hG G
  refine wpAny_call (make_core (makes_of hI.inK hm) (looks_findIn hI.inK hi) (fun self => bind_fn hI.inK self (beq_iff_eq.mp hf)) (.inl rfl) ?_)
  have I1 := hI.new (push_keeps emptyDict) get_size_none (x := .dict []) ⟨_, Heap.get?_push_size _ rfl, [], 0, rfl, .nil⟩
  have I2 := I1.new (push_keeps (instObj C hh.objs.size)) get_size_none (x := .inst C hh.objs.size) ⟨_, Heap.get?_push_size _ rfl, rfl⟩
  rw [Heap.size_push] at I2
  refine codeAny_mono (h (hh.objs.size + 1) hh.objs.size ν (A.under (.builtin "type.__call__" ⟨.ref C :: xs, ks⟩)) _ β _ (.ref (hh.objs.size + 1) :: xs) ks ?_ I2 (.raw _) (.cons (.raw _) rx) rk) fun r s' hr => ?_
  · exact ⟨by have := hR.depth; show A.depth + 1 + 2 * d < 1000; lia, by have := hR.units; have := unitsC C xs ks; show A.units + (Code.builtin "type.__call__" ⟨.ref C :: xs, ks⟩).cUnits + 8 * d + 40 < 9900; lia, hR.handled⟩
  · cases r with
    | error e => exact hr.elim
    | ok fl =>
      cases fl with
      | ret v =>
        refine away fun G hG => ?_
        obtain ⟨st, β', le, c, μ', I', rv, e, q⟩ := hr
        refine hG ?_
        clear hG G
        subst e
        cases rv
        exact ⟨rfl, ⟨st.gens, st.drawn, st.os⟩, β', le, _, μ', I', .raw _, q⟩
      | _ => exact hr.elim
end
end Mine

namespace Mine
open PySem PySem.W PySem.Calls PyProof.Rows

section
variable {P : Par} {d : Nat} {env : Env} {σ : Loc} {μ : Led} {A : Around} {β : Fz} {s : Shared}

theorem among_snoc {pos pos' : Pos} {c cv : Value} (l : List Value) (h : TriplesOk l) (e : codeAmong pos' (l ++ [rawInt pos.line, rawInt pos.col, c]) = some cv) : codeAmong pos' l = some cv ∨ (pos.line = pos'.line ∧ pos.col = pos'.col ∧ cv = c) := by
  fun_induction TriplesOk l with
  | case1 =>
    right
    simp only [List.nil_append, codeAmong, rawInt] at e
    split at e
    · rename_i hc
      simp only [Bool.and_eq_true, beq_iff_eq] at hc
      cases e
      exact ⟨by have := hc.1; lia, by have := hc.2; lia, rfl⟩
    · cases e
  | case2 a t b u x rest ih =>
    simp only [List.cons_append, codeAmong] at e ⊢
    split at e
    · rename_i hc; left; rw [if_pos hc]; exact e
    · rename_i hc; rw [if_neg hc]; exact ih h e
  | case3 l h1 h2 => exact h.elim

theorem Inv.table {h h' : Heap} {q : Addr × Addr} {c' : Addr} {oc : Obj} {ps' : Array Value} (I : Inv P β μ h) (hq : q ∈ P.tabs) (hs : Heap.ExtBut q.2 h h') (hn : h.get? c' = none) (hc : h'.get? c' = some oc)
    (ht : h'.get? q.2 = some (tabObj ps')) (tg : TabGood P.qualAt (β.put c' oc) ps') : Inv P (β.put c' oc) μ h' ∧ β.le (β.put c' oc) := by
  refine away fun G hG => ?_
  obtain ⟨n1, n2, n3⟩ := I.size_none hn
  refine hG ?_
  clear hG G
  have le := Fz.put_le (o := oc) n1
  have hb2 := (I.tab q hq).2.1
  refine ⟨⟨fun b o e => le _ _ (I.base b o e), fun b o e => ?_, fun p hp => ?_, fun p hp => ?_, I.nd, fun q' hq' => ?_⟩, le⟩
  · unfold Fz.put at e
    split at e
    · rename_i qq; cases e; rw [qq]; exact hc
    · exact hs b o (fun z => by rw [z, hb2] at e; cases e) (I.froz b o e)
  · refine away fun G hG => ?_
    obtain ⟨o, e, r⟩ := I.led p hp
    refine hG ?_
    clear hG G
    exact ⟨o, hs _ _ (fun z => (I.tab q hq).2.2 (z ▸ List.mem_map_of_mem hp)) e, r.mono le⟩
  · unfold Fz.put
    rw [if_neg (fun z : p.1 = c' => n2 (z ▸ List.mem_map_of_mem hp))]
    exact I.sep p hp
  · refine away fun G hG => ?_
    obtain ⟨⟨ps, e1, e2⟩, e3, e4⟩ := I.tab q' hq'
    refine hG ?_
    clear hG G
    refine ⟨?_, ?_, e4⟩
    · by_cases z : q'.2 = q.2
      · exact ⟨ps', by rw [z]; exact ht, tg⟩
      · exact ⟨ps, hs _ _ z e1, e2.mono le⟩
    · unfold Fz.put
      rw [if_neg (n3 q' hq')]; exact e3

theorem make_tail {E : Value → Shared → Prop} {name qual : Str} {params : Arguments} {body : FuncBody} {scope : Scope} {clos : List (Str × Addr)} {pos : Pos} {fl : Nat} {c Pt : Addr} {ps : Array Value} {Q : Value → Shared → Prop}
    (hcl : closureFor scope env = pure clos) (hge0 : env.globals = mainGlobals) (hg : s.heap.Ns mainGlobals P.mg) (hcode : env.code = .ref c) (C : CodeHd s.heap c Pt) (hP : s.heap.get? Pt = some (tabObj ps)) (ht : TriplesOk ps.toList)
    (hnf : codeAmong pos ps.toList = none) (hgP : mainGlobals ≠ Pt) (hb : s.heap.BuiltinsAt P.mg Pt)
    (h : ∀ c' ctv doc h' tk, Heap.ExtBut Pt s.heap h' → s.heap.objs.size ≤ c' → h'.CodeRec (.ref c') qual → (∃ P', h'.IsCode c' P' #[]) → h'.get? Pt = some (tabObj (ps ++ #[rawInt pos.line, rawInt pos.col, .ref c'])) →
      Q (.ref h'.objs.size) { s with heap := h'.push (kdv_obj name qual params body scope clos .none doc ((P.mg "__name__").getD .none) c' ctv), toks := tk }) :
    wpAny (model P.prog P.w) A (makeTail name qual params body scope env .none .none none pos fl) Q E s := by
  refine away fun G hG => ?_
  obtain ⟨bm, ob, hbm, hne0, _, hneP, hbo, hcls, hdict, hdata⟩ := hb
  refine hG ?_
  clear hG G
  unfold makeTail
  rw [hcl, hge0]
  refine wpAny_bind (wpAny_pure ?_)
  cases clos with
  | nil =>
    simp only [List.isEmpty_nil, if_true]
    refine wpAny_bind (wpAny_pure ?_)
    refine wpAny_bind (wpAny_functionCodeX hcode (C.code hP ht) (C.tab hP) hnf fun c' h' tk hx hge hlt _ hrec htb hic => ?_)
    have hic' : ∃ P', h'.IsCode c' P' #[] := let ⟨P', _, z, _⟩ := hic; ⟨P', z⟩
    have hg' := hg.extBut hx hgP
    refine wpAny_bind (wpAny_builtinsFor hg' hbm hne0 (hx _ _ hneP hbo) hcls hdict hdata ?_)
    refine wpAny_bind (wpAny_nsGet hg' ?_)
    cases body with
    | expr e => exact wpAny_bind (wpAny_pure (wpAny_newObj_type (h c' .none .none h' tk hx hge hrec hic' htb.2) (by size_fits)))
    | stmts b =>
      cases hdoc : docOf b with
      | none => exact wpAny_bind (by simp only [hdoc]; exact wpAny_pure (wpAny_newObj_type (h c' .none .none h' tk hx hge hrec hic' htb.2) (by size_fits)))
      | some t => exact wpAny_bind (by simp only [hdoc]; exact wpAny_mkText (wpAny_newObj_type (h c' .none _ h' _ hx hge hrec hic' htb.2) (by size_fits)))
  | cons q r =>
    simp only [List.isEmpty_cons, Bool.false_eq_true, if_false]
    refine wpAny_bind (wpAny_newTextTuple ?_)
    refine wpAny_bind (wpAny_functionCodeX hcode ((C.keeps fun b o e => Heap.get?_push_of_some _ e).code (Heap.get?_push_of_some _ hP) ht) ((C.keeps fun b o e => Heap.get?_push_of_some _ e).tab (Heap.get?_push_of_some _ hP)) hnf fun c' h' tk hx hge hlt _ hrec htb hic => ?_)
    have hic' : ∃ P', h'.IsCode c' P' #[] := let ⟨P', _, z, _⟩ := hic; ⟨P', z⟩
    have hg' := (hg.push _).extBut hx hgP
    have hx' : Heap.ExtBut Pt s.heap h' := fun b o hb' e => hx b o hb' (Heap.get?_push_of_some _ e)
    have hge' : s.heap.objs.size ≤ c' := Nat.le_trans (by rw [Heap.size_push]; lia) hge
    refine wpAny_bind (wpAny_builtinsFor hg' hbm hne0 (hx' _ _ hneP hbo) hcls hdict hdata ?_)
    refine wpAny_bind (wpAny_nsGet hg' ?_)
    cases body with
    | expr e => exact wpAny_bind (wpAny_pure (wpAny_newObj_type (h c' _ .none h' tk hx' hge' hrec hic' htb.2) (by size_fits)))
    | stmts b =>
      cases hdoc : docOf b with
      | none => exact wpAny_bind (by simp only [hdoc]; exact wpAny_pure (wpAny_newObj_type (h c' _ .none h' tk hx' hge' hrec hic' htb.2) (by size_fits)))
      | some t => exact wpAny_bind (by simp only [hdoc]; exact wpAny_mkText (wpAny_newObj_type (h c' _ _ h' _ hx' hge' hrec hic' htb.2) (by size_fits)))

theorem make_fn {name qual : Str} {params : Arguments} {body : FuncBody} {scope : Scope} {clos : List (Str × Addr)} {pos : Pos} {fl : Nat} {c Pt : Addr} {ρ : Led} {Q : Value → Fz → Heap → Prop} (htab : (c, Pt) ∈ P.tabs) (hcode : env.code = .ref c) (hge : env.globals = mainGlobals)
    (hcl : closureFor scope env = pure clos) (hq : P.qualAt pos.line pos.col = qual) (hI : Inv P β ρ s.heap)
    (h : ∀ a doc cv ctv β' h', β.le β' → Inv P β' ((a, .fn (kdv_fn name qual params body scope clos .none doc ((P.mg "__name__").getD .none) cv ctv) none) :: ρ) h' → Q (.ref a) β' h') :
    wpL P A β (makeTail name qual params body scope env .none .none none pos fl) Q s := by
  refine away fun G hG => ?_
  obtain ⟨⟨ps, ht, tg⟩, hβP, _⟩ := hI.tab _ htab
  refine hG ?_
  clear hG G
  have hg := P.g.keeps hI.keep
  have C : CodeHd s.heap c Pt := (P.codeHd _ htab).keeps hI.keep
  refine away fun G hG => ?_
  obtain ⟨bm, ob, eb, hne, hbo, hbc, hbd, hbdat⟩ := P.bmain
  refine hG ?_
  clear hG G
  have hbP : bm ≠ Pt := fun z => by rw [z] at hbo; rw [hI.base _ _ hbo] at hβP; cases hβP
  have hmP : mainGlobals ≠ Pt := fun z => by
    refine away fun G hG => ?_
    obtain ⟨o, _, _, e, _⟩ := P.g
    refine hG ?_
    clear hG G
    rw [z] at e; rw [hI.base _ _ e] at hβP; cases hβP
  refine away fun G hG => ?_
  obtain ⟨omg, esg, epg, emg, dmg, _⟩ := P.g
  refine hG ?_
  clear hG G
  have hbm : bm ≠ mainGlobals := fun z => by
    rw [z] at hbo
    rw [hbo] at emg; cases emg
    rw [hbdat] at dmg; cases dmg
  have hB : s.heap.BuiltinsAt P.mg Pt := ⟨bm, ob, eb, hne, hbm, hbP, hI.keep _ _ hbo, hbc, hbd, hbdat⟩
  cases hf : codeAmong pos ps.toList with
  | some cv =>
    refine away fun G hG => ?_
    obtain ⟨c1, e1, o, vs, t, e2, e3, e4⟩ := tg.hit pos cv hf
    refine hG ?_
    clear hG G
    refine kdv_makeTailHit hcl hge hg hcode C ht tg.ok hf hB fun ctv doc h' tk hk hsz => ?_
    have I1 := hI.ext hk
    have I2 := I1.new (push_keeps { cls := .type "function", data := .func (kdv_fn name qual params body scope clos .none doc ((P.mg "__name__").getD .none) cv ctv) }) get_size_none
      (x := .fn (kdv_fn name qual params body scope clos .none doc ((P.mg "__name__").getD .none) cv ctv) none) ⟨_, Heap.get?_push_size _ rfl, rfl, c1, o, vs, t, e1, e2, e3, by rw [e4.1, hq], e4.2⟩
    exact ⟨.mk', β, .rfl, h _ doc cv ctv β _ .rfl I2⟩
  | none =>
    refine make_tail hcl hge hg hcode C ht tg.ok hf hmP hB fun c' ctv doc h' tk hs hge1 hcr hic ht' => ?_
    refine away fun G hG => ?_
    obtain ⟨c1, oc, vs, t, e1, e2, e3, e4⟩ := hcr
    refine hG ?_
    clear hG G
    cases e1
    have hsz : 5 < vs.size := by
      refine away fun G hG => ?_
      obtain ⟨P', o2, vs2, _, _, _, _, _, _, _, _, z1, z2, z3, _⟩ := hic
      refine hG ?_
      clear hG G
      rw [e2] at z1; cases z1
      rw [e3] at z2; cases z2
      by_cases q : 5 < vs.size
      · exact q
      · rw [Array.getD_eq_getD_getElem?, Array.getElem?_eq_none (by lia)] at z3; cases z3
    have hn : s.heap.get? c' = none := Heap.get?_none_of_le hge1
    have hn0 := (hI.size_none hn).1
    have tg' : TabGood P.qualAt (β.put c' oc) (ps ++ #[rawInt pos.line, rawInt pos.col, .ref c']) := by
      have tm := tg.mono (Fz.put_le (o := oc) hn0)
      refine ⟨by rw [Array.toList_append]; exact TriplesOk_snoc _ _ _ _ tg.ok, fun pos' cv e => ?_⟩
      rw [Array.toList_append] at e
      rcases among_snoc ps.toList tg.ok e with e | ⟨q1, q2, q3⟩
      · exact tm.hit pos' cv e
      · exact ⟨c', q3, oc, vs, t, Fz.put_self, e3, by rw [e4, ← q1, ← q2, hq], hsz⟩
    refine away fun G hG => ?_
    obtain ⟨I1, le1⟩ := hI.table htab hs hn e2 ht' tg'
    refine hG ?_
    clear hG G
    have I2 := I1.new (push_keeps (kdv_obj name qual params body scope clos .none doc ((P.mg "__name__").getD .none) c' ctv)) get_size_none
      (x := .fn (kdv_fn name qual params body scope clos .none doc ((P.mg "__name__").getD .none) (.ref c') ctv) none) ⟨_, Heap.get?_push_size _ rfl, rfl, c', oc, vs, t, rfl, Fz.put_self, e3, e4, hsz⟩
    exact ⟨.mk', _, le1, h _ doc (.ref c') ctv _ _ le1 I2⟩

theorem makeFn_eq {name qual : Str} {params : Arguments} {body : FuncBody} {scope : Scope} {pos : Pos} {fl : Nat} : makeFunction name qual params body scope env [] [] [] pos fl = makeTail name qual params body scope env .none .none none pos fl := by
  rw [makeFunction_eq, List.zip_nil_right]
  rfl

theorem exOk.def_ {name qual : Str} {params : Arguments} {body : List Stmt} {scope : Scope} {clos : List (Str × Addr)} {pos : Pos} {c Pt : Addr} {Q : Fl → Loc → Led → Prop}
    (h : ∀ a doc cv ctv, (∃ σ', StoreL name (R a) σ σ' ∧ env.kindOf name = some .local ∧ Q .next σ' ((a, .fn (kdv_fn name qual params (.stmts body) scope clos .none doc ((P.mg "__name__").getD .none) cv ctv) none) :: μ)) ∨
      (∃ cc o μ', env.kindOf name = some .cell ∧ env.cells.lookup name = some cc ∧ UpdL cc (.cell (some (R a))) (.cell o) μ μ' ∧ Q .next σ ((a, .fn (kdv_fn name qual params (.stmts body) scope clos .none doc ((P.mg "__name__").getD .none) cv ctv) none) :: μ')))
    (htab : (c, Pt) ∈ P.tabs) (hcode : env.code = .ref c) (hge : env.globals = mainGlobals) (hk : env.scope.kind = .function)
    (hcl : closureFor scope env = pure clos) (hqn : qualnameIn env name name = qual) (hq : P.qualAt pos.line pos.col = qual) (hd0 : params.defaults = []) (hk0 : params.kw_defaults = []) (ha : annTrees params none env = []) :
    exOk P d env σ μ (.FunctionDef name params body [] none [] scope none name pos) Q := fun A s β hR hI => by
  refine nestDef_K hd0 hk0 ha ?_
  rw [hqn, makeFn_eq]
  refine wpAny_mono (make_fn (Q := fun v β' h' => ∃ a doc cv ctv, v = .ref a ∧ Inv P β' ((a, .fn (kdv_fn name qual params (.stmts body) scope clos .none doc ((P.mg "__name__").getD .none) cv ctv) none) :: (env.locals, .ns σ) :: μ) h') htab hcode hge hcl hq hI fun a doc cv ctv β' h' le I => ⟨a, doc, cv, ctv, rfl, I⟩) (fun v s1 hX0 => ?_) fun _ _ x => x
  refine away fun G hG => ?_
  obtain ⟨st1, β1, le1, a, doc, cv, ctv, ev, I1⟩ := hX0
  refine hG ?_
  clear hG G
  subst ev
  have I2 := I1.perm (List.Perm.swap _ _ _)
  rcases h a doc cv ctv with ⟨σ', hS, hl, q⟩ | ⟨cc, o, μ', hl, hc, hU, q⟩
  · exact wpAny_mono (st_local hS hl hk I2 (.raw _)) (fun _ s2 ⟨st2, β2, le2, I3⟩ => ⟨st1.trans st2, β2, le1.trans le2, .next, σ', _, I3, .next, q⟩) fun _ _ x => x
  · exact wpAny_mono (st_cell hl hk hc (UpdL.tail hU) I2 (.raw _)) (fun _ s2 ⟨st2, β2, le2, I3⟩ => ⟨st1.trans st2, β2, le1.trans le2, .next, σ, _, I3, .next, q⟩) fun _ _ x => x

theorem evOk.lambda {params : Arguments} {body : Expr} {scope : Scope} {clos : List (Str × Addr)} {pos : Pos} {c Pt : Addr} {Q : V → Led → Prop}
    (h : ∀ a fd, Q (R a) ((a, .fn fd none) :: μ))
    (htab : (c, Pt) ∈ P.tabs) (hcode : env.code = .ref c) (hge : env.globals = mainGlobals)
    (hcl : closureFor scope env = pure clos) (hq : P.qualAt pos.line pos.col = env.qual ++ "<lambda>") (hd : defaultsOf params env = ([], [])) :
    evOk P d env σ μ (.Lambda params body scope pos) Q := fun A s β hR hI => by
  rw [arm_eval_Lambda, hd]
  show wpL P A β (do
    let dv ← (pure [] : Sem (List Value))
    let kdv ← holding dv (evalAllOpt [])
    makeFunction "<lambda>" (env.qual ++ "<lambda>") params (.expr body) scope env dv kdv [] pos pos.line) _ s
  refine wpL.pure_bind (wpL.bind (wpL.holding (wpL.pure fun s' e' => ?_)))
  rw [makeFn_eq]
  refine make_fn htab hcode hge hcl hq (by rw [e']; exact hI) fun a doc cv ctv β' h' le I => ⟨R a, _, I.perm (List.Perm.swap _ _ _), .raw _, h a _⟩
end
end Mine

namespace Mine
open PySem PySem.W PySem.Calls PyProof.Rows

namespace FF
theorem slot_fn_setattr : Slot "function" "__setattr__" "object.__setattr__" :=
  .of (owner := "object") (n := "__setattr__") (by rw [typeLookup_type, builtinLookup_eq_fast]; kernel_rfl) (by decide +kernel) (by decide +kernel) (by decide +kernel) (by first | exact .inl (by decide +kernel) | exact .inr (by decide +kernel)) (by rw [isSubtype_type]; kernel_rfl)
theorem mro_fn : mroOf (.type "function") = pure [.type "function", .type "object"] := by rw [mroOf_type]; kernel_rfl
theorem refuse_fn (self : Value) : refuseLoop self "__setattr__" [.type "function", .type "object"] = pure () := by kernel_rfl
theorem read_fn : typeLookup (.type "function") "read" = pure none := by rw [typeLookup_type, builtinLookup_eq_fast]; kernel_rfl
theorem getattr_fn : typeLookup (.type "function") "__getattr__" = pure none := by rw [typeLookup_type, builtinLookup_eq_fast]; kernel_rfl
theorem slot_fn_getattribute : Slot "function" "__getattribute__" "object.__getattribute__" :=
  .of (owner := "object") (n := "__getattribute__") (by rw [typeLookup_type, builtinLookup_eq_fast]; kernel_rfl) (by decide +kernel) (by decide +kernel) (by decide +kernel) (by first | exact .inl (by decide +kernel) | exact .inr (by decide +kernel)) (by rw [isSubtype_type]; kernel_rfl)
theorem store_fn : typeHasDict (.type "function") = true := by decide +kernel
end FF

section
variable {P : Par} {d : Nat} {env : Env} {σ : Loc} {μ : Led} {A : Around} {β : Fz} {s : Shared}

theorem fnLook {ν : Led} {f : Addr} {fd : FuncData} {dd : Option Addr} (I : Inv P β (μ ++ ν) s.heap) (hm : (f, AObj.fn fd dd) ∈ μ) : s.heap.get? f = some { cls := .type "function", dict := dd, data := .func fd } := by
  refine away fun G hG => ?_
  obtain ⟨o, e, eY1, _⟩ := I.led _ (List.mem_append_left _ hm)
  refine hG ?_
  clear hG G
  subst eY1
  exact e

noncomputable def satT (a : V) (name : Str) (v : V) : Fz → Sem Unit → Prop := fun β t => ∃ a' v', VRel β a a' ∧ VRel β v v' ∧ t = setAttr a' name v'
noncomputable abbrev satOk (P : Par) (d : Nat) (μ : Led) (a : V) (name : Str) (v : V) (Q : Led → Prop) : Prop := opOk P uRel d μ (satT a name v) (fun _ => Q)

theorem sat_fn {f : Addr} {fd : FuncData} {name : Str} {v : V} {Q : Led → Prop} (hlk : typeLookup (.type "function") name = pure none) (hU : ∀ dd, ∃ μ', UpdL f (.fn fd (some dd)) (.fn fd none) μ μ' ∧ Q ((dd, .dict [(name, some v)]) :: μ')) : satOk P d μ (R f) name v Q := by
  rintro ν A s β t hR hI hY0
  refine away fun G hG => ?_
  obtain ⟨a', v', ra, rv, eY1⟩ := hY0
  refine hG ?_
  clear hG G
  subst eY1
  cases ra
  refine away fun G hG => ?_
  obtain ⟨_, hU0, _⟩ := hU 0
  refine hG ?_
  clear hG G
  have hf := fnLook hI hU0.mem
  refine away fun G hG => ?_
  obtain ⟨hp, g, dr, tk, os⟩ := s
  refine hG ?_
  clear hG G
  dsimp only at hf hI
  have hT : (⟨hp, g, dr, tk + 1, os⟩ : Shared).TypeIs (.ref f) "function" := ⟨_, hf, rfl⟩
  unfold setAttr
  refine wpAny_bind (wpAny_mkText (wpAny_bind (wpAny_callSpecial?_slot (name := Str.ofString "__setattr__") hT FF.slot_fn_setattr (wpAny_call_entry FF.slot_fn_setattr hT F.store_object.entry ?_ (F.store_object.args _ _ _)))))
  rw [osa_eq, refuse_eq]
  refine wpAny_bind (wpAny_bind (wpAny_typeOf hT (wpAny_bind (wpAny_of_eq FF.mro_fn ?_))))
  rw [FF.refuse_fn]
  refine wpAny_pure (wpAny_bind (wpAny_typeOf hT (wpAny_bind (wpAny_of_eq hlk (wpAny_bind (wpAny_pure ?_))))))
  show wpAny _ _ (do
    ownStreamTells (.ref f) (.type "function")
    if (Value.type "function" == Value.type "module") = true then
      if ← isTableModuleObj (.ref f) then unsupported "thirdparty:module.__setattr__:a-table-module"
    match ← instanceDict f true with
    | some d => Builtin.ObjectAttr.storeInDict d (.str name tk) name v'
    | none => Builtin.ObjectAttr.noDictFor (.ref f) (.type "function") name false) _ _ _
  refine wpAny_bind (wpAny_pure (wpAny_bind ?_))
  unfold instanceDict
  refine wpAny_bind (wpAny_loadPart hf (wpAny_bind (wpAny_alloc (wpAny_bind (wpAny_update (Heap.get?_push_of_some _ hf) ?_)))))
  have hsz : hp.get? hp.objs.size = none := get_size_none
  have hd1 : ((hp.push { cls := .type "dict", data := .dict #[] }).update f fun o => { o with dict := some hp.objs.size }).get? hp.objs.size = some { cls := .type "dict", data := .dict #[] } := by
    have hne : hp.objs.size ≠ f := fun q => by rw [← q, hsz] at hf; cases hf
    exact (Heap.SameBut.update ..).extBut _ _ hne (Heap.get?_push_size _ rfl)
  refine wpAny_bind (wpAny_pure (wpAny_pure ?_))
  show wpAny _ _ (Builtin.ObjectAttr.storeInDict hp.objs.size (.str name tk) name v') _ _ _
  unfold Builtin.ObjectAttr.storeInDict
  refine wpAny_bind (wpAny_pure (wpAny_bind ?_))
  unfold nsSet
  refine wpAny_bind (wpAny_bind (wpAny_askSetting (wpAny_pure (wpAny_bind (wpAny_mkText (wpAny_bind (wpAny_loadPart hd1 ?_)))))))
  dsimp only
  rw [aRefKeyMayBeTheName_at, if_neg (by simp)]
  have hput : ∀ (hsh : Int) (key : Value), Obj.putName name hsh key v' { cls := .type "dict", data := .dict #[] } = dictOf [⟨hsh, key, v'⟩] 1 := fun hsh key => putName_dict name hsh key v' [] 0
  refine wpAny_updatePart hd1 ?_
  have hd2 : ∀ (hsh : Int) (key : Value), (((hp.push { cls := .type "dict", data := .dict #[] }).update f fun o => { o with dict := some hp.objs.size }).update hp.objs.size (Obj.putName name hsh key v')).get? hp.objs.size = some (dictOf [⟨hsh, key, v'⟩] 1) := fun hsh key => by
    rw [← hput]
    exact Heap.get?_update_self _ hd1 rfl
  refine away fun G hG => ?_
  obtain ⟨μ', hU', q⟩ := hU hp.objs.size
  refine hG ?_
  clear hG G
  have hfin : ∀ (hsh : Int) (kt : Tok), Inv P β ((hp.objs.size, .dict [(name, some v)]) :: (μ' ++ ν)) (((hp.push { cls := .type "dict", data := .dict #[] }).update f fun o => { o with dict := some hp.objs.size }).update hp.objs.size (Obj.putName name hsh (.str name kt) v')) := fun hsh kt => by
    have hci : CodeIn β fd := by
      refine away fun G hG => ?_
      obtain ⟨o, e, e2, c⟩ := hI.led _ (List.mem_append_left _ hU'.mem)
      refine hG ?_
      clear hG G
      exact c
    have I1 := hI.new (push_keeps { cls := .type "dict", data := .dict #[] }) get_size_none (x := .dict []) ⟨_, Heap.get?_push_size _ rfl, [], 0, rfl, .nil⟩
    have I2 : Inv P β ((hp.objs.size, .dict []) :: (μ' ++ ν)) ((hp.push { cls := .type "dict", data := .dict #[] }).update f fun o => { o with dict := some hp.objs.size }) :=
      I1.upd (UpdL.tail (hU'.app ν)) (Heap.SameBut.update ..).extBut ⟨{ cls := .type "function", dict := some hp.objs.size, data := .func fd }, Heap.get?_update_self _ (Heap.get?_push_of_some _ hf) rfl, rfl, hci⟩
    exact I2.upd UpdL.head (Heap.SameBut.update ..).extBut ⟨_, hd2 hsh (.str name kt), _, _, rfl, .cons rv .nil⟩
  refine wpAny_bind (wpAny_lookBehind (hd2 _ _) (pastItsLine_dict (by simp)) ?_)
  exact wpAny_pure ⟨_, rfl, wpAny_pure ⟨⟨rfl, rfl, rfl⟩, β, .rfl, (), (hp.objs.size, .dict [(name, some v)]) :: μ', hfin _ _, trivial, q⟩⟩

theorem looks_fnOwn {M : Model} {h : Heap} {f dd : Addr} {fd : FuncData} {name : Str} {od : Obj} {r : Option Value} (hf : h.get? f = some { cls := .type "function", dict := some dd, data := .func fd }) (hd : h.get? dd = some od) (e : lookIn name od = some r) :
    Looks M h (Builtin.ObjectAttr.inOwnDict name (.ref f)) r := by
  intro A Q E s k q
  refine wpAny_bind (wpAny_bind (wpAny_loadPart (k _ _ hf) ?_))
  show wpAny M A (instanceDict f false) _ _ _
  unfold instanceDict
  refine wpAny_bind (wpAny_loadPart (k _ _ hf) ?_)
  refine wpAny_pure (a := some dd) ?_
  refine wpAny_bind (wpAny_loadPart (k _ _ hd) ?_)
  rw [nsLook_of e]; exact wpAny_pure q

theorem meth_fn {f dd : Addr} {fd : FuncData} {σd : Loc} {name : Str} {v : V} {Q : V × List V → Led → Prop} (hm : (f, AObj.fn fd (some dd)) ∈ μ) (hd : (dd, AObj.dict σd) ∈ μ) (hl : (σd.lookup name).join = some v)
    (hlk : typeLookup (.type "function") name = pure none) (hv : ∀ β y, VRel β v y → handedIn y = true) (h : Q (v, []) μ) : methOk P d μ (R f) name Q := by
  rintro ν A s β t hR hI hY0
  refine away fun G hG => ?_
  obtain ⟨a', pl, ra, eY1⟩ := hY0
  refine hG ?_
  clear hG G
  subst eY1
  cases ra
  have hf := fnLook hI hm
  refine away fun G hG => ?_
  obtain ⟨o', e', es, n, eY1, r⟩ := hI.led _ (List.mem_append_left _ hd)
  refine hG ?_
  clear hG G
  subst eY1
  refine away fun G hG => ?_
  obtain ⟨w, ew, qw⟩ := r.look (n := name)
  refine hG ?_
  clear hG G
  rw [hl] at qw
  cases w with
  | none => exact qw.elim
  | some w =>
  have hT : s.TypeIs (.ref f) "function" := ⟨_, hf, rfl⟩
  unfold getMethod
  refine wpAny_bind (wpAny_specialOf hT FF.slot_fn_getattribute.lookup ?_)
  dsimp only
  rw [PySem.F.canon_object_ga, if_neg (by decide)]
  refine wpAny_bind (wpAny_specialOf hT FF.getattr_fn ?_)
  refine wpAny_bind (wpAny_specialOf hT hlk ?_)
  refine wpAny_bind ?_
  unfold getAttr getAttrBy
  have hT1 : ({ s with toks := s.toks + 1 } : Shared).TypeIs (.ref f) "function" := hT
  refine wpAny_bind (wpAny_mkText (wpAny_holding (wpAny_bind (wpAny_typeOf hT1 (wpAny_bind (wpAny_of_eq FF.slot_fn_getattribute.lookup ?_))))))
  show wpAny _ _ (getAttrByItsOwn (.ref f) (.str name s.toks) (.type "function") (.builtin "object.__getattribute__") true false) _ _ _
  unfold getAttrByItsOwn hookBefore callGetattribute boundAndCalled
  refine wpAny_bind (wpAny_of_eq (show (if onTheHeap (.type "function") then typeLookup (.type "function") "__getattr__" else pure none) = pure none from rfl) ?_)
  refine wpAny_bind (wpAny_attempt (wpAny_holding ?_))
  show wpAny _ _ (bindSpecial (.builtin "object.__getattribute__") (.ref f) >>= _) _ _ _
  refine wpAny_bind (wpAny_of_eq (FF.slot_fn_getattribute.bind _) ?_)
  refine wpAny_call_entry FF.slot_fn_getattribute hT1 F.entry_object_getattribute ?_ (F.args_object_getattribute_2 _ _)
  unfold Builtin.«object.__getattribute__»
  refine wpAny_bind (wpAny_of_eq (a := (Value.ref f, [Value.str name s.toks])) rfl ?_)
  dsimp only
  refine wpAny_bind (wpAny_of_eq (a := name) rfl ?_)
  refine wpAny_bind (wpAny_typeOf hT1 (wpAny_bind ?_))
  unfold Builtin.ObjectAttr.find
  refine wpAny_bind (wpAny_of_eq hlk (wpAny_bind (wpAny_pure (wpAny_bind (wpAny_pure ?_)))))
  show wpAny _ _ (Builtin.ObjectAttr.ownThenClass (.ref f) name none none) _ _ _
  unfold Builtin.ObjectAttr.ownThenClass
  refine wpAny_bind (looks_fnOwn (M := model P.prog P.w) hf e' (by rw [lookIn_dict]; exact ew) _ _ _ _ (fun b o e => e) ?_)
  refine wpAny_bind (wpAny_rule (wpAny_pure ?_))
  refine wpAny_pure ⟨_, rfl, ?_⟩
  show wpAny _ _ (handedOut w) _ _ _
  rw [handedOut_of (hv _ _ qw)]
  exact wpAny_pure (wpAny_pure ⟨.mk', β, .rfl, (v, []), μ, hI, ⟨qw, .nil⟩, h⟩)
end
end Mine

namespace Mine
open PySem PySem.W PySem.Calls PyProof.Rows

namespace FF
theorem slot_ci_next : Slot "callable_iterator" "__next__" "callable_iterator.__next__" :=
  .of (owner := "callable_iterator") (n := "__next__") (by rw [typeLookup_type, builtinLookup_eq_fast]; kernel_rfl) (by decide +kernel) (by decide +kernel) (by decide +kernel)
    (by first | exact .inl (by decide +kernel) | exact .inr (by decide +kernel)) (by rw [isSubtype_type]; kernel_rfl)
theorem entry_ci_next : entryFor table "callable_iterator.__next__" = some Builtin.«callable_iterator.__next__» := entryFor_of_tree (by kernel_rfl)
theorem args_ci_next (a : Value) : argsOk "callable_iterator.__next__" ⟨[a], []⟩ := by unfold argsOk; kernel_rfl
theorem slot_ci_iter : Slot "callable_iterator" "__iter__" "callable_iterator.__iter__" :=
  .of (owner := "callable_iterator") (n := "__iter__") (by rw [typeLookup_type, builtinLookup_eq_fast]; kernel_rfl) (by decide +kernel) (by decide +kernel) (by decide +kernel)
    (by first | exact .inl (by decide +kernel) | exact .inr (by decide +kernel)) (by rw [isSubtype_type]; kernel_rfl)
theorem args_ci_iter (a : Value) : argsOk "callable_iterator.__iter__" ⟨[a], []⟩ := by unfold argsOk; kernel_rfl
theorem entry_ci_iter : entryFor table "callable_iterator.__iter__" = some Builtin.«dict_keyiterator.__iter__» :=
  entryFor_alias (id' := "dict_keyiterator.__iter__") (by kernel_rfl) (by first | rfl | decide +kernel | (unfold String.splitOn; simp +decide [String.splitOnAux])) (by decide +kernel) (by kernel_rfl)
theorem call_method : typeLookup (.type "method") "__call__" = pure (some (.builtin "method.__call__")) := by rw [typeLookup_type, builtinLookup_eq_fast]; kernel_rfl
theorem kind_iter : builtinKind "iter" = none := by decide +kernel
theorem plain_iter : plainId "iter" = true := by decide +kernel
theorem entry_iter : entryFor table "iter" = some Builtin.«iter» := entryFor_of_tree (by kernel_rfl)
theorem args_iter (a b : Value) : argsOk "iter" ⟨[a, b], []⟩ := by unfold argsOk; kernel_rfl
end FF
end Mine

namespace Mine
open PySem PySem.W PySem.Calls PyProof.Rows

section
variable {P : Par} {d : Nat} {env : Env} {σ : Loc} {μ : Led} {A : Around} {β : Fz} {s : Shared}

/-! bound methods -/
noncomputable abbrev methO (f x : Addr) : AObj := .pred (fun o => o = methodObj (.ref f) (.ref x))
theorem methO_rel {f x : Addr} : ORel β (methO f x) (methodObj (.ref f) (.ref x)) := ⟨rfl, fun q => by
  rcases q.cases with ⟨_, _, q⟩ | ⟨_, _, _, q, q'⟩
  · have := congrArg Obj.data q; cases this
  · cases q; simp at q'⟩
theorem get_bound {x C dd f : Addr} {σd : Loc} {name : Str} {Q : V → Led → Prop} (hx : (x, AObj.inst C dd) ∈ μ) (hd : (dd, AObj.dict σd) ∈ μ) (hl : (σd.lookup name).join = none)
    (hg : plainGet P.K C name = true) (hh : hasDictIn P.K C = true) (ha : findIn P.K (.ref C) name = some (some (.ref f))) (hf : isFn P.K (.ref f) = true) (hgf : specialIn P.K (.ref f) "__get__" = some (some (.builtin "function.__get__"))) (ht : takesIn P.K (.ref f) = some false)
    (hc : copiedNames.contains name = false) (h : ∀ q, Q (R q) ((q, methO f x) :: μ)) : getOk P d μ (R x) name Q := by
  rintro ν A s β t hR hI ⟨a', ra, rfl⟩
  cases ra
  obtain ⟨es, n, I, r, _⟩ := instLook hI hx hd
  obtain ⟨w, e, q⟩ := r.look (n := name)
  rw [hl] at q
  cases w with
  | some w => exact q.elim
  | none =>
  have I2 := hI.new (push_keeps (methodObj (.ref f) (.ref x))) get_size_none ⟨_, Heap.get?_push_size _ rfl, methO_rel⟩
  refine get_bind hI.inK I (plainGet_of hg).1 (findObj_fn hh ha hgf ht hc (by show lookIn name (dictOf es n) = _; rw [lookIn_dict, e])) (plainGet_of hg).2
    (wpAny_call (fn_get (s := { s with toks := s.toks + 1 }) hI.inK (beq_iff_eq.mp hf) (handed_on rfl ⟨⟨rfl, rfl, rfl⟩, β, .rfl, _, _, I2, .raw _, h _⟩)))

/-! iter(callable, '') -/
noncomputable abbrev ciO (m : Addr) : AObj := .pred (fun o => ∃ t, o = { cls := .type "callable_iterator", data := .fields #[.ref m, .str (mkS []) t, .bool false] })
noncomputable abbrev ciEnd : AObj := .pred (fun o => o = { cls := .type "callable_iterator", data := .fields #[.none, .none, .bool true] })
theorem ciO_rel {m : Addr} {t : Tok} : ORel β (ciO m) { cls := .type "callable_iterator", data := .fields #[.ref m, .str (mkS []) t, .bool false] } := ⟨⟨t, rfl⟩, fun q => by
  rcases q.cases with ⟨_, _, q⟩ | ⟨vs, q0, t0, q, q'⟩
  · have := congrArg Obj.data q; cases this
  · cases q; simp at q'⟩
theorem call_iter {m f x : Addr} {Q : V → Led → Prop} (hm : (m, methO f x) ∈ μ) (h : ∀ it, Q (R it) ((it, ciO m) :: μ)) : callOk P d μ (B "iter") [R m, .str []] [] Q := by
  rintro ν A s β t hR hI ⟨f', as, ks, rf, ra, rk, rfl⟩
  cases rf
  cases rk.nil'
  obtain ⟨_, _, rfl, r1, r2⟩ := ra.two
  cases r1
  obtain ⟨t, rfl⟩ := r2.strInv
  obtain ⟨o, ho, rfl, _⟩ := hI.led _ (List.mem_append_left _ hm)
  have hT : s.TypeIs (.ref m) "method" := ⟨_, ho, rfl⟩
  refine Calls.call_function_entry FF.kind_iter FF.plain_iter FF.entry_iter (FF.args_iter _ _) ?_
  unfold Builtin.«iter»
  refine wpAny_bind (m := someArgs "iter" 1 2 _) (wpAny_pure ?_)
  refine wpAny_bind (wpAny_specialOf hT FF.call_method ?_)
  refine wpAny_bind (wpAny_rule (wpAny_bind ?_))
  refine wpAny_newObj_type (wpAny_pure ⟨_, rfl, .mk', β, .rfl, _, _, hI.new (push_keeps _) get_size_none ⟨_, Heap.get?_push_size _ rfl, ciO_rel⟩, .raw _, h _⟩) (by size_fits)
end
end Mine

namespace Mine
open PySem PySem.W PySem.Calls PyProof.Rows

section
variable {P : Par} {d : Nat} {env : Env} {σ : Loc} {μ : Led} {A : Around} {β : Fz} {s : Shared}

theorem wpAny_callBorrowed {M : Model} {E : Value → Shared → Prop} {f : Value} {pos : List Value} {Q : Value → Shared → Prop}
    (hc : codeAny M A (.call f ⟨pos, []⟩) (fun r s' => match r with | .ok (.ret v) => Q v s' | .ok _ => False | .error e => E e s') s) : wpAny M A (callBorrowed f pos) Q E s := fun Γ p hΓ => by
  unfold callBorrowed
  rw [Sem.wp_call]
  have := hc _ p rfl (hΓ.enter (.call f ⟨pos, []⟩) none p (by intro x; cases x))
  refine Eq.mpr (congrArg (fun R => wpCode M (Γ.enter (.call f ⟨pos, []⟩) none p) R p s) ?_) this
  funext r s'
  cases r with
  | error e => rfl
  | ok fl => cases fl <;> rfl

theorem borrows_meth {M : Model} {E : Value → Shared → Prop} {m f x : Addr} {of : Obj} {fd : FuncData} {Q : Bool → Shared → Prop} (hm : s.heap.get? m = some (methodObj (.ref f) (.ref x))) (hf : s.heap.get? f = some of) (hd : of.data = .func fd) (h : Q true s) : wpAny M A (borrowsExactly (.ref m)) Q E s := by
  unfold borrowsExactly
  refine wpAny_bind (wpAny_load hm ?_)
  show wpAny _ _ (do
      match (← load f).data with
      | .func _ => pure true
      | _ => pure false) _ _ _
  refine wpAny_bind (wpAny_load hf ?_)
  rw [hd]
  exact wpAny_pure h

theorem stop_it {α : Type} {E : Value → Shared → Prop} {Q : α → Shared → Prop} (hh : A.handled = none) (h : ∀ h' a o, (∀ b o, s.heap.get? b = some o → h'.get? b = some o) → h'.get? a = some o → o.cls = .type "StopIteration" → E (.ref a) { s with heap := h' }) : wpAny (model P.prog P.w) A (Builtin.SmallTypes.stopIteration : Sem α) Q E s := by
  unfold Builtin.SmallTypes.stopIteration
  refine wpAny_bind ?_
  simp only [newExc, newTuple]
  refine wpAny_bind (wpAny_newObj_type ?_ (by size_fits))
  refine wpAny_bind (m := firstArgMember _ _) (wpAny_of_eq (a := Value.none) (by first | rfl | (simp only [firstArgMember]; rfl)) ?_)
  refine wpAny_newObj_type ?_ (by size_fits)
  simp only [raiseNew]
  refine wpAny_bind (wpAny_handled ?_)
  rw [hh]
  refine wpAny_bind (wpAny_pure (wpAny_throw ?_))
  exact h _ _ _ (fun b o e => Heap.get?_push_of_some _ (Heap.get?_push_of_some _ e)) (Heap.get?_push_size _ rfl) rfl

noncomputable def nextOk (P : Par) (d : Nat) (μ : Led) (target : Expr) (it : Addr) (Q : Option V → Led → Prop) : Prop := ∀ ν A s β, Room A d → Inv P β (μ ++ ν) s.heap → wpL P A β (pyNext (.ref it)) (fun r β' h' => match r with
  | none => ∃ μ', Inv P β' (μ' ++ ν) h' ∧ Q none μ'
  | some y => ∃ x μ', (∀ s', s'.heap = h' → wpL P A β' (letOwnedTupleGo target (.ref it) y) (fun _ β'' h'' => Inv P β'' (μ' ++ ν) h'' ∧ VRel β'' x y) s') ∧ Q (some x) μ') s

end
namespace X_next_ci
noncomputable def stmt (P : Par) (d : Nat) (μ : Led) (it : Addr) (m : Addr) (f : Addr) (x : Addr) (fd : FuncData) (target : Expr) (Q : Option V → Led → Prop) : Prop := ∀ (hit : (it, ciO m) ∈ μ), ∀ (hm : (m, methO f x) ∈ μ), ∀ (hfn : ∀ μ, FnAt' P μ f fd), ∀ (h : fnOk P d μ (R f) [R x] [] fun v μ1 => ∃ l, v = .str l ∧ (it, ciO m) ∈ μ1 ∧ (m, methO f x) ∈ μ1 ∧ (l = [] → ∃ μ2, UpdL it ciEnd (ciO m) μ1 μ2 ∧ Q none μ2) ∧ (l ≠ [] → Q (some (.str l)) μ1)), nextOk P (d + 1) μ target it Q
noncomputable def pck : Nat × Led × Addr × Addr × Addr × Addr × FuncData × Expr × (Option V → Led → Prop) := @Classical.epsilon (Nat × Led × Addr × Addr × Addr × Addr × FuncData × Expr × (Option V → Led → Prop)) ⟨((0 : Nat), ([] : Led), (0 : Addr), (0 : Addr), (0 : Addr), (0 : Addr), (default : FuncData), (default : Expr), (fun _ _ => True : Option V → Led → Prop))⟩ fun b => ∃ P, ¬ stmt P b.1 b.2.1 b.2.2.1 b.2.2.2.1 b.2.2.2.2.1 b.2.2.2.2.2.1 b.2.2.2.2.2.2.1 b.2.2.2.2.2.2.2.1 b.2.2.2.2.2.2.2.2
@[irreducible] noncomputable def d : Nat := pck.1
@[irreducible] noncomputable def μ : Led := pck.2.1
@[irreducible] noncomputable def it : Addr := pck.2.2.1
@[irreducible] noncomputable def m : Addr := pck.2.2.2.1
@[irreducible] noncomputable def f : Addr := pck.2.2.2.2.1
@[irreducible] noncomputable def x : Addr := pck.2.2.2.2.2.1
@[irreducible] noncomputable def fd : FuncData := pck.2.2.2.2.2.2.1
@[irreducible] noncomputable def target : Expr := pck.2.2.2.2.2.2.2.1
@[irreducible] noncomputable def Q : Option V → Led → Prop := pck.2.2.2.2.2.2.2.2
theorem coreT (P : Par) : stmt P d μ it m f x fd target Q := by
  intro hit hm hfn h
  intro ν A s β hR hI
  refine away fun G hG => ?_
  obtain ⟨o, ho, ⟨t0, eY1⟩, _⟩ := hI.led _ (List.mem_append_left _ hit)
  refine hG ?_
  clear hG G
  subst eY1
  refine away fun G hG => ?_
  obtain ⟨om, hom, eY1, _⟩ := hI.led _ (List.mem_append_left _ hm)
  refine hG ?_
  clear hG G
  subst eY1
  refine away fun G hG => ?_
  obtain ⟨of, hof, hofd, _⟩ := hfn μ β ν _ hI
  refine hG ?_
  clear hG G
  have hT : s.TypeIs (.ref it) "callable_iterator" := ⟨_, ho, rfl⟩
  unfold pyNext
  refine wpAny_bind (wpAny_attempt (wpAny_callSpecial?_slot (name := Str.ofString "__next__") hT FF.slot_ci_next (wpAny_call_entry FF.slot_ci_next hT FF.entry_ci_next ?_ (FF.args_ci_next _))))
  unfold Builtin.«callable_iterator.__next__»
  refine wpAny_bind (wpAny_of_eq (a := (Value.ref it, [])) rfl ?_)
  dsimp only
  refine wpAny_bind (wpAny_field ho rfl (x := .bool false) rfl ?_)
  refine wpAny_bind (wpAny_field ho rfl (x := .ref m) rfl ?_)
  refine wpAny_bind (wpAny_attempt ?_)
  unfold callOutOfASlot
  refine wpAny_bind (borrows_meth hom hof hofd ?_)
  simp only [if_true]
  refine wpAny_callBorrowed (method_call hom ?_)
  have hR1 : Room A.in1 d := ⟨by have := hR.depth; show A.depth + 2 * d < 1000; lia, by have := hR.units; show A.units + 1 + 8 * d + 40 < 9900; lia, hR.handled⟩
  refine codeAny_mono (h ν A.in1 s β (.ref f) [.ref x] [] hR1 hI (.raw _) (.cons (.raw _) .nil) ⟨rfl, .nil⟩) fun r s' hr => ?_
  rcases r with e | fl
  · exact hr.elim
  rcases fl with v | _ | _ | _
  all_goals first | exact hr.elim | skip
  refine away fun G hG => ?_
  obtain ⟨st, β', le, c, μ1, I1, rv, l, ec, hit1, hm1, q0, q1⟩ := hr
  refine hG ?_
  clear hG G
  subst ec
  refine away fun G hG => ?_
  obtain ⟨tv, eY1⟩ := rv.strInv
  refine hG ?_
  clear hG G
  subst eY1
  refine away fun G hG => ?_
  obtain ⟨o1, ho1, ⟨t1, eY1⟩, _⟩ := I1.led _ (List.mem_append_left _ hit1)
  refine hG ?_
  clear hG G
  subst eY1
  dsimp only
  refine wpAny_bind (wpAny_field ho1 rfl (x := .bool false) rfl ?_)
  refine wpAny_bind (wpAny_field ho1 rfl (x := .str (mkS []) t1) rfl ?_)
  refine wpAny_bind (wpAny_holding (wpAny_eqBool_str ?_))
  by_cases hl : l = []
  · subst hl
    refine away fun G hG => ?_
    obtain ⟨μ2, hU, q⟩ := q0 rfl
    refine hG ?_
    clear hG G
    rw [decide_eq_true rfl]
    refine wpAny_bind (wpAny_rule ?_)
    refine away fun G hG => ?_
    obtain ⟨om1, hom1, eY1, _⟩ := I1.led _ (List.mem_append_left _ hm1)
    refine hG ?_
    clear hG G
    subst eY1
    refine away fun G hG => ?_
    obtain ⟨of1, hof1, hofd1, _⟩ := hfn μ1 β' ν _ I1
    refine hG ?_
    clear hG G
    refine wpAny_bind (wpAny_bind (wpAny_field ho1 rfl (x := .ref m) rfl ?_))
    unfold slotLetsGo
    refine wpAny_bind (wpAny_bind (borrows_meth hom1 hof1 hofd1 ?_))
    refine wpAny_pure ?_
    have g1 := Heap.get?_update_self (Obj.mapFields (·.setIfInBounds 0 .none)) ho1 rfl
    have g2 := Heap.get?_update_self (Obj.mapFields (·.setIfInBounds 1 .none)) g1 rfl
    have g3 := Heap.get?_update_self (Obj.mapFields (·.setIfInBounds 2 (.bool true))) g2 rfl
    refine wpAny_bind (wpAny_setField ho1 rfl (by simp) ?_)
    refine wpAny_bind (wpAny_setField g1 rfl (by simp [Obj.mapFields]) ?_)
    refine wpAny_setField g2 rfl (by simp [Obj.mapFields]) ?_
    have I2 : Inv P β' (μ2 ++ ν) (((s'.heap.update it (Obj.mapFields (·.setIfInBounds 0 .none))).update it (Obj.mapFields (·.setIfInBounds 1 .none))).update it (Obj.mapFields (·.setIfInBounds 2 (.bool true)))) := by
      refine I1.upd (hU.app ν) (fun b o hb e => (Heap.SameBut.update ..).extBut b o hb ((Heap.SameBut.update ..).extBut b o hb ((Heap.SameBut.update ..).extBut b o hb e))) ⟨_, g3, ?_, fun qt => ?_⟩
      · rfl
      · rcases qt.cases with ⟨_, _, q⟩ | ⟨_, _, _, q, q'⟩
        · have := congrArg Obj.data q; cases this
        · cases q; simp at q'
    refine stop_it hR.handled fun h' a o hk ha hc => ?_
    refine wpAny_bind (wpAny_isInstance (T := "StopIteration") (b := true) ⟨_, ha, hc⟩ isSubtype_stop ?_)
    exact wpAny_pure ⟨st.trans ⟨rfl, rfl, rfl⟩, β', le, μ2, I2.ext hk, q⟩
  · have hd : decide (mkS [] = mkS l) = false := by
      apply decide_eq_false
      intro q
      have := congrArg (fun z : Str => z.cps.toList) q
      exact hl (by simpa using this.symm)
    rw [hd]
    refine wpAny_pure ⟨_, rfl, wpAny_pure ⟨st, β', le, .str l, μ1, fun s2 e2 => ?_, q1 hl⟩⟩
    refine own_plain (n := "callable_iterator") (e2 ▸ ho1) rfl (by decide) ⟨e2 ▸ I1, .str ..⟩
theorem allT (P : Par) (d : Nat) (μ : Led) (it : Addr) (m : Addr) (f : Addr) (x : Addr) (fd : FuncData) (target : Expr) (Q : Option V → Led → Prop) : stmt P d μ it m f x fd target Q := skol (Q := fun (P : Par) (b : Nat × Led × Addr × Addr × Addr × Addr × FuncData × Expr × (Option V → Led → Prop)) => stmt P b.1 b.2.1 b.2.2.1 b.2.2.2.1 b.2.2.2.2.1 b.2.2.2.2.2.1 b.2.2.2.2.2.2.1 b.2.2.2.2.2.2.2.1 b.2.2.2.2.2.2.2.2) (by with_unfolding_all exact coreT) P (d, μ, it, m, f, x, fd, target, Q)
end X_next_ci
section
variable {P : Par} {d : Nat} {env : Env} {σ : Loc} {μ : Led} {A : Around} {β : Fz} {s : Shared}
theorem next_ci {it m f x : Addr} {fd : FuncData} {target : Expr} {Q : Option V → Led → Prop} (hit : (it, ciO m) ∈ μ) (hm : (m, methO f x) ∈ μ) (hfn : ∀ μ, FnAt' P μ f fd)
    (h : fnOk P d μ (R f) [R x] [] fun v μ1 => ∃ l, v = .str l ∧ (it, ciO m) ∈ μ1 ∧ (m, methO f x) ∈ μ1 ∧ (l = [] → ∃ μ2, UpdL it ciEnd (ciO m) μ1 μ2 ∧ Q none μ2) ∧ (l ≠ [] → Q (some (.str l)) μ1)) : nextOk P (d + 1) μ target it Q := X_next_ci.allT P d μ it m f x fd target Q hit hm hfn h
end
end Mine

namespace Mine
open PySem PySem.W PySem.Calls PyProof.Rows

section
variable {P : Par} {d : Nat} {env : Env} {σ : Loc} {μ : Led} {A : Around} {β : Fz} {s : Shared}

theorem next_ciEnd {it : Addr} {target : Expr} {Q : Option V → Led → Prop} (hit : (it, ciEnd) ∈ μ) (h : Q none μ) : nextOk P d μ target it Q := by
  intro ν A s β hR hI
  refine away fun G hG => ?_
  obtain ⟨o, ho, eY1, _⟩ := hI.led _ (List.mem_append_left _ hit)
  refine hG ?_
  clear hG G
  subst eY1
  have hT : s.TypeIs (.ref it) "callable_iterator" := ⟨_, ho, rfl⟩
  unfold pyNext
  refine wpAny_bind (wpAny_attempt (wpAny_callSpecial?_slot (name := Str.ofString "__next__") hT FF.slot_ci_next (wpAny_call_entry FF.slot_ci_next hT FF.entry_ci_next ?_ (FF.args_ci_next _))))
  unfold Builtin.«callable_iterator.__next__»
  refine wpAny_bind (wpAny_of_eq (a := (Value.ref it, [])) rfl ?_)
  dsimp only
  refine wpAny_bind (wpAny_field ho rfl (x := .bool true) rfl ?_)
  refine wpAny_bind (wpAny_rule (wpAny_bind ?_))
  refine stop_it hR.handled fun h' a o hk ha hc => ?_
  refine wpAny_bind (wpAny_isInstance (T := "StopIteration") (b := true) ⟨_, ha, hc⟩ isSubtype_stop ?_)
  exact wpAny_pure ⟨.mk', β, .rfl, μ, hI.ext hk, h⟩

theorem exOk.forG {target iter body pos} {Q : Fl → Loc → Led → Prop} (h : evOk P d env σ μ iter fun v μ1 => ∃ it, v = R it ∧
      (∀ ν A s β, A.handled = none → Inv P β (μ1 ++ ν) s.heap → wpL P A β (pyIter (.ref it)) (fun v β' h' => v = .ref it ∧ Inv P β' (μ1 ++ ν) h') s) ∧
      ∃ J : Nat → Loc → Led → Prop, (∃ n, J n σ μ1) ∧ ∀ n σ μ, J n σ μ → nextOk P d μ target it fun r μ1 => match r with
        | none => Q .next σ μ1
        | some x => asOk P d env σ μ1 target x fun σ1 μ2 => exsOk P d env σ1 μ2 body fun f σ2 μ3 => match f with
          | .next => ∃ m, m < n ∧ J m σ2 μ3
          | .cont => ∃ m, m < n ∧ J m σ2 μ3
          | .brk => Q .next σ2 μ3
          | .ret v => Q (.ret v) σ2 μ3)
    (hs : ∀ x, foldedSetIterable iter env x = pure x) : exOk P d env σ μ (.For target iter body [] pos) Q := fun A s β hR hI => by
  refine wpAny_For (wpAny_mono (h A s β hR hI) (fun x s1 hX0 => ?_) fun _ _ x => x) hs
  refine away fun G hG => ?_
  obtain ⟨st1, β1, le1, v, μ1, I1, r1, it, ev, hself, J, ⟨n₀, j0⟩, jstep⟩ := hX0
  refine hG ?_
  clear hG G
  subst ev
  cases r1
  have I1' : Inv P β1 (μ1 ++ [(env.locals, .ns σ)]) s1.heap := I1.perm (List.perm_append_comm (l₁ := [_]) (l₂ := μ1))
  refine wpAny_mono (hself _ A s1 β1 hR.handled I1') (fun it' s2 hX1 => ?_) fun _ _ x => x.elim
  refine away fun G hG => ?_
  obtain ⟨st2, β2, le2, ei, I2⟩ := hX1
  refine hG ?_
  clear hG G
  subst ei
  refine codeAny_forLoop_any (fun n s' => ∃ σi μi β', St s2 s' ∧ β2.le β' ∧ Inv P β' (μi ++ [(env.locals, .ns σi)]) s'.heap ∧ J n σi μi) ?_ n₀ ⟨σ, μ1, β2, .rfl, .rfl, I2, j0⟩
  rintro n s' hY0
  refine away fun G hG => ?_
  obtain ⟨σi, μi, β', st', le', I', j⟩ := hY0
  refine hG ?_
  clear hG G
  have sto : St s s' := st1.trans (st2.trans st')
  have leo : β.le β' := le1.trans (le2.trans le')
  refine wpAny_mono (jstep n σi μi j [(env.locals, .ns σi)] A s' β' hR I') (fun r s3 hX2 => ?_) fun _ _ x => x.elim
  refine away fun G hG => ?_
  obtain ⟨st3, β3, le3, hr⟩ := hX2
  refine hG ?_
  clear hG G
  cases r with
  | none =>
    refine away fun G hG => ?_
    obtain ⟨μ', I3, q⟩ := hr
    refine hG ?_
    clear hG G
    exact wpAny_execs_nil ⟨sto.trans st3, β3, leo.trans le3, .next, σi, μ', I3.perm (List.perm_append_comm (l₂ := [_])), .next, q⟩
  | some y =>
    refine away fun G hG => ?_
    obtain ⟨x, μ', hown, q⟩ := hr
    refine hG ?_
    clear hG G
    refine wpAny_mono (hown s3 rfl) (fun _ s4 hX3 => ?_) fun _ _ x => x.elim
    refine away fun G hG => ?_
    obtain ⟨st4, β4, le4, I4, rv⟩ := hX3
    refine hG ?_
    clear hG G
    have I5 : Inv P β4 ((env.locals, .ns σi) :: μ') s4.heap := I4.perm (List.perm_append_comm (l₂ := [_]))
    refine wpAny_mono (q A s4 β4 y hR I5 rv) (fun _ s5 hX4 => ?_) fun _ _ x => x.elim
    refine away fun G hG => ?_
    obtain ⟨st5, β5, le5, σ1, μ1', I6, q⟩ := hX4
    refine hG ?_
    clear hG G
    refine wpAny_mono (q A s5 β5 hR I6) (fun fl s6 hX5 => ?_) fun _ _ x => x.elim
    refine away fun G hG => ?_
    obtain ⟨st6, β6, le6, f, σ2, μ2', I7, rf, q2⟩ := hX5
    refine hG ?_
    clear hG G
    have stn : St s' s6 := st3.trans (st4.trans (st5.trans st6))
    have len : β'.le β6 := le3.trans (le4.trans (le5.trans le6))
    have I8 : Inv P β6 (μ2' ++ [(env.locals, .ns σ2)]) s6.heap := I7.perm (List.perm_append_comm (l₁ := [_]))
    cases rf with
    | next => obtain ⟨m, hm, jm⟩ := q2; exact ⟨m, hm, σ2, μ2', β6, st'.trans stn, le'.trans len, I8, jm⟩
    | cont => obtain ⟨m, hm, jm⟩ := q2; exact ⟨m, hm, σ2, μ2', β6, st'.trans stn, le'.trans len, I8, jm⟩
    | brk => exact ⟨sto.trans stn, β6, leo.trans len, .next, σ2, μ2', I7, .next, q2⟩
    | ret rv => exact ⟨sto.trans stn, β6, leo.trans len, .ret _, σ2, μ2', I7, .ret rv, q2⟩
theorem self_ci {it m : Addr} (hit : (it, ciO m) ∈ μ) : ∀ ν A s β, A.handled = none → Inv P β (μ ++ ν) s.heap → wpL P A β (pyIter (.ref it)) (fun v β' h' => v = .ref it ∧ Inv P β' (μ ++ ν) h') s := fun ν A s β hh hI => by
  refine away fun G hG => ?_
  obtain ⟨o, ho, ⟨t0, eY1⟩, _⟩ := hI.led _ (List.mem_append_left _ hit)
  refine hG ?_
  clear hG G
  subst eY1
  have hT : s.TypeIs (.ref it) "callable_iterator" := ⟨_, ho, rfl⟩
  exact wpAny_pyIter_slot hT FF.slot_ci_iter (wpAny_call_entry FF.slot_ci_iter hT FF.entry_ci_iter (by
      show wpAny _ _ (ret (.ref it)) _ _ _
      exact wpAny_pure ⟨_, rfl, "callable_iterator", _, hT, FF.slot_ci_next.lookup, .rfl, β, .rfl, rfl, hI⟩) (FF.args_ci_iter _))
end
end Mine

namespace Mine
open PySem PySem.W PySem.Calls PyProof.Rows

namespace Rx
structure Set1 (code : Array Nat) (lo hi x : Nat) : Prop where
  size : ∃ n, code.size = n + 3
  w0 : Sre.ops[code.getD 5 0]? = some .RANGE
  w1 : code.getD 6 0 = lo
  w2 : code.getD 7 0 = hi
  w3 : Sre.ops[code.getD 8 0]? = some .LITERAL
  w4 : code.getD 9 0 = x
  w5 : Sre.ops[code.getD 10 0]? = some .FAILURE
theorem inSet_lit {code : Array Nat} {c f i : Nat} {yes : Bool} {seen : Sre.Seen} (h : Sre.ops[code.getD (i + 0) 0]? = some .LITERAL) (h2 : (c == code.getD (i + 1) 0) = false) : ∃ seen', Sre.inSet code c (f + 1) i yes seen = Sre.inSet code c f (i + 2) yes seen' := by
  refine ⟨seen.add (code.getD (i + 0) 0), ?_⟩
  conv => lhs; whnf
  rw [h]
  show (if (c == code.getD (i + 1) 0) = true then _ else _) = _
  rw [h2]; rfl
theorem inSet_rng {code : Array Nat} {c f i : Nat} {yes : Bool} {seen : Sre.Seen} (h : Sre.ops[code.getD (i + 0) 0]? = some .RANGE) (h2 : (decide (code.getD (i + 1) 0 ≤ c) && decide (c ≤ code.getD (i + 2) 0)) = false) : ∃ seen', Sre.inSet code c (f + 1) i yes seen = Sre.inSet code c f (i + 3) yes seen' := by
  refine ⟨seen.add (code.getD (i + 0) 0), ?_⟩
  conv => lhs; whnf
  rw [h]
  show (if (decide (code.getD (i + 1) 0 ≤ c) && decide (c ≤ code.getD (i + 2) 0)) = true then _ else _) = _
  rw [h2]; rfl
theorem inSet_cs {code : Array Nat} {c f i : Nat} {yes : Bool} {seen : Sre.Seen} (h : Sre.ops[code.getD (i + 0) 0]? = some .CHARSET) (h2 : (decide (c < 256) && (code.getD (i + (1 + c / 32)) 0).testBit (c % 32)) = false) : ∃ seen', Sre.inSet code c (f + 1) i yes seen = Sre.inSet code c f (i + 9) yes seen' := by
  refine ⟨seen.add (code.getD (i + 0) 0), ?_⟩
  conv => lhs; whnf
  rw [h]
  show (if (decide (c < 256) && (code.getD (i + (1 + c / 32)) 0).testBit (c % 32)) = true then _ else _) = _
  rw [h2]; rfl
theorem inSet_fail {code : Array Nat} {c f i : Nat} {seen : Sre.Seen} (h : Sre.ops[code.getD (i + 0) 0]? = some .FAILURE) : ∃ seen', Sre.inSet code c (f + 1) i true seen = .ok (false, seen') := by
  refine ⟨seen.add (code.getD (i + 0) 0), ?_⟩
  conv => lhs; whnf
  rw [h]; rfl
theorem Set1.no {code : Array Nat} {lo hi x c : Nat} (S : Set1 code lo hi x) (h1 : ¬ (lo ≤ c ∧ c ≤ hi)) (h2 : c ≠ x) (seen : Sre.Seen) : ∃ seen', Sre.inSet code c code.size 5 true seen = .ok (false, seen') := by
  obtain ⟨n, hn⟩ := S.size
  have e1 : (decide (code.getD (5 + 1) 0 ≤ c) && decide (c ≤ code.getD (5 + 2) 0)) = false := by
    rw [show code.getD (5 + 1) 0 = lo from S.w1, show code.getD (5 + 2) 0 = hi from S.w2]
    rw [← Bool.decide_and]; exact decide_eq_false h1
  have e2 : (c == code.getD (5 + 3 + 1) 0) = false := by
    rw [show code.getD (5 + 3 + 1) 0 = x from S.w4]; simpa using h2
  rw [hn]
  obtain ⟨s1, q1⟩ := inSet_rng (f := n + 2) (yes := true) (seen := seen) S.w0 e1
  obtain ⟨s2, q2⟩ := inSet_lit (f := n + 1) (yes := true) (seen := s1) S.w3 e2
  obtain ⟨s3, q3⟩ := inSet_fail (c := c) (f := n) (seen := s2) (show Sre.ops[code.getD (5 + 3 + 2 + 0) 0]? = some .FAILURE from S.w5)
  exact ⟨s3, q1.trans (q2.trans q3)⟩
structure Set2 (code : Array Nat) (ok : Nat → Prop) : Prop where
  size : ∃ n, code.size = n + 2
  w0 : Sre.ops[code.getD 5 0]? = some .CHARSET
  w1 : ∀ c, ok c → (decide (c < 256) && (code.getD (5 + (1 + c / 32)) 0).testBit (c % 32)) = false
  w5 : Sre.ops[code.getD 14 0]? = some .FAILURE
theorem Set2.no {code : Array Nat} {ok : Nat → Prop} {c : Nat} (S : Set2 code ok) (h : ok c) (seen : Sre.Seen) : ∃ seen', Sre.inSet code c code.size 5 true seen = .ok (false, seen') := by
  obtain ⟨n, hn⟩ := S.size
  rw [hn]
  obtain ⟨s1, q1⟩ := inSet_cs (f := n + 1) (yes := true) (seen := seen) S.w0 (S.w1 c h)
  obtain ⟨s2, q2⟩ := inSet_fail (c := c) (f := n) (seen := s1) (show Sre.ops[code.getD (5 + 9 + 0) 0]? = some .FAILURE from S.w5)
  exact ⟨s2, q1.trans q2⟩
theorem adm (m : Sre.M) (h : ∀ i < m.lim, ∀ seen, ∃ seen', Sre.inSet m.code (m.text.getD i 0) m.code.size 5 true seen = .ok (false, seen')) : ∀ fuel s seen, ∃ seen', Sre.M.admitted m fuel s seen = .ok (none, seen')
  | 0, s, seen => ⟨_, rfl⟩
  | fuel + 1, s, seen => by
    show ∃ seen', (if s ≥ m.lim then Except.ok (none, seen) else _) = _
    by_cases hs : s ≥ m.lim
    · rw [if_pos hs]; exact ⟨_, rfl⟩
    · rw [if_neg hs]
      obtain ⟨seen', e⟩ := h s (Nat.lt_of_not_le hs) seen
      rw [e]
      exact adm m h fuel (s + 1) seen'
structure Lost (m : Sre.M) : Prop where
  answer : m.answer = some false
  frames : m.frames = []
  outcome : m.outcome = none
theorem Lost.run {m : Sre.M} (h : Lost m) : (m.runFor 4).outcome = some .failed := by
  have e1 : m.step = { m with outcome := some .failed } := by
    unfold Sre.M.step
    rw [h.outcome, h.answer, h.frames]
    rfl
  have e2 : ∀ n, Sre.M.runFor n { m with outcome := some .failed } = { m with outcome := some .failed } := fun n => by
    cases n <;> rfl
  show (if m.outcome.isSome = true then m else Sre.M.runFor 3 m.step).outcome = _
  rw [h.outcome, e1, if_neg (by decide), e2]
structure Opens (code : Array Nat) : Prop where
  op : Sre.ops[code.getD 0 0]? = some .INFO
  flag : code.getD 2 0 = 4
  least : code.getD 3 0 = 1
theorem search {code text : Array Nat} (O : Opens code) (h : ∀ i < text.size, ∀ seen, ∃ seen', Sre.inSet code (text.getD i 0) code.size 5 true seen = .ok (false, seen')) : Lost (Sre.forSearch code text 0 0 text.size false) := by
  unfold Sre.forSearch
  dsimp only
  split
  · exact ⟨rfl, rfl, rfl⟩
  · have key : ∀ m : Sre.M, m.code = code → m.text = text → m.lim = text.size → m.frames = [] → m.outcome = none → Lost (m.attemptFrom 0 true) := fun m e1 e2 e3 e4 e5 => by
      have hfs : m.hasFirstSet = true := by
        unfold Sre.M.hasFirstSet
        rw [e1, O.op, O.flag]; rfl
      unfold Sre.M.attemptFrom
      rw [hfs]
      obtain ⟨seen', e⟩ := adm m (by rw [e1, e2, e3]; exact h) (m.lim + 1 - 0) 0 m.seen
      rw [e]
      exact ⟨rfl, e4, e5⟩
    exact key _ rfl rfl rfl rfl rfl

section
variable {M : Model} {A : Around} {E : Value → Shared → Prop} {s : Shared}
theorem rules_all {m : Sre.M} {Q : PUnit → Shared → Prop} (h : Q ⟨⟩ s) : ∀ l : List Nat, wpAny M A (forIn l PUnit.unit fun i _ => if m.seen.has i = true then do rule (Sre.names.getD i ""); pure (ForInStep.yield PUnit.unit) else do pure PUnit.unit; pure (ForInStep.yield PUnit.unit)) Q E s
  | [] => by rw [List.forIn_nil]; exact wpAny_pure h
  | i :: l => by
    rw [List.forIn_cons]
    refine wpAny_bind ?_
    split
    · exact wpAny_bind (wpAny_rule (wpAny_pure (rules_all h l)))
    · exact wpAny_pure (rules_all h l)
theorem drive {m : Sre.M} {Q : Sre.M → Shared → Prop} (h : Lost m) (hQ : ∀ m', m'.outcome = some .failed → Q m' s) : wpAny M A (Builtin.Re.reDrive (2 ^ 64) m) Q E s := by
  show wpAny M A (if (m.runFor Builtin.Re.reTurnSteps).outcome.isSome = true then pure (m.runFor Builtin.Re.reTurnSteps) else _) Q E s
  have e := h.run
  rw [if_pos (by show (m.runFor 4).outcome.isSome = true; rw [e]; rfl)]
  exact wpAny_pure (hQ _ e)
theorem toEnd {m : Sre.M} {Q : Option Sre.M → Shared → Prop} (h : Lost m) (hQ : Q none s) : wpAny M A (Builtin.Re.reRunToEnd m) Q E s := by
  unfold Builtin.Re.reRunToEnd
  refine wpAny_bind (drive h fun m' e => ?_)
  refine wpAny_bind (rules_all ?_ _)
  rw [e]
  exact wpAny_pure hQ
end
end Rx
end Mine

namespace Mine
open PySem PySem.W PySem.Calls PyProof.Rows

namespace FF
theorem plainAttrs_pat : PlainAttrs "re.Pattern" := ⟨⟨"object.__getattribute__", by rw [typeLookup_type, builtinLookup_eq_fast]; kernel_rfl, by decide +kernel⟩, by rw [typeLookup_type, builtinLookup_eq_fast]; kernel_rfl⟩
theorem slot_pat_search : Slot "re.Pattern" "search" "re.Pattern.search" :=
  .of (owner := "re.Pattern") (n := "search") (by rw [typeLookup_type, builtinLookup_eq_fast]; kernel_rfl) (by decide +kernel) (by decide +kernel) (by decide +kernel)
    (by first | exact .inl (by decide +kernel) | exact .inr (by decide +kernel)) (by rw [isSubtype_type]; kernel_rfl)
theorem type_pat_search : typeOf (.builtin "re.Pattern.search") = pure (.type "method_descriptor") := by kernel_rfl
theorem entry_pat_search : entryFor table "re.Pattern.search" = some Builtin.«re.Pattern.search» := entryFor_of_tree (by kernel_rfl)
theorem args_pat_search (a b : Value) : argsOk "re.Pattern.search" ⟨[a, b], []⟩ := by unfold argsOk; kernel_rfl
end FF

structure PatAt (P : Par) (pat : Addr) (code : Array Nat) : Prop where
  at_ : ∃ o fs ca oc its n, P.h₀.get? pat = some o ∧ o.cls = .type "re.Pattern" ∧ o.dict = none ∧ o.data = .fields fs ∧ Builtin.Re.reRawNat (fs.getD 6 .none) = 0 ∧ Builtin.Re.reRawNat (fs.getD 2 .none) = 0 ∧ fs.getD 5 .none = .ref ca ∧
    P.h₀.get? ca = some oc ∧ oc.data = .seq its n ∧ (its.map Builtin.Re.reRawOf).map (·.toNat) = code

section
variable {P : Par} {d : Nat} {env : Env} {σ : Loc} {μ : Led} {A : Around} {β : Fz} {s : Shared}
theorem meth_search {pat : Addr} {code : Array Nat} {Q : V × List V → Led → Prop} (hp : PatAt P pat code) (h : Q (B "re.Pattern.search", [R pat]) μ) : methOk P d μ (R pat) "search" Q := by
  rintro ν A s β t hR hI hY0
  refine away fun G hG => ?_
  obtain ⟨a', pl, ra, eY1⟩ := hY0
  refine hG ?_
  clear hG G
  subst eY1
  cases ra
  refine away fun G hG => ?_
  obtain ⟨o, fs, ca, oc, its, n, ho, hc, hdict, _⟩ := hp.at_
  refine hG ?_
  clear hG G
  have ho' := hI.keep _ _ ho
  exact getMethod_builtin ⟨_, ho', hc⟩ FF.plainAttrs_pat FF.slot_pat_search FF.type_pat_search (fun a q => by cases q; exact ⟨_, ho', hdict⟩) ⟨.rfl, β, .rfl, (B "re.Pattern.search", [R pat]), μ, hI, ⟨.raw _, .cons (.raw _) .nil⟩, h⟩
theorem call_search {pat : Addr} {code : Array Nat} {l : List Nat} {Q : V → Led → Prop} (hp : PatAt P pat code) (O : Rx.Opens code) (hno : ∀ c ∈ l, ∀ seen, ∃ seen', Sre.inSet code c code.size 5 true seen = .ok (false, seen')) (hl : l.length < 2 ^ 62) (h : Q .none μ) : callOk P d μ (B "re.Pattern.search") [R pat, .str l] [] Q := by
  rintro ν A s β t hR hI hY0
  refine away fun G hG => ?_
  obtain ⟨f', as, ks, rf, ra, rk, eY1⟩ := hY0
  refine hG ?_
  clear hG G
  subst eY1
  cases rf
  cases rk.nil'
  refine away fun G hG => ?_
  obtain ⟨_, _, eY1, r1, r2⟩ := ra.two
  refine hG ?_
  clear hG G
  subst eY1
  cases r1
  refine away fun G hG => ?_
  obtain ⟨t, eY1⟩ := r2.strInv
  refine hG ?_
  clear hG G
  subst eY1
  refine away fun G hG => ?_
  obtain ⟨o, fs, ca, oc, its, n, ho, hc, hdict, hd, h6, h2, h5, hoc, hocd, hcode⟩ := hp.at_
  refine hG ?_
  clear hG G
  have ho' := hI.keep _ _ ho
  have hoc' := hI.keep _ _ hoc
  have hT : s.TypeIs (.ref pat) "re.Pattern" := ⟨_, ho', hc⟩
  refine wpAny_call_entry FF.slot_pat_search hT FF.entry_pat_search ?_ (FF.args_pat_search _ _)
  unfold Builtin.«re.Pattern.search»
  refine wpAny_bind ?_
  unfold Builtin.Re.reTarget
  refine wpAny_bind (wpAny_of_eq (a := [some (Value.str (mkS l) t), none, none]) (by kernel_rfl) ?_)
  dsimp only
  refine wpAny_bind (wpAny_pure (wpAny_bind (wpAny_pure ?_)))
  refine wpAny_bind (wpAny_fieldsOf ho' hd ?_)
  refine wpAny_bind (wpAny_of_eq (a := ((mkS l).cps, 0)) rfl ?_)
  dsimp only
  rw [h6]
  refine wpAny_bind (wpAny_pure ?_)
  rw [h5, h2]
  refine wpAny_bind ?_
  unfold Builtin.Re.reRawItems
  refine wpAny_bind (wpAny_seqItems hoc' hocd (wpAny_pure (wpAny_pure ?_)))
  dsimp only
  have hlim : min (2 ^ 63 - 1 : Int).toNat l.toArray.size = l.toArray.size := by
    rw [List.size_toArray]
    have : (2 ^ 63 - 1 : Int).toNat = 2 ^ 63 - 1 := by decide
    rw [this]
    lia
  have hcode' : Array.map (fun x => x.toNat) (Array.map Builtin.Re.reRawOf ((some its).getD #[])) = code := hcode
  rw [hcode', hlim]
  have hL : Rx.Lost (Sre.forSearch code l.toArray 0 0 l.toArray.size false) := Rx.search O fun i hi seen => by
    have hi' : i < l.length := by simpa using hi
    have e : l.toArray.getD i 0 = l[i] := by simp [Array.getD, hi']
    rw [e]
    exact hno _ (List.getElem_mem hi') seen
  unfold Builtin.Re.reAnswer
  refine wpAny_bind (Rx.toEnd hL ?_)
  exact wpAny_pure ⟨_, rfl, .rfl, β, .rfl, .none, μ, hI, .none, h⟩
end
end Mine

namespace Mine
open PySem PySem.W PySem.Calls PyProof.Rows

/-! parts of the text, by their place -/

section
variable {P : Par} {d : Nat} {env : Env} {σ : Loc} {μ : Led} {A : Around} {β : Fz} {s : Shared}

noncomputable def nodupB : List Str → Bool
  | [] => true
  | a :: l => !l.contains a && nodupB l
theorem nodupB_of : ∀ {l : List Str}, nodupB l = true → l.Nodup
  | [], _ => List.nodup_nil
  | a :: l, h => by
    unfold nodupB at h
    rw [Bool.and_eq_true, Bool.not_eq_true'] at h
    refine List.nodup_cons.mpr ⟨fun m => ?_, nodupB_of h.2⟩
    rw [List.contains_iff_mem.mpr m] at h
    cases h.1

noncomputable def Glob (P : Par) (x : Str) (w : V) : Prop := ∃ v, P.mg x = some v ∧ ∀ β, VRel β w v
theorem evOk.glob {x : Str} {pos} {w : V} {Q : V → Led → Prop} (g : Glob P x w) (h : Q w μ) (hk : env.scope.kind = .function) (hl : env.kindOf x = some .globalImplicit)
    (hg : env.globals = mainGlobals) (hd : (x == ("__debug__" : Str)) = false) : evOk P d env σ μ (.Name x pos) Q := by
  refine away fun G hG => ?_
  obtain ⟨v, hv, hw⟩ := g
  refine hG ?_
  clear hG G
  exact evOk.global hv hw h hk hl hg hd
theorem evOk.meth' {o : Expr} {name apos args kws pos} {Q : V → Led → Prop} (h : evOk P d env σ μ o fun ov μ1 => methOk P d μ1 ov name fun fx μ2 => evsOk P d env σ μ2 args fun vs μ3 => kwsOk P d env σ μ3 kws fun kw μ4 => Keep P μ4 fx.1 ∧ callOk P d μ4 fx.1 (fx.2 ++ vs) kw Q)
    (ha : ∀ pos, (backTo pos (starEach args env)).any (·.1) = false) (hk : ∀ pos, (backToKw pos (keywordEach kws env)).all (·.1.isSome) = true)
    (he : ∃ pl, eval (.Call (.Attribute o name apos) args kws pos) env = (do
      let ov ← eval o env
      standAt apos.atName
      let (f, first) ← holding [ov] (getMethod ov name pl)
      callWith pos f first (backTo pos (starEach args env)) (backToKw pos (keywordEach kws env)))) : evOk P d env σ μ (.Call (.Attribute o name apos) args kws pos) Q := let ⟨_, he⟩ := he; evOk.meth h ha hk he
noncomputable def Bi (P : Par) (x : Str) (v : Value) : Prop := P.mg x = none ∧ bootBuiltins x = some v ∧ x ≠ "__name__"
theorem evOk.bi {x : Str} {pos} {v : Value} {Q : V → Led → Prop} (g : Bi P x v) (h : Q (.raw v) μ) (hk : env.scope.kind = .function) (hl : env.kindOf x = some .globalImplicit)
    (hg : env.globals = mainGlobals) (hb : env.builtins = builtinsNs) (hd : (x == ("__debug__" : Str)) = false) : evOk P d env σ μ (.Name x pos) Q := evOk.builtin g.1 g.2.1 g.2.2 h hk hl hg hb hd

structure FnIs (P : Par) (a : Addr) (qual : Str) (S : Stmt) (cdv dV kV : Value) : Prop where
  at_ : ∃ doc pm an ct, ∀ μ, FnAt' P μ a (fnX (fnName S) qual (fnParams S) (fnBody S) (fnScope S) [] dV kV doc pm an cdv ct)
  keep : keepIn P.K (.ref a) = true
theorem FnIs.kp {a : Addr} {qual : Str} {S : Stmt} {cdv dV kV : Value} (F : FnIs P a qual S cdv dV kV) : Keep P μ (R a) := Keep.inK F.keep

theorem FnIs.ok {a : Addr} {qual : Str} {S : Stmt} {cdv dV kV : Value} {args : List V} {kw binds : List (Str × V)} {σ₀ : Loc} {Q : V → Led → Prop} (F : FnIs P a qual S cdv dV kV)
    (hb : ∀ doc pm an ct, BindV P μ (fnX (fnName S) qual (fnParams S) (fnBody S) (fnScope S) [] dV kV doc pm an cdv ct) args kw binds)
    (hcell : ((fnScope S).names.all fun x => x.2 != .cell) = true) (hloc : (binds.all fun x => (fnScope S).names.lookup x.1 == some .local) = true) (hnd : nodupB (σ₀.map (·.1)) = true) (hval : σ₀.map (·.2) = σ₀.map fun p => binds.reverse.lookup p.1)
    (hco : (fnScope S).isCoroutine = false) (hgen : (fnScope S).isGenerator = false) (hk : (fnScope S).kind = .function)
    (h : ∀ L, exsOk P d (envX qual (fnScope S) L a cdv []) σ₀ μ (fnBody S) fun f _ μ' => Q (retV f) μ') : fnOk P (d + 1) μ (.raw (.ref a)) args kw Q := by
  refine away fun G hG => ?_
  obtain ⟨doc, pm, an, ct, hf⟩ := F.at_
  refine hG ?_
  clear hG G
  exact fnOk.body (hf μ) (hb doc pm an ct) (fun x hx => by have := List.all_eq_true.mp hcell x hx; simpa using this) (fun x hx => by have := List.all_eq_true.mp hloc x hx; simpa using this) ⟨nodupB_of hnd, hval⟩ hco hgen hk h

theorem FnIs.okC {a : Addr} {qual : Str} {S : Stmt} {cdv dV kV : Value} {args : List V} {kw binds : List (Str × V)} {σ₀ : Loc} {Q : V → Led → Prop} (F : FnIs P a qual S cdv dV kV)
    (cs : (Nat → Addr) → List (Str × Addr)) (μc : (Nat → Addr) → Led)
    (hb : ∀ doc pm an ct, BindV P μ (fnX (fnName S) qual (fnParams S) (fnBody S) (fnScope S) [] dV kV doc pm an cdv ct) args kw binds)
    (hcs : ∀ f, cellsBy f 0 (fnScope S).names [] = cs f) (hμc : ∀ f, (cs f).map (fun p => (p.2, AObj.cell (aC (fun x => (fnScope S).names.lookup x) binds (fun _ => none) p.1))) = μc f)
    (hnd : ∀ f, nodupB ((cs f).map (·.1)) = true)
    (hkind : (binds.all fun y => (fnScope S).names.lookup y.1 == some .local || (fnScope S).names.lookup y.1 == some .cell) = true) (hnd2 : nodupB (σ₀.map (·.1)) = true) (hval : σ₀.map (·.2) = σ₀.map fun p => aL (fun x => (fnScope S).names.lookup x) binds (fun _ => none) p.1)
    (hco : (fnScope S).isCoroutine = false) (hgen : (fnScope S).isGenerator = false) (hk : (fnScope S).kind = .function)
    (h : ∀ L f, exsOk P d (envX qual (fnScope S) L a cdv (cs f)) σ₀ (μc f ++ μ) (fnBody S) fun fl _ μ' => ∃ μ2, μ2.Sublist μ' ∧ Q (retV fl) μ2) : fnOk P (d + 1) μ (.raw (.ref a)) args kw Q := by
  refine away fun G hG => ?_
  obtain ⟨doc, pm, an, ct, hf⟩ := F.at_
  refine hG ?_
  clear hG G
  exact fnOk.bodyC cs μc (hf μ) (hb doc pm an ct) hcs hμc (fun f => nodupB_of (hnd f)) hkind ⟨nodupB_of hnd2, hval⟩ hco hgen hk h

theorem bind1 {fd : FuncData} {n1 : Str} {a : V} (h : ∀ x, bindArgs fd ⟨[x], []⟩ = pure [(n1, x)]) : BindV P μ fd [a] [] [(n1, a)] := fun β ν s xs ks hI rx rk => by
  refine away fun G hG => ?_
  obtain ⟨x, eY1, r1⟩ := rx.one
  refine hG ?_
  clear hG G
  subst eY1
  cases rk.nil'
  exact ⟨_, .of_eq (h x), rfl, .cons r1 .nil⟩
theorem bind2 {fd : FuncData} {n1 n2 : Str} {a b : V} (h : ∀ x y, bindArgs fd ⟨[x, y], []⟩ = pure [(n1, x), (n2, y)]) : BindV P μ fd [a, b] [] [(n1, a), (n2, b)] := fun β ν s xs ks hI rx rk => by
  refine away fun G hG => ?_
  obtain ⟨x, y, eY1, r1, r2⟩ := rx.two
  refine hG ?_
  clear hG G
  subst eY1
  cases rk.nil'
  exact ⟨_, .of_eq (h x y), rfl, .cons r1 (.cons r2 .nil)⟩
theorem bind3 {fd : FuncData} {n1 n2 n3 : Str} {a b c : V} (h : ∀ x y z, bindArgs fd ⟨[x, y, z], []⟩ = pure [(n1, x), (n2, y), (n3, z)]) : BindV P μ fd [a, b, c] [] [(n1, a), (n2, b), (n3, c)] := fun β ν s xs ks hI rx rk => by
  refine away fun G hG => ?_
  obtain ⟨x, y, z, eY1, r1, r2, r3⟩ := rx.three
  refine hG ?_
  clear hG G
  subst eY1
  cases rk.nil'
  exact ⟨_, .of_eq (h x y z), rfl, .cons r1 (.cons r2 (.cons r3 .nil))⟩
end
structure Hid (Q Q' : Fl → Loc → Led → Prop) : Prop where
  out : ∀ f σ μ, Q f σ μ → Q' f σ μ
theorem Hid.leaf {Q Q' : Fl → Loc → Led → Prop} (h : Hid Q Q') {f σ μ} (x : Q f σ μ) : Q' f σ μ := h.out f σ μ x
section
variable {P : Par} {d : Nat} {env : Env} {σ : Loc} {μ : Led}
theorem exsOk.hide {b} {Q : Fl → Loc → Led → Prop} (h : ∀ Q', Hid Q Q' → exsOk P d env σ μ b Q') : exsOk P d env σ μ b Q := h Q ⟨fun _ _ _ x => x⟩
theorem exsOk.unhide {b} {Q Q' : Fl → Loc → Led → Prop} (h : Hid Q Q') (g : exsOk P d env σ μ b Q) : exsOk P d env σ μ b Q' := fun A s β hR hI => (g A s β hR hI).mono fun _ _ _ _ ⟨f, σ', μ', I, r, q⟩ => ⟨f, σ', μ', I, r, h.out _ _ _ q⟩
end
theorem opOk.monoE {α γ : Type} {P : Par} {rel : Fz → γ → α → Prop} {d : Nat} {μ : Led} {T : Fz → Sem α → Prop} {a : γ} {b : Led} {Q : γ → Led → Prop} (h : opOk P rel d μ T fun v μ' => v = a ∧ μ' = b) (q : Q a b) : opOk P rel d μ T Q :=
  h.mono fun _ _ x => by rw [x.1, x.2]; exact q
theorem opOk.monoX {α γ ι : Type} {P : Par} {rel : Fz → γ → α → Prop} {d : Nat} {μ : Led} {T : Fz → Sem α → Prop} {a : ι → γ} {b : ι → Led} {Q : γ → Led → Prop} (h : opOk P rel d μ T fun v μ' => ∃ x, v = a x ∧ μ' = b x) (q : ∀ x, Q (a x) (b x)) : opOk P rel d μ T Q :=
  h.mono fun _ _ y => by obtain ⟨x, y⟩ := y; rw [y.1, y.2]; exact q x
end Mine

namespace Mine
open PySem PySem.W PySem.Calls PyProof.Rows

section
variable {P : Par} {d : Nat} {env : Env} {σ : Loc} {μ : Led} {A : Around} {β : Fz} {s : Shared}

theorem FnAt'.led {a : Addr} {fd : FuncData} {dd : Option Addr} (hm : (a, AObj.fn fd dd) ∈ μ) : FnAt' P μ a fd := fun β ν h I => by
  refine away fun G hG => ?_
  obtain ⟨o, e, eY1, c, oc, vs, t, e1, e2, e3, e4, _⟩ := I.led _ (List.mem_append_left _ hm)
  refine hG ?_
  clear hG G
  subst eY1
  exact ⟨_, e, rfl, c, oc, vs, t, e1, I.froz _ _ e2, e3, e4⟩

theorem fnOk.led {a : Addr} {name qual : Str} {params : Arguments} {body : List Stmt} {sc : Scope} {cl : List (Str × Addr)} {doc pm cv ctv : Value} {args : List V} {kw binds : List (Str × V)} {σ₀ : Loc} {Q : V → Led → Prop}
    (hm : (a, AObj.fn (kdv_fn name qual params (.stmts body) sc cl .none doc pm cv ctv) none) ∈ μ) (hb : BindV P μ (kdv_fn name qual params (.stmts body) sc cl .none doc pm cv ctv) args kw binds)
    (hcell : (sc.names.all fun x => x.2 != .cell) = true) (hloc : (binds.all fun x => sc.names.lookup x.1 == some .local) = true)
    (hnd : nodupB (σ₀.map (·.1)) = true) (hval : σ₀.map (·.2) = σ₀.map fun p => binds.reverse.lookup p.1)
    (hco : sc.isCoroutine = false) (hgen : sc.isGenerator = false) (hk : sc.kind = .function)
    (h : ∀ L, exsOk P d (envX qual sc L a cv cl) σ₀ μ body fun f _ μ' => Q (retV f) μ') : fnOk P (d + 1) μ (R a) args kw Q :=
  fnOk.body (name := name) (qual := qual) (params := params) (body := body) (sc := sc) (cl := cl) (dV := .none) (kV := .none) (doc := doc) (pm := pm) (an := none) (cdv := cv) (ct := ctv) (FnAt'.led hm) hb
    (fun x hx => by have := List.all_eq_true.mp hcell x hx; simpa using this) (fun x hx => by have := List.all_eq_true.mp hloc x hx; simpa using this) ⟨nodupB_of hnd, hval⟩ hco hgen hk h
end

/-! digits to a base that is a power of two -/
noncomputable def digs (n : Nat) (x : Nat) : Nat → List Nat
  | 0 => []
  | k + 1 => x % 2 ^ n :: digs n (x / 2 ^ n) k
theorem digs_len (n : Nat) : ∀ (k x : Nat), (digs n x k).length = k
  | 0, _ => rfl
  | k + 1, x => by simp [digs, digs_len n k]
theorem digs_add (n : Nat) : ∀ (j k x : Nat), digs n x (j + k) = digs n (x % 2 ^ (n * j)) j ++ digs n (x / 2 ^ (n * j)) k
  | 0, k, x => by simp [digs]
  | j + 1, k, x => by
    have e1 : j + 1 + k = (j + k) + 1 := by lia
    rw [e1]
    show x % 2 ^ n :: digs n (x / 2 ^ n) (j + k) = (x % 2 ^ (n * (j + 1))) % 2 ^ n :: digs n (x % 2 ^ (n * (j + 1)) / 2 ^ n) j ++ _
    have hp : 2 ^ (n * (j + 1)) = 2 ^ n * 2 ^ (n * j) := by rw [Nat.mul_succ, Nat.pow_add, Nat.mul_comm]
    rw [digs_add n j k, hp, Nat.mod_mul_right_mod, Nat.mod_mul_right_div_self, Nat.div_div_eq_div_mul]
    rfl
theorem digs_one {n x : Nat} (h : x < 2 ^ n) : digs n x 1 = [x] := by simp [digs, Nat.mod_eq_of_lt h]
noncomputable def undig (n : Nat) : List Nat → Nat
  | [] => 0
  | d :: r => d + 2 ^ n * undig n r
theorem undig_digs (n : Nat) : ∀ (k x : Nat), x < 2 ^ (n * k) → undig n (digs n x k) = x
  | 0, x, h => by simp at h; simp [digs, undig, h]
  | k + 1, x, h => by
    have hp : 2 ^ (n * (k + 1)) = 2 ^ n * 2 ^ (n * k) := by rw [Nat.mul_succ, Nat.pow_add, Nat.mul_comm]
    show x % 2 ^ n + 2 ^ n * undig n (digs n (x / 2 ^ n) k) = x
    rw [undig_digs n k _ (by rw [Nat.div_lt_iff_lt_mul (Nat.pos_of_ne_zero (by simp))]; rw [hp] at h; rwa [Nat.mul_comm])]
    exact Nat.mod_add_div x (2 ^ n)
theorem undig_app (n : Nat) : ∀ (a b : List Nat), undig n (a ++ b) = undig n a + 2 ^ (n * a.length) * undig n b
  | [], b => by simp [undig]
  | d :: a, b => by
    show d + 2 ^ n * undig n (a ++ b) = d + 2 ^ n * undig n a + 2 ^ (n * (a.length + 1)) * undig n b
    rw [undig_app n a b, Nat.mul_add, Nat.mul_succ, Nat.pow_add, Nat.mul_comm (2 ^ (n * a.length)) (2 ^ n), Nat.mul_assoc]
    lia
theorem and_low (x s : Nat) : x &&& ((x >>> s) <<< s) = (x >>> s) <<< s := by
  apply Nat.eq_of_testBit_eq
  intro i
  rw [Nat.testBit_and, Nat.testBit_shiftLeft, Nat.testBit_shiftRight]
  by_cases h : s ≤ i
  · have e : s + (i - s) = i := by lia
    simp [h, e]
  · simp [h]
theorem xorI (x s : Nat) : Builtin.bitXor (x : Int) ((x / 2 ^ s : Nat) * 2 ^ s : Nat) = ((x % 2 ^ s : Nat) : Int) := by
  rw [bitXor_and]
  have e : Builtin.bitAnd (x : Int) (((x / 2 ^ s) * 2 ^ s : Nat) : Int) = (((x / 2 ^ s) * 2 ^ s : Nat) : Int) := by
    show ((((x : Int).toNat &&& (((x / 2 ^ s) * 2 ^ s : Nat) : Int).toNat : Nat)) : Int) = _
    rw [Int.toNat_natCast, Int.toNat_natCast]
    have := and_low x s
    rw [Nat.shiftLeft_eq, Nat.shiftRight_eq_div_pow] at this
    rw [this]
  rw [e]
  have h1 := Nat.div_add_mod x (2 ^ s)
  rw [Nat.mul_comm] at h1
  generalize x / 2 ^ s * 2 ^ s = y at *
  lia
theorem bits_le {x k : Nat} (h : x < 2 ^ k) : Builtin.Int.intBits (x : Int) ≤ k := by
  unfold Builtin.Int.intBits
  split
  · exact Nat.zero_le _
  · rename_i h0
    have h0' : x ≠ 0 := by simpa using h0
    rw [Int.natAbs_natCast]
    exact (Nat.log2_lt h0').mpr h
end Mine

namespace Mine
open PySem PySem.W PySem.Calls PyProof.Rows

section
variable {P : Par} {d : Nat} {env : Env} {σ : Loc} {μ : Led} {A : Around} {β : Fz} {s : Shared}

theorem fnOk.le {d d' : Nat} {f args kw} {Q : V → Led → Prop} (h : fnOk P d μ f args kw Q) (hd : d ≤ d') : fnOk P d' μ f args kw Q := fun ν A s β f' xs ks hR hI rf rx rk => h ν A s β f' xs ks (hR.le hd) hI rf rx rk
theorem fnOk.mono {f args kw} {Q Q' : V → Led → Prop} (h : fnOk P d μ f args kw Q) (hq : ∀ v μ', Q v μ' → Q' v μ') : fnOk P d μ f args kw Q' := fun ν A s β f' xs ks hR hI rf rx rk => codeAny_mono (h ν A s β f' xs ks hR hI rf rx rk) fun r s' hr => by
  rcases r with e | fl
  · exact hr.elim
  rcases fl with v | _ | _ | _
  all_goals first | exact hr.elim | skip
  refine away fun G hG => ?_
  obtain ⟨st, β', le, c, μ', I, rv, q⟩ := hr
  refine hG ?_
  clear hG G
  exact ⟨st, β', le, c, μ', I, rv, hq _ _ q⟩

inductive PickL (p : Addr × AObj) : Led → Led → Prop
  | head {r : Led} : PickL p (p :: r) r
  | tail {q : Addr × AObj} {r r2 : Led} : PickL p r r2 → PickL p (q :: r) (q :: r2)
theorem PickL.perm {p} : ∀ {μ μ'}, PickL p μ μ' → μ.Perm (p :: μ')
  | _, _, .head => List.Perm.refl _
  | _, _, .tail h => (h.perm.cons _).trans (List.Perm.swap _ _ _)
inductive PicksL : Led → Led → Led → Prop
  | nil {m : Led} : PicksL [] m m
  | cons {p : Addr × AObj} {ps m m1 m2 : Led} : PickL p m m1 → PicksL ps m1 m2 → PicksL (p :: ps) m m2
theorem PicksL.perm : ∀ {ps μ μ'}, PicksL ps μ μ' → μ.Perm (ps ++ μ')
  | _, _, _, .nil => List.Perm.refl _
  | _, _, _, .cons h r => h.perm.trans (r.perm.cons _)
theorem callOk.picks {ps ρ : Led} {f args kw} {Q : V → Led → Prop} (hp : PicksL ps μ ρ) (h : callOk P d ps f args kw fun c μ1 => Q c (μ1 ++ ρ)) : callOk P d μ f args kw Q := opOk.frame hp.perm h
theorem fnOk.drop {f args kw} {Q : V → Led → Prop} (h : fnOk P d μ f args kw fun v μ' => ∃ μ2, μ2.Sublist μ' ∧ Q v μ2) : fnOk P d μ f args kw Q := fun ν A s β f' xs ks hR hI rf rx rk => codeAny_mono (h ν A s β f' xs ks hR hI rf rx rk) fun r s' hr => by
  rcases r with e | fl
  · exact hr.elim
  rcases fl with v | _ | _ | _
  all_goals first | exact hr.elim | skip
  refine away fun G hG => ?_
  obtain ⟨st, β', le, c, μ', I, rv, μ2, sb, q⟩ := hr
  refine hG ?_
  clear hG G
  exact ⟨st, β', le, c, μ2, I.forget (sb.append (List.Sublist.refl ν)), rv, q⟩
theorem ceil_le {b n : Nat} (hn : 0 < n) : (b + n - 1) / n ≤ b := by
  rcases b with _ | b
  · rw [Nat.div_eq_of_lt (by lia)]; exact Nat.le_refl _
  · obtain ⟨k, rfl⟩ : ∃ k, n = k + 1 := ⟨n - 1, by lia⟩
    refine Nat.div_le_of_le_mul ?_
    rw [Nat.mul_add, Nat.add_mul]; lia
theorem ceil_ge {b n : Nat} (hn : 0 < n) : b ≤ n * ((b + n - 1) / n) := by
  have h1 := Nat.div_add_mod (b + n - 1) n
  have h2 := Nat.mod_lt (b + n - 1) hn
  lia
theorem ceil_mul {b n : Nat} : n * ((b + n - 1) / n) ≤ b + n - 1 := Nat.mul_div_le _ _
theorem lt_bits (x : Nat) : x < 2 ^ Builtin.Int.intBits (x : Int) := by
  unfold Builtin.Int.intBits
  by_cases h0 : x = 0
  · subst h0; exact Nat.one_pos
  · rw [if_neg (by simpa using h0), Int.natAbs_natCast]
    exact Nat.lt_log2_self
theorem assOk.nil {Q : Loc → Led → Prop} (h : Q σ μ) : assOk P d env σ μ [] [] Q := h
theorem assOk.cons {t : Expr} {ts : List Expr} {v : V} {vs : List V} {Q : Loc → Led → Prop} (h : asOk P d env σ μ t v fun σ1 μ1 => assOk P d env σ1 μ1 ts vs Q) : assOk P d env σ μ (t :: ts) (v :: vs) Q := h
/-! long division, the first figure first -/
noncomputable def ldiv (B b : Nat) : List Nat → Nat → List Nat × Nat
  | [], r => ([], r)
  | e :: es, r => let t := ldiv B b es ((r * B + e) % b); ((r * B + e) / b :: t.1, t.2)
noncomputable def big (B : Nat) : List Nat → Nat → Nat
  | [], r => r
  | e :: es, r => big B es (r * B + e)
theorem big_add (B : Nat) : ∀ (l : List Nat) (r s : Nat), big B l (r + s) = big B l r + s * B ^ l.length
  | [], r, s => by simp [big]
  | e :: l, r, s => by
    show big B l ((r + s) * B + e) = big B l (r * B + e) + s * B ^ (l.length + 1)
    rw [show (r + s) * B + e = (r * B + e) + s * B from by rw [Nat.add_mul]; lia, big_add B l, Nat.pow_succ, Nat.mul_assoc, Nat.mul_comm B]
theorem ldiv_big {B b : Nat} (hb : 0 < b) : ∀ (l : List Nat) (r : Nat), big B l r = big B (ldiv B b l r).1 0 * b + (ldiv B b l r).2
  | [], r => by simp [big, ldiv]
  | e :: l, r => by
    have ih := ldiv_big (B := B) hb l ((r * B + e) % b)
    have h1 := Nat.div_add_mod (r * B + e) b
    show big B l (r * B + e) = big B (ldiv B b l ((r * B + e) % b)).1 (0 * B + (r * B + e) / b) * b + (ldiv B b l ((r * B + e) % b)).2
    have e1 : big B l (r * B + e) = big B l ((r * B + e) % b) + (b * ((r * B + e) / b)) * B ^ l.length := by
      rw [← big_add]; congr 1; lia
    have hl : (ldiv B b l ((r * B + e) % b)).1.length = l.length := by
      generalize (r * B + e) % b = q
      clear ih h1 e1
      induction l generalizing q with
      | nil => rfl
      | cons a l ih => simp [ldiv, ih]
    have e2 : big B (ldiv B b l ((r * B + e) % b)).1 (0 * B + (r * B + e) / b) = big B (ldiv B b l ((r * B + e) % b)).1 0 + ((r * B + e) / b) * B ^ l.length := by
      rw [show 0 * B + (r * B + e) / b = 0 + (r * B + e) / b from by lia, big_add, hl]
    rw [e1, e2, ih, Nat.add_mul]
    have : b * ((r * B + e) / b) * B ^ l.length = (r * B + e) / b * B ^ l.length * b := by
      rw [Nat.mul_comm b, Nat.mul_assoc, Nat.mul_comm b, ← Nat.mul_assoc]
    lia
theorem ldiv_lt {B b : Nat} (hb : 0 < b) : ∀ (l : List Nat) (r : Nat), r < b → (ldiv B b l r).2 < b
  | [], r, h => h
  | e :: l, r, h => ldiv_lt hb l _ (Nat.mod_lt _ hb)
theorem ldiv_dig {B b : Nat} (hb : 0 < b) : ∀ (l : List Nat) (r : Nat), r < b → (∀ e ∈ l, e < B) → ∀ q ∈ (ldiv B b l r).1, q < B
  | [], r, _, _, q, hq => by simp [ldiv] at hq
  | e :: l, r, h, hl, q, hq => by
    rcases List.mem_cons.mp hq with rfl | hq
    · rw [Nat.div_lt_iff_lt_mul hb]
      have h1 := hl e List.mem_cons_self
      have : (r + 1) * B ≤ b * B := Nat.mul_le_mul_right _ h
      rw [Nat.add_mul] at this
      rw [Nat.mul_comm B b]; lia
    · exact ldiv_dig hb l _ (Nat.mod_lt _ hb) (fun x hx => hl x (List.mem_cons_of_mem _ hx)) q hq
theorem ldiv_len {B b : Nat} : ∀ (l : List Nat) (r : Nat), (ldiv B b l r).1.length = l.length
  | [], _ => rfl
  | e :: l, r => by simp [ldiv, ldiv_len l]
theorem ldiv_snoc {B b : Nat} : ∀ (l : List Nat) (r e : Nat), ldiv B b (l ++ [e]) r = ((ldiv B b l r).1 ++ [((ldiv B b l r).2 * B + e) / b], ((ldiv B b l r).2 * B + e) % b)
  | [], r, e => rfl
  | a :: l, r, e => by
    show (let t := ldiv B b (l ++ [e]) ((r * B + a) % b); ((r * B + a) / b :: t.1, t.2)) = _
    rw [ldiv_snoc l]
    rfl
theorem big_undig (n : Nat) : ∀ (l : List Nat), big (2 ^ n) l.reverse 0 = undig n l
  | [] => rfl
  | a :: l => by
    have key : ∀ (l : List Nat) (r e : Nat), big (2 ^ n) (l ++ [e]) r = big (2 ^ n) l r * 2 ^ n + e := fun l => by
      induction l with
      | nil => intro r e; rfl
      | cons x l ih => intro r e; exact ih _ _
    rw [List.reverse_cons, key, big_undig n l]
    show _ = a + 2 ^ n * undig n l
    rw [Nat.mul_comm]; lia
noncomputable def fnPos : Stmt → Pos | .FunctionDef _ _ _ _ _ _ _ _ _ p => p | _ => default
end
end Mine

namespace Mine
open PySem PySem.W PySem.Calls PyProof.Rows

section
variable {P : Par} {d : Nat} {env : Env} {σ : Loc} {μ : Led} {A : Around} {β : Fz} {s : Shared}

theorem call_typeStr {l : List Nat} {Q : V → Led → Prop} (h : Q (T "str") μ) : callOk P d μ (T "type") [.str l] [] Q := by
  rintro ν A s β t hR hI hY0
  refine away fun G hG => ?_
  obtain ⟨f', as, ks, rf, ra, rk, eY1⟩ := hY0
  refine hG ?_
  clear hG G
  subst eY1
  cases rf
  cases rk.nil'
  refine away fun G hG => ?_
  obtain ⟨_, eY1, r1⟩ := ra.one
  refine hG ?_
  clear hG G
  subst eY1
  refine away fun G hG => ?_
  obtain ⟨t, eY1⟩ := r1.strInv
  refine hG ?_
  clear hG G
  subst eY1
  exact call_type_of (typeIs_str _ _ _) (by decide +kernel) ⟨.rfl, β, .rfl, _, μ, hI, .raw _, h⟩
theorem call_typeList {l : Addr} {xs : List V} {Q : V → Led → Prop} (hm : (l, AObj.list xs) ∈ μ) (h : Q (T "list") μ) : callOk P d μ (T "type") [R l] [] Q := by
  rintro ν A s β t hR hI hY0
  refine away fun G hG => ?_
  obtain ⟨f', as, ks, rf, ra, rk, eY1⟩ := hY0
  refine hG ?_
  clear hG G
  subst eY1
  cases rf
  cases rk.nil'
  refine away fun G hG => ?_
  obtain ⟨_, eY1, r1⟩ := ra.one
  refine hG ?_
  clear hG G
  subst eY1
  cases r1
  refine away fun G hG => ?_
  obtain ⟨its, n, e, r, es⟩ := listLook hI hm
  refine hG ?_
  clear hG G
  exact call_type_of ⟨_, e, rfl⟩ (by decide +kernel) ⟨.rfl, β, .rfl, _, μ, hI, .raw _, h⟩
theorem cmp_isType {a b : String} {c : Bool} {Q : V → Led → Prop} (hp : plainIs (.type a) (.type b) = true) (hc : (Value.type a == Value.type b) = c) (h : Q (.bool c) μ) : cmpOk P d μ .Is (T a) (T b) Q := by
  rintro ν A s β t hR hI hY0
  refine away fun G hG => ?_
  obtain ⟨a', b', ra, rb, eY1⟩ := hY0
  refine hG ?_
  clear hG G
  subst eY1
  cases ra; cases rb
  exact wpAny_is_plain hp (by rw [hc]; exact ⟨.rfl, β, .rfl, _, μ, hI, .bool _, h⟩)
theorem cmp_isNotType {a b : String} {c : Bool} {Q : V → Led → Prop} (hp : plainIs (.type a) (.type b) = true) (hc : (!(Value.type a == Value.type b)) = c) (h : Q (.bool c) μ) : cmpOk P d μ .IsNot (T a) (T b) Q := by
  rintro ν A s β t hR hI hY0
  refine away fun G hG => ?_
  obtain ⟨a', b', ra, rb, eY1⟩ := hY0
  refine hG ?_
  clear hG G
  subst eY1
  cases ra; cases rb
  exact wpAny_isNot_plain hp (by rw [hc]; exact ⟨.rfl, β, .rfl, _, μ, hI, .bool _, h⟩)
theorem tru_none {Q : Bool → Led → Prop} (h : Q false μ) : truOk P d μ .none Q := by
  rintro ν A s β t hR hI hY0
  refine away fun G hG => ?_
  obtain ⟨a', ra, eY1⟩ := hY0
  refine hG ?_
  clear hG G
  subst eY1
  cases ra
  show wpL P A β (truthy .none) _ s
  exact wpAny_of_eq rfl ⟨.rfl, β, .rfl, false, μ, hI, rfl, h⟩

theorem bind2k {fd : FuncData} {n1 n2 n3 : Str} {a b c : V} (h : ∀ x y z, bindArgs fd ⟨[x, y], [(n3, z)]⟩ = pure [(n1, x), (n2, y), (n3, z)]) : BindV P μ fd [a, b] [(n3, c)] [(n1, a), (n2, b), (n3, c)] := fun β ν s xs ks hI rx rk => by
  refine away fun G hG => ?_
  obtain ⟨x, y, eY1, r1, r2⟩ := rx.two
  refine hG ?_
  clear hG G
  subst eY1
  refine away fun G hG => ?_
  obtain ⟨k1, k2⟩ := rk
  refine hG ?_
  clear hG G
  rcases ks with _ | ⟨⟨m, z⟩, ks⟩
  · simp at k1
  · simp at k1
    refine away fun G hG => ?_
    obtain ⟨eY1, eY2⟩ := k1
    refine hG ?_
    clear hG G
    subst eY1
    subst eY2
    cases k2 with | cons r3 r4 =>
    exact ⟨_, .of_eq (h x y z), rfl, .cons r1 (.cons r2 (.cons r3 .nil))⟩
structure DfltAt (P : Par) (dV : Value) : Prop where
  at_ : ∃ Td o n, dV = .ref Td ∧ P.h₀.get? Td = some o ∧ o.data = .seq #[.none] n
theorem bind1d {fd : FuncData} {n1 n2 : Str} {a : V} {k : Option (Array Value) → Sem (List (Str × Value))} (D : DfltAt P fd.defaults) (h1 : ∀ x, ∃ k : Option (Array Value) → Sem (List (Str × Value)), bindArgs fd ⟨[x], []⟩ = seqItems? fd.defaults >>= k ∧ k (some #[.none]) = pure [(n1, x), (n2, .none)]) : BindV P μ fd [a] [] [(n1, a), (n2, .none)] := fun β ν s xs ks hI rx rk => by
  refine away fun G hG => ?_
  obtain ⟨x, eY1, r1⟩ := rx.one
  refine hG ?_
  clear hG G
  subst eY1
  cases rk.nil'
  refine away fun G hG => ?_
  obtain ⟨Td, o, n, e1, e2, e3⟩ := D.at_
  refine hG ?_
  clear hG G
  refine away fun G hG => ?_
  obtain ⟨k, h1, h2⟩ := h1 x
  refine hG ?_
  clear hG G
  exact ⟨_, .of_defaults e1 (hI.keep _ _ e2) e3 h1 h2, rfl, .cons r1 (.cons .none .nil)⟩
theorem bind2d {fd : FuncData} {n1 n2 n3 : Str} {a b : V} (D : DfltAt P fd.defaults) (h1 : ∀ x y, ∃ k : Option (Array Value) → Sem (List (Str × Value)), bindArgs fd ⟨[x, y], []⟩ = seqItems? fd.defaults >>= k ∧ k (some #[.none]) = pure [(n1, x), (n2, y), (n3, .none)]) : BindV P μ fd [a, b] [] [(n1, a), (n2, b), (n3, .none)] := fun β ν s xs ks hI rx rk => by
  refine away fun G hG => ?_
  obtain ⟨x, y, eY1, r1, r2⟩ := rx.two
  refine hG ?_
  clear hG G
  subst eY1
  cases rk.nil'
  refine away fun G hG => ?_
  obtain ⟨Td, o, n, e1, e2, e3⟩ := D.at_
  refine hG ?_
  clear hG G
  refine away fun G hG => ?_
  obtain ⟨k, h1, h2⟩ := h1 x y
  refine hG ?_
  clear hG G
  exact ⟨_, .of_defaults e1 (hI.keep _ _ e2) e3 h1 h2, rfl, .cons r1 (.cons r2 (.cons .none .nil))⟩
theorem evOk.debug {x : Str} {pos} {Q : V → Led → Prop} (h : Q (.bool true) μ) (hd : (x == ("__debug__" : Str)) = true) : evOk P d env σ μ (.Name x pos) Q := fun A s β hR hI => by
  rw [arm_eval_Name, if_pos hd]
  exact wpL.standAt_bind (wpAny_bind (wpAny_rule (wpAny_pure ⟨.rfl, β, .rfl, _, μ, hI, .bool _, h⟩)))
theorem FnIs.fnAt {a : Addr} {qual : Str} {S : Stmt} {cdv dV kV : Value} (F : FnIs P a qual S cdv dV kV) : ∃ fd, ∀ μ, FnAt' P μ a fd := let ⟨_, _, _, _, h⟩ := F.at_; ⟨_, h⟩
end
end Mine

namespace Mine
open PySem PySem.W PySem.Calls PyProof.Rows

/-! what a netrc lexer reads: by a quoted word, by a bare word, at all -/
noncomputable def tokQ : List Nat → List Nat → List Nat × List Nat
  | [], acc => (acc, [])
  | [92], acc => (acc, [])
  | 92 :: c :: r, acc => tokQ r (acc ++ [c])
  | c :: r, acc => if c = 34 then (acc, r) else tokQ r (acc ++ [c])
theorem tokQ_other {c : Nat} {r acc : List Nat} (h1 : c ≠ 34) (h2 : c ≠ 92) : tokQ (c :: r) acc = tokQ r (acc ++ [c]) := by
  rw [tokQ]
  · rw [if_neg h1]
  · rintro rfl; exact absurd rfl h2
  · rintro _ _ rfl; exact absurd rfl h2
noncomputable def tokW (ws : List Nat) : List Nat → List Nat → List Nat × List Nat
  | [], acc => (acc, [])
  | c :: r, acc => if ws.contains c then (acc, r) else if c = 92 then (match r with
      | [] => (acc, [])
      | c' :: r' => tokW ws r' (acc ++ [c'])) else tokW ws r (acc ++ [c])
noncomputable def tok (ws : List Nat) : List Nat → List Nat × List Nat
  | [] => ([], [])
  | c :: r => if ws.contains c then tok ws r else if c = 34 then tokQ r [] else if c = 92 then (match r with
      | [] => ([], [])
      | c' :: r' => tokW ws r' [c']) else tokW ws r [c]
noncomputable abbrev ws0 : List Nat := [10, 9, 13, 32]
end Mine

namespace Mine
open PySem PySem.W PySem.Calls PyProof.Rows

section
variable {P : Par} {d : Nat} {env : Env} {σ : Loc} {μ : Led} {A : Around} {β : Fz} {s : Shared}
theorem exOk.mono {st} {Q Q' : Fl → Loc → Led → Prop} (h : exOk P d env σ μ st Q) (hq : ∀ f σ μ, Q f σ μ → Q' f σ μ) : exOk P d env σ μ st Q' := fun A s β hR hI => (h A s β hR hI).mono fun f' β1 h1 le1 ⟨f, σ1, μ1, I1, rf, q1⟩ => ⟨f, σ1, μ1, I1, rf, hq _ _ _ q1⟩
theorem exsOk.cut {st rest} {R : Loc → Led → Prop} {Q : Fl → Loc → Led → Prop} (h : exOk P d env σ μ st fun f σ1 μ1 => f = .next ∧ R σ1 μ1) (hr : ∀ σ1 μ1, R σ1 μ1 → exsOk P d env σ1 μ1 rest Q) : exsOk P d env σ μ (st :: rest) Q :=
  .cons (h.mono fun f σ1 μ1 ⟨e, q⟩ => by subst e; exact hr _ _ q)
end
end Mine

namespace Mine
open PySem PySem.W PySem.Calls PyProof.Rows PySem.SeqAt PySem.MeetsSeq

section
variable {P : Par} {d : Nat} {env : Env} {σ : Loc} {μ : Led} {A : Around} {β : Fz} {s : Shared}

/-! equality of plain values -/
noncomputable def eqV : V → V → Option Bool
  | .int a, .int b => some (a == b)
  | .bool a, .bool b => some (a == b)
  | .str a, .str b => some (a == b)
  | .none, .none => some true
  | _, _ => none
noncomputable def valEq : Value → Value → Bool
  | .int a _, .int b _ => a == b
  | .bool a, .bool b => a == b
  | .str a _, .str b _ => a == b
  | .none, .none => true
  | _, _ => false
theorem valEq_of {v w : V} {x y : Value} {b : Bool} (e : eqV v w = some b) (r : VRel β v x) (q : VRel β w y) : valEq x y = b ∧ ∀ A s, EqAt A s x y b := by
  cases r <;> cases q <;> cases e
  · exact ⟨rfl, fun _ _ => EqAt.same _⟩
  · exact ⟨rfl, fun _ _ => EqAt.bool_bool _ _⟩
  · exact ⟨rfl, fun _ _ => EqAt.int_int _ _ _ _⟩
  · rename_i l1 t1 l2 t2
    have e1 : (mkS l1 == mkS l2) = (l1 == l2) := mkS_beq _ _
    refine ⟨e1, fun _ _ => ?_⟩
    rw [← e1]
    exact EqAt.str_str _ _ _ _
theorem valEq_any {v : V} {y : Value} (q : VRel β v y) : ∀ {xs : List V} {ys : List Value}, VsRel β xs ys → (∀ x ∈ xs, (eqV x v).isSome) → (∀ A s, ∀ z ∈ ys, EqAt A s z y (valEq z y)) ∧ ys.any (fun z => valEq z y) = xs.any (fun x => eqV x v == some true) ∧ ys.countP (fun z => valEq z y) = xs.countP (fun x => eqV x v == some true)
  | _, _, .nil, _ => ⟨(fun _ _ z hz => by cases hz), rfl, rfl⟩
  | x :: xs, z :: ys, .cons a b, he => by
    refine away fun G hG => ?_
    obtain ⟨i1, i2, i3⟩ := valEq_any q b fun x hx => he x (List.mem_cons_of_mem _ hx)
    refine hG ?_
    clear hG G
    refine away fun G hG => ?_
    obtain ⟨c, hc⟩ := Option.isSome_iff_exists.mp (he x List.mem_cons_self)
    refine hG ?_
    clear hG G
    have e1 : valEq z y = c := (valEq_of hc a q).1
    have e2 : (eqV x v == some true) = c := by rw [hc]; cases c <;> rfl
    refine ⟨fun A s w hw => ?_, ?_, ?_⟩
    · rcases List.mem_cons.mp hw with rfl | hw
      · rw [e1]; exact (valEq_of hc a q).2 A s
      · exact i1 A s w hw
    · rw [List.any_cons, List.any_cons, i2, e1, e2]
    · rw [List.countP_cons, List.countP_cons, i3, e1, e2]
theorem cmp_inList {l : Addr} {xs : List V} {v : V} {c : Bool} {Q : V → Led → Prop} (hm : (l, AObj.list xs) ∈ μ) (he : ∀ x ∈ xs, (eqV x v).isSome) (hc : xs.any (fun x => eqV x v == some true) = c) (h : Q (.bool c) μ) : cmpOk P d μ .In v (R l) Q := by
  rintro ν A s β t hR hI hY0
  refine away fun G hG => ?_
  obtain ⟨a', b', ra, rb, eY1⟩ := hY0
  refine hG ?_
  clear hG G
  subst eY1
  cases rb
  refine away fun G hG => ?_
  obtain ⟨its, hl, r, es⟩ := list_ext_get hI (List.mem_append_left _ hm)
  refine hG ?_
  clear hG G
  refine away fun G hG => ?_
  obtain ⟨i1, i2, i3⟩ := valEq_any ra r he
  refine hG ?_
  clear hG G
  refine in_listAt (fun z => valEq z a') hl (fun z hz => i1 _ _ z (by simpa using hz)) ⟨.rfl, β, .rfl, _, μ, hI, ?_, h⟩
  rw [← Array.any_toList, i2, hc]; exact .bool _
/-! several lists -/
theorem call_extend {l b : Addr} {xs ys : List V} {μ' : Led} {Q : V → Led → Prop} (hb : (b, AObj.list ys) ∈ μ) (hU : UpdL l (.list (xs ++ ys)) (.list xs) μ μ') (hsz : xs.length + ys.length ≤ sizeLine) (h : Q .none μ') : callOk P d μ (B "list.extend") [R l, R b] [] Q := by
  rintro ν A s β t hR hI hY0
  refine away fun G hG => ?_
  obtain ⟨f', as, ks, rf, ra, rk, eY1⟩ := hY0
  refine hG ?_
  clear hG G
  subst eY1
  cases rf
  cases rk.nil'
  refine away fun G hG => ?_
  obtain ⟨_, x, eY1, r1, r3⟩ := ra.two
  refine hG ?_
  clear hG G
  subst eY1
  cases r1; cases r3
  refine away fun G hG => ?_
  obtain ⟨its, n, e, r, es⟩ := listLook hI hU.mem
  refine hG ?_
  clear hG G
  refine away fun G hG => ?_
  obtain ⟨its2, n2, e2, r2, es2⟩ := listLook hI hb
  refine hG ?_
  clear hG G
  refine call_meets F.slot_list_extend ⟨_, e, rfl⟩ F.entry_list_extend (F.args_list_extend_2 _ _) (AutoSeq1.list_extend_list_list_0 l its n b its2 n2 ?_ (by lia) (by lia)) ⟨e, e2, .mk', β, .rfl, _, μ', ?_, .none, h⟩
  · simp [Builtin.List.listTooLong]; lia
  · exact hI.upd (hU.app ν) (Heap.SameBut.update ..).extBut ⟨_, Heap.get?_update_self _ e rfl, _, _, rfl, by simpa using r.append r2⟩
theorem bin_listAdd {l b : Addr} {xs ys : List V} {Q : V → Led → Prop} (hm : (l, AObj.list xs) ∈ μ) (hb : (b, AObj.list ys) ∈ μ) (hsz : xs.length + ys.length ≤ sizeLine) (h : ∀ D, Q (R D) ((D, .list (xs ++ ys)) :: μ)) : binOk P d μ .Add (R l) (R b) Q := by
  rintro ν A s β t hR hI hY0
  refine away fun G hG => ?_
  obtain ⟨a', b', ra, rb, eY1⟩ := hY0
  refine hG ?_
  clear hG G
  subst eY1
  cases ra; cases rb
  refine away fun G hG => ?_
  obtain ⟨its, n, e, r, es⟩ := listLook hI hm
  refine hG ?_
  clear hG G
  refine away fun G hG => ?_
  obtain ⟨its2, n2, e2, r2, es2⟩ := listLook hI hb
  refine hG ?_
  clear hG G
  refine PySem.P.add_list (n := n) (n2 := n2) (items := its) (items2 := its2) e e2 ⟨.mk', β, .rfl, _, _, hI.new (push_keeps _) get_size_none (x := .list (xs ++ ys)) ⟨_, Heap.get?_push_size _ rfl, _, _, rfl, by simpa using r.append r2⟩, .raw _, h _⟩ (by lia)
theorem ints_are : ∀ {ns : List Int} {xs : List Value}, VsRel β (ns.map .int) xs → IntsAre xs ns
  | [], _, .nil => .nil
  | n :: ns, _, .cons a b => by cases a; exact .cons _ _ (ints_are b)
theorem ints_rel : ∀ {ns : List Int} {xs : List Value}, IntsAre xs ns → VsRel β (ns.map .int) xs
  | _, _, .nil => .nil
  | _, _, .cons _ _ b => .cons (.int ..) (ints_rel b)
/-! ranges with a step -/
noncomputable abbrev rangeO3 (a b c : Int) : AObj := .pred (fun o => ∃ t u v, o = { cls := .type "range", dict := none, data := .fields #[.int a t, .int b u, .int c v], slots := #[] })
noncomputable def irange3 (a c : Int) (n : Nat) : List V := (List.range n).map fun i : Nat => .int (a + c * i)
end
end Mine

namespace Mine
open PySem PySem.W PySem.Calls PyProof.Rows PySem.SeqAt

section
variable {P : Par} {d : Nat} {env : Env} {σ : Loc} {μ : Led} {A : Around} {β : Fz} {s : Shared}

theorem asOk.attrF {o : Expr} {name : Str} {pos} {v : V} {Q : Loc → Led → Prop} (h : evOk P d env σ μ o fun ov μ1 => satOk P d μ1 ov name v fun μ2 => Q σ μ2) : asOk P d env σ μ (.Attribute o name pos) v Q := fun A s β y hR hI ry => by
  rw [arm_assign_Attribute]
  refine wpL.bind (wpL.holding ((h A s β hR hI).mono fun o' β1 h1 le1 hX0 s1 e1 => ?_))
  refine away fun G hG => ?_
  obtain ⟨ov, μ1, I1, ro, q1⟩ := hX0
  refine hG ?_
  clear hG G
  refine wpL.standAt_bind (wpL.bind (wpL.holding ((q1.loc hR (e1 ▸ I1) ⟨o', y, ro, ry.mono le1, rfl⟩).mono fun _ β3 h3 le3 hX1 s3 e3 => ?_)))
  refine away fun G hG => ?_
  obtain ⟨_, μ3, I3, _, q3⟩ := hX1
  refine hG ?_
  clear hG G
  exact wpL.release ⟨σ, μ3, e3 ▸ I3, q3⟩

/-! deep values -/
inductive DV where
  | none | bool (b : Bool) | int (i : Int) | str (s : List Nat) | list (ds : List DV) | tup (ds : List DV)
noncomputable def Deep (μ : Led) : Nat → DV → V → Prop
  | _, .none, v => v = .none
  | _, .bool b, v => v = .bool b
  | _, .int i, v => v = .int i
  | _, .str s, v => v = .str s
  | n + 1, .list ds, v => ∃ l xs, v = R l ∧ (l, AObj.list xs) ∈ μ ∧ ds.length = xs.length ∧ ∀ (i : Nat) (h1 : i < ds.length) (h2 : i < xs.length), Deep μ n ds[i] xs[i]
  | n + 1, .tup ds, v => ∃ xs, v = .tup xs ∧ ds.length = xs.length ∧ ∀ (i : Nat) (h1 : i < ds.length) (h2 : i < xs.length), Deep μ n ds[i] xs[i]
  | 0, .list _, _ => False
  | 0, .tup _, _ => False
theorem Deep.mono {μ μ' : Led} (hs : ∀ p ∈ μ, p ∈ μ') : ∀ {n d v}, Deep μ n d v → Deep μ' n d v
  | 0, .none, _, h => h
  | 0, .bool _, _, h => h
  | 0, .int _, _, h => h
  | 0, .str _, _, h => h
  | n + 1, .none, _, h => h
  | n + 1, .bool _, _, h => h
  | n + 1, .int _, _, h => h
  | n + 1, .str _, _, h => h
  | n + 1, .list ds, v, ⟨l, xs, e, m, hl, h⟩ => ⟨l, xs, e, hs _ m, hl, fun i h1 h2 => Deep.mono hs (h i h1 h2)⟩
  | n + 1, .tup ds, v, ⟨xs, e, hl, h⟩ => ⟨xs, e, hl, fun i h1 h2 => Deep.mono hs (h i h1 h2)⟩
theorem VsRel.at {β : Fz} {vs : List V} {xs : List Value} (h : VsRel β vs xs) {i : Nat} (h1 : i < vs.length) (h2 : i < xs.length) : VRel β vs[i] xs[i] := by
  refine away fun G hG => ?_
  obtain ⟨x, hx, r⟩ := h.get (List.getElem?_eq_getElem h1)
  refine hG ?_
  clear hG G
  rw [List.getElem?_eq_getElem h2] at hx
  cases hx; exact r
theorem Deep.eq {s : Shared} (I : Inv P β μ s.heap) : ∀ {n : Nat} {D : DV} {v w : V} {x y : Value} {A : Around}, Deep μ n D v → Deep μ n D w → VRel β v x → VRel β w y → A.units + n < cLine → EqAt A s x y true := by
  have base : ∀ {D : DV} {v w : V} {x y : Value} {A : Around} {n : Nat}, (match D with | .list _ => False | .tup _ => False | _ => True) → Deep μ n D v → Deep μ n D w → VRel β v x → VRel β w y → EqAt A s x y true := fun {D v w x y A n} hD h1 h2 r q => by
    cases D with
    | list => exact hD.elim
    | tup => exact hD.elim
    | none =>
      have e1 : v = .none := by cases n <;> exact h1
      have e2 : w = .none := by cases n <;> exact h2
      subst e1; subst e2
      exact (valEq_of (β := β) rfl r q).2 _ _
    | bool b =>
      have e1 : v = .bool b := by cases n <;> exact h1
      have e2 : w = .bool b := by cases n <;> exact h2
      subst e1; subst e2
      exact (valEq_of (β := β) (show eqV (.bool b) (.bool b) = some true from congrArg some (beq_self_eq_true b)) r q).2 _ _
    | int b =>
      have e1 : v = .int b := by cases n <;> exact h1
      have e2 : w = .int b := by cases n <;> exact h2
      subst e1; subst e2
      exact (valEq_of (β := β) (show eqV (.int b) (.int b) = some true from congrArg some (beq_self_eq_true b)) r q).2 _ _
    | str b =>
      have e1 : v = .str b := by cases n <;> exact h1
      have e2 : w = .str b := by cases n <;> exact h2
      subst e1; subst e2
      exact (valEq_of (β := β) (show eqV (.str b) (.str b) = some true from congrArg some (beq_self_eq_true b)) r q).2 _ _
  intro n
  induction n with
  | zero =>
    intro D v w x y A h1 h2 r q hu
    cases D with
    | list => exact h1.elim
    | tup => exact h1.elim
    | _ => exact base trivial h1 h2 r q
  | succ n ih =>
    intro D v w x y A h1 h2 r q hu
    cases D with
    | list ds =>
      refine away fun G hG => ?_
      obtain ⟨l, xs, eY1, m1, hl1, g1⟩ := h1
      refine hG ?_
      clear hG G
      subst eY1
      refine away fun G hG => ?_
      obtain ⟨b, ys, eY1, m2, hl2, g2⟩ := h2
      refine hG ?_
      clear hG G
      subst eY1
      cases r; cases q
      by_cases hlb : l = b
      · subst hlb; exact EqAt.same _
      refine away fun G hG => ?_
      obtain ⟨its, a1, r1, es1⟩ := list_ext_get I m1
      refine hG ?_
      clear hG G
      refine away fun G hG => ?_
      obtain ⟨its2, a2, r2, es2⟩ := list_ext_get I m2
      refine hG ?_
      clear hG G
      refine EqAt.of_refs hlb ?_
      have := RcAt.lists (A := A) (e := fun _ => true) a1 a2 (by lia) (by lia) fun j j1 j2 => by
        have k1 := r1.at (i := j) (by lia) (by simpa using j1)
        have k2 := r2.at (i := j) (by lia) (by simpa using j2)
        simp only [Array.getElem_toList] at k1 k2
        exact ih (g1 j (by lia) (by lia)) (g2 j (by lia) (by lia)) k1 k2 (by show A.units + 1 + n < cLine; lia)
      have e : (List.range its.size).all (fun _ => true) = true := by simp
      rwa [e] at this
    | tup ds =>
      refine away fun G hG => ?_
      obtain ⟨xs, eY1, hl1, g1⟩ := h1
      refine hG ?_
      clear hG G
      subst eY1
      refine away fun G hG => ?_
      obtain ⟨ys, eY1, hl2, g2⟩ := h2
      refine hG ?_
      clear hG G
      subst eY1
      cases r with | tup e1 r1 =>
      rename_i a its n1
      cases q with | tup e2 r2 =>
      rename_i b its2 n2
      by_cases hlb : a = b
      · subst hlb; exact EqAt.same _
      have es1 := r1.length
      have es2 := r2.length
      simp only [Array.length_toList] at es1 es2
      refine EqAt.of_refs hlb ?_
      have := RcAt.tuples (A := A) (s := s) (e := fun _ => true) (items := its) (items2 := its2) ⟨_, I.froz _ _ e1, rfl, n1, rfl⟩ ⟨_, I.froz _ _ e2, rfl, n2, rfl⟩ (by lia) fun j j1 j2 => by
        have k1 := r1.at (i := j) (by lia) (by simpa using j1)
        have k2 := r2.at (i := j) (by lia) (by simpa using j2)
        simp only [Array.getElem_toList] at k1 k2
        exact ih (g1 j (by lia) (by lia)) (g2 j (by lia) (by lia)) k1 k2 (by show A.units + 1 + n < cLine; lia)
      have e : ((List.range (min its.size its2.size)).all (fun _ => true) && its.size == its2.size) = true := by simp; lia
      rwa [e] at this
    | _ => exact base trivial h1 h2 r q
theorem cmp_eqDeepT {ds : List DV} {n : Nat} {vs ws : List V} {Q : V → Led → Prop} (hn : n ≤ 30) (h1 : Deep μ (n + 1) (.tup ds) (.tup vs)) (h2 : Deep μ (n + 1) (.tup ds) (.tup ws)) (h : Q (.bool true) μ) : cmpOk P d μ .Eq (.tup vs) (.tup ws) Q := by
  rintro ν A s β t hR hI hY0
  refine away fun G hG => ?_
  obtain ⟨a', b', ra, rb, eY1⟩ := hY0
  refine hG ?_
  clear hG G
  subst eY1
  have hu : A.units + n + 1 < cLine := by have := hR.units; show A.units + n + 1 < 9900; lia
  refine away fun G hG => ?_
  obtain ⟨xs, e1, hl1, g1⟩ := h1
  refine hG ?_
  clear hG G
  refine away fun G hG => ?_
  obtain ⟨ys, e2, hl2, g2⟩ := h2
  refine hG ?_
  clear hG G
  cases e1; cases e2
  cases ra with | tup e1 r1 =>
  rename_i a its n1
  cases rb with | tup e2 r2 =>
  rename_i b its2 n2
  have sub : ∀ p ∈ μ, p ∈ μ ++ ν := fun p hp => List.mem_append_left _ hp
  have es1 := r1.length
  have es2 := r2.length
  simp only [Array.length_toList] at es1 es2
  have e : ((List.range (min its.size its2.size)).all (fun _ => true) && its.size == its2.size) = true := by simp; lia
  refine eq_tupleAt (e := fun _ => true) (items := its) (items2 := its2) ⟨_, hI.froz _ _ e1, rfl, n1, rfl⟩ ⟨_, hI.froz _ _ e2, rfl, n2, rfl⟩ (by lia) (fun j j1 j2 => ?_) ⟨.rfl, β, .rfl, _, μ, hI, by rw [e]; exact .bool _, h⟩
  have k1 := r1.at (i := j) (by lia) (by simpa using j1)
  have k2 := r2.at (i := j) (by lia) (by simpa using j2)
  simp only [Array.getElem_toList] at k1 k2
  exact Deep.eq hI ((g1 j (by lia) (by lia)).mono sub) ((g2 j (by lia) (by lia)).mono sub) k1 k2 (by show A.units + 1 + n < cLine; lia)
end
end Mine

namespace Mine
open PySem PySem.W PySem.Calls PyProof.Rows PySem.SeqAt

section
variable {P : Par} {d : Nat} {env : Env} {σ : Loc} {μ : Led} {A : Around} {β : Fz} {s : Shared}
theorem exsOk.weak {μ2 sts} {Q : Fl → Loc → Led → Prop} (sb : μ2.Sublist μ) (h : exsOk P d env σ μ2 sts Q) : exsOk P d env σ μ sts Q := fun A s β hR hI => h A s β hR (hI.forget (sb.cons_cons _))
theorem in_add {a b : Int} {Q : V → Led → Prop} (h : Q (.int (a + b)) μ) : inOk P d μ .Add (.int a) (.int b) Q := by
  rintro ν A s β t hR hI hY0
  refine away fun G hG => ?_
  obtain ⟨a', b', ra, rb, eY1⟩ := hY0
  refine hG ?_
  clear hG G
  subst eY1
  cases ra; cases rb
  exact PyProof.Rows.iadd_int ⟨.mk', β, .rfl, _, μ, hI, .int .., h⟩
end
end Mine

namespace Mine
open PySem PySem.W PySem.Calls PyProof.Rows PySem.SeqAt

section
variable {P : Par} {d : Nat} {env : Env} {σ : Loc} {μ : Led} {A : Around} {β : Fz} {s : Shared}
noncomputable def DeepL (μ : Led) (n : Nat) : List DV → List V → Prop
  | [], [] => True
  | d :: ds, x :: xs => Deep μ n d x ∧ DeepL μ n ds xs
  | _, _ => False
theorem DeepL.nil {n : Nat} : DeepL μ n [] [] := trivial
theorem DeepL.cons {n : Nat} {d x ds xs} (a : Deep μ n d x) (b : DeepL μ n ds xs) : DeepL μ n (d :: ds) (x :: xs) := ⟨a, b⟩
theorem DeepL.idx {n : Nat} : ∀ {ds : List DV} {xs : List V}, DeepL μ n ds xs → ds.length = xs.length ∧ ∀ (i : Nat) (h1 : i < ds.length) (h2 : i < xs.length), Deep μ n ds[i] xs[i]
  | [], [], _ => ⟨rfl, fun i h1 => absurd h1 (Nat.not_lt_zero _)⟩
  | d :: ds, x :: xs, ⟨a, b⟩ => by
    refine away fun G hG => ?_
    obtain ⟨i1, i2⟩ := DeepL.idx b
    refine hG ?_
    clear hG G
    refine ⟨by simp [i1], fun i h1 h2 => ?_⟩
    cases i with
    | zero => exact a
    | succ i => exact i2 i (by simpa using h1) (by simpa using h2)
  | [], _ :: _, h => h.elim
  | _ :: _, [], h => h.elim
theorem DeepL.snoc {n : Nat} {e : DV} {y : V} : ∀ {ds : List DV} {xs : List V}, DeepL μ n ds xs → Deep μ n e y → DeepL μ n (ds ++ [e]) (xs ++ [y])
  | [], [], _, h => ⟨h, trivial⟩
  | d :: ds, x :: xs, ⟨a, b⟩, h => ⟨a, DeepL.snoc b h⟩
  | [], _ :: _, h, _ => h.elim
  | _ :: _, [], h, _ => h.elim
theorem DeepL.mono {μ' : Led} (hs : ∀ p ∈ μ, p ∈ μ') {n : Nat} : ∀ {ds : List DV} {xs : List V}, DeepL μ n ds xs → DeepL μ' n ds xs
  | [], [], _ => trivial
  | d :: ds, x :: xs, ⟨a, b⟩ => ⟨a.mono hs, DeepL.mono hs b⟩
  | [], _ :: _, h => h.elim
  | _ :: _, [], h => h.elim
theorem Deep.mkList {n : Nat} {ds : List DV} {xs : List V} {l : Addr} (hm : (l, AObj.list xs) ∈ μ) (h : DeepL μ n ds xs) : Deep μ (n + 1) (.list ds) (R l) := by
  refine away fun G hG => ?_
  obtain ⟨h1, h2⟩ := h.idx
  refine hG ?_
  clear hG G
  exact ⟨l, xs, rfl, hm, h1, h2⟩
theorem Deep.mkTup {n : Nat} {ds : List DV} {xs : List V} (h : DeepL μ n ds xs) : Deep μ (n + 1) (.tup ds) (.tup xs) := by
  refine away fun G hG => ?_
  obtain ⟨h1, h2⟩ := h.idx
  refine hG ?_
  clear hG G
  exact ⟨xs, rfl, h1, h2⟩
theorem Deep.mkInt {n : Nat} {i : Int} : Deep μ n (.int i) (.int i) := by cases n <;> rfl
theorem Deep.mkStr {n : Nat} {i : List Nat} : Deep μ n (.str i) (.str i) := by cases n <;> rfl
theorem DeepL.strs {n : Nat} : ∀ {l : List (List Nat)}, DeepL μ n (l.map .str) (l.map .str)
  | [] => trivial
  | _ :: _ => ⟨.mkStr, DeepL.strs⟩
end
end Mine

namespace Mine
open PySem PySem.W PySem.Calls PyProof.Rows PySem.SeqAt

section
variable {P : Par} {d : Nat} {env : Env} {σ : Loc} {μ : Led} {A : Around} {β : Fz} {s : Shared}
theorem evOk.sliceF {value : Expr} {lower upper : Option Expr} {p pos} {Q : V → Led → Prop} (ht : ∀ o r, letTemporaryGo value o r = pure ())
    (h : evOk P d env σ μ value fun o μ1 => optOk P d env σ μ1 lower fun lo μ2 => optOk P d env σ μ2 upper fun hi μ3 => ∃ l vs, ∃ ns : List Int, o = R l ∧ P.h₀.IsList l vs ∧ IntsAre vs.toList ns ∧ ns.length ≤ sizeLine ∧ ∀ l', Q (R l') ((l', .list ((pySlice ns lo hi).map V.int)) :: μ3)) : evOk P d env σ μ (.Subscript value (.Slice lower upper none p) pos) Q := fun A s β hR hI => by
  refine wpAny_Subscript_list_slice (wpAny_mono (h A s β hR hI) (fun o' s1 hX0 => ?_) fun _ _ x => x) ht
  refine away fun G hG => ?_
  obtain ⟨st1, β1, le1, o, μ1, I1, ro, q1⟩ := hX0
  refine hG ?_
  clear hG G
  refine wpAny_mono (q1 A s1 β1 hR I1) (fun lo' s2 hX1 => ?_) fun _ _ x => x
  refine away fun G hG => ?_
  obtain ⟨st2, β2, le2, lo, μ2, I2, rl, q2⟩ := hX1
  refine hG ?_
  clear hG G
  refine wpAny_mono (q2 A s2 β2 hR I2) (fun hi' s3 hX2 => ?_) fun _ _ x => x
  refine away fun G hG => ?_
  obtain ⟨st3, β3, le3, hi, μ3, I3, rh, l, its, ns, eo, hl, hints, hsz, q3⟩ := hX2
  refine hG ?_
  clear hG G
  subst eo
  cases ro
  refine away fun G hG => ?_
  obtain ⟨o, e, hc, n, hd⟩ := hl
  refine hG ?_
  clear hG G
  have r : VsRel β3 (ns.map V.int) its.toList := ints_rel hints
  have es : its.size = (ns.map V.int).length := by have := r.length; simpa using this
  have es' : its.size = ns.length := by rw [es, List.length_map]
  refine ⟨l, its, lo, hi, rfl, ⟨o, I3.keep _ _ e, hc, n, hd⟩, by lia, rl, rh, st1.trans (st2.trans (st3.trans ⟨rfl, rfl, rfl⟩)), β3, le1.trans (le2.trans le3), _, _, ?_, .raw _, q3 _⟩
  have I4 := I3.ext (push_keeps { cls := .type "slice", data := .fields #[lo', hi', .none] })
  have I5 := I4.new (push_keeps { cls := .type "list", data := .seq (slicePick its lo hi none) }) get_size_none (x := .list ((pySlice ns lo hi).map V.int)) ⟨_, Heap.get?_push_size _ rfl, _, _, rfl, ?_⟩
  · rw [Heap.size_push] at I5
    exact I5.perm (List.Perm.swap ..)
  · rw [slicePick_plain]
    have e9 : (pySlice ns lo hi).map V.int = ((ns.map V.int).drop (clip0 ns.length lo)).take (clipN ns.length hi - clip0 ns.length lo) := by
      unfold pySlice; rw [List.map_take, List.map_drop]
    rw [e9]
    show VsRel β3 _ ((its.toList.drop _).take _)
    unfold clip0 clipN
    rw [es']
    exact (r.drop _).take _
end
end Mine

namespace Mine
open PySem PySem.W PySem.Calls PyProof.Rows PySem.SeqAt

section
variable {P : Par} {d : Nat} {env : Env} {σ : Loc} {μ : Led} {A : Around} {β : Fz} {s : Shared}
theorem set_core {x C dd : Addr} {σd : Loc} {μ2 : Led} {name : Str} {v : V} {y : Value} (hI : Inv P β ((env.locals, .ns σ) :: μ) s.heap) (ry : VRel β v y) (hx : (x, AObj.inst C dd) ∈ μ) (hU : UpdL dd (.dict (putD name v σd)) (.dict σd) μ μ2) (hlen : σd.length < 900)
    (hs : findIn P.K (.ref C) "__setattr__" = some (some (.builtin "object.__setattr__"))) (hp : plainOver P.K C = true) (ht : takerIn P.K C name = some none) (hh : hasDictIn P.K C = true) :
    wpL P A β (setAttr (.ref x) name y) (fun _ β' h' => Inv P β' ((env.locals, .ns σ) :: μ2) h') s := by
  refine away fun G hG => ?_
  obtain ⟨es, n, Ia, r, hdd⟩ := instLook (μ := μ) (ν := [(env.locals, .ns σ)]) (hI.perm (List.perm_append_comm (l₁ := [_]) (l₂ := μ))) hx hU.mem
  refine hG ?_
  clear hG G
  refine away fun G hG => ?_
  obtain ⟨oL, hoL, esL, epL, hdL, hkL, hndL, hvL⟩ := hI.led _ (.head _)
  refine hG ?_
  clear hG G
  have hLd : dd ≠ env.locals := fun q => by
    have nd := hI.nd
    simp only [List.map_cons, List.nodup_cons] at nd
    exact nd.1 (q ▸ List.mem_map_of_mem hU.mem)
  refine away fun G hG => ?_
  obtain ⟨w, ew, _⟩ := r.look (n := name)
  refine hG ?_
  clear hG G
  have F : Fr (emptyHeap s.heap) env.locals s.heap (nsFind esL) := ⟨⟨oL, esL, epL, hoL, hdL, hkL, fun _ => rfl⟩, (fun b o e => by rw [emptyHeap_none] at e; cases e), Nat.zero_le _⟩
  have N : News (emptyHeap s.heap) env.locals s.heap (others s.heap env.locals dd ++ (dd, dictOf es n) :: []) := fun p hp => by
    rcases List.mem_append.mp hp with hp | hp
    · refine away fun G hG => ?_
      obtain ⟨a, o⟩ := p
      refine hG ?_
      clear hG G
      refine away fun G hG => ?_
      obtain ⟨e1, e2, e3⟩ := mem_others.mp hp
      refine hG ?_
      clear hG G
      exact ⟨e3, e1, emptyHeap_none⟩
    · rw [List.mem_singleton.mp hp]
      exact ⟨hdd, hLd, emptyHeap_none⟩
  refine set_plain hI.inK Ia hs ?_
  refine osa_dict (s := { s with toks := s.toks + 1 }) F N hI.inK Ia rfl hp ht hh (by rw [lookIn_dict, ew]; rfl) (fun p hp => (mem_others.mp hp).2.1) (by simp) (putName_dict name _ _ _ es n) rfl ?_ fun h' F' N' => ?_
  · have := (r.put (n := name) (v := v) (hsh := PyData.keyHash P.w.params name) (t := s.toks + 1) ry).length
    rw [this]
    have := putD_len (n := name) (v := v) (σ := σd)
    omega
  · have hk : ∀ b o, b ≠ env.locals → b ≠ dd → s.heap.get? b = some o → h'.get? b = some o := fun b o n1 n2 e => (N' (b, o) (List.mem_append_left _ (mem_others.mpr ⟨n1, n2, e⟩))).1
    have hdd' := (N' _ (List.mem_append_right _ (List.mem_singleton.mpr rfl))).1
    have I2 : Inv P β ((env.locals, .ns σ) :: μ2) h' := by
      refine hI.change (by simp [hU.keys]) (fun p hp => ?_) fun b o hb e => hk b o (fun q => hb (q ▸ .head _)) (fun q => hb (q ▸ .tail _ (List.mem_map_of_mem (f := Prod.fst) hU.mem))) e
      rcases List.mem_cons.mp hp with rfl | hp
      · refine away fun G hG => ?_
        obtain ⟨o', es', ep', ho', hd', hk', hf'⟩ := F'.ns
        refine hG ?_
        clear hG G
        exact ⟨o', ho', es', ep', hd', hk', hndL, fun p hp => by rw [hf']; exact hvL p hp⟩
      · have nd := hI.nd
        simp only [List.map_cons, List.nodup_cons] at nd
        rcases hU.spec nd.2 p hp with rfl | ⟨hp, hne⟩
        · exact ⟨_, hdd', _, _, rfl, r.put ry⟩
        · refine away fun G hG => ?_
          obtain ⟨o, e, ro⟩ := hI.led p (.tail _ hp)
          refine hG ?_
          clear hG G
          exact ⟨o, hk _ _ (fun q => nd.1 (q ▸ List.mem_map_of_mem hp)) hne e, ro⟩
    exact ⟨⟨rfl, rfl, rfl⟩, β, .rfl, I2⟩
theorem exOk.augAttr {o : Expr} {name : Str} {tpos op value pos} {Q : Fl → Loc → Led → Prop}
    (h : evOk P d env σ μ o fun ov μ1 => getOk P d μ1 ov name fun old μ2 => evOk P d env σ μ2 value fun w μ3 => inOk P d μ3 op old w fun r μ4 => ∃ x C dd σd μ5, ov = R x ∧ (x, AObj.inst C dd) ∈ μ4 ∧ UpdL dd (.dict (putD name r σd)) (.dict σd) μ4 μ5 ∧ σd.length < 900 ∧
      findIn P.K (.ref C) "__setattr__" = some (some (.builtin "object.__setattr__")) ∧ plainOver P.K C = true ∧ takerIn P.K C name = some none ∧ hasDictIn P.K C = true ∧ Q .next σ μ5) :
    exOk P d env σ μ (.AugAssign (.Attribute o name tpos) op value pos) Q := fun A s β hR hI => by
  rw [arm_exec_AugAssign_2]
  refine wpL.standAt_bind (wpL.bind ((h A s β hR hI).mono fun o' β1 h1 le1 hX0 s1 e1 => ?_))
  refine away fun G hG => ?_
  obtain ⟨ov, μ1, I1, ro, q1⟩ := hX0
  refine hG ?_
  clear hG G
  subst e1
  refine wpL.bind (wpL.holding (wpL.standAt_bind (wpL.bind ((q1.loc hR I1 ⟨o', ro, rfl⟩).mono fun old' β2 h2 le2 hX1 s2 e2 => ?_))))
  refine away fun G hG => ?_
  obtain ⟨old, μ2, I2, rold, q2⟩ := hX1
  refine hG ?_
  clear hG G
  subst e2
  refine wpL.bind (wpL.holding ((q2 A s2 β2 hR I2).mono fun w' β3 h3 le3 hX2 s3 e3 => ?_))
  refine away fun G hG => ?_
  obtain ⟨w, μ3, I3, rw', q3⟩ := hX2
  refine hG ?_
  clear hG G
  subst e3
  refine wpL.standAt_bind (wpL.operate ((q3.loc hR I3 ⟨old', w', rold.mono le3, rw', rfl⟩).mono fun r' β4 h4 le4 hX3 s4 e4 => ?_))
  refine away fun G hG => ?_
  obtain ⟨r, μ4, I4, rr, x, C, dd, σd, μ5, eo, hx, hU, hlen, hs, hp, ht, hh, q⟩ := hX3
  refine hG ?_
  clear hG G
  subst e4; subst eo
  cases ro
  refine wpL.standAt_bind (wpL.bind (wpL.holding ((set_core (env := env) I4 rr hx hU hlen hs hp ht hh).mono fun _ β5 h5 le5 I5 s5 e5 => ?_)))
  subst e5
  refine wpL.bind (wpL.release fun s6 e6 => ?_)
  exact wpL.pure ⟨.next, σ, μ5, e6 ▸ I5, .next, q⟩

theorem callOk.tail {fr tl : Led} {f args kw} {Q : V → Led → Prop} (h : callOk P d tl f args kw fun c μ1 => Q c (fr ++ μ1)) : callOk P d (fr ++ tl) f args kw Q := fun ν A s β t hR hI ht => by
  refine wpAny_mono (h (fr ++ ν) A s β t hR (hI.perm ?_) ht) (fun a s' ⟨st, β', le, c, μ1, I1, r, q⟩ => ⟨st, β', le, c, fr ++ μ1, I1.perm ?_, r, q⟩) fun _ _ x => x
  · rw [← List.append_assoc]; exact (List.perm_append_comm (l₁ := fr) (l₂ := tl)).append_right ν
  · rw [← List.append_assoc]; exact (List.perm_append_comm (l₁ := μ1) (l₂ := fr)).append_right ν
theorem fnOk.tail {fr tl : Led} {f args kw} {Q : V → Led → Prop} (h : fnOk P d tl f args kw fun c μ1 => Q c (fr ++ μ1)) : fnOk P d (fr ++ tl) f args kw Q := fun ν A s β f' xs ks hR hI rf rx rk => by
  refine codeAny_mono (h (fr ++ ν) A s β f' xs ks hR (hI.perm ?_) rf rx rk) fun r s' hr => ?_
  · rw [← List.append_assoc]; exact (List.perm_append_comm (l₁ := fr) (l₂ := tl)).append_right ν
  · rcases r with e | fl
    · exact hr.elim
    rcases fl with v | _ | _ | _
    all_goals first | exact hr.elim | skip
    refine away fun G hG => ?_
    obtain ⟨st, β', le, c, μ1, I1, rv, q⟩ := hr
    refine hG ?_
    clear hG G
    refine ⟨st, β', le, c, fr ++ μ1, I1.perm ?_, rv, q⟩
    rw [← List.append_assoc]; exact (List.perm_append_comm (l₁ := μ1) (l₂ := fr)).append_right ν
end
end Mine

namespace Mine
open PySem PySem.W PySem.Calls PyProof.Rows PySem.SeqAt

section
variable {P : Par} {d : Nat} {env : Env} {σ : Loc} {μ : Led} {A : Around} {β : Fz} {s : Shared}
noncomputable def BindG (P : Par) (μ : Led) (fd : FuncData) (args : List V) (kw : List (Str × V)) (binds : Addr → List (Str × V)) (μb : Addr → Led) : Prop :=
  ∀ β ν s xs ks, Inv P β (μ ++ ν) s.heap → VsRel β args xs → KwRel β kw ks → ∃ a b' s2, a ≠ sysModules ∧ (∀ (M : Model) (A : Around) (E : Value → Shared → Prop) (Q : List (Str × Value) → Shared → Prop), Q b' s2 → wpAny M A (bindArgs fd ⟨xs, ks⟩) Q E s) ∧ St s s2 ∧ Inv P β (μb a ++ ν) s2.heap ∧ KwRel β (binds a) b'
theorem fnOk.bodyK {a : Addr} {name qual : Str} {params : Arguments} {body : List Stmt} {sc : Scope} {dV kV doc pm : Value} {an : Option Addr} {cdv ct : Value} {args : List V} {kw : List (Str × V)} {binds : Addr → List (Str × V)} {μb : Addr → Led} {σ₀ : Addr → Loc} {Q : V → Led → Prop}
    (cs : (Nat → Addr) → List (Str × Addr)) (μc : (Nat → Addr) → Led)
    (hf : FnAt' P μ a (fnX name qual params body sc [] dV kV doc pm an cdv ct)) (hb : BindG P μ (fnX name qual params body sc [] dV kV doc pm an cdv ct) args kw binds μb)
    (hcs : ∀ f, cellsBy f 0 sc.names [] = cs f) (hμc : ∀ q f, (cs f).map (fun p => (p.2, AObj.cell (aC (fun x => sc.names.lookup x) (binds q) (fun _ => none) p.1))) = μc f)
    (hnd : ∀ f, ((cs f).map (·.1)).Nodup)
    (hkind : ∀ q, ((binds q).all fun y => sc.names.lookup y.1 == some .local || sc.names.lookup y.1 == some .cell) = true) (hL : ∀ q, LocOkC sc (binds q) (σ₀ q))
    (hco : sc.isCoroutine = false) (hgen : sc.isGenerator = false) (hk : sc.kind = .function)
    (h : ∀ q L f, q ≠ sysModules → exsOk P d (envX qual sc L a cdv (cs f)) (σ₀ q) (μc f ++ μb q) body fun fl _ μ' => ∃ μ2, μ2.Sublist μ' ∧ Q (retV fl) μ2) : fnOk P (d + 1) μ (.raw (.ref a)) args kw Q := by
  intro ν A s β f' xs ks hR hI rf rx rk
  cases rf
  refine away fun G hG => ?_
  obtain ⟨o, ho, hd, hcd⟩ := hf β ν _ hI
  refine hG ?_
  clear hG G
  refine away fun G hG => ?_
  obtain ⟨q0, b', s0, hq0, hb', st0, hI0, rb⟩ := hb β ν s xs ks hI rx rk
  refine hG ?_
  clear hG G
  have hroom : A.depth < recursionLimit := by have := hR.depth; show A.depth < 1000; omega
  refine codeAny_call_function (body := body) hroom ho hd hco hgen rfl hcd (hb' _ _ _ _ ?_)
  have hkind' : ∀ x ∈ b', sc.names.lookup x.1 = some .local ∨ (sc.names.lookup x.1 = some .cell ∧ ((cellsFrom (s0.heap.objs.size + 1) sc.names []).lookup x.1).isSome = true) := fun x hx => by
    have h1 : x.1 ∈ (binds q0).map (·.1) := rb.1 ▸ List.mem_map_of_mem hx
    refine away fun G hG => ?_
    obtain ⟨y, hy, e⟩ := List.mem_map.mp h1
    refine hG ?_
    clear hG G
    rw [← e]
    have e5 := List.all_eq_true.mp (hkind q0) y hy
    rcases Bool.or_eq_true_iff.mp e5 with q | q
    · exact .inl (by simpa using q)
    · have q' : sc.names.lookup y.1 = some .cell := by simpa using q
      exact .inr ⟨q', cellsFrom_some _ _ _ (.inl q')⟩
  refine wpAny_newFunctionEnv_cells hk hkind' fun env he s' X => ?_
  have hcs' : cellsFrom (s0.heap.objs.size + 1) sc.names [] = cs (fun i => s0.heap.objs.size + 1 + i) := by
    rw [← hcs]; exact cellsBy_from _ _ 0 _
  have he2 : env = envX qual sc s0.heap.objs.size a cdv (cs (fun i => s0.heap.objs.size + 1 + i)) := by rw [he, ← hcs']; rfl
  clear he
  subst he2
  refine away fun G hG => ?_
  obtain ⟨h', tk, e1, hkeep⟩ := X.done
  refine hG ?_
  clear hG G
  have hlim : s'.heap.NoLimit := (P.nolimit.keeps hI0.keep).keeps X.toInCall.keep
  refine ⟨hlim, codeAny_func ?_⟩
  have hR' : Room (A.deeper (envX qual sc s0.heap.objs.size a cdv (cs (fun i => s0.heap.objs.size + 1 + i)))) d := ⟨by have := hR.depth; show A.depth + 1 + 2 * d < 1000; omega, by have := hR.units; show A.units + 3 + 8 * d + 40 < 9900; omega, hR.handled⟩
  refine away fun G hG => ?_
  obtain ⟨oL, es, ep, hoL, hdL, hkL, hfL⟩ := X.toInCall.ns
  refine hG ?_
  clear hG G
  have I0 : Inv P β ((μc (fun i => s0.heap.objs.size + 1 + i)) ++ (μb q0 ++ ν)) s'.heap := by
    refine hI0.newMany X.toInCall.keep (fun p hp => ?_) ?_ fun p hp => ?_
    · rw [← hμc q0] at hp
      refine away fun G hG => ?_
      obtain ⟨q, hq, eY1⟩ := List.mem_map.mp hp
      refine hG ?_
      clear hG G
      subst eY1
      have := X.above q.1 q.2 hq
      exact Heap.get?_none_of_le (Nat.le_of_lt this)
    · rw [← hμc q0, List.map_map]
      have := X.apart
      exact (List.pairwise_map.mpr (this.imp fun h => h))
    · rw [← hμc q0] at hp
      refine away fun G hG => ?_
      obtain ⟨q, hq, eY1⟩ := List.mem_map.mp hp
      refine hG ?_
      clear hG G
      subst eY1
      have hlk : (cs (fun i => s0.heap.objs.size + 1 + i)).lookup q.1 = some q.2 := by
        have nd := hnd (fun i => s0.heap.objs.size + 1 + i)
        revert hq nd
        generalize cs (fun i => s0.heap.objs.size + 1 + i) = l
        intro hq nd
        induction l with
        | nil => cases hq
        | cons b l ih =>
          refine away fun G hG => ?_
          obtain ⟨n, c⟩ := b
          refine hG ?_
          clear hG G
          rw [List.lookup_cons]
          simp only [List.map_cons, List.nodup_cons] at nd
          rcases List.mem_cons.mp hq with rfl | hq
          · simp
          · have hne : (q.1 == n) = false := by
              rw [beq_eq_false_iff_ne]; intro e; exact nd.1 (e ▸ List.mem_map_of_mem hq)
            rw [hne]; exact ih hq nd.2
      refine away fun G hG => ?_
      obtain ⟨oc, hoc, hdc⟩ := X.cell q.1 q.2 hlk
      refine hG ?_
      clear hG G
      exact ⟨oc, hoc, _, hdc, aC_rel (m := fun _ => none) (m' := fun _ => none) rb (fun _ => (trivial : OptRel β none none)) q.1⟩
  have I1 : Inv P β ((s0.heap.objs.size, .ns (σ₀ q0)) :: ((μc (fun i => s0.heap.objs.size + 1 + i)) ++ (μb q0 ++ ν))) s'.heap := by
    have hLnone : s0.heap.get? s0.heap.objs.size = none := get_size_none
    refine away fun G hG => ?_
    obtain ⟨n1, n2, n3⟩ := hI0.size_none hLnone
    refine hG ?_
    clear hG G
    refine ⟨I0.base, I0.froz, fun p hp => ?_, fun p hp => ?_, ?_, fun q hq => ⟨(I0.tab q hq).1, (I0.tab q hq).2.1, fun m => ?_⟩⟩
    · rcases List.mem_cons.mp hp with rfl | hp
      · refine ⟨oL, hoL, es, ep, hdL, hkL, (hL q0).nd, fun p hp => ?_⟩
        rw [hfL]
        have e : p.2 = aL (fun x => sc.names.lookup x) (binds q0) (fun _ => none) p.1 := List.map_inj_left.mp (hL q0).val p hp
        rw [e]
        exact aL_rel (m := fun _ => none) (m' := fun _ => none) rb (fun _ => (trivial : OptRel β none none)) p.1
      · exact I0.led p hp
    · rcases List.mem_cons.mp hp with rfl | hp
      · exact n1
      · exact I0.sep p hp
    · rw [List.map_cons, List.nodup_cons]
      refine ⟨fun m => ?_, I0.nd⟩
      rw [List.map_append, List.mem_append] at m
      rcases m with m | m
      · rw [← hμc q0, List.map_map] at m
        refine away fun G hG => ?_
        obtain ⟨q, hq, e⟩ := List.mem_map.mp m
        refine hG ?_
        clear hG G
        have := X.above q.1 q.2 hq
        have e' : q.2 = s0.heap.objs.size := e
        have e3 : (envX qual sc s0.heap.objs.size a cdv (cs (fun i => s0.heap.objs.size + 1 + i))).locals = s0.heap.objs.size := rfl
        rw [e3, e'] at this
        exact Nat.lt_irrefl _ this
      · exact n2 m
    · rcases List.mem_cons.mp m with e | m
      · exact n3 q hq e
      · exact (I0.tab q hq).2.2 m
  have I2 : Inv P β (((s0.heap.objs.size, .ns (σ₀ q0)) :: (μc (fun i => s0.heap.objs.size + 1 + i) ++ μb q0)) ++ ν) s'.heap := by simpa using I1
  refine away fun G hG => ?_
  obtain ⟨I3, le3⟩ := I2.freeze
  refine hG ?_
  clear hG G
  refine wpAny_mono (h q0 s0.heap.objs.size (fun i => s0.heap.objs.size + 1 + i) hq0 (A.deeper _) s' _ hR' I3) (fun fl s'' hX0 => ?_) fun _ _ x => x.elim
  obtain ⟨st, β', le', f, σ', μ', I', rfl', μ2, sb, q⟩ := hX0
  refine away fun G hG => ?_
  obtain ⟨I4, le4, hv⟩ := I2.thaw I' le'
  refine hG ?_
  clear hG G
  have I5 : Inv P (Mine.thaw β' (ν.map (·.1))) (μ2 ++ ν) s''.heap := I4.forget ((sb.cons _).append (List.Sublist.refl ν))
  refine ⟨St.trans st0 (St.trans ?_ st), _, le4, retV f, μ2, I5, ?_, q⟩
  · rw [e1]; exact .mk'
  cases rfl' with
  | ret r => exact hv r
  | _ => exact .none
end
end Mine

namespace Mine
open PySem PySem.W PySem.Calls PyProof.Rows PySem.SeqAt

namespace FF
theorem entry_dict_itemiterator_iter' : entryFor table "dict_itemiterator.__iter__" = some Builtin.«dict_keyiterator.__iter__» :=
  entryFor_alias (id' := "dict_keyiterator.__iter__") (by kernel_rfl) (by first | rfl | decide +kernel | (unfold String.splitOn; simp +decide [String.splitOnAux])) (by decide +kernel) (by kernel_rfl)
end FF
section
variable {P : Par} {d : Nat} {env : Env} {σ : Loc} {μ : Led} {A : Around} {β : Fz} {s : Shared}
theorem bindK3 {fd : FuncData} {n1 n2 n3 n4 : Str} {a b c : V} (h : ∀ x y z, bindArgs fd ⟨[x, y, z], []⟩ = (alloc { cls := .type "dict", data := .dict #[] } >>= fun q => pure [(n1, x), (n2, y), (n3, z), (n4, .ref q)])) :
    BindG P μ fd [a, b, c] [] (fun q => [(n1, a), (n2, b), (n3, c), (n4, R q)]) (fun q => (q, .dict []) :: μ) := fun β ν s xs ks hI rx rk => by
  refine away fun G hG => ?_
  obtain ⟨x, y, z, eY1, r1, r2, r3⟩ := rx.three
  refine hG ?_
  clear hG G
  subst eY1
  cases rk.nil'
  have hg : ∃ o, s.heap.get? mainGlobals = some o := by
    refine away fun G hG => ?_
    obtain ⟨o, _, _, e, _⟩ := P.g
    refine hG ?_
    clear hG G
    exact ⟨o, hI.keep _ _ e⟩
  refine away fun G hG => ?_
  obtain ⟨og, hg⟩ := hg
  refine hG ?_
  clear hG G
  have hsz : s.heap.objs.size ≠ sysModules := fun e => by
    have := Heap.lt_size hg
    rw [e] at this
    exact absurd this (by decide)
  refine ⟨s.heap.objs.size, [(n1, x), (n2, y), (n3, z), (n4, .ref s.heap.objs.size)], { s with heap := s.heap.push { cls := .type "dict", data := .dict #[] } }, hsz, fun M A E Q q => ?_, ⟨rfl, rfl, rfl⟩, hI.new (push_keeps emptyDict) get_size_none (x := .dict []) ⟨_, Heap.get?_push_size _ rfl, [], 0, rfl, .nil⟩, rfl, .cons r1 (.cons r2 (.cons r3 (.cons (.raw _) .nil)))⟩
  rw [h]
  exact wpAny_bind (wpAny_alloc (wpAny_pure q))
theorem FnIs.okK {a : Addr} {qual : Str} {S : Stmt} {cdv dV kV : Value} {args : List V} {kw : List (Str × V)} {binds : Addr → List (Str × V)} {μb : Addr → Led} {σ₀ : Addr → Loc} {Q : V → Led → Prop} (F : FnIs P a qual S cdv dV kV)
    (hb : ∀ doc pm an ct, BindG P μ (fnX (fnName S) qual (fnParams S) (fnBody S) (fnScope S) [] dV kV doc pm an cdv ct) args kw binds μb)
    (hcs : ∀ f, cellsBy f 0 (fnScope S).names [] = []) (hkind : ∀ q, ((binds q).all fun y => (fnScope S).names.lookup y.1 == some .local || (fnScope S).names.lookup y.1 == some .cell) = true) (hnd2 : ∀ q, nodupB ((σ₀ q).map (·.1)) = true) (hval : ∀ q, (σ₀ q).map (·.2) = (σ₀ q).map fun p => aL (fun x => (fnScope S).names.lookup x) (binds q) (fun _ => none) p.1)
    (hco : (fnScope S).isCoroutine = false) (hgen : (fnScope S).isGenerator = false) (hk : (fnScope S).kind = .function)
    (h : ∀ q L, q ≠ sysModules → exsOk P d (envX qual (fnScope S) L a cdv []) (σ₀ q) (μb q) (fnBody S) fun fl _ μ' => ∃ μ2, μ2.Sublist μ' ∧ Q (retV fl) μ2) : fnOk P (d + 1) μ (.raw (.ref a)) args kw Q := by
  refine away fun G hG => ?_
  obtain ⟨doc, pm, an, ct, hf⟩ := F.at_
  refine hG ?_
  clear hG G
  exact fnOk.bodyK (fun _ => []) (fun _ => []) (hf μ) (hb doc pm an ct) hcs (fun _ _ => rfl) (fun _ => List.nodup_nil) hkind (fun q => ⟨nodupB_of (hnd2 q), hval q⟩) hco hgen hk (fun q L f hq => h q L hq)
noncomputable abbrev itemsO (q : Addr) : AObj := .pred (fun o => o.cls = .type "dict_items" ∧ o.data = .fields #[.ref q])
theorem itemsO_rel {q : Addr} {o : Obj} (hc : o.cls = .type "dict_items") (hd : o.data = .fields #[.ref q]) : ORel β (itemsO q) o := ⟨⟨hc, hd⟩, fun h => by
  rcases h.cases with ⟨_, _, e⟩ | ⟨_, _, _, e, e'⟩
  · rw [e] at hd; cases hd
  · rw [hd] at e; cases e; simp at e'⟩
theorem meth_dictItems {q : Addr} {σd : Loc} {Q : V × List V → Led → Prop} (hm : (q, AObj.dict σd) ∈ μ) (h : Q (B "dict.items", [R q]) μ) : methOk P d μ (R q) "items" Q := by
  rintro ν A s β t hR hI hY0
  refine away fun G hG => ?_
  obtain ⟨a', pl, ra, eY1⟩ := hY0
  refine hG ?_
  clear hG G
  subst eY1
  cases ra
  refine away fun G hG => ?_
  obtain ⟨o, e, es, n, eY1, r⟩ := hI.led _ (List.mem_append_left _ hm)
  refine hG ?_
  clear hG G
  subst eY1
  exact getMethod_builtin ⟨_, e, rfl⟩ PySem.F.plainAttrs_dict F.slot_dict_items F.type_dict_items (fun a q => by cases q; exact ⟨_, e, rfl⟩) ⟨.rfl, β, .rfl, (B "dict.items", [R q]), μ, hI, ⟨.raw _, .cons (.raw _) .nil⟩, h⟩
theorem emptyAt {q : Addr} {ρ : Led} {h : Heap} (I : Inv P β ρ h) (hm : (q, AObj.dict []) ∈ ρ) : ∃ ep, h.DictAt (strKind P.prog P.w) q [] ep := by
  refine away fun G hG => ?_
  obtain ⟨o, e, es, n, eY1, r⟩ := I.led _ hm
  refine hG ?_
  clear hG G
  subst eY1
  cases r
  exact ⟨n, _, _, e, ⟨rfl, rfl, rfl⟩, rfl, (fun e he => by simp at he), .nil, List.nodup_nil⟩
theorem call_dictItems {q : Addr} {Q : V → Led → Prop} (hm : (q, AObj.dict []) ∈ μ) (hq : q ≠ sysModules) (h : ∀ v, Q (R v) ((v, itemsO q) :: μ)) : callOk P d μ (B "dict.items") [R q] [] Q := by
  rintro ν A s β t hR hI hY0
  refine away fun G hG => ?_
  obtain ⟨f', as, ks, rf, ra, rk, eY1⟩ := hY0
  refine hG ?_
  clear hG G
  subst eY1
  cases rf
  cases rk.nil'
  refine away fun G hG => ?_
  obtain ⟨_, eY1, r1⟩ := ra.one
  refine hG ?_
  clear hG G
  subst eY1
  cases r1
  refine away fun G hG => ?_
  obtain ⟨ep, o, es, a1, a2, a3, a4, a5, a6⟩ := emptyAt hI (List.mem_append_left _ hm)
  refine hG ?_
  clear hG G
  have hT : s.TypeIs (.ref q) "dict" := ⟨_, a1, a2.1⟩
  exact call_meetsIn F.slot_dict_items hT F.entry_dict_items (F.args_dict_items_1 _) (meets_dict_items (strKind P.prog P.w) q (by simpa using hq))
    ⟨⟨[], o, es, ep, a1, a2, a3, a4, a5, a6⟩, .mk', β, .rfl, _, _, hI.new (push_keeps _) get_size_none (x := itemsO q) ⟨_, Heap.get?_push_size _ rfl, itemsO_rel rfl rfl⟩, .raw _, h _⟩
theorem UpdL.mem2 {a x' x} : ∀ {μ μ'}, UpdL a x' x μ μ' → (a, x') ∈ μ'
  | _, _, .head => .head _
  | _, _, .tail u => .tail _ u.mem2
noncomputable abbrev dictX (ep : Nat) : AObj := .pred (fun o => o = dictOf [] ep)
theorem dictX_rel {ep : Nat} : ORel β (dictX ep) (dictOf [] ep) := ⟨rfl, fun h => by
  rcases h.cases with ⟨_, _, e⟩ | ⟨_, _, _, e, e'⟩
  · have := congrArg Obj.data e; cases this
  · cases e⟩
noncomputable abbrev itemItO (q : Addr) (ep : Nat) : AObj := .pred (fun o => o = { cls := .type "dict_itemiterator", dict := none, data := .fields #[.none, .bool false, .ref q, .int 0 0, .int 0 0, .int ep 0, .none, .none], slots := #[] })
theorem dictX_at {q : Addr} {ep : Nat} {ρ : Led} {h : Heap} (I : Inv P β ρ h) (hm : (q, dictX ep) ∈ ρ) : h.DictAt (strKind P.prog P.w) q [] ep := by
  refine away fun G hG => ?_
  obtain ⟨o, e, eY1, _⟩ := I.led _ hm
  refine hG ?_
  clear hG G
  subst eY1
  exact ⟨_, _, e, ⟨rfl, rfl, rfl⟩, rfl, (fun e he => by simp at he), .nil, List.nodup_nil⟩
theorem it_items0 {target : Expr} {v q : Addr} {μ' : Nat → Led} {Q : Led → List V → Led → Prop} (hv : (v, itemsO q) ∈ μ) (hU : ∀ ep, UpdL q (dictX ep) (.dict []) μ (μ' ep)) (h : ∀ ep, Q [(q, dictX ep)] [] (μ' ep)) : itOk P d μ target (R v) Q := fun ν A s β x hR hI r => by
  cases r
  have hm := (hU 0).mem
  refine away fun G hG => ?_
  obtain ⟨ov, hov, ⟨hc, hd⟩, _⟩ := hI.led _ (List.mem_append_left _ hv)
  refine hG ?_
  clear hG G
  refine away fun G hG => ?_
  obtain ⟨od, hod, es, ep, eY1, rd⟩ := hI.led _ (List.mem_append_left _ hm)
  refine hG ?_
  clear hG G
  subst eY1
  cases rd
  have I2 : Inv P β (μ' ep ++ ν) s.heap := hI.upd ((hU ep).app ν) (fun b o _ e => e) ⟨_, hod, dictX_rel⟩
  refine wpAny_pyIter_items ⟨ov, hov, hc, hd⟩ (dictX_at I2 (?_ : (q, dictX ep) ∈ μ' ep ++ ν)) ⟨.mk', β, .rfl, s.heap.objs.size, fun _ => itemItO q ep, _, [], μ' ep, rfl, ?_, ?_, h ep⟩
  · exact List.mem_append_left _ (hU ep).mem2
  · refine ⟨fun i x hx => by simp at hx, fun A s β ν hh hI => ?_, fun i A s β ν hI => ?_⟩
    · refine away fun G hG => ?_
      obtain ⟨o, ho, eY1, _⟩ := hI.led _ (.head _)
      refine hG ?_
      clear hG G
      subst eY1
      exact wpAny_pyNext_items_end (i := 0) (kvs := []) hh ho (dictX_at hI (.tail _ (.head _))) rfl fun h' hs => ⟨.mk', β, .rfl, rfl, hI.gone hs⟩
    · refine away fun G hG => ?_
      obtain ⟨o, ho, eY1, _⟩ := hI.led _ (.head _)
      refine hG ?_
      clear hG G
      subst eY1
      have hT : s.TypeIs (.ref _) "dict_itemiterator" := ⟨_, ho, rfl⟩
      exact wpAny_pyIter_slot hT F.slot_dict_itemiterator_iter (wpAny_call_entry F.slot_dict_itemiterator_iter hT FF.entry_dict_itemiterator_iter' (by
        show wpAny _ _ (ret (.ref _)) _ _ _
        exact wpAny_pure ⟨_, rfl, "dict_itemiterator", _, hT, F.slot_dict_itemiterator_next.lookup, .rfl, β, .rfl, rfl, hI⟩) (F.args_dict_itemiterator_iter_1 _))
  · refine I2.new (push_keeps _) get_size_none ⟨_, Heap.get?_push_size _ rfl, rfl, fun h => ?_⟩
    rcases h.cases with ⟨_, _, e⟩ | ⟨_, _, _, e, e'⟩
    · have := congrArg Obj.data e; cases this
    · cases e; simp at e'
end
end Mine

namespace Mine
open PySem PySem.W PySem.Calls PyProof.Rows
section
variable {P : Par} {d : Nat} {env : Env} {σ : Loc} {μ : Led} {A : Around} {β : Fz} {s : Shared}
theorem VsRel.of_get {β : Fz} : ∀ {vs : List V} {xs : List Value}, xs.length = vs.length → (∀ (i : Nat) v x, vs[i]? = some v → xs[i]? = some x → VRel β v x) → VsRel β vs xs
  | [], [], _, _ => .nil
  | v :: vs, x :: xs, e, h => .cons (h 0 v x rfl rfl) (VsRel.of_get (by simpa using e) fun i v x a b => h (i + 1) v x a b)
  | [], _ :: _, e, _ => by simp at e
  | _ :: _, [], e, _ => by simp at e
theorem call_listStr {w : List Nat} {Q : V → Led → Prop} (hw : w.length ≤ sizeLine) (h : ∀ D, Q (R D) ((D, .list (chars w)) :: μ)) : callOk P d μ (T "list") [.str w] [] Q := by
  rintro ν A s β t hR hI ⟨f', as, ks, rf, ra, rk, rfl⟩
  cases rf
  cases rk.nil'
  obtain ⟨_, rfl, r1⟩ := ra.one
  cases r1
  refine PySem.call_list_str (hn := by simpa using hw) hR.handled _ _ fun h' tk acc' c' hk hS hacc => ?_
  refine ⟨.mk', β, .rfl, _, _, hI.new hk get_size_none (x := .list (chars w)) ⟨_, hS, acc', c', rfl, ?_⟩, .raw _, h _⟩
  refine VsRel.of_get (by rw [Array.length_toList, hacc.1]; simp [chars]) fun i v x hv hx => ?_
  obtain ⟨c, u, hc, rfl⟩ := hacc.2 i x (by simpa using hx)
  unfold chars at hv
  rw [List.getElem?_map] at hv
  have hc' : w[i]? = some c := by simpa using hc
  rw [hc'] at hv
  cases hv
  exact .str [c] u
end
end Mine

namespace Mine
open PySem PySem.W PySem.Calls PyProof.Rows
/-! runs behind which a token has been drawn -/
section
variable {P : Par} {d : Nat} {env : Env} {σ : Loc} {μ : Led} {A : Around} {β : Fz} {s : Shared}
noncomputable def wpT (P : Par) {α : Type} (A : Around) (β : Fz) (t : Sem α) (Q : α → Fz → Heap → Prop) (s : Shared) : Prop :=
  wpAny (model P.prog P.w) A t (fun a s' => 0 < s'.toks ∧ LP β Q s a s') (fun _ _ => False) s
theorem wpT.of {α : Type} {t : Sem α} {Q : α → Fz → Heap → Prop} (hs : 0 < s.toks) (h : wpL P A β t Q s) : wpT P A β t Q s :=
  wpAny_mono (wpAny_toks_of (n := 1) hs h) (fun _ _ x => x) fun _ _ x => x.2
theorem wpT.bind {α γ : Type} {m : Sem α} {f : α → Sem γ} {Q : γ → Fz → Heap → Prop} (h : wpT P A β m (fun a β' h' => ∀ s', s'.heap = h' → 0 < s'.toks → wpL P A β' (f a) Q s') s) : wpL P A β (m >>= f) Q s := by
  refine wpAny_bind (wpAny_mono h (fun a s' hX0 => ?_) fun _ _ x => x)
  refine away fun G hG => ?_
  obtain ⟨h0, st, β', le, q⟩ := hX0
  refine hG ?_
  clear hG G
  exact wpAny_mono (q s' rfl h0) (fun c s'' ⟨st', β'', le', q'⟩ => ⟨st.trans st', β'', le.trans le', q'⟩) fun _ _ x => x
theorem wpT.bindL {α γ : Type} {m : Sem α} {f : α → Sem γ} {Q : γ → Fz → Heap → Prop} (h : wpL P A β m (fun a β' h' => ∀ s', s'.heap = h' → wpT P A β' (f a) Q s') s) : wpT P A β (m >>= f) Q s := by
  refine wpAny_bind (wpAny_mono h (fun a s' hX0 => ?_) fun _ _ x => x)
  refine away fun G hG => ?_
  obtain ⟨st, β', le, q⟩ := hX0
  refine hG ?_
  clear hG G
  exact wpAny_mono (q s' rfl) (fun c s'' ⟨h0, st', β'', le', q'⟩ => ⟨h0, st.trans st', β'', le.trans le', q'⟩) fun _ _ x => x
theorem wpT.mono {α : Type} {t : Sem α} {Q Q' : α → Fz → Heap → Prop} (h : wpT P A β t Q s) (hq : ∀ a β' h', β.le β' → Q a β' h' → Q' a β' h') : wpT P A β t Q' s :=
  wpAny_mono h (fun a s' ⟨h0, st, β', le, q⟩ => ⟨h0, st, β', le, hq a β' s'.heap le q⟩) fun _ _ x => x
noncomputable def isT (P : Par) (d : Nat) (env : Env) (σ : Loc) (μ : Led) (e : Expr) (Q : Bool → Led → Prop) : Prop :=
  ∀ A s β, Room A d → Inv P β ((env.locals, .ns σ) :: μ) s.heap → wpT P A β (isTrue e env (eval e env)) (IsP P env.locals σ Q) s
noncomputable def evT (P : Par) (d : Nat) (env : Env) (σ : Loc) (μ : Led) (e : Expr) (Q : V → Led → Prop) : Prop :=
  ∀ A s β, Room A d → 0 < s.toks → Inv P β ((env.locals, .ns σ) :: μ) s.heap → wpL P A β (eval e env) (EvP P VRel env.locals σ Q) s
noncomputable def exT (P : Par) (d : Nat) (env : Env) (σ : Loc) (μ : Led) (st : Stmt) (Q : Fl → Loc → Led → Prop) : Prop :=
  ∀ A s β, Room A d → 0 < s.toks → Inv P β ((env.locals, .ns σ) :: μ) s.heap → wpL P A β (exec st env) (ExP P env.locals Q) s
noncomputable def exsT (P : Par) (d : Nat) (env : Env) (σ : Loc) (μ : Led) (sts : List Stmt) (Q : Fl → Loc → Led → Prop) : Prop :=
  ∀ A s β, Room A d → 0 < s.toks → Inv P β ((env.locals, .ns σ) :: μ) s.heap → wpL P A β (execs sts env) (ExP P env.locals Q) s
theorem evT.of {e} {Q : V → Led → Prop} (h : evOk P d env σ μ e Q) : evT P d env σ μ e Q := fun A s β hR _ hI => h A s β hR hI
theorem isT.gt {l : Expr} {k : Int} {kk pos cpos} {Q : Bool → Led → Prop} (h : evOk P d env σ μ l fun a μ1 => ∃ n : Int, a = .int n ∧ Q (decide (k < n)) μ1) : isT P d env σ μ (.Compare l [.Gt] [.Constant (.int k) kk cpos] pos) Q := fun A s β hR hI => by
  rw [arm_isTrue_Compare]
  refine wpT.bindL ((h A s β hR hI).mono fun a' β1 h1 le1 hX s1 e1 => ?_)
  refine away fun G hG => ?_
  obtain ⟨a, μ1, I1, ra, n, en, q1⟩ := hX
  refine hG ?_
  clear hG G
  subst en
  show wpT P A β1 (testChain pos a' [.Gt] [markedBehindIn .Gt (.Constant (.int k) kk cpos) (eval (.Constant (.int k) kk cpos) env)]) _ s1
  rw [markedBehindIn_of_false rfl]
  refine wpAny_bind (wpAny_holding (wpAny_Constant_int ?_))
  cases ra
  have I2 : Inv P β1 (μ1 ++ [(env.locals, .ns σ)]) s1.heap := (e1 ▸ I1 : Inv P β1 ((env.locals, .ns σ) :: μ1) s1.heap).perm (List.perm_append_comm (l₁ := [_]) (l₂ := μ1))
  refine wpAny_bind (wpAny_standAt ?_)
  refine wpAny_mono (wpT.of (P := P) (A := A) (β := β1) (s := { s1 with toks := s1.toks + 1 }) (Q := IsP P env.locals σ Q) (Nat.succ_pos _) ?_) (fun b s' ⟨h0, st, β', le, q⟩ => ⟨h0, St.mk'.trans st, β', le, q⟩) fun _ _ x => x
  refine wpL.bind (wpL.operate (wpL.mono (cmp_gt (Q := fun v μ' => v = .bool (decide (k < n)) ∧ μ' = μ1) ⟨rfl, rfl⟩ [(env.locals, .ns σ)] A _ β1 _ hR I2 ⟨_, _, .int .., .int .., rfl⟩) fun c' β3 h3 le3 hX s3 e3 => ?_))
  refine away fun G hG => ?_
  obtain ⟨c, μ3, I3, rc, ec, em⟩ := hX
  refine hG ?_
  clear hG G
  subst ec; subst em
  cases rc
  refine wpL.holding (wpAny_truthy_bool ⟨.rfl, β3, .rfl, μ3, ?_, q1⟩)
  rw [e3]
  exact I3.perm (List.perm_append_comm (l₁ := μ3) (l₂ := [_]))
theorem isT.and2 {x y pos} {Q : Bool → Led → Prop} (h : isOk P d env σ μ x fun b μ1 => b = true ∧ isT P d env σ μ1 y Q) : isT P d env σ μ (.BoolOp .And [x, y] pos) Q := fun A s β hR hI => by
  rw [arm_isTrue_BoolOp]
  show wpT P A β (do match BoolOp.And, ← isTrue x env (eval x env) with | .And, false => pure false | .Or, true => pure true | _, _ => allTrue .And [y] env) _ s
  refine wpT.bindL ((h A s β hR hI).mono fun c β1 h1 le1 hX s1 e1 => ?_)
  refine away fun G hG => ?_
  obtain ⟨μ1, I1, ec, q1⟩ := hX
  refine hG ?_
  clear hG G
  subst ec
  show wpT P A β1 (do match BoolOp.And, ← isTrue y env (eval y env) with | .And, false => pure false | .Or, true => pure true | _, _ => allTrue .And [] env) _ s1
  have h2 := q1 A s1 β1 hR (e1 ▸ I1)
  refine wpAny_bind (wpAny_mono h2 (fun b s2 hX => ?_) fun _ _ x => x)
  obtain ⟨h0, st, β2, le, q⟩ := hX
  cases b
  · exact wpAny_pure ⟨h0, st, β2, le, q⟩
  · exact wpAny_pure ⟨h0, st, β2, le, q⟩
theorem exOk.ifT {t b o pos} {Q : Fl → Loc → Led → Prop} (h : isT P d env σ μ t fun c μ1 => if c then exsT P d env σ μ1 b Q else exsOk P d env σ μ1 o Q) : exOk P d env σ μ (.If t b o pos) Q := fun A s β hR hI => by
  rw [arm_exec_If]
  refine wpL.standAt_bind (wpT.bind ((h A s β hR hI).mono fun c β1 h1 le1 hX s1 e1 h0 => ?_))
  refine away fun G hG => ?_
  obtain ⟨μ1, I1, q1⟩ := hX
  refine hG ?_
  clear hG G
  cases c
  · exact q1 A s1 β1 hR (e1 ▸ I1)
  · exact q1 A s1 β1 hR h0 (e1 ▸ I1)
theorem exT.if_ {t b o pos} {Q : Fl → Loc → Led → Prop} (h : isOk P d env σ μ t fun c μ1 => c = true ∧ exsT P d env σ μ1 b Q) : exT P d env σ μ (.If t b o pos) Q := fun A s β hR hs hI => by
  rw [arm_exec_If]
  refine wpL.standAt_bind (wpT.bind ((wpT.of hs (h A s β hR hI)).mono fun c β1 h1 le1 hX s1 e1 h0 => ?_))
  refine away fun G hG => ?_
  obtain ⟨μ1, I1, ec, q1⟩ := hX
  refine hG ?_
  clear hG G
  subst ec
  exact q1 A s1 β1 hR h0 (e1 ▸ I1)
theorem exsT.cons {st rest} {Q : Fl → Loc → Led → Prop} (h : exT P d env σ μ st fun f σ1 μ1 => match f with | .next => exsOk P d env σ1 μ1 rest Q | f => Q f σ1 μ1) : exsT P d env σ μ (st :: rest) Q := fun A s β hR hs hI => by
  rw [arm_execs_cons]
  refine wpL.bind ((h A s β hR hs hI).mono fun f' β1 h1 le1 hX0 s1 e1 => ?_)
  refine away fun G hG => ?_
  obtain ⟨f, σ1, μ1, I1, rf, q1⟩ := hX0
  refine hG ?_
  clear hG G
  cases rf with
  | next => exact q1 A s1 β1 hR (e1 ▸ I1)
  | brk => exact wpL.pure ⟨.brk, σ1, μ1, e1 ▸ I1, .brk, q1⟩
  | cont => exact wpL.pure ⟨.cont, σ1, μ1, e1 ▸ I1, .cont, q1⟩
  | ret r => exact wpL.pure ⟨.ret _, σ1, μ1, e1 ▸ I1, .ret r, q1⟩
theorem exT.asg {t value pos} {Q : Fl → Loc → Led → Prop} (h : evT P d env σ μ value fun v μ1 => asOk P d env σ μ1 t v fun σ2 μ2 => Q .next σ2 μ2)
    (hs : swapsWith value (some t) pos.line env = pure false) (hw : swappedStores [t] value env = pure none) (he : assignEach [t] env = [(false, assign t env)]) : exT P d env σ μ (.Assign [t] value pos) Q := fun A s β hR h0 hI => by
  rw [arm_exec_Assign]
  refine wpL.standAt_bind ?_
  show wpL P A β (do
    if ← swapsWith value (some t) pos.line env then do
      evalThenUse value env fun v => assignAll v ((assignEach [t] env).map (·.2))
      pure .next
    else do
      let v ← eval value env
      assignStores env v (← swappedStores [t] value env) ((assignEach [t] env).map (·.2))) _ s
  rw [hs, hw, he]
  refine wpL.pure_bind ?_
  simp only [Bool.false_eq_true, if_false]
  refine wpL.bind ((h A s β hR h0 hI).mono fun a' β1 h1 le1 hX2 s1 e1 => ?_)
  refine away fun G hG => ?_
  obtain ⟨a, μ1, I1, ra, q1⟩ := hX2
  refine hG ?_
  clear hG G
  refine wpL.pure_bind ?_
  show wpL P A β1 (do PySem.assign t env a'; pure Flow.next) _ s1
  exact wpL.bind ((q1 A s1 β1 a' hR (e1 ▸ I1) ra).mono fun _ β2 h2 le2 ⟨σ2, μ2, I2, q2⟩ s2 e2 => wpL.pure ⟨.next, σ2, μ2, e2 ▸ I2, .next, q2⟩)
end
end Mine

namespace Mine
open PySem PySem.W PySem.Calls PyProof.Rows
section
variable {P : Par} {d : Nat} {env : Env} {σ : Loc} {μ : Led} {A : Around} {β : Fz} {s : Shared}
theorem evT.replace {o : Expr} {apos pos p1 p2 : Pos} {k1 k2 : Nat} {l r : List Nat} {x y : Str} {Q : V → Led → Prop}
    (h : evT P d env σ μ o fun v μ1 => v = .str l ∧ Q (.str r) μ1) (hr : Txt.replace (mkS l) x y = mkS r) (hxy : (x == y) = false) (hl : l.length ≤ 1048576) (hy : y.length ≤ 14)
    (he : ∃ pl, eval (.Call (.Attribute o "replace" apos) [.Constant (.str x) k1 p1, .Constant (.str y) k2 p2] [] pos) env = (do
      let ov ← eval o env
      standAt apos.atName
      let (f, first) ← holding [ov] (getMethod ov "replace" pl)
      callWith pos f first (backTo pos (starEach [.Constant (.str x) k1 p1, .Constant (.str y) k2 p2] env)) (backToKw pos (keywordEach [] env)))) :
    evT P d env σ μ (.Call (.Attribute o "replace" apos) [.Constant (.str x) k1 p1, .Constant (.str y) k2 p2] [] pos) Q := fun A s β hR hs hI => by
  obtain ⟨pl, he⟩ := he
  rw [he]
  refine wpT.bind ((wpT.of hs (h A s β hR hs hI)).mono fun o' β1 h1 le1 hX s1 e1 h0 => ?_)
  refine away fun G hG => ?_
  obtain ⟨ov, μ1, I1, ro, eo, q1⟩ := hX
  refine hG ?_
  clear hG G
  subst eo
  subst e1
  refine wpL.standAt_bind (wpT.bind (wpT.of h0 (wpL.holding (((meth_str (P := P) (d := d) (μ := μ1) (l := l) (Q := fun fx μ' => fx = (B "str.replace", [.str l]) ∧ μ' = μ1) F.slot_str_replace F.type_str_replace ⟨rfl, rfl⟩).loc hR I1 ⟨o', pl, ro, rfl⟩).mono fun fx' β2 h2 le2 hX s2 e2 h00 => ?_))))
  refine away fun G hG => ?_
  obtain ⟨fx, μ2, I2, ⟨rf, rfi⟩, efx, em⟩ := hX
  refine hG ?_
  clear hG G
  subst efx; subst em; subst e2
  obtain ⟨f', first'⟩ := fx'
  cases rf
  obtain ⟨v1, ev1, rv1⟩ := rfi.one
  have ev1 : first' = [v1] := ev1
  subst ev1
  obtain ⟨t1, rfl⟩ := rv1.strInv
  unfold wpL
  show wpAny _ A (callWith pos (.builtin "str.replace") [.str (mkS l) t1] _ _) _ _ s2
  refine callWith_of (P := fun h => ∃ k, (k = Keeper.frame ∨ k = Keeper.machine ∨ k = Keeper.boundFrame) ∧ Looks (model P.prog P.w) h (keeperOf (.builtin "str.replace")) k) rfl (fun _ x => x) ?_
  refine evalArgs_any rfl rfl ?_
  show wpAny _ A (do
    let v ← eval (.Constant (.str x) k1 p1) env
    let here ← (pure [v] : Sem (List Value))
    return here ++ (← holding here (spliced (backTo pos [(false, eval (.Constant (.str y) k2 p2) env)])))) _ _ s2
  refine wpAny_bind (wpAny_Constant_str (wpAny_bind (wpAny_pure (wpAny_bind (wpAny_holding ?_)))))
  show wpAny _ A (do
    let v ← eval (.Constant (.str y) k2 p2) env
    let here ← (pure [v] : Sem (List Value))
    return here ++ (← holding here (spliced []))) _ _ _
  refine wpAny_bind (wpAny_Constant_str (wpAny_bind (wpAny_pure (wpAny_bind (wpAny_holding ?_)))))
  refine wpAny_pure (wpAny_pure (wpAny_pure ?_))
  refine wpAny_pure ⟨⟨.machine, .inr (.inl rfl), .now⟩, ?_⟩
  refine SC.replaceW (Nat.pos_iff_ne_zero.mp h00) (Nat.succ_ne_zero _) (Nat.ne_of_lt (Nat.lt_succ_self _)) hxy (by rw [mkS_len]; exact hl) hy fun t' k => ?_
  rw [hr]
  exact ⟨.mk', β2, .rfl, .str r, μ2, I2, .str .., q1⟩
end
end Mine

namespace Mine
open PySem PySem.W PySem.Calls PyProof.Rows
section
variable {P : Par} {d : Nat} {env : Env} {σ : Loc} {μ : Led} {A : Around} {β : Fz} {s : Shared}
theorem joinStep {out y out' : Str} {x : Sem Value} {rest : List (Sem Value)} {Q : Value → Shared → Prop} {M : Model} (ho : out ++ y = out') (hz : out'.length ≤ sizeLine)
    (h : wpAny M A x (fun v s1 => ∃ t, v = .str y t ∧ wpAny M A (joinParts out' rest) Q (fun _ _ => False) s1) (fun _ _ => False) s) : wpAny M A (joinParts out (x :: rest)) Q (fun _ _ => False) s := by
  refine joinParts_cons (wpAny_mono h (fun v s1 ⟨t, e, h2⟩ => ?_) fun _ _ x => x)
  subst e
  show (out ++ y).length ≤ sizeLine ∧ wpAny _ _ (joinParts (out ++ y) rest) _ _ _
  rw [ho]
  exact ⟨hz, h2⟩
theorem evOk.fmtS {e : Expr} {p : Pos} {a : List Nat} (ha : a.length ≤ sizeLine) (h : evOk P d env σ μ e fun v μ1 => v = .str a ∧ μ1 = μ) : evOk P d env σ μ (.FormattedValue e 115 none p) fun v μ1 => v = .str a ∧ μ1 = μ := fun A s β hR hI => by
  refine wpAny_FormattedValue_s (wpAny_mono (h A s β hR hI) (fun v s1 hX => ?_) fun _ _ x => x)
  refine away fun G hG => ?_
  obtain ⟨st, β1, le, a', μ1, I1, r1, ea, em⟩ := hX
  refine hG ?_
  clear hG G
  subst ea; subst em
  obtain ⟨t, rfl⟩ := r1.strInv
  show wpAny _ _ (habitSame "fstring-hands-on-the-str" (.str (mkS a) t)) _ _ s1
  refine habitSame_str (fun t' tk => formatField_str (fun t'' tk' => ?_) (by rw [mkS_len]; exact ha)) (by rw [mkS_len]; exact ha)
  exact ⟨st.trans St.mk', β1, le, _, μ1, I1, .str .., rfl, rfl⟩
theorem evOk.fstr {e1 e2 : Expr} {p1 p2 p3 p4 pos : Pos} {k1 k2 : Nat} {c1 c2 : Str} {a b : List Nat} {Q : V → Led → Prop} (ha : a.length ≤ 1000) (hb : b.length ≤ 1000) (hc1 : c1.length ≤ 1000) (hc2 : c2.length ≤ 1000)
    (h1 : evOk P d env σ μ e1 fun v μ1 => v = .str a ∧ μ1 = μ) (h2 : evOk P d env σ μ e2 fun v μ1 => v = .str b ∧ μ1 = μ) (h : Q (.str (a ++ c1.cps.toList ++ b ++ c2.cps.toList)) μ) :
    evOk P d env σ μ (.JoinedStr [.FormattedValue e1 115 none p1, .Constant (.str c1) k1 p2, .FormattedValue e2 115 none p3, .Constant (.str c2) k2 p4] pos) Q := fun A s β hR hI => by
  have hs : ∀ (l : List Nat) (x : Str), x = mkS l → l.length ≤ 4000 → x.length ≤ sizeLine := fun l x e hl => by rw [e, mkS_len, sizeLine_eq]; lia
  have l1 : c1.cps.toList.length ≤ 1000 := hc1
  have l2 : c2.cps.toList.length ≤ 1000 := hc2
  refine JoinedStr_many ?_
  show wpAny _ A (joinParts Str.empty [eval (.FormattedValue e1 115 none p1) env, eval (.Constant (.str c1) k1 p2) env, eval (.FormattedValue e2 115 none p3) env, eval (.Constant (.str c2) k2 p4) env]) _ _ s
  refine joinStep (y := mkS a) (out' := mkS a) (mkS_app [] a) (hs a _ rfl (by lia)) (wpAny_mono (evOk.fmtS (by rw [sizeLine_eq]; lia) h1 A s β hR hI) (fun v s1 hX => ?_) fun _ _ x => x)
  refine away fun G hG => ?_
  obtain ⟨st1, β1, le1, a', μ1, I1, r1, ea, em⟩ := hX
  refine hG ?_
  clear hG G
  subst ea; subst em
  obtain ⟨t1, rfl⟩ := r1.strInv
  refine ⟨t1, rfl, ?_⟩
  refine joinStep (y := c1) (out' := mkS (a ++ c1.cps.toList)) (by rw [← mkS_app]) (hs _ _ rfl (by rw [List.length_append]; lia)) (wpAny_Constant_str ⟨_, rfl, ?_⟩)
  refine joinStep (y := mkS b) (out' := mkS (a ++ c1.cps.toList ++ b)) (mkS_app _ _) (hs _ _ rfl (by rw [List.length_append, List.length_append]; lia)) (wpAny_mono (evOk.fmtS (by rw [sizeLine_eq]; lia) h2 A _ β1 hR I1) (fun v s2 hX => ?_) fun _ _ x => x)
  refine away fun G hG => ?_
  obtain ⟨st2, β2, le2, a', μ2, I2, r2, ea, em⟩ := hX
  refine hG ?_
  clear hG G
  subst ea; subst em
  obtain ⟨t2, rfl⟩ := r2.strInv
  refine ⟨t2, rfl, ?_⟩
  refine joinStep (y := c2) (out' := mkS (a ++ c1.cps.toList ++ b ++ c2.cps.toList)) (by rw [← mkS_app _ c2.cps.toList]) (hs _ _ rfl (by rw [List.length_append, List.length_append, List.length_append]; lia)) (wpAny_Constant_str ⟨_, rfl, ?_⟩)
  refine joinParts_nil ?_ (hs _ _ rfl (by rw [List.length_append, List.length_append, List.length_append]; lia))
  exact ⟨st1.trans (St.mk'.trans (st2.trans (St.mk'.trans St.mk'))), β2, le1.trans le2, _, μ2, I2, .str .., h⟩
end
end Mine

namespace Mine
open PySem PySem.W PySem.Calls PyProof.Rows PySem.SeqAt PySem.MeetsSeq
section
variable {P : Par} {d : Nat} {env : Env} {σ : Loc} {μ : Led} {A : Around} {β : Fz} {s : Shared}
theorem call_sumList {l : Addr} {ns : List Int} {Q : V → Led → Prop} (hm : (l, AObj.list (ns.map .int)) ∈ μ) (h : Q (.int ns.sum) μ) : callOk P d μ (B "sum") [R l] [] Q := by
  rintro ν A s β t hR hI ⟨f', as, ks, rf, ra, rk, rfl⟩
  cases rf
  cases rk.nil'
  obtain ⟨_, rfl, r1⟩ := ra.one
  cases r1
  obtain ⟨its, hl, r, es⟩ := list_ext_get hI (List.mem_append_left _ hm)
  have hi := ints_are r
  obtain ⟨xs, e⟩ := hi.allInts.items
  have e' : its = intItems xs := by rw [← e]
  rw [e'] at hl
  have hn : numsOf (intItems xs).toList = ns := by rw [← e']; exact hi.numsOf
  rw [nums_intItems] at hn
  refine call_sum_walkG (iter_intList hl fun s₂ e st hfp hlI => ?_)
  subst e
  refine ⟨_, _, _, _, _, _, numAt xs, rfl, Walks.list (A := A.in1) hR.handled _ l hlI (intItems xs), st, hfp, (fun _ _ => intItems_at), fun h' tk t' hk => ?_⟩
  rw [preSum_eq, List.take_of_length_le (by simp [intItems]), hn]
  exact ⟨.mk', β, .rfl, _, μ, hI.ext (old_kept hk), .int .., h⟩
theorem call_listIndex {l : Addr} {xs : List V} {v : V} {j : Nat} {Q : V → Led → Prop} (hm : (l, AObj.list xs) ∈ μ) (he : ∀ x ∈ xs, (eqV x v).isSome) (hx : ∃ x, xs[j]? = some x ∧ eqV x v = some true) (hno : ∀ i x, i < j → xs[i]? = some x → eqV x v = some false) (hj : j < 2 ^ 60) (h : Q (.int j) μ) :
    callOk P d μ (B "list.index") [R l, v] [] Q := by
  rintro ν A s β t hR hI ⟨f', as, ks, rf, ra, rk, rfl⟩
  cases rf
  cases rk.nil'
  obtain ⟨_, y, rfl, r1, r3⟩ := ra.two
  cases r1
  obtain ⟨its, n, e, r, es⟩ := listLook hI hm
  obtain ⟨x, hx1, hx2⟩ := hx
  have hjl : j < xs.length := (List.getElem?_eq_some_iff.mp hx1).1
  have hr : ∀ (i : Nat) (hi : i < its.size), ∃ x, xs[i]? = some x ∧ VRel β x its[i] := fun i hi => by
    have hi' : i < xs.length := by rw [← es]; exact hi
    obtain ⟨z, hz, rz⟩ := r.get (List.getElem?_eq_getElem hi')
    refine ⟨_, List.getElem?_eq_getElem hi', ?_⟩
    rw [List.getElem?_eq_getElem (by simpa using hi)] at hz
    cases hz
    simpa using rz
  refine call_meets F.slot_list_index ⟨_, e, rfl⟩ F.entry_list_index (F.args_list_index_2 _ _) (list_indexAt l its n none #[] y (fun z => valEq z y) j (by rw [es]; exact hjl) (by omega) ?_ ?_) ⟨e, fun z hz => (valEq_any r3 r he).1 _ _ z (by simpa using hz), .mk', β, .rfl, _, μ, hI, .int .., h⟩
  · obtain ⟨w, hw, rw'⟩ := hr j (by rw [es]; exact hjl)
    rw [hx1] at hw; cases hw
    exact (valEq_of hx2 rw' r3).1
  · intro i hi hij
    obtain ⟨w, hw, rw'⟩ := hr i hi
    exact (valEq_of (hno i w hij hw) rw' r3).1

/-! a dictionary from words to words -/
inductive SKv : List (List Nat × List Nat) → List (Str × Value) → Prop
  | nil : SKv [] []
  | cons {k v ps kvs t} : SKv ps kvs → SKv ((k, v) :: ps) ((mkS k, .str (mkS v) t) :: kvs)
theorem mkS_inj {a b : List Nat} (h : mkS a = mkS b) : a = b := by
  have := congrArg (fun s => s.cps.toList) h
  simpa using this
theorem SKv.at {ps kvs} (h : SKv ps kvs) (k : List Nat) : (∀ v, ps.lookup k = some v → ∃ t, valueAt kvs (mkS k) = some (.str (mkS v) t)) ∧ (ps.lookup k = none → valueAt kvs (mkS k) = none) := by
  induction h with
  | nil => exact ⟨fun v e => by simp at e, fun _ => rfl⟩
  | @cons k' v' ps kvs t h ih =>
    by_cases q : k = k'
    · subst q
      refine ⟨fun v e => ?_, fun e => ?_⟩
      · simp at e; subst e; exact ⟨t, by simp [valueAt]⟩
      · simp at e
    · have q' : ¬ mkS k' = mkS k := fun e => q (mkS_inj e).symm
      have q2 : (k == k') = false := by simpa using q
      have e1 : valueAt ((mkS k', Value.str (mkS v') t) :: kvs) (mkS k) = valueAt kvs (mkS k) := by simp [valueAt, q']
      rw [e1, List.lookup_cons, q2]
      exact ih
theorem SKv.snoc {ps kvs} (h : SKv ps kvs) (k v : List Nat) (t : Tok) : SKv (ps ++ [(k, v)]) (kvs ++ [(mkS k, .str (mkS v) t)]) := by
  induction h with
  | nil => exact .cons .nil
  | cons h ih => exact .cons ih
theorem SKv.len {ps kvs} (h : SKv ps kvs) : kvs.length = ps.length := by
  induction h with
  | nil => rfl
  | cons h ih => simp [ih]
noncomputable abbrev sdO (P : Par) (ps : List (List Nat × List Nat)) : AObj := .pred (fun o => ∃ kvs, o.IsDictOf (strKind P.prog P.w) kvs ∧ SKv ps kvs)
theorem sdO.rel {ps kvs} {o : Obj} (h : o.IsDictOf (strKind P.prog P.w) kvs) (r : SKv ps kvs) : ORel β (sdO P ps) o := ⟨⟨kvs, h, r⟩, fun q => by
  obtain ⟨es, ep, _, e, _⟩ := h
  rcases q.cases with ⟨_, _, q⟩ | ⟨_, _, _, q, _⟩
  · subst q; cases e
  · rw [e] at q; cases q⟩
theorem sub_sd {value slice : Expr} {l : Addr} {ps : List (List Nat × List Nat)} {k v : List Nat} {Q : V → Led → Prop} (hm : (l, sdO P ps) ∈ μ) (hx : ps.lookup k = some v) (h : Q (.str v) μ)
    (hs : ∀ u, subscripted slice false (.ref l) (.str (mkS k) u) = operate [.ref l, .str (mkS k) u] (getItem (.ref l) (.str (mkS k) u))) : subOk P d μ value slice (R l) (.str k) Q := by
  rintro ν A s β t hR hI ⟨a', i', ra, ri, rfl⟩
  cases ra
  obtain ⟨u, rfl⟩ := ri.strInv
  obtain ⟨o, e, ⟨kvs, hd, hr⟩, _⟩ := hI.led _ (List.mem_append_left _ hm)
  obtain ⟨t', ht⟩ := (hr.at k).1 v hx
  have hM := (Heap.dictOf_iff.mpr ⟨o, e, hd⟩ : s.heap.DictOf (strKind P.prog P.w) l kvs).mapOf
  exact tail_any hM.typeIs slot_dict_getitem.lookup (wpAny_getItem_of (strKind_is ..) hM ht ⟨.mk', β, .rfl, _, μ, hI, .str .., h⟩) (hs _)
theorem set_sd {l : Addr} {ps : List (List Nat × List Nat)} {k v : List Nat} {μ' : Led} {Q : Led → Prop} (hU : UpdL l (sdO P (ps ++ [(k, v)])) (sdO P ps) μ μ') (hx : ps.lookup k = none) (hsz : ps.length ≤ sizeLine) (h : Q μ') : setOk P d μ (R l) (.str k) (.str v) Q := by
  rintro ν A s β t hR hI ⟨a', i', v', ra, ri, rv, rfl⟩
  cases ra
  obtain ⟨u, rfl⟩ := ri.strInv
  obtain ⟨u', rfl⟩ := rv.strInv
  obtain ⟨o, e, ⟨kvs, hd, hr⟩, _⟩ := hI.led _ (List.mem_append_left _ hU.mem)
  refine wpAny_setItem_pairs (strKind_is ..) (Heap.dictOf_iff.mpr ⟨o, e, hd⟩) (fun h' hm' hs' => ?_) (by rw [hr.len]; exact hsz)
  rw [stored_absent ((hr.at k).2 hx)] at hm'
  obtain ⟨o', e', hd'⟩ := Heap.dictOf_iff.mp hm'
  exact ⟨.mk', β, .rfl, (), μ', hI.upd (hU.app ν) hs'.extBut ⟨o', e', sdO.rel hd' (hr.snoc k v u')⟩, trivial, h⟩
theorem evOk.sdict {keys : List (Option Expr)} {values : List Expr} {pos : Pos} {Q : V → Led → Prop} {k v : List Nat} (hD : litPairs keys values = some [(.str (mkS k), .str (mkS v))])
    (hall : keys.all (·.isSome) = true) (hl : keys.length = values.length) (h0 : keys ≠ []) (hlen : keys.length ≤ 15) (h : ∀ D, Q (R D) ((D, sdO P [(k, v)]) :: μ)) : evOk P d env σ μ (.Dict keys values pos) Q := fun A s β hR hI => by
  refine Dict_lits_str hD rfl (by simp [strKeysOf]) hall hl h0 hlen fun a o h₁ tk ha ho ⟨kvs, hd, hf⟩ hk => ?_
  cases hf with | cons f1 f2 =>
  cases f2
  obtain ⟨t', rfl⟩ := f1.str_inv
  have := hI.new hk (a := a) (Heap.get?_none_of_le ha) ⟨o, ho, sdO.rel hd (.cons .nil)⟩
  exact ⟨.mk', β, .rfl, _, _, this.perm (List.Perm.swap ..), .raw _, h a⟩
end
end Mine

namespace Mine
open PySem PySem.W PySem.Calls PyProof.Rows

/-! names told apart quickly -/
noncomputable def natsB : List Nat → List Nat → Bool
  | [], [] => true
  | a :: l, b :: m => match Nat.beq a b with | true => natsB l m | false => false
  | _, _ => false
theorem natsB_eq : ∀ {l m : List Nat}, natsB l m = true ↔ l = m
  | [], [] => by simp [natsB]
  | [], _ :: _ => by simp [natsB]
  | _ :: _, [] => by simp [natsB]
  | a :: l, b :: m => by
    unfold natsB
    cases h : Nat.beq a b with
    | true => have := Nat.eq_of_beq_eq_true h; subst this; simp [natsB_eq]
    | false => have := Nat.ne_of_beq_eq_false h; simp [this]
noncomputable def natKey : List Nat → Nat → Nat
  | [], acc => acc
  | c :: l, acc => natKey l (acc * 256 + c)
noncomputable def strKey (a : Str) : Nat := natKey a.cps.toList 1
noncomputable def strQ (a b : Str) : Bool := match Nat.beq (strKey a) (strKey b) with | false => false | true => natsB a.cps.toList b.cps.toList
theorem strQ_eq {a b : Str} : strQ a b = true ↔ a = b := by
  unfold strQ
  cases h : Nat.beq (strKey a) (strKey b) with
  | false => exact Iff.intro (fun q => nomatch q) (fun e => by rw [e] at h; exact absurd rfl (Nat.ne_of_beq_eq_false h))
  | true =>
    show natsB a.cps.toList b.cps.toList = true ↔ a = b
    refine natsB_eq.trans (Iff.intro (fun e => ?_) (fun e => by rw [e]))
    cases a
    cases b
    exact congrArg Str.mk (Array.toList_inj.mp e)
theorem strQ_ne {a b : Str} (h : strQ a b = false) : a ≠ b := fun e => by rw [strQ_eq.mpr e] at h; cases h
noncomputable def lookQ {α : Type} (x : Str) : List (Str × α) → Option α
  | [] => none
  | (m, v) :: r => match strQ m x with | true => some v | false => lookQ x r
theorem lookQ_eq {α : Type} {x : Str} : ∀ {l : List (Str × α)}, lookQ x l = l.lookup x
  | [] => rfl
  | (m, v) :: r => by
    unfold lookQ
    rw [List.lookup_cons]
    cases h : strQ m x with
    | true => rw [strQ_eq.mp h]; simp
    | false => rw [show (x == m) = false from beq_false_of_ne (fun e => strQ_ne h e.symm)]; exact lookQ_eq
noncomputable def lookV (x : Str) : Loc → Option V
  | [] => none
  | (m, v) :: r => match strQ m x with | true => v | false => lookV x r
theorem lookV_mem {x : Str} {v : V} : ∀ {σ : Loc}, lookV x σ = some v → (x, some v) ∈ σ
  | [], h => by cases h
  | (m, w) :: r, h => by
    unfold lookV at h
    cases e : strQ m x with
    | true => rw [e] at h; dsimp only at h; rw [strQ_eq.mp e, h]; exact .head _
    | false => rw [e] at h; exact .tail _ (lookV_mem h)
noncomputable def storeK (n : Str) (v : V) : Loc → (Loc → Prop) → Prop
  | [], _ => False
  | (m, o) :: r, k => match strQ m n with | true => k ((m, some v) :: r) | false => storeK n v r fun r' => k ((m, o) :: r')
theorem storeK_spec {n : Str} {v : V} : ∀ {σ : Loc} {k : Loc → Prop}, storeK n v σ k → ∃ σ', StoreL n v σ σ' ∧ k σ'
  | [], _, h => h.elim
  | (m, o) :: r, k, h => by
    unfold storeK at h
    cases e : strQ m n with
    | true => rw [e] at h; have := strQ_eq.mp e; subst this; exact ⟨_, .head, h⟩
    | false =>
      rw [e] at h
      obtain ⟨σ', s, q⟩ := storeK_spec h
      exact ⟨_, .tail s, q⟩
noncomputable def revK {α : Type} : List α → List α → (List α → Prop) → Prop
  | [], l, k => k l
  | a :: r, l, k => revK r (a :: l) k
theorem revK_spec {α : Type} : ∀ {a l : List α} {k : List α → Prop}, revK a l k → k (a.reverse ++ l)
  | [], l, k, h => h
  | a :: r, l, k, h => by
    have := revK_spec (a := r) h
    simpa using this
noncomputable def short {α : Type} : Nat → List α → Bool
  | _, [] => true
  | 0, _ :: _ => false
  | n + 1, _ :: r => short n r
theorem short_len {α : Type} : ∀ {n : Nat} {l : List α}, short n l = true → l.length ≤ n
  | _, [], _ => Nat.zero_le _
  | 0, _ :: _, h => by cases h
  | n + 1, _ :: r, h => Nat.succ_le_succ (short_len (l := r) h)

/-! what the outside names of the text are -/
noncomputable def GOk (P : Par) (G : List (Str × V)) : Prop := ∀ x v, lookQ x G = some v → Glob P x v ∨ ∃ w, v = .raw w ∧ Bi P x w
theorem GOk.nil {P : Par} : GOk P [] := fun _ _ h => by cases h
theorem GOk.g {P : Par} {G : List (Str × V)} {x : Str} {v : V} (h : Glob P x v) (g : GOk P G) : GOk P ((x, v) :: G) := fun y w e => by
  unfold lookQ at e
  cases q : strQ x y with
  | true => rw [q] at e; cases e; rw [← strQ_eq.mp q]; exact .inl h
  | false => rw [q] at e; exact g y w e
theorem GOk.b {P : Par} {G : List (Str × V)} {x : Str} {v : Value} (h : Bi P x v) (g : GOk P G) : GOk P ((x, .raw v) :: G) := fun y w e => by
  unfold lookQ at e
  cases q : strQ x y with
  | true => rw [q] at e; cases e; rw [← strQ_eq.mp q]; exact .inr ⟨_, rfl, h⟩
  | false => rw [q] at e; exact g y w e
structure EnvOk (env : Env) : Prop where
  kind : env.scope.kind = .function
  glob : env.globals = mainGlobals
  blt : env.builtins = builtinsNs
noncomputable def kindQ (env : Env) (x : Str) : Option NameKind := lookQ x env.scope.names
theorem kindQ_eq {env : Env} {x : Str} : kindQ env x = env.kindOf x := lookQ_eq

/-! shapes of the text -/
noncomputable def isNo (e : Expr) (n : Nat) : Bool := Nat.beq e.ctorIdx n
noncomputable def noStar (e : Expr) : Bool := match isNo e 22 with | true => false | false => true
noncomputable def noStars : List Expr → Bool
  | [] => true
  | e :: r => match noStar e with | true => noStars r | false => false
noncomputable def named : List Keyword → Bool
  | [] => true
  | kw :: r => match kw.arg.isSome with | true => named r | false => false
theorem star_cons {env : Env} : ∀ {e : Expr} {r : List Expr}, noStar e = true → starEach (e :: r) env = (false, eval e env) :: starEach r env ∧ assignEach (e :: r) env = (false, assign e env) :: assignEach r env := by
  intro e r h
  cases e <;> first | exact ⟨rfl, rfl⟩ | exact nomatch h
theorem noStars_c {e : Expr} {r : List Expr} (h : noStars (e :: r) = true) : noStar e = true ∧ noStars r = true := by
  unfold noStars at h
  cases q : noStar e with
  | false => rw [q] at h; cases h
  | true => rw [q] at h; exact ⟨rfl, h⟩
theorem named_c {e : Keyword} {r : List Keyword} (h : named (e :: r) = true) : e.arg.isSome = true ∧ named r = true := by
  unfold named at h
  cases q : e.arg.isSome with
  | false => rw [q] at h; cases h
  | true => rw [q] at h; exact ⟨rfl, h⟩
theorem stars_none {env : Env} {pos : Pos} : ∀ {l : List Expr}, noStars l = true → (backTo pos (starEach l env)).any (·.1) = false
  | [], _ => rfl
  | e :: r, h => by rw [(star_cons (noStars_c h).1).1]; exact stars_none (noStars_c h).2
theorem stars_all {env : Env} {pos : Pos} : ∀ {l : List Expr}, noStars l = true → (backTo pos (starEach l env)).all (!·.1) = true
  | [], _ => rfl
  | e :: r, h => by rw [(star_cons (noStars_c h).1).1]; exact stars_all (noStars_c h).2
theorem named_all {env : Env} {pos : Pos} : ∀ {l : List Keyword}, named l = true → (backToKw pos (keywordEach l env)).all (·.1.isSome) = true
  | [], _ => rfl
  | ⟨n, v, p⟩ :: r, h => by
    show (n.isSome && (backToKw pos (keywordEach r env)).all (·.1.isSome)) = true
    rw [(named_c h).1, named_all (named_c h).2]
    rfl
noncomputable def plainFn (e : Expr) : Bool := match isNo e 20 with | true => false | false => true
theorem plain_call {env : Env} {f : Expr} {args : List Expr} {kws : List Keyword} {pos : Pos} (h : plainFn f = true) :
    eval (.Call f args kws pos) env = (do callWith pos (← eval f env) [] (backTo pos (starEach args env)) (backToKw pos (keywordEach kws env))) := by
  cases f <;> first | rfl | exact nomatch h
noncomputable def notCall : Expr → Bool
  | .Call f args _ _ => match isNo f 23 with | false => true | true => match args with | [] => false | _ :: _ => true
  | _ => true
theorem base_same {env : Env} {o : Expr} {name : Str} {m : Sem Value} (h : notCall o = true) : attributeBase o name env m = m := by
  cases o with
  | Call f args kws pos => cases f <;> first | rfl | (cases args <;> first | rfl | exact nomatch h)
  | _ => rfl
noncomputable def fewK (args : List Expr) (kws : List Keyword) (apos pos : Pos) : Bool := short 20 args && short 5 kws && Nat.beq apos.endLine pos.line
theorem few_form {env : Env} {pos : Pos} {args : List Expr} {kws : List Keyword} (h1 : noStars args = true) (h2 : named kws = true) (l1 : args.length ≤ 20) (l2 : kws.length ≤ 5) :
    methodCallForm (args.length + kws.length) (backTo pos (starEach args env)) (backToKw pos (keywordEach kws env)) = true := by
  unfold methodCallForm
  rw [stars_all h1, named_all h2, Bool.true_and, Bool.true_and, decide_eq_true_eq]
  exact Nat.lt_of_le_of_lt (Nat.add_le_add (Nat.add_le_add l1 l2) (b := _) (d := 1) (by split <;> decide)) (by decide)
theorem meth_call {env : Env} {o : Expr} {name : Str} {apos pos : Pos} {args : List Expr} {kws : List Keyword} (h1 : noStars args = true) (h2 : named kws = true) (h3 : fewK args kws apos pos = true) (h4 : notCall o = true) :
    ∃ pl, eval (.Call (.Attribute o name apos) args kws pos) env = (do
      let ov ← eval o env
      standAt apos.atName
      let (f, first) ← holding [ov] (getMethod ov name pl)
      callWith pos f first (backTo pos (starEach args env)) (backToKw pos (keywordEach kws env))) := by
  unfold fewK at h3
  rw [Bool.and_eq_true, Bool.and_eq_true] at h3
  have hp : methodCallPos true o env apos pos = pure pos := by
    unfold methodCallPos
    rw [show (apos.endLine == pos.line) = true from by rw [beq_iff_eq]; exact Nat.eq_of_beq_eq_true h3.2]
    rfl
  rw [arm_eval_Call, base_same h4]
  unfold methodCall
  rw [few_form h1 h2 (short_len h3.1.1) (short_len h3.1.2), hp]
  exact ⟨_, rfl⟩
noncomputable def isComp (e : Expr) : Bool := Nat.ble 8 e.ctorIdx && Nat.ble e.ctorIdx 10
theorem comp_no {env : Env} {value : Expr} {t : Option Expr} {n : Nat} (h : isComp value = false) : swapsWith value t n env = pure false := by
  cases value <;> first | rfl | exact nomatch h
theorem isList_is {e : Expr} (h : isNo e 8 = true) : ∃ a b c d, e = .ListComp a b c d := by
  cases e <;> first | exact ⟨_, _, _, _, rfl⟩ | exact nomatch h
theorem isName_is {e : Expr} (h : isNo e 23 = true) : ∃ a b, e = .Name a b := by
  cases e <;> first | exact ⟨_, _, rfl⟩ | exact nomatch h
noncomputable def compFree (env : Env) (t value : Expr) : Bool := match isComp value with
  | false => true
  | true => match isNo value 8 with
    | false => false
    | true => match t with
      | .Name x _ => (kindQ env x).isSome && !(kindQ env x == some .local)
      | _ => false
theorem compFree_no {env : Env} {t value : Expr} {n : Nat} (h : compFree env t value = true) : swapsWith value (some t) n env = pure false := by
  unfold compFree at h
  cases q : isComp value with
  | false => exact comp_no q
  | true =>
    cases q2 : isNo value 8 with
    | false => rw [q, q2] at h; exact nomatch h
    | true =>
      rw [q, q2] at h
      cases q3 : isNo t 23 with
      | false => cases t <;> first | exact (Bool.false_ne_true h).elim | exact nomatch q3
      | true =>
        obtain ⟨x, p, rfl⟩ := isName_is q3
        have h2 : ((kindQ env x).isSome && !(kindQ env x == some .local)) = true := h
        rw [Bool.and_eq_true, Bool.not_eq_true', kindQ_eq] at h2
        obtain ⟨a, b, c, d, rfl⟩ := isList_is q2
        show (pure _ : Sem Bool) = _
        rw [h2.2, Bool.and_false, Bool.false_and, Bool.false_and]
noncomputable def plainT (t value : Expr) : Bool := match isNo t 25 with
  | true => !isNo value 25
  | false => isNo t 23 || isNo t 20 || isNo t 21
theorem tup_swap {env : Env} {ts : List Expr} {k : Nat} {p : Pos} {value : Expr} (h : isNo value 25 = false) : swappedStores [.Tuple ts k p] value env = pure none := by
  cases value <;> first | rfl | exact nomatch h
theorem plainT_swap {env : Env} {t value : Expr} (h : plainT t value = true) : swappedStores [t] value env = pure none ∧ assignEach [t] env = [(false, assign t env)] := by
  cases t with
  | Name => exact ⟨rfl, rfl⟩
  | Attribute => exact ⟨rfl, rfl⟩
  | Subscript => exact ⟨rfl, rfl⟩
  | Tuple ts k p => exact ⟨tup_swap (Bool.not_eq_true' _ ▸ (h : (!isNo value 25) = true)), rfl⟩
  | _ => exact nomatch h
theorem as_all {env : Env} : ∀ {l : List Expr}, noStars l = true → assignEach l env = l.map fun t => (false, assign t env)
  | [], _ => rfl
  | e :: r, h => by rw [(star_cons (noStars_c h).1).2, as_all (noStars_c h).2]; rfl
theorem name_let {o : Expr} {n : Str} {env : Env} {m : Sem Value} (h : isNo o 23 = true) : attributeBase o n env m = m ∧ ∀ a b, letTemporaryGo o a b = pure () := by
  obtain ⟨x, p, rfl⟩ := isName_is h
  exact ⟨rfl, fun _ _ => rfl⟩
noncomputable def valTest (e : Expr) : Bool := match e.ctorIdx with | 0 => false | 3 => false | 5 => false | 15 => false | _ => true
theorem val_test {env : Env} {e : Expr} (h : valTest e = true) : isTrue e env (eval e env) = (do let v ← eval e env; standAt e.pos; holding [v] (truthy v)) := by
  cases e <;> first | rfl | exact nomatch h
theorem fn_quiet {env : Env} (h : EnvOk env) : interactive env = false := by
  unfold interactive
  rw [h.kind]
  rfl
end Mine

set_option genSizeOf false
set_option genInjectivity false
namespace Mine
open PySem PySem.W PySem.Calls PyProof.Rows

inductive Frm where
  | binR (op : Operator) (r : Expr) | binD (op : Operator) (a : V) | un (op : UnaryOp) | cmpR (op : CmpOp) (r : Expr) | cmpD (op : CmpOp) (a : V)
  | ifx (b o : Expr) | andR (y : Expr) | truth | notB | notV | allA (rest : List Expr) | allO (rest : List Expr)
  | meth (name : Str) (args : List Expr) (kws : List Keyword) | args (f : V) (acc : List V) (rest : List Expr) (kws : List Keyword) | kwarg (f : V) (all : List V) (acc : List (Str × V)) (name : Str) (rest : List Keyword)
  | callF (args : List Expr) (kws : List Keyword)
  | tupE (acc : List V) (rest : List Expr) | lstE (acc : List V) (rest : List Expr)
  | subR (value slice : Expr) | subD (value slice : Expr) (o : V) | attr (name : Str)
  | asg (t : Expr) | drop | ret | ifS (b o : List Stmt) | aug (id : Str) (op : Operator) (v : V) | seq (rest : List Stmt)
  | asT (ts : List Expr) (vs : List V) | fin | setO (i : Expr) (v : V) | setI (o v : V)
inductive Md where
  | ev (e : Expr) | is (e : Expr) | andF (es : List Expr) | orF (es : List Expr) | ex (st : Stmt) | exs (sts : List Stmt) | as (t : Expr) (v : V) | ass (ts : List Expr) (vs : List V)
  | argsF (f : V) (acc : List V) (rest : List Expr) (kws : List Keyword) | kwF (f : V) (all : List V) (acc : List (Str × V)) (rest : List Keyword) | tupF (acc : List V) (rest : List Expr) | lstF (acc : List V) (rest : List Expr)
  | store (id : Str) (v : V)
  | val (v : V) | bool (b : Bool) | flow (f : Fl) | stored
inductive En where
  | ev (Q : V → Led → Prop) | is (Q : Bool → Led → Prop) | ex (Q : Fl → Loc → Led → Prop) | as (Q : Loc → Led → Prop)

section
variable (P : Par) (d : Nat) (env : Env) (E : En)
noncomputable abbrev callK (kw : List Keyword) (σ : Loc) (f : V) (vs : List V) (k : V → Led → Prop) : Led → Prop := fun μ => kwsOk P d env σ μ kw fun ks μ3 => Keep P μ3 f ∧ callOk P d μ3 f vs ks k

noncomputable def resE : Md → Loc → Led → Prop := fun md σ μ => match md with
  | .val v => match E with | .ev Q => Q v μ | _ => False
  | .bool b => match E with | .is Q => Q b μ | _ => False
  | .flow f => match E with | .ex Q => Q f σ μ | _ => False
  | .stored => match E with | .as Q => Q σ μ | _ => False
  | _ => False
noncomputable def res : List Frm → Md → Loc → Led → Prop
  | [], md, σ, μ => resE E md σ μ
  | fr :: K, .val v, σ, μ => match fr with
    | .binR op r => evOk P d env σ μ r fun b μ2 => binOk P d μ2 op v b fun c μ3 => res K (.val c) σ μ3
    | .binD op a => binOk P d μ op a v fun c μ3 => res K (.val c) σ μ3
    | .un op => unOk P d μ op v fun c μ3 => res K (.val c) σ μ3
    | .cmpR op r => evOk P d env σ μ r fun b μ2 => cmpOk P d μ2 op v b fun c μ3 => res K (.val c) σ μ3
    | .cmpD op a => cmpOk P d μ op a v fun c μ3 => res K (.val c) σ μ3
    | .andR y => truOk P d μ v fun b μ2 => if b then evOk P d env σ μ2 y fun c μ3 => res K (.val c) σ μ3 else res K (.val v) σ μ2
    | .truth => truOk P d μ v fun b μ2 => res K (.bool b) σ μ2
    | .meth name args kws => methOk P d μ v name fun fx μ2 => evsOk P d env σ μ2 args fun vs μ3 => callK P d env kws σ fx.1 (fx.2 ++ vs) (fun c μ4 => res K (.val c) σ μ4) μ3
    | .callF args kws => evsOk P d env σ μ args fun vs μ3 => callK P d env kws σ v vs (fun c μ4 => res K (.val c) σ μ4) μ3
    | .args f acc rest kws => evsOk P d env σ μ rest fun vs μ3 => callK P d env kws σ f ((v :: acc).reverse ++ vs) (fun c μ4 => res K (.val c) σ μ4) μ3
    | .kwarg f all acc name rest => kwsOk P d env σ μ rest fun ks μ3 => Keep P μ3 f ∧ callOk P d μ3 f all (((name, v) :: acc).reverse ++ ks) fun c μ4 => res K (.val c) σ μ4
    | .tupE acc rest => evsOk P d env σ μ rest fun vs μ2 => ((v :: acc).reverse ++ vs).length ≤ sizeLine ∧ res K (.val (.tup ((v :: acc).reverse ++ vs))) σ μ2
    | .lstE acc rest => evsOk P d env σ μ rest fun vs μ2 => ((v :: acc).reverse ++ vs).length ≤ sizeLine ∧ ∀ l, res K (.val (R l)) σ ((l, .list ((v :: acc).reverse ++ vs)) :: μ2)
    | .subR value slice => evOk P d env σ μ slice fun i μ2 => subOk P d μ2 value slice v i fun c μ3 => res K (.val c) σ μ3
    | .subD value slice o => subOk P d μ value slice o v fun c μ3 => res K (.val c) σ μ3
    | .attr name => getOk P d μ v name fun c μ3 => res K (.val c) σ μ3
    | .asg t => asOk P d env σ μ t v fun σ2 μ2 => res K (.flow .next) σ2 μ2
    | .drop => res K (.flow .next) σ μ
    | .ret => res K (.flow (.ret v)) σ μ
    | .aug id op w => inOk P d μ op w v fun r μ2 => ∃ σ', StoreL id r σ σ' ∧ res K (.flow .next) σ' μ2
    | .setO i w => evOk P d env σ μ i fun iv μ2 => setOk P d μ2 v iv w fun μ3 => res K .stored σ μ3
    | .setI o w => setOk P d μ o v w fun μ3 => res K .stored σ μ3
    | _ => False
  | fr :: K, .bool c, σ, μ => match fr with
    | .ifx b o => if c then evOk P d env σ μ b fun v μ2 => res K (.val v) σ μ2 else evOk P d env σ μ o fun v μ2 => res K (.val v) σ μ2
    | .notB => res K (.bool (!c)) σ μ
    | .notV => res K (.val (.bool (!c))) σ μ
    | .allA rest => if c then allOk P d env σ μ .And rest fun b μ2 => res K (.bool b) σ μ2 else res K (.bool false) σ μ
    | .allO rest => if c then res K (.bool true) σ μ else allOk P d env σ μ .Or rest fun b μ2 => res K (.bool b) σ μ2
    | .ifS b o => if c then exsOk P d env σ μ b fun f σ2 μ2 => res K (.flow f) σ2 μ2 else exsOk P d env σ μ o fun f σ2 μ2 => res K (.flow f) σ2 μ2
    | _ => False
  | fr :: K, .flow f, σ, μ => match fr with
    | .seq rest => match f with
      | .next => exsOk P d env σ μ rest fun f σ2 μ2 => res K (.flow f) σ2 μ2
      | f => res K (.flow f) σ μ
    | _ => False
  | fr :: K, .stored, σ, μ => match fr with
    | .asT ts vs => assOk P d env σ μ ts vs fun σ2 μ2 => res K .stored σ2 μ2
    | .fin => res K (.flow .next) σ μ
    | _ => False
  | _ :: _, _, _, _ => False

noncomputable def sem (K : List Frm) : Md → Loc → Led → Prop := fun md σ μ => match md with
  | .ev e => evOk P d env σ μ e fun v μ2 => res P d env E K (.val v) σ μ2
  | .is e => isOk P d env σ μ e fun b μ2 => res P d env E K (.bool b) σ μ2
  | .andF es => allOk P d env σ μ .And es fun b μ2 => res P d env E K (.bool b) σ μ2
  | .orF es => allOk P d env σ μ .Or es fun b μ2 => res P d env E K (.bool b) σ μ2
  | .ex st => exOk P d env σ μ st fun f σ2 μ2 => res P d env E K (.flow f) σ2 μ2
  | .exs sts => exsOk P d env σ μ sts fun f σ2 μ2 => res P d env E K (.flow f) σ2 μ2
  | .as t v => asOk P d env σ μ t v fun σ2 μ2 => res P d env E K .stored σ2 μ2
  | .ass ts vs => assOk P d env σ μ ts vs fun σ2 μ2 => res P d env E K .stored σ2 μ2
  | .argsF f acc rest kws => evsOk P d env σ μ rest fun vs μ3 => callK P d env kws σ f (acc.reverse ++ vs) (fun v μ2 => res P d env E K (.val v) σ μ2) μ3
  | .kwF f all acc rest => kwsOk P d env σ μ rest fun ks μ3 => Keep P μ3 f ∧ callOk P d μ3 f all (acc.reverse ++ ks) fun v μ2 => res P d env E K (.val v) σ μ2
  | .tupF acc rest => evsOk P d env σ μ rest fun vs μ2 => (acc.reverse ++ vs).length ≤ sizeLine ∧ res P d env E K (.val (.tup (acc.reverse ++ vs))) σ μ2
  | .lstF acc rest => evsOk P d env σ μ rest fun vs μ2 => (acc.reverse ++ vs).length ≤ sizeLine ∧ ∀ l, res P d env E K (.val (R l)) σ ((l, .list (acc.reverse ++ vs)) :: μ2)
  | .store id v => ∃ σ', StoreL id v σ σ' ∧ res P d env E K (.flow .next) σ' μ
  | md => res P d env E K md σ μ
/-! the ways on, by name -/
noncomputable abbrev toV (K : List Frm) (σ : Loc) : V → Led → Prop := fun v μ => sem P d env E K (.val v) σ μ
noncomputable abbrev toB (K : List Frm) (σ : Loc) : Bool → Led → Prop := fun b μ => sem P d env E K (.bool b) σ μ
noncomputable abbrev toF (K : List Frm) : Fl → Loc → Led → Prop := fun f σ μ => sem P d env E K (.flow f) σ μ
noncomputable abbrev toS (K : List Frm) : Loc → Led → Prop := fun σ μ => sem P d env E K .stored σ μ
noncomputable abbrev toT (K : List Frm) (σ : Loc) : Led → Prop := fun μ => sem P d env E K .stored σ μ
noncomputable abbrev toM (K : List Frm) (σ : Loc) (args : List Expr) (kws : List Keyword) : V × List V → Led → Prop := fun fx μ => sem P d env E K (.argsF fx.1 fx.2.reverse args kws) σ μ
noncomputable abbrev toA (K : List Frm) (σ : Loc) (id : Str) : V → Led → Prop := fun r μ => sem P d env E K (.store id r) σ μ
end

structure Leaf {α : Type} (q : α → Prop) (a : α) : Prop where
  out : q a
structure Leaf2 {α β : Type} (q : α → β → Prop) (a : α) (b : β) : Prop where
  out : q a b
structure Leaf3 {α β γ : Type} (q : α → β → γ → Prop) (a : α) (b : β) (c : γ) : Prop where
  out : q a b c
noncomputable abbrev AllA (q : Addr → Prop) : Prop := ∀ l, q l
structure Halt (p : Prop) : Prop where
  out : p

section
variable (P : Par) (d : Nat) (env : Env) (G : List (Str × V)) (E : En)
noncomputable abbrev Go := List Frm → Md → Loc → Led → Prop

noncomputable def haltV (K : List Frm) (e : Expr) (σ : Loc) (μ : Led) : Prop := Leaf Halt (evOk P d env σ μ e (toV P d env E K σ))
noncomputable def haltX (K : List Frm) (e : Stmt) (σ : Loc) (μ : Led) : Prop := Leaf Halt (exOk P d env σ μ e (toF P d env E K))
noncomputable def intF (b : V) (k : Int → Prop) (no : Prop) : Prop := match b with | .int y => k y | _ => no
noncomputable def binF (g : Go) (K : List Frm) (op : Operator) (a b : V) (σ : Loc) (μ : Led) : Prop := match op with
  | .Add => intF a (fun x => intF b (fun y => g K (.val (.int (x + y))) σ μ) (Leaf (binOk P d μ .Add a b) (toV P d env E K σ))) (Leaf (binOk P d μ .Add a b) (toV P d env E K σ))
  | .Sub => intF a (fun x => intF b (fun y => g K (.val (.int (x - y))) σ μ) (Leaf (binOk P d μ .Sub a b) (toV P d env E K σ))) (Leaf (binOk P d μ .Sub a b) (toV P d env E K σ))
  | op => Leaf (binOk P d μ op a b) (toV P d env E K σ)
noncomputable def strF (b : V) (k : List Nat → Prop) (no : Prop) : Prop := match b with | .str y => k y | _ => no
noncomputable def eqF (g : Go) (K : List Frm) (a b : V) (σ : Loc) (μ : Led) : Prop := match a with
  | .int x => intF b (fun y => g K (.val (.bool (x == y))) σ μ) (Leaf (cmpOk P d μ .Eq a b) (toV P d env E K σ))
  | .str x => strF b (fun y => g K (.val (.bool (x == y))) σ μ) (Leaf (cmpOk P d μ .Eq a b) (toV P d env E K σ))
  | _ => Leaf (cmpOk P d μ .Eq a b) (toV P d env E K σ)
noncomputable def neF (g : Go) (K : List Frm) (a b : V) (σ : Loc) (μ : Led) : Prop := match a with
  | .int x => intF b (fun y => g K (.val (.bool (x != y))) σ μ) (Leaf (cmpOk P d μ .NotEq a b) (toV P d env E K σ))
  | .str x => strF b (fun y => g K (.val (.bool (x != y))) σ μ) (Leaf (cmpOk P d μ .NotEq a b) (toV P d env E K σ))
  | _ => Leaf (cmpOk P d μ .NotEq a b) (toV P d env E K σ)
noncomputable def noneV : V → Option Bool
  | .none => some true
  | .str _ => some false
  | .raw (.ref _) => some false
  | _ => none
noncomputable def isNone (b : V) : Bool := match b with | .none => true | _ => false
noncomputable def cmpF (g : Go) (K : List Frm) (op : CmpOp) (a b : V) (σ : Loc) (μ : Led) : Prop := match op with
  | .Eq => eqF P d env E g K a b σ μ
  | .NotEq => neF P d env E g K a b σ μ
  | .Lt => intF a (fun x => intF b (fun y => g K (.val (.bool (decide (x < y)))) σ μ) (Leaf (cmpOk P d μ .Lt a b) (toV P d env E K σ))) (Leaf (cmpOk P d μ .Lt a b) (toV P d env E K σ))
  | .Gt => intF a (fun x => intF b (fun y => g K (.val (.bool (decide (y < x)))) σ μ) (Leaf (cmpOk P d μ .Gt a b) (toV P d env E K σ))) (Leaf (cmpOk P d μ .Gt a b) (toV P d env E K σ))
  | .LtE => intF a (fun x => intF b (fun y => g K (.val (.bool (decide (x ≤ y)))) σ μ) (Leaf (cmpOk P d μ .LtE a b) (toV P d env E K σ))) (Leaf (cmpOk P d μ .LtE a b) (toV P d env E K σ))
  | .GtE => intF a (fun x => intF b (fun y => g K (.val (.bool (decide (y ≤ x)))) σ μ) (Leaf (cmpOk P d μ .GtE a b) (toV P d env E K σ))) (Leaf (cmpOk P d μ .GtE a b) (toV P d env E K σ))
  | .Is => match isNone b, noneV a with
    | true, some c => g K (.val (.bool c)) σ μ
    | _, _ => Leaf (cmpOk P d μ .Is a b) (toV P d env E K σ)
  | .IsNot => match isNone b, noneV a with
    | true, some c => g K (.val (.bool (!c))) σ μ
    | _, _ => Leaf (cmpOk P d μ .IsNot a b) (toV P d env E K σ)
  | op => Leaf (cmpOk P d μ op a b) (toV P d env E K σ)
noncomputable def truF (g : Go) (K : List Frm) (a : V) (σ : Loc) (μ : Led) : Prop := match a with
  | .bool b => g K (.bool b) σ μ
  | .int i => g K (.bool (i != 0)) σ μ
  | .none => g K (.bool false) σ μ
  | a => Leaf (truOk P d μ a) (toB P d env E K σ)
noncomputable def unF (g : Go) (K : List Frm) (op : UnaryOp) (a : V) (σ : Loc) (μ : Led) : Prop := match op with
  | .Not => truF P d env E g (.notV :: K) a σ μ
  | .USub => intF a (fun x => g K (.val (.int (-x))) σ μ) (Leaf (unOk P d μ .USub a) (toV P d env E K σ))
  | .Invert => intF a (fun x => g K (.val (.int (Builtin.bitNot x))) σ μ) (Leaf (unOk P d μ .Invert a) (toV P d env E K σ))
  | op => Leaf (unOk P d μ op a) (toV P d env E K σ)
noncomputable def callF (K : List Frm) (f : V) (all : List V) (kw : List (Str × V)) (σ : Loc) (μ : Led) : Prop := match f with
  | .raw (.builtin id) => Leaf (callOk P d μ (.raw (.builtin id)) all kw) (toV P d env E K σ)
  | .raw (.type id) => Leaf (callOk P d μ (.raw (.type id)) all kw) (toV P d env E K σ)
  | .raw x => Leaf (And (Keep P μ (.raw x))) (callOk P d μ (.raw x) all kw (toV P d env E K σ))
  | f => Leaf (And (Keep P μ f)) (callOk P d μ f all kw (toV P d env E K σ))
noncomputable def strMeth (name : Str) : Option String := lookQ name [("lower", "str.lower"), ("upper", "str.upper"), ("join", "str.join"), ("index", "str.index")]
noncomputable def intMeth (name : Str) : Option String := lookQ name [("bit_length", "int.bit_length")]
noncomputable def methF (g : Go) (K : List Frm) (v : V) (name : Str) (args : List Expr) (kws : List Keyword) (σ : Loc) (μ : Led) : Prop := match v with
  | .str l => match strMeth name with
    | some id => g K (.argsF (.raw (.builtin id)) [.str l] args kws) σ μ
    | none => Leaf (methOk P d μ (.str l) name) (toM P d env E K σ args kws)
  | .int l => match intMeth name with
    | some id => g K (.argsF (.raw (.builtin id)) [.int l] args kws) σ μ
    | none => Leaf (methOk P d μ (.int l) name) (toM P d env E K σ args kws)
  | v => Leaf (methOk P d μ v name) (toM P d env E K σ args kws)
noncomputable def nameF (g : Go) (K : List Frm) (x : Str) (e : Expr) (σ : Loc) (μ : Led) : Prop := match strQ x "__debug__" with
  | true => match kindQ env x with
    | some .globalImplicit => g K (.val (.bool true)) σ μ
    | _ => haltV P d env E K e σ μ
  | false => match kindQ env x with
    | some .local => match lookV x σ with | some v => g K (.val v) σ μ | none => haltV P d env E K e σ μ
    | some .globalImplicit => match lookQ x G with | some v => g K (.val v) σ μ | none => haltV P d env E K e σ μ
    | _ => haltV P d env E K e σ μ
noncomputable def evF (g : Go) (K : List Frm) (e : Expr) (σ : Loc) (μ : Led) : Prop := match e with
  | .Constant c _ _ => match c with
    | .int i => g K (.val (.int i)) σ μ
    | .str x => g K (.val (.str x.cps.toList)) σ μ
    | .none => g K (.val .none) σ μ
    | .bool b => g K (.val (.bool b)) σ μ
    | _ => haltV P d env E K e σ μ
  | .Name x _ => nameF P d env G E g K x e σ μ
  | .BinOp l op r _ => g (.binR op r :: K) (.ev l) σ μ
  | .UnaryOp op x _ => g (.un op :: K) (.ev x) σ μ
  | .Compare l ops rs _ => match ops with
    | [op] => match rs with
      | [r] => match behindInMarks op r with | false => g (.cmpR op r :: K) (.ev l) σ μ | true => haltV P d env E K e σ μ
      | _ => haltV P d env E K e σ μ
    | _ => haltV P d env E K e σ μ
  | .IfExp t b o _ => g (.ifx b o :: K) (.is t) σ μ
  | .BoolOp op es _ => match op with
    | .And => match es with
      | [x, y] => g (.andR y :: K) (.ev x) σ μ
      | _ => haltV P d env E K e σ μ
    | .Or => haltV P d env E K e σ μ
  | .Call f args kws pos => match noStars args && named kws with
    | true => match plainFn f with
      | true => g (.callF args kws :: K) (.ev f) σ μ
      | false => match f with
        | .Attribute o name apos => match notCall o && fewK args kws apos pos with
          | true => g (.meth name args kws :: K) (.ev o) σ μ
          | false => haltV P d env E K e σ μ
        | _ => haltV P d env E K e σ μ
    | false => haltV P d env E K e σ μ
  | .Tuple es _ _ => match noStars es with | true => g K (.tupF [] es) σ μ | false => haltV P d env E K e σ μ
  | .List es _ => match noStars es with | true => g K (.lstF [] es) σ μ | false => haltV P d env E K e σ μ
  | .Subscript value slice _ => match isNo slice 26 with
    | true => haltV P d env E K e σ μ
    | false => g (.subR value slice :: K) (.ev value) σ μ
  | .Attribute o name _ => match isNo o 23 with | true => g (.attr name :: K) (.ev o) σ μ | false => haltV P d env E K e σ μ
  | e => haltV P d env E K e σ μ
noncomputable def haltI (K : List Frm) (e : Expr) (σ : Loc) (μ : Led) : Prop := Leaf Halt (isOk P d env σ μ e (toB P d env E K σ))
noncomputable def isF (g : Go) (K : List Frm) (e : Expr) (σ : Loc) (μ : Led) : Prop := match e with
  | .UnaryOp op x _ => match op with | .Not => g (.notB :: K) (.is x) σ μ | _ => haltI P d env E K e σ μ
  | .BoolOp op es _ => match op with | .And => g K (.andF es) σ μ | .Or => g K (.orF es) σ μ
  | .Compare l ops rs _ => match ops with
    | [op] => match rs with
      | [r] => match behindInMarks op r with | false => g (.cmpR op r :: .truth :: K) (.ev l) σ μ | true => haltI P d env E K e σ μ
      | _ => haltI P d env E K e σ μ
    | _ => haltI P d env E K e σ μ
  | e => match valTest e with | true => g (.truth :: K) (.ev e) σ μ | false => haltI P d env E K e σ μ
noncomputable def exF (g : Go) (K : List Frm) (st : Stmt) (σ : Loc) (μ : Led) : Prop := match st with
  | .Assign ts value _ => match ts with
    | [t] => match compFree env t value && plainT t value with
      | true => g (.asg t :: K) (.ev value) σ μ
      | false => haltX P d env E K st σ μ
    | _ => haltX P d env E K st σ μ
  | .Expr e _ => match isComp e with | false => g (.drop :: K) (.ev e) σ μ | true => haltX P d env E K st σ μ
  | .If t b o _ => g (.ifS b o :: K) (.is t) σ μ
  | .Return v _ => match v with | some e => g (.ret :: K) (.ev e) σ μ | none => g K (.flow (.ret .none)) σ μ
  | .Pass _ => g K (.flow .next) σ μ
  | .Continue _ => g K (.flow .cont) σ μ
  | .AugAssign t op value _ => match t with
    | .Name id _ => match kindQ env id with
      | some .local => match lookV id σ with
        | some v => g (.aug id op v :: K) (.ev value) σ μ
        | none => haltX P d env E K st σ μ
      | _ => haltX P d env E K st σ μ
    | _ => haltX P d env E K st σ μ
  | st => haltX P d env E K st σ μ
noncomputable def haltA (K : List Frm) (t : Expr) (v : V) (σ : Loc) (μ : Led) : Prop := Leaf Halt (asOk P d env σ μ t v (toS P d env E K))
noncomputable def asF (g : Go) (K : List Frm) (t : Expr) (v : V) (σ : Loc) (μ : Led) : Prop := match t with
  | .Name n _ => match kindQ env n with
    | some .local => storeK n v σ fun σ' => g K .stored σ' μ
    | _ => haltA P d env E K t v σ μ
  | .Tuple ts _ _ => match noStars ts with
    | true => match v with
      | .tup vs => match Nat.beq ts.length vs.length with
        | true => g K (.ass ts vs) σ μ
        | false => haltA P d env E K t v σ μ
      | _ => haltA P d env E K t v σ μ
    | false => haltA P d env E K t v σ μ
  | .Subscript o i _ => g (.setO i v :: K) (.ev o) σ μ
  | t => haltA P d env E K t v σ μ
noncomputable def valF (g : Go) : List Frm → V → Loc → Led → Prop
  | [], v, σ, μ => match E with | .ev Q => Leaf2 Q v μ | _ => False
  | fr :: K, v, σ, μ => match fr with
    | .binR op r => g (.binD op v :: K) (.ev r) σ μ
    | .binD op a => binF P d env E g K op a v σ μ
    | .un op => unF P d env E g K op v σ μ
    | .cmpR op r => g (.cmpD op v :: K) (.ev r) σ μ
    | .cmpD op a => cmpF P d env E g K op a v σ μ
    | .truth => truF P d env E g K v σ μ
    | .meth name args kws => methF P d env E g K v name args kws σ μ
    | .callF args kws => g K (.argsF v [] args kws) σ μ
    | .args f acc rest kws => g K (.argsF f (v :: acc) rest kws) σ μ
    | .kwarg f all acc name rest => g K (.kwF f all ((name, v) :: acc) rest) σ μ
    | .tupE acc rest => g K (.tupF (v :: acc) rest) σ μ
    | .lstE acc rest => g K (.lstF (v :: acc) rest) σ μ
    | .subR value slice => g (.subD value slice v :: K) (.ev slice) σ μ
    | .subD value slice o => Leaf (subOk P d μ value slice o v) (toV P d env E K σ)
    | .attr name => Leaf (getOk P d μ v name) (toV P d env E K σ)
    | .asg t => g (.fin :: K) (.as t v) σ μ
    | .drop => g K (.flow .next) σ μ
    | .ret => g K (.flow (.ret v)) σ μ
    | .aug id op w => Leaf (inOk P d μ op w v) (toA P d env E K σ id)
    | .setO i w => g (.setI v w :: K) (.ev i) σ μ
    | .setI o w => Leaf (setOk P d μ o v w) (toT P d env E K σ)
    | .andR y => Leaf (truOk P d μ v) (fun b μ2 => if b then sem P d env E K (.ev y) σ μ2 else sem P d env E K (.val v) σ μ2)
    | _ => False
noncomputable def boolF (g : Go) : List Frm → Bool → Loc → Led → Prop
  | [], b, σ, μ => match E with | .is Q => Leaf2 Q b μ | _ => False
  | fr :: K, c, σ, μ => match fr with
    | .ifx b o => Leaf (ite (c = true) (sem P d env E K (.ev b) σ μ)) (sem P d env E K (.ev o) σ μ)
    | .notB => g K (.bool (!c)) σ μ
    | .notV => g K (.val (.bool (!c))) σ μ
    | .allA rest => Leaf (ite (c = true) (sem P d env E K (.andF rest) σ μ)) (sem P d env E K (.bool false) σ μ)
    | .allO rest => Leaf (ite (c = true) (sem P d env E K (.bool true) σ μ)) (sem P d env E K (.orF rest) σ μ)
    | .ifS b o => Leaf (ite (c = true) (sem P d env E K (.exs b) σ μ)) (sem P d env E K (.exs o) σ μ)
    | _ => False
noncomputable def flowF (g : Go) : List Frm → Fl → Loc → Led → Prop
  | [], f, σ, μ => match E with | .ex Q => Leaf3 Q f σ μ | _ => False
  | fr :: K, f, σ, μ => match fr with
    | .seq rest => match f with
      | .next => g K (.exs rest) σ μ
      | f => g K (.flow f) σ μ
    | _ => False
noncomputable def storedF (g : Go) : List Frm → Loc → Led → Prop
  | [], σ, μ => match E with | .as Q => Leaf2 Q σ μ | _ => False
  | fr :: K, σ, μ => match fr with
    | .asT ts vs => g K (.ass ts vs) σ μ
    | .fin => g K (.flow .next) σ μ
    | _ => False
noncomputable def stepF (g : Go) : Go := fun K md σ μ => match md with
  | .ev e => evF P d env G E g K e σ μ
  | .is e => isF P d env E g K e σ μ
  | .andF es => match es with | [] => g K (.bool true) σ μ | x :: rest => g (.allA rest :: K) (.is x) σ μ
  | .orF es => match es with | [] => g K (.bool false) σ μ | x :: rest => g (.allO rest :: K) (.is x) σ μ
  | .ex st => exF P d env E g K st σ μ
  | .exs sts => match sts with | [] => g K (.flow .next) σ μ | st :: rest => g (.seq rest :: K) (.ex st) σ μ
  | .as t v => asF P d env E g K t v σ μ
  | .ass ts vs => match ts with
    | [] => match vs with | [] => g K .stored σ μ | _ :: _ => False
    | t :: ts => match vs with | v :: vs => g (.asT ts vs :: K) (.as t v) σ μ | [] => False
  | .argsF f acc rest kws => match rest with
    | [] => revK acc [] fun all => g K (.kwF f all [] kws) σ μ
    | e :: rest => match noStar e with | true => g (.args f acc rest kws :: K) (.ev e) σ μ | false => False
  | .kwF f all acc rest => match rest with
    | [] => revK acc [] fun kw => callF P d env E K f all kw σ μ
    | ⟨n, e, _⟩ :: rest => match n with | some n => g (.kwarg f all acc n rest :: K) (.ev e) σ μ | none => False
  | .tupF acc rest => match rest with
    | [] => revK acc [] fun all => match short 100 all with | true => g K (.val (.tup all)) σ μ | false => False
    | e :: rest => match noStar e with | true => g (.tupE acc rest :: K) (.ev e) σ μ | false => False
  | .lstF acc rest => match rest with
    | [] => revK acc [] fun all => match short 100 all with | true => Leaf AllA (fun l => sem P d env E K (.val (R l)) σ ((l, .list all) :: μ)) | false => False
    | e :: rest => match noStar e with | true => g (.lstE acc rest :: K) (.ev e) σ μ | false => False
  | .store id v => storeK id v σ fun σ' => g K (.flow .next) σ' μ
  | .val v => valF P d env E g K v σ μ
  | .bool b => boolF P d env E g K b σ μ
  | .flow f => flowF E g K f σ μ
  | .stored => storedF E g K σ μ
noncomputable def run (n : Nat) : Go := Nat.rec (fun K md σ μ => sem P d env E K md σ μ) (fun _ g => stepF P d env G E g) n
end
end Mine

namespace Mine
open PySem PySem.W PySem.Calls PyProof.Rows
section
variable {P : Par} {d : Nat} {env : Env} {G : List (Str × V)} {E : En} {g : Go} {K : List Frm} {σ : Loc} {μ : Led}
noncomputable abbrev Ih (P : Par) (d : Nat) (env : Env) (E : En) (g : Go) : Prop := ∀ K md σ μ, g K md σ μ → sem P d env E K md σ μ
theorem int_ok {b : V} {k : Int → Prop} {no R : Prop} (h : intF b k no) (h1 : ∀ y, b = .int y → k y → R) (h2 : no → R) : R := by
  cases b with
  | int y => exact h1 y rfl h
  | _ => exact h2 h
theorem str_ok {b : V} {k : List Nat → Prop} {no R : Prop} (h : strF b k no) (h1 : ∀ y, b = .str y → k y → R) (h2 : no → R) : R := by
  cases b with
  | str y => exact h1 y rfl h
  | _ => exact h2 h
theorem bin_ok (ih : Ih P d env E g) {op a b} (h : binF P d env E g K op a b σ μ) : binOk P d μ op a b (toV P d env E K σ) := by
  cases op with
  | Add => exact int_ok h (fun x e h => int_ok h (fun y e' h => e ▸ e' ▸ bin_add (ih _ _ _ _ h)) fun h => h.out) fun h => h.out
  | Sub => exact int_ok h (fun x e h => int_ok h (fun y e' h => e ▸ e' ▸ bin_sub (ih _ _ _ _ h)) fun h => h.out) fun h => h.out
  | _ => exact h.out
theorem eq_ok (ih : Ih P d env E g) {a b} (h : eqF P d env E g K a b σ μ) : cmpOk P d μ .Eq a b (toV P d env E K σ) := by
  cases a with
  | int x => exact int_ok h (fun y e' h => e' ▸ cmp_eq (ih _ _ _ _ h)) fun h => h.out
  | str x => exact str_ok h (fun y e' h => e' ▸ cmp_eqs (ih _ _ _ _ h)) fun h => h.out
  | _ => exact h.out
theorem ne_ok (ih : Ih P d env E g) {a b} (h : neF P d env E g K a b σ μ) : cmpOk P d μ .NotEq a b (toV P d env E K σ) := by
  cases a with
  | int x => exact int_ok h (fun y e' h => e' ▸ cmp_ne (ih _ _ _ _ h)) fun h => h.out
  | str x => exact str_ok h (fun y e' h => e' ▸ cmp_nes (ih _ _ _ _ h)) fun h => h.out
  | _ => exact h.out
theorem noneV_is {a : V} {c : Bool} (h : noneV a = some c) : ∀ (β : Fz) x, VRel β a x → (x == Value.none) = c := by
  cases a with
  | none => cases h; exact none_none
  | str l => cases h; exact none_str
  | raw v => cases v with
    | ref a => cases h; exact none_raw
    | _ => cases h
  | _ => cases h
theorem isNone_is {b : V} (h : isNone b = true) : b = .none := by
  cases b with
  | none => rfl
  | _ => cases h
theorem cmp_ok (ih : Ih P d env E g) {op a b} (h : cmpF P d env E g K op a b σ μ) : cmpOk P d μ op a b (toV P d env E K σ) := by
  cases op with
  | Eq => exact eq_ok ih h
  | NotEq => exact ne_ok ih h
  | Lt => exact int_ok h (fun x e h => int_ok h (fun y e' h => e ▸ e' ▸ cmp_lt (ih _ _ _ _ h)) fun h => h.out) fun h => h.out
  | Gt => exact int_ok h (fun x e h => int_ok h (fun y e' h => e ▸ e' ▸ cmp_gt (ih _ _ _ _ h)) fun h => h.out) fun h => h.out
  | LtE => exact int_ok h (fun x e h => int_ok h (fun y e' h => e ▸ e' ▸ cmp_le (ih _ _ _ _ h)) fun h => h.out) fun h => h.out
  | GtE => exact int_ok h (fun x e h => int_ok h (fun y e' h => e ▸ e' ▸ cmp_ge (ih _ _ _ _ h)) fun h => h.out) fun h => h.out
  | Is =>
    unfold cmpF at h
    dsimp only at h
    cases q1 : isNone b with
    | false => rw [q1] at h; exact h.out
    | true =>
      cases q2 : noneV a with
      | none => rw [q1, q2] at h; exact h.out
      | some c => rw [q1, q2] at h; exact isNone_is q1 ▸ cmp_isNone (noneV_is q2) (ih _ _ _ _ h)
  | IsNot =>
    unfold cmpF at h
    dsimp only at h
    cases q1 : isNone b with
    | false => rw [q1] at h; exact h.out
    | true =>
      cases q2 : noneV a with
      | none => rw [q1, q2] at h; exact h.out
      | some c => rw [q1, q2] at h; exact isNone_is q1 ▸ cmp_isNotNone (noneV_is q2) (ih _ _ _ _ h)
  | _ => exact h.out
theorem tru_ok (ih : Ih P d env E g) {a} (h : truF P d env E g K a σ μ) : truOk P d μ a (toB P d env E K σ) := by
  cases a with
  | bool b => exact tru_bool (ih _ _ _ _ h)
  | int i => exact tru_int (ih _ _ _ _ h)
  | none => exact tru_none (ih _ _ _ _ h)
  | _ => exact h.out
theorem un_ok (ih : Ih P d env E g) {op a} (h : unF P d env E g K op a σ μ) : unOk P d μ op a (toV P d env E K σ) := by
  cases op with
  | Not => exact un_not (tru_ok ih (K := .notV :: K) h)
  | USub => exact int_ok h (fun x e h => e ▸ un_neg (ih _ _ _ _ h)) fun h => h.out
  | Invert => exact int_ok h (fun x e h => e ▸ un_inv (ih _ _ _ _ h)) fun h => h.out
  | UAdd => exact h.out
theorem call_ok {f all kw} (h : callF P d env E K f all kw σ μ) : Keep P μ f ∧ callOk P d μ f all kw (toV P d env E K σ) := by
  cases f with
  | raw v => cases v with
    | builtin id => exact ⟨Keep.builtin, h.out⟩
    | type id => exact ⟨Keep.type, h.out⟩
    | _ => exact h.out
  | _ => exact h.out
theorem meth_strN {l : List Nat} {name : Str} {id : String} {Q : V × List V → Led → Prop} (e : strMeth name = some id) (h : Q (B id, [.str l]) μ) : methOk P d μ (.str l) name Q := by
  unfold strMeth at e
  simp only [lookQ] at e
  cases h1 : strQ "lower" name with
  | true => rw [h1] at e; cases e; rw [← strQ_eq.mp h1]; exact meth_str F.slot_str_lower F.type_str_lower h
  | false =>
    rw [h1] at e
    cases h2 : strQ "upper" name with
    | true => rw [h2] at e; cases e; rw [← strQ_eq.mp h2]; exact meth_str F.slot_str_upper F.type_str_upper h
    | false =>
      rw [h2] at e
      cases h3 : strQ "join" name with
      | true => rw [h3] at e; cases e; rw [← strQ_eq.mp h3]; exact meth_str F.slot_str_join F.type_str_join h
      | false =>
        rw [h3] at e
        cases h4 : strQ "index" name with
        | true => rw [h4] at e; cases e; rw [← strQ_eq.mp h4]; exact meth_str F.slot_str_index F.type_str_index h
        | false => rw [h4] at e; cases e
theorem meth_intN {l : Int} {name : Str} {id : String} {Q : V × List V → Led → Prop} (e : intMeth name = some id) (h : Q (B id, [.int l]) μ) : methOk P d μ (.int l) name Q := by
  unfold intMeth at e
  simp only [lookQ] at e
  cases h1 : strQ "bit_length" name with
  | true => rw [h1] at e; cases e; rw [← strQ_eq.mp h1]; exact meth_int F.slot_int_bit_length F.type_int_bit_length h
  | false => rw [h1] at e; cases e
noncomputable def listMeth (name : Str) : Option String := lookQ name [("append", "list.append"), ("reverse", "list.reverse"), ("pop", "list.pop"), ("extend", "list.extend"), ("count", "list.count")]
theorem meth_listN {l : Addr} {xs : List V} {name : Str} {id : String} {Q : V × List V → Led → Prop} (e : listMeth name = some id) (hm : (l, AObj.list xs) ∈ μ) (h : Q (B id, [R l]) μ) : methOk P d μ (R l) name Q := by
  unfold listMeth at e
  simp only [lookQ] at e
  cases h1 : strQ "append" name with
  | true => rw [h1] at e; cases e; rw [← strQ_eq.mp h1]; exact meth_list F.slot_list_append F.type_list_append hm h
  | false =>
    rw [h1] at e
    cases h2 : strQ "reverse" name with
    | true => rw [h2] at e; cases e; rw [← strQ_eq.mp h2]; exact meth_list F.slot_list_reverse F.type_list_reverse hm h
    | false =>
      rw [h2] at e
      cases h3 : strQ "pop" name with
      | true => rw [h3] at e; cases e; rw [← strQ_eq.mp h3]; exact meth_list F.slot_list_pop F.type_list_pop hm h
      | false =>
        rw [h3] at e
        cases h4 : strQ "extend" name with
        | true => rw [h4] at e; cases e; rw [← strQ_eq.mp h4]; exact meth_list F.slot_list_extend F.type_list_extend hm h
        | false =>
          rw [h4] at e
          cases h5 : strQ "count" name with
          | true => rw [h5] at e; cases e; rw [← strQ_eq.mp h5]; exact meth_list F.slot_list_count F.type_list_count hm h
          | false => rw [h5] at e; cases e
theorem meth_ok (ih : Ih P d env E g) {v name args kws} (h : methF P d env E g K v name args kws σ μ) : methOk P d μ v name (toM P d env E K σ args kws) := by
  cases v with
  | str l =>
    unfold methF at h
    dsimp only at h
    cases q : strMeth name with
    | none => rw [q] at h; exact h.out
    | some id => rw [q] at h; exact meth_strN q (ih _ _ _ _ h)
  | int l =>
    unfold methF at h
    dsimp only at h
    cases q : intMeth name with
    | none => rw [q] at h; exact h.out
    | some id => rw [q] at h; exact meth_intN q (ih _ _ _ _ h)
  | _ => exact h.out
theorem halt_v {e} (h : haltV P d env E K e σ μ) : evOk P d env σ μ e (toV P d env E K σ) := h.out.out
theorem halt_i {e} (h : haltI P d env E K e σ μ) : isOk P d env σ μ e (toB P d env E K σ) := h.out.out
theorem halt_x {e} (h : haltX P d env E K e σ μ) : exOk P d env σ μ e (toF P d env E K) := h.out.out
theorem halt_a {e v} (h : haltA P d env E K e v σ μ) : asOk P d env σ μ e v (toS P d env E K) := h.out.out
theorem name_ok (hG : GOk P G) (hE : EnvOk env) (ih : Ih P d env E g) {x pos} (h : nameF P d env G E g K x (.Name x pos) σ μ) : evOk P d env σ μ (.Name x pos) (toV P d env E K σ) := by
  unfold nameF at h
  rw [kindQ_eq] at h
  cases hd : strQ x "__debug__" with
  | true =>
    rw [hd] at h
    dsimp only at h
    cases hk : env.kindOf x with
    | none => rw [hk] at h; exact halt_v h
    | some k =>
      rw [hk] at h
      cases k with
      | globalImplicit => exact evOk.debug (ih _ _ _ _ h) (by rw [strQ_eq.mp hd]; exact beq_self_eq_true _)
      | _ => exact halt_v h
  | false =>
    rw [hd] at h
    dsimp only at h
    cases hk : env.kindOf x with
    | none => rw [hk] at h; exact halt_v h
    | some k =>
      rw [hk] at h
      cases k with
      | «local» =>
        dsimp only at h
        cases hv : lookV x σ with
        | none => rw [hv] at h; exact halt_v h
        | some v => rw [hv] at h; exact evOk.name (lookV_mem hv) (ih _ _ _ _ h) hE.kind hk (beq_false_of_ne (strQ_ne hd))
      | globalImplicit =>
        dsimp only at h
        cases hv : lookQ x G with
        | none => rw [hv] at h; exact halt_v h
        | some v =>
          rw [hv] at h
          rcases hG x v hv with q | ⟨w, e, q⟩
          · exact evOk.glob q (ih _ _ _ _ h) hE.kind hk hE.glob (beq_false_of_ne (strQ_ne hd))
          · exact evOk.bi q (e ▸ ih _ _ _ _ h) hE.kind hk hE.glob hE.blt (beq_false_of_ne (strQ_ne hd))
      | _ => exact halt_v h
theorem and_t {a b : Bool} (h : (a && b) = true) : a = true ∧ b = true := (Bool.and_eq_true _ _).mp h
theorem boolC {c : Bool} {A B R : Prop} (h : match c with | true => A | false => B) (h1 : c = true → A → R) (h2 : B → R) : R := by
  cases c with
  | true => exact h1 rfl h
  | false => exact h2 h
theorem boolN {c : Bool} {A B R : Prop} (h : match c with | false => A | true => B) (h1 : c = false → A → R) (h2 : B → R) : R := by
  cases c with
  | true => exact h2 h
  | false => exact h1 rfl h
theorem ev_ok (hG : GOk P G) (hE : EnvOk env) (ih : Ih P d env E g) {e} (h : evF P d env G E g K e σ μ) : evOk P d env σ μ e (toV P d env E K σ) := by
  cases e with
  | Constant c k pos =>
    cases c with
    | int i => exact evOk.cint (ih _ _ _ _ h)
    | str x => exact evOk.cstr (ih _ _ _ _ h)
    | none => exact evOk.cnone (ih _ _ _ _ h)
    | bool b => exact evOk.cbool (ih _ _ _ _ h)
    | _ => exact halt_v h
  | Name x pos => exact name_ok hG hE ih h
  | BinOp l op r pos => exact evOk.binop (ih _ _ _ _ h)
  | UnaryOp op x pos => exact evOk.unop (ih _ _ _ _ h)
  | Compare l ops rs pos =>
    rcases ops with _ | ⟨op, _ | _⟩
    · exact halt_v h
    · rcases rs with _ | ⟨r, _ | _⟩
      · exact halt_v h
      · exact boolN h (fun hb h => evOk.cmp (ih _ _ _ _ h) hb) halt_v
      · exact halt_v h
    · exact halt_v h
  | IfExp t b o pos => exact evOk.ifexp (ih _ _ _ _ h)
  | BoolOp op es pos =>
    cases op with
    | Or => exact halt_v h
    | And =>
      rcases es with _ | ⟨x, _ | ⟨y, _ | _⟩⟩
      · exact halt_v h
      · exact halt_v h
      · exact evOk.and2 (ih _ _ _ _ h)
      · exact halt_v h
  | Call f args kws pos =>
    refine boolC h (fun h1 h => ?_) halt_v
    have h1 := and_t h1
    refine boolC h (fun hf h => evOk.call (ih _ _ _ _ h) (fun _ => stars_none h1.1) (fun _ => named_all h1.2) (plain_call hf)) (fun h => ?_)
    cases f with
    | Attribute o name apos => exact boolC h (fun h3 h => evOk.meth' (ih _ _ _ _ h) (fun _ => stars_none h1.1) (fun _ => named_all h1.2) (meth_call h1.1 h1.2 (and_t h3).2 (and_t h3).1)) halt_v
    | _ => exact halt_v h
  | Tuple es k pos => exact boolC h (fun _ h => evOk.tuple (ih _ _ _ _ h)) halt_v
  | List es pos => exact boolC h (fun _ h => evOk.list (ih _ _ _ _ h)) halt_v
  | Subscript value slice pos => exact boolC h (fun _ h => halt_v h) (fun h => evOk.sub (ih _ _ _ _ h))
  | Attribute o name pos => exact boolC h (fun hn h => evOk.attr (ih _ _ _ _ h) (name_let hn).1 (name_let (n := name) (m := eval o env) (env := env) hn).2) halt_v
  | _ => exact halt_v h
theorem valt_ok (ih : Ih P d env E g) {e} (h : match valTest e with | true => g (.truth :: K) (.ev e) σ μ | false => haltI P d env E K e σ μ) : isOk P d env σ μ e (toB P d env E K σ) :=
  boolC h (fun q h => isOk.val (ih (.truth :: K) (.ev e) σ μ h) (val_test q)) halt_i
theorem is_ok (ih : Ih P d env E g) {e} (h : isF P d env E g K e σ μ) : isOk P d env σ μ e (toB P d env E K σ) := by
  cases e with
  | UnaryOp op x pos => cases op with
    | Not => exact isOk.not (ih _ _ _ _ h)
    | _ => exact halt_i h
  | BoolOp op es pos => cases op with
    | And => exact isOk.boolop (ih _ _ _ _ h)
    | Or => exact isOk.boolop (ih _ _ _ _ h)
  | Compare l ops rs pos =>
    rcases ops with _ | ⟨op, _ | _⟩
    · exact halt_i h
    · rcases rs with _ | ⟨r, _ | _⟩
      · exact halt_i h
      · exact boolN h (fun hb h => isOk.cmp (ih _ _ _ _ h) hb) halt_i
      · exact halt_i h
    · exact halt_i h
  | _ => exact valt_ok ih h
theorem ex_ok (hE : EnvOk env) (ih : Ih P d env E g) {st} (h : exF P d env E g K st σ μ) : exOk P d env σ μ st (toF P d env E K) := by
  cases st with
  | Assign ts value pos =>
    rcases ts with _ | ⟨t, _ | _⟩
    · exact halt_x h
    · exact boolC h (fun q h => exOk.asg (ih _ _ _ _ h) (compFree_no (and_t q).1) (plainT_swap (and_t q).2).1 (plainT_swap (and_t q).2).2) halt_x
    · exact halt_x h
  | Expr e pos => exact boolN h (fun q h => exOk.expr (ih _ _ _ _ h) (fn_quiet hE) (comp_no q)) halt_x
  | If t b o pos => exact exOk.if_ (ih _ _ _ _ h)
  | Return v pos => cases v with
    | some e => exact exOk.ret (ih _ _ _ _ h)
    | none => exact exOk.retNone (ih _ _ _ _ h)
  | Pass pos => exact exOk.pass (ih _ _ _ _ h)
  | Continue pos => exact exOk.cont_ (ih _ _ _ _ h)
  | AugAssign t op value pos =>
    cases t with
    | Name id np =>
      unfold exF at h
      dsimp only at h
      rw [kindQ_eq] at h
      cases hk : env.kindOf id with
      | none => rw [hk] at h; exact halt_x h
      | some k =>
        rw [hk] at h
        cases k with
        | «local» =>
          dsimp only at h
          cases hv : lookV id σ with
          | none => rw [hv] at h; exact halt_x h
          | some v => rw [hv] at h; exact exOk.aug (lookV_mem hv) (ih _ _ _ _ h) hE.kind hk
        | _ => exact halt_x h
    | _ => exact halt_x h
  | _ => exact halt_x h
theorem as_ok (hE : EnvOk env) (ih : Ih P d env E g) {t v} (h : asF P d env E g K t v σ μ) : asOk P d env σ μ t v (toS P d env E K) := by
  cases t with
  | Name n pos =>
    unfold asF at h
    dsimp only at h
    rw [kindQ_eq] at h
    cases hk : env.kindOf n with
    | none => rw [hk] at h; exact halt_a h
    | some k =>
      rw [hk] at h
      cases k with
      | «local» =>
        obtain ⟨σ', hs, q⟩ := storeK_spec h
        exact asOk.name hs (ih _ _ _ _ q) hE.kind hk
      | _ => exact halt_a h
  | Tuple ts k pos =>
    refine boolC h (fun h1 h => ?_) halt_a
    cases v with
    | tup vs => exact boolC h (fun h2 h => asOk.tuple (ih _ _ _ _ h) (Nat.eq_of_beq_eq_true h2) (as_all h1)) halt_a
    | _ => exact halt_a h
  | Subscript o i pos => exact asOk.item (ih _ _ _ _ h)
  | _ => exact halt_a h
theorem val_ok (ih : Ih P d env E g) : ∀ {K v}, valF P d env E g K v σ μ → res P d env E K (.val v) σ μ
  | [], v, h => by
    cases E with
    | ev Q => exact h.out
    | _ => exact h.elim
  | fr :: K, v, h => by
    cases fr with
    | binD op a => exact bin_ok ih h
    | un op => exact un_ok ih h
    | cmpD op a => exact cmp_ok ih h
    | truth => exact tru_ok ih h
    | meth name args kws =>
      refine opOk.mono (meth_ok ih h) fun fx μ2 q => ?_
      have q2 : evsOk P d env σ μ2 args fun vs μ3 => callK P d env kws σ fx.1 (fx.2.reverse.reverse ++ vs) (fun v μ2 => res P d env E K (.val v) σ μ2) μ3 := q
      rw [List.reverse_reverse] at q2
      exact q2
    | subD value slice o => exact h.out
    | attr name => exact h.out
    | aug id op w => exact h.out
    | setI o w => exact h.out
    | andR y => exact h.out
    | ifx | notB | notV | allA | allO | ifS | seq | asT | fin => exact h.elim
    | _ => exact ih _ _ _ _ h
theorem bool_ok (ih : Ih P d env E g) : ∀ {K b}, boolF P d env E g K b σ μ → res P d env E K (.bool b) σ μ
  | [], b, h => by
    cases E with
    | is Q => exact h.out
    | _ => exact h.elim
  | fr :: K, b, h => by
    cases fr with
    | ifx b o => exact h.out
    | notB => exact ih _ _ _ _ h
    | notV => exact ih _ _ _ _ h
    | allA rest => exact h.out
    | allO rest => exact h.out
    | ifS b o => exact h.out
    | _ => exact h.elim
theorem flow_ok (ih : Ih P d env E g) : ∀ {K f}, flowF E g K f σ μ → res P d env E K (.flow f) σ μ
  | [], f, h => by
    cases E with
    | ex Q => exact h.out
    | _ => exact h.elim
  | fr :: K, f, h => by
    cases fr with
    | seq rest => cases f with
      | next => exact ih _ _ _ _ h
      | _ => exact ih _ _ _ _ h
    | _ => exact h.elim
theorem stored_ok (ih : Ih P d env E g) : ∀ {K}, storedF E g K σ μ → res P d env E K .stored σ μ
  | [], h => by
    cases E with
    | as Q => exact h.out
    | _ => exact h.elim
  | fr :: K, h => by
    cases fr with
    | asT ts vs => exact ih _ _ _ _ h
    | fin => exact ih _ _ _ _ h
    | _ => exact h.elim
theorem rev_snoc {α : Type} {acc vs : List α} {v : α} : (v :: acc).reverse ++ vs = acc.reverse ++ v :: vs := by simp
theorem args_ok (ih : Ih P d env E g) {f acc rest kws} (h : stepF P d env G E g K (.argsF f acc rest kws) σ μ) : sem P d env E K (.argsF f acc rest kws) σ μ := by
  cases rest with
  | nil =>
    have h1 : revK acc [] fun all => g K (.kwF f all [] kws) σ μ := h
    exact evsOk.nil (ih K (.kwF f (acc.reverse ++ []) [] kws) σ μ (revK_spec h1))
  | cons e rest => exact boolC h (fun q h => evsOk.cons (evOk.mono (ih (.args f acc rest kws :: K) (.ev e) σ μ h) fun v μ2 (hv : evsOk P d env σ μ2 rest fun vs μ3 => callK P d env kws σ f ((v :: acc).reverse ++ vs) (fun v μ2 => res P d env E K (.val v) σ μ2) μ3) => by simp only [rev_snoc] at hv; exact hv) (star_cons q).1) False.elim
theorem kw_ok (ih : Ih P d env E g) {f all acc rest} (h : stepF P d env G E g K (.kwF f all acc rest) σ μ) : sem P d env E K (.kwF f all acc rest) σ μ := by
  rcases rest with _ | ⟨⟨n, e, p⟩, rest⟩
  · have h1 : revK acc [] fun kw => callF P d env E K f all kw σ μ := h
    exact kwsOk.nil (call_ok (revK_spec h1))
  · cases n with
    | none => exact h.elim
    | some n => exact kwsOk.cons (evOk.mono (ih (.kwarg f all acc n rest :: K) (.ev e) σ μ h) fun v μ2 (hv : kwsOk P d env σ μ2 rest fun ks μ3 => Keep P μ3 f ∧ callOk P d μ3 f all (((n, v) :: acc).reverse ++ ks) fun v μ2 => res P d env E K (.val v) σ μ2) => by simp only [rev_snoc] at hv; exact hv)
theorem len_ok {l : List V} (h : short 100 l = true) : l.length ≤ sizeLine := Nat.le_trans (short_len h) (by rw [sizeLine_eq]; decide)
theorem tup_ok (ih : Ih P d env E g) {acc rest} (h : stepF P d env G E g K (.tupF acc rest) σ μ) : sem P d env E K (.tupF acc rest) σ μ := by
  cases rest with
  | nil =>
    have h0 : revK acc [] fun all => match short 100 all with | true => g K (.val (.tup all)) σ μ | false => False := h
    exact evsOk.nil (boolC (revK_spec h0) (fun q h => ⟨len_ok q, ih _ _ _ _ h⟩) False.elim)
  | cons e rest => exact boolC h (fun q h => evsOk.cons (evOk.mono (ih (.tupE acc rest :: K) (.ev e) σ μ h) fun v μ2 (hv : evsOk P d env σ μ2 rest fun vs μ2 => ((v :: acc).reverse ++ vs).length ≤ sizeLine ∧ res P d env E K (.val (.tup ((v :: acc).reverse ++ vs))) σ μ2) => by simp only [rev_snoc] at hv; exact hv) (star_cons q).1) False.elim
theorem lst_ok (ih : Ih P d env E g) {acc rest} (h : stepF P d env G E g K (.lstF acc rest) σ μ) : sem P d env E K (.lstF acc rest) σ μ := by
  cases rest with
  | nil =>
    have h0 : revK acc [] fun all => match short 100 all with | true => Leaf AllA (fun l => sem P d env E K (.val (R l)) σ ((l, .list all) :: μ)) | false => False := h
    exact evsOk.nil (boolC (revK_spec h0) (fun q h => ⟨len_ok q, h.out⟩) False.elim)
  | cons e rest => exact boolC h (fun q h => evsOk.cons (evOk.mono (ih (.lstE acc rest :: K) (.ev e) σ μ h) fun v μ2 (hv : evsOk P d env σ μ2 rest fun vs μ2 => ((v :: acc).reverse ++ vs).length ≤ sizeLine ∧ ∀ l, res P d env E K (.val (R l)) σ ((l, .list ((v :: acc).reverse ++ vs)) :: μ2)) => by simp only [rev_snoc] at hv; exact hv) (star_cons q).1) False.elim
theorem step_ok (hG : GOk P G) (hE : EnvOk env) (ih : Ih P d env E g) : Ih P d env E (stepF P d env G E g) := by
  intro K md σ μ h
  cases md with
  | ev e => exact ev_ok hG hE ih h
  | is e => exact is_ok ih h
  | andF es => cases es with
    | nil => exact allOk.andNil (ih _ _ _ _ h)
    | cons x rest => exact allOk.andCons (ih _ _ _ _ h)
  | orF es => cases es with
    | nil => exact allOk.orNil (ih _ _ _ _ h)
    | cons x rest => exact allOk.orCons (ih _ _ _ _ h)
  | ex st => exact ex_ok hE ih h
  | exs sts => cases sts with
    | nil => exact exsOk.nil (ih _ _ _ _ h)
    | cons st rest => exact exsOk.cons (exOk.mono (ih _ _ _ _ h) fun f σ1 μ1 q => by cases f <;> exact q)
  | as t v => exact as_ok hE ih h
  | ass ts vs => cases ts with
    | nil => cases vs with
      | nil => exact assOk.nil (P := P) (d := d) (env := env) (ih _ _ _ _ h)
      | cons v vs => exact h.elim
    | cons t ts => cases vs with
      | nil => exact h.elim
      | cons v vs => exact assOk.cons (ih _ _ _ _ h)
  | argsF f acc rest kws => exact args_ok ih h
  | kwF f all acc rest => exact kw_ok (G := G) ih h
  | tupF acc rest => exact tup_ok ih h
  | lstF acc rest => exact lst_ok ih h
  | store id v =>
    obtain ⟨σ', hs, q⟩ := storeK_spec h
    exact ⟨σ', hs, ih _ _ _ _ q⟩
  | val v => exact val_ok ih h
  | bool b => exact bool_ok ih h
  | flow f => exact flow_ok ih h
  | stored => exact stored_ok ih h
theorem run_ok (hG : GOk P G) (hE : EnvOk env) : ∀ n, Ih P d env E (run P d env G E n)
  | 0 => fun _ _ _ _ h => h
  | n + 1 => step_ok hG hE (run_ok hG hE n)

/-! ways in -/
noncomputable abbrev Run (P : Par) (d : Nat) (env : Env) (G : List (Str × V)) (E : En) (K : List Frm) (md : Md) (σ : Loc) (μ : Led) : Prop := run P d env G E 1000 K md σ μ
noncomputable def Md.isRes : Md → Bool
  | .val _ => true
  | .bool _ => true
  | .flow _ => true
  | .stored => true
  | _ => false
theorem sem.go (hG : GOk P G) (hE : EnvOk env) {md} (h : Run P d env G E K md σ μ) : sem P d env E K md σ μ := run_ok hG hE _ _ _ _ _ h
theorem res.go (hG : GOk P G) (hE : EnvOk env) {md} (hm : md.isRes = true) (h : Run P d env G E K md σ μ) : res P d env E K md σ μ := by
  have := run_ok hG hE _ _ _ _ _ h
  cases md <;> first | exact this | exact nomatch hm
theorem evOk.in_ (hG : GOk P G) (hE : EnvOk env) {e} {Q : V → Led → Prop} (h : Run P d env G (.ev Q) [] (.ev e) σ μ) : evOk P d env σ μ e Q := run_ok hG hE _ _ _ _ _ h
theorem isOk.in_ (hG : GOk P G) (hE : EnvOk env) {e} {Q : Bool → Led → Prop} (h : Run P d env G (.is Q) [] (.is e) σ μ) : isOk P d env σ μ e Q := run_ok hG hE _ _ _ _ _ h
theorem exOk.in_ (hG : GOk P G) (hE : EnvOk env) {e} {Q : Fl → Loc → Led → Prop} (h : Run P d env G (.ex Q) [] (.ex e) σ μ) : exOk P d env σ μ e Q := run_ok hG hE _ _ _ _ _ h
theorem exsOk.in_ (hG : GOk P G) (hE : EnvOk env) {e} {Q : Fl → Loc → Led → Prop} (h : ∀ Q', Hid Q Q' → Run P d env G (.ex Q') [] (.exs e) σ μ) : exsOk P d env σ μ e Q := exsOk.hide fun Q' q => run_ok hG hE _ _ _ _ _ (h Q' q)
theorem asOk.in_ (hG : GOk P G) (hE : EnvOk env) {e v} {Q : Loc → Led → Prop} (h : Run P d env G (.as Q) [] (.as e v) σ μ) : asOk P d env σ μ e v Q := run_ok hG hE _ _ _ _ _ h
end
end Mine

namespace Mine
open PySem PySem.W PySem.Calls PyProof.Rows
section
variable {P : Par} {d : Nat} {env : Env} {σ : Loc} {μ : Led}
theorem ForOk.of {src : Led} {items : List V} {target : Expr} {body : List Stmt} {Q : Fl → Loc → Led → Prop} (J : Nat → Loc → Led → Prop) (h0 : J 0 σ μ) (hs : ∀ i σ μ, J i σ μ → ∃ rest, μ.Perm (src ++ rest))
    (step : ∀ J' : Nat → Loc → Led → Prop, (∀ i σ μ, J i σ μ → J' i σ μ) → ∀ i x σ μ, items[i]? = some x → J i σ μ → asOk P d env σ μ target x fun σ1 μ1 => exsOk P d env σ1 μ1 body fun f σ2 μ2 => match f with
      | .next => J' (i + 1) σ2 μ2
      | .cont => J' (i + 1) σ2 μ2
      | .brk => Q .next σ2 μ2
      | .ret v => Q (.ret v) σ2 μ2)
    (fin : ∀ σ μ, J items.length σ μ → Q .next σ μ) : ForOk P d env src items σ μ target body Q :=
  ⟨J, h0, hs, step J fun _ _ _ h => h, fin⟩
theorem WhileOk.of {test : Expr} {body : List Stmt} {Q : Fl → Loc → Led → Prop} (J : Nat → Loc → Led → Prop) (h0 : ∃ n, J n σ μ)
    (step : ∀ J' : Nat → Loc → Led → Prop, (∀ i σ μ, J i σ μ → J' i σ μ) → ∀ n σ μ, J n σ μ → isOk P d env σ μ test fun b μ1 => if b then exsOk P d env σ μ1 body fun f σ2 μ2 => match f with
      | .next => ∃ m, m < n ∧ J' m σ2 μ2
      | .cont => ∃ m, m < n ∧ J' m σ2 μ2
      | .brk => Q .next σ2 μ2
      | .ret v => Q (.ret v) σ2 μ2
    else Q .next σ μ1) : WhileOk P d env σ μ test body Q :=
  ⟨J, h0, step J fun _ _ _ h => h⟩
theorem fnOk.reperm {f args kw} {Q : V → Led → Prop} (h : fnOk P d μ f args kw fun v μ' => ∃ μ2, μ'.Perm μ2 ∧ Q v μ2) : fnOk P d μ f args kw Q := fun ν A s β f' xs ks hR hI rf rx rk => codeAny_mono (h ν A s β f' xs ks hR hI rf rx rk) fun r s' hr => by
  rcases r with e | fl
  · exact hr.elim
  rcases fl with v | _ | _ | _
  all_goals first | exact hr.elim | skip
  obtain ⟨st, β', le, c, μ', I, rv, μ2, hp, q⟩ := hr
  exact ⟨st, β', le, c, μ2, I.perm (hp.append_right ν), rv, q⟩
theorem opOk.reperm {α γ : Type} {rel : Fz → γ → α → Prop} {T : Fz → Sem α → Prop} {Q : γ → Led → Prop} (h : opOk P rel d μ T fun c μ' => ∃ μ2, μ'.Perm μ2 ∧ Q c μ2) : opOk P rel d μ T Q :=
  fun ν A s β t hR hI ht => (h ν A s β t hR hI ht).mono fun _ _ _ _ ⟨c, μ1, I, r, μ2, hp, q⟩ => ⟨c, μ2, I.perm (hp.append_right ν), r, q⟩
end
end Mine

namespace Mine
/-! the plain law of the pieces -/
noncomputable def sg : List Nat := [97, 98, 65, 66, 61, 34, 92, 32]
noncomputable def sIdx (c : Nat) : Nat := sg.idxOf c
noncomputable def idxL (nm : List (List Nat)) (p : List Nat) : Option Nat := nm.findIdx? fun q => low q == low p
noncomputable def abv (nm : List (List Nat)) (p : List Nat) : Nat := (idxL nm p).elim 0 (· + 1)
noncomputable def shw (nm : List (List Nat)) (p : List Nat) : List Nat := (idxL nm p).elim [] fun i => nm.getD i []
set_option genInjectivity false in
structure CS where
  nm : List (List Nat)
  rows : List Nat
  pc : List Nat
noncomputable def CS.step (S : CS) (c : Nat) : CS := match idxL S.nm (S.pc ++ [c]) with
  | some _ => ⟨S.nm, S.rows, S.pc ++ [c]⟩
  | none => ⟨S.nm ++ [shw S.nm S.pc ++ [c]], S.rows ++ [16 * abv S.nm S.pc + sIdx c + 1], []⟩
noncomputable def runC (t : List Nat) : CS := t.foldl CS.step ⟨[], [], []⟩
noncomputable def CS.segs (S : CS) : List (List Nat) := S.nm ++ if S.pc = [] then [] else [shw S.nm S.pc]
noncomputable def CS.fin (S : CS) : List Nat := S.rows ++ if S.pc = [] then [] else [16 * abv S.nm S.pc]
noncomputable def heardF (t : List Nat) : List Nat := (runC t).segs.flatten
theorem low_app (a b : List Nat) : low (a ++ b) = low a ++ low b := by simp [low]
theorem low_nil_iff {a : List Nat} : low a = [] ↔ a = [] := by simp [low]
theorem idxL_low {nm : List (List Nat)} {p q : List Nat} (h : low p = low q) : idxL nm p = idxL nm q := by unfold idxL; rw [h]
theorem abv_low {nm : List (List Nat)} {p q : List Nat} (h : low p = low q) : abv nm p = abv nm q := by unfold abv; rw [idxL_low h]
theorem shw_low {nm : List (List Nat)} {p q : List Nat} (h : low p = low q) : shw nm p = shw nm q := by unfold shw; rw [idxL_low h]
theorem idxL_some {nm : List (List Nat)} {p : List Nat} {i : Nat} (h : idxL nm p = some i) : ∃ q, nm[i]? = some q ∧ low q = low p ∧ i < nm.length := by
  unfold idxL at h
  rw [List.findIdx?_eq_some_iff_getElem] at h
  obtain ⟨hi, h1, _⟩ := h
  exact ⟨nm[i], List.getElem?_eq_getElem hi, by simpa using h1, hi⟩
theorem idxL_nil {nm : List (List Nat)} (ne : ∀ q ∈ nm, q ≠ []) : idxL nm [] = none := by
  unfold idxL
  rw [List.findIdx?_eq_none_iff]
  intro q hq
  have := ne q hq
  cases h : low q == low [] with
  | false => rfl
  | true => rw [beq_iff_eq] at h; exact absurd (low_nil_iff.mp h) this
theorem abv_nil {nm : List (List Nat)} (ne : ∀ q ∈ nm, q ≠ []) : abv nm [] = 0 := by unfold abv; rw [idxL_nil ne]; rfl
theorem shw_nil {nm : List (List Nat)} (ne : ∀ q ∈ nm, q ≠ []) : shw nm [] = [] := by unfold shw; rw [idxL_nil ne]; rfl
theorem abv_some {nm : List (List Nat)} {p : List Nat} {i : Nat} (h : idxL nm p = some i) : abv nm p = i + 1 := by unfold abv; rw [h]; rfl
theorem shw_some {nm : List (List Nat)} {p q : List Nat} {i : Nat} (h : idxL nm p = some i) (hq : nm[i]? = some q) : shw nm p = q := by
  unfold shw; rw [h]
  show nm.getD i [] = q
  rw [List.getD_eq_getElem?_getD, hq]; rfl
structure COk (t : List Nat) (S : CS) : Prop where
  len : S.rows.length = S.nm.length
  ne : ∀ q ∈ S.nm, q ≠ []
  pc : S.pc = [] ∨ ∃ i, idxL S.nm S.pc = some i
  txt : ∃ u, t = u ++ S.pc ∧ low S.nm.flatten = low u
  row : ∀ i q r, S.nm[i]? = some q → S.rows[i]? = some r → ∃ a c, r = 16 * a + sIdx c + 1 ∧ c ∈ sg ∧ a ≤ i ∧ q = (if a = 0 then [] else S.nm.getD (a - 1) []) ++ [c]
  dst : ∀ i q, S.nm[i]? = some q → idxL S.nm q = some i
theorem shw_low_eq {t : List Nat} {S : CS} (h : COk t S) : low (shw S.nm S.pc) = low S.pc := by
  rcases h.pc with e | ⟨i, e⟩
  · rw [e, shw_nil h.ne]
  · obtain ⟨q, hq, hl, _⟩ := idxL_some e
    rw [shw_some e hq, hl]
theorem idxL_app {nm : List (List Nat)} {q p : List Nat} : idxL (nm ++ [q]) p = (idxL nm p).or (if low q = low p then some nm.length else none) := by
  unfold idxL
  rw [List.findIdx?_append]
  cases nm.findIdx? fun q => low q == low p with
  | some i => simp
  | none =>
    by_cases h : low q = low p <;> simp [List.findIdx?_cons, h]
theorem runC_app (t : List Nat) (c : Nat) : runC (t ++ [c]) = (runC t).step c := by unfold runC; rw [List.foldl_append]; rfl
theorem CS.step_some {S : CS} {c i : Nat} (h : idxL S.nm (S.pc ++ [c]) = some i) : S.step c = ⟨S.nm, S.rows, S.pc ++ [c]⟩ := by unfold CS.step; rw [h]
theorem CS.step_none {S : CS} {c : Nat} (h : idxL S.nm (S.pc ++ [c]) = none) : S.step c = ⟨S.nm ++ [shw S.nm S.pc ++ [c]], S.rows ++ [16 * abv S.nm S.pc + sIdx c + 1], []⟩ := by unfold CS.step; rw [h]
theorem COk.next {t : List Nat} {S : CS} (h : COk t S) {c : Nat} (hc : c ∈ sg) : COk (t ++ [c]) (S.step c) := by
  obtain ⟨u, ht, hu⟩ := h.txt
  cases e : idxL S.nm (S.pc ++ [c]) with
  | some i =>
    rw [CS.step_some e]
    exact ⟨h.len, h.ne, .inr ⟨i, e⟩, ⟨u, by rw [ht, List.append_assoc], hu⟩, h.row, h.dst⟩
  | none =>
    rw [CS.step_none e]
    have hlow : low (shw S.nm S.pc ++ [c]) = low (S.pc ++ [c]) := by rw [low_app, low_app, shw_low_eq h]
    have habv : abv S.nm S.pc ≤ S.nm.length := by
      rcases h.pc with e | ⟨i, e⟩
      · rw [e, abv_nil h.ne]; exact Nat.zero_le _
      · obtain ⟨q, hq, hl, hi⟩ := idxL_some e
        rw [abv_some e]; exact hi
    refine ⟨by simp [h.len], ?_, .inl rfl, ⟨t ++ [c], by simp, ?_⟩, ?_, ?_⟩
    · intro q hq
      rcases List.mem_append.mp hq with hq | hq
      · exact h.ne q hq
      · simp at hq; subst hq; simp
    · show low (S.nm ++ [shw S.nm S.pc ++ [c]]).flatten = _
      rw [List.flatten_append, low_app, hu]
      have : [shw S.nm S.pc ++ [c]].flatten = shw S.nm S.pc ++ [c] := by simp
      rw [this, hlow, ht]
      simp [low_app]
    · intro i q r hq hr
      show ∃ a c', r = _ ∧ _ ∧ _ ∧ q = (if a = 0 then [] else (S.nm ++ [shw S.nm S.pc ++ [c]]).getD (a - 1) []) ++ [c']
      rcases Nat.lt_trichotomy i S.nm.length with hi | hi | hi
      · rw [List.getElem?_append_left hi] at hq
        rw [List.getElem?_append_left (by rw [h.len]; exact hi)] at hr
        obtain ⟨a, c', e1, e2, e3, e4⟩ := h.row i q r hq hr
        refine ⟨a, c', e1, e2, e3, ?_⟩
        rw [e4]
        by_cases ha : a = 0
        · rw [if_pos ha, if_pos ha]
        · rw [if_neg ha, if_neg ha, List.getD_eq_getElem?_getD, List.getD_eq_getElem?_getD, List.getElem?_append_left (Nat.lt_of_le_of_lt (Nat.sub_le _ _) (Nat.lt_of_le_of_lt e3 hi))]
      · subst hi
        rw [List.getElem?_append_right (Nat.le_refl _)] at hq
        rw [← h.len, List.getElem?_append_right (Nat.le_refl _)] at hr
        simp at hq hr
        subst hq; subst hr
        refine ⟨abv S.nm S.pc, c, rfl, hc, habv, ?_⟩
        congr 1
        rcases h.pc with e | ⟨i, e⟩
        · rw [e, abv_nil h.ne, shw_nil h.ne]; rfl
        · obtain ⟨q, hq, hl, hi⟩ := idxL_some e
          rw [abv_some e, shw_some e hq, if_neg (Nat.succ_ne_zero i), List.getD_eq_getElem?_getD, Nat.add_sub_cancel, List.getElem?_append_left hi, hq]; rfl
      · rw [List.getElem?_eq_none (by rw [List.length_append]; exact hi)] at hq; cases hq
    · intro i q hq
      show idxL (S.nm ++ [shw S.nm S.pc ++ [c]]) q = some i
      rw [idxL_app]
      rcases Nat.lt_trichotomy i S.nm.length with hi | hi | hi
      · rw [List.getElem?_append_left hi] at hq
        rw [h.dst i q hq]; rfl
      · subst hi
        rw [List.getElem?_append_right (Nat.le_refl _)] at hq
        simp at hq
        subst hq
        rw [idxL_low hlow, e]
        simp
      · rw [List.getElem?_eq_none (by rw [List.length_append]; exact hi)] at hq; cases hq
theorem rev_ind {p : List Nat → Prop} (h0 : p []) (h1 : ∀ t c, p t → p (t ++ [c])) (t : List Nat) : p t := by
  have : ∀ n, ∀ t : List Nat, t.length = n → p t := by
    intro n
    induction n with
    | zero => intro t ht; rw [List.length_eq_zero_iff.mp ht]; exact h0
    | succ n ih =>
      intro t ht
      have hne : t ≠ [] := by rintro rfl; simp at ht
      rw [← List.dropLast_concat_getLast hne]
      exact h1 _ _ (ih _ (by simp [ht]))
  exact this _ t rfl
theorem cOk (t : List Nat) : (∀ c ∈ t, c ∈ sg) → COk t (runC t) := by
  refine rev_ind (p := fun t => (∀ c ∈ t, c ∈ sg) → COk t (runC t)) ?_ ?_ t
  · intro _
    show COk [] ⟨[], [], []⟩
    exact ⟨rfl, fun q hq => absurd hq List.not_mem_nil, Or.inl rfl, ⟨[], rfl, rfl⟩, fun i q r hq => by simp at hq, fun i q hq => by simp at hq⟩
  · intro t c ih ht
    rw [runC_app]
    exact (ih fun c hc => ht c (List.mem_append_left _ hc)).next (ht c (by simp))
theorem idem (t : List Nat) : (∀ c ∈ t, c ∈ sg) → ∀ x, low x = low (runC t).pc → runC ((runC t).nm.flatten ++ x) = ⟨(runC t).nm, (runC t).rows, x⟩ := by
  refine rev_ind (p := fun t => (∀ c ∈ t, c ∈ sg) → ∀ x, low x = low (runC t).pc → runC ((runC t).nm.flatten ++ x) = ⟨(runC t).nm, (runC t).rows, x⟩) ?_ ?_ t
  · intro _ x hx
    have : x = [] := low_nil_iff.mp hx
    subst this; rfl
  · intro t c ih ht x hx
    have ht' : ∀ c ∈ t, c ∈ sg := fun c hc => ht c (List.mem_append_left _ hc)
    have hk := cOk t ht'
    rw [runC_app] at hx ⊢
    generalize hS : runC t = S at *
    cases e : idxL S.nm (S.pc ++ [c]) with
    | some i =>
      rw [CS.step_some e] at hx ⊢
      have hx' : low x = low (S.pc ++ [c]) := hx
      have hxn : x ≠ [] := by rintro rfl; rw [low_app] at hx'; simp [low] at hx'
      rw [← List.dropLast_concat_getLast hxn] at hx' ⊢
      generalize x.dropLast = y at *
      generalize x.getLast hxn = z at *
      have hlen : (low y).length = (low S.pc).length := by
        have := congrArg List.length hx'
        simp [low] at this ⊢; omega
      rw [low_app, low_app] at hx'
      obtain ⟨h1, h2⟩ := List.append_inj hx' hlen
      show runC (S.nm.flatten ++ (y ++ [z])) = _
      rw [← List.append_assoc, runC_app, ih ht' y h1]
      rw [CS.step_some (i := i) (by show idxL S.nm (y ++ [z]) = _; rw [idxL_low (q := S.pc ++ [c]) (by rw [low_app, low_app, h1, h2]), e])]
    | none =>
      rw [CS.step_none e] at hx ⊢
      have hx' : x = [] := low_nil_iff.mp hx
      subst hx'
      have hs := shw_low_eq hk
      show runC ((S.nm ++ [shw S.nm S.pc ++ [c]]).flatten ++ []) = _
      have : (S.nm ++ [shw S.nm S.pc ++ [c]]).flatten ++ [] = (S.nm.flatten ++ shw S.nm S.pc) ++ [c] := by simp
      rw [this, runC_app, ih ht' _ hs]
      rw [CS.step_none (by show idxL S.nm (shw S.nm S.pc ++ [c]) = _; rw [idxL_low (q := S.pc ++ [c]) (by rw [low_app, low_app, hs]), e])]
      show CS.mk (S.nm ++ [shw S.nm (shw S.nm S.pc) ++ [c]]) (S.rows ++ [16 * abv S.nm (shw S.nm S.pc) + sIdx c + 1]) [] = _
      rw [shw_low hs, abv_low hs]
theorem packAgain {t : List Nat} (ht : ∀ c ∈ t, c ∈ sg) : (runC (heardF t)).fin = (runC t).fin := by
  have hk := cOk t ht
  have hi := idem t ht
  unfold heardF CS.segs
  generalize runC t = S at *
  by_cases h : S.pc = []
  · rw [if_pos h, List.append_nil]
    have := hi [] (by rw [h])
    rw [List.append_nil] at this
    rw [this]
    unfold CS.fin
    rw [h]
  · rw [if_neg h, List.flatten_append]
    have hs := shw_low_eq hk
    have : [shw S.nm S.pc].flatten = shw S.nm S.pc := by simp
    rw [this, hi _ hs]
    unfold CS.fin
    show S.rows ++ (if shw S.nm S.pc = [] then [] else [16 * abv S.nm (shw S.nm S.pc)]) = _
    rw [abv_low hs, if_neg h, if_neg (by intro q; rw [q] at hs; exact h (low_nil_iff.mp hs.symm))]
theorem heard_low {t : List Nat} (ht : ∀ c ∈ t, c ∈ sg) : low (heardF t) = low t := by
  have hk := cOk t ht
  unfold heardF CS.segs
  generalize runC t = S at *
  obtain ⟨u, hu, hl⟩ := hk.txt
  by_cases h : S.pc = []
  · rw [if_pos h, List.append_nil, hl, hu, h, List.append_nil]
  · rw [if_neg h, List.flatten_append, low_app, hl]
    have : [shw S.nm S.pc].flatten = shw S.nm S.pc := by simp
    rw [this, shw_low_eq hk, ← low_app, ← hu]
end Mine

namespace Mine
theorem low_len' (l : List Nat) : (low l).length = l.length := by unfold low; simp
/-! how many pieces are begun ahead of the k-th sign -/
noncomputable def past : List (List Nat) → Nat → Nat
  | [], _ => 0
  | q :: r, k => if k = 0 then 0 else past r (k - q.length) + 1
theorem past_cons (q : List Nat) (r : List (List Nat)) (k : Nat) : past (q :: r) k = if k = 0 then 0 else past r (k - q.length) + 1 := rfl
theorem past_zero (segs : List (List Nat)) : past segs 0 = 0 := by cases segs <;> rfl
theorem past_le : ∀ (segs : List (List Nat)) (k : Nat), past segs k ≤ segs.length
  | [], _ => Nat.le_refl _
  | q :: r, k => by
    rw [past_cons]
    split
    · exact Nat.zero_le _
    · exact Nat.succ_le_succ (past_le r (k - q.length))
theorem flat_cons (q : List Nat) (r : List (List Nat)) : (q :: r).flatten.length = q.length + r.flatten.length := by rw [List.flatten_cons, List.length_append]
theorem past_end : ∀ {segs : List (List Nat)} {k : Nat}, k ≤ segs.flatten.length → k ≤ (segs.take (past segs k)).flatten.length
  | [], k, h => h
  | q :: r, k, h => by
    rw [past_cons]
    split
    · rename_i h0; rw [h0]; exact Nat.zero_le _
    · rw [flat_cons] at h
      have := past_end (Nat.sub_le_iff_le_add'.mpr h)
      rw [List.take_succ_cons, flat_cons]
      exact Nat.sub_le_iff_le_add'.mp this
theorem past_in : ∀ {segs : List (List Nat)} {k : Nat}, (∀ q ∈ segs, q ≠ []) → k < (segs.take (past segs k)).flatten.length → past segs (k + 1) = past segs k
  | [], k, ne, h => rfl
  | q :: r, k, ne, h => by
    by_cases h0 : k = 0
    · rw [h0, past_zero] at h; exact absurd h (Nat.not_lt_zero _)
    · have e : past (q :: r) k = past r (k - q.length) + 1 := by rw [past_cons, if_neg h0]
      have e2 : past (q :: r) (k + 1) = past r (k + 1 - q.length) + 1 := by rw [past_cons, if_neg (Nat.succ_ne_zero k)]
      rw [e] at h
      rw [e, e2]
      rw [List.take_succ_cons, flat_cons] at h
      rcases Nat.lt_or_ge k q.length with hl | hl
      · rw [Nat.sub_eq_zero_of_le hl, Nat.sub_eq_zero_of_le (Nat.le_of_lt hl)]
      · rw [Nat.sub_add_comm hl, past_in (fun x hx => ne x (List.mem_cons_of_mem _ hx)) (Nat.sub_lt_left_of_lt_add hl h)]
theorem past_out : ∀ {segs : List (List Nat)} {k : Nat}, (∀ q ∈ segs, q ≠ []) → k < segs.flatten.length → k = (segs.take (past segs k)).flatten.length → past segs (k + 1) = past segs k + 1 ∧ past segs k < segs.length
  | [], k, ne, h, _ => absurd h (Nat.not_lt_zero _)
  | q :: r, k, ne, h, he => by
    have hq : 0 < q.length := List.length_pos_iff.mpr (ne q List.mem_cons_self)
    by_cases h0 : k = 0
    · subst h0
      rw [past_zero]
      constructor
      · rw [past_cons, if_neg (Nat.succ_ne_zero 0), show 0 + 1 - q.length = 0 from Nat.sub_eq_zero_of_le hq, past_zero]
      · exact Nat.succ_pos _
    · have e : past (q :: r) k = past r (k - q.length) + 1 := by rw [past_cons, if_neg h0]
      have e2 : past (q :: r) (k + 1) = past r (k + 1 - q.length) + 1 := by rw [past_cons, if_neg (Nat.succ_ne_zero k)]
      rw [e] at he
      rw [e, e2]
      rw [List.take_succ_cons, flat_cons] at he
      rw [flat_cons] at h
      rcases Nat.lt_or_ge k q.length with hl | hl
      · exact absurd (Nat.le.intro he.symm) (Nat.not_le_of_gt hl)
      · have ih := past_out (segs := r) (k := k - q.length) (fun x hx => ne x (List.mem_cons_of_mem _ hx)) (Nat.sub_lt_left_of_lt_add hl h) (Nat.sub_eq_of_eq_add' he)
        rw [Nat.sub_add_comm hl]
        exact ⟨by rw [ih.1], Nat.succ_lt_succ ih.2⟩
noncomputable def begs : Nat → List (List Nat) → List Nat
  | _, [] => []
  | o, q :: r => o :: begs (o + q.length) r
theorem begs_len : ∀ (o : Nat) (segs : List (List Nat)), (begs o segs).length = segs.length
  | _, [] => rfl
  | o, q :: r => congrArg Nat.succ (begs_len _ r)
theorem begs_app : ∀ (o : Nat) (a b : List (List Nat)), begs o (a ++ b) = begs o a ++ begs (o + a.flatten.length) b
  | o, [], b => rfl
  | o, q :: r, b => by
    show o :: begs (o + q.length) (r ++ b) = o :: (begs (o + q.length) r ++ _)
    rw [begs_app, flat_cons, Nat.add_assoc]
theorem begs_ge : ∀ {o : Nat} {segs : List (List Nat)} {x : Nat}, x ∈ begs o segs → o ≤ x
  | o, [], x, h => by cases h
  | o, q :: r, x, h => by
    rcases List.mem_cons.mp h with h | h
    · exact Nat.le_of_eq h.symm
    · exact Nat.le_trans (Nat.le_add_right _ _) (begs_ge h)
theorem past_begs : ∀ (segs : List (List Nat)) (o k : Nat), (∀ q ∈ segs, q ≠ []) → ((begs o segs).filter fun x => decide (x < o + k)).length = past segs k
  | [], o, k, _ => rfl
  | q :: r, o, k, ne => by
    rw [past_cons]
    by_cases h0 : k = 0
    · rw [if_pos h0, List.length_eq_zero_iff, List.filter_eq_nil_iff]
      intro x hx
      rw [h0, Nat.add_zero, decide_eq_true_eq]
      exact Nat.not_lt.mpr (begs_ge hx)
    · show ((o :: begs (o + q.length) r).filter _).length = _
      rw [if_neg h0, List.filter_cons_of_pos (p := fun x => decide (x < o + k)) (decide_eq_true (Nat.lt_add_of_pos_right (Nat.pos_of_ne_zero h0))), List.length_cons]
      rcases Nat.lt_or_ge k q.length with hl | hl
      · rw [Nat.sub_eq_zero_of_le (Nat.le_of_lt hl), past_zero]
        congr 1
        rw [List.length_eq_zero_iff, List.filter_eq_nil_iff]
        intro x hx
        rw [decide_eq_true_eq]
        exact Nat.not_lt.mpr (Nat.le_trans (Nat.add_le_add_left (Nat.le_of_lt hl) o) (begs_ge hx))
      · have := past_begs r (o + q.length) (k - q.length) (fun x hx => ne x (List.mem_cons_of_mem _ hx))
        rw [Nat.add_assoc, Nat.add_sub_cancel' hl] at this
        rw [this]
theorem past_cap {segs : List (List Nat)} (ne : ∀ q ∈ segs, q ≠ []) {k n : Nat} (hn : n = segs.flatten.length) (h : n ≤ k) : past segs k = past segs n := by
  subst hn
  induction segs generalizing k with
  | nil => rfl
  | cons q r ih =>
    have hq : 0 < q.length := List.length_pos_iff.mpr (ne q List.mem_cons_self)
    rw [flat_cons] at h ⊢
    have hn : 0 < q.length + r.flatten.length := Nat.add_pos_left hq _
    rw [past_cons, past_cons, if_neg (Nat.pos_iff_ne_zero.mp (Nat.lt_of_lt_of_le hn h)), if_neg (Nat.pos_iff_ne_zero.mp hn)]
    congr 1
    rw [Nat.add_sub_cancel_left]
    exact ih (fun x hx => ne x (List.mem_cons_of_mem _ hx)) (Nat.le_sub_of_add_le' h)
theorem past_all {segs : List (List Nat)} (ne : ∀ q ∈ segs, q ≠ []) : past segs segs.flatten.length = segs.length := by
  induction segs with
  | nil => rfl
  | cons q r ih =>
    have hq : 0 < q.length := List.length_pos_iff.mpr (ne q List.mem_cons_self)
    rw [flat_cons, past_cons, if_neg (Nat.pos_iff_ne_zero.mp (Nat.add_pos_left hq _)), Nat.add_sub_cancel_left, ih (fun x hx => ne x (List.mem_cons_of_mem _ hx))]
    rfl
/-! a figure and its piece -/
noncomputable def preN (nm : List (List Nat)) (a : Nat) : List Nat := if a = 0 then [] else nm.getD (a - 1) []
noncomputable def sgn (j : Nat) : List Nat := if j = 0 then [] else [sg.getD (j - 1) 0]
theorem sIdx_lt {c : Nat} (h : c ∈ sg) : sIdx c < 8 := by
  unfold sIdx
  have : sg.idxOf c < sg.length := List.idxOf_lt_length_of_mem h
  exact this
theorem sg_sIdx {c : Nat} (h : c ∈ sg) : sg.getD (sIdx c) 0 = c := by
  unfold sIdx
  have : sg.idxOf c < sg.length := List.idxOf_lt_length_of_mem h
  rw [List.getD_eq_getElem?_getD, List.getElem?_eq_getElem this, List.getElem_idxOf]; rfl
structure RowAt (S : CS) (p r a j : Nat) : Prop where
  hr : r = 16 * a + j
  hj : j ≤ 8
  pos : 0 < r
  ha : a ≤ S.nm.length
  ap : a ≤ p
  seg : S.segs[p]? = some (preN S.nm a ++ sgn j)
  nm : S.nm.take (p + 1) = if j = 0 then S.nm.take p else S.nm.take p ++ [preN S.nm a ++ sgn j]
theorem COk.rowAt {t : List Nat} {S : CS} (h : COk t S) {p r : Nat} (hr : S.fin[p]? = some r) : ∃ a j, RowAt S p r a j := by
  unfold CS.fin at hr
  rcases Nat.lt_trichotomy p S.nm.length with hp | hp | hp
  · rw [List.getElem?_append_left (by rw [h.len]; exact hp)] at hr
    obtain ⟨a, c, e1, e2, e3, e4⟩ := h.row p _ r (List.getElem?_eq_getElem hp) hr
    have hs := sIdx_lt e2
    have e5 : sgn (sIdx c + 1) = [c] := by unfold sgn; rw [if_neg (Nat.succ_ne_zero _), Nat.add_sub_cancel, sg_sIdx e2]
    refine ⟨a, sIdx c + 1, e1, hs, by rw [e1]; exact Nat.succ_pos _, Nat.le_trans e3 (Nat.le_of_lt hp), e3, ?_, ?_⟩
    · unfold CS.segs
      rw [List.getElem?_append_left hp, List.getElem?_eq_getElem hp, e5]
      exact congrArg some e4
    · rw [if_neg (Nat.succ_ne_zero _), List.take_add_one, List.getElem?_eq_getElem hp, e5]
      rw [e4]; rfl
  · subst hp
    rw [List.getElem?_append_right (by rw [h.len]; exact Nat.le_refl _), h.len, Nat.sub_self] at hr
    by_cases hpc : S.pc = []
    · rw [if_pos hpc] at hr; cases hr
    · rw [if_neg hpc] at hr
      simp at hr
      rcases h.pc with e | ⟨i, e⟩
      · exact absurd e hpc
      · obtain ⟨q, hq, hl, hi⟩ := idxL_some e
        rw [abv_some e] at hr
        refine ⟨i + 1, 0, hr.symm, Nat.zero_le _, by rw [← hr]; exact Nat.mul_pos (by decide) (Nat.succ_pos i), hi, hi, ?_, ?_⟩
        · unfold CS.segs
          rw [List.getElem?_append_right (Nat.le_refl _), Nat.sub_self, if_neg hpc, shw_some e hq]
          unfold preN sgn
          rw [if_neg (Nat.succ_ne_zero i), if_pos rfl, Nat.add_sub_cancel, List.getD_eq_getElem?_getD, hq]
          simp
        · rw [if_pos rfl, List.take_of_length_le (Nat.le_succ _), List.take_of_length_le (Nat.le_refl _)]
  · rw [List.getElem?_append_right (by rw [h.len]; exact Nat.le_of_lt hp)] at hr
    split at hr
    · cases hr
    · rw [List.getElem?_eq_none (by rw [h.len]; exact Nat.le_sub_of_add_le' hp)] at hr; cases hr
theorem COk.finLen {t : List Nat} {S : CS} (h : COk t S) : S.fin.length = S.segs.length := by
  unfold CS.fin CS.segs
  rw [List.length_append, List.length_append, h.len]
  split <;> rfl
theorem COk.segsNe {t : List Nat} {S : CS} (h : COk t S) : ∀ q ∈ S.segs, q ≠ [] := by
  intro q hq
  unfold CS.segs at hq
  rcases List.mem_append.mp hq with hq | hq
  · exact h.ne q hq
  · split at hq
    · cases hq
    · rename_i hpc
      simp at hq
      subst hq
      intro e
      have := shw_low_eq h
      rw [e] at this
      exact hpc (low_nil_iff.mp this.symm)
theorem COk.nmLe {t : List Nat} {S : CS} (h : COk t S) : S.nm.length ≤ t.length := by
  obtain ⟨u, hu, hl⟩ := h.txt
  have h1 : S.nm.flatten.length = u.length := by have := congrArg List.length hl; rwa [low_len', low_len'] at this
  have h2 : S.nm.length ≤ S.nm.flatten.length := by
    have := h.ne
    generalize S.nm = nm at this
    induction nm with
    | nil => simp
    | cons q r ih =>
      have hq : 0 < q.length := List.length_pos_iff.mpr (this q List.mem_cons_self)
      have := ih fun x hx => this x (List.mem_cons_of_mem _ hx)
      rw [flat_cons, List.length_cons, Nat.add_comm]
      exact Nat.add_le_add hq this
  rw [hu, List.length_append]
  exact Nat.le_trans (h1 ▸ h2) (Nat.le_add_right _ _)
end Mine

namespace Mine
/-! the text of pairs, the spots of their words -/
noncomputable def escC (c : Nat) : List Nat := if c = 34 ∨ c = 92 then [92, c] else [c]
noncomputable def escN (w : List Nat) : List Nat := w.flatMap escC
noncomputable abbrev Pr2 := List Nat × List Nat
noncomputable abbrev Spt := List Nat × Nat
noncomputable def fmtN (p : Pr2) : List Nat := if p.2 = [] then p.1 else p.1 ++ [61, 34] ++ escN p.2 ++ [34]
noncomputable def txtN (ps : List Pr2) : List Nat := joinN [32] (ps.map fmtN)
noncomputable def wsign (q : List Nat × List Nat) (s : Nat) : List Nat × List Nat := (q.1 ++ [(if s = 34 ∨ s = 92 then q.2 ++ [92] else q.2).length], (if s = 34 ∨ s = 92 then q.2 ++ [92] else q.2) ++ [s])
noncomputable def wgap (t : List Nat) : List Nat := if t = [] then t else t ++ [32]
noncomputable def wstep (q : List Nat × List Spt) (p : Pr2) : List Nat × List Spt :=
  if p.2 = [] then (wgap q.1 ++ p.1, q.2 ++ [([(wgap q.1).length], (wgap q.1).length + 2)])
  else ((p.2.foldl wsign ([], wgap q.1 ++ p.1 ++ [61, 34])).2 ++ [34], q.2 ++ [([(wgap q.1).length], (wgap q.1).length + 2)] ++ [((p.2.foldl wsign ([], wgap q.1 ++ p.1 ++ [61, 34])).1, ((p.2.foldl wsign ([], wgap q.1 ++ p.1 ++ [61, 34])).2 ++ [34]).length)])
noncomputable def writN (ps : List Pr2) : List Nat × List Spt := ps.foldl wstep ([], [])
noncomputable def spotsN (ps : List Pr2) : List Spt := (writN ps).2 ++ [([], (writN ps).1.length)]
noncomputable def plc : Nat → List Nat → List Nat
  | _, [] => []
  | o, s :: w => if s = 34 ∨ s = 92 then (o + 1) :: plc (o + 2) w else o :: plc (o + 1) w
theorem wsigns : ∀ (w pl t : List Nat), w.foldl wsign (pl, t) = (pl ++ plc t.length w, t ++ escN w)
  | [], pl, t => by simp [plc, escN]
  | s :: w, pl, t => by
    rw [List.foldl_cons]
    unfold wsign plc
    show List.foldl wsign (pl ++ [(if s = 34 ∨ s = 92 then t ++ [92] else t).length], (if s = 34 ∨ s = 92 then t ++ [92] else t) ++ [s]) w = _
    rw [wsigns w]
    have e : escN (s :: w) = escC s ++ escN w := rfl
    rw [e]
    unfold escC
    by_cases h : s = 34 ∨ s = 92
    · simp only [if_pos h]; simp [Nat.add_assoc]
    · simp only [if_neg h]; simp
theorem wstep_eq (q : List Nat × List Spt) (p : Pr2) : wstep q p = (wgap q.1 ++ fmtN p, q.2 ++ ([(wgap q.1).length], (wgap q.1).length + 2) :: (if p.2 = [] then [] else [(plc ((wgap q.1 ++ p.1).length + 2) p.2, (wgap q.1 ++ fmtN p).length)])) := by
  unfold wstep fmtN
  by_cases h : p.2 = []
  · simp only [if_pos h]
  · simp only [if_neg h, wsigns]
    simp [Nat.add_assoc]
theorem fmtN_ne {p : Pr2} (h : p.1 ≠ []) : fmtN p ≠ [] := by
  unfold fmtN
  split
  · exact h
  · simp
theorem writ_text {ps : List Pr2} (h : ∀ p ∈ ps, p.1 ≠ []) : (writN ps).1 = txtN ps := by
  have key : ∀ (ps : List Pr2) (q : List Nat × List Spt), (∀ p ∈ ps, p.1 ≠ []) → q.1 ≠ [] → (ps.foldl wstep q).1 = (ps.map fmtN).foldl (fun acc p => acc ++ [32] ++ p) q.1 := by
    intro ps
    induction ps with
    | nil => intro q _ _; rfl
    | cons p r ih =>
      intro q hp hq
      rw [List.foldl_cons, List.map_cons, List.foldl_cons, ih _ (fun x hx => hp x (List.mem_cons_of_mem _ hx))]
      · rw [wstep_eq]
        show List.foldl _ (wgap q.1 ++ fmtN p) _ = _
        unfold wgap
        rw [if_neg hq]
      · rw [wstep_eq]
        show wgap q.1 ++ fmtN p ≠ []
        have := fmtN_ne (hp p List.mem_cons_self)
        simp [this]
  unfold writN txtN
  cases ps with
  | nil => rfl
  | cons p r =>
    rw [List.foldl_cons, key r _ (fun x hx => h x (List.mem_cons_of_mem _ hx))]
    · rw [wstep_eq]; rfl
    · rw [wstep_eq]
      show wgap [] ++ fmtN p ≠ []
      have := fmtN_ne (h p List.mem_cons_self)
      simp [this]
/-! reading -/
noncomputable abbrev wsL : List Nat := [32, 61]
noncomputable def Reads (h : List Nat) : Nat → List (List Nat × Nat) → Nat → Prop
  | k, [], k' => k' = k
  | k, (w, e) :: r, k' => w ≠ [] ∧ k ≤ e ∧ e ≤ h.length ∧ tok wsL (h.drop k) = (w, h.drop e) ∧ Reads h e r k'
theorem Reads.app {h : List Nat} : ∀ {k : Nat} {a b : List (List Nat × Nat)} {m n : Nat}, Reads h k a m → Reads h m b n → Reads h k (a ++ b) n
  | k, [], b, m, n, h1, h2 => by cases h1; exact h2
  | k, (w, e) :: r, b, m, n, ⟨h1, h2, h3, h4, h5⟩, h6 => ⟨h1, h2, h3, h4, h5.app h6⟩
theorem lowN_34 {c : Nat} : lowN c = 34 ↔ c = 34 := by unfold lowN; split <;> simp_all <;> omega
theorem lowN_32 {c : Nat} : lowN c = 32 ↔ c = 32 := by unfold lowN; split <;> simp_all <;> omega
theorem lowN_61 {c : Nat} : lowN c = 61 ↔ c = 61 := by unfold lowN; split <;> simp_all <;> omega
theorem lowN_92 {c : Nat} : lowN c = 92 ↔ c = 92 := by unfold lowN; split <;> simp_all <;> omega
theorem low_cons_inv {h : List Nat} {b : Nat} {B : List Nat} (e : low h = low (b :: B)) : ∃ c r, h = c :: r ∧ lowN c = lowN b ∧ low r = low B := by
  cases h with
  | nil => cases e
  | cons c r => exact ⟨c, r, rfl, by injection e, by injection e⟩
theorem drop_low {h A B : List Nat} (e : low h = low (A ++ B)) : low (h.drop A.length) = low B := by
  unfold low at *
  rw [List.map_drop, e, ← List.map_drop]
  simp
theorem getD_drop {h r : List Nat} {k c : Nat} (e : h.drop k = c :: r) : h.getD k 0 = c ∧ h.drop (k + 1) = r ∧ k < h.length := by
  have h1 : h[k]? = some c := by rw [← List.head?_drop, e]; rfl
  refine ⟨by rw [List.getD_eq_getElem?_getD, h1]; rfl, ?_, ?_⟩
  · have : h.drop (k + 1) = (h.drop k).drop 1 := by rw [List.drop_drop]
    rw [this, e]; rfl
  · exact (List.getElem?_eq_some_iff.mp h1).1
theorem rd_word {h : List Nat} : ∀ (w t R acc : List Nat), low h = low (t ++ (escN w ++ 34 :: R)) →
    tokQ (h.drop t.length) acc = (acc ++ (plc t.length w).map (h.getD · 0), h.drop ((t ++ escN w).length + 1)) ∧ (t ++ escN w).length + 1 ≤ h.length
  | [], t, R, acc, e => by
    have e1 := drop_low e
    obtain ⟨c, r, hd, hc, _⟩ := low_cons_inv e1
    have hc34 : c = 34 := lowN_34.mp (by rw [hc]; rfl)
    subst hc34
    obtain ⟨g1, g2, g3⟩ := getD_drop hd
    refine ⟨?_, by simp [escN]; omega⟩
    rw [hd]
    simp [tokQ, plc, escN, g2]
  | s :: w, t, R, acc, e => by
    have ee : escN (s :: w) = escC s ++ escN w := rfl
    rw [ee] at e ⊢
    unfold escC plc at *
    by_cases hs : s = 34 ∨ s = 92
    · simp only [if_pos hs] at e ⊢
      have e1 := drop_low e
      obtain ⟨c, r, hd, hc, hr⟩ := low_cons_inv e1
      have hc92 : c = 92 := lowN_92.mp (by rw [hc]; rfl)
      subst hc92
      obtain ⟨c2, r2, hd2, hc2, hr2⟩ := low_cons_inv hr
      subst hd2
      obtain ⟨g1, g2, g3⟩ := getD_drop hd
      obtain ⟨g4, g5, g6⟩ := getD_drop g2
      have ih := rd_word w (t ++ [92, s]) R (acc ++ [c2]) (by rw [e]; simp)
      have l2 : (t ++ [92, s]).length = t.length + 2 := by simp
      rw [l2, g5] at ih
      rw [hd]
      constructor
      · show tokQ r2 (acc ++ [c2]) = _
        rw [ih.1, List.map_cons, g4]
        simp [Nat.add_assoc]
      · have := ih.2
        simp at this ⊢; omega
    · simp only [if_neg hs] at e ⊢
      have e1 := drop_low e
      obtain ⟨c, r, hd, hc, hr⟩ := low_cons_inv e1
      obtain ⟨g1, g2, g3⟩ := getD_drop hd
      have hn : c ≠ 34 ∧ c ≠ 92 := ⟨fun q => hs (.inl (lowN_34.mp (by rw [← hc, q]; rfl))), fun q => hs (.inr (lowN_92.mp (by rw [← hc, q]; rfl)))⟩
      have ih := rd_word w (t ++ [s]) R (acc ++ [c]) (by rw [e]; simp)
      have l2 : (t ++ [s]).length = t.length + 1 := by simp
      rw [l2, g2] at ih
      rw [hd, tokQ_other hn.1 hn.2]
      constructor
      · rw [ih.1, List.map_cons, g1]
        simp [Nat.add_assoc, Nat.add_comm 1]
      · have := ih.2
        simp at this ⊢; omega
noncomputable def seqOf (h : List Nat) (sp : List Spt) : List (List Nat × Nat) := sp.map fun s => (s.1.map (h.getD · 0), min s.2 h.length)
theorem seqOf_app (h : List Nat) (a b : List Spt) : seqOf h (a ++ b) = seqOf h a ++ seqOf h b := by unfold seqOf; rw [List.map_append]
structure PrOk (p : Pr2) : Prop where
  nm : ∃ c, p.1 = [c] ∧ c ∈ [97, 98, 65, 66]
theorem tok_skip {r : List Nat} : tok wsL (32 :: r) = tok wsL r := rfl
theorem lowN_letter {c : Nat} (h : lowN c = 97 ∨ lowN c = 98) : c ≠ 32 ∧ c ≠ 61 ∧ c ≠ 34 ∧ c ≠ 92 := by
  refine ⟨?_, ?_, ?_, ?_⟩ <;> rintro rfl <;> simp [lowN] at h
theorem tok_name {c : Nat} (h : lowN c = 97 ∨ lowN c = 98) (r : List Nat) : tok wsL (c :: r) = tokW wsL r [c] := by
  obtain ⟨h1, h2, h3, h4⟩ := lowN_letter h
  cases r with
  | nil => simp [tok, h1, h2, h3, h4]
  | cons a b => simp [tok, h1, h2, h3, h4]
theorem tokW_end {c : Nat} (h : c = 32 ∨ c = 61) (r acc : List Nat) : tokW wsL (c :: r) acc = (acc, r) := by
  rcases h with rfl | rfl <;> (rw [tokW.eq_def]; rfl)
theorem rd_pair {h t R : List Nat} {p : Pr2} (hp : PrOk p) (hR : R = [] ∨ ∃ R', R = 32 :: R') (e : low h = low (t ++ (fmtN p ++ R))) :
    ∃ m, (m = (t ++ fmtN p).length ∨ m = min ((t ++ fmtN p).length + 1) h.length) ∧
      Reads h t.length (seqOf h (([t.length], t.length + 2) :: (if p.2 = [] then [] else [(plc ((t ++ p.1).length + 2) p.2, (t ++ fmtN p).length)]))) m := by
  obtain ⟨c0, hc0, hcm⟩ := hp.nm
  have hl : lowN c0 = 97 ∨ lowN c0 = 98 := by
    simp at hcm; rcases hcm with rfl | rfl | rfl | rfl <;> simp [lowN]
  have hlen : h.length = t.length + (fmtN p ++ R).length := by
    have := congrArg List.length e; rw [low_len', low_len'] at this; simpa using this
  have e1 := drop_low e
  unfold fmtN at e1 hlen ⊢
  by_cases hw : p.2 = []
  · simp only [if_pos hw] at e1 hlen ⊢
    rw [hc0] at e1 hlen ⊢
    obtain ⟨c, r, hd, hc, hr⟩ := low_cons_inv e1
    obtain ⟨g1, g2, g3⟩ := getD_drop hd
    have hcl : lowN c = 97 ∨ lowN c = 98 := by rw [hc]; exact hl
    rcases hR with rfl | ⟨R', rfl⟩
    · have hr0 : r = [] := low_nil_iff.mp hr
      subst hr0
      refine ⟨min (t.length + 2) h.length, .inr ?_, ?_⟩
      · simp
      · refine ⟨by simp, by omega, Nat.min_le_right _ _, ?_, rfl⟩
        rw [hd, tok_name hcl]
        have : h.drop (min (t.length + 2) h.length) = [] := by
          rw [List.drop_eq_nil_iff]; simp at hlen; omega
        rw [this, List.map_cons, g1]
        simp [tokW]
    · obtain ⟨c2, r2, hd2, hc2, hr2⟩ := low_cons_inv hr
      have hc32 : c2 = 32 := lowN_32.mp (by rw [hc2]; rfl)
      subst hc32; subst hd2
      obtain ⟨g4, g5, g6⟩ := getD_drop g2
      refine ⟨min (t.length + 2) h.length, .inr ?_, ?_⟩
      · simp
      · refine ⟨by simp, by omega, Nat.min_le_right _ _, ?_, rfl⟩
        rw [hd, tok_name hcl, tokW_end (.inl rfl)]
        rw [show min (t.length + 2) h.length = t.length + 1 + 1 from by omega, g5, List.map_cons, g1]
        rfl
  · simp only [if_neg hw] at e1 hlen ⊢
    rw [hc0] at e1 hlen ⊢
    obtain ⟨c, r, hd, hc, hr⟩ := low_cons_inv (B := 61 :: 34 :: (escN p.2 ++ 34 :: R)) (b := c0) (by rw [e1]; simp)
    obtain ⟨g1, g2, g3⟩ := getD_drop hd
    have hcl : lowN c = 97 ∨ lowN c = 98 := by rw [hc]; exact hl
    obtain ⟨c2, r2, hd2, hc2, hr2⟩ := low_cons_inv hr
    have hc61 : c2 = 61 := lowN_61.mp (by rw [hc2]; rfl)
    subst hc61; subst hd2
    obtain ⟨g4, g5, g6⟩ := getD_drop g2
    obtain ⟨c3, r3, hd3, hc3, hr3⟩ := low_cons_inv hr2
    have hc34 : c3 = 34 := lowN_34.mp (by rw [hc3]; rfl)
    subst hc34; subst hd3
    obtain ⟨g7, g8, g9⟩ := getD_drop g5
    have hwd := rd_word p.2 (t ++ [c0, 61, 34]) R [] (by
      rw [e]; unfold fmtN; rw [if_neg hw, hc0]; simp)
    have l3 : (t ++ [c0, 61, 34]).length = t.length + 3 := by simp
    rw [l3] at hwd
    rw [show t.length + 1 + 1 + 1 = t.length + 3 from rfl] at g8
    obtain ⟨w1, w2⟩ := hwd
    rw [g8] at w1
    refine ⟨(t ++ ([c0] ++ [61, 34] ++ escN p.2 ++ [34])).length, .inl rfl, ?_⟩
    have e5 : (t ++ [c0, 61, 34] ++ escN p.2).length + 1 = (t ++ ([c0] ++ [61, 34] ++ escN p.2 ++ [34])).length := by simp; omega
    rw [e5] at w1 w2
    have e6 : (t ++ [c0]).length + 2 = t.length + 3 := by simp
    show Reads h t.length (([t.length].map (h.getD · 0), min (t.length + 2) h.length) :: ((plc ((t ++ [c0]).length + 2) p.2).map (h.getD · 0), min (t ++ ([c0] ++ [61, 34] ++ escN p.2 ++ [34])).length h.length) :: []) _
    rw [e6, Nat.min_eq_left (show t.length + 2 ≤ h.length from by omega), Nat.min_eq_left w2]
    refine ⟨by simp, by omega, by omega, ?_, ?_, ?_, w2, ?_, rfl⟩
    · rw [hd, tok_name hcl, tokW_end (.inr rfl), show t.length + 2 = t.length + 1 + 1 from rfl, g5, List.map_cons, g1]
      rfl
    · have : p.2 ≠ [] := hw
      cases hp2 : p.2 with
      | nil => exact absurd hp2 hw
      | cons a b => unfold plc; split <;> simp
    · simp
    · rw [show t.length + 2 = t.length + 1 + 1 from rfl, g5]
      exact w1
theorem rev_ind' {α : Type} {p : List α → Prop} (h0 : p []) (h1 : ∀ t c, p t → p (t ++ [c])) (t : List α) : p t := by
  have : ∀ n, ∀ t : List α, t.length = n → p t := by
    intro n
    induction n with
    | zero => intro t ht; rw [List.length_eq_zero_iff.mp ht]; exact h0
    | succ n ih =>
      intro t ht
      have hne : t ≠ [] := by rintro rfl; simp at ht
      rw [← List.dropLast_concat_getLast hne]
      exact h1 _ _ (ih _ (by simp [ht]))
  exact this _ t rfl
theorem rd_all {h : List Nat} (ps : List Pr2) : (∀ p ∈ ps, PrOk p) → ∀ R, (R = [] ∨ ∃ R', R = 32 :: R') → low h = low ((writN ps).1 ++ R) →
    ∃ m, ((writN ps).1 = [] ∧ m = 0 ∨ (writN ps).1 ≠ [] ∧ (m = (writN ps).1.length ∨ m = min ((writN ps).1.length + 1) h.length)) ∧ Reads h 0 (seqOf h (writN ps).2) m := by
  refine rev_ind' (p := fun ps => (∀ p ∈ ps, PrOk p) → ∀ R, (R = [] ∨ ∃ R', R = 32 :: R') → low h = low ((writN ps).1 ++ R) →
    ∃ m, ((writN ps).1 = [] ∧ m = 0 ∨ (writN ps).1 ≠ [] ∧ (m = (writN ps).1.length ∨ m = min ((writN ps).1.length + 1) h.length)) ∧ Reads h 0 (seqOf h (writN ps).2) m) ?_ ?_ ps
  · intro _ R _ _
    exact ⟨0, .inl ⟨rfl, rfl⟩, rfl⟩
  · intro ps p ih hps R hR e
    have hw : writN (ps ++ [p]) = wstep (writN ps) p := by unfold writN; rw [List.foldl_append]; rfl
    rw [hw, wstep_eq] at e ⊢
    generalize hq : writN ps = q at *
    obtain ⟨t, sp⟩ := q
    have hp := hps p (by simp)
    have e' : low h = low (wgap t ++ (fmtN p ++ R)) := by rw [e]; simp
    obtain ⟨m, hm, hr⟩ := rd_pair hp hR e'
    have hne : wgap t ++ fmtN p ≠ [] := by
      have := fmtN_ne (p := p) (by obtain ⟨c, h, _⟩ := hp.nm; rw [h]; simp)
      simp [this]
    refine ⟨m, .inr ⟨hne, hm⟩, ?_⟩
    show Reads h 0 (seqOf h (sp ++ _)) m
    rw [seqOf_app]
    by_cases ht : t = []
    · subst ht
      have hsp : sp = [] := by
        cases ps with
        | nil => unfold writN at hq; cases hq; rfl
        | cons a b =>
          exfalso
          have := writ_text (ps := a :: b) (fun x hx => by obtain ⟨c, h, _⟩ := (hps x (List.mem_append_left _ hx)).nm; rw [h]; simp)
          rw [hq] at this
          have h2 : txtN (a :: b) ≠ [] := by
            unfold txtN
            show (b.map fmtN).foldl (fun acc p => acc ++ [32] ++ p) (fmtN a) ≠ []
            have h3 : fmtN a ≠ [] := fmtN_ne (by obtain ⟨c, h, _⟩ := (hps a (by simp)).nm; rw [h]; simp)
            generalize fmtN a = x at h3
            generalize b.map fmtN = l
            induction l generalizing x with
            | nil => exact h3
            | cons y l ih => exact ih _ (by simp)
          exact h2 this.symm
      subst hsp
      exact hr
    · have hg : wgap t = t ++ [32] := by unfold wgap; rw [if_neg ht]
      rw [hg] at hr hm e' ⊢
      obtain ⟨m1, hm1, hr1⟩ := ih (fun x hx => hps x (List.mem_append_left _ hx)) (32 :: (fmtN p ++ R)) (.inr ⟨_, rfl⟩) (by rw [e']; simp)
      refine hr1.app ?_
      have hlen : h.length = (t ++ [32]).length + (fmtN p ++ R).length := by
        have := congrArg List.length e'; rw [low_len', low_len', List.length_append] at this; exact this
      have e1 := drop_low (A := t) (B := 32 :: (fmtN p ++ R)) (h := h) (by rw [e']; simp)
      obtain ⟨c, r, hd, hc, hrr⟩ := low_cons_inv e1
      have hc32 : c = 32 := lowN_32.mp (by rw [hc]; rfl)
      subst hc32
      obtain ⟨g1, g2, g3⟩ := getD_drop hd
      have hl1 : (t ++ [32]).length = t.length + 1 := by simp
      rw [hl1] at hr hlen
      rcases hm1 with ⟨h0, _⟩ | ⟨_, hm1⟩
      · exact absurd h0 ht
      · have hm2 : m1 = t.length ∨ m1 = t.length + 1 := by
          rcases hm1 with q | q
          · exact .inl q
          · right
            have q3 : t.length + 1 ≤ h.length := g3
            simp at q ⊢; omega
        rcases hm2 with rfl | rfl
        · show Reads h t.length (seqOf h (([(t ++ [32]).length], (t ++ [32]).length + 2) :: _)) m
          rw [hl1]
          obtain ⟨h1, h2, h3, h4, h5⟩ := hr
          exact ⟨h1, by omega, h3, by rw [hd, tok_skip, ← g2]; exact h4, h5⟩
        · show Reads h (t.length + 1) (seqOf h (([(t ++ [32]).length], (t ++ [32]).length + 2) :: _)) m
          rw [hl1]
          exact hr
theorem Reads.le {h : List Nat} : ∀ {k : Nat} {a : List (List Nat × Nat)} {m : Nat}, k ≤ h.length → Reads h k a m → m ≤ h.length
  | k, [], m, hk, e => by cases e; exact hk
  | k, (w, e) :: r, m, hk, ⟨_, _, h3, _, h5⟩ => h5.le h3
theorem rd_end {h : List Nat} {ps : List Pr2} (hps : ∀ p ∈ ps, PrOk p) (e : low h = low (writN ps).1) : ∃ m, Reads h 0 (seqOf h (writN ps).2) m ∧ m ≤ h.length ∧ tok wsL (h.drop m) = ([], h.drop h.length) := by
  obtain ⟨m, hm, hr⟩ := rd_all ps hps [] (.inl rfl) (by rw [e]; simp)
  have hlen : h.length = (writN ps).1.length := by have := congrArg List.length e; rwa [low_len', low_len'] at this
  refine ⟨m, hr, hr.le (Nat.zero_le _), ?_⟩
  have : h.drop m = [] := by
    rw [List.drop_eq_nil_iff]
    rcases hm with ⟨h0, h1⟩ | ⟨_, h1⟩
    · rw [h0] at hlen; simp at hlen; simp [hlen]
    · omega
  rw [this]
  simp [tok]
end Mine

namespace Mine
/-! the plain law of the due answer -/
noncomputable def shownN (nm : List (List Nat)) : List (List Nat × List Nat) := ([], []) :: nm.map fun q => (low q, q)
theorem shown_app (nm : List (List Nat)) (q : List Nat) : shownN (nm ++ [q]) = shownN nm ++ [(low q, q)] := by unfold shownN; rw [List.map_append]; rfl
theorem look_low : ∀ (nm : List (List Nat)) (p : List Nat), (nm.map fun q => (low q, q)).lookup (low p) = (idxL nm p).map fun i => nm.getD i []
  | [], _ => rfl
  | q :: nm, p => by
    have ih := look_low nm p
    unfold idxL at ih ⊢
    rw [List.map_cons, List.lookup_cons, List.findIdx?_cons]
    cases h : (low q == low p) with
    | true =>
      have h' : (low p == low q) = true := by rw [beq_iff_eq] at h ⊢; exact h.symm
      rw [h']; rfl
    | false =>
      have h' : (low p == low q) = false := by rw [beq_eq_false_iff_ne] at h ⊢; exact h.symm
      rw [h']
      show List.lookup (low p) (nm.map fun q => (low q, q)) = _
      rw [ih]
      cases nm.findIdx? fun q => low q == low p <;> rfl
theorem shown_some {nm : List (List Nat)} {p : List Nat} (ne : ∀ q ∈ nm, q ≠ []) (h : p = [] ∨ ∃ i, idxL nm p = some i) : (shownN nm).lookup (low p) = some (shw nm p) := by
  unfold shownN
  by_cases h0 : p = []
  · rw [h0, shw_nil ne]; rfl
  · rcases h with h | ⟨i, h⟩
    · exact absurd h h0
    · have : (low p == []) = false := by rw [beq_eq_false_iff_ne]; exact fun e => h0 (low_nil_iff.mp e)
      rw [List.lookup_cons, this]
      show List.lookup (low p) (nm.map fun q => (low q, q)) = _
      rw [look_low]
      unfold shw
      rw [h]; rfl
theorem shown_none {nm : List (List Nat)} {p : List Nat} (h0 : p ≠ []) (h : idxL nm p = none) : (shownN nm).lookup (low p) = none := by
  have : (low p == []) = false := by rw [beq_eq_false_iff_ne]; exact fun e => h0 (low_nil_iff.mp e)
  unfold shownN
  rw [List.lookup_cons, this]
  show List.lookup (low p) (nm.map fun q => (low q, q)) = _
  rw [look_low, h]; rfl
noncomputable abbrev pcsV (nm : List (List Nat)) : List V := nm.map fun q => V.str (low q)
theorem pcs_is {nm : List (List Nat)} {p : List Nat} : ∀ x ∈ pcsV nm, (eqV x (.str p)).isSome := fun x hx => by
  obtain ⟨q, _, rfl⟩ := List.mem_map.mp hx
  rfl
theorem pcs_in : ∀ (nm : List (List Nat)) (p : List Nat), (pcsV nm).any (fun x => eqV x (.str (low p)) == some true) = (idxL nm p).isSome
  | [], _ => rfl
  | q :: nm, p => by
    have ih := pcs_in nm p
    unfold idxL at ih ⊢
    unfold pcsV at ih ⊢
    rw [List.map_cons, List.any_cons, List.findIdx?_cons]
    show ((some (low q == low p) == some true) || _) = _
    cases h : (low q == low p) with
    | true => rfl
    | false =>
      show List.any _ _ = _
      rw [ih]
      simp
theorem pcs_at {nm : List (List Nat)} {p : List Nat} {j : Nat} (h : idxL nm p = some j) : (∃ x, (pcsV nm)[j]? = some x ∧ eqV x (.str (low p)) = some true) ∧ (∀ i x, i < j → (pcsV nm)[i]? = some x → eqV x (.str (low p)) = some false) ∧ j < nm.length := by
  unfold idxL at h
  rw [List.findIdx?_eq_some_iff_getElem] at h
  obtain ⟨hj, h1, h2⟩ := h
  refine ⟨⟨V.str (low nm[j]), ?_, ?_⟩, fun i x hi hx => ?_, hj⟩
  · rw [List.getElem?_map, List.getElem?_eq_getElem hj]; rfl
  · show some (low nm[j] == low p) = _
    rw [h1]
  · rw [List.getElem?_map, List.getElem?_eq_getElem (Nat.lt_trans hi hj)] at hx
    cases hx
    have := h2 i hi
    show some (low nm[i] == low p) = _
    rw [Bool.not_eq_true] at this
    rw [this]
theorem sum_undig : ∀ (l : List Nat), ((List.range l.length).map fun (i : Nat) => ((l.getD i 0 : Nat) : Int) * ((1024 ^ i : Nat) : Int)).sum = ((undig 10 l : Nat) : Int)
  | [] => rfl
  | a :: l => by
    have ih := sum_undig l
    have h2 : ∀ (L : List Nat), (L.map fun (i : Nat) => (((a :: l).getD (i + 1) 0 : Nat) : Int) * ((1024 ^ (i + 1) : Nat) : Int)).sum = 1024 * (L.map fun (i : Nat) => ((l.getD i 0 : Nat) : Int) * ((1024 ^ i : Nat) : Int)).sum := by
      intro L
      induction L with
      | nil => rfl
      | cons i L ihL =>
        rw [List.map_cons, List.map_cons, List.sum_cons, List.sum_cons, ihL, Int.mul_add]
        congr 1
        show ((l.getD i 0 : Nat) : Int) * _ = _
        rw [show (1024 ^ (i + 1) : Nat) = 1024 ^ i * 1024 from rfl, Int.natCast_mul, Int.mul_comm (1024 : Int), Int.mul_assoc]
        rfl
    show (List.map _ (List.range (l.length + 1))).sum = _
    rw [List.range_succ_eq_map, List.map_cons, List.sum_cons, List.map_map]
    have := h2 (List.range l.length)
    rw [ih] at this
    refine Eq.trans (congrArg (_ + ·) this) ?_
    show ((a : Nat) : Int) * ((1 : Nat) : Int) + 1024 * _ = (((a + 2 ^ 10 * undig 10 l : Nat)) : Int)
    push_cast
    rw [Int.mul_one]
/-! the outer loop and the inner loop -/
noncomputable def subT2 (T : List Nat) (a b : Nat) : List Nat := (T.drop a).take (b - a)
theorem sub_low (T : List Nat) (a b : Nat) : subT2 (low T) a b = low (subT2 T a b) := by unfold subT2 low; rw [List.map_take, List.map_drop]
theorem sub_snoc {T : List Nat} {k j : Nat} (h1 : k < j) (h2 : j ≤ T.length) : subT2 T k j = subT2 T k (j - 1) ++ [T.getD (j - 1) 0] := by
  unfold subT2
  rw [show j - k = (j - 1 - k) + 1 from by omega, List.take_add_one, List.getElem?_drop, show k + (j - 1 - k) = j - 1 from by omega, List.getD_eq_getElem?_getD, List.getElem?_eq_getElem (by omega)]
  rfl
theorem sub_len {T : List Nat} {k j : Nat} (h2 : j ≤ T.length) : (subT2 T k j).length = j - k := by
  unfold subT2
  rw [List.length_take, List.length_drop]
  omega
structure DuS (T : List Nat) (k : Nat) (S : CS) : Prop where
  run : runC (T.take k) = S
  le : k ≤ T.length
  pc : S.pc = [] ∨ k = T.length
theorem DuS.zero (T : List Nat) : DuS T 0 ⟨[], [], []⟩ := ⟨by rw [List.take_zero]; rfl, Nat.zero_le _, .inl rfl⟩
structure DuI (T : List Nat) (k j : Nat) (S : CS) : Prop where
  lt : k < j
  le : j ≤ T.length
  run : runC (T.take (j - 1)) = ⟨S.nm, S.rows, subT2 T k (j - 1)⟩
theorem take_one {T : List Nat} {j : Nat} (h : 0 < j) (h2 : j ≤ T.length) : T.take j = T.take (j - 1) ++ [T.getD (j - 1) 0] := by
  have : j = (j - 1) + 1 := by omega
  rw [this, List.take_add_one, Nat.add_sub_cancel, List.getD_eq_getElem?_getD, List.getElem?_eq_getElem (by omega)]
  rfl
theorem DuS.pcNil {T : List Nat} {k : Nat} {S : CS} (h : DuS T k S) (hk : k < T.length) : S.pc = [] := by
  rcases h.pc with h | h
  · exact h
  · omega
theorem DuS.start {T : List Nat} {k : Nat} {S : CS} (h : DuS T k S) (hk : k < T.length) : DuI T k (k + 1) S := by
  refine ⟨Nat.lt_succ_self _, hk, ?_⟩
  rw [Nat.add_sub_cancel, h.run]
  have := h.pcNil hk
  have e : subT2 T k k = [] := by unfold subT2; rw [Nat.sub_self, List.take_zero]
  rw [e, ← this]
theorem DuI.step {T : List Nat} {k j : Nat} {S : CS} (h : DuI T k j S) : runC (T.take j) = CS.step ⟨S.nm, S.rows, subT2 T k (j - 1)⟩ (T.getD (j - 1) 0) := by
  rw [take_one (Nat.lt_of_le_of_lt (Nat.zero_le _) h.lt) h.le, runC_app, h.run]
theorem DuI.some {T : List Nat} {k j i : Nat} {S : CS} (h : DuI T k j S) (hi : idxL S.nm (subT2 T k j) = some i) : runC (T.take j) = ⟨S.nm, S.rows, subT2 T k j⟩ := by
  rw [h.step, CS.step_some (i := i) (by rw [← sub_snoc h.lt h.le]; exact hi), ← sub_snoc h.lt h.le]
theorem DuI.next {T : List Nat} {k j i : Nat} {S : CS} (h : DuI T k j S) (hj : j < T.length) (hi : idxL S.nm (subT2 T k j) = Option.some i) : DuI T k (j + 1) S :=
  ⟨Nat.lt_succ_of_lt h.lt, hj, by rw [Nat.add_sub_cancel]; exact h.some hi⟩
theorem DuI.ok {T : List Nat} {k j : Nat} {S : CS} (h : DuI T k j S) (hs : ∀ c ∈ T, c ∈ sg) : COk (T.take (j - 1)) ⟨S.nm, S.rows, subT2 T k (j - 1)⟩ := by
  rw [← h.run]
  exact cOk _ fun c hc => hs c (List.mem_of_mem_take hc)
theorem DuI.ne {T : List Nat} {k j : Nat} {S : CS} (h : DuI T k j S) : subT2 T k j ≠ [] := fun e => by
  have := sub_len (T := T) (k := k) (j := j) h.le
  rw [e] at this
  have := h.lt
  simp at *
  omega
theorem DuI.doneS {T : List Nat} {k j i : Nat} {S : CS} (h : DuI T k j S) (hi : idxL S.nm (subT2 T k j) = Option.some i) (hj : j = T.length) :
    ∃ S', DuS T j S' ∧ S'.nm = S.nm ∧ S'.fin = S.rows ++ [16 * (i + 1)] ∧ S'.segs = S.nm ++ [shw S.nm (subT2 T k j)] := by
  refine ⟨_, ⟨h.some hi, h.le, .inr hj⟩, rfl, ?_, ?_⟩
  · unfold CS.fin
    rw [if_neg h.ne, abv_some hi]
  · unfold CS.segs
    rw [if_neg h.ne]
theorem DuI.doneN {T : List Nat} {k j : Nat} {S : CS} (h : DuI T k j S) (hi : idxL S.nm (subT2 T k j) = Option.none) :
    ∃ S', DuS T j S' ∧ S'.nm = S.nm ++ [shw S.nm (subT2 T k (j - 1)) ++ [T.getD (j - 1) 0]] ∧ S'.fin = S.rows ++ [16 * abv S.nm (subT2 T k (j - 1)) + sIdx (T.getD (j - 1) 0) + 1] ∧ S'.segs = S'.nm := by
  refine ⟨_, ⟨by rw [h.step, CS.step_none (by rw [← sub_snoc h.lt h.le]; exact hi)], h.le, .inl rfl⟩, rfl, ?_, ?_⟩
  · unfold CS.fin
    rw [if_pos rfl, List.append_nil]
  · unfold CS.segs
    rw [if_pos rfl, List.append_nil]
theorem CS.fin_nil {S : CS} (h : S.pc = []) : S.fin = S.rows ∧ S.segs = S.nm := by
  unfold CS.fin CS.segs
  rw [if_pos h, if_pos h, List.append_nil, List.append_nil]
  exact ⟨rfl, rfl⟩
/-! the places lie in the text -/
theorem plc_lt : ∀ (w : List Nat) (o k : Nat), k ∈ plc o w → k < o + (escN w).length
  | [], _, _, h => by cases h
  | s :: w, o, k, h => by
    have e : escN (s :: w) = escC s ++ escN w := rfl
    rw [e, List.length_append]
    unfold plc at h
    unfold escC
    by_cases q : s = 34 ∨ s = 92
    · rw [if_pos q] at h
      rw [if_pos q]
      rcases List.mem_cons.mp h with h | h
      · subst h; show _ + 1 < _ + (2 + _); omega
      · have := plc_lt w _ k h; show k < o + (2 + _); omega
    · rw [if_neg q] at h
      rw [if_neg q]
      rcases List.mem_cons.mp h with h | h
      · subst h; show _ < _ + (1 + _); omega
      · have := plc_lt w _ k h; show k < o + (1 + _); omega
theorem spots_lt {ps : List Pr2} (h : ∀ p ∈ ps, p.1 ≠ []) : ∀ s ∈ spotsN ps, ∀ k ∈ s.1, k < (writN ps).1.length := by
  have key : ∀ ps : List Pr2, (∀ p ∈ ps, p.1 ≠ []) → ∀ s ∈ (writN ps).2, ∀ k ∈ s.1, k < (writN ps).1.length := by
    intro ps
    refine rev_ind' (p := fun ps => (∀ p ∈ ps, p.1 ≠ []) → ∀ s ∈ (writN ps).2, ∀ k ∈ s.1, k < (writN ps).1.length) ?_ ?_ ps
    · intro _ s hs; simp [writN] at hs
    · intro ps p ih hp s hs k hk
      have ih := ih fun x hx => hp x (List.mem_append_left _ hx)
      have hp1 : p.1 ≠ [] := hp p (by simp)
      have e : writN (ps ++ [p]) = wstep (writN ps) p := by unfold writN; rw [List.foldl_append]; rfl
      rw [e, wstep_eq] at hs ⊢
      generalize writN ps = q at *
      have hg : q.1.length ≤ (wgap q.1).length := by unfold wgap; split <;> simp
      have hf : 0 < (fmtN p).length := List.length_pos_iff.mpr (fmtN_ne hp1)
      show k < (wgap q.1 ++ fmtN p).length
      rw [List.length_append]
      rcases List.mem_append.mp hs with hs | hs
      · have := ih s hs k hk; omega
      · rcases List.mem_cons.mp hs with hs | hs
        · subst hs
          have : k = (wgap q.1).length := by simpa using hk
          omega
        · split at hs
          · cases hs
          · rename_i h0
            rw [List.mem_singleton] at hs
            subst hs
            have hk' := plc_lt _ _ _ hk
            have e2 : (fmtN p).length = p.1.length + 2 + (escN p.2).length + 1 := by unfold fmtN; rw [if_neg h0]; simp; omega
            rw [List.length_append] at hk'
            omega
  intro s hs k hk
  unfold spotsN at hs
  rcases List.mem_append.mp hs with hs | hs
  · exact key ps h s hs k hk
  · rw [List.mem_singleton] at hs
    subst hs
    cases hk
end Mine

namespace Mine
open PySem PySem.W PySem.Calls PyProof.Rows
abbrev TT := Lean.TSyntax `tactic
def holeT (c : Char) : Lean.MacroM Lean.Term := match c with
  | '?' => `(?_)
  | '_' => `(_)
  | 'y' => `(rfl)
  | 'a' => `(by assumption)
  | 'l' => `(fun _ _ => ?_)
  | 'q' => `(fun _ => rfl)
  | 'F' => `($(Lean.mkIdent `Mine.exOk.for_) ?_ ?_)
  | _ => `(⟨rfl, rfl, rfl⟩)
def termT (n gs hs : String) : Lean.MacroM Lean.Term := do
  let mut a : Array Lean.Term := #[]
  for g in gs.toList do
    let x ← `(Lean.Parser.Term.namedArgument| ($(Lean.mkIdent (.str .anonymous (if g == 'I' then "id" else if g == 'X' then "xs" else g.toString))) := ?_))
    a := a.push ⟨x.raw⟩
  for h in hs.toList do a := a.push (← holeT h)
  `($(Lean.mkIdent n.toName) $a*)
def manyT (c : String) (ts : Array TT) : Lean.MacroM TT := do
  if c == "f" then
    let q ← ts.mapM fun t => `(Lean.Parser.Tactic.tacticSeq| $t:tactic)
    `(tactic| first $[| $q]*)
  else
    let s ← `(tactic| ($[$ts];*))
    if c == "o" then `(tactic| focus $s:tactic) else pure s
def wordT (w : String) (st : List TT) : Lean.MacroM (List TT) := match w.splitOn " ", st with
  | ["r", n, gs, hs], st => do pure ((← `(tactic| with_reducible refine $(← termT n gs hs))) :: st)
  | ["u", n, hs], st => do pure ((← `(tactic| refine $(← termT n "" hs))) :: st)
  | ["h", hs], st => do pure ((← `(tactic| refine $(← holeT hs.front))) :: st)
  | ["e", n], st => do pure ((← `(tactic| with_reducible exact $(Lean.mkIdent n.toName))) :: st)
  | ["a", n], st => do pure ((← `(tactic| with_reducible apply $(Lean.mkIdent n.toName))) :: st)
  | ["w", k], st => do pure ((← `(tactic| walk_at $(Lean.quote k):str)) :: st)
  | ["k"], st => do pure ((← `(tactic| rotate_left)) :: st)
  | ["y"], st => do pure ((← `(tactic| rfl)) :: st)
  | ["m"], st => do pure ((← `(tactic| with_reducible assumption)) :: st)
  | ["n"], st => do pure ((← `(tactic| assumption)) :: st)
  | ["i"], st => do pure ((← `(tactic| intro)) :: st)
  | ["d"], st => do pure ((← `(tactic| decide +kernel)) :: st)
  | ["t"], t :: st => do pure ((← `(tactic| try $t:tactic)) :: st)
  | ["p"], t :: st => do pure ((← `(tactic| repeat $t:tactic)) :: st)
  | [c, n], st => do pure ((← manyT c (st.take n.toNat!).reverse.toArray) :: st.drop n.toNat!)
  | _, _ => Lean.Macro.throwUnsupported
def tacT (x : String) : Lean.MacroM TT := do
  match ← (x.splitOn ";").foldlM (fun st w => wordT w st) [] with
  | [t] => pure t
  | _ => Lean.Macro.throwUnsupported
def tabT : List (String × String) := [
  ("mem", "e List.mem_cons_self;m;r List.mem_cons_of_mem  _?;w mem;s 2;r List.mem_append_right  _?;w mem;s 2;f 4"),
  ("sto", "e Mine.StoreL.head;a Mine.StoreL.tail;w sto;s 2;f 2"),
  ("upd", "e Mine.UpdL.head;a Mine.UpdL.tail;w upd;s 2;a Mine.UpdL.pre;w upd;s 2;f 3"),
  ("pick", "e Mine.PickL.head;a Mine.PickL.tail;w pick;s 2;f 2"),
  ("picks", "e Mine.PicksL.nil;a Mine.PicksL.cons;w pick;w picks;s 3;f 2"),
  ("blk", "e Mine.UpdB.head;a Mine.UpdB.app;w blk;s 2;a Mine.UpdB.cons;w blk;s 2;f 3"),
  ("pkb", "e Mine.PickB.head;e Mine.PickB.one;a Mine.PickB.app;w pkb;s 2;a Mine.PickB.cons;w pkb;s 2;f 4"),
  ("pm", "r List.Perm.refl  _;a Mine.permB;w pkb;o 1;w pm;s 3;a Mine.permP;w pkb;o 1;w pm;s 3;f 3"),
  ("sub", "r List.Sublist.refl  _;a List.Sublist.cons_cons;w sub;s 2;a List.Sublist.cons;w sub;s 2;f 3"),
  ("in", "r Mine.sem.go G ???;r Mine.evOk.in_ G ???;r Mine.isOk.in_ G ???;r Mine.exOk.in_ G ???;r Mine.asOk.in_ G ???;r Mine.exsOk.in_ G ??l;r Mine.res.go G ??y?;f 7;k;m;e Mine.GOk.nil;f 2;h z;u Mine.Leaf.mk ?;u Mine.Leaf3.mk ?;u Mine.Leaf2.mk ?;f 3;o 5"),
  ("halt", "r Mine.Halt.mk  ?;r Mine.evOk.glob w ??????;k;n;k;y;y;y;y;o 8;r Mine.evOk.bi v ???????;k;n;k;y;y;y;y;y;o 9;r Mine.evOk.free cv ???????;k;k;y;w mem;k;y;y;y;y;o 10;r Mine.evOk.cell cv ??????;k;k;y;w mem;k;y;y;y;o 9;a Mine.asOk.cellname;y;w upd;k;y;y;o 6;f 5;s 2"),
  ("leaf", "r Mine.meth_listN IX ???;k;k;y;w mem;o 5;r Mine.meth_search  a?;a Mine.call_append;w upd;k;o 3;a Mine.call_reverse;w upd;k;o 3;a Mine.call_pop0;w upd;k;o 3;a Mine.call_len;w mem;k;o 3;a Mine.call_range1;i;s 2;a Mine.call_range2;i;s 2;a Mine.call_reversed;w mem;i;s 3;a Mine.meth_dictItems;w mem;s 2;a Mine.call_typeList;w mem;s 2;r Mine.call_bitlen  ?;r Mine.call_typeStr  ?;a Mine.cmp_isType;d;y;s 3;a Mine.cmp_isNotType;d;y;s 3;r Mine.call_divmod  ???;n;n;s 3;r Mine.Hid.leaf  a?;f 17"),
  ("one", "w in;w leaf;w halt;r Mine.optOk.none_  ?;r Mine.optOk.some_  ?;r Mine.evsOk.nil  ?;r Mine.evsOk.cons  ??;k;y;o 3;r Mine.kwsOk.nil  ?;o 1;f 8"),
  ("ex0", "w one;p;r Mine.Halt.mk  ?;t;s 2"),
  ("ex", "w one;r Mine.Halt.mk  F;k;h q;o 3;f 2;p;r Mine.Halt.mk  ?;t;s 2")]
local macro_rules | `(tactic| walk_at $k:str) => match tabT.lookup k.getString with
  | some x => tacT x
  | none => Lean.Macro.throwUnsupported

section
variable {P : Par} {d : Nat} {μ : Led}
theorem div2n1n_ok {a : Addr} {cdv : Value} {x y n : Int} (hF : FnIs P a "_div2n1n" (T1 6) cdv .none .none) (gD : Glob P "_DIV_LIMIT" (.int 4000)) (nb : Bi P "divmod" (.builtin "divmod")) (hy : y ≠ 0) (hy2 : y.natAbs < 1073741824) (hn : (Builtin.Int.intBits x : Int) - n ≤ 4000) : fnOk P 1 μ (R a) [.int x, .int y, .int n] [] (fun v μ' => v = .tup [.int (x.fdiv y), .int (x.fmod y)] ∧ μ' = μ) := by
  refine hF.ok (d := 0) (binds := [("a", .int x), ("b", .int y), ("n", .int n)]) (σ₀ := [("a", some (.int x)), ("b", some (.int y)), ("n", some (.int n)), ("pad", none), ("half_n", none), ("mask", none), ("b1", none), ("b2", none), ("q1", none), ("r", none), ("q2", none)]) (fun _ _ _ _ => bind3 fun _ _ _ => rfl) rfl rfl rfl rfl rfl rfl rfl fun L => ?_
  refine exsOk.cons ?_
  walk_at "ex"
  rw [if_pos (decide_eq_true hn)]
  walk_at "ex"
  exact ⟨rfl, rfl⟩
end

section
variable {P : Par} {d : Nat} {μ : Led}
noncomputable abbrev SI : Stmt := inner (T1 8) 1
noncomputable abbrev vints (l : List Nat) : List V := l.map fun (c : Nat) => V.int (c : Int)
noncomputable def put (ds : List V) (L R : Nat) (xs : List V) : List V := ds.take L ++ xs ++ ds.drop R
theorem put_put {ds : List V} {L mid R : Nat} {a b : List V} (h1 : L ≤ mid) (h2 : L ≤ ds.length) (h3 : a.length = mid - L) (h4 : mid ≤ R) : put (put ds L mid a) mid R b = put ds L R (a ++ b) := by
  unfold put
  have e1 : (ds.take L ++ a).length = mid := by rw [List.length_append, List.length_take, h3]; lia
  have e2 : (ds.take L ++ a ++ ds.drop mid).take mid = ds.take L ++ a := by
    rw [List.take_append_of_le_length (by lia), List.take_of_length_le (by lia)]
  have e3 : (ds.take L ++ a ++ ds.drop mid).drop R = ds.drop R := by
    rw [List.drop_append, List.drop_eq_nil_of_le (by lia), e1, List.nil_append, List.drop_drop]
    congr 1; lia
  rw [e2, e3]
  simp
noncomputable abbrev fdI (ca ci cn : Addr) (doc pm cv ctv : Value) : FuncData := kdv_fn (fnName SI) "_int2digits.<locals>.inner" (fnParams SI) (.stmts (fnBody SI)) (fnScope SI) [("n", cn), ("inner", ci), ("a_digits", ca)] .none doc pm cv ctv
noncomputable abbrev ledI (fI ci cn ca al : Addr) (doc pm cv ctv : Value) (n : Nat) (ds : List V) : Led := [(fI, .fn (fdI ca ci cn doc pm cv ctv) none), (ci, .cell (some (.raw (.ref fI)))), (cn, .cell (some (.int n))), (ca, .cell (some (.raw (.ref al)))), (al, .list ds)]
theorem inner2_base {fI ci cn ca al : Addr} {doc pm cv ctv : Value} {n d x L : Nat} {ds : List V} (h3 : L + 1 ≤ ds.length) (h4 : x < 2 ^ n) (h6 : L + 1 ≤ 2 ^ 26) :
    fnOk P (d + 1) (ledI fI ci cn ca al doc pm cv ctv n ds) (.raw (.ref fI)) [.int x, .int L, .int (L + 1 : Nat)] [] (fun v μ' => v = .none ∧ μ' = ledI fI ci cn ca al doc pm cv ctv n (put ds L (L + 1) (vints (digs n x 1)))) := by
  refine fnOk.led (d := d) (binds := [("x", .int x), ("L", .int L), ("R", .int (L + 1 : Nat))]) (σ₀ := [("x", some (.int x)), ("L", some (.int L)), ("R", some (.int (L + 1 : Nat))), ("mid", none), ("shift", none), ("upper", none), ("lower", none)]) List.mem_cons_self (bind3 fun _ _ _ => rfl) rfl rfl rfl rfl rfl rfl rfl fun Lo => ?_
  refine exsOk.cons ?_
  walk_at "ex"
  rw [if_pos (by simp)]
  walk_at "ex"
  refine set_list (by walk_at "upd") (by lia) (by lia) (by lia) ?_
  walk_at "ex"
  refine ⟨rfl, ?_⟩
  congr 5
  rw [digs_one h4]
  unfold put
  rw [List.set_eq_take_append_cons_drop, if_pos (by lia)]
  simp
theorem mid_in {L R mid : Nat} (h : L < R) (e : ¬ R = L + 1) (hm : (L + R) / 2 = mid) : L < mid ∧ mid < R ∧ mid + mid ≤ L + R ∧ L + R ≤ mid + mid + 1 := by
  have h1 : mid * 2 ≤ L + R := hm ▸ Nat.div_mul_le_self _ _
  have h2 : L + R < mid * 2 + 2 := hm ▸ Nat.lt_div_mul_add (by decide)
  clear hm
  lia
theorem mid_half {L R mid K : Nat} (h : R - L ≤ K + K) (h1 : mid + mid ≤ L + R) (h2 : L + R ≤ mid + mid + 1) : mid - L ≤ K ∧ R - mid ≤ K := by
  have h3 := Nat.sub_le_iff_le_add.mp h
  exact ⟨Nat.sub_le_iff_le_add.mpr (by clear h; lia), Nat.sub_le_iff_le_add.mpr (by clear h; lia)⟩
theorem inner2_ok {fI ci cn ca al : Addr} {doc pm cv ctv : Value} {n : Nat} (hn : 0 < n) : ∀ (k : Nat) (x L R : Nat) (ds : List V), R - L ≤ 2 ^ k → L < R → R ≤ ds.length → x < 2 ^ (n * (R - L)) → n * R ≤ 2 ^ 26 →
    fnOk P (k + 1) (ledI fI ci cn ca al doc pm cv ctv n ds) (.raw (.ref fI)) [.int x, .int L, .int R] [] (fun v μ' => v = .none ∧ μ' = ledI fI ci cn ca al doc pm cv ctv n (put ds L R (vints (digs n x (R - L))))) := by
  intro k
  induction k with
  | zero =>
    intro x L R ds h1 h2 h3 h4 hnR
    have h6 : R ≤ 2 ^ 26 := Nat.le_trans (Nat.le_mul_of_pos_left R hn) hnR
    have hn2 : n ≤ 2 ^ 26 := Nat.le_trans (Nat.le_mul_of_pos_right n (by lia)) hnR
    have e : R = L + 1 := by simp at h1; lia
    subst e
    have e1 : L + 1 - L = 1 := by lia
    rw [e1] at h4 ⊢
    exact inner2_base h3 (by simpa using h4) h6
  | succ k ih =>
    intro x L R ds h1 h2 h3 h4 hnR
    have h6 : R ≤ 2 ^ 26 := Nat.le_trans (Nat.le_mul_of_pos_left R hn) hnR
    have hn2 : n ≤ 2 ^ 26 := Nat.le_trans (Nat.le_mul_of_pos_right n (by lia)) hnR
    by_cases e : R = L + 1
    · subst e
      have e1 : L + 1 - L = 1 := by lia
      rw [e1] at h4 ⊢
      exact inner2_base h3 (by simpa using h4) h6
    refine fnOk.led (d := k + 1) (binds := [("x", .int x), ("L", .int L), ("R", .int R)]) (σ₀ := [("x", some (.int x)), ("L", some (.int L)), ("R", some (.int R)), ("mid", none), ("shift", none), ("upper", none), ("lower", none)]) List.mem_cons_self (bind3 fun _ _ _ => rfl) rfl rfl rfl rfl rfl rfl rfl fun Lo => ?_
    refine exsOk.cons ?_
    walk_at "ex"
    rw [if_neg (by simp; lia)]
    walk_at "ex"
    refine bin_shr (by decide) ?_
    have em : ((L : Int) + R).fdiv (2 ^ (1 : Int).toNat) = ((L + R) / 2 : Nat) := by
      rw [show ((2 : Int) ^ (1 : Int).toNat) = ((2 : Nat) : Int) from rfl, ← Int.natCast_add]; exact (Int.ofNat_fdiv (L + R) 2).symm
    rw [em]
    generalize hm : (L + R) / 2 = mid
    walk_at "ex"
    obtain ⟨hLm, hmR, hm1, hm2⟩ := mid_in h2 e hm
    have hmL : L ≤ mid := Nat.le_of_lt hLm
    have hRL : R - mid + (mid - L) = R - L := Nat.sub_add_sub_cancel (Nat.le_of_lt hmR) hmL
    refine bin_mulR (by lia) ?_
    have es : ((mid : Int) - L) * n = (((mid - L) * n : Nat) : Int) := by rw [Int.natCast_mul, Int.natCast_sub hmL]
    rw [es]
    generalize hs : (mid - L) * n = sh
    walk_at "ex"
    refine bin_shr (by lia) ?_
    have eu : (x : Int).fdiv (2 ^ (sh : Int).toNat) = ((x / 2 ^ sh : Nat) : Int) := by
      rw [Int.toNat_natCast, show ((2 : Int) ^ sh) = ((2 ^ sh : Nat) : Int) from by simp]
      exact (Int.ofNat_fdiv x (2 ^ sh)).symm
    rw [eu]
    generalize hu : x / 2 ^ sh = up
    walk_at "ex"
    have hup : up < 2 ^ (n * (R - mid)) := by
      rw [← hu, ← hs, Nat.div_lt_iff_lt_mul (Nat.two_pow_pos _), ← Nat.pow_add]
      have : n * (R - mid) + (mid - L) * n = n * (R - L) := by
        rw [Nat.mul_comm (mid - L) n, ← Nat.mul_add, hRL]
      rw [this]; exact h4
    have hup2 := bits_le hup
    have hle : n * (R - mid) + sh ≤ 2 ^ 26 := by
      have : n * (R - mid) + sh = n * (R - L) := by
        rw [← hs, Nat.mul_comm (mid - L) n, ← Nat.mul_add, hRL]
      rw [this]
      exact Nat.le_trans (Nat.mul_le_mul_left n (Nat.sub_le R L)) hnR
    refine bin_shl (by lia) (by lia) ?_
    refine bin_xor ?_
    have ex : Builtin.bitXor (x : Int) ((up : Int) * 2 ^ (sh : Int).toNat) = ((x % 2 ^ sh : Nat) : Int) := by
      rw [← xorI x sh, hu, Int.toNat_natCast]
      simp
    rw [ex]
    walk_at "ex"
    have hx1 : x % 2 ^ sh < 2 ^ (n * (mid - L)) := by
      rw [← hs, Nat.mul_comm n]; exact Nat.mod_lt _ (Nat.two_pow_pos _)
    obtain ⟨hk1, hk2⟩ := mid_half (K := 2 ^ k) (by rw [Nat.pow_succ, Nat.mul_two] at h1; exact h1) hm1 hm2
    refine ⟨Keep.fn List.mem_cons_self, opOk.monoE (ih (x % 2 ^ sh) L mid ds hk1 hLm (Nat.le_trans (Nat.le_of_lt hmR) h3) hx1 (Nat.le_trans (Nat.mul_le_mul_left n (Nat.le_of_lt hmR)) hnR)).call ?_⟩
    walk_at "ex"
    have hlen : (put ds L mid (vints (digs n (x % 2 ^ sh) (mid - L)))).length = ds.length := by
      unfold put
      simp [digs_len]
      rw [Nat.min_eq_left (Nat.le_trans (Nat.le_of_lt h2) h3), ← Nat.add_assoc, Nat.add_sub_cancel' hmL, Nat.add_sub_cancel' (Nat.le_trans (Nat.le_of_lt hmR) h3)]
    refine ⟨Keep.fn List.mem_cons_self, opOk.monoE (ih up mid R (put ds L mid (vints (digs n (x % 2 ^ sh) (mid - L)))) hk2 hmR (by rw [hlen]; exact h3) hup hnR).call ?_⟩
    walk_at "ex"
    refine ⟨rfl, congrArg (ledI fI ci cn ca al doc pm cv ctv n) ?_⟩
    have e1 : R - L = (mid - L) + (R - mid) := by rw [← hRL, Nat.add_comm]
    rw [e1, digs_add n (mid - L) (R - mid) x, Nat.mul_comm n (mid - L), hs, hu]
    rw [put_put hmL (Nat.le_trans (Nat.le_of_lt h2) h3) (by simp [digs_len]) (Nat.le_of_lt hmR)]
    simp
end

section
variable {P : Par} {d : Nat} {μ : Led}
theorem int2digits_ok {a c Pt : Addr} {x n : Nat} (hF : FnIs P a "_int2digits" (T1 8) (.ref c) .none .none) (htab : (c, Pt) ∈ P.tabs) (hq : P.qualAt (fnPos SI).line (fnPos SI).col = "_int2digits.<locals>.inner") (bl : Bi P "len" (.builtin "len"))
    (hn : 0 < n) (hn2 : n < 2 ^ 25) (hx : x < 2 ^ (2 ^ 24)) :
    fnOk P 28 μ (R a) [.int x, .int n] [] (fun v μ' => ∃ al, v = R al ∧ μ' = (al, .list (vints (digs n x ((Builtin.Int.intBits x + n - 1) / n)))) :: μ) := by
  refine hF.okC (d := 27) (binds := [("a", .int x), ("n", .int n)]) (σ₀ := [("a", some (.int x))]) (fun f => [("inner", f 2), ("a_digits", f 1), ("n", f 0)]) (fun f => [(f 2, .cell none), (f 1, .cell none), (f 0, .cell (some (.int n)))])
    (fun _ _ _ _ => bind2 fun _ _ => rfl) (fun _ => rfl) (fun _ => rfl) (fun _ => rfl) rfl rfl rfl rfl rfl rfl fun L f => ?_
  simp only [List.cons_append, List.nil_append]
  refine exsOk.cons ?_
  walk_at "ex"
  intro l
  walk_at "ex"
  refine bin_fdiv (by lia) (by lia) ?_
  have em : ((Builtin.Int.intBits (x : Int) : Int) + n - 1).fdiv n = (((Builtin.Int.intBits x + n - 1) / n : Nat) : Int) := by
    rw [show ((Builtin.Int.intBits (x : Int) : Int) + n - 1) = ((Builtin.Int.intBits x + n - 1 : Nat) : Int) from by lia]
    exact (Int.ofNat_fdiv _ n).symm
  rw [em]
  generalize hm : (Builtin.Int.intBits x + n - 1) / n = m
  have hb : Builtin.Int.intBits (x : Int) ≤ 2 ^ 24 := bits_le hx
  have hm2 : m ≤ 2 ^ 24 := by rw [← hm]; exact Nat.le_trans (ceil_le hn) hb
  refine bin_listMul (xs := [.int 0]) (by walk_at "mem") (by lia) (by lia) (by simp; lia) fun D => ?_
  walk_at "ex"
  refine exOk.def_ (qual := "_int2digits.<locals>.inner") (clos := [("n", f 0), ("inner", f 2), ("a_digits", f 1)]) (fun fI doc cv ctv => .inr ⟨_, _, _, rfl, rfl, by walk_at "upd", ?_⟩) htab rfl rfl rfl rfl rfl hq rfl rfl rfl
  generalize hfd : kdv_fn _ _ _ _ _ _ _ _ _ _ _ = fd
  have hfd2 : fd = fdI (f 1) (f 2) (f 0) doc ((P.mg "__name__").getD .none) cv ctv := hfd.symm
  clear hfd
  walk_at "ex"
  subst hfd2
  have hz : (List.replicate ((m : Int)).toNat [V.int 0]).flatten = List.replicate m (V.int 0) := by simp
  rw [hz]
  by_cases hx0 : x = 0
  · subst hx0
    rw [if_neg (by simp)]
    walk_at "ex"
    have hb0 : Builtin.Int.intBits ((0 : Nat) : Int) = 0 := rfl
    have hm0 : m = 0 := by rw [← hm, hb0]; exact Nat.div_eq_of_lt (by lia)
    subst hm0
    exact ⟨(D, .list (List.replicate 0 (V.int 0))) :: μ, by walk_at "sub", D, rfl, rfl⟩
  · rw [if_pos (by simpa using hx0)]
    walk_at "ex"
    refine ⟨Keep.fn (by walk_at "mem"), ?_⟩
    refine callOk.picks (ps := ledI fI (f 2) (f 0) (f 1) D doc _ cv ctv n (List.replicate m (V.int 0))) (by walk_at "picks") ?_
    have hlen : (List.replicate m (V.int 0)).length = m := List.length_replicate
    have hnm : n * m ≤ 2 ^ 26 := by
      have := ceil_mul (b := Builtin.Int.intBits (x : Int)) (n := n)
      rw [hm] at this; lia
    have hb1 : 0 < Builtin.Int.intBits (x : Int) := by
      unfold Builtin.Int.intBits
      rw [if_neg (by simpa using hx0)]; lia
    have hm0 : 0 < m := by
      have := ceil_ge (b := Builtin.Int.intBits (x : Int)) hn
      rw [hm] at this
      rcases m with _ | m
      · simp at this; lia
      · lia
    have hxm : x < 2 ^ (n * (m - 0)) := by
      have := ceil_ge (b := Builtin.Int.intBits (x : Int)) hn
      rw [hm] at this
      exact Nat.lt_of_lt_of_le (lt_bits x) (Nat.pow_le_pow_right (by decide) this)
    rw [hlen]
    refine opOk.monoE (((inner2_ok hn 26 x 0 m (List.replicate m (V.int 0)) (by lia) hm0 (by rw [hlen]; exact Nat.le_refl _) hxm hnm).le (by decide)).call) ?_
    have hput : put (List.replicate m (V.int 0)) 0 m (vints (digs n x (m - 0))) = vints (digs n x m) := by
      unfold put
      simp
    rw [hput]
    simp only [List.cons_append, List.nil_append]
    walk_at "ex"
    · exact ⟨(D, .list (vints (digs n x m))) :: μ, by walk_at "sub", D, rfl, rfl⟩
    · rw [List.length_replicate, sizeLine_eq]; lia
end

section
variable {P : Par} {d : Nat} {μ : Led}
noncomputable abbrev SJ : Stmt := inner (T1 9) 0
noncomputable abbrev fdJ (cd ci cn : Addr) (doc pm cv ctv : Value) : FuncData := kdv_fn (fnName SJ) "_digits2int.<locals>.inner" (fnParams SJ) (.stmts (fnBody SJ)) (fnScope SJ) [("n", cn), ("inner", ci), ("digits", cd)] .none doc pm cv ctv
noncomputable abbrev ledJ (fI ci cn cd dl : Addr) (doc pm cv ctv : Value) (n : Nat) (ds : List Nat) : Led := [(fI, .fn (fdJ cd ci cn doc pm cv ctv) none), (ci, .cell (some (.raw (.ref fI)))), (cn, .cell (some (.int n))), (cd, .cell (some (.raw (.ref dl)))), (dl, .list (vints ds))]
noncomputable def seg (ds : List Nat) (L R : Nat) : List Nat := (ds.drop L).take (R - L)
theorem seg_len {ds : List Nat} {L R : Nat} (h : R ≤ ds.length) : (seg ds L R).length = R - L := by unfold seg; rw [List.length_take, List.length_drop]; exact Nat.min_eq_left (Nat.sub_le_sub_right h L)
theorem seg_app {ds : List Nat} {L mid R : Nat} (h1 : L ≤ mid) (h2 : mid ≤ R) : seg ds L R = seg ds L mid ++ seg ds mid R := by
  unfold seg
  have e : R - L = (mid - L) + (R - mid) := ar_seg h1 h2
  rw [e, List.take_add, List.drop_drop]
  congr 3; lia
theorem seg_mem {ds : List Nat} {L R n : Nat} (h : ∀ x ∈ ds, x < 2 ^ n) : ∀ x ∈ seg ds L R, x < 2 ^ n := fun x hx => h x (List.mem_of_mem_drop (List.mem_of_mem_take hx))
theorem undig_lt {n : Nat} : ∀ {l : List Nat}, (∀ x ∈ l, x < 2 ^ n) → undig n l < 2 ^ (n * l.length)
  | [], _ => by simp [undig]
  | a :: l, h => by
    have h1 := h a List.mem_cons_self
    have h2 := undig_lt (l := l) fun x hx => h x (List.mem_cons_of_mem _ hx)
    show a + 2 ^ n * undig n l < 2 ^ (n * (l.length + 1))
    rw [Nat.mul_succ, Nat.pow_add, Nat.mul_comm (2 ^ (n * l.length))]
    have : 2 ^ n * (undig n l + 1) ≤ 2 ^ n * 2 ^ (n * l.length) := Nat.mul_le_mul_left _ h2
    rw [Nat.mul_add] at this
    lia
theorem innerJ_ok {fI ci cn cd dl : Addr} {doc pm cv ctv : Value} {n : Nat} (hn : 0 < n) {ds : List Nat} (hds : ∀ x ∈ ds, x < 2 ^ n) (hnd : n * ds.length ≤ 2 ^ 26) : ∀ (k : Nat) (L R : Nat), R - L ≤ 2 ^ k → L < R → R ≤ ds.length →
    fnOk P (k + 1) (ledJ fI ci cn cd dl doc pm cv ctv n ds) (.raw (.ref fI)) [.int L, .int R] [] (fun v μ' => v = .int (undig n (seg ds L R) : Nat) ∧ μ' = ledJ fI ci cn cd dl doc pm cv ctv n ds) := by
  have hl : ds.length ≤ 2 ^ 26 := Nat.le_trans (Nat.le_mul_of_pos_left _ hn) hnd
  have base : ∀ d L, L + 1 ≤ ds.length → fnOk P (d + 1) (ledJ fI ci cn cd dl doc pm cv ctv n ds) (.raw (.ref fI)) [.int L, .int (L + 1 : Nat)] [] (fun v μ' => v = .int (undig n (seg ds L (L + 1)) : Nat) ∧ μ' = ledJ fI ci cn cd dl doc pm cv ctv n ds) := by
    intro d L h3
    refine fnOk.led (d := d) (binds := [("L", .int L), ("R", .int (L + 1 : Nat))]) (σ₀ := [("L", some (.int L)), ("R", some (.int (L + 1 : Nat))), ("mid", none), ("shift", none)]) List.mem_cons_self (bind2 fun _ _ => rfl) rfl rfl rfl rfl rfl rfl rfl fun Lo => ?_
    refine exsOk.cons ?_
    walk_at "ex"
    rw [if_pos (by simp)]
    walk_at "ex"
    refine sub_list (v := .int (ds[L]'(by lia) : Nat)) (by walk_at "mem") (by lia) (by lia) (by simp; exact ⟨_, List.getElem?_eq_getElem (by lia), rfl⟩) ?_ (fun _ => rfl)
    repeat with_reducible refine Hid.leaf (by assumption) ?_
    refine ⟨?_, rfl⟩
    have e : seg ds L (L + 1) = [ds[L]'(by lia)] := by
      unfold seg
      rw [show L + 1 - L = 1 from by lia, List.drop_eq_getElem_cons (by lia)]
      rfl
    rw [e]
    simp [undig, retV]
  intro k
  induction k with
  | zero =>
    intro L R h1 h2 h3
    have e : R = L + 1 := by simp at h1; lia
    subst e
    exact base 0 L h3
  | succ k ih =>
    intro L R h1 h2 h3
    by_cases e : R = L + 1
    · subst e
      exact base (k + 1) L h3
    refine fnOk.led (d := k + 1) (binds := [("L", .int L), ("R", .int R)]) (σ₀ := [("L", some (.int L)), ("R", some (.int R)), ("mid", none), ("shift", none)]) List.mem_cons_self (bind2 fun _ _ => rfl) rfl rfl rfl rfl rfl rfl rfl fun Lo => ?_
    refine exsOk.cons ?_
    walk_at "ex"
    rw [if_neg (by simp; lia)]
    walk_at "ex"
    refine bin_shr (by decide) ?_
    have em : ((L : Int) + R).fdiv (2 ^ (1 : Int).toNat) = ((L + R) / 2 : Nat) := by
      rw [show ((2 : Int) ^ (1 : Int).toNat) = ((2 : Nat) : Int) from rfl, ← Int.natCast_add]; exact (Int.ofNat_fdiv (L + R) 2).symm
    rw [em]
    generalize hm : (L + R) / 2 = mid
    walk_at "ex"
    obtain ⟨hLm, hmR, hm1, hm2⟩ := mid_in h2 e hm
    have hRL : R - mid + (mid - L) = R - L := Nat.sub_add_sub_cancel (Nat.le_of_lt hmR) (Nat.le_of_lt hLm)
    obtain ⟨hk1, hk2⟩ := mid_half (K := 2 ^ k) (by rw [Nat.pow_succ, Nat.mul_two] at h1; exact h1) hm1 hm2
    have hn2 : n ≤ 2 ^ 26 := Nat.le_trans (Nat.le_mul_of_pos_right n (by lia)) hnd
    refine bin_mulR (by lia) ?_
    have es : ((mid : Int) - L) * n = (((mid - L) * n : Nat) : Int) := by rw [Int.natCast_mul, Int.natCast_sub (Nat.le_of_lt hLm)]
    rw [es]
    generalize hs : (mid - L) * n = sh
    walk_at "ex"
    refine ⟨Keep.fn List.mem_cons_self, opOk.monoE (ih mid R hk2 hmR h3).call ?_⟩
    walk_at "ex"
    have hu := undig_lt (seg_mem (L := mid) (R := R) hds)
    rw [seg_len h3] at hu
    have hub := bits_le hu
    have hle : n * (R - mid) + sh ≤ 2 ^ 26 := by
      have : n * (R - mid) + sh = n * (R - L) := by
        rw [← hs, Nat.mul_comm (mid - L) n, ← Nat.mul_add, hRL]
      rw [this]
      exact Nat.le_trans (Nat.mul_le_mul_left n (Nat.le_trans (Nat.sub_le _ _) h3)) hnd
    refine bin_shl (by lia) (by lia) ?_
    walk_at "ex"
    refine ⟨Keep.fn List.mem_cons_self, opOk.monoE (ih L mid hk1 hLm (Nat.le_trans (Nat.le_of_lt hmR) h3)).call ?_⟩
    walk_at "ex"
    refine ⟨?_, rfl⟩
    rw [seg_app (Nat.le_of_lt hLm) (Nat.le_of_lt hmR), undig_app, seg_len (Nat.le_trans (Nat.le_of_lt hmR) h3), Nat.mul_comm n (mid - L), hs]
    show V.int _ = V.int _
    congr 1
    rw [Int.toNat_natCast]
    push_cast
    rw [Int.add_comm, Int.mul_comm]
end

section
variable {P : Par} {d : Nat} {μ : Led}
theorem digits2int_ok {a c Pt dl : Addr} {n : Nat} {ds : List Nat} (hF : FnIs P a "_digits2int" (T1 9) (.ref c) .none .none) (htab : (c, Pt) ∈ P.tabs) (hq : P.qualAt (fnPos SJ).line (fnPos SJ).col = "_digits2int.<locals>.inner") (bl : Bi P "len" (.builtin "len"))
    (hn : 0 < n) (hds : ∀ x ∈ ds, x < 2 ^ n) (hnd : n * ds.length ≤ 2 ^ 26) (hlen : ds.length ≤ 2 ^ 24) :
    fnOk P 28 [(dl, .list (vints ds))] (R a) [R dl, .int n] [] (fun v μ' => v = .int (undig n ds : Nat) ∧ μ' = [(dl, .list (vints ds))]) := by
  refine hF.okC (d := 27) (binds := [("digits", R dl), ("n", .int n)]) (σ₀ := []) (fun f => [("inner", f 2), ("n", f 1), ("digits", f 0)]) (fun f => [(f 2, .cell none), (f 1, .cell (some (.int n))), (f 0, .cell (some (R dl)))])
    (fun _ _ _ _ => bind2 fun _ _ => rfl) (fun _ => rfl) (fun _ => rfl) (fun _ => rfl) rfl rfl rfl rfl rfl rfl fun L f => ?_
  simp only [List.cons_append, List.nil_append]
  refine exsOk.cons ?_
  refine exOk.def_ (qual := "_digits2int.<locals>.inner") (clos := [("n", f 1), ("inner", f 2), ("digits", f 0)]) (fun fI doc cv ctv => .inr ⟨_, _, _, rfl, rfl, by walk_at "upd", ?_⟩) htab rfl rfl rfl rfl rfl hq rfl rfl rfl
  generalize hfd : kdv_fn _ _ _ _ _ _ _ _ _ _ _ = fd
  have hfd2 : fd = fdJ (f 0) (f 2) (f 1) doc ((P.mg "__name__").getD .none) cv ctv := hfd.symm
  clear hfd
  subst hfd2
  walk_at "ex"
  refine tru_list (by walk_at "mem") (by rw [sizeLine_eq]; simp; lia) ?_
  walk_at "ex"
  by_cases h0 : ds = []
  · subst h0
    rw [if_neg (by simp)]
    walk_at "ex"
    exact ⟨[(dl, .list (vints []))], by walk_at "sub", rfl, rfl⟩
  · rw [if_pos (by cases ds <;> simp_all)]
    walk_at "ex"
    refine ⟨Keep.fn (by walk_at "mem"), ?_⟩
    refine callOk.picks (ps := ledJ fI (f 2) (f 1) (f 0) dl doc _ cv ctv n ds) (by walk_at "picks") ?_
    have e1 : (vints ds).length = ds.length := by simp
    have h1 : 0 < ds.length := List.length_pos_iff.mpr h0
    rw [e1]
    refine opOk.monoE (((innerJ_ok hn hds hnd 26 0 ds.length (by lia) h1 (Nat.le_refl _)).le (by decide)).call) ?_
    simp only [List.cons_append, List.nil_append]
    have hs : seg ds 0 ds.length = ds := by unfold seg; simp
    rw [hs]
    walk_at "ex"
    exact ⟨[(dl, .list (vints ds))], by walk_at "sub", rfl, rfl⟩
    all_goals (first | (rw [sizeLine_eq]; simp; lia) | skip)
end

theorem digs_lt (n : Nat) : ∀ (k x : Nat), ∀ e ∈ digs n x k, e < 2 ^ n
  | 0, x, e, h => by simp [digs] at h
  | k + 1, x, e, h => by
    rcases List.mem_cons.mp h with rfl | h
    · exact Nat.mod_lt _ (Nat.two_pow_pos n)
    · exact digs_lt n k _ e h
section
variable {P : Par} {d : Nat} {μ : Led}
set_option genInjectivity false in
structure DivA where
  d2 : Addr
  i2 : Addr
  g2 : Addr
  dp : Addr
  dm : Addr
  ci : Addr
  Pi : Addr
  cg : Addr
  Pg : Addr
  cd : Value
  cp : Value
  cm : Value
structure DivF (P : Par) (t : DivA) : Prop where
  f1 : FnIs P t.d2 "_div2n1n" (T1 6) t.cd .none .none
  f2 : FnIs P t.i2 "_int2digits" (T1 8) (.ref t.ci) .none .none
  f3 : FnIs P t.g2 "_digits2int" (T1 9) (.ref t.cg) .none .none
  f4 : FnIs P t.dp "_divmod_pos" (T1 10) t.cp .none .none
  f5 : FnIs P t.dm "int_divmod" (T1 11) t.cm .none .none
  g1 : Glob P "_div2n1n" (R t.d2)
  g2 : Glob P "_int2digits" (R t.i2)
  g3 : Glob P "_digits2int" (R t.g2)
  g4 : Glob P "_divmod_pos" (R t.dp)
  g5 : Glob P "int_divmod" (R t.dm)
  g6 : Glob P "_DIV_LIMIT" (.int 4000)
  b1 : Bi P "divmod" (.builtin "divmod")
  b2 : Bi P "len" (.builtin "len")
  b3 : Bi P "reversed" (.type "reversed")
  t1 : (t.ci, t.Pi) ∈ P.tabs
  t2 : (t.cg, t.Pg) ∈ P.tabs
  q1 : P.qualAt (fnPos SI).line (fnPos SI).col = "_int2digits.<locals>.inner"
  q2 : P.qualAt (fnPos SJ).line (fnPos SJ).col = "_digits2int.<locals>.inner"
theorem divmodPos_ok {t : DivA} {x y : Nat} (hF : DivF P t) (hy : 0 < y) (hy2 : y < 2 ^ 30) (hx : x < 2 ^ (2 ^ 12)) :
    fnOk P 29 μ (R t.dp) [.int x, .int y] [] (fun v μ' => v = .tup [.int (x / y : Nat), .int (x % y : Nat)] ∧ μ' = μ) := by
  refine away fun G hG => ?_
  obtain ⟨f1, f2, f3, f4, f5, g1, g2, g3, g4, g5, g6, b1, b2, b3, t1, t2, q1, q2⟩ := hF
  refine hG ?_
  clear hG G
  refine fnOk.drop ?_
  refine f4.ok (d := 28) (binds := [("a", .int x), ("b", .int y)]) (σ₀ := [("a", some (.int x)), ("b", some (.int y)), ("n", none), ("a_digits", none), ("r", none), ("q_digits", none), ("a_digit", none), ("q_digit", none), ("q", none)]) (fun _ _ _ _ => bind2 fun _ _ => rfl) rfl rfl rfl rfl rfl rfl rfl fun L => ?_
  refine exsOk.cons ?_
  have hn0 : 0 < Builtin.Int.intBits (y : Int) := by
    unfold Builtin.Int.intBits
    rw [if_neg (by simp; lia)]; lia
  have hyb := lt_bits y
  have hn30 : Builtin.Int.intBits (y : Int) ≤ 30 := bits_le hy2
  generalize hn : Builtin.Int.intBits (y : Int) = n at *
  walk_at "ex"
  rw [hn]
  walk_at "ex"
  refine ⟨f2.kp, opOk.monoX (int2digits_ok f2 t1 q1 b2 hn0 (by lia) (Nat.lt_of_lt_of_le hx (Nat.pow_le_pow_right (by decide) (by decide)))).call fun D => ?_⟩
  have hbx : Builtin.Int.intBits (x : Int) ≤ 2 ^ 12 := bits_le hx
  have hcm := ceil_mul (b := Builtin.Int.intBits (x : Int)) (n := n)
  have hcl := ceil_le (b := Builtin.Int.intBits (x : Int)) hn0
  have hcg := ceil_ge (b := Builtin.Int.intBits (x : Int)) hn0
  generalize hm : (Builtin.Int.intBits (x : Int) + n - 1) / n = m at *
  walk_at "ex"
  refine fun Q => ?_
  walk_at "ex"
  rename_i rv
  refine it_rev (List.Perm.refl _) (by walk_at "mem") ?_
  have hB : 0 < 2 ^ n := Nat.two_pow_pos n
  generalize hds : digs n x m = ds at *
  have hdm : ∀ e ∈ ds, e < 2 ^ n := by rw [← hds]; exact digs_lt n m x
  have hdl : ds.length = m := by rw [← hds]; exact digs_len n m x
  refine ⟨fun i σ μ' => ∃ o1 o2, σ = ([("a", some (.int x)), ("b", some (.int y)), ("n", some (.int n)), ("a_digits", some (R D)), ("r", some (.int ((ldiv (2 ^ n) y (ds.reverse.take i) 0).2 : Nat))), ("q_digits", some (R Q)), ("a_digit", o1), ("q_digit", o2), ("q", none)] : Loc) ∧
      μ' = (Q, .list (vints (ldiv (2 ^ n) y (ds.reverse.take i) 0).1)) :: (D, .list (vints ds)) :: μ, ⟨none, none, rfl, rfl⟩, ?_, ?_, ?_⟩
  · rintro i σ μ' hY0
    refine away fun G hG => ?_
    obtain ⟨o1, o2, eY1, eY2⟩ := hY0
    refine hG ?_
    clear hG G
    subst eY1
    subst eY2
    exact ⟨_, List.Perm.swap _ _ _⟩
  · rintro i v σ μ' hv hY0
    refine away fun G hG => ?_
    obtain ⟨o1, o2, eY1, eY2⟩ := hY0
    refine hG ?_
    clear hG G
    subst eY1
    subst eY2
    have hv' : ∃ e, ds.reverse[i]? = some e ∧ v = .int (e : Nat) := by
      rw [← List.map_reverse, List.getElem?_map] at hv
      cases he : ds.reverse[i]? with
      | none => rw [he] at hv; cases hv
      | some e => rw [he] at hv; cases hv; exact ⟨e, rfl, rfl⟩
    refine away fun G hG => ?_
    obtain ⟨e, he, eY1⟩ := hv'
    refine hG ?_
    clear hG G
    subst eY1
    have hi : i < ds.reverse.length := (List.getElem?_eq_some_iff.mp he).1
    have hee : e < 2 ^ n := hdm e (by have := List.mem_of_getElem? he; simpa using this)
    have htk : ds.reverse.take (i + 1) = ds.reverse.take i ++ [e] := by
      rw [List.take_add_one, he]; rfl
    have hsn := ldiv_snoc (B := 2 ^ n) (b := y) (ds.reverse.take i) 0 e
    have hrl := ldiv_lt (B := 2 ^ n) hy (ds.reverse.take i) 0 hy
    have hql : (ldiv (2 ^ n) y (ds.reverse.take i) 0).1.length = i := by rw [ldiv_len, List.length_take]; lia
    generalize hqs : (ldiv (2 ^ n) y (ds.reverse.take i) 0).1 = qs at *
    generalize hrr : (ldiv (2 ^ n) y (ds.reverse.take i) 0).2 = r at *
    walk_at "ex"
    have hr2 : r * 2 ^ n + e < 2 ^ (2 * n) := by
      have h1 : (r + 1) * 2 ^ n ≤ 2 ^ n * 2 ^ n := Nat.mul_le_mul_right _ (by lia)
      rw [Nat.add_mul] at h1
      rw [Nat.two_mul, Nat.pow_add]; lia
    have hrb := bits_le (Nat.lt_trans hrl hyb)
    refine bin_shl (by lia) (by lia) ?_
    walk_at "ex"
    have ev : (r : Int) * 2 ^ (n : Int).toNat + e = ((r * 2 ^ n + e : Nat) : Int) := by
      rw [Int.toNat_natCast]; push_cast; rfl
    rw [ev]
    have hb2 := bits_le hr2
    refine ⟨f1.kp, opOk.monoE ((div2n1n_ok f1 g6 b1 (by lia) (by lia) (by lia)).le (by decide)).call ?_⟩
    walk_at "ex"
    have e1 : ((r * 2 ^ n + e : Nat) : Int).fdiv y = (((r * 2 ^ n + e) / y : Nat) : Int) := (Int.ofNat_fdiv _ _).symm
    have e2 : ((r * 2 ^ n + e : Nat) : Int).fmod y = (((r * 2 ^ n + e) % y : Nat) : Int) := (Int.ofNat_fmod _ _).symm
    rw [e1, e2]
    · refine ⟨some (.int e), some (.int ((r * 2 ^ n + e) / y : Nat)), ?_, ?_⟩
      rotate_left
      · rw [htk, hsn]
        simp
      · rw [htk, hsn]
    · rw [sizeLine_eq, List.length_map]; rw [List.length_reverse] at hi; lia
  · rintro σ μ' hY0
    refine away fun G hG => ?_
    obtain ⟨o1, o2, eY1, eY2⟩ := hY0
    refine hG ?_
    clear hG G
    subst eY1
    subst eY2
    have hfull : ds.reverse.take (vints ds).reverse.length = ds.reverse := by
      rw [List.take_of_length_le (by simp)]
    rw [hfull]
    have hbig := ldiv_big (B := 2 ^ n) hy ds.reverse 0
    have hrl := ldiv_lt (B := 2 ^ n) hy ds.reverse 0 hy
    have hql : (ldiv (2 ^ n) y ds.reverse 0).1.length = m := by rw [ldiv_len, List.length_reverse, hdl]
    have hqd := ldiv_dig (B := 2 ^ n) hy ds.reverse 0 hy (fun e he => hdm e (by simpa using he))
    generalize (ldiv (2 ^ n) y ds.reverse 0).1 = qs at *
    generalize (ldiv (2 ^ n) y ds.reverse 0).2 = r at *
    have hxm : x < 2 ^ (n * m) := Nat.lt_of_lt_of_le (lt_bits x) (Nat.pow_le_pow_right (by decide) hcg)
    rw [big_undig, ← hds, undig_digs n m x hxm] at hbig
    have hbq : big (2 ^ n) qs 0 = undig n qs.reverse := by rw [← big_undig n qs.reverse, List.reverse_reverse]
    rw [hbq] at hbig
    have hq : undig n qs.reverse = x / y := by
      rw [hbig, Nat.add_comm, Nat.add_mul_div_right _ _ hy, Nat.div_eq_of_lt hrl]; lia
    have hr : r = x % y := by rw [hbig, Nat.add_comm, Nat.add_mul_mod_self_right, Nat.mod_eq_of_lt hrl]
    walk_at "ex"
    refine ⟨f3.kp, ?_⟩
    have erev : (vints qs).reverse = vints qs.reverse := by simp
    rw [erev]
    refine callOk.picks (ps := [(Q, .list (vints qs.reverse))]) (by walk_at "picks") ?_
    refine opOk.monoE (digits2int_ok f3 t2 q2 b2 hn0 (fun e he => hqd e (by simpa using he)) (by rw [List.length_reverse, hql]; lia) (by rw [List.length_reverse, hql]; lia)).call ?_
    dsimp only [List.cons_append, List.nil_append]
    rw [hq, hr]
    walk_at "ex"
    · exact ⟨μ, by walk_at "sub", rfl, rfl⟩
    · rw [sizeLine_eq, List.length_map, hql]; lia
end

section
variable {P : Par} {d : Nat} {μ : Led}
theorem fdiv_neg {x b : Nat} (hb : 0 < b) : (-(x : Int) - 1).fdiv b = -((x / b : Nat) : Int) - 1 ∧ (-(x : Int) - 1).fmod b = b + (-((x % b : Nat) : Int) - 1) := by
  have hb' : (0 : Int) < b := by lia
  rw [Int.fdiv_eq_ediv_of_nonneg _ (by lia), Int.fmod_eq_emod_of_nonneg _ (by lia)]
  refine (Int.ediv_emod_unique hb').mpr ?_
  have h1 := Nat.div_add_mod x b
  have h2 := Nat.mod_lt x hb
  have h3 : (b : Int) * ((x / b : Nat) : Int) + ((x % b : Nat) : Int) = x := by rw [← Int.natCast_mul, ← Int.natCast_add, h1]
  refine ⟨?_, by lia, by lia⟩
  rw [Int.mul_sub, Int.mul_neg]
  lia
theorem intDivmod_pos {t : DivA} {x y : Nat} (hF : DivF P t) (hy : 0 < y) (hy2 : y < 2 ^ 30) (hx : x < 2 ^ (2 ^ 12)) :
    fnOk P 30 μ (R t.dm) [.int x, .int y] [] (fun v μ' => v = .tup [.int (x / y : Nat), .int (x % y : Nat)] ∧ μ' = μ) := by
  have hF' := hF
  obtain ⟨f1, f2, f3, f4, f5, g1, g2, g3, g4, g5, g6, b1, b2, b3, t1, t2, q1, q2⟩ := hF
  refine f5.ok (d := 29) (binds := [("a", .int x), ("b", .int y)]) (σ₀ := [("a", some (.int x)), ("b", some (.int y)), ("q", none), ("r", none)]) (fun _ _ _ _ => bind2 fun _ _ => rfl) rfl rfl rfl rfl rfl rfl rfl fun L => ?_
  refine exsOk.cons ?_
  walk_at "ex"
  rw [if_neg (by first | (simp; lia) | simp)]
  walk_at "ex"
  rw [if_neg (by first | (simp; lia) | simp)]
  walk_at "ex"
  rw [if_neg (by first | (simp; lia) | simp)]
  walk_at "ex"
  refine ⟨f4.kp, opOk.monoE (divmodPos_ok hF' hy hy2 hx).call ?_⟩
  repeat with_reducible refine Hid.leaf (by assumption) ?_
  exact ⟨rfl, rfl⟩
theorem intDivmod_ok {t : DivA} {a : Int} {y : Nat} (hF : DivF P t) (hy : 0 < y) (hy2 : y < 2 ^ 30) (hx : a.natAbs < 2 ^ (2 ^ 12)) :
    fnOk P 31 μ (R t.dm) [.int a, .int y] [] (fun v μ' => v = .tup [.int (a.fdiv y), .int (a.fmod y)] ∧ μ' = μ) := by
  by_cases ha : 0 ≤ a
  · obtain ⟨x, rfl⟩ := Int.eq_ofNat_of_zero_le ha
    refine ((intDivmod_pos hF hy hy2 (by rw [show ((x : Int)).natAbs = x from rfl] at hx; exact hx)).le (by decide)).mono fun v μ' h => ?_
    rw [show ((x : Int)).fdiv y = ((x / y : Nat) : Int) from (Int.ofNat_fdiv _ _).symm, show ((x : Int)).fmod y = ((x % y : Nat) : Int) from (Int.ofNat_fmod _ _).symm]
    exact h
  have hF' := hF
  obtain ⟨f1, f2, f3, f4, f5, g1, g2, g3, g4, g5, g6, b1, b2, b3, t1, t2, q1, q2⟩ := hF
  obtain ⟨x, hxe⟩ : ∃ x : Nat, a = -(x : Int) - 1 := ⟨(-a - 1).toNat, by lia⟩
  subst hxe
  refine f5.ok (d := 30) (binds := [("a", .int (-(x : Int) - 1)), ("b", .int y)]) (σ₀ := [("a", some (.int (-(x : Int) - 1))), ("b", some (.int y)), ("q", none), ("r", none)]) (fun _ _ _ _ => bind2 fun _ _ => rfl) rfl rfl rfl rfl rfl rfl rfl fun L => ?_
  refine exsOk.cons ?_
  walk_at "ex"
  rw [if_neg (by first | (simp; lia) | simp)]
  walk_at "ex"
  rw [if_neg (by first | (simp; lia) | simp)]
  walk_at "ex"
  rw [if_pos (by first | (simp; lia) | simp)]
  walk_at "ex"
  have eb : Builtin.bitNot (-(x : Int) - 1) = (x : Int) := by show -(-(x : Int) - 1) - 1 = _; lia
  rw [eb]
  refine ⟨f5.kp, opOk.monoE (intDivmod_pos hF' hy hy2 (by lia)).call ?_⟩
  walk_at "ex"
  refine ⟨?_, rfl⟩
  obtain ⟨h1, h2⟩ := fdiv_neg (x := x) hy
  rw [h1, h2]
  rfl
end

section
variable {P : Par} {d : Nat} {μ : Led}
noncomputable def Pr (l : List Nat) : Prop := ∀ c ∈ l, 32 ≤ c ∧ c < 127
noncomputable abbrev TH (i : Nat) : Stmt := inner (T1 17) i
set_option genInjectivity false in
structure HdrA where
  C : Addr
  aInit : Addr
  aConv : Addr
  aGet : Addr
  aKeys : Addr
  p1 : Addr
  p2 : Addr
  k1 : Array Nat
  k2 : Array Nat
  c1 : Value
  c2 : Value
  c3 : Value
  c5 : Value
  d1 : Value
  d3 : Value
structure HdrF (P : Par) (t : HdrA) : Prop where
  f1 : FnIs P t.aInit "Headers.__init__" (TH 0) t.c1 t.d1 .none
  f2 : FnIs P t.aConv "Headers._convert_string_type" (TH 1) t.c2 .none .none
  f3 : FnIs P t.aGet "Headers.get" (TH 8) t.c3 t.d3 .none
  f5 : FnIs P t.aKeys "Headers.keys" (TH 9) t.c5 .none .none
  e1 : DfltAt P t.d1
  e3 : DfltAt P t.d3
  g1 : Glob P "_name_disallowed_re" (R t.p1)
  g2 : Glob P "_value_disallowed_re" (R t.p2)
  r1 : PatAt P t.p1 t.k1
  r2 : PatAt P t.p2 t.k2
  o1 : Rx.Opens t.k1
  o2 : Rx.Opens t.k2
  s1 : Rx.Set1 t.k1 0 31 127
  s2 : Rx.Set2 t.k2 fun c => 32 ≤ c ∧ c < 127
  b1 : Bi P "type" (.type "type")
  b2 : Bi P "str" (.type "str")
  b3 : Bi P "list" (.type "list")
  gC : Glob P "Headers" (R t.C)
  kC : keepIn P.K (.ref t.C) = true
  mks : makesIn P.K t.C = true
  ga : ∀ name, plainGet P.K t.C name = true
  hd : hasDictIn P.K t.C = true
  po : plainOver P.K t.C = true
  sa : findIn P.K (.ref t.C) "__setattr__" = some (some (.builtin "object.__setattr__"))
  fi : findIn P.K (.ref t.C) "__init__" = some (some (.ref t.aInit))
  ff : findIn P.K (.ref t.C) "_headers" = some none
  ft : takerIn P.K t.C "_headers" = some none
  fc : findIn P.K (.ref t.C) "_convert_string_type" = some (some (.ref t.aConv))
  fg : findIn P.K (.ref t.C) "get" = some (some (.ref t.aGet))
  fk : findIn P.K (.ref t.C) "keys" = some (some (.ref t.aKeys))
  i1 : isFn P.K (.ref t.aInit) = true
  i2 : isFn P.K (.ref t.aConv) = true
  i3 : isFn P.K (.ref t.aGet) = true
  i5 : isFn P.K (.ref t.aKeys) = true
theorem HdrF.no1 {t : HdrA} (hF : HdrF P t) {l : List Nat} (h : Pr l) : ∀ c ∈ l, ∀ seen, ∃ seen', Sre.inSet t.k1 c t.k1.size 5 true seen = .ok (false, seen') := fun c hc seen => by
  have := h c hc
  exact hF.s1.no (by lia) (by lia) seen
theorem HdrF.no2 {t : HdrA} (hF : HdrF P t) {l : List Nat} (h : Pr l) : ∀ c ∈ l, ∀ seen, ∃ seen', Sre.inSet t.k2 c t.k2.size 5 true seen = .ok (false, seen') := fun c hc seen => hF.s2.no (h c hc) seen
theorem conv_ok {t : HdrA} {slf : V} {l : List Nat} {b : Bool} (hF : HdrF P t) (hl : Pr l) (hsz : l.length ≤ 2 ^ 24) :
    fnOk P 2 μ (R t.aConv) [slf, .str l] [("name", .bool b)] (fun v μ' => v = .str l ∧ μ' = μ) := by
  have g1 := hF.g1; have g2 := hF.g2; have b1 := hF.b1; have b2 := hF.b2; have r1 := hF.r1; have r2 := hF.r2
  refine hF.f2.ok (d := 1) (binds := [("self", slf), ("value", .str l), ("name", .bool b)]) (σ₀ := [("self", some slf), ("value", some (.str l)), ("name", some (.bool b)), ("regex", none)]) (fun _ _ _ _ => bind2k fun _ _ _ => rfl) rfl rfl rfl rfl rfl rfl rfl fun L => ?_
  refine exsOk.cons ?_
  walk_at "ex"
  rw [if_pos (by decide)]
  walk_at "ex"
  cases b with
  | true =>
    rw [if_pos rfl]
    walk_at "ex"
    refine call_search r1 hF.o1 (hF.no1 hl) (by lia) ?_
    walk_at "ex"
    rw [if_neg (by decide)]
    walk_at "ex"
    exact ⟨rfl, rfl⟩
  | false =>
    rw [if_neg (by decide)]
    walk_at "ex"
    refine call_search r2 hF.o2 (hF.no2 hl) (by lia) ?_
    walk_at "ex"
    rw [if_neg (by decide)]
    walk_at "ex"
    exact ⟨rfl, rfl⟩
end

section
variable {P : Par} {d : Nat} {μ : Led}
noncomputable abbrev Pairs := List (List Nat × List Nat)
noncomputable abbrev pairsV (ps : Pairs) : List V := ps.map fun p => V.tup [.str p.1, .str p.2]
noncomputable def hget (ps : Pairs) (nm : List Nat) : Option (List Nat) := (ps.find? fun p => low p.1 == low nm).map (·.2)
noncomputable abbrev ledH (t : HdrA) (x dd hl : Addr) (ps : Pairs) : Led := [(x, .inst t.C dd), (dd, .dict [("_headers", some (R hl))]), (hl, .list (pairsV ps))]
structure PsOk (ps : Pairs) : Prop where
  nm : ∀ p ∈ ps, Pr p.1 ∧ p.1.length ≤ 2 ^ 20
theorem Pr.ascii {l : List Nat} (h : Pr l) : ∀ c ∈ l, c < 128 := fun c hc => by have := h c hc; lia
theorem Pr.low {l : List Nat} (h : Pr l) : Pr (low l) := fun c hc => by
  unfold Mine.low at hc
  refine away fun G hG => ?_
  obtain ⟨a, ha, eY1⟩ := List.mem_map.mp hc
  refine hG ?_
  clear hG G
  subst eY1
  have := h a ha
  unfold lowN
  split
  · rename_i q; simp at q; lia
  · lia
theorem low_len (l : List Nat) : (low l).length = l.length := by unfold low; simp
theorem get_gen {t : HdrA} {x dd hl : Addr} {ps : Pairs} {nm : List Nat} {dv : V} {args : List V} (hF : HdrF P t) (hb : ∀ doc pm an ct, BindV P (ledH t x dd hl ps) (fnX (fnName (TH 8)) "Headers.get" (fnParams (TH 8)) (fnBody (TH 8)) (fnScope (TH 8)) [] t.d3 .none doc pm an t.c3 ct) args [] [("self", R x), ("name", .str nm), ("default", dv)]) (hn : Pr nm) (hsz : nm.length ≤ 2 ^ 20) (hp : PsOk ps) :
    fnOk P 3 (ledH t x dd hl ps) (R t.aGet) args [] (fun v μ' => v = (hget ps nm).elim dv .str ∧ μ' = ledH t x dd hl ps) := by
  refine hF.f3.ok (d := 2) (binds := [("self", R x), ("name", .str nm), ("default", dv)]) (σ₀ := [("self", some (R x)), ("name", some (.str nm)), ("default", some dv), ("k", none), ("v", none)]) hb rfl rfl rfl rfl rfl rfl rfl fun L => ?_
  refine exsOk.cons ?_
  walk_at "ex"
  refine meth_inst (by walk_at "mem") (by walk_at "mem") rfl (hF.ga _) hF.fc hF.i2 ?_
  walk_at "ex"
  refine call_lower hn.ascii (by rw [sizeLine_eq]; lia) ?_
  walk_at "ex"
  refine ⟨hF.f2.kp, opOk.monoE (conv_ok hF hn.low (by rw [low_len]; lia)).call ?_⟩
  walk_at "ex"
  refine get_inst (v := R hl) (by walk_at "mem") (by walk_at "mem") rfl (hF.ga _) hF.hd hF.ff rfl handed_raw ?_
  refine it_list (by walk_at "mem") ?_
  refine ⟨fun i σ μ' => ∃ o1 o2, σ = ([("self", some (R x)), ("name", some (.str (low nm))), ("default", some dv), ("k", o1), ("v", o2)] : Loc) ∧ μ' = ledH t x dd hl ps ∧ ∀ p ∈ ps.take i, (low p.1 == low nm) = false, ⟨none, none, rfl, rfl, by simp⟩, ?_, ?_, ?_⟩
  · rintro i σ μ' hY0
    refine away fun G hG => ?_
    obtain ⟨o1, o2, eY1, eY2, _⟩ := hY0
    refine hG ?_
    clear hG G
    subst eY1
    subst eY2
    exact ⟨[(x, .inst t.C dd), (dd, .dict [("_headers", some (R hl))])], List.perm_append_comm (l₁ := [_, _]) (l₂ := [_])⟩
  · rintro i v σ μ' hv hY0
    refine away fun G hG => ?_
    obtain ⟨o1, o2, eY1, eY2, hno⟩ := hY0
    refine hG ?_
    clear hG G
    subst eY1
    subst eY2
    have hv' : ∃ p, ps[i]? = some p ∧ v = .tup [.str p.1, .str p.2] := by
      rw [List.getElem?_map] at hv
      cases he : ps[i]? with
      | none => rw [he] at hv; cases hv
      | some e => rw [he] at hv; cases hv; exact ⟨e, rfl, rfl⟩
    refine away fun G hG => ?_
    obtain ⟨p, he, eY1⟩ := hv'
    refine hG ?_
    clear hG G
    subst eY1
    have hpm : p ∈ ps := List.mem_of_getElem? he
    refine away fun G hG => ?_
    obtain ⟨hp1, hp2⟩ := hp.nm p hpm
    refine hG ?_
    clear hG G
    walk_at "ex"
    refine call_lower hp1.ascii (by rw [sizeLine_eq]; lia) ?_
    walk_at "ex"
    have htk : ps.take (i + 1) = ps.take i ++ [p] := by rw [List.take_add_one, he]; rfl
    cases hq : (low p.1 == low nm) with
    | true =>
      rw [if_pos rfl]
      walk_at "ex"
      refine ⟨?_, rfl⟩
      have : hget ps nm = some p.2 := by
        unfold hget
        have e1 : ps = ps.take i ++ p :: ps.drop (i + 1) := by
          refine away fun G hG => ?_
          obtain ⟨h1, h2⟩ := List.getElem?_eq_some_iff.mp he
          refine hG ?_
          clear hG G
          rw [← h2, ← List.drop_eq_getElem_cons h1, List.take_append_drop]
        rw [e1, List.find?_append, List.find?_eq_none.mpr (fun q hq' => by rw [hno q hq']; decide)]
        simp [hq]
      rw [this]
      rfl
    | false =>
      rw [if_neg (by decide)]
      walk_at "ex"
      refine ⟨_, _, rfl, rfl, fun q hq' => ?_⟩
      rw [htk] at hq'
      rcases List.mem_append.mp hq' with h | h
      · exact hno q h
      · rw [List.mem_singleton.mp h]; exact hq
  · rintro σ μ' hY0
    refine away fun G hG => ?_
    obtain ⟨o1, o2, eY1, eY2, hno⟩ := hY0
    refine hG ?_
    clear hG G
    subst eY1
    subst eY2
    walk_at "ex"
    refine ⟨?_, rfl⟩
    have : hget ps nm = none := by
      unfold hget
      rw [List.find?_eq_none.mpr (fun q hq' => by rw [hno q (by rw [List.take_of_length_le (by simp)]; exact hq')]; decide)]
      rfl
    rw [this]
    rfl
theorem get_ok {t : HdrA} {x dd hl : Addr} {ps : Pairs} {nm : List Nat} (hF : HdrF P t) (hn : Pr nm) (hsz : nm.length ≤ 2 ^ 20) (hp : PsOk ps) :
    fnOk P 3 (ledH t x dd hl ps) (R t.aGet) [R x, .str nm] [] (fun v μ' => v = (hget ps nm).elim .none .str ∧ μ' = ledH t x dd hl ps) := get_gen hF (fun _ _ _ _ => bind2d hF.e3 fun _ _ => ⟨_, rfl, rfl⟩) hn hsz hp
theorem bind3d {fd : FuncData} {n1 n2 n3 : Str} {a b c : V} (D : DfltAt P fd.defaults) (h1 : ∀ x y z, ∃ k : Option (Array Value) → Sem (List (Str × Value)), bindArgs fd ⟨[x, y, z], []⟩ = seqItems? fd.defaults >>= k ∧ k (some #[.none]) = pure [(n1, x), (n2, y), (n3, z)]) : BindV P μ fd [a, b, c] [] [(n1, a), (n2, b), (n3, c)] := fun β ν s xs ks hI rx rk => by
  cases rx with | cons r1 rx =>
  obtain ⟨y, z, rfl, r2, r3⟩ := rx.two
  cases rk.nil'
  obtain ⟨Td, o, n, e1, e2, e3⟩ := D.at_
  obtain ⟨k, h1, h2⟩ := h1 _ y z
  exact ⟨_, .of_defaults e1 (hI.keep _ _ e2) e3 h1 h2, rfl, .cons r1 (.cons r2 (.cons r3 .nil))⟩
theorem get3_ok {t : HdrA} {x dd hl : Addr} {ps : Pairs} {nm dv : List Nat} (hF : HdrF P t) (hn : Pr nm) (hsz : nm.length ≤ 2 ^ 20) (hp : PsOk ps) :
    fnOk P 3 (ledH t x dd hl ps) (R t.aGet) [R x, .str nm, .str dv] [] (fun v μ' => v = .str ((hget ps nm).getD dv) ∧ μ' = ledH t x dd hl ps) :=
  (get_gen (dv := .str dv) hF (fun _ _ _ _ => bind3d hF.e3 fun _ _ _ => ⟨_, rfl, rfl⟩) hn hsz hp).mono fun v μ' h => ⟨by rw [h.1]; cases hget ps nm <;> rfl, h.2⟩
end

section
variable {P : Par} {d : Nat} {μ : Led}
theorem keys_ok {t : HdrA} {x dd hl : Addr} {ps : Pairs} (hF : HdrF P t) (hpl : ps.length ≤ 2 ^ 20) :
    fnOk P 2 (ledH t x dd hl ps) (R t.aKeys) [R x] [] (fun v μ' => ∃ D, v = R D ∧ μ' = (D, .list (ps.map fun p => .str p.1)) :: ledH t x dd hl ps) := by
  refine hF.f5.ok (d := 1) (binds := [("self", R x)]) (σ₀ := [("self", some (R x))]) (fun _ _ _ _ => bind1 fun _ => rfl) rfl rfl rfl rfl rfl rfl rfl fun L => ?_
  refine exsOk.cons ?_
  walk_at "ex"
  refine evOk.listcomp [("k", none), ("v", none)] [] ?_ rfl (fun _ => rfl) (.inl rfl) (by decide) rfl (by decide)
  walk_at "ex"
  refine get_inst (v := R hl) (by walk_at "mem") (by walk_at "mem") rfl (hF.ga _) hF.hd hF.ff rfl handed_raw ?_
  refine it_list (by walk_at "mem") fun C => ?_
  refine ⟨by rw [List.length_map, sizeLine_eq]; lia, by decide, nodupB_of rfl, fun i ys σ μ' => ∃ o1 o2, σ = ([("k", o1), ("v", o2)] : Loc) ∧ μ' = ledH t x dd hl ps ∧ ys = (ps.take i).map fun p => V.str p.1, ⟨none, none, rfl, rfl, by simp⟩, ?_, ?_, ?_⟩
  · rintro i ys σ μ' ⟨o1, o2, rfl, rfl, _⟩
    exact ⟨[(x, .inst t.C dd), (dd, .dict [("_headers", some (R hl))])], List.perm_append_comm (l₁ := [_, _]) (l₂ := [_])⟩
  · rintro i v ys σ μ' hv ⟨o1, o2, rfl, rfl, rfl⟩
    have hv' : ∃ p, ps[i]? = some p ∧ v = .tup [.str p.1, .str p.2] := by
      rw [List.getElem?_map] at hv
      cases he : ps[i]? with
      | none => rw [he] at hv; cases hv
      | some e => rw [he] at hv; cases hv; exact ⟨e, rfl, rfl⟩
    obtain ⟨p, he, rfl⟩ := hv'
    have htk : ps.take (i + 1) = ps.take i ++ [p] := by rw [List.take_add_one, he]; rfl
    walk_at "ex"
    show evOk _ _ _ _ _ _ _
    walk_at "ex"
    refine ⟨_, _, rfl, rfl, ?_⟩
    rw [htk, List.map_append]
    rfl
  · rintro ys σ μ' ⟨o1, o2, rfl, rfl, rfl⟩ D
    refine ⟨D, rfl, ?_⟩
    rw [List.take_of_length_le (by simp)]
end

section
variable {P : Par} {d : Nat} {μ : Led}
theorem hinit_ok {t : HdrA} {x dd : Addr} (hF : HdrF P t) :
    fnOk P 1 ((x, .inst t.C dd) :: (dd, .dict []) :: μ) (R t.aInit) [R x] [] (fun v μ' => v = .none ∧ ∃ hl, μ' = (hl, .list []) :: (x, .inst t.C dd) :: (dd, .dict [("_headers", some (R hl))]) :: μ) := by
  have b1 := hF.b1; have b3 := hF.b3
  refine hF.f1.ok (d := 0) (binds := [("self", R x), ("headers", .none)]) (σ₀ := [("self", some (R x)), ("headers", some .none), ("k", none), ("v", none)]) (fun _ _ _ _ => bind1d (k := fun _ => pure []) hF.e1 fun _ => ⟨_, rfl, rfl⟩) rfl rfl rfl rfl rfl rfl rfl fun L => ?_
  refine exsOk.cons ?_
  walk_at "ex"
  rw [if_neg (by decide)]
  walk_at "ex"
  refine fun hl => ?_
  walk_at "ex"
  rw [if_neg (by decide)]
  walk_at "ex"
  refine asOk.attr ?_
  walk_at "ex"
  refine ⟨x, t.C, dd, [], _, rfl, by walk_at "mem", by walk_at "upd", by decide, hF.sa, hF.po, hF.ft, hF.hd, ?_⟩
  walk_at "ex"
  rw [if_pos rfl]
  walk_at "ex"
  refine it_list (xs := []) (by walk_at "mem") ?_
  refine ⟨fun i σ μ' => i = 0 ∧ σ = ([("self", some (R x)), ("headers", some (R hl)), ("k", none), ("v", none)] : Loc) ∧ μ' = (hl, .list []) :: (x, .inst t.C dd) :: (dd, .dict [("_headers", some (R hl))]) :: μ, ⟨rfl, rfl, rfl⟩, ?_, ?_, ?_⟩
  · rintro i σ μ' ⟨_, rfl, rfl⟩
    exact ⟨_, List.Perm.refl _⟩
  · rintro i v σ μ' hv _
    simp at hv
  · rintro σ μ' ⟨_, rfl, rfl⟩
    walk_at "ex"
    exact ⟨rfl, hl, rfl⟩
theorem hdr_new {t : HdrA} (hF : HdrF P t) {Q : V → Led → Prop} (h : ∀ x dd hl, Q (R x) ((hl, .list []) :: (x, .inst t.C dd) :: (dd, .dict [("_headers", some (R hl))]) :: μ)) : callOk P 2 μ (R t.C) [] [] Q := by
  refine callOk.cls hF.mks hF.fi hF.i1 fun x dd => (hinit_ok hF).mono fun v μ' hh => ?_
  obtain ⟨rfl, hl, rfl⟩ := hh
  exact ⟨rfl, h x dd hl⟩
end

section
variable {P : Par} {d : Nat} {μ : Led}
set_option genInjectivity false in
structure LexA where
  C : Addr
  aInit : Addr
  aRead : Addr
  aTok : Addr
  c1 : Value
  c2 : Value
  c3 : Value
noncomputable abbrev TL (i : Nat) : Stmt := inner (T1 3) i
structure LexF (P : Par) (t : LexA) : Prop where
  f1 : FnIs P t.aInit "_netrclex.__init__" (TL 0) t.c1 .none .none
  f2 : FnIs P t.aRead "_netrclex._read_char" (TL 1) t.c2 .none .none
  f3 : FnIs P t.aTok "_netrclex.get_token" (TL 2) t.c3 .none .none
  b1 : Bi P "iter" (.builtin "iter")
  gC : Glob P "_netrclex" (R t.C)
  kC : keepIn P.K (.ref t.C) = true
  mks : makesIn P.K t.C = true
  ga : ∀ name, plainGet P.K t.C name = true
  hd : hasDictIn P.K t.C = true
  po : plainOver P.K t.C = true
  sa : findIn P.K (.ref t.C) "__setattr__" = some (some (.builtin "object.__setattr__"))
  fi : findIn P.K (.ref t.C) "__init__" = some (some (.ref t.aInit))
  fr : findIn P.K (.ref t.C) "_read_char" = some (some (.ref t.aRead))
  fk : findIn P.K (.ref t.C) "get_token" = some (some (.ref t.aTok))
  n1 : findIn P.K (.ref t.C) "instream" = some none
  n2 : findIn P.K (.ref t.C) "lineno" = some none
  n3 : findIn P.K (.ref t.C) "whitespace" = some none
  n4 : findIn P.K (.ref t.C) "pushback" = some none
  t1 : takerIn P.K t.C "instream" = some none
  t2 : takerIn P.K t.C "lineno" = some none
  t3 : takerIn P.K t.C "whitespace" = some none
  t4 : takerIn P.K t.C "pushback" = some none
  i1 : isFn P.K (.ref t.aInit) = true
  i2 : isFn P.K (.ref t.aRead) = true
  i3 : isFn P.K (.ref t.aTok) = true
  s1 : specialIn P.K (.ref t.aRead) "__get__" = some (some (.builtin "function.__get__"))
  s2 : takesIn P.K (.ref t.aRead) = some false
structure Rd (P : Par) (dr : Nat) (rf : Addr) (all : List Nat) (Λ : Nat → Led) : Prop where
  read : ∀ k, k ≤ all.length → fnOk P dr (Λ k) (.raw (.ref rf)) [.int 1] [] (fun v μ' => v = .str ((all.drop k).take 1) ∧ μ' = Λ (min (k + 1) all.length))
  fn : ∃ fd, ∀ k, (rf, AObj.fn fd none) ∈ Λ k
  len : all.length ≤ 2 ^ 20
  asc : ∀ c ∈ all, c < 128
noncomputable abbrev ledF (t : LexA) (y dl pb st sdd rf : Addr) (fdS : FuncData) (ln : Int) (ws : List Nat) (pbs : List (List Nat)) : Led :=
  [(st, .fn fdS (some sdd)), (sdd, .dict [("read", some (R rf))]), (y, .inst t.C dl), (dl, .dict [("lineno", some (.int ln)), ("instream", some (R st)), ("whitespace", some (.str ws)), ("pushback", some (R pb))]), (pb, .list (pbs.map V.str))]
theorem readChar_ok {t : LexA} {y dl pb st sdd rf : Addr} {fdS : FuncData} {ln : Int} {ws : List Nat} {pbs : List (List Nat)} {dr : Nat} {all : List Nat} {Λ : Nat → Led} {k : Nat} (hF : LexF P t) (hr : Rd P dr rf all Λ) (hk : k ≤ all.length) :
    fnOk P (dr + 1) (ledF t y dl pb st sdd rf fdS ln ws pbs ++ Λ k) (R t.aRead) [R y] [] (fun v μ' => v = .str ((all.drop k).take 1) ∧ ∃ ln', μ' = ledF t y dl pb st sdd rf fdS ln' ws pbs ++ Λ (min (k + 1) all.length)) := by
  obtain ⟨fdr, hfr⟩ := hr.fn
  refine hF.f2.ok (d := dr) (binds := [("self", R y)]) (σ₀ := [("self", some (R y)), ("ch", none)]) (fun _ _ _ _ => bind1 fun _ => rfl) rfl rfl rfl rfl rfl rfl rfl fun L => ?_
  simp only [List.cons_append, List.nil_append]
  refine exsOk.cons ?_
  walk_at "ex"
  refine get_inst (v := R st) (by walk_at "mem") (by walk_at "mem") rfl (hF.ga _) hF.hd hF.n1 rfl handed_raw ?_
  refine meth_fn (v := R rf) (by walk_at "mem") (by walk_at "mem") rfl FF.read_fn handed_raw ?_
  walk_at "ex"
  refine ⟨Keep.fn (fd := fdr) (dd := none) (List.mem_append_right [_, _, _, _, _] (hfr k)), ?_⟩
  refine callOk.tail (fr := ledF t y dl pb st sdd rf fdS ln ws pbs) (tl := Λ k) ?_
  refine opOk.mono ((hr.read k hk).call) fun v μ' h => ?_
  obtain ⟨rfl, rfl⟩ := h
  simp only [List.cons_append, List.nil_append]
  walk_at "ex"
  by_cases hc : (all.drop k).take 1 = [10]
  · rw [if_pos (by rw [hc]; rfl)]
    walk_at "ex"
    refine exOk.augAttr ?_
    walk_at "ex"
    refine get_inst (v := .int ln) (by walk_at "mem") (by walk_at "mem") rfl (hF.ga _) hF.hd hF.n2 rfl handed_int ?_
    walk_at "ex"
    refine in_add ?_
    refine ⟨y, t.C, dl, _, _, rfl, by walk_at "mem", by walk_at "upd", by simp, hF.sa, hF.po, hF.t2, hF.hd, ?_⟩
    have e1 : putD "lineno" (.int (ln + 1)) ([("lineno", some (.int ln)), ("instream", some (R st)), ("whitespace", some (.str ws)), ("pushback", some (R pb))] : Loc) = ([("lineno", some (.int (ln + 1))), ("instream", some (R st)), ("whitespace", some (.str ws)), ("pushback", some (R pb))] : Loc) := rfl
    rw [e1]
    walk_at "ex"
    exact ⟨rfl, ln + 1, rfl⟩
  · rw [if_neg (by rw [show (Str.ofString "\n").cps.toList = [10] from rfl]; simpa using hc)]
    walk_at "ex"
    exact ⟨rfl, ln, rfl⟩
end

theorem tokW_ws {ws : List Nat} {c : Nat} {r acc : List Nat} (h : ws.contains c = true) : tokW ws (c :: r) acc = (acc, r) := by
  rw [tokW.eq_def]; simp only [h, if_true]
theorem tokW_other {ws : List Nat} {c : Nat} {r acc : List Nat} (h : ws.contains c = false) (h2 : c ≠ 92) : tokW ws (c :: r) acc = tokW ws r (acc ++ [c]) := by
  rw [tokW.eq_def]; simp only [h, if_neg h2]; rfl
theorem tokW_bs {ws : List Nat} {r acc : List Nat} (h : ws.contains 92 = false) : tokW ws (92 :: r) acc = tokW ws (r.drop 1) (acc ++ r.take 1) := by
  rw [tokW.eq_def]
  simp only [h, if_true]
  cases r with
  | nil => simp [tokW]
  | cons c r => rfl
theorem tokQ_bs {r acc : List Nat} : tokQ (92 :: r) acc = tokQ (r.drop 1) (acc ++ r.take 1) := by
  cases r with
  | nil => simp [tokQ]
  | cons c r => rfl
theorem drop_min {all : List Nat} {k : Nat} : all.drop (min (k + 1) all.length) = (all.drop k).drop 1 := by
  rw [List.drop_drop]
  rcases Nat.le_total (k + 1) all.length with h | h
  · rw [Nat.min_eq_left h]
  · rw [Nat.min_eq_right h, List.drop_eq_nil_of_le (Nat.le_refl _), List.drop_eq_nil_of_le h]
theorem drop_cons {all : List Nat} {k : Nat} {c : Nat} {r : List Nat} (h : all.drop k = c :: r) : k < all.length ∧ r = all.drop (min (k + 1) all.length) ∧ c ∈ all := by
  refine ⟨?_, by rw [drop_min, h]; rfl, ?_⟩
  · rcases Nat.lt_or_ge k all.length with q | q
    · exact q
    · rw [List.drop_eq_nil_of_le q] at h; cases h
  · have : c ∈ all.drop k := by rw [h]; exact List.mem_cons_self
    exact List.mem_of_mem_drop this
section
variable {P : Par} {d : Nat} {μ : Led}
structure WsOk (ws : List Nat) : Prop where
  tell : ∀ c < 128, (!(Builtin.Str.occurrences (mkS ws) (mkS [c]) 0 ws.length 1).isEmpty) = ws.contains c
  no : ws.contains 92 = false
section
variable (t : LexA) (y dl pb st sdd rf it q : Addr) (fdS : FuncData) (ws all : List Nat) (Λ : Nat → Led) (k0 : Nat)
inductive TkI : Nat → Loc → Led → Prop
  | live (k : Nat) (o : Option V) (ln : Int) (h1 : k0 ≤ k) (h2 : k ≤ all.length) (h3 : tok ws (all.drop k) = tok ws (all.drop k0)) : TkI (all.length - k + 1) [("self", some (R y)), ("token", some (.str [])), ("fiter", some (R it)), ("ch", o)] ([(it, ciO q), (q, methO t.aRead y)] ++ (ledF t y dl pb st sdd rf fdS ln ws [] ++ Λ k))
  | ended (o : Option V) (tk : List Nat) (ln : Int) (h : tok ws (all.drop k0) = (tk, [])) : TkI 0 [("self", some (R y)), ("token", some (.str tk)), ("fiter", some (R it)), ("ch", o)] ([(it, ciEnd), (q, methO t.aRead y)] ++ (ledF t y dl pb st sdd rf fdS ln ws [] ++ Λ all.length))
inductive TkQ : Nat → Loc → Led → Prop
  | mk (k : Nat) (o : Option V) (tk : List Nat) (ln : Int) (h1 : k0 ≤ k) (h2 : k ≤ all.length) (h3 : tokQ (all.drop k) tk = tok ws (all.drop k0)) (h4 : tk.length ≤ k) : TkQ (all.length - k + 1) [("self", some (R y)), ("token", some (.str tk)), ("fiter", some (R it)), ("ch", o)] ([(it, ciO q), (q, methO t.aRead y)] ++ (ledF t y dl pb st sdd rf fdS ln ws [] ++ Λ k))
inductive TkW : Nat → Loc → Led → Prop
  | mk (k : Nat) (o : Option V) (tk : List Nat) (ln : Int) (h1 : k0 ≤ k) (h2 : k ≤ all.length) (h3 : tokW ws (all.drop k) tk = tok ws (all.drop k0)) (h4 : tk.length ≤ k) : TkW (all.length - k + 1) [("self", some (R y)), ("token", some (.str tk)), ("fiter", some (R it)), ("ch", o)] ([(it, ciO q), (q, methO t.aRead y)] ++ (ledF t y dl pb st sdd rf fdS ln ws [] ++ Λ k))
inductive TkR : Loc → Led → Prop
  | mk (l0 : List Nat) (k : Nat) (ln : Int) (h1 : k0 < k) (h2 : k ≤ all.length) (h3 : tokW ws (all.drop k) l0 = tok ws (all.drop k0)) (h4 : l0.length ≤ 1) : TkR [("self", some (R y)), ("token", some (.str [])), ("fiter", some (R it)), ("ch", some (.str l0))] ([(it, ciO q), (q, methO t.aRead y)] ++ (ledF t y dl pb st sdd rf fdS ln ws [] ++ Λ k))
end
namespace X_getTok_ok
noncomputable def stmt (P : Par) (t : LexA) (y : Addr) (dl : Addr) (pb : Addr) (st : Addr) (sdd : Addr) (rf : Addr) (fdS : FuncData) (ln : Int) (ws : List Nat) (dr : Nat) (all : List Nat) (Λ : Nat → Led) (k0 : Nat) : Prop := ∀ (hF : LexF P t), ∀ (hr : Rd P dr rf all Λ), ∀ (hws : WsOk ws), ∀ (hk0 : k0 ≤ all.length), fnOk P (dr + 3) (ledF t y dl pb st sdd rf fdS ln ws [] ++ Λ k0) (R t.aTok) [R y] [] (fun v μ' => v = .str (tok ws (all.drop k0)).1 ∧ ∃ k ln', k0 ≤ k ∧ k ≤ all.length ∧ (tok ws (all.drop k0)).2 = all.drop k ∧ μ' = ledF t y dl pb st sdd rf fdS ln' ws [] ++ Λ k)
noncomputable def pck : LexA × Addr × Addr × Addr × Addr × Addr × Addr × FuncData × Int × (List Nat) × Nat × (List Nat) × (Nat → Led) × Nat := @Classical.epsilon (LexA × Addr × Addr × Addr × Addr × Addr × Addr × FuncData × Int × (List Nat) × Nat × (List Nat) × (Nat → Led) × Nat) ⟨((⟨0, 0, 0, 0, .none, .none, .none⟩ : LexA), (0 : Addr), (0 : Addr), (0 : Addr), (0 : Addr), (0 : Addr), (0 : Addr), (default : FuncData), (0 : Int), ([] : List Nat), (0 : Nat), ([] : List Nat), (fun _ => [] : Nat → Led), (0 : Nat))⟩ fun b => ∃ P, ¬ stmt P b.1 b.2.1 b.2.2.1 b.2.2.2.1 b.2.2.2.2.1 b.2.2.2.2.2.1 b.2.2.2.2.2.2.1 b.2.2.2.2.2.2.2.1 b.2.2.2.2.2.2.2.2.1 b.2.2.2.2.2.2.2.2.2.1 b.2.2.2.2.2.2.2.2.2.2.1 b.2.2.2.2.2.2.2.2.2.2.2.1 b.2.2.2.2.2.2.2.2.2.2.2.2.1 b.2.2.2.2.2.2.2.2.2.2.2.2.2
@[irreducible] noncomputable def t : LexA := pck.1
@[irreducible] noncomputable def y : Addr := pck.2.1
@[irreducible] noncomputable def dl : Addr := pck.2.2.1
@[irreducible] noncomputable def pb : Addr := pck.2.2.2.1
@[irreducible] noncomputable def st : Addr := pck.2.2.2.2.1
@[irreducible] noncomputable def sdd : Addr := pck.2.2.2.2.2.1
@[irreducible] noncomputable def rf : Addr := pck.2.2.2.2.2.2.1
@[irreducible] noncomputable def fdS : FuncData := pck.2.2.2.2.2.2.2.1
@[irreducible] noncomputable def ln : Int := pck.2.2.2.2.2.2.2.2.1
@[irreducible] noncomputable def ws : List Nat := pck.2.2.2.2.2.2.2.2.2.1
@[irreducible] noncomputable def dr : Nat := pck.2.2.2.2.2.2.2.2.2.2.1
@[irreducible] noncomputable def all : List Nat := pck.2.2.2.2.2.2.2.2.2.2.2.1
@[irreducible] noncomputable def Λ : Nat → Led := pck.2.2.2.2.2.2.2.2.2.2.2.2.1
@[irreducible] noncomputable def k0 : Nat := pck.2.2.2.2.2.2.2.2.2.2.2.2.2
set_option maxHeartbeats 4000000 in
theorem coreT (P : Par) : stmt P t y dl pb st sdd rf fdS ln ws dr all Λ k0 := by
  intro hF hr hws hk0
  have b1 := hF.b1
  refine fnOk.drop ?_
  refine hF.f3.ok (d := dr + 2) (binds := [("self", R y)]) (σ₀ := [("self", some (R y)), ("token", none), ("fiter", none), ("ch", none)]) (fun _ _ _ _ => bind1 fun _ => rfl) rfl rfl rfl rfl rfl rfl rfl fun L => ?_
  simp only [List.cons_append, List.nil_append]
  refine exsOk.cons ?_
  walk_at "ex0"
  refine get_inst (v := R pb) (by walk_at "mem") (by walk_at "mem") rfl (hF.ga _) hF.hd hF.n4 rfl handed_raw ?_
  refine tru_list (xs := ([] : List (List Nat)).map V.str) (by walk_at "mem") (by decide) ?_
  walk_at "ex0"
  rw [if_neg (by decide)]
  walk_at "ex0"
  refine get_bound (by walk_at "mem") (by walk_at "mem") rfl (hF.ga _) hF.hd hF.fr hF.i2 hF.s1 hF.s2 (by decide) fun q => ?_
  walk_at "ex0"
  refine call_iter (by walk_at "mem") fun it => ?_
  walk_at "ex0"
  have hend : ∀ k, k ≤ all.length → all.drop k = [] → k = all.length := fun k h e => by have := congrArg List.length e; simp at this; lia
  obtain ⟨fdr, hfr⟩ := hF.f2.fnAt
  refine exOk.forG ?_ (fun _ => rfl)
  walk_at "ex0"
  refine ⟨it, rfl, self_ci (by walk_at "mem"), TkI t y dl pb st sdd rf it q fdS ws all Λ k0,
    ⟨_, .live k0 none ln (Nat.le_refl _) hk0 rfl⟩, ?_⟩
  rintro n σ μ' (⟨k, o, ln1, hk1, hk2, htk⟩ | ⟨o, tk, ln1, htk⟩)
  · simp only [List.cons_append, List.nil_append]
    refine next_ci (d := dr + 1) (by walk_at "mem") (by walk_at "mem") hfr ?_
    refine fnOk.tail (fr := [(it, ciO q), (q, methO t.aRead y)]) (tl := ledF t y dl pb st sdd rf fdS ln1 ws [] ++ Λ k) ?_
    refine (readChar_ok hF hr hk2).mono fun v μ' h => ?_
    obtain ⟨rfl, ln2, rfl⟩ := h
    simp only [List.cons_append, List.nil_append]
    refine ⟨(all.drop k).take 1, rfl, by walk_at "mem", by walk_at "mem", fun h0 => ?_, fun h0 => ?_⟩
    · refine ⟨_, by walk_at "upd", ?_⟩
      have e0 : all.drop k = [] := by cases h : all.drop k with | nil => rfl | cons c r => rw [h] at h0; cases h0
      have ek := hend k hk2 e0
      walk_at "ex0"
      refine ⟨ledF t y dl pb st sdd rf fdS ln2 ws [] ++ Λ (min (k + 1) all.length), ?_, ?_, min (k + 1) all.length, ln2, by lia, Nat.min_le_right _ _, ?_, rfl⟩
      · simp only [List.cons_append, List.nil_append]; walk_at "sub"
      · rw [← htk, e0]; rfl
      · rw [← htk, drop_min, e0]; rfl
    · obtain ⟨c, r, hcr⟩ : ∃ c r, all.drop k = c :: r := by cases h : all.drop k with | nil => rw [h] at h0; exact absurd rfl h0 | cons c r => exact ⟨c, r, rfl⟩
      obtain ⟨hkl, hr', hca⟩ := drop_cons hcr
      have hc128 := hr.asc c hca
      generalize hk' : min (k + 1) all.length = k' at *
      have hkk : k' = k + 1 := by lia
      rw [hcr] at htk ⊢
      subst hr'
      show asOk _ _ _ _ _ _ (.str [c]) _
      walk_at "ex0"
      refine get_inst (v := .str ws) (by walk_at "mem") (by walk_at "mem") rfl (hF.ga _) hF.hd hF.n3 rfl handed_str ?_
      refine cmp_inStr (hws.tell c hc128) ?_
      walk_at "ex0"
      have htc : tok ws (c :: all.drop k') = if ws.contains c then tok ws (all.drop k') else if c = 34 then tokQ (all.drop k') [] else if c = 92 then tokW ws ((all.drop k').drop 1) ((all.drop k').take 1) else tokW ws (all.drop k') [c] := by
        cases all.drop k' with
        | nil =>
          show (if ws.contains c then tok ws [] else if c = 34 then tokQ [] [] else if c = 92 then ([], []) else tokW ws [] [c]) = _
          simp [tokW]
        | cons a b => rfl
      rw [htc] at htk
      cases hw : ws.contains c with
      | true =>
        rw [hw, if_pos rfl] at htk
        rw [if_pos rfl]
        walk_at "ex0"
        exact ⟨all.length - k' + 1, ar_dec1 hkl hkk, .live k' _ ln2 (ar_le1 hk1 hkk) (ar_le3 hkl hkk) htk⟩
      | false =>
        rw [hw, if_neg (by decide)] at htk
        rw [if_neg (by decide)]
        walk_at "ex0"
        rw [show ([c] == (Str.ofString "\"").cps.toList) = decide (c = 34) from by rw [show (Str.ofString "\"").cps.toList = [34] from rfl, Bool.eq_iff_iff]; simp]
        by_cases hq : c = 34
        · rw [if_pos hq] at htk
          rw [if_pos (decide_eq_true hq)]
          walk_at "ex0"
          refine exOk.forG ?_ (fun _ => rfl)
          walk_at "ex0"
          refine ⟨it, rfl, self_ci (by walk_at "mem"), TkQ t y dl pb st sdd rf it q fdS ws all Λ k0,
            ⟨_, .mk k' _ [] ln2 (ar_le1 hk1 hkk) (ar_le3 hkl hkk) htk (Nat.zero_le _)⟩, ?_⟩
          clear htk htc hcr hc128 hca hkk hk' hkl hw hq h0 c
          rintro n σ μ' ⟨k, o, tk, ln3, hk1, hk2, htk, htl⟩
          simp only [List.cons_append, List.nil_append]
          refine next_ci (d := dr + 1) (by walk_at "mem") (by walk_at "mem") hfr ?_
          refine fnOk.tail (fr := [(it, ciO q), (q, methO t.aRead y)]) (tl := ledF t y dl pb st sdd rf fdS ln3 ws [] ++ Λ k) ?_
          refine (readChar_ok hF hr hk2).mono fun v μ' h => ?_
          obtain ⟨rfl, ln4, rfl⟩ := h
          simp only [List.cons_append, List.nil_append]
          refine ⟨(all.drop k).take 1, rfl, by walk_at "mem", by walk_at "mem", fun h0 => ?_, fun h0 => ?_⟩
          · refine ⟨_, by walk_at "upd", ?_⟩
            have e0 : all.drop k = [] := by cases h : all.drop k with | nil => rfl | cons c r => rw [h] at h0; cases h0
            have ek := hend k hk2 e0
            walk_at "ex0"
            rw [show min (k + 1) all.length = all.length from by lia]
            rw [e0] at htk
            exact ⟨0, Nat.succ_pos _, .ended _ tk ln4 htk.symm⟩
          · obtain ⟨c, r, hcr⟩ : ∃ c r, all.drop k = c :: r := by cases h : all.drop k with | nil => rw [h] at h0; exact absurd rfl h0 | cons c r => exact ⟨c, r, rfl⟩
            obtain ⟨hkl, hr', hca⟩ := drop_cons hcr
            have hlen := hr.len
            generalize hk' : min (k + 1) all.length = k' at *
            have hkk : k' = k + 1 := by lia
            rw [hcr] at htk ⊢
            subst hr'
            show asOk _ _ _ _ _ _ (.str [c]) _
            walk_at "ex0"
            rw [show ([c] == (Str.ofString "\"").cps.toList) = decide (c = 34) from by rw [show (Str.ofString "\"").cps.toList = [34] from rfl, Bool.eq_iff_iff]; simp]
            by_cases hq2 : c = 34
            · subst hq2
              rw [if_pos (by decide)]
              walk_at "ex0"
              have hk3 : tok ws (all.drop k0) = (tk, all.drop k') := by rw [← htk]; rfl
              refine ⟨ledF t y dl pb st sdd rf fdS ln4 ws [] ++ Λ k', ?_, ?_, k', ln4, ar_le1 hk1 hkk, ar_le3 hkl hkk, by rw [hk3], rfl⟩
              · simp only [List.cons_append, List.nil_append]; walk_at "sub"
              · rw [hk3]; rfl
            · rw [if_neg (by simpa using hq2)]
              walk_at "ex0"
              rw [show ([c] == (Str.ofString "\\").cps.toList) = decide (c = 92) from by rw [show (Str.ofString "\\").cps.toList = [92] from rfl, Bool.eq_iff_iff]; simp]
              by_cases hq3 : c = 92
              · subst hq3
                rw [tokQ_bs] at htk
                rw [if_pos (by decide)]
                walk_at "ex0"
                refine meth_inst (by walk_at "mem") (by walk_at "mem") rfl (hF.ga _) hF.fr hF.i2 ?_
                walk_at "ex0"
                refine ⟨hF.f2.kp, ?_⟩
                refine callOk.tail (fr := [(it, ciO q), (q, methO t.aRead y)]) (tl := ledF t y dl pb st sdd rf fdS ln4 ws [] ++ Λ k') ?_
                refine opOk.mono ((readChar_ok hF hr (ar_le3 hkl hkk)).le (by lia)).call fun v μ' h => ?_
                obtain ⟨rfl, ln5, rfl⟩ := h
                simp only [List.cons_append, List.nil_append]
                walk_at "ex0"
                have ht1 : ((all.drop k').take 1).length ≤ 1 := List.length_take_le _ _
                refine in_str (by rw [sizeLine_eq]; lia) ?_
                walk_at "ex0"
                refine ⟨all.length - (min (k' + 1) all.length) + 1, ar_dec2 hkl hkk, .mk (min (k' + 1) all.length) _ (tk ++ (all.drop k').take 1) ln5 (ar_le2 hk1 hkl hkk) (Nat.min_le_right _ _) (by rw [drop_min]; exact htk) ?_⟩
                rw [List.length_append]
                rcases Nat.lt_or_ge k' all.length with h5 | h5
                · lia
                · rw [List.drop_eq_nil_of_le h5]; simp; lia
              · rw [if_neg (by simpa using hq3)]
                walk_at "ex0"
                refine in_str (by rw [sizeLine_eq]; simp; lia) ?_
                walk_at "ex0"
                refine ⟨all.length - k' + 1, ar_dec1 hkl hkk, .mk k' _ (tk ++ [c]) ln4 (ar_le1 hk1 hkk) (ar_le3 hkl hkk) ?_ (by simp; lia)⟩
                rw [tokQ_other hq2 hq3] at htk
                exact htk
        · rw [if_neg hq] at htk
          rw [if_neg (by simpa using hq)]
          refine exsOk.cut (R := TkR t y dl pb st sdd rf it q fdS ws all Λ k0) ?_ ?_
          · walk_at "ex0"
            rw [show ([c] == (Str.ofString "\\").cps.toList) = decide (c = 92) from by rw [show (Str.ofString "\\").cps.toList = [92] from rfl, Bool.eq_iff_iff]; simp]
            by_cases hq3 : c = 92
            · rw [if_pos hq3] at htk
              rw [if_pos (decide_eq_true hq3)]
              walk_at "ex0"
              refine meth_inst (by walk_at "mem") (by walk_at "mem") rfl (hF.ga _) hF.fr hF.i2 ?_
              walk_at "ex0"
              refine ⟨hF.f2.kp, ?_⟩
              refine callOk.tail (fr := [(it, ciO q), (q, methO t.aRead y)]) (tl := ledF t y dl pb st sdd rf fdS ln2 ws [] ++ Λ k') ?_
              refine opOk.mono ((readChar_ok hF hr (ar_le3 hkl hkk)).le (by lia)).call fun v μ' h => ?_
              obtain ⟨rfl, ln5, rfl⟩ := h
              walk_at "ex0"
              exact ⟨rfl, .mk _ (min (k' + 1) all.length) ln5 (ar_lt2 hk1 hkl hkk) (Nat.min_le_right _ _) (by rw [drop_min]; exact htk) (List.length_take_le _ _)⟩
            · rw [if_neg hq3] at htk
              rw [if_neg (by simpa using hq3)]
              walk_at "ex0"
              exact ⟨rfl, .mk [c] k' ln2 (ar_lt1 hk1 hkk) (ar_le3 hkl hkk) htk (Nat.le_refl _)⟩
          · clear htk htc hcr hc128 hca hkk hk' hkl hw hq h0 c
            rintro σ' μ' ⟨l0, k1, ln3, hk3, hk4, htk, hl0⟩
            simp only [List.cons_append, List.nil_append]
            walk_at "ex0"
            refine in_str (by rw [sizeLine_eq]; simp; lia) ?_
            walk_at "ex0"
            refine exOk.forG ?_ (fun _ => rfl)
            walk_at "ex0"
            refine ⟨it, rfl, self_ci (by walk_at "mem"), TkW t y dl pb st sdd rf it q fdS ws all Λ k0,
              ⟨_, .mk k1 _ l0 ln3 (by lia) (by lia) htk (by lia)⟩, ?_⟩
            clear htk hk3 hk4
            rintro n σ μ' ⟨k, o, tk, ln3, hk1, hk2, htk, htl⟩
            simp only [List.cons_append, List.nil_append]
            refine next_ci (d := dr + 1) (by walk_at "mem") (by walk_at "mem") hfr ?_
            refine fnOk.tail (fr := [(it, ciO q), (q, methO t.aRead y)]) (tl := ledF t y dl pb st sdd rf fdS ln3 ws [] ++ Λ k) ?_
            refine (readChar_ok hF hr hk2).mono fun v μ' h => ?_
            obtain ⟨rfl, ln4, rfl⟩ := h
            simp only [List.cons_append, List.nil_append]
            refine ⟨(all.drop k).take 1, rfl, by walk_at "mem", by walk_at "mem", fun h0 => ?_, fun h0 => ?_⟩
            · refine ⟨_, by walk_at "upd", ?_⟩
              have e0 : all.drop k = [] := by cases h : all.drop k with | nil => rfl | cons c r => rw [h] at h0; cases h0
              have ek := hend k hk2 e0
              walk_at "ex0"
              rw [show min (k + 1) all.length = all.length from by lia]
              rw [e0, show tokW ws [] tk = (tk, []) from by rw [tokW.eq_def]] at htk
              exact ⟨0, Nat.succ_pos _, .ended _ tk ln4 htk.symm⟩
            · obtain ⟨c, r, hcr⟩ : ∃ c r, all.drop k = c :: r := by cases h : all.drop k with | nil => rw [h] at h0; exact absurd rfl h0 | cons c r => exact ⟨c, r, rfl⟩
              obtain ⟨hkl, hr', hca⟩ := drop_cons hcr
              have hc128 := hr.asc c hca
              have hlen := hr.len
              generalize hk' : min (k + 1) all.length = k' at *
              have hkk : k' = k + 1 := by lia
              rw [hcr] at htk ⊢
              subst hr'
              show asOk _ _ _ _ _ _ (.str [c]) _
              walk_at "ex0"
              refine get_inst (v := .str ws) (by walk_at "mem") (by walk_at "mem") rfl (hF.ga _) hF.hd hF.n3 rfl handed_str ?_
              refine cmp_inStr (hws.tell c hc128) ?_
              walk_at "ex0"
              cases hw2 : ws.contains c with
              | true =>
                rw [if_pos rfl]
                walk_at "ex0"
                rw [tokW_ws hw2] at htk
                refine ⟨ledF t y dl pb st sdd rf fdS ln4 ws [] ++ Λ k', ?_, ?_, k', ln4, ar_le1 hk1 hkk, ar_le3 hkl hkk, by rw [← htk], rfl⟩
                · simp only [List.cons_append, List.nil_append]; walk_at "sub"
                · rw [← htk]; rfl
              | false =>
                rw [if_neg (by decide)]
                walk_at "ex0"
                rw [show ([c] == (Str.ofString "\\").cps.toList) = decide (c = 92) from by rw [show (Str.ofString "\\").cps.toList = [92] from rfl, Bool.eq_iff_iff]; simp]
                by_cases hq3 : c = 92
                · subst hq3
                  rw [tokW_bs hw2] at htk
                  rw [if_pos (by decide)]
                  walk_at "ex0"
                  refine meth_inst (by walk_at "mem") (by walk_at "mem") rfl (hF.ga _) hF.fr hF.i2 ?_
                  walk_at "ex0"
                  refine ⟨hF.f2.kp, ?_⟩
                  refine callOk.tail (fr := [(it, ciO q), (q, methO t.aRead y)]) (tl := ledF t y dl pb st sdd rf fdS ln4 ws [] ++ Λ k') ?_
                  refine opOk.mono ((readChar_ok hF hr (ar_le3 hkl hkk)).le (by lia)).call fun v μ' h => ?_
                  obtain ⟨rfl, ln5, rfl⟩ := h
                  simp only [List.cons_append, List.nil_append]
                  walk_at "ex0"
                  have ht1 : ((all.drop k').take 1).length ≤ 1 := List.length_take_le _ _
                  refine in_str (by rw [sizeLine_eq]; lia) ?_
                  walk_at "ex0"
                  refine ⟨all.length - (min (k' + 1) all.length) + 1, ar_dec2 hkl hkk, .mk (min (k' + 1) all.length) _ (tk ++ (all.drop k').take 1) ln5 (ar_le2 hk1 hkl hkk) (Nat.min_le_right _ _) (by rw [drop_min]; exact htk) ?_⟩
                  rw [List.length_append]
                  rcases Nat.lt_or_ge k' all.length with h5 | h5
                  · lia
                  · rw [List.drop_eq_nil_of_le h5]; simp; lia
                · rw [if_neg (by simpa using hq3)]
                  walk_at "ex0"
                  refine in_str (by rw [sizeLine_eq]; simp; lia) ?_
                  walk_at "ex0"
                  refine ⟨all.length - k' + 1, ar_dec1 hkl hkk, .mk k' _ (tk ++ [c]) ln4 (ar_le1 hk1 hkk) (ar_le3 hkl hkk) ?_ (by simp; lia)⟩
                  rw [tokW_other hw2 hq3] at htk
                  exact htk
  · simp only [List.cons_append, List.nil_append]
    refine next_ciEnd (by walk_at "mem") ?_
    walk_at "ex0"
    refine ⟨ledF t y dl pb st sdd rf fdS ln1 ws [] ++ Λ all.length, ?_, ?_, all.length, ln1, hk0, Nat.le_refl _, ?_, rfl⟩
    · simp only [List.cons_append, List.nil_append]; walk_at "sub"
    · rw [htk]; rfl
    · rw [htk]; simp
theorem allT (P : Par) (t : LexA) (y : Addr) (dl : Addr) (pb : Addr) (st : Addr) (sdd : Addr) (rf : Addr) (fdS : FuncData) (ln : Int) (ws : List Nat) (dr : Nat) (all : List Nat) (Λ : Nat → Led) (k0 : Nat) : stmt P t y dl pb st sdd rf fdS ln ws dr all Λ k0 := skol (Q := fun (P : Par) (b : LexA × Addr × Addr × Addr × Addr × Addr × Addr × FuncData × Int × (List Nat) × Nat × (List Nat) × (Nat → Led) × Nat) => stmt P b.1 b.2.1 b.2.2.1 b.2.2.2.1 b.2.2.2.2.1 b.2.2.2.2.2.1 b.2.2.2.2.2.2.1 b.2.2.2.2.2.2.2.1 b.2.2.2.2.2.2.2.2.1 b.2.2.2.2.2.2.2.2.2.1 b.2.2.2.2.2.2.2.2.2.2.1 b.2.2.2.2.2.2.2.2.2.2.2.1 b.2.2.2.2.2.2.2.2.2.2.2.2.1 b.2.2.2.2.2.2.2.2.2.2.2.2.2) (by with_unfolding_all exact coreT) P (t, y, dl, pb, st, sdd, rf, fdS, ln, ws, dr, all, Λ, k0)
end X_getTok_ok
theorem getTok_ok {t : LexA} {y dl pb st sdd rf : Addr} {fdS : FuncData} {ln : Int} {ws : List Nat} {dr : Nat} {all : List Nat} {Λ : Nat → Led} {k0 : Nat} (hF : LexF P t) (hr : Rd P dr rf all Λ) (hws : WsOk ws) (hk0 : k0 ≤ all.length) : fnOk P (dr + 3) (ledF t y dl pb st sdd rf fdS ln ws [] ++ Λ k0) (R t.aTok) [R y] [] (fun v μ' => v = .str (tok ws (all.drop k0)).1 ∧ ∃ k ln', k0 ≤ k ∧ k ≤ all.length ∧ (tok ws (all.drop k0)).2 = all.drop k ∧ μ' = ledF t y dl pb st sdd rf fdS ln' ws [] ++ Λ k) := X_getTok_ok.allT P t y dl pb st sdd rf fdS ln ws dr all Λ k0 hF hr hws hk0
end

section
variable {P : Par} {d : Nat} {μ : Led}
noncomputable abbrev ledN (t : LexA) (y dl pb st : Addr) : Led := [(pb, .list []), (y, .inst t.C dl), (dl, .dict [("lineno", some (.int 1)), ("instream", some (R st)), ("whitespace", some (.str ws0)), ("pushback", some (R pb))])]
theorem linit_ok {t : LexA} {y dd st : Addr} (hF : LexF P t) :
    fnOk P 1 ((y, .inst t.C dd) :: (dd, .dict []) :: μ) (R t.aInit) [R y, R st] [] (fun v μ' => v = .none ∧ ∃ pb, μ' = ledN t y dd pb st ++ μ) := by
  refine hF.f1.ok (d := 0) (binds := [("self", R y), ("fp", R st)]) (σ₀ := [("self", some (R y)), ("fp", some (R st))]) (fun _ _ _ _ => bind2 fun _ _ => rfl) rfl rfl rfl rfl rfl rfl rfl fun L => ?_
  refine exsOk.cons ?_
  walk_at "ex"
  refine asOk.attr ?_
  walk_at "ex"
  refine ⟨y, t.C, dd, [], _, rfl, by walk_at "mem", by walk_at "upd", by simp, hF.sa, hF.po, hF.t2, hF.hd, ?_⟩
  have e1 : putD "lineno" (.int 1) [] = ([("lineno", some (.int 1))] : Loc) := rfl
  rw [e1]
  walk_at "ex"
  refine asOk.attr ?_
  walk_at "ex"
  refine ⟨y, t.C, dd, _, _, rfl, by walk_at "mem", by walk_at "upd", by simp, hF.sa, hF.po, hF.t1, hF.hd, ?_⟩
  have e2 : putD "instream" (R st) ([("lineno", some (.int 1))] : Loc) = ([("lineno", some (.int 1)), ("instream", some (R st))] : Loc) := rfl
  rw [e2]
  walk_at "ex"
  refine asOk.attr ?_
  walk_at "ex"
  refine ⟨y, t.C, dd, _, _, rfl, by walk_at "mem", by walk_at "upd", by simp, hF.sa, hF.po, hF.t3, hF.hd, ?_⟩
  have e3 : putD "whitespace" (.str (Str.ofString "\n\t\r ").cps.toList) ([("lineno", some (.int 1)), ("instream", some (R st))] : Loc) = ([("lineno", some (.int 1)), ("instream", some (R st)), ("whitespace", some (.str ws0))] : Loc) := rfl
  rw [e3]
  walk_at "ex"
  refine fun pb => ?_
  walk_at "ex"
  refine asOk.attr ?_
  walk_at "ex"
  refine ⟨y, t.C, dd, _, _, rfl, by walk_at "mem", by walk_at "upd", by simp, hF.sa, hF.po, hF.t4, hF.hd, ?_⟩
  have e4 : putD "pushback" (R pb) ([("lineno", some (.int 1)), ("instream", some (R st)), ("whitespace", some (.str ws0))] : Loc) = ([("lineno", some (.int 1)), ("instream", some (R st)), ("whitespace", some (.str ws0)), ("pushback", some (R pb))] : Loc) := rfl
  rw [e4]
  walk_at "ex"
  exact ⟨rfl, pb, rfl⟩
theorem lex_new {t : LexA} {st : Addr} (hF : LexF P t) {Q : V → Led → Prop} (h : ∀ y dl pb, Q (R y) (ledN t y dl pb st ++ μ)) : callOk P 2 μ (R t.C) [R st] [] Q := by
  refine callOk.cls hF.mks hF.fi hF.i1 fun x dd => (linit_ok hF).mono fun v μ' hh => ?_
  obtain ⟨rfl, pb, rfl⟩ := hh
  exact ⟨rfl, h x dd pb⟩
end

section
variable {P : Par} {d : Nat} {μ : Led}
structure HdrX (P : Par) (t : HdrA) (aAdd : Addr) (cA : Value) : Prop where
  f6 : FnIs P aAdd "Headers.add_header" (TH 16) cA .none .none
  fa : findIn P.K (.ref t.C) "add_header" = some (some (.ref aAdd))
  i6 : isFn P.K (.ref aAdd) = true
theorem add_ok {t : HdrA} {x dd hl aAdd : Addr} {cA : Value} {ps : Pairs} {nm w : List Nat} (hF : HdrF P t) (hX : HdrX P t aAdd cA) (hn : Pr nm) (hsz : nm.length ≤ 2 ^ 20) (hw : Pr w) (hwz : w.length ≤ 2 ^ 20) (hpl : ps.length ≤ 2 ^ 20) :
    fnOk P 4 (ledH t x dd hl ps) (R aAdd) [R x, .str nm, .str w] [] (fun v μ' => v = .none ∧ μ' = ledH t x dd hl (ps ++ [(nm, w)])) := by
  refine hX.f6.okK (d := 3) (binds := fun q => [("self", R x), ("_name", .str nm), ("_value", .str w), ("_params", R q)]) (μb := fun q => (q, .dict []) :: ledH t x dd hl ps) (σ₀ := fun q => [("self", some (R x)), ("_name", some (.str nm)), ("_value", some (.str w)), ("_params", some (R q)), ("parts", none), ("k", none), ("v", none)])
    (fun _ _ _ _ => bindK3 fun _ _ _ => rfl) (fun _ => rfl) (fun _ => rfl) (fun _ => rfl) (fun _ => rfl) rfl rfl rfl fun q L hq => ?_
  refine exsOk.cons ?_
  walk_at "ex"
  refine fun pl => ?_
  walk_at "ex"
  rw [if_pos (by decide)]
  walk_at "ex"
  refine meth_inst (by walk_at "mem") (by walk_at "mem") rfl (hF.ga _) hF.fc hF.i2 ?_
  walk_at "ex"
  refine ⟨hF.f2.kp, opOk.mono ((conv_ok hF hw (by omega)).le (by decide)).call fun v μ' h => ?_⟩
  obtain ⟨rfl, rfl⟩ := h
  walk_at "ex"
  · refine call_dictItems (by walk_at "mem") hq fun vw => ?_
    refine it_items0 (by walk_at "mem") (fun ep => by walk_at "upd") fun ep => ?_
    refine ⟨fun i σ μ' => i = 0 ∧ σ = ([("self", some (R x)), ("_name", some (.str nm)), ("_value", some (.str w)), ("_params", some (R q)), ("parts", some (R pl)), ("k", none), ("v", none)] : Loc) ∧ μ' = (vw, itemsO q) :: (pl, .list [.str w]) :: (q, dictX ep) :: ledH t x dd hl ps, ⟨rfl, rfl, rfl⟩, ?_, ?_, ?_⟩
    · rintro i σ μ' ⟨_, rfl, rfl⟩
      exact ⟨_, PicksL.perm (ps := [(q, dictX ep)]) (by walk_at "picks")⟩
    · rintro i v σ μ' hv _
      simp at hv
    · rintro σ μ' ⟨_, rfl, rfl⟩
      walk_at "ex"
      refine get_inst (v := R hl) (by walk_at "mem") (by walk_at "mem") rfl (hF.ga _) hF.hd hF.ff rfl handed_raw ?_
      walk_at "ex"
      refine meth_inst (by walk_at "mem") (by walk_at "mem") rfl (hF.ga _) hF.fc hF.i2 ?_
      walk_at "ex"
      refine ⟨hF.f2.kp, opOk.mono ((conv_ok hF hn (by omega)).le (by decide)).call fun v μ' h => ?_⟩
      obtain ⟨rfl, rfl⟩ := h
      walk_at "ex"
      refine call_join (xs := [w]) (by show (pl, AObj.list [V.str w]) ∈ _; walk_at "mem") (by rw [sizeLine_eq, show (Str.ofString "; ").cps.toList.length = 2 from rfl]; simp; omega) (by rw [sizeLine_eq]; show w.length ≤ _; omega) ?_
      rw [show joinN (Str.ofString "; ").cps.toList [w] = w from rfl]
      walk_at "ex"
      · exact ⟨(x, .inst t.C dd) :: (dd, .dict [("_headers", some (R hl))]) :: [(hl, .list (pairsV ps ++ [V.tup [.str nm, .str w]]))], by walk_at "sub", rfl, by simp [ledH, pairsV]⟩
      · rw [sizeLine_eq]; simp; omega
  · rw [sizeLine_eq]; simp
end

section
variable {P : Par} {d : Nat} {μ : Led}
theorem UpdL.pre {a : Addr} {x' x : AObj} {μ μ' : Led} : ∀ {C : Led}, UpdL a x' x μ μ' → UpdL a x' x (C ++ μ) (C ++ μ')
  | [], u => u
  | _ :: _, u => .tail (UpdL.pre u)
inductive UpdB (B B' : Led) : Led → Led → Prop
  | head {ρ : Led} : UpdB B B' (B ++ ρ) (B' ++ ρ)
  | app {C ρ ρ' : Led} : UpdB B B' ρ ρ' → UpdB B B' (C ++ ρ) (C ++ ρ')
  | cons {p : Addr × AObj} {ρ ρ' : Led} : UpdB B B' ρ ρ' → UpdB B B' (p :: ρ) (p :: ρ')
theorem perm_mid {B C ρ X : Led} (h : X.Perm (B ++ ρ)) : (C ++ X).Perm (B ++ (C ++ ρ)) := by
  refine (h.append_left C).trans ?_
  rw [← List.append_assoc, ← List.append_assoc]
  exact List.perm_append_comm.append_right ρ
theorem UpdB.perm {B B' : Led} : ∀ {μ μ'}, UpdB B B' μ μ' → ∃ ρ, μ.Perm (B ++ ρ) ∧ μ'.Perm (B' ++ ρ)
  | _, _, .head => ⟨_, List.Perm.refl _, List.Perm.refl _⟩
  | _, _, .app u => let ⟨ρ, h1, h2⟩ := u.perm; ⟨_, perm_mid h1, perm_mid h2⟩
  | _, _, .cons (p := p) u => let ⟨ρ, h1, h2⟩ := u.perm; ⟨_, perm_mid (C := [p]) h1, perm_mid (C := [p]) h2⟩
theorem UpdB.mem {B B' : Led} {p : Addr × AObj} (hp : p ∈ B) {μ μ'} (u : UpdB B B' μ μ') : p ∈ μ := let ⟨_, h1, _⟩ := u.perm; h1.mem_iff.mpr (List.mem_append_left _ hp)
theorem opOk.upd {α γ : Type} {rel : Fz → γ → α → Prop} {T : Fz → Sem α → Prop} {B B' μ' : Led} {c : γ} {Q : γ → Led → Prop} (u : UpdB B B' μ μ') (h : opOk P rel d B T fun v μ1 => v = c ∧ μ1 = B') (q : Q c μ') : opOk P rel d μ T Q := by
  obtain ⟨ρ, h1, h2⟩ := u.perm
  refine opOk.reperm (opOk.frame h1 (h.mono ?_))
  rintro v _ ⟨rfl, rfl⟩
  exact ⟨μ', h2.symm, q⟩
theorem opOk.updX {α γ ι : Type} {rel : Fz → γ → α → Prop} {T : Fz → Sem α → Prop} {B B' μ' : Led} {c : ι → γ} {e : ι → Led} {Q : γ → Led → Prop} (u : UpdB B B' μ μ') (h : opOk P rel d B T fun v μ1 => ∃ i, v = c i ∧ μ1 = e i ++ B') (q : ∀ i, Q (c i) (e i ++ μ')) : opOk P rel d μ T Q := by
  obtain ⟨ρ, h1, h2⟩ := u.perm
  refine opOk.reperm (opOk.frame h1 (h.mono ?_))
  rintro v _ ⟨i, rfl, rfl⟩
  exact ⟨e i ++ μ', by rw [List.append_assoc]; exact h2.symm.append_left _, q i⟩

/-! the books -/
set_option genInjectivity false in
structure HA where
  x : Addr
  dd : Addr
  hl : Addr
noncomputable def hL (t : HdrA) (a : HA) (ps : Pairs) : Led := ledH t a.x a.dd a.hl ps
structure NmOk (l : List Nat) : Prop where
  pr : Pr l
  sz : l.length ≤ 2 ^ 20
structure HAll (P : Par) (t : HdrA) (aAdd : Addr) (cA : Value) : Prop where
  f : HdrF P t
  x : HdrX P t aAdd cA
section
variable {t : HdrA} {a : HA} {ps : Pairs} {aAdd : Addr} {cA : Value} {μ' : Led}
noncomputable abbrev keysV (ps : Pairs) : List V := ps.map fun p => V.str p.1
noncomputable abbrev valsV (ps : Pairs) : List V := ps.map fun p => V.str p.2
theorem meth_H {name : Str} {f : Addr} {B' : Led} {Q : V × List V → Led → Prop} (hF : HdrF P t) (hn : (name == ("_headers" : Str)) = false) (hf : findIn P.K (.ref t.C) name = some (some (.ref f))) (hi : isFn P.K (.ref f) = true) (u : UpdB (hL t a ps) B' μ μ') (h : Q (R f, [R a.x]) μ) : methOk P d μ (R a.x) name Q := by
  refine meth_inst (C := t.C) (dd := a.dd) (σd := [("_headers", some (R a.hl))]) (u.mem (.head _)) (u.mem (.tail _ (.head _))) ?_ (hF.ga _) hf hi h
  rw [List.lookup_cons, hn]
  rfl
theorem mget {Q : V × List V → Led → Prop} (hF : HdrF P t) (u : UpdB (hL t a ps) (hL t a ps) μ μ) (h : Q (R t.aGet, [R a.x]) μ) : methOk P d μ (R a.x) "get" Q := meth_H hF rfl hF.fg hF.i3 u h
theorem mkeys {Q : V × List V → Led → Prop} (hF : HdrF P t) (u : UpdB (hL t a ps) (hL t a ps) μ μ) (h : Q (R t.aKeys, [R a.x]) μ) : methOk P d μ (R a.x) "keys" Q := meth_H hF rfl hF.fk hF.i5 u h
theorem madd {Q : V × List V → Led → Prop} (hF : HdrF P t) (hX : HdrX P t aAdd cA) (u : UpdB (hL t a ps) (hL t a ps) μ μ) (h : Q (R aAdd, [R a.x]) μ) : methOk P d μ (R a.x) "add_header" Q := meth_H hF rfl hX.fa hX.i6 u h
theorem cget3 {nm dv : List Nat} {Q : V → Led → Prop} (hF : HdrF P t) (u : UpdB (hL t a ps) (hL t a ps) μ μ) (hn : NmOk nm) (hp : PsOk ps) (hd : 3 ≤ d) (h : Q (.str ((hget ps nm).getD dv)) μ) : Keep P μ (R t.aGet) ∧ callOk P d μ (R t.aGet) [R a.x, .str nm, .str dv] [] Q :=
  ⟨hF.f3.kp, opOk.upd u ((get3_ok hF hn.pr hn.sz hp).le hd).call h⟩
theorem cget {nm : List Nat} {Q : V → Led → Prop} (hF : HdrF P t) (u : UpdB (hL t a ps) (hL t a ps) μ μ) (hn : NmOk nm) (hp : PsOk ps) (hd : 3 ≤ d) (h : Q ((hget ps nm).elim .none .str) μ) : Keep P μ (R t.aGet) ∧ callOk P d μ (R t.aGet) [R a.x, .str nm] [] Q :=
  ⟨hF.f3.kp, opOk.upd u ((get_ok hF hn.pr hn.sz hp).le hd).call h⟩
theorem ckeys {Q : V → Led → Prop} (hF : HdrF P t) (u : UpdB (hL t a ps) (hL t a ps) μ μ) (hl : ps.length ≤ 2 ^ 20) (hd : 2 ≤ d) (h : ∀ D, Q (R D) ((D, .list (keysV ps)) :: μ)) : Keep P μ (R t.aKeys) ∧ callOk P d μ (R t.aKeys) [R a.x] [] Q :=
  ⟨hF.f5.kp, opOk.updX (c := fun D => R D) (e := fun D => [(D, .list (keysV ps))]) u ((show fnOk P 2 (hL t a ps) (R t.aKeys) [R a.x] [] (fun v μ' => ∃ D, v = R D ∧ μ' = [(D, .list (keysV ps))] ++ hL t a ps) from keys_ok (x := a.x) (dd := a.dd) (hl := a.hl) hF hl).le hd).call h⟩
theorem cadd {nm w : List Nat} {Q : V → Led → Prop} (hF : HdrF P t) (hX : HdrX P t aAdd cA) (u : UpdB (hL t a ps) (hL t a (ps ++ [(nm, w)])) μ μ') (hn : NmOk nm) (hw : NmOk w) (hl : ps.length ≤ 2 ^ 20) (hd : 4 ≤ d) (h : Q .none μ') : Keep P μ (R aAdd) ∧ callOk P d μ (R aAdd) [R a.x, .str nm, .str w] [] Q :=
  ⟨hX.f6.kp, opOk.upd u ((add_ok hF hX hn.pr hn.sz hw.pr hw.sz hl).le hd).call h⟩
theorem cnew {Q : V → Led → Prop} (hF : HdrF P t) (hd : 2 ≤ d) (h : ∀ a : HA, Q (R a.x) (hL t a [] ++ μ)) : Keep P μ (R t.C) ∧ callOk P d μ (R t.C) [] [] Q :=
  ⟨Keep.inK hF.kC, opOk.le (opOk.reperm (hdr_new hF (Q := fun v μ1 => ∃ μ2, μ1.Perm μ2 ∧ Q v μ2) fun x dd hl => ⟨hL t ⟨x, dd, hl⟩ [] ++ μ, (List.perm_append_comm (l₁ := [(hl, AObj.list [])]) (l₂ := [(x, AObj.inst t.C dd), (dd, .dict [("_headers", some (R hl))])])).append_right μ, h ⟨x, dd, hl⟩⟩)) hd⟩
end
/-! the lexer's put-back words -/
set_option genInjectivity false in
structure LA where
  y : Addr
  dl : Addr
  pb : Addr
  st : Addr
noncomputable def lL (t : LexA) (a : LA) (ws : List Nat) (ln : Int) (pbs : List (List Nat)) : Led := [(a.y, .inst t.C a.dl), (a.dl, .dict [("lineno", some (.int ln)), ("instream", some (R a.st)), ("whitespace", some (.str ws)), ("pushback", some (R a.pb))]), (a.pb, .list (pbs.map V.str))]
section
variable {t : LexA} {a : LA} {ws : List Nat} {ln : Int} {pbs : List (List Nat)} {μ' : Led}
end
end

section
variable {P : Par} {d : Nat} {μ : Led}
theorem rsize {a b : Int} {n : Nat} (h : b = a + n) : Builtin.Range.rangeSize a b 1 = (n : Int) := by
  subst h
  unfold Builtin.Range.rangeSize
  rw [if_pos (by decide)]
  split <;> lia
theorem irange_get {a : Int} {n i : Nat} {v : V} (h : (irange a n)[i]? = some v) : i < n ∧ v = .int (a + i) := by
  unfold irange at h
  rw [List.getElem?_map] at h
  by_cases q : i < n
  · rw [List.getElem?_range q] at h; cases h; exact ⟨q, rfl⟩
  · rw [List.getElem?_eq_none (by simpa using Nat.le_of_not_lt q)] at h; cases h
theorem irange_get0 {n i : Nat} {v : V} (h : (irange 0 n)[i]? = some v) : i < n ∧ v = .int i := by
  obtain ⟨h1, h2⟩ := irange_get h
  exact ⟨h1, by rw [h2, Int.zero_add]⟩
theorem irange_len {a : Int} {n : Nat} : (irange a n).length = n := by simp [irange]
theorem fmod_nat (x : Int) {b : Nat} (hb : 0 < b) : ∃ k : Nat, x.fmod b = (k : Int) ∧ k < b := by
  have h1 := Int.fmod_nonneg_of_pos x (show (0 : Int) < b by lia)
  have h2 := Int.fmod_lt_of_pos x (show (0 : Int) < b by lia)
  exact ⟨(x.fmod b).toNat, by lia, by lia⟩
theorem flat_one (l : List Nat) : (l.map fun c => [c]).flatten = l := by
  induction l with
  | nil => rfl
  | cons c l ih => simpa using ih
theorem sum_one {α : Type} (l : List α) (k : Nat) : (l.map fun _ => k).sum = l.length * k := by
  induction l with
  | nil => simp
  | cons c l ih => rw [List.map_cons, List.sum_cons, ih, List.length_cons, Nat.add_mul]; lia
theorem join_signs {l : Addr} {w : List Nat} {Q : V → Led → Prop} (hm : (l, AObj.list ((w.map fun c => [c]).map V.str)) ∈ μ) (hw : w.length ≤ 1000) (h : Q (.str w) μ) : callOk P d μ (B "str.join") [.str [], R l] [] Q := by
  refine call_join hm ?_ ?_ ?_
  · rw [List.map_map, sizeLine_eq]
    show (w.map fun _ => 1).sum ≤ _
    rw [sum_one]
    lia
  · rw [joinN_nil, flat_one, sizeLine_eq]; lia
  · rw [joinN_nil, flat_one]; exact h
theorem CompOk.map1 {env : Env} {src : Led} {items ys : List V} {x0 : Str} {pos : Pos} {elt : Expr} {Q : List V → Led → Prop} (hl : items.length ≤ sizeLine) (hk : env.scope.kind = .function) (hx : env.kindOf x0 = some .local) (hs : ∃ rest, μ.Perm (src ++ rest))
    (hy : ys.length = items.length) (step : ∀ (i : Nat) (x y : V), items[i]? = some x → ys[i]? = some y → evOk P d env [(x0, some x)] μ elt fun v μ' => v = y ∧ μ' = μ) (fin : Q ys μ) : CompOk P d env src items [(x0, none)] μ (.Name x0 pos) elt [] Q := by
  refine CompOk.one hl (fun _ => μ) (fun i => ys.take i) rfl rfl (fun _ => hs) (fun i x o hi => ?_) (by rw [← hy, List.take_length]; exact fin)
  have hi1 : i < items.length := (List.getElem?_eq_some_iff.mp hi).1
  have hyi : ys[i]? = some (ys[i]'(by lia)) := List.getElem?_eq_getElem _
  refine asOk.name StoreL.head ?_ hk hx
  refine (evOk.mono (step i x _ hi hyi) fun v μ' h => ⟨_, rfl, h.2, ?_⟩ : evOk P d env [(x0, some x)] μ elt fun v μ3 => ∃ o, [(x0, some x)] = [(x0, o)] ∧ μ3 = μ ∧ ys.take i ++ [v] = ys.take (i + 1))
  rw [List.take_add_one, hyi, h.1]
  rfl
theorem map_get {α : Type} {f : Nat → α} {n i : Nat} {y : α} (h : ((List.range n).map f)[i]? = some y) : i < n ∧ y = f i := by
  obtain ⟨h1, h2⟩ := List.getElem?_eq_some_iff.mp h
  rw [List.length_map, List.length_range] at h1
  exact ⟨h1, by rw [← h2]; simp⟩
theorem cat {a b : List Nat} {Q : V → Led → Prop} (ha : a.length ≤ 1000000) (hb : b.length ≤ 1000000) (h : Q (.str (a ++ b)) μ) : binOk P d μ .Add (.str a) (.str b) Q := bin_cat (by rw [sizeLine_eq]; lia) h
theorem chars_get {w : List Nat} {i : Nat} {v : V} (h : (chars w)[i]? = some v) : ∃ c, w[i]? = some c ∧ v = .str [c] := by
  unfold chars at h
  rw [List.getElem?_map] at h
  cases e : w[i]? with
  | none => rw [e] at h; cases h
  | some c => rw [e] at h; cases h; exact ⟨c, rfl, rfl⟩
theorem chars_len {w : List Nat} : (chars w).length = w.length := by simp [chars]
theorem getD_at {l : List Nat} {i : Nat} (h : i < l.length) : l[i]? = some (l.getD i 0) := by rw [List.getD_eq_getElem?_getD, List.getElem?_eq_getElem h]; rfl
noncomputable def nm4 : List Nat := [97, 98, 65, 66]
noncomputable def pairX (n : Int) : Nat := (n.fmod 768).toNat
noncomputable def pairW (x : Nat) : List Nat := (List.range (x / 4 % 3)).map fun k => sg.getD (x / 12 / 8 ^ k % 8) 0
noncomputable def pairN (n : Int) : Pr2 := ([nm4.getD (pairX n % 4) 0], pairW (pairX n))
theorem pair_ok {a : Addr} {cW : Value} {n : Int} (hF : FnIs P a "_law_pair" (T1 19) cW .none .none) (b1 : Bi P "range" (.type "range")) :
    fnOk P 3 μ (R a) [.int n] [] (fun v μ' => v = .tup [.str (pairN n).1, .str (pairN n).2] ∧ μ' = μ) := by
  have hG := GOk.b b1 GOk.nil
  refine hF.okC (d := 2) (binds := [("number", .int n)]) (σ₀ := [("number", some (.int n)), ("x", none)])
    (fun f => [("spare", f 1), ("signs", f 0)]) (fun f => [(f 1, .cell none), (f 0, .cell none)])
    (fun _ _ _ _ => bind1 fun _ => rfl) (fun _ => rfl) (fun _ => rfl) (fun _ => rfl) rfl rfl rfl rfl rfl rfl fun L f => ?_
  dsimp only [List.cons_append, List.nil_append]
  walk_at "ex"
  refine bin_fmod (by decide) ?_
  obtain ⟨m, hm, hm2⟩ := fmod_nat n (b := 768) (by decide)
  have hx : pairX n = m := by unfold pairX; rw [show n.fmod 768 = (m : Int) from hm]; rfl
  rw [show n.fmod 768 = (m : Int) from hm]
  walk_at "ex"
  refine bin_fdiv (by decide) (by decide) ?_
  rw [show (m : Int).fdiv 12 = ((m / 12 : Nat) : Int) from (Int.ofNat_fdiv m 12).symm]
  walk_at "ex"
  refine bin_fmod (by decide) ?_
  rw [show (m : Int).fmod 4 = ((m % 4 : Nat) : Int) from (Int.ofNat_fmod m 4).symm]
  walk_at "ex"
  have h4 : m % 4 < 4 := Nat.mod_lt _ (by decide)
  refine sub_str (c := nm4.getD (m % 4) 0) (Int.natCast_nonneg _) (by lia) (by rw [Int.toNat_natCast]; exact getD_at (l := nm4) h4) ?_ (fun _ _ => rfl)
  walk_at "ex"
  refine evOk.listcomp [("k", none)] [("spare", f 1), ("signs", f 0)] ?_ rfl (fun _ => rfl) (.inl rfl) (by decide) rfl (by decide)
  walk_at "ex"
  refine bin_fdiv (by decide) (by decide) ?_
  rw [show (m : Int).fdiv 4 = ((m / 4 : Nat) : Int) from (Int.ofNat_fdiv m 4).symm]
  walk_at "ex"
  refine bin_fmod (by decide) ?_
  rw [show ((m / 4 : Nat) : Int).fmod 3 = ((m / 4 % 3 : Nat) : Int) from (Int.ofNat_fmod (m / 4) 3).symm]
  walk_at "ex"
  rename_i rg
  have h3 : m / 4 % 3 < 3 := Nat.mod_lt _ (by decide)
  refine it_range (n := m / 4 % 3) (by walk_at "mem") (small_one (by lia) (by lia) (by lia) (by lia)) (rsize (by lia)) fun C => ?_
  refine CompOk.map1 (ys := ((pairW m).map fun c => [c]).map V.str) (by rw [sizeLine_eq, irange_len]; lia) rfl rfl ⟨_, List.Perm.refl _⟩ (by rw [irange_len]; simp [pairW]) (fun i v y hv hy => ?_) ?_
  · obtain ⟨hi, rfl⟩ := irange_get0 hv
    unfold pairW at hy
    rw [List.map_map, List.map_map] at hy
    obtain ⟨_, rfl⟩ := map_get hy
    walk_at "ex"
    refine bin_pow (by lia) (by lia) (by decide) ?_
    rw [show (8 : Int) ^ (i : Int).toNat = ((8 ^ i : Nat) : Int) from by rw [Int.toNat_natCast]; push_cast; rfl]
    have hp : 8 ^ i ≤ 8 ^ 2 := Nat.pow_le_pow_right (by decide) (by lia)
    have hp0 : 0 < 8 ^ i := Nat.pow_pos (by decide)
    refine bin_fdiv (by lia) (by lia) ?_
    rw [← Int.ofNat_fdiv]
    walk_at "ex"
    refine bin_fmod (by decide) ?_
    rw [show ((m / 12 / 8 ^ i : Nat) : Int).fmod 8 = ((m / 12 / 8 ^ i % 8 : Nat) : Int) from (Int.ofNat_fmod _ 8).symm]
    walk_at "ex"
    have h8 : m / 12 / 8 ^ i % 8 < 8 := Nat.mod_lt _ (by decide)
    refine sub_str (c := sg.getD (m / 12 / 8 ^ i % 8) 0) (Int.natCast_nonneg _) (by lia) (by rw [Int.toNat_natCast]; exact getD_at (l := sg) h8) ?_ (fun _ _ => rfl)
    walk_at "ex"
    exact ⟨rfl, rfl⟩
  · intro D
    walk_at "ex"
    have hl : (pairW m).length ≤ 2 := by unfold pairW; rw [List.length_map, List.length_range]; exact Nat.le_of_lt_succ h3
    refine join_signs (by walk_at "mem") (by lia) ?_
    walk_at "ex"
    exact ⟨μ, by walk_at "sub", by unfold pairN; rw [hx]; rfl, rfl⟩
theorem pairN_ok (n : Int) : PrOk (pairN n) ∧ (pairN n).2.length ≤ 2 ∧ ∀ c ∈ (pairN n).2, c ∈ sg := by
  have h4 : pairX n % 4 < 4 := Nat.mod_lt _ (by decide)
  refine ⟨⟨⟨_, rfl, List.mem_of_getElem? (getD_at (l := nm4) h4)⟩⟩, ?_, ?_⟩
  · show (pairW (pairX n)).length ≤ 2
    unfold pairW; rw [List.length_map, List.length_range]
    exact Nat.le_of_lt_succ (Nat.mod_lt _ (by decide))
  · intro c hc
    obtain ⟨k, _, rfl⟩ := List.mem_map.mp hc
    exact List.mem_of_getElem? (getD_at (l := sg) (Nat.mod_lt _ (by decide)))
end

section
variable {P : Par} {d : Nat} {μ : Led}
structure Dflt2 (P : Par) (dV : Value) : Prop where
  at_ : ∃ Td o n t, dV = .ref Td ∧ P.h₀.get? Td = some o ∧ o.data = .seq #[.none, .int 1 t] n
theorem bind2q {fd : FuncData} {n1 n2 n3 : Str} {a b : V} (D : Dflt2 P fd.defaults) (h1 : ∀ x y t, ∃ k : Option (Array Value) → Sem (List (Str × Value)), bindArgs fd ⟨[x, y], []⟩ = seqItems? fd.defaults >>= k ∧ k (some #[.none, .int 1 t]) = pure [(n1, x), (n2, y), (n3, .int 1 t)]) : BindV P μ fd [a, b] [] [(n1, a), (n2, b), (n3, .int 1)] := fun β ν s xs ks hI rx rk => by
  refine away fun G hG => ?_
  obtain ⟨x, y, eY1, r1, r2⟩ := rx.two
  refine hG ?_
  clear hG G
  subst eY1
  cases rk.nil'
  refine away fun G hG => ?_
  obtain ⟨Td, o, n, t, e1, e2, e3⟩ := D.at_
  refine hG ?_
  clear hG G
  refine away fun G hG => ?_
  obtain ⟨k, h1, h2⟩ := h1 x y t
  refine hG ?_
  clear hG G
  exact ⟨_, .of_defaults e1 (hI.keep _ _ e2) e3 h1 h2, rfl, .cons r1 (.cons r2 (.cons (.int ..) .nil))⟩
noncomputable def bs1 (w : List Nat) : List Nat := w.flatMap fun c => if c = 92 then [92, 92] else [c]
structure EscOk (w : List Nat) : Prop where
  r1 : Txt.replace (mkS w) (Str.ofString "\\") (Str.ofString "\\\\") = mkS (bs1 w)
  r2 : Txt.replace (mkS (bs1 w)) (Str.ofString "\"") (Str.ofString "\\\"") = mkS (escN w)
  len : w.length ≤ 2
  bl : (bs1 w).length ≤ 4
  el : (escN w).length ≤ 4
theorem esc2 : ∀ a ∈ sg, ∀ b ∈ sg, Txt.replace (mkS [a, b]) (Str.ofString "\\") (Str.ofString "\\\\") = mkS (bs1 [a, b]) ∧ Txt.replace (mkS (bs1 [a, b])) (Str.ofString "\"") (Str.ofString "\\\"") = mkS (escN [a, b]) ∧ (bs1 [a, b]).length ≤ 4 ∧ (escN [a, b]).length ≤ 4 := by decide +kernel
theorem esc1 : ∀ a ∈ sg, Txt.replace (mkS [a]) (Str.ofString "\\") (Str.ofString "\\\\") = mkS (bs1 [a]) ∧ Txt.replace (mkS (bs1 [a])) (Str.ofString "\"") (Str.ofString "\\\"") = mkS (escN [a]) ∧ (bs1 [a]).length ≤ 4 ∧ (escN [a]).length ≤ 4 := by decide +kernel
theorem esc_ok {w : List Nat} (hl : w.length ≤ 2) (hs : ∀ c ∈ w, c ∈ sg) : EscOk w := by
  match w, hl, hs with
  | [], _, _ => exact ⟨by decide +kernel, by decide +kernel, by decide, by decide, by decide⟩
  | [a], _, hs => obtain ⟨h1, h2, h3, h4⟩ := esc1 a (hs a (by simp)); exact ⟨h1, h2, by simp, h3, h4⟩
  | [a, b], _, hs => obtain ⟨h1, h2, h3, h4⟩ := esc2 a (hs a (by simp)) b (hs b (by simp)); exact ⟨h1, h2, by simp, h3, h4⟩
  | _ :: _ :: _ :: _, hl, _ => simp at hl
theorem fmt_ok {a : Addr} {cF dV : Value} {nm w : List Nat} (hF : FnIs P a "_formatparam" (T1 16) cF dV .none) (D : Dflt2 P dV) (b1 : Bi P "len" (.builtin "len")) (hn : nm.length ≤ 1) (hw : EscOk w) :
    fnOk P 3 μ (R a) [.str nm, .str w] [] (fun v μ' => v = .str (fmtN (nm, w)) ∧ μ' = μ) := by
  have hG := GOk.b b1 GOk.nil
  refine hF.ok (d := 2) (binds := [("param", .str nm), ("value", .str w), ("quote", .int 1)]) (σ₀ := [("param", some (.str nm)), ("value", some (.str w)), ("quote", some (.int 1))]) (fun _ _ _ _ => bind2q D fun _ _ _ => ⟨_, rfl, rfl⟩) rfl rfl rfl rfl rfl rfl rfl fun L => ?_
  refine exsOk.cons ?_
  refine exOk.ifT (isT.and2 ?_)
  walk_at "ex"
  refine ⟨rfl, isT.gt ?_⟩
  walk_at "ex"
  refine call_lenStr (by rw [sizeLine_eq]; exact Nat.le_trans hw.len (by decide)) ?_
  walk_at "ex"
  refine ⟨w.length, rfl, ?_⟩
  by_cases h0 : w = []
  · subst h0
    rw [if_neg (by simp)]
    walk_at "ex"
    exact ⟨rfl, rfl⟩
  · rw [if_pos (decide_eq_true (by have := List.length_pos_iff.mpr h0; exact Int.natCast_pos.mpr this))]
    refine exsT.cons (exT.if_ ?_)
    walk_at "ex"
    rw [if_pos (by decide)]
    walk_at "ex"
    refine ⟨rfl, exsT.cons (exT.asg ?_ rfl rfl rfl)⟩
    refine evT.replace (r := escN w) (l := bs1 w) ?_ hw.r2 (by decide) (Nat.le_trans hw.bl (by decide)) (by decide) ⟨_, rfl⟩
    refine evT.replace (r := bs1 w) (l := w) (evT.of ?_) hw.r1 (by decide) (Nat.le_trans hw.len (by decide)) (by decide) ⟨_, rfl⟩
    walk_at "ex"
    refine ⟨rfl, rfl, ?_⟩
    walk_at "ex"
    refine evOk.fstr (a := nm) (b := escN w) (Nat.le_trans hn (by decide)) (Nat.le_trans hw.el (by decide)) (by decide) (by decide) ?_ ?_ ?_
    · walk_at "ex"
      exact ⟨rfl, rfl⟩
    · walk_at "ex"
      exact ⟨rfl, rfl⟩
    walk_at "ex"
    refine ⟨?_, rfl⟩
    show V.str (nm ++ [61, 34] ++ escN w ++ [34]) = V.str (fmtN (nm, w))
    unfold fmtN
    rw [if_neg h0]
end

section
variable {P : Par} {d : Nat} {μ : Led}
/-! packing -/
noncomputable def numS (k : Nat) : List Nat := codes (toString (((k + 1 : Nat)) : Int))
theorem numS_int : ∀ k < 64, PySem.intText? (mkS (numS k)) = some ((k + 1 : Nat) : Int) ∧ (numS k).length ≤ 2 ∧ ∀ c ∈ numS k, 32 ≤ c ∧ c < 127 := by decide +kernel
theorem sg_idx : ∀ c ∈ sg, Builtin.Str.occurrences (mkS sg) (mkS [c]) 0 sg.length 1 = [sIdx c] := by decide +kernel
theorem sg_pr : ∀ c ∈ sg, 32 ≤ c ∧ c < 127 := by decide
structure SgOk (x : List Nat) : Prop where
  sg : ∀ c ∈ x, c ∈ sg
  len : x.length ≤ 40
theorem SgOk.nm {x : List Nat} (h : SgOk x) : NmOk x := ⟨fun c hc => sg_pr c (h.sg c hc), Nat.le_trans h.len (by decide)⟩
structure BkRel (bk : Pairs) (nm : List (List Nat)) : Prop where
  nms : bk.map (fun p => low p.1) = nm.map low
  vals : bk.map (·.2) = (List.range nm.length).map numS
  ok : ∀ p ∈ bk, SgOk p.1
theorem BkRel.len {bk : Pairs} {nm : List (List Nat)} (h : BkRel bk nm) : bk.length = nm.length := by have := congrArg List.length h.nms; simpa using this
theorem BkRel.ps {bk : Pairs} {nm : List (List Nat)} (h : BkRel bk nm) : PsOk bk := ⟨fun p hp => ⟨(h.ok p hp).nm.pr, (h.ok p hp).nm.sz⟩⟩
theorem hget_at (p : List Nat) : ∀ (bk : Pairs) (nm : List (List Nat)) (off : Nat), bk.map (fun p => low p.1) = nm.map low → bk.map (·.2) = (List.range' off nm.length).map numS → hget bk p = (idxL nm p).map fun i => numS (off + i)
  | [], [], _, _, _ => rfl
  | [], _ :: _, _, h, _ => by cases h
  | _ :: _, [], _, h, _ => by cases h
  | b :: bk, q :: nm, off, h1, h2 => by
    have e1 : low b.1 = low q := by injection h1
    have e1' : bk.map (fun p => low p.1) = nm.map low := by injection h1
    have e2 : b.2 = numS off ∧ bk.map (·.2) = (List.range' (off + 1) nm.length).map numS := by
      rw [List.length_cons, List.range'_succ, List.map_cons, List.map_cons] at h2
      exact ⟨by injection h2, by injection h2⟩
    have ih := hget_at p bk nm (off + 1) e1' e2.2
    unfold hget idxL at ih ⊢
    rw [List.find?_cons, List.findIdx?_cons, e1]
    cases hq : (low q == low p) with
    | true => simp [e2.1]
    | false =>
      simp only [Bool.false_eq_true, if_false]
      rw [ih]
      cases nm.findIdx? fun q => low q == low p with
      | none => rfl
      | some i => simp [Nat.add_comm, Nat.add_left_comm]
theorem BkRel.get {bk : Pairs} {nm : List (List Nat)} (h : BkRel bk nm) (p : List Nat) : hget bk p = (idxL nm p).map numS := by
  rw [hget_at p bk nm 0 h.nms (by rw [h.vals, List.range_eq_range'])]
  cases idxL nm p <;> simp
theorem BkRel.getD {bk : Pairs} {nm : List (List Nat)} (h : BkRel bk nm) (hl : nm.length < 64) (p : List Nat) : PySem.intText? (mkS ((hget bk p).getD [48])) = some ((abv nm p : Nat) : Int) ∧ ((hget bk p).getD [48]).length ≤ 640 := by
  rw [h.get]
  unfold abv
  cases e : idxL nm p with
  | none => exact ⟨by decide +kernel, by decide⟩
  | some i =>
    obtain ⟨_, _, _, hi⟩ := idxL_some e
    obtain ⟨h1, h2, _⟩ := numS_int i (Nat.lt_trans hi hl)
    exact ⟨h1, Nat.le_trans h2 (by decide)⟩
theorem BkRel.add {bk : Pairs} {nm : List (List Nat)} {S : CS} {x q : List Nat} (h : BkRel bk nm) (hx : SgOk x) (e : low q = low x) : BkRel (bk ++ [(x, numS nm.length)]) (nm ++ [q]) where
  nms := by rw [List.map_append, List.map_append, h.nms]; show _ ++ [low x] = _ ++ [low q]; rw [e]
  vals := by rw [List.map_append, h.vals, List.length_append, List.length_singleton, List.range_succ, List.map_append]; rfl
  ok := fun p hp => by
    rcases List.mem_append.mp hp with h1 | h1
    · exact h.ok p h1
    · rw [List.mem_singleton.mp h1]; exact hx
theorem run_take {t : List Nat} {i c : Nat} (h : t[i]? = some c) : runC (t.take (i + 1)) = (runC (t.take i)).step c := by
  rw [List.take_add_one, h]; exact runC_app _ _
theorem pc_sub {t : List Nat} (ht : SgOk t) (i : Nat) : (∀ c ∈ (runC (t.take i)).pc, c ∈ sg) ∧ (runC (t.take i)).pc.length ≤ i ∧ COk (t.take i) (runC (t.take i)) ∧ (runC (t.take i)).nm.length ≤ i := by
  have hk := cOk (t.take i) (fun c hc => ht.sg c (List.mem_of_mem_take hc))
  obtain ⟨u, hu, _⟩ := hk.txt
  have hl : (t.take i).length ≤ i := List.length_take_le _ _
  refine ⟨fun c hc => ht.sg c (List.mem_of_mem_take (i := i) (by rw [hu]; exact List.mem_append_right _ hc)), ?_, hk, Nat.le_trans hk.nmLe hl⟩
  have := congrArg List.length hu
  rw [List.length_append] at this
  exact Nat.le_trans (Nat.le_trans (Nat.le_add_left _ _) (Nat.le_of_eq this.symm)) hl
set_option genInjectivity false in
structure PackA where
  td : DivA
  th : HdrA
  aAdd : Addr
  cA : Value
structure PackF (P : Par) (t : PackA) : Prop where
  dv : DivF P t.td
  hd : HdrF P t.th
  hx : HdrX P t.th t.aAdd t.cA
  b1 : Bi P "int" (.type "int")
  b2 : Bi P "str" (.type "str")
inductive PkI (x : List Nat) (h : HA) (rl : Addr) (th : HdrA) (μ : Led) : Nat → Loc → Led → Prop
  | mk (i : Nat) (bk : Pairs) (o : Option V) (hb : BkRel bk (runC (x.take i)).nm) : PkI x h rl th μ i [("text", some (.str x)), ("signs", some (.str sg)), ("book", some (R h.x)), ("rows", some (R rl)), ("piece", some (.str (runC (x.take i)).pc)), ("sign", o)]
      ((rl, .list (vints (runC (x.take i)).rows)) :: (hL th h bk ++ μ))
theorem vints_snoc (l : List Nat) (a : Nat) (z : Int) (h : z = (a : Int)) : vints l ++ [V.int z] = vints (l ++ [a]) := by subst h; simp
end
namespace X_pack_ok
noncomputable def stmt (P : Par) (μ : Led) (t : PackA) (aP : Addr) (cP : Value) (x : List Nat) : Prop := ∀ (hF : PackF P t), ∀ (f : FnIs P aP "_law_packed" (T1 20) cP .none .none), ∀ (hx : SgOk x), fnOk P 35 μ (R aP) [.str x] [] (fun v μ' => v = .int (undig 10 (runC x).fin : Nat) ∧ μ' = μ)
noncomputable def pck : Led × PackA × Addr × Value × (List Nat) := @Classical.epsilon (Led × PackA × Addr × Value × (List Nat)) ⟨(([] : Led), (⟨⟨0, 0, 0, 0, 0, 0, 0, 0, 0, .none, .none, .none⟩, ⟨0, 0, 0, 0, 0, 0, 0, #[], #[], .none, .none, .none, .none, .none, .none⟩, 0, .none⟩ : PackA), (0 : Addr), (.none : Value), ([] : List Nat))⟩ fun b => ∃ P, ¬ stmt P b.1 b.2.1 b.2.2.1 b.2.2.2.1 b.2.2.2.2
@[irreducible] noncomputable def μ : Led := pck.1
@[irreducible] noncomputable def t : PackA := pck.2.1
@[irreducible] noncomputable def aP : Addr := pck.2.2.1
@[irreducible] noncomputable def cP : Value := pck.2.2.2.1
@[irreducible] noncomputable def x : List Nat := pck.2.2.2.2
theorem coreT (P : Par) : stmt P μ t aP cP x := by
  intro hF f hx
  have hG := GOk.b hF.b1 (GOk.b hF.b2 (GOk.b hF.dv.b2 (GOk.g hF.hd.gC (GOk.g hF.dv.g3 GOk.nil))))
  have hasc : ∀ c ∈ x, c < 128 := fun c hc => Nat.lt_of_lt_of_le (sg_pr c (hx.sg c hc)).2 (by decide)
  have hlen := hx.len
  refine fnOk.drop ?_
  refine f.ok (d := 34) (binds := [("text", .str x)]) (σ₀ := [("text", some (.str x)), ("signs", none), ("book", none), ("rows", none), ("piece", none), ("sign", none)]) (fun _ _ _ _ => bind1 fun _ => rfl) rfl rfl rfl rfl rfl rfl rfl fun L => ?_
  walk_at "ex"
  refine cnew hF.hd (by decide) fun h => ?_
  walk_at "ex"
  refine fun rl => ?_
  walk_at "ex"
  refine it_str hasc ?_
  refine ForOk.of (PkI x h rl t.th μ) (.mk 0 [] none ⟨rfl, rfl, fun p hp => absurd hp List.not_mem_nil⟩) ?_ ?_ ?_
  · rintro i σ μ' ⟨bk, o, _⟩
    exact ⟨_, List.Perm.refl _⟩
  · rintro J' hJ i v σ μ' hv ⟨bk, o, hb⟩
    obtain ⟨c, hc, rfl⟩ := chars_get hv
    have hcs := hx.sg c (List.mem_of_getElem? hc)
    have hil : i < x.length := (List.getElem?_eq_some_iff.mp hc).1
    obtain ⟨hp1, hp2, hk, hn⟩ := pc_sub hx i
    have hstep := run_take hc
    have hJ := hJ (i + 1)
    have hJm := fun bk o => PkI.mk (x := x) (h := h) (rl := rl) (th := t.th) (μ := μ) (i + 1) bk o
    rw [hstep] at hJm
    clear hstep
    generalize runC (x.take i) = S at *
    have hps : SgOk S.pc := ⟨hp1, Nat.le_trans hp2 (Nat.le_trans (Nat.le_of_lt hil) hlen)⟩
    have hpc : SgOk (S.pc ++ [c]) := ⟨fun e he => by rcases List.mem_append.mp he with h1 | h1; exact hp1 e h1; rw [List.mem_singleton.mp h1]; exact hcs, by rw [List.length_append]; exact Nat.le_trans (Nat.succ_le_succ hp2) (Nat.le_trans hil hlen)⟩
    have hn40 : S.nm.length < 40 := Nat.lt_of_le_of_lt hn (Nat.lt_of_lt_of_le hil hlen)
    walk_at "ex"
    refine mget hF.hd (by walk_at "blk") ?_
    walk_at "ex"
    refine cat (Nat.le_trans hps.len (by decide)) (show 1 ≤ 1000000 from by decide) ?_
    walk_at "ex"
    refine cget hF.hd (by walk_at "blk") hpc.nm hb.ps (by decide) ?_
    rw [hb.get]
    cases e : idxL S.nm (S.pc ++ [c]) with
    | some j =>
      show sem _ _ _ _ _ (.val (.str (numS j))) _ _
      walk_at "ex"
      rw [if_neg (by decide)]
      walk_at "ex"
      refine cat (Nat.le_trans hps.len (by decide)) (show 1 ≤ 1000000 from by decide) ?_
      walk_at "ex"
      have hm := hJm bk (some (.str [c]))
      rw [CS.step_some e] at hm
      exact hJ _ _ (hm hb)
    | none =>
      show sem _ _ _ _ _ (.val .none) _ _
      walk_at "ex"
      rw [if_pos rfl]
      walk_at "ex"
      refine mget hF.hd (by walk_at "blk") ?_
      walk_at "ex"
      refine cget3 hF.hd (by walk_at "blk") hps.nm hb.ps (by decide) ?_
      walk_at "ex"
      obtain ⟨g1, g2⟩ := hb.getD (Nat.lt_trans hn40 (by decide)) S.pc
      refine call_intStr g1 g2 ?_
      have hav : abv S.nm S.pc < 63 := by
        unfold abv
        cases e2 : idxL S.nm S.pc with
        | none => exact show 0 < 63 from by decide
        | some j => obtain ⟨_, _, _, hj⟩ := idxL_some e2; exact Nat.lt_of_le_of_lt hj (Nat.lt_trans hn40 (by decide))
      walk_at "ex"
      refine bin_mulR (by lia) ?_
      walk_at "ex"
      refine call_index (i := sIdx c) (rest := []) (sg_idx c hcs) ?_
      walk_at "ex"
      rw [vints_snoc S.rows (16 * abv S.nm S.pc + sIdx c + 1) _ (by push_cast; rfl)]
      refine madd hF.hd hF.hx (by walk_at "blk") ?_
      walk_at "ex"
      refine cat (Nat.le_trans hps.len (by decide)) (show 1 ≤ 1000000 from by decide) ?_
      walk_at "ex"
      · rw [show ((vints (S.rows ++ [16 * abv S.nm S.pc + sIdx c + 1])).length : Int) = ((S.nm.length + 1 : Nat) : Int) from by simp [hk.len]]
        refine call_strInt (Nat.lt_trans (show (((S.nm.length + 1 : Nat)) : Int).natAbs < 64 from by rw [Int.natAbs_natCast]; lia) (by decide)) ?_
        walk_at "ex"
        have hn2 := numS_int S.nm.length (Nat.lt_trans hn40 (by decide))
        refine cadd hF.hd hF.hx (by walk_at "blk") hpc.nm (show NmOk (numS S.nm.length) from ⟨hn2.2.2, Nat.le_trans hn2.2.1 (by decide)⟩) (by rw [hb.len]; exact Nat.le_trans (Nat.le_of_lt hn40) (by decide)) (by decide) ?_
        walk_at "ex"
        have hm := hJm (bk ++ [(S.pc ++ [c], numS S.nm.length)]) (some (.str [c]))
        rw [CS.step_none e] at hm
        exact hJ _ _ (hm (hb.add (S := S) hpc (by rw [low_app, low_app, shw_low_eq hk])))
      · rw [sizeLine_eq]; simp [hk.len]; lia
      · rw [sizeLine_eq]; simp [hk.len]; lia
  · rintro σ μ' ⟨bk, o, hb⟩
    rw [chars_len] at hb ⊢
    obtain ⟨hp1, hp2, hk, hn⟩ := pc_sub hx x.length
    rw [List.take_length] at *
    generalize runC x = S at *
    have hn40 : S.nm.length < 41 := Nat.lt_succ_of_le (Nat.le_trans hn hlen)
    have hps : SgOk S.pc := ⟨hp1, Nat.le_trans hp2 hlen⟩
    have hrows : ∀ r ∈ S.fin, r < 2 ^ 10 := by
      intro r hr
      obtain ⟨p, hp⟩ := List.getElem?_of_mem hr
      obtain ⟨a, j, ra⟩ := hk.rowAt hp
      have h1 := ra.hr
      have h2 := ra.hj
      have h3 := ra.ha
      lia
    have hfl : S.fin.length ≤ 42 := by
      unfold CS.fin
      rw [List.length_append, hk.len]
      split
      · simp; lia
      · simp; lia
    walk_at "ex"
    have hfin : S.fin = S.rows ++ if S.pc = [] then [] else [16 * abv S.nm S.pc] := rfl
    by_cases h0 : S.pc = []
    · rw [if_neg (by rw [h0]; decide)]
      rw [show S.rows = S.fin from by rw [hfin, if_pos h0, List.append_nil]]
      walk_at "ex"
      refine ⟨hF.dv.f3.kp, ?_⟩
      refine callOk.picks (ps := [(rl, .list (vints S.fin))]) (by walk_at "picks") ?_
      refine opOk.monoE ((digits2int_ok hF.dv.f3 hF.dv.t2 hF.dv.q2 hF.dv.b2 (by decide) hrows (by lia) (by lia)).le (by decide)).call ?_
      walk_at "ex"
      exact ⟨μ, (List.sublist_append_right _ _).trans (List.sublist_append_right _ _), rfl, rfl⟩
    · rw [if_pos (show (S.pc != (Str.ofString "").cps.toList) = true from by rw [show (Str.ofString "").cps.toList = [] from rfl]; simpa using h0)]
      walk_at "ex"
      refine mget hF.hd (by walk_at "blk") ?_
      walk_at "ex"
      refine cget hF.hd (by walk_at "blk") hps.nm hb.ps (by decide) ?_
      rcases hk.pc with e0 | ⟨j, ej⟩
      · exact absurd e0 h0
      · obtain ⟨_, _, _, hj⟩ := idxL_some ej
        rw [hb.get, ej]
        show sem _ _ _ _ _ (.val (.str (numS j))) _ _
        walk_at "ex"
        have hn2 := numS_int j (by lia)
        refine call_intStr hn2.1 (Nat.le_trans hn2.2.1 (by decide)) ?_
        walk_at "ex"
        refine bin_mulR (by lia) ?_
        walk_at "ex"
        · rw [vints_snoc S.rows (16 * abv S.nm S.pc) _ (by rw [abv_some ej]; push_cast; rfl)]
          rw [show S.rows ++ [16 * abv S.nm S.pc] = S.fin from by rw [hfin, if_neg h0]]
          refine ⟨hF.dv.f3.kp, ?_⟩
          refine callOk.picks (ps := [(rl, .list (vints S.fin))]) (by walk_at "picks") ?_
          refine opOk.monoE ((digits2int_ok hF.dv.f3 hF.dv.t2 hF.dv.q2 hF.dv.b2 (by decide) hrows (by lia) (by lia)).le (by decide)).call ?_
          walk_at "ex"
          exact ⟨μ, (List.sublist_append_right _ _).trans (List.sublist_append_right _ _), rfl, rfl⟩
        · rw [sizeLine_eq]; simp [hk.len]; lia
theorem allT (P : Par) (μ : Led) (t : PackA) (aP : Addr) (cP : Value) (x : List Nat) : stmt P μ t aP cP x := skol (Q := fun (P : Par) (b : Led × PackA × Addr × Value × (List Nat)) => stmt P b.1 b.2.1 b.2.2.1 b.2.2.2.1 b.2.2.2.2) (by with_unfolding_all exact coreT) P (μ, t, aP, cP, x)
end X_pack_ok
section
variable {P : Par} {d : Nat} {μ : Led}
theorem pack_ok {t : PackA} {aP : Addr} {cP : Value} {x : List Nat} (hF : PackF P t) (f : FnIs P aP "_law_packed" (T1 20) cP .none .none) (hx : SgOk x) : fnOk P 35 μ (R aP) [.str x] [] (fun v μ' => v = .int (undig 10 (runC x).fin : Nat) ∧ μ' = μ) := X_pack_ok.allT P μ t aP cP x hF f hx
end

section
variable {P : Par} {d : Nat} {μ : Led}
/-! the stream of the packed number -/
noncomputable def stN (S : CS) (k : Nat) : Nat := undig 10 (S.fin.drop (past S.segs k))
noncomputable def rdyN (S : CS) (k : Nat) : List Nat := (S.segs.take (past S.segs k)).flatten.drop k
noncomputable def bkN (S : CS) (k : Nat) : Pairs := (S.nm.take (past S.segs k)).map fun q => (q, [])
theorem flat_split (segs : List (List Nat)) (p : Nat) : segs.flatten = (segs.take p).flatten ++ (segs.drop p).flatten := by rw [← List.flatten_append, List.take_append_drop]
structure DecNew (S : CS) (k r a j c : Nat) (s : List Nat) : Prop where
  row : RowAt S (past S.segs k) r a j
  fin : S.fin.drop (past S.segs k) = r :: S.fin.drop (past S.segs k + 1)
  seg : preN S.nm a ++ sgn j = c :: s
  pst : past S.segs (k + 1) = past S.segs k + 1
  rdy : rdyN S (k + 1) = s
  sign : S.segs.flatten[k]? = some c
theorem dec_new {t : List Nat} {S : CS} (hk : COk t S) {k : Nat} (h : k < S.segs.flatten.length) (h0 : rdyN S k = []) : ∃ r a j c s, DecNew S k r a j c s := by
  unfold rdyN at h0
  have e1 := past_end (Nat.le_of_lt h)
  have e2 : (S.segs.take (past S.segs k)).flatten.length ≤ k := List.drop_eq_nil_iff.mp h0
  have e3 : k = (S.segs.take (past S.segs k)).flatten.length := Nat.le_antisymm e1 e2
  obtain ⟨e4, e5⟩ := past_out hk.segsNe h e3
  have e6 : past S.segs k < S.fin.length := by rw [hk.finLen]; exact e5
  obtain ⟨a, j, hr⟩ := hk.rowAt (List.getElem?_eq_getElem e6)
  obtain ⟨c, s, hcs⟩ : ∃ c s, preN S.nm a ++ sgn j = c :: s := by
    have := hk.segsNe _ (List.mem_of_getElem? hr.seg)
    cases h1 : preN S.nm a ++ sgn j with
    | nil => exact absurd h1 this
    | cons c s => exact ⟨c, s, rfl⟩
  have hseg := hr.seg
  rw [hcs] at hseg
  refine ⟨S.fin[past S.segs k], a, j, c, s, hr, List.drop_eq_getElem_cons e6, hcs, e4, ?_, ?_⟩
  · unfold rdyN
    rw [e4, List.take_add_one, hseg, List.flatten_append]
    show List.drop (k + 1) (_ ++ [c :: s].flatten) = s
    have : (k + 1) = (S.segs.take (past S.segs k)).flatten.length + 1 := by rw [← e3]
    rw [this, List.drop_append]
    simp
  · rw [flat_split S.segs (past S.segs k), List.getElem?_append_right (Nat.le_of_eq e3.symm), ← e3, Nat.sub_self, List.drop_eq_getElem_cons e5]
    have : S.segs[past S.segs k] = c :: s := by
      rw [List.getElem?_eq_getElem e5] at hseg
      injection hseg
    rw [this]
    rfl
theorem dec_old {t : List Nat} {S : CS} (hk : COk t S) {k c : Nat} {s : List Nat} (h0 : rdyN S k = c :: s) : past S.segs (k + 1) = past S.segs k ∧ rdyN S (k + 1) = s ∧ S.segs.flatten[k]? = some c := by
  unfold rdyN at h0 ⊢
  obtain ⟨g1, g2, g3⟩ := getD_drop h0
  have e := past_in hk.segsNe g3
  refine ⟨e, by rw [e]; exact g2, ?_⟩
  rw [flat_split S.segs (past S.segs k), List.getElem?_append_left g3, ← List.head?_drop, h0]
  rfl
theorem dec_end {t : List Nat} {S : CS} (hk : COk t S) {k : Nat} (h : k = S.segs.flatten.length) : rdyN S k = [] ∧ S.fin.drop (past S.segs k) = [] := by
  subst h
  unfold rdyN
  rw [past_all hk.segsNe]
  exact ⟨by rw [List.take_length, List.drop_length], by rw [← hk.finLen, List.drop_length]⟩
theorem take_next {l : List Nat} {k c : Nat} (h : l[k]? = some c) : l.take (k + 1) = l.take k ++ [c] := by rw [List.take_add_one, h]; rfl
theorem drop_take1 {l : List Nat} {k c : Nat} (h : l[k]? = some c) : (l.drop k).take 1 = [c] := by
  obtain ⟨h1, h2⟩ := List.getElem?_eq_some_iff.mp h
  rw [List.drop_eq_getElem_cons h1, h2]; rfl
set_option genInjectivity false in
structure RA where
  rf : Addr
  cB : Addr
  cH : Addr
  cR : Addr
  cS : Addr
  cT : Addr
  yl : Addr
  sl : Addr
  hd : Addr
  h : HA
  doc : Value
  pm : Value
  cv : Value
  ctv : Value
noncomputable abbrev SD : Stmt := inner (T1 21) 5
noncomputable abbrev fdD (a : RA) : FuncData := kdv_fn (fnName SD) "_law_told.<locals>.read" (fnParams SD) (.stmts (fnBody SD)) (fnScope SD) [("state", a.cT), ("signs", a.cS), ("ready", a.cR), ("heard", a.cH), ("book", a.cB)] .none a.doc a.pm a.cv a.ctv
noncomputable abbrev lamL (th : HdrA) (a : RA) (st : Nat) (rdy hrd : List Nat) (bk : Pairs) : Led :=
  hL th a.h bk ++ [(a.yl, .list (chars rdy)), (a.hd, .list (chars hrd)), (a.sl, .list [.int (st : Int)]), (a.rf, .fn (fdD a) none), (a.cT, .cell (some (R a.sl))), (a.cS, .cell (some (.str sg))), (a.cR, .cell (some (R a.yl))), (a.cH, .cell (some (R a.hd))), (a.cB, .cell (some (R a.h.x)))]
noncomputable def lamN (th : HdrA) (a : RA) (S : CS) (k : Nat) : Led := lamL th a (stN S k) (rdyN S k) (S.segs.flatten.take k) (bkN S k)
theorem chars_app (a b : List Nat) : chars (a ++ b) = chars a ++ chars b := by unfold chars; rw [List.map_append]
theorem chars_one (c : Nat) : chars [c] = [V.str [c]] := rfl
structure ReadX (S : CS) : Prop where
  nm : S.nm.length ≤ 40
  all : S.segs.flatten.length ≤ 40
  sgs : ∀ q ∈ S.nm, ∀ c ∈ q, c ∈ sg
  fin : S.fin.length ≤ 41
theorem read_end {th : HdrA} {a : RA} {L : Addr} {st c : Nat} {s hrd : List Nat} {bk : Pairs} {o1 o2 o3 : Option V} {ρ : Led} (b2 : Bi P "len" (.builtin "len")) (hs : s.length ≤ 100) (hh : hrd.length ≤ 100) :
    exsOk P 31 (envX "_law_told.<locals>.read" (fnScope SD) L a.rf a.cv [("state", a.cT), ("signs", a.cS), ("ready", a.cR), ("heard", a.cH), ("book", a.cB)]) [("count", some (.int 1)), ("rest", o1), ("row", o2), ("piece", o3)]
      (ρ ++ lamL th a st (c :: s) hrd bk) ((fnBody SD).drop 1) (fun f _ μ' => ∃ μ2, μ2.Sublist μ' ∧ retV f = .str [c] ∧ μ2 = lamL th a st s (hrd ++ [c]) bk) := by
  have hG := GOk.b b2 GOk.nil
  walk_at "ex"
  · rw [if_neg (by simp [chars]; lia)]
    walk_at "ex"
    refine sub_list (v := .str [c]) (by walk_at "mem") (by decide) (by decide) rfl ?_ (fun _ => rfl)
    walk_at "ex"
    · show callOk _ _ (ρ ++ (hL th a.h bk ++ ((a.yl, .list (.str [c] :: chars s)) :: _))) _ _ _ _
      walk_at "ex"
      · refine ⟨lamL th a st s (hrd ++ [c]) bk, ?_, rfl, rfl⟩
        unfold lamL
        rw [chars_app, chars_one]
        exact List.sublist_append_right _ _
      · rw [sizeLine_eq]; simp [chars]; lia
    · rw [sizeLine_eq]; simp [chars]; lia
  · rw [sizeLine_eq]; simp [chars]; lia
end

section
variable {P : Par} {d : Nat} {μ : Led}
theorem len_le_flat {q : List Nat} : ∀ {segs : List (List Nat)}, q ∈ segs → q.length ≤ segs.flatten.length
  | a :: r, h => by
    rw [List.flatten_cons, List.length_append]
    rcases List.mem_cons.mp h with h | h
    · rw [h]; exact Nat.le_add_right _ _
    · exact Nat.le_trans (len_le_flat h) (Nat.le_add_left _ _)
inductive RdR (th : HdrA) (a : RA) (st c : Nat) (s hrd : List Nat) (bk : Pairs) : Loc → Led → Prop
  | mk (o1 o2 o3 : Option V) (ρ : Led) : RdR th a st c s hrd bk [("count", some (.int 1)), ("rest", o1), ("row", o2), ("piece", o3)] (ρ ++ lamL th a st (c :: s) hrd bk)
theorem sg_lt {c : Nat} (h : c ∈ sg) : c < 128 := Nat.lt_of_lt_of_le (sg_pr c h).2 (by decide)
theorem preN_sg {S : CS} (hx : ReadX S) (a : Nat) : ∀ c ∈ preN S.nm a, c ∈ sg := by
  intro c hc
  unfold preN at hc
  split at hc
  · cases hc
  · rw [List.getD_eq_getElem?_getD] at hc
    cases e : S.nm[a - 1]? with
    | none => rw [e] at hc; cases hc
    | some q => rw [e] at hc; exact hx.sgs q (List.mem_of_getElem? e) c hc
theorem undig_bound {l : List Nat} (h : ∀ r ∈ l, r < 2 ^ 10) (hl : l.length ≤ 41) : undig 10 l < 2 ^ 410 := Nat.lt_of_lt_of_le (undig_lt h) (Nat.pow_le_pow_right (by decide) (by lia))
structure FinOk (S : CS) : Prop where
  lt : ∀ r ∈ S.fin, r < 2 ^ 10
theorem COk.finLt {t : List Nat} {S : CS} (hk : COk t S) (hx : ReadX S) : ∀ r ∈ S.fin, r < 2 ^ 10 := by
  intro r hr
  obtain ⟨p, hp⟩ := List.getElem?_of_mem hr
  obtain ⟨a, j, ra⟩ := hk.rowAt hp
  have h1 := ra.hr
  have h2 := ra.hj
  have h3 := ra.ha
  have h4 := hx.nm
  lia
theorem bk_next {S : CS} {k r a j c : Nat} {s : List Nat} (h : DecNew S k r a j c s) : bkN S (k + 1) = if j = 0 then bkN S k else bkN S k ++ [(preN S.nm a ++ sgn j, [])] := by
  unfold bkN
  rw [h.pst, h.row.nm]
  split
  · rfl
  · rw [List.map_append]; rfl
theorem keys_bk {S : CS} {k : Nat} : keysV (bkN S k) = (S.nm.take (past S.segs k)).map V.str := by unfold bkN keysV; rw [List.map_map]; rfl
theorem key_at {S : CS} {p a : Nat} (h0 : a ≠ 0) (h1 : a ≤ p) (h2 : a ≤ S.nm.length) : ((S.nm.take p).map V.str)[a - 1]? = some (V.str (preN S.nm a)) := by
  rw [List.getElem?_map, List.getElem?_take_of_lt (Nat.lt_of_lt_of_le (Nat.sub_lt (Nat.pos_of_ne_zero h0) (by decide)) h1)]
  unfold preN
  rw [if_neg h0, List.getD_eq_getElem?_getD, List.getElem?_eq_getElem (Nat.lt_of_lt_of_le (Nat.sub_lt (Nat.pos_of_ne_zero h0) (by decide)) h2)]
  rfl
theorem pslen {S : CS} (hx : ReadX S) (k : Nat) : (bkN S k).length ≤ 40 := by unfold bkN; rw [List.length_map, List.length_take]; exact Nat.le_trans (Nat.min_le_right _ _) hx.nm
noncomputable def ifBody : Stmt → List Stmt | .If _ b _ _ => b | _ => []
noncomputable abbrev envD (a : RA) (L : Addr) : Env := envX "_law_told.<locals>.read" (fnScope SD) L a.rf a.cv [("state", a.cT), ("signs", a.cS), ("ready", a.cR), ("heard", a.cH), ("book", a.cB)]
theorem read_ext {th : HdrA} {a : RA} {L : Addr} {st c : Nat} {s hrd : List Nat} {bk : Pairs} {o1 o2 : Option V} {ρ : Led} (b1 : Bi P "list" (.type "list")) (hl : (c :: s).length ≤ 40) :
    exsOk P 31 (envD a L) [("count", some (.int 1)), ("rest", o1), ("row", o2), ("piece", some (.str (c :: s)))] (ρ ++ lamL th a st [] hrd bk) ((ifBody (inner SD 0)).drop 5)
      (fun f σ' μ' => f = .next ∧ RdR th a st c s hrd bk σ' μ') := by
  have hG := GOk.b b1 GOk.nil
  walk_at "ex"
  refine call_listStr (by rw [sizeLine_eq]; exact Nat.le_trans hl (by decide)) fun D => ?_
  walk_at "ex"
  refine call_extend (xs := chars []) (ys := chars (c :: s)) (by walk_at "mem") (by walk_at "upd") (by rw [sizeLine_eq]; simp [chars] at hl ⊢; lia) ?_
  walk_at "ex"
  refine ⟨rfl, ?_⟩
  exact .mk _ _ _ ((D, .list (chars (c :: s))) :: ρ)
theorem read_sgn {th : HdrA} {a : RA} {aAdd : Addr} {cA : Value} {L : Addr} {st r pa j c : Nat} {s hrd pc : List Nat} {bk : Pairs} {o1 : Option V} {ρ : Led} (b1 : Bi P "list" (.type "list")) (hH : HdrF P th) (hX : HdrX P th aAdd cA) (hl : (c :: s).length ≤ 40) (hrj : r = 16 * pa + j) (hj : j ≤ 8)
    (hp : pc ++ sgn j = c :: s) (hsg : ∀ e ∈ pc, e ∈ sg) (hbl : bk.length ≤ 40) :
    exsOk P 31 (envD a L) [("count", some (.int 1)), ("rest", o1), ("row", some (.int r)), ("piece", some (.str pc))] (ρ ++ lamL th a st [] hrd bk) ((ifBody (inner SD 0)).drop 4)
      (fun f σ' μ' => f = .next ∧ RdR th a st c s hrd (if j = 0 then bk else bk ++ [(pc ++ sgn j, [])]) σ' μ') := by
  have hG := GOk.b b1 GOk.nil
  have hrm : (r : Int).fmod 16 = ((j : Nat) : Int) := by rw [show (r : Int).fmod 16 = ((r % 16 : Nat) : Int) from (Int.ofNat_fmod r 16).symm, hrj, Nat.mul_add_mod, Nat.mod_eq_of_lt (Nat.lt_of_le_of_lt hj (by decide))]
  by_cases h0 : j = 0
  · rw [if_pos h0]
    walk_at "ex"
    refine bin_fmod (by decide) ?_
    rw [hrm]
    walk_at "ex"
    rw [if_neg (by rw [h0]; decide)]
    have : pc = c :: s := by rw [← hp, h0]; unfold sgn; rw [if_pos rfl, List.append_nil]
    subst this
    exact exsOk.nil (exsOk.unhide (by assumption) (read_ext b1 hl))
  · rw [if_neg h0, hp]
    walk_at "ex"
    refine bin_fmod (by decide) ?_
    rw [hrm]
    walk_at "ex"
    rw [if_pos (decide_eq_true (Int.natCast_pos.mpr (Nat.pos_of_ne_zero h0)))]
    walk_at "ex"
    refine bin_fmod (by decide) ?_
    rw [hrm]
    walk_at "ex"
    have hsj : sgn j = [sg.getD (j - 1) 0] := by unfold sgn; rw [if_neg h0]
    have hj7 : j - 1 < 8 := Nat.lt_of_lt_of_le (Nat.sub_lt (Nat.pos_of_ne_zero h0) (by decide)) hj
    have hcast : (j : Int) - 1 = ((j - 1 : Nat) : Int) := by rw [Int.natCast_sub (Nat.pos_of_ne_zero h0)]; rfl
    rw [hcast]
    refine sub_str (c := sg.getD (j - 1) 0) (Int.natCast_nonneg _) (by lia) (by rw [Int.toNat_natCast]; exact getD_at (l := sg) hj7) ?_ (fun _ _ => rfl)
    walk_at "ex"
    have hpl : pc.length ≤ 40 := by have := congrArg List.length hp; rw [List.length_append] at this; exact Nat.le_trans (Nat.le_add_right _ _) (this ▸ hl)
    refine cat (Nat.le_trans hpl (by decide)) (show 1 ≤ 1000000 from by decide) ?_
    rw [← hsj, hp]
    walk_at "ex"
    refine madd hH hX (by walk_at "blk") ?_
    walk_at "ex"
    have hnm : SgOk (c :: s) := ⟨fun e he => by
      rw [← hp] at he
      rcases List.mem_append.mp he with h1 | h1
      · exact hsg e h1
      · rw [hsj] at h1; rw [List.mem_singleton.mp h1]; exact List.mem_of_getElem? (getD_at (l := sg) hj7), hl⟩
    refine cadd hH hX (by walk_at "blk") hnm.nm (show NmOk [] from ⟨fun e he => absurd he List.not_mem_nil, Nat.zero_le _⟩) (Nat.le_trans hbl (by decide)) (by decide) ?_
    exact exsOk.nil (exsOk.unhide (by assumption) (read_ext b1 hl))
end
namespace X_read_if
noncomputable def stmt (P : Par) (th : HdrA) (td : DivA) (aAdd : Addr) (cA : Value) (a : RA) (L : Addr) (S : CS) (t : List Nat) (k : Nat) (c : Nat) (s : List Nat) : Prop := ∀ (hD : DivF P td), ∀ (hH : HdrF P th), ∀ (hX : HdrX P th aAdd cA), ∀ (b1 : Bi P "list" (.type "list")), ∀ (hk : COk t S), ∀ (hx : ReadX S), ∀ (hkl : k < S.segs.flatten.length), ∀ (hr : rdyN S (k + 1) = s), ∀ (hc : S.segs.flatten[k]? = some c), exOk P 31 (envX "_law_told.<locals>.read" (fnScope SD) L a.rf a.cv [("state", a.cT), ("signs", a.cS), ("ready", a.cR), ("heard", a.cH), ("book", a.cB)]) [("count", some (.int 1)), ("rest", none), ("row", none), ("piece", none)]
      (lamN th a S k) (inner SD 0) (fun f σ' μ' => f = .next ∧ RdR th a (stN S (k + 1)) c s (S.segs.flatten.take k) (bkN S (k + 1)) σ' μ')
noncomputable def pck : HdrA × DivA × Addr × Value × RA × Addr × CS × (List Nat) × Nat × Nat × (List Nat) := @Classical.epsilon (HdrA × DivA × Addr × Value × RA × Addr × CS × (List Nat) × Nat × Nat × (List Nat)) ⟨((⟨0, 0, 0, 0, 0, 0, 0, #[], #[], .none, .none, .none, .none, .none, .none⟩ : HdrA), (⟨0, 0, 0, 0, 0, 0, 0, 0, 0, .none, .none, .none⟩ : DivA), (0 : Addr), (.none : Value), (⟨0, 0, 0, 0, 0, 0, 0, 0, 0, ⟨0, 0, 0⟩, .none, .none, .none, .none⟩ : RA), (0 : Addr), (⟨[], [], []⟩ : CS), ([] : List Nat), (0 : Nat), (0 : Nat), ([] : List Nat))⟩ fun b => ∃ P, ¬ stmt P b.1 b.2.1 b.2.2.1 b.2.2.2.1 b.2.2.2.2.1 b.2.2.2.2.2.1 b.2.2.2.2.2.2.1 b.2.2.2.2.2.2.2.1 b.2.2.2.2.2.2.2.2.1 b.2.2.2.2.2.2.2.2.2.1 b.2.2.2.2.2.2.2.2.2.2
@[irreducible] noncomputable def th : HdrA := pck.1
@[irreducible] noncomputable def td : DivA := pck.2.1
@[irreducible] noncomputable def aAdd : Addr := pck.2.2.1
@[irreducible] noncomputable def cA : Value := pck.2.2.2.1
@[irreducible] noncomputable def a : RA := pck.2.2.2.2.1
@[irreducible] noncomputable def L : Addr := pck.2.2.2.2.2.1
@[irreducible] noncomputable def S : CS := pck.2.2.2.2.2.2.1
@[irreducible] noncomputable def t : List Nat := pck.2.2.2.2.2.2.2.1
@[irreducible] noncomputable def k : Nat := pck.2.2.2.2.2.2.2.2.1
@[irreducible] noncomputable def c : Nat := pck.2.2.2.2.2.2.2.2.2.1
@[irreducible] noncomputable def s : List Nat := pck.2.2.2.2.2.2.2.2.2.2
set_option maxHeartbeats 4000000 in
theorem coreT (P : Par) : stmt P th td aAdd cA a L S t k c s := by
  intro hD hH hX b1 hk hx hkl hr hc
  have hG := GOk.b b1 (GOk.b hD.b2 (GOk.g hD.g5 GOk.nil))
  have hall := hx.all
  unfold lamN
  cases h0 : rdyN S k with
  | cons c' s' =>
    obtain ⟨e1, e2, e3⟩ := dec_old hk h0
    rw [e3] at hc
    injection hc with hc
    rw [e2] at hr
    subst hc; subst hr
    have hlen : s.length ≤ 40 := by
      have := congrArg List.length h0
      unfold rdyN at this
      rw [List.length_drop, List.length_cons] at this
      have h2 : (S.segs.take (past S.segs k)).flatten.length ≤ S.segs.flatten.length := by rw [flat_split S.segs (past S.segs k), List.length_append]; exact Nat.le_add_right _ _
      lia
    walk_at "ex"
    · rw [if_neg (by simp [chars]; lia)]
      walk_at "ex"
      rw [if_neg (by decide)]
      walk_at "ex"
      refine ⟨rfl, ?_⟩
      have e4 : stN S (k + 1) = stN S k := by unfold stN; rw [e1]
      have e5 : bkN S (k + 1) = bkN S k := by unfold bkN; rw [e1]
      rw [e4, e5]
      exact .mk _ _ _ []
    · rw [sizeLine_eq]; simp [chars]; lia
  | nil =>
    obtain ⟨r, pa, j, c', s', hd⟩ := dec_new hk hkl h0
    have hc2 := hd.sign
    rw [hc2] at hc
    injection hc with hc
    have hr2 := hd.rdy
    rw [hr2] at hr
    subst hc; subst hr
    have hst : stN S k = r + 2 ^ 10 * stN S (k + 1) := by unfold stN; rw [hd.fin, hd.pst]; rfl
    have hfl := hx.fin
    have hstB : stN S k < 2 ^ 410 := undig_bound (fun e he => hk.finLt hx e (List.mem_of_mem_drop he)) (by rw [List.length_drop]; lia)
    have hrl : r < 2 ^ 10 := hk.finLt hx r (by have : r ∈ S.fin.drop (past S.segs k) := by rw [hd.fin]; exact List.mem_cons_self
                                               exact List.mem_of_mem_drop this)
    have hpos := hd.row.pos
    have hdiv : (stN S k : Int).fdiv ((1024 : Nat) : Int) = ((stN S (k + 1) : Nat) : Int) := by rw [← Int.ofNat_fdiv, hst, Nat.add_mul_div_left _ _ (by decide), Nat.div_eq_of_lt hrl, Nat.zero_add]
    have hmod : (stN S k : Int).fmod ((1024 : Nat) : Int) = ((r : Nat) : Int) := by rw [← Int.ofNat_fmod, hst, Nat.add_mul_mod_self_left, Nat.mod_eq_of_lt hrl]
    have hbk := bk_next hd
    have hrw := hd.row
    have hseg := hd.seg
    have hpl := pslen hx k
    have hpsg := preN_sg hx pa
    have hsegl : (c :: s).length ≤ 40 := by
      have h1 := hd.row.seg
      rw [hseg] at h1
      exact Nat.le_trans (len_le_flat (List.mem_of_getElem? h1)) hall
    walk_at "ex"
    · rw [if_pos (by rfl)]
      walk_at "ex"
      refine sub_list (v := .int (stN S k : Int)) (by walk_at "mem") (by decide) (by decide) rfl ?_ (fun _ => rfl)
      walk_at "ex"
      rw [if_pos (by rw [decide_eq_true_eq, hst]; lia)]
      walk_at "ex"
      rw [if_pos rfl]
      walk_at "ex"
      refine sub_list (v := .int (stN S k : Int)) (by walk_at "mem") (by decide) (by decide) rfl ?_ (fun _ => rfl)
      walk_at "ex"
      refine ⟨hD.f5.kp, opOk.monoE ((intDivmod_ok (y := 1024) hD (by decide) (by decide) (by rw [Int.natAbs_natCast]; exact Nat.lt_of_lt_of_le hstB (Nat.pow_le_pow_right (by decide) (by decide)))).le (by decide)).call ?_⟩
      rw [hdiv, hmod]
      walk_at "ex"
      refine set_list (xs := [.int (stN S k : Int)]) (by walk_at "upd") (by decide) (show (0 : Int) < ((1 : Nat) : Int) from by decide) (by decide) ?_
      walk_at "ex"
      have hr16 : (16 : Int) ≤ (r : Int) ↔ pa ≠ 0 := by have := hrw.hr; have := hrw.hj; lia
      by_cases hpa : pa = 0
      · rw [if_neg (by rw [decide_eq_true_eq, hr16]; exact fun q => q hpa)]
        have hp0 : preN S.nm pa = [] := by unfold preN; rw [if_pos hpa]
        have hfin := read_sgn (P := P) (a := a) (L := L) (st := stN S (k + 1)) (o1 := some (.int (stN S (k + 1) : Int))) (ρ := []) (hrd := S.segs.flatten.take k) b1 hH hX hsegl hrw.hr hrw.hj hseg hpsg hpl
        rw [← hbk, hp0] at hfin
        exact exsOk.nil hfin
      · rw [if_pos (by rw [decide_eq_true_eq, hr16]; exact hpa)]
        walk_at "ex"
        refine mkeys hH (by walk_at "blk") ?_
        walk_at "ex"
        refine ckeys hH (by walk_at "blk") (Nat.le_trans hpl (by decide)) (by decide) fun D => ?_
        walk_at "ex"
        refine bin_fdiv (by decide) (by decide) ?_
        have hrd : (r : Int).fdiv 16 = ((pa : Nat) : Int) := by rw [show (r : Int).fdiv 16 = ((r / 16 : Nat) : Int) from (Int.ofNat_fdiv r 16).symm, hrw.hr, Nat.mul_add_div (by decide), Nat.div_eq_of_lt (Nat.lt_of_le_of_lt hrw.hj (by decide)), Nat.add_zero]
        rw [hrd]
        walk_at "ex"
        rw [show (pa : Int) - 1 = ((pa - 1 : Nat) : Int) from by rw [Int.natCast_sub (Nat.pos_of_ne_zero hpa)]; rfl]
        have hpa40 : pa ≤ 40 := Nat.le_trans hrw.ha hx.nm
        refine sub_list (v := .str (preN S.nm pa)) (by walk_at "mem") (Int.natCast_nonneg _) (by lia) (by rw [Int.toNat_natCast, keys_bk]; exact key_at hpa hrw.ap hrw.ha) ?_ (fun _ => rfl)
        have hfin := read_sgn (P := P) (a := a) (L := L) (st := stN S (k + 1)) (o1 := some (.int (stN S (k + 1) : Int))) (ρ := [(D, .list (keysV (bkN S k)))]) (hrd := S.segs.flatten.take k) b1 hH hX hsegl hrw.hr hrw.hj hseg hpsg hpl
        rw [← hbk] at hfin
        exact asOk.name (by walk_at "sto") (exsOk.nil hfin) rfl rfl
    · rw [sizeLine_eq]; decide
theorem allT (P : Par) (th : HdrA) (td : DivA) (aAdd : Addr) (cA : Value) (a : RA) (L : Addr) (S : CS) (t : List Nat) (k : Nat) (c : Nat) (s : List Nat) : stmt P th td aAdd cA a L S t k c s := skol (Q := fun (P : Par) (b : HdrA × DivA × Addr × Value × RA × Addr × CS × (List Nat) × Nat × Nat × (List Nat)) => stmt P b.1 b.2.1 b.2.2.1 b.2.2.2.1 b.2.2.2.2.1 b.2.2.2.2.2.1 b.2.2.2.2.2.2.1 b.2.2.2.2.2.2.2.1 b.2.2.2.2.2.2.2.2.1 b.2.2.2.2.2.2.2.2.2.1 b.2.2.2.2.2.2.2.2.2.2) (by with_unfolding_all exact coreT) P (th, td, aAdd, cA, a, L, S, t, k, c, s)
end X_read_if
section
variable {P : Par} {d : Nat} {μ : Led}
theorem read_if {th : HdrA} {td : DivA} {aAdd : Addr} {cA : Value} {a : RA} {L : Addr} {S : CS} {t : List Nat} {k c : Nat} {s : List Nat} (hD : DivF P td) (hH : HdrF P th) (hX : HdrX P th aAdd cA) (b1 : Bi P "list" (.type "list")) (hk : COk t S) (hx : ReadX S) (hkl : k < S.segs.flatten.length)
    (hr : rdyN S (k + 1) = s) (hc : S.segs.flatten[k]? = some c) : exOk P 31 (envX "_law_told.<locals>.read" (fnScope SD) L a.rf a.cv [("state", a.cT), ("signs", a.cS), ("ready", a.cR), ("heard", a.cH), ("book", a.cB)]) [("count", some (.int 1)), ("rest", none), ("row", none), ("piece", none)]
      (lamN th a S k) (inner SD 0) (fun f σ' μ' => f = .next ∧ RdR th a (stN S (k + 1)) c s (S.segs.flatten.take k) (bkN S (k + 1)) σ' μ') := X_read_if.allT P th td aAdd cA a L S t k c s hD hH hX b1 hk hx hkl hr hc
theorem rdy_len {S : CS} (hx : ReadX S) (k : Nat) : (rdyN S k).length ≤ 40 := by
  unfold rdyN
  rw [List.length_drop]
  have h2 : (S.segs.take (past S.segs k)).flatten.length ≤ S.segs.flatten.length := by rw [flat_split S.segs (past S.segs k), List.length_append]; exact Nat.le_add_right _ _
  exact Nat.le_trans (Nat.sub_le _ _) (Nat.le_trans h2 hx.all)
theorem read2_ok {th : HdrA} {td : DivA} {aAdd : Addr} {cA : Value} {a : RA} {S : CS} {t : List Nat} {k : Nat} (hD : DivF P td) (hH : HdrF P th) (hX : HdrX P th aAdd cA) (b1 : Bi P "list" (.type "list")) (hk : COk t S) (hx : ReadX S) (hkl : k ≤ S.segs.flatten.length) :
    fnOk P 32 (lamN th a S k) (.raw (.ref a.rf)) [.int 1] [] (fun v μ' => v = .str ((S.segs.flatten.drop k).take 1) ∧ μ' = lamN th a S (min (k + 1) S.segs.flatten.length)) := by
  have hG := GOk.b hD.b2 GOk.nil
  refine fnOk.drop ?_
  refine fnOk.led (d := 31) (binds := [("count", .int 1)]) (σ₀ := [("count", some (.int 1)), ("rest", none), ("row", none), ("piece", none)]) (show (a.rf, AObj.fn (fdD a) none) ∈ lamN th a S k by unfold lamN; walk_at "mem") (bind1 fun _ => rfl) rfl rfl rfl rfl rfl rfl rfl fun L => ?_
  by_cases he : k = S.segs.flatten.length
  · obtain ⟨e1, e2⟩ := dec_end hk he
    have hst : stN S k = 0 := by unfold stN; rw [e2]; rfl
    rw [show min (k + 1) S.segs.flatten.length = k from by rw [he]; exact Nat.min_eq_right (Nat.le_succ _), show (S.segs.flatten.drop k).take 1 = [] from by rw [he, List.drop_length]; rfl]
    unfold lamN
    rw [e1, hst]
    walk_at "ex"
    · rw [if_pos (by rfl)]
      walk_at "ex"
      refine sub_list (v := .int 0) (by walk_at "mem") (by decide) (by decide) rfl ?_ (fun _ => rfl)
      walk_at "ex"
      rw [if_neg (by decide)]
      walk_at "ex"
      rw [if_neg (by decide)]
      walk_at "ex"
      · rw [if_pos (by rfl)]
        walk_at "ex"
        exact ⟨_, List.Sublist.refl _, rfl, rfl⟩
      · rw [sizeLine_eq]; decide
    · rw [sizeLine_eq]; decide
  · have hlt : k < S.segs.flatten.length := Nat.lt_of_le_of_ne hkl he
    have hc : S.segs.flatten[k]? = some (S.segs.flatten[k]) := List.getElem?_eq_getElem hlt
    generalize S.segs.flatten[k] = c at hc
    rw [Nat.min_eq_left (show k + 1 ≤ S.segs.flatten.length from hlt), drop_take1 hc]
    refine exsOk.cut (R := RdR th a (stN S (k + 1)) c (rdyN S (k + 1)) (S.segs.flatten.take k) (bkN S (k + 1))) (read_if hD hH hX b1 hk hx hlt rfl hc) ?_
    rintro σ1 μ1 ⟨o1, o2, o3, ρ⟩
    refine exsOk.mono (read_end hD.b2 (Nat.le_trans (rdy_len hx (k + 1)) (by decide)) (by rw [List.length_take]; exact Nat.le_trans (Nat.min_le_right _ _) (Nat.le_trans hx.all (by decide)))) fun f σ μ' h => ?_
    obtain ⟨μ2, h1, h2, h3⟩ := h
    refine ⟨μ2, h1, h2, ?_⟩
    rw [h3, ← take_next hc]
    rfl
end

section
variable {P : Par} {d : Nat} {μ : Led}
inductive PickB : Led → Led → Led → Prop
  | head {B ρ : Led} : PickB B (B ++ ρ) ρ
  | one {p : Addr × AObj} {ρ : Led} : PickB [p] (p :: ρ) ρ
  | app {B C ρ ρ' : Led} : PickB B ρ ρ' → PickB B (C ++ ρ) (C ++ ρ')
  | cons {B : Led} {p : Addr × AObj} {ρ ρ' : Led} : PickB B ρ ρ' → PickB B (p :: ρ) (p :: ρ')
theorem PickB.perm : ∀ {B μ μ' : Led}, PickB B μ μ' → μ.Perm (B ++ μ')
  | _, _, _, .head => List.Perm.refl _
  | _, _, _, .one => List.Perm.refl _
  | _, _, _, .app u => perm_mid u.perm
  | _, _, _, .cons (p := p) u => perm_mid (C := [p]) u.perm
theorem permB {B s ρ t : Led} (h : PickB B s ρ) (h2 : ρ.Perm t) : s.Perm (B ++ t) := h.perm.trans (h2.append_left _)
theorem permP {p : Addr × AObj} {s ρ t : Led} (h : PickB [p] s ρ) (h2 : ρ.Perm t) : s.Perm (p :: t) := h.perm.trans (h2.cons _)
/-! what the lexer reads off the packed number -/
noncomputable def lamPos : Stmt → Pos | .Assign _ (.Lambda _ _ _ p) _ => p | _ => default
noncomputable abbrev SqT := List (List Nat × Nat)
set_option genInjectivity false in
structure LxA where
  y : Addr
  dl : Addr
  pb : Addr
  st : Addr
  sdd : Addr
  fdS : FuncData
noncomputable abbrev canL (tlx : LexA) (th : HdrA) (a : RA) (x : LxA) (ln : Int) (st : Nat) (rdy hrd : List Nat) (bk : Pairs) (ρ : Led) : Led :=
  (x.st, .fn x.fdS (some x.sdd)) :: (x.sdd, .dict [("read", some (R a.rf))]) :: (x.y, .inst tlx.C x.dl) :: (x.dl, .dict [("lineno", some (.int ln)), ("instream", some (R x.st)), ("whitespace", some (.str wsL)), ("pushback", some (R x.pb))]) :: (x.pb, .list []) ::
    (hL th a.h bk ++ ((a.yl, .list (chars rdy)) :: (a.hd, .list (chars hrd)) :: (a.sl, .list [.int (st : Int)]) :: (a.rf, .fn (fdD a) none) :: (a.cT, .cell (some (R a.sl))) :: (a.cS, .cell (some (.str sg))) :: (a.cR, .cell (some (R a.yl))) :: (a.cH, .cell (some (R a.hd))) :: (a.cB, .cell (some (R a.h.x))) :: ρ))
noncomputable abbrev canK (tlx : LexA) (th : HdrA) (a : RA) (x : LxA) (S : CS) (ln : Int) (k : Nat) (ρ : Led) : Led := canL tlx th a x ln (stN S k) (rdyN S k) (S.segs.flatten.take k) (bkN S k) ρ
theorem can_eq {tlx : LexA} {th : HdrA} {a : RA} {x : LxA} {S : CS} {ln : Int} {k : Nat} {ρ : Led} :
    canK tlx th a x S ln k ρ = (ledF tlx x.y x.dl x.pb x.st x.sdd a.rf x.fdS ln wsL [] ++ lamN th a S k) ++ ρ := by
  unfold lamN
  simp only [List.cons_append, List.nil_append, List.append_assoc]
  rfl
theorem wsOkL : WsOk wsL := ⟨by decide +kernel, by decide⟩
structure RdF (P : Par) (tlx : LexA) (th : HdrA) (td : DivA) (aAdd : Addr) (cA : Value) : Prop where
  dv : DivF P td
  hd : HdrF P th
  hx : HdrX P th aAdd cA
  lx : LexF P tlx
  b1 : Bi P "list" (.type "list")
theorem rd2 {tlx : LexA} {th : HdrA} {td : DivA} {aAdd : Addr} {cA : Value} {a : RA} {S : CS} {t : List Nat} (hF : RdF P tlx th td aAdd cA) (hk : COk t S) (hx : ReadX S) (hs : ∀ c ∈ S.segs.flatten, c < 128) : Rd P 32 a.rf S.segs.flatten (lamN th a S) where
  read := fun k h => read2_ok hF.dv hF.hd hF.hx hF.b1 hk hx h
  fn := ⟨_, fun k => List.mem_append_right _ (by walk_at "mem")⟩
  len := Nat.le_trans hx.all (by decide)
  asc := hs
theorem drop_inj {l : List Nat} {i j : Nat} (hi : i ≤ l.length) (hj : j ≤ l.length) (h : l.drop i = l.drop j) : i = j := by
  have := congrArg List.length h
  rw [List.length_drop, List.length_drop] at this
  lia
theorem ctok2 {tlx : LexA} {th : HdrA} {td : DivA} {aAdd : Addr} {cA : Value} {a : RA} {x : LxA} {S : CS} {t : List Nat} {ln : Int} {k k' : Nat} {w : List Nat} {ρ : Led} {Q : V → Led → Prop} (hF : RdF P tlx th td aAdd cA) (hk : COk t S) (hx : ReadX S) (hs : ∀ c ∈ S.segs.flatten, c < 128)
    (hp : μ.Perm (canK tlx th a x S ln k ρ)) (hkl : k ≤ S.segs.flatten.length) (hkl' : k' ≤ S.segs.flatten.length) (hw : tok wsL (S.segs.flatten.drop k) = (w, S.segs.flatten.drop k')) (hd : 35 ≤ d)
    (h : ∀ ln', Q (.str w) (canK tlx th a x S ln' k' ρ)) : Keep P μ (R tlx.aTok) ∧ callOk P d μ (R tlx.aTok) [R x.y] [] Q := by
  refine ⟨hF.lx.f3.kp, opOk.frame (by rw [can_eq] at hp; exact hp) (((getTok_ok hF.lx (rd2 hF hk hx hs) wsOkL hkl).le hd).call.mono ?_)⟩
  rintro v _ ⟨rfl, k1, ln', _, h1, e, rfl⟩
  rw [hw] at e ⊢
  have e2 := drop_inj h1 hkl' e.symm
  subst e2
  have := h ln'
  rw [can_eq] at this
  exact this
noncomputable def wordD (S : CS) (q : List Nat × Nat) : DV := .tup [.str q.1, .int (stN S q.2 : Int), .list ((bkN S q.2).map fun p => .str p.1)]
inductive TdI (tlx : LexA) (th : HdrA) (a : RA) (x : LxA) (S : CS) (n : Int) (rd stream tl : Addr) (seq : SqT) (m : Nat) (μ : Led) : Nat → Loc → Led → Prop
  | live (don : SqT) (w : List Nat) (k : Nat) (r : SqT) (ln : Int) (vs : List V) (J : Led) (h1 : don ++ (w, k) :: r = seq) (h2 : w ≠ []) (h3 : k ≤ S.segs.flatten.length) (h4 : Reads S.segs.flatten k r m) (h5 : DeepL J 3 (don.map (wordD S)) vs) (h6 : vs.length = don.length) :
      TdI tlx th a x S n rd stream tl seq m μ (r.length + 1) [("number", some (.int n)), ("read", some (R rd)), ("stream", some (R stream)), ("lexer", some (R x.y)), ("told", some (R tl)), ("word", some (.str w))] (canK tlx th a x S ln k (J ++ ((tl, .list vs) :: μ)))
  | ended (ln : Int) (vs : List V) (J : Led) (h5 : DeepL J 3 (seq.map (wordD S)) vs) (h6 : vs.length = seq.length) :
      TdI tlx th a x S n rd stream tl seq m μ 0 [("number", some (.int n)), ("read", some (R rd)), ("stream", some (R stream)), ("lexer", some (R x.y)), ("told", some (R tl)), ("word", some (.str []))] (canK tlx th a x S ln S.segs.flatten.length (J ++ ((tl, .list vs) :: μ)))
theorem can_perm {tlx : LexA} {th : HdrA} {a : RA} {x : LxA} {S : CS} {ln : Int} {k : Nat} {ρ : Led} {p : Addr × AObj} : (p :: canK tlx th a x S ln k ρ).Perm (canK tlx th a x S ln k (p :: ρ)) := by
  rw [can_eq, can_eq]
  exact List.perm_middle.symm
theorem can_sub {tlx : LexA} {th : HdrA} {a : RA} {x : LxA} {S : CS} {ln : Int} {k : Nat} {ρ : Led} : ρ.Sublist (canK tlx th a x S ln k ρ) := by
  rw [can_eq]
  exact List.sublist_append_right _ _
theorem DeepL.strsP {n : Nat} {ps : Pairs} : DeepL μ n (ps.map fun p => .str p.1) (keysV ps) := by
  have := DeepL.strs (μ := μ) (n := n) (l := ps.map (·.1))
  rw [List.map_map, List.map_map] at this
  exact this
theorem join_chars {l : Addr} {w : List Nat} {Q : V → Led → Prop} (hm : (l, AObj.list (chars w)) ∈ μ) (hw : w.length ≤ 1000) (h : Q (.str w) μ) : callOk P d μ (B "str.join") [.str [], R l] [] Q := by
  refine join_signs (w := w) (by rw [List.map_map]; exact hm) hw h
structure ToF (P : Par) (a c p : Addr) : Prop where
  f : FnIs P a "_law_told" (T1 21) (.ref c) .none .none
  t : (c, p) ∈ P.tabs
  q1 : P.qualAt (fnPos SD).line (fnPos SD).col = "_law_told.<locals>.read"
  q2 : P.qualAt (lamPos (inner (T1 21) 6)).line (lamPos (inner (T1 21) 6)).col = "_law_told.<locals>." ++ "<lambda>"
theorem bkN_len {S : CS} (hx : ReadX S) (k : Nat) : (bkN S k).length ≤ 2 ^ 20 := Nat.le_trans (pslen hx k) (by decide)
theorem wordD_deep {J : Led} {S : CS} {w : List Nat} {k : Nat} {D : Addr} (hm : (D, AObj.list (keysV (bkN S k))) ∈ J) : Deep J 3 (wordD S (w, k)) (.tup [.str w, .int (stN S k : Int), R D]) :=
  Deep.mkTup (DeepL.cons .mkStr (DeepL.cons .mkInt (DeepL.cons (Deep.mkList hm DeepL.strsP) DeepL.nil)))
inductive ToldP (S : CS) (seq : SqT) (μ : Led) : V → Led → Prop
  | mk (tl : Addr) (vs : List V) (J : Led) (h : DeepL J 3 ((seq ++ [([], S.segs.flatten.length)]).map (wordD S)) vs) (hl : vs.length = seq.length + 1) : ToldP S seq μ (.tup [R tl, .str S.segs.flatten]) ((tl, .list vs) :: (J ++ μ))
end
namespace X_told2_ok
noncomputable def stmt (P : Par) (μ : Led) (tlx : LexA) (th : HdrA) (td : DivA) (aAdd : Addr) (aTo : Addr) (c : Addr) (p : Addr) (cA : Value) (S : CS) (t : List Nat) (seq : SqT) (m : Nat) : Prop := ∀ (hF : RdF P tlx th td aAdd cA), ∀ (hT : ToF P aTo c p), ∀ (hk : COk t S), ∀ (hx : ReadX S), ∀ (hs : ∀ c ∈ S.segs.flatten, c < 128), ∀ (hr : Reads S.segs.flatten 0 seq m), ∀ (hm : m ≤ S.segs.flatten.length), ∀ (he : tok wsL (S.segs.flatten.drop m) = ([], S.segs.flatten.drop S.segs.flatten.length)), ∀ (hsl : seq.length ≤ 20), fnOk P 40 μ (R aTo) [.int (undig 10 S.fin : Nat)] [] (ToldP S seq μ)
noncomputable def pck : Led × LexA × HdrA × DivA × Addr × Addr × Addr × Addr × Value × CS × (List Nat) × SqT × Nat := @Classical.epsilon (Led × LexA × HdrA × DivA × Addr × Addr × Addr × Addr × Value × CS × (List Nat) × SqT × Nat) ⟨(([] : Led), (⟨0, 0, 0, 0, .none, .none, .none⟩ : LexA), (⟨0, 0, 0, 0, 0, 0, 0, #[], #[], .none, .none, .none, .none, .none, .none⟩ : HdrA), (⟨0, 0, 0, 0, 0, 0, 0, 0, 0, .none, .none, .none⟩ : DivA), (0 : Addr), (0 : Addr), (0 : Addr), (0 : Addr), (.none : Value), (⟨[], [], []⟩ : CS), ([] : List Nat), ([] : SqT), (0 : Nat))⟩ fun b => ∃ P, ¬ stmt P b.1 b.2.1 b.2.2.1 b.2.2.2.1 b.2.2.2.2.1 b.2.2.2.2.2.1 b.2.2.2.2.2.2.1 b.2.2.2.2.2.2.2.1 b.2.2.2.2.2.2.2.2.1 b.2.2.2.2.2.2.2.2.2.1 b.2.2.2.2.2.2.2.2.2.2.1 b.2.2.2.2.2.2.2.2.2.2.2.1 b.2.2.2.2.2.2.2.2.2.2.2.2
@[irreducible] noncomputable def μ : Led := pck.1
@[irreducible] noncomputable def tlx : LexA := pck.2.1
@[irreducible] noncomputable def th : HdrA := pck.2.2.1
@[irreducible] noncomputable def td : DivA := pck.2.2.2.1
@[irreducible] noncomputable def aAdd : Addr := pck.2.2.2.2.1
@[irreducible] noncomputable def aTo : Addr := pck.2.2.2.2.2.1
@[irreducible] noncomputable def c : Addr := pck.2.2.2.2.2.2.1
@[irreducible] noncomputable def p : Addr := pck.2.2.2.2.2.2.2.1
@[irreducible] noncomputable def cA : Value := pck.2.2.2.2.2.2.2.2.1
@[irreducible] noncomputable def S : CS := pck.2.2.2.2.2.2.2.2.2.1
@[irreducible] noncomputable def t : List Nat := pck.2.2.2.2.2.2.2.2.2.2.1
@[irreducible] noncomputable def seq : SqT := pck.2.2.2.2.2.2.2.2.2.2.2.1
@[irreducible] noncomputable def m : Nat := pck.2.2.2.2.2.2.2.2.2.2.2.2
theorem coreT (P : Par) : stmt P μ tlx th td aAdd aTo c p cA S t seq m := by
  intro hF hT hk hx hs hr hm he hsl
  have hG := GOk.b hF.b1 (GOk.b hF.dv.b2 (GOk.g hF.hd.gC (GOk.g hF.lx.gC GOk.nil)))
  have hall := hx.all
  refine fnOk.reperm ?_
  refine hT.f.okC (d := 39) (binds := [("number", .int (undig 10 S.fin : Nat))]) (σ₀ := [("number", some (.int (undig 10 S.fin : Nat))), ("read", none), ("stream", none), ("lexer", none), ("told", none), ("word", none)])
    (fun f => [("state", f 4), ("signs", f 3), ("ready", f 2), ("heard", f 1), ("book", f 0)]) (fun f => [(f 4, .cell none), (f 3, .cell none), (f 2, .cell none), (f 1, .cell none), (f 0, .cell none)])
    (fun _ _ _ _ => bind1 fun _ => rfl) (fun _ => rfl) (fun _ => rfl) (fun _ => rfl) rfl rfl rfl rfl rfl rfl fun L f => ?_
  dsimp only [List.cons_append, List.nil_append]
  walk_at "ex"
  refine cnew hF.hd (by decide) fun h => ?_
  walk_at "ex"
  refine fun sl => ?_
  walk_at "ex"
  refine fun yl => ?_
  walk_at "ex"
  refine fun hd => ?_
  walk_at "ex"
  refine exOk.def_ (qual := "_law_told.<locals>.read") (clos := [("state", f 4), ("signs", f 3), ("ready", f 2), ("heard", f 1), ("book", f 0)]) (fun fR doc cv ctv => .inl ⟨_, by walk_at "sto", rfl, ?_⟩) hT.t rfl rfl rfl rfl rfl hT.q1 rfl rfl rfl
  generalize hfd : kdv_fn _ _ _ _ _ _ _ _ _ _ _ = fd
  have hfd2 : fd = fdD ⟨fR, f 0, f 1, f 2, f 3, f 4, yl, sl, hd, h, doc, (P.mg "__name__").getD .none, cv, ctv⟩ := hfd.symm
  clear hfd
  walk_at "ex"
  refine evOk.lambda (clos := []) (fun st fdS => ?_) hT.t rfl rfl rfl hT.q2 rfl
  walk_at "ex"
  refine asOk.attrF ?_
  walk_at "ex"
  refine sat_fn FF.read_fn fun sdd => ⟨_, by walk_at "upd", ?_⟩
  walk_at "ex"
  refine ⟨Keep.inK hF.lx.kC, opOk.le (lex_new hF.lx fun y dl pb => ?_) (by decide)⟩
  dsimp only [List.cons_append, List.nil_append]
  walk_at "ex"
  refine asOk.attr ?_
  walk_at "ex"
  refine ⟨y, tlx.C, dl, _, _, rfl, by walk_at "mem", by walk_at "upd", by simp, hF.lx.sa, hF.lx.po, hF.lx.t3, hF.lx.hd, ?_⟩
  have ep : putD "whitespace" (.str (Str.ofString " =").cps.toList) ([("lineno", some (.int 1)), ("instream", some (R st)), ("whitespace", some (.str ws0)), ("pushback", some (R pb))] : Loc) = ([("lineno", some (.int 1)), ("instream", some (R st)), ("whitespace", some (.str wsL)), ("pushback", some (R pb))] : Loc) := rfl
  rw [ep]
  clear ep
  walk_at "ex"
  refine fun tl => ?_
  walk_at "ex"
  refine meth_inst (C := tlx.C) (dd := dl) (by walk_at "mem") (by walk_at "mem") rfl (hF.lx.ga _) hF.lx.fk hF.lx.i3 ?_
  walk_at "ex"
  subst hfd2
  generalize ha : RA.mk fR (f 0) (f 1) (f 2) (f 3) (f 4) yl sl hd h doc ((P.mg "__name__").getD .none) cv ctv = a
  generalize hxx : LxA.mk y dl pb st sdd fdS = x
  have e0 : ∀ ρ, canK tlx th a x S 1 0 ρ = (st, .fn fdS (some sdd)) :: (sdd, .dict [("read", some (R fR))]) :: (x.y, .inst tlx.C dl) :: (dl, .dict [("lineno", some (.int 1)), ("instream", some (R st)), ("whitespace", some (.str wsL)), ("pushback", some (R pb))]) :: (pb, .list []) ::
      (hL th h [] ++ ((yl, .list []) :: (hd, .list []) :: (sl, .list [.int (undig 10 S.fin : Nat)]) :: (fR, .fn (fdD a) none) :: (f 4, .cell (some (R sl))) :: (f 3, .cell (some (.str (Str.ofString "abAB=\"\\ ").cps.toList))) :: (f 2, .cell (some (R yl))) :: (f 1, .cell (some (R hd))) :: (f 0, .cell (some (R h.x))) :: ρ)) := fun ρ => by
    unfold canK stN rdyN bkN
    rw [past_zero, ← hxx, ← ha]
    rfl
  obtain ⟨w0, k0, hw0, hk0, hrest⟩ : ∃ w0 k0, tok wsL (S.segs.flatten.drop 0) = (w0, S.segs.flatten.drop k0) ∧ k0 ≤ S.segs.flatten.length ∧ ∀ ln, ∃ n, TdI tlx th a x S (undig 10 S.fin : Nat) fR st tl seq m μ n [("number", some (.int (undig 10 S.fin : Nat))), ("read", some (R fR)), ("stream", some (R st)), ("lexer", some (R x.y)), ("told", some (R tl)), ("word", some (.str w0))] (canK tlx th a x S ln k0 ([] ++ ((tl, .list []) :: μ))) := by
    cases hsq : seq with
    | nil =>
      rw [hsq] at hr
      have hm0 : m = 0 := hr
      rw [hm0] at he
      exact ⟨[], _, he, Nat.le_refl _, fun ln => ⟨_, .ended ln [] [] trivial rfl⟩⟩
    | cons q r =>
      obtain ⟨w, k⟩ := q
      rw [hsq] at hr
      obtain ⟨h1, _, h3, h4, h5⟩ := hr
      exact ⟨w, k, h4, h3, fun ln => ⟨_, .live [] w k r ln [] [] rfl h1 h3 h5 trivial rfl⟩⟩
  have hy : y = x.y := by rw [← hxx]
  rw [hy]
  refine ctok2 (x := x) (a := a) (ln := 1) (k := 0) (ρ := [] ++ ((tl, .list []) :: μ)) hF hk hx hs ?_ (Nat.zero_le _) hk0 hw0 (by decide) fun ln => ?_
  · rw [e0]
    dsimp only [List.nil_append]
    walk_at "pm"
  clear e0
  have hcT : f 4 = a.cT := by rw [← ha]
  have hcB : f 0 = a.cB := by rw [← ha]
  have hcH : f 1 = a.cH := by rw [← ha]
  rw [hcT, hcB, hcH]
  walk_at "ex"
  refine exOk.while_ (WhileOk.of (TdI tlx th a x S (undig 10 S.fin : Nat) fR st tl seq m μ) (hrest ln) ?_)
  have hmt : ∀ (p : Addr × AObj) {Q : V × List V → Led → Prop} {ln k ρ}, Q (R tlx.aTok, [R x.y]) (p :: canK tlx th a x S ln k ρ) → methOk P 39 (p :: canK tlx th a x S ln k ρ) (R x.y) "get_token" Q := fun p Q ln k ρ h =>
    meth_inst (C := tlx.C) (dd := x.dl) (by walk_at "mem") (by walk_at "mem") rfl (hF.lx.ga _) hF.lx.fk hF.lx.i3 h
  rintro J' hJ _ _ _ (⟨don, w, k, r, ln, vs, J, h1, h2, h3, h4, h5, h6⟩ | ⟨ln, vs, J, h5, h6⟩)
  · have hvl : vs.length ≤ 20 := by
      rw [h6]
      have := congrArg List.length h1
      rw [List.length_append, List.length_cons] at this
      lia
    walk_at "ex"
    rw [if_pos (show (w != (Str.ofString "").cps.toList) = true from by rw [show (Str.ofString "").cps.toList = [] from rfl]; simpa using h2)]
    walk_at "ex"
    refine sub_list (v := .int (stN S k : Int)) (by walk_at "mem") (by decide) (by decide) rfl ?_ (fun _ => rfl)
    walk_at "ex"
    refine mkeys hF.hd (by walk_at "blk") ?_
    walk_at "ex"
    refine ckeys hF.hd (by walk_at "blk") (bkN_len hx k) (by decide) fun D => ?_
    walk_at "ex"
    · refine hmt _ ?_
      walk_at "ex"
      have hdeep : DeepL ((D, .list (keysV (bkN S k))) :: J) 3 ((don ++ [(w, k)]).map (wordD S)) (vs ++ [.tup [.str w, .int (stN S k : Int), R D]]) := by
        rw [List.map_append]
        exact (h5.mono fun p hp => List.mem_cons_of_mem _ hp).snoc (wordD_deep List.mem_cons_self)
      cases r with
      | nil =>
        have hkm : m = k := h4
        rw [hkm] at he
        refine ctok2 (ρ := (D, .list (keysV (bkN S k))) :: (J ++ ((tl, .list (vs ++ [.tup [.str w, .int (stN S k : Int), R D]])) :: μ))) hF hk hx hs (can_perm (p := (D, .list (keysV (bkN S k))))) h3 (Nat.le_refl _) he (by decide) fun ln' => ?_
        walk_at "ex"
        refine ⟨0, Nat.succ_pos _, hJ _ _ _ (.ended ln' _ ((D, .list (keysV (bkN S k))) :: J) ?_ ?_)⟩
        · rw [← h1]; exact hdeep
        · rw [← h1]; simp [h6]
      | cons q r =>
        obtain ⟨w', k'⟩ := q
        obtain ⟨g1, _, g3, g4, g5⟩ := h4
        refine ctok2 (ρ := (D, .list (keysV (bkN S k))) :: (J ++ ((tl, .list (vs ++ [.tup [.str w, .int (stN S k : Int), R D]])) :: μ))) hF hk hx hs (can_perm (p := (D, .list (keysV (bkN S k))))) h3 g3 g4 (by decide) fun ln' => ?_
        walk_at "ex"
        exact ⟨r.length + 1, Nat.lt_succ_self _, hJ _ _ _ (.live (don ++ [(w, k)]) w' k' r ln' _ ((D, .list (keysV (bkN S k))) :: J) (by rw [← h1]; simp) g1 g3 g5 hdeep (by simp [h6]))⟩
    · rw [sizeLine_eq]; lia
  · walk_at "ex"
    rw [if_neg (by decide)]
    walk_at "ex"
    refine sub_list (v := .int (stN S S.segs.flatten.length : Int)) (by walk_at "mem") (by decide) (by decide) rfl ?_ (fun _ => rfl)
    walk_at "ex"
    refine mkeys hF.hd (by walk_at "blk") ?_
    walk_at "ex"
    refine ckeys hF.hd (by walk_at "blk") (bkN_len hx _) (by decide) fun D => ?_
    walk_at "ex"
    · refine join_chars (w := S.segs.flatten) (by rw [List.take_length]; walk_at "mem") (Nat.le_trans hall (by decide)) ?_
      walk_at "ex"
      refine ⟨(D, .list (keysV (bkN S S.segs.flatten.length))) :: (J ++ ((tl, .list (vs ++ [.tup [.str [], .int (stN S S.segs.flatten.length : Int), R D]])) :: μ)), ?_, _, ?_, .mk tl (vs ++ [.tup [.str [], .int (stN S S.segs.flatten.length : Int), R D]]) ((D, .list (keysV (bkN S S.segs.flatten.length))) :: J) ?_ ?_⟩
      · exact List.Sublist.cons_cons _ can_sub
      · exact (List.perm_middle.cons _).trans (List.Perm.swap _ _ _)
      · rw [List.map_append]
        exact (h5.mono fun p hp => List.mem_cons_of_mem _ hp).snoc (wordD_deep List.mem_cons_self)
      · simp [h6]
    · rw [sizeLine_eq, h6]; lia
theorem allT (P : Par) (μ : Led) (tlx : LexA) (th : HdrA) (td : DivA) (aAdd : Addr) (aTo : Addr) (c : Addr) (p : Addr) (cA : Value) (S : CS) (t : List Nat) (seq : SqT) (m : Nat) : stmt P μ tlx th td aAdd aTo c p cA S t seq m := skol (Q := fun (P : Par) (b : Led × LexA × HdrA × DivA × Addr × Addr × Addr × Addr × Value × CS × (List Nat) × SqT × Nat) => stmt P b.1 b.2.1 b.2.2.1 b.2.2.2.1 b.2.2.2.2.1 b.2.2.2.2.2.1 b.2.2.2.2.2.2.1 b.2.2.2.2.2.2.2.1 b.2.2.2.2.2.2.2.2.1 b.2.2.2.2.2.2.2.2.2.1 b.2.2.2.2.2.2.2.2.2.2.1 b.2.2.2.2.2.2.2.2.2.2.2.1 b.2.2.2.2.2.2.2.2.2.2.2.2) (by with_unfolding_all exact coreT) P (μ, tlx, th, td, aAdd, aTo, c, p, cA, S, t, seq, m)
end X_told2_ok
section
variable {P : Par} {d : Nat} {μ : Led}
theorem told2_ok {tlx : LexA} {th : HdrA} {td : DivA} {aAdd aTo c p : Addr} {cA : Value} {S : CS} {t : List Nat} {seq : SqT} {m : Nat} (hF : RdF P tlx th td aAdd cA) (hT : ToF P aTo c p) (hk : COk t S) (hx : ReadX S) (hs : ∀ c ∈ S.segs.flatten, c < 128)
    (hr : Reads S.segs.flatten 0 seq m) (hm : m ≤ S.segs.flatten.length) (he : tok wsL (S.segs.flatten.drop m) = ([], S.segs.flatten.drop S.segs.flatten.length)) (hsl : seq.length ≤ 20) : fnOk P 40 μ (R aTo) [.int (undig 10 S.fin : Nat)] [] (ToldP S seq μ) := X_told2_ok.allT P μ tlx th td aAdd aTo c p cA S t seq m hF hT hk hx hs hr hm he hsl
end

section
variable {P : Par} {d : Nat} {μ : Led}
/-! the text and its spots -/
noncomputable def SpRel (J : Led) (sp : List Spt) (vs : List V) : Prop := vs.length = sp.length ∧ ∀ (i : Nat) (s : Spt), sp[i]? = some s → ∃ pl, vs[i]? = some (V.tup [R pl, .int (s.2 : Int)]) ∧ (pl, AObj.list (vints s.1)) ∈ J
theorem SpRel.nil {J : Led} : SpRel J [] [] := ⟨rfl, fun i s h => by simp at h⟩
theorem SpRel.mono {J J' : Led} {sp : List Spt} {vs : List V} (hs : ∀ p ∈ J, p ∈ J') (h : SpRel J sp vs) : SpRel J' sp vs := ⟨h.1, fun i s e => let ⟨pl, h1, h2⟩ := h.2 i s e; ⟨pl, h1, hs _ h2⟩⟩
theorem SpRel.snoc {J : Led} {sp : List Spt} {vs : List V} {s : Spt} {pl : Addr} {z : Int} (h : SpRel J sp vs) (hz : z = (s.2 : Int)) (hm : (pl, AObj.list (vints s.1)) ∈ J) : SpRel J (sp ++ [s]) (vs ++ [.tup [R pl, .int z]]) := by
  subst hz
  refine ⟨by simp [h.1], fun i s' e => ?_⟩
  rcases Nat.lt_trichotomy i sp.length with hi | hi | hi
  · rw [List.getElem?_append_left hi] at e
    rw [List.getElem?_append_left (by rw [h.1]; exact hi)]
    exact h.2 i s' e
  · subst hi
    rw [List.getElem?_append_right (Nat.le_refl _), Nat.sub_self] at e
    rw [← h.1, List.getElem?_append_right (Nat.le_refl _), Nat.sub_self]
    injection e with e
    subst e
    exact ⟨pl, rfl, hm⟩
  · rw [List.getElem?_eq_none (by simp; lia)] at e
    cases e
structure PsN (ps : List Pr2) : Prop where
  ok : ∀ p ∈ ps, PrOk p ∧ p.2.length ≤ 2 ∧ ∀ c ∈ p.2, c ∈ sg
  len : ps.length ≤ 4
theorem escN_len {w : List Nat} (h : w.length ≤ 2) (hs : ∀ c ∈ w, c ∈ sg) : (escN w).length ≤ 4 := (esc_ok h hs).el
theorem fmtN_len {p : Pr2} (h : PrOk p ∧ p.2.length ≤ 2 ∧ ∀ c ∈ p.2, c ∈ sg) : (fmtN p).length ≤ 8 := by
  obtain ⟨c, e, _⟩ := h.1.nm
  have := escN_len h.2.1 h.2.2
  unfold fmtN
  split
  · rw [e]; exact show 1 ≤ 8 from by decide
  · rw [e]; simp; lia
theorem wgap_len (t : List Nat) : (wgap t).length ≤ t.length + 1 := by
  unfold wgap
  split
  · exact Nat.le_succ _
  · rw [List.length_append]; exact Nat.le_refl _
theorem writ_take {ps : List Pr2} {i : Nat} {p : Pr2} (h : ps[i]? = some p) : writN (ps.take (i + 1)) = wstep (writN (ps.take i)) p := by
  unfold writN
  rw [List.take_add_one, h, List.foldl_append]; rfl
theorem writ_len {ps : List Pr2} (hp : PsN ps) : ∀ i ≤ ps.length, (writN (ps.take i)).1.length ≤ 9 * i ∧ (writN (ps.take i)).2.length ≤ 2 * i
  | 0, _ => by simp [writN]
  | i + 1, hi => by
    have ih := writ_len hp i (Nat.le_of_succ_le hi)
    rw [writ_take (List.getElem?_eq_getElem hi), wstep_eq]
    have h1 := fmtN_len (hp.ok _ (List.getElem_mem hi))
    have h2 := wgap_len (writN (ps.take i)).1
    refine ⟨by rw [List.length_append]; lia, ?_⟩
    rw [List.length_append, List.length_cons]
    split
    · simp; lia
    · simp; lia
theorem in_q : ∀ c ∈ sg, (!(Builtin.Str.occurrences (mkS [34, 92]) (mkS [c]) 0 2 1).isEmpty) = decide (c = 34 ∨ c = 92) := by decide +kernel
noncomputable def wsN (t0 : List Nat) (w : List Nat) (j : Nat) : List Nat × List Nat := (w.take j).foldl wsign ([], t0)
theorem wsN_next {t0 w : List Nat} {j c : Nat} (h : w[j]? = some c) : wsN t0 w (j + 1) = wsign (wsN t0 w j) c := by
  unfold wsN
  rw [List.take_add_one, h, List.foldl_append]; rfl
theorem wsN_len {t0 w : List Nat} (j : Nat) : (wsN t0 w j).1.length ≤ j ∧ (wsN t0 w j).2.length ≤ t0.length + 2 * j := by
  have key : ∀ (l : List Nat) (q : List Nat × List Nat), (l.foldl wsign q).1.length ≤ q.1.length + l.length ∧ (l.foldl wsign q).2.length ≤ q.2.length + 2 * l.length := by
    intro l
    induction l with
    | nil => intro q; exact ⟨Nat.le_refl _, Nat.le_refl _⟩
    | cons c l ih =>
      intro q
      have := ih (wsign q c)
      rw [List.foldl_cons]
      have h1 : (wsign q c).1.length = q.1.length + 1 := by unfold wsign; simp
      have h2 : (wsign q c).2.length ≤ q.2.length + 2 := by unfold wsign; split <;> simp
      rw [List.length_cons]
      exact ⟨by lia, by lia⟩
  have h := key (w.take j) ([], t0)
  have hl : (w.take j).length ≤ j := List.length_take_le _ _
  unfold wsN
  exact ⟨Nat.le_trans h.1 (by rw [List.length_nil, Nat.zero_add]; exact hl), Nat.le_trans h.2 (Nat.add_le_add_left (Nat.mul_le_mul_left 2 hl) _)⟩
inductive WrI (ps : List Pr2) (pl sl : Addr) (μ : Led) : Nat → Loc → Led → Prop
  | mk (i : Nat) (vs : List V) (J : Led) (o1 o2 o3 o4 : Option V) (h : SpRel J (writN (ps.take i)).2 vs) : WrI ps pl sl μ i [("pairs", some (R pl)), ("text", some (.str (writN (ps.take i)).1)), ("spots", some (R sl)), ("name", o1), ("word", o2), ("places", o3), ("sign", o4)] (J ++ ((sl, .list vs) :: (pl, .list (pairsV ps)) :: μ))
inductive WsI (ps : List Pr2) (pl sl ql : Addr) (μ J : Led) (vs : List V) (nm w t0 : List Nat) : Nat → Loc → Led → Prop
  | mk (j : Nat) (o4 : Option V) : WsI ps pl sl ql μ J vs nm w t0 j [("pairs", some (R pl)), ("text", some (.str (wsN t0 w j).2)), ("spots", some (R sl)), ("name", some (.str nm)), ("word", some (.str w)), ("places", some (R ql)), ("sign", o4)] ((ql, .list (vints (wsN t0 w j).1)) :: (J ++ ((sl, .list vs) :: (pl, .list (pairsV ps)) :: μ)))
inductive WrP (ps : List Pr2) (pl : Addr) (μ : Led) : V → Led → Prop
  | mk (sl : Addr) (vs : List V) (J : Led) (h : SpRel J (spotsN ps) vs) : WrP ps pl μ (.tup [.str (writN ps).1, R sl]) (J ++ ((sl, .list vs) :: (pl, .list (pairsV ps)) :: μ))
theorem pairs_get {ps : Pairs} {i : Nat} {v : V} (h : (pairsV ps)[i]? = some v) : ∃ p, ps[i]? = some p ∧ v = .tup [.str p.1, .str p.2] := by
  rw [List.getElem?_map] at h
  cases e : ps[i]? with
  | none => rw [e] at h; cases h
  | some p => rw [e] at h; cases h; exact ⟨p, rfl, rfl⟩
noncomputable def forBody : Stmt → List Stmt | .For _ _ b .. => b | _ => []
noncomputable abbrev envW (aW L : Addr) (cW : Value) : Env := envX "_law_written" (fnScope (T1 22)) L aW cW []
theorem wr_word {aW pl sl ql L : Addr} {cW : Value} {ps : List Pr2} {vs : List V} {J : Led} {nm w t0 : List Nat} {o4 : Option V} (b2 : Bi P "len" (.builtin "len")) (hw : w.length ≤ 2) (hs : ∀ c ∈ w, c ∈ sg) (ht : t0.length ≤ 100) :
    exOk P 1 (envW aW L cW) [("pairs", some (R pl)), ("text", some (.str t0)), ("spots", some (R sl)), ("name", some (.str nm)), ("word", some (.str w)), ("places", some (R ql)), ("sign", o4)] ((ql, .list []) :: (J ++ ((sl, .list vs) :: (pl, .list (pairsV ps)) :: μ))) ((ifBody ((forBody (inner (T1 22) 2)).getD 3 (.Pass default))).getD 2 (.Pass default))
      (fun f σ' μ' => f = .next ∧ WsI ps pl sl ql μ J vs nm w t0 w.length σ' μ') := by
  have hG := GOk.b b2 GOk.nil
  walk_at "ex"
  refine it_str (fun c hc => sg_lt (hs c hc)) ?_
  refine ForOk.of (WsI ps pl sl ql μ J vs nm w t0) (.mk 0 o4) ?_ ?_ ?_
  · rintro j σ μ' ⟨o⟩
    exact ⟨_, List.Perm.refl _⟩
  · rintro J' hJ j v σ μ' hv ⟨o⟩
    obtain ⟨c, hc, rfl⟩ := chars_get hv
    have hcs := hs c (List.mem_of_getElem? hc)
    have hj : j < 2 := Nat.lt_of_lt_of_le (List.getElem?_eq_some_iff.mp hc).1 hw
    obtain ⟨l1, l2⟩ := wsN_len (t0 := t0) (w := w) j
    have hm := WsI.mk (ps := ps) (pl := pl) (sl := sl) (ql := ql) (μ := μ) (J := J) (vs := vs) (nm := nm) (w := w) (t0 := t0) (j + 1) (some (.str [c]))
    rw [wsN_next hc] at hm
    generalize wsN t0 w j = q at *
    obtain ⟨qs, t⟩ := q
    have l1 : qs.length ≤ j := l1
    have l2 : t.length ≤ t0.length + 2 * j := l2
    unfold wsign at hm
    walk_at "ex"
    refine cmp_inStr (in_q c hcs) ?_
    walk_at "ex"
    by_cases h : c = 34 ∨ c = 92
    · rw [if_pos (decide_eq_true h)]
      simp only [if_pos h] at hm
      walk_at "ex"
      refine cat (by lia) (show 1 ≤ 1000000 from by decide) ?_
      walk_at "ex"
      refine call_lenStr (by rw [List.length_append, sizeLine_eq]; show t.length + 1 ≤ _; lia) ?_
      walk_at "ex"
      · refine cat (by rw [List.length_append]; show t.length + 1 ≤ _; lia) (show 1 ≤ 1000000 from by decide) ?_
        walk_at "ex"
        refine hJ _ _ _ ?_
        rw [vints_snoc qs _ _ rfl]
        exact hm
      · rw [sizeLine_eq, List.length_map]; lia
    · rw [if_neg (by rw [decide_eq_true_eq]; exact h)]
      simp only [if_neg h] at hm
      walk_at "ex"
      refine call_lenStr (by rw [sizeLine_eq]; lia) ?_
      walk_at "ex"
      · refine cat (by lia) (show 1 ≤ 1000000 from by decide) ?_
        walk_at "ex"
        refine hJ _ _ _ ?_
        rw [vints_snoc qs _ _ rfl]
        exact hm
      · rw [sizeLine_eq, List.length_map]; lia
  · rintro σ μ' h
    rw [chars_len] at h
    exact ⟨rfl, h⟩
theorem wr_tail {aW pl sl L : Addr} {cW : Value} {ps : List Pr2} {vs : List V} {J : Led} {nm w t : List Nat} {sp : List Spt} {o3 o4 : Option V} {Qn : Loc → Led → Prop} (b2 : Bi P "len" (.builtin "len")) (hp : PrOk (nm, w)) (hw : w.length ≤ 2) (hs : ∀ c ∈ w, c ∈ sg) (ht : t.length ≤ 40) (h : SpRel J sp vs) (hvl : vs.length ≤ 8)
    (hQ : ∀ vs J o3 o4, SpRel J (wstep (t, sp) (nm, w)).2 vs → Qn [("pairs", some (R pl)), ("text", some (.str (wstep (t, sp) (nm, w)).1)), ("spots", some (R sl)), ("name", some (.str nm)), ("word", some (.str w)), ("places", o3), ("sign", o4)] (J ++ ((sl, .list vs) :: (pl, .list (pairsV ps)) :: μ))) :
    exsOk P 1 (envW aW L cW) [("pairs", some (R pl)), ("text", some (.str (wgap t))), ("spots", some (R sl)), ("name", some (.str nm)), ("word", some (.str w)), ("places", o3), ("sign", o4)] (J ++ ((sl, .list vs) :: (pl, .list (pairsV ps)) :: μ)) ((forBody (inner (T1 22) 2)).drop 1)
      (fun f σ' μ' => f = .next ∧ Qn σ' μ') := by
  have hG := GOk.b b2 GOk.nil
  have hg : (wgap t).length ≤ 41 := Nat.le_trans (wgap_len t) (Nat.succ_le_succ ht)
  have hnl : nm.length = 1 := by obtain ⟨c, e, _⟩ := hp.nm; have e : nm = [c] := e; rw [e]; rfl
  unfold wstep at hQ
  generalize wgap t = u at *
  walk_at "ex"
  refine call_lenStr (by rw [sizeLine_eq]; lia) ?_
  walk_at "ex"
  refine fun q0 => ?_
  walk_at "ex"
  refine call_lenStr (by rw [sizeLine_eq]; lia) ?_
  walk_at "ex"
  · refine cat (by lia) (by lia) ?_
    have h1 : SpRel ((q0, .list [.int (u.length : Int)]) :: J) (sp ++ [([u.length], u.length + 2)]) (vs ++ [.tup [R q0, .int ((u.length : Int) + 2)]]) := (h.mono fun p hp => List.mem_cons_of_mem _ hp).snoc (s := ([u.length], u.length + 2)) (by push_cast; rfl) List.mem_cons_self
    walk_at "ex"
    by_cases h0 : w = []
    · simp only [if_pos h0] at hQ
      rw [if_neg (by rw [h0]; decide)]
      walk_at "ex"
      exact ⟨rfl, hQ _ ((q0, .list [.int (u.length : Int)]) :: J) _ _ h1⟩
    · simp only [if_neg h0] at hQ
      rw [if_pos (show (w != (Str.ofString "").cps.toList) = true from by rw [show (Str.ofString "").cps.toList = [] from rfl]; simpa using h0)]
      walk_at "ex"
      refine fun ql => ?_
      walk_at "ex"
      refine cat (by rw [List.length_append]; lia) (show 2 ≤ 1000000 from by decide) ?_
      refine asOk.name (by walk_at "sto") ?_ rfl rfl
      refine (exsOk.cut (R := WsI ps pl sl ql μ ((q0, .list [.int (u.length : Int)]) :: J) (vs ++ [.tup [R q0, .int ((u.length : Int) + 2)]]) nm w (u ++ nm ++ [61, 34]) w.length) (wr_word (J := (q0, .list [.int (u.length : Int)]) :: J) b2 hw hs (by simp; lia)) ?_ : exsOk P 1 (envW aW L cW) _ _ _ _)
      rintro _ _ ⟨o⟩
      obtain ⟨l1, l2⟩ := wsN_len (t0 := u ++ nm ++ [61, 34]) (w := w) w.length
      have e : wsN (u ++ nm ++ [61, 34]) w w.length = w.foldl wsign ([], u ++ nm ++ [61, 34]) := by unfold wsN; rw [List.take_length]
      rw [e] at l1 l2 ⊢
      generalize w.foldl wsign ([], u ++ nm ++ [61, 34]) = q at *
      obtain ⟨pl0, t0⟩ := q
      have l2 : t0.length ≤ (u ++ nm ++ [61, 34]).length + 2 * w.length := l2
      have l3 : (u ++ nm ++ [61, 34]).length = u.length + nm.length + 2 := by rw [List.length_append, List.length_append]; rfl
      walk_at "ex"
      refine cat (by lia) (show 1 ≤ 1000000 from by decide) ?_
      walk_at "ex"
      refine call_lenStr (by rw [List.length_append, sizeLine_eq]; show t0.length + 1 ≤ _; lia) ?_
      walk_at "ex"
      · refine ⟨rfl, hQ _ ((ql, .list (vints pl0)) :: (q0, .list [.int (u.length : Int)]) :: J) _ _ ?_⟩
        exact SpRel.snoc (s := (pl0, (t0 ++ [34]).length)) (h1.mono fun p hp => List.mem_cons_of_mem _ hp) rfl List.mem_cons_self
      · rw [sizeLine_eq, List.length_append]; show vs.length + 1 ≤ _; lia
  · rw [sizeLine_eq]; lia
end
namespace X_written_ok
noncomputable def stmt (P : Par) (μ : Led) (aW : Addr) (pl : Addr) (cW : Value) (ps : List Pr2) : Prop := ∀ (f : FnIs P aW "_law_written" (T1 22) cW .none .none), ∀ (b2 : Bi P "len" (.builtin "len")), ∀ (hp : PsN ps), fnOk P 2 ((pl, .list (pairsV ps)) :: μ) (R aW) [R pl] [] (WrP ps pl μ)
noncomputable def pck : Led × Addr × Addr × Value × (List Pr2) := @Classical.epsilon (Led × Addr × Addr × Value × (List Pr2)) ⟨(([] : Led), (0 : Addr), (0 : Addr), (.none : Value), ([] : List Pr2))⟩ fun b => ∃ P, ¬ stmt P b.1 b.2.1 b.2.2.1 b.2.2.2.1 b.2.2.2.2
@[irreducible] noncomputable def μ : Led := pck.1
@[irreducible] noncomputable def aW : Addr := pck.2.1
@[irreducible] noncomputable def pl : Addr := pck.2.2.1
@[irreducible] noncomputable def cW : Value := pck.2.2.2.1
@[irreducible] noncomputable def ps : List Pr2 := pck.2.2.2.2
theorem coreT (P : Par) : stmt P μ aW pl cW ps := by
  intro f b2 hp
  have hG := GOk.b b2 GOk.nil
  have hp4 := hp.len
  refine f.ok (d := 1) (binds := [("pairs", R pl)]) (σ₀ := [("pairs", some (R pl)), ("text", none), ("spots", none), ("name", none), ("word", none), ("places", none), ("sign", none)]) (fun _ _ _ _ => bind1 fun _ => rfl) rfl rfl rfl rfl rfl rfl rfl fun L => ?_
  walk_at "ex"
  refine fun sl => ?_
  walk_at "ex"
  refine it_list (xs := pairsV ps) (by walk_at "mem") ?_
  refine ForOk.of (WrI ps pl sl μ) (.mk 0 [] [] none none none none SpRel.nil) ?_ ?_ ?_
  · rintro i σ μ' ⟨vs, J, o1, o2, o3, o4, _⟩
    exact ⟨J ++ ((sl, .list vs) :: μ), ((List.Perm.swap _ _ _).append_left J).trans List.perm_middle⟩
  · rintro J' hJ i v σ μ' hv ⟨vs, J, o1, o2, o3, o4, h⟩
    obtain ⟨p, hpi, rfl⟩ := pairs_get hv
    obtain ⟨hpo, hpl, hps⟩ := hp.ok p (List.mem_of_getElem? hpi)
    have hi4 : i < 4 := Nat.lt_of_lt_of_le (List.getElem?_eq_some_iff.mp hpi).1 hp4
    obtain ⟨l1, l2⟩ := writ_len hp i (Nat.le_of_lt (List.getElem?_eq_some_iff.mp hpi).1)
    have hnext := writ_take hpi
    have hJm := fun vs J o1 o2 o3 o4 => WrI.mk (ps := ps) (pl := pl) (sl := sl) (μ := μ) (i + 1) vs J o1 o2 o3 o4
    rw [hnext] at hJm
    have hvl : vs.length ≤ 8 := by rw [h.1]; lia
    generalize writN (ps.take i) = q at *
    obtain ⟨nm, w⟩ := p
    obtain ⟨t, sp⟩ := q
    have hpl : w.length ≤ 2 := hpl
    have ht : t.length ≤ 40 := by have : t.length ≤ 9 * i := l1; lia
    have tail := fun (o3 o4 : Option V) => wr_tail (P := P) (μ := μ) (aW := aW) (pl := pl) (sl := sl) (L := L) (cW := cW) (ps := ps) (nm := nm) (w := w) (t := t) (sp := sp) (o3 := o3) (o4 := o4) (vs := vs) (J := J) (Qn := J' (i + 1)) b2 hpo hpl hps ht h hvl fun vs J o3 o4 hh => hJ _ _ _ (hJm vs J _ _ o3 o4 hh)
    walk_at "ex"
    by_cases h0 : t = []
    · have e : wgap t = t := by unfold wgap; rw [if_pos h0]
      rw [e] at tail
      rw [if_neg (by show ¬ ((t != (Str.ofString "").cps.toList) = true); rw [h0]; decide)]
      exact exsOk.nil (exsOk.unhide (by assumption) ((tail o3 o4).mono fun f σ' μ' ⟨e, q⟩ => by subst e; exact q))
    · have e : wgap t = t ++ [32] := by unfold wgap; rw [if_neg h0]
      rw [e] at tail
      rw [if_pos (show (t != (Str.ofString "").cps.toList) = true from by rw [show (Str.ofString "").cps.toList = [] from rfl]; simpa using h0)]
      walk_at "ex"
      refine cat (show t.length ≤ _ from by lia) (show 1 ≤ 1000000 from by decide) ?_
      change sem P 1 _ _ _ (.val (.str (t ++ [32]))) _ _
      exact asOk.name (by walk_at "sto") (exsOk.nil (exsOk.unhide (by assumption) ((tail o3 o4).mono fun f σ' μ' ⟨e, q⟩ => by subst e; exact q))) rfl rfl
  · rintro σ μ' ⟨vs, J, o1, o2, o3, o4, h⟩
    have hlen := writ_len hp ps.length (Nat.le_refl _)
    rw [List.length_map] at h ⊢
    rw [List.take_length] at h hlen ⊢
    have hsp : spotsN ps = (writN ps).2 ++ [([], (writN ps).1.length)] := rfl
    have hfin := fun sl vs J hh => WrP.mk (ps := ps) (pl := pl) (μ := μ) sl vs J hh
    rw [hsp] at hfin
    have hvl : vs.length ≤ 8 := by rw [h.1]; lia
    generalize writN ps = q at *
    obtain ⟨t, sp⟩ := q
    have l1 : t.length ≤ 9 * ps.length := hlen.1
    walk_at "ex"
    refine fun q0 => ?_
    walk_at "ex"
    refine call_lenStr (by rw [sizeLine_eq]; lia) ?_
    walk_at "ex"
    · exact hfin sl _ ((q0, .list []) :: J) (SpRel.snoc (s := ([], t.length)) (h.mono fun p hp => List.mem_cons_of_mem _ hp) rfl List.mem_cons_self)
    · rw [sizeLine_eq]; lia
theorem allT (P : Par) (μ : Led) (aW : Addr) (pl : Addr) (cW : Value) (ps : List Pr2) : stmt P μ aW pl cW ps := skol (Q := fun (P : Par) (b : Led × Addr × Addr × Value × (List Pr2)) => stmt P b.1 b.2.1 b.2.2.1 b.2.2.2.1 b.2.2.2.2) (by with_unfolding_all exact coreT) P (μ, aW, pl, cW, ps)
end X_written_ok
section
variable {P : Par} {d : Nat} {μ : Led}
theorem written_ok {aW pl : Addr} {cW : Value} {ps : List Pr2} (f : FnIs P aW "_law_written" (T1 22) cW .none .none) (b2 : Bi P "len" (.builtin "len")) (hp : PsN ps) : fnOk P 2 ((pl, .list (pairsV ps)) :: μ) (R aW) [R pl] [] (WrP ps pl μ) := X_written_ok.allT P μ aW pl cW ps f b2 hp
end

section
variable {P : Par} {d : Nat} {μ : Led}
/-! the due answer: a turn of the outer loop -/
theorem pySlice_sub {x : List Nat} {k j : Nat} (h : k ≤ j) (h2 : j ≤ x.length) : pySlice x (some (k : Int)) (some (j : Int)) = subT2 x k j := by
  unfold pySlice clip0 clipN
  have e1 : clipAt x.length (k : Int) = k := by unfold clipAt; exact ar_clip (Nat.le_trans h h2)
  have e2 : clipAt x.length (j : Int) = j := by unfold clipAt; exact ar_clip h2
  show (x.drop (clipAt x.length (k : Int))).take (clipAt x.length (j : Int) - clipAt x.length (k : Int)) = _
  rw [e1, e2]; rfl
theorem pySlice_m1 {x y : List Nat} {c : Nat} (h : x = y ++ [c]) : pySlice x none (some (-1)) = y := by
  unfold pySlice clip0 clipN
  have e1 : clipAt x.length (-1) = y.length := by rw [h]; unfold clipAt; simp; omega
  show (x.drop 0).take (clipAt x.length (-1) - 0) = _
  rw [e1, h]; simp
set_option genInjectivity false in
structure DA where
  aU : Addr
  cU : Value
  L : Addr
  pl : Addr
  sl : Addr
  shl : Addr
  pcl : Addr
  nml : Addr
  stl : Addr
  rl : Addr
  cR : Addr
  cH : Addr
  cE : Addr
  cP : Addr
noncomputable def whBody : Stmt → List Stmt | .While _ b .. => b | _ => []
noncomputable abbrev envU (a : DA) : Env := envX "_law_due" (fnScope (T1 23)) a.L a.aU a.cU [("past", a.cP), ("end", a.cE), ("heard", a.cH), ("rows", a.cR)]
noncomputable abbrev duV (a : DA) (T : List Nat) (k : Nat) (o1 o2 o3 : Option V) : Loc := [("pairs", some (R a.pl)), ("signs", some (.str sg)), ("text", some (.str T)), ("spots", some (R a.sl)), ("small", some (.str (low T))), ("shown", some (R a.shl)), ("pieces", some (R a.pcl)), ("names", some (R a.nml)), ("starts", some (R a.stl)), ("start", some (.int (k : Int))), ("stop", o1), ("piece", o2), ("above", o3), ("told", none), ("places", none), ("rest", none), ("number", none)]
noncomputable abbrev duG (P : Par) (a : DA) (rows st : List Nat) (nm : List (List Nat)) (hd : List Nat) (K ρ : Led) : Led := (a.rl, .list (vints rows)) :: (a.stl, .list (vints st)) :: (a.nml, .list (nm.map V.str)) :: (a.pcl, .list (pcsV nm)) :: (a.shl, sdO P (shownN nm)) :: (K ++ ((a.cP, .cell none) :: (a.cE, .cell none) :: (a.cH, .cell (some (.str hd))) :: (a.cR, .cell (some (R a.rl))) :: ρ))
theorem due_tail {a : DA} {T K ρ} {rows st : List Nat} {nm : List (List Nat)} {hd p q : List Nat} {k j : Nat} {o3 : Option V} {Qn : Loc → Led → Prop} (hl : (shownN nm).lookup p = some q) (h1 : hd.length ≤ 1000) (h2 : q.length ≤ 1000) (h3 : st.length ≤ 1000)
    (hQ : Qn (duV a T j (some (.int (j : Int))) (some (.str p)) o3) (duG P a rows (st ++ [k]) nm (hd ++ q) K ρ)) :
    exsOk P 1 (envU a) (duV a T k (some (.int (j : Int))) (some (.str p)) o3) (duG P a rows st nm hd K ρ) ((whBody (inner (T1 23) 10)).drop 4) (fun f σ' μ' => f = .next ∧ Qn σ' μ') := by
  have hG := GOk.nil (P := P)
  walk_at "ex"
  refine sub_sd (by walk_at "mem") hl ?_ (fun _ => rfl)
  walk_at "ex"
  refine cat (by lia) (by lia) ?_
  walk_at "ex"
  · rw [vints_snoc st k _ rfl]
    walk_at "ex"
    exact ⟨rfl, hQ⟩
  · rw [sizeLine_eq, List.length_map]; lia
theorem names_snoc (nm : List (List Nat)) (q : List Nat) : nm.map V.str ++ [V.str q] = (nm ++ [q]).map V.str := by rw [List.map_append]; rfl
theorem pcs_snoc (nm : List (List Nat)) {p q : List Nat} (h : low q = p) : pcsV nm ++ [V.str p] = pcsV (nm ++ [q]) := by unfold pcsV; rw [List.map_append, ← h]; rfl
inductive DuM (P : Par) (a : DA) (T : List Nat) (k j : Nat) (p rows st : List Nat) (nm : List (List Nat)) (hd : List Nat) (K ρ : Led) : Loc → Led → Prop
  | mk (o3 : Option V) : DuM P a T k j p rows st nm hd K ρ (duV a T k (some (.int (j : Int))) (some (.str p)) o3) (duG P a rows st nm hd K ρ)
structure DuX (T : List Nat) (S : CS) : Prop where
  sg : ∀ c ∈ T, c ∈ sg
  T : T.length ≤ 40
  nm : S.nm.length ≤ 40
  all : ∀ q ∈ S.nm, q.length ≤ 40
  fl : S.nm.flatten.length ≤ 40
  rows : S.rows.length ≤ 40
theorem due_some {a : DA} {T st hd : List Nat} {K ρ : Led} {S : CS} {k j i : Nat} {o3 : Option V} (hX : DuX T S) (hi : idxL S.nm (subT2 T k j) = some i) :
    exOk P 1 (envU a) (duV a T k (some (.int (j : Int))) (some (.str (low (subT2 T k j)))) o3) (duG P a S.rows st S.nm hd K ρ) ((whBody (inner (T1 23) 10)).getD 3 (.Pass default)) (fun f σ' μ' => f = .next ∧ DuM P a T k j (low (subT2 T k j)) (S.rows ++ [16 * (i + 1)]) st S.nm hd K ρ σ' μ') := by
  have hG := GOk.nil (P := P)
  obtain ⟨hx, hno, hin⟩ := pcs_at hi
  have hn := hX.nm
  walk_at "ex"
  refine cmp_inList (c := true) (by walk_at "mem") pcs_is (by rw [pcs_in, hi]; rfl) ?_
  walk_at "ex"
  rw [if_pos rfl]
  walk_at "ex"
  refine meth_list F.slot_list_index F.type_list_index (by walk_at "mem") ?_
  walk_at "ex"
  refine call_listIndex (j := i) (by walk_at "mem") pcs_is hx hno (by lia) ?_
  walk_at "ex"
  refine bin_mulR (by lia) ?_
  walk_at "ex"
  · rw [vints_snoc S.rows (16 * (i + 1)) _ (by push_cast; rfl)]
    exact ⟨rfl, .mk _⟩
  · rw [sizeLine_eq, List.length_map]; exact Nat.le_trans hX.rows (by decide)
structure DuN (T : List Nat) (k j : Nat) (S : CS) (pc : List Nat) (c : Nat) : Prop where
  X : DuX T S
  ne : ∀ q ∈ S.nm, q ≠ []
  len : (low (subT2 T k j)).length = j - k
  le : j ≤ T.length
  lt : k < j
  at_ : T[j - 1]? = some c
  cs : c ∈ sg
  sn : subT2 T k j = pc ++ [c]
  lw : low (shw S.nm pc ++ [c]) = low (subT2 T k j)
  ls : low (subT2 T k j) = low pc ++ [lowN c]
  shw : (shw S.nm pc).length ≤ 40
  pn : pc = [] ∨ ∃ i, idxL S.nm pc = some i
  no : idxL S.nm (subT2 T k j) = none
theorem DuI.duN {T : List Nat} {k j : Nat} {S : CS} (hI : DuI T k j S) (hX : DuX T S) (hi : idxL S.nm (subT2 T k j) = none) : DuN T k j S (subT2 T k (j - 1)) (T.getD (j - 1) 0) := by
  have hk := hI.ok hX.sg
  have hT := hX.T
  have hlen : (low (subT2 T k j)).length = j - k := by rw [low_len', sub_len hI.le]
  have hlt := hI.lt
  have hle := hI.le
  have hc : T[j - 1]? = Option.some (T.getD (j - 1) 0) := getD_at (by omega)
  have hsn := sub_snoc hI.lt hI.le
  have hlow : low (shw S.nm (subT2 T k (j - 1)) ++ [T.getD (j - 1) 0]) = low (subT2 T k j) := by rw [hsn, low_app, low_app, shw_low_eq hk]
  refine ⟨hX, hk.ne, hlen, hle, hlt, hc, hX.sg _ (List.mem_of_getElem? hc), hsn, hlow, by rw [hsn, low_app]; rfl, ?_, hk.pc, hi⟩
  have := congrArg List.length hlow
  rw [low_len', hlen, List.length_append] at this
  omega
noncomputable def elBody : Stmt → List Stmt | .If _ _ e _ => e | _ => []
theorem due_rest {a : DA} {T st hd pc : List Nat} {K ρ : Led} {S : CS} {k j c : Nat} (N : DuN T k j S pc c) :
    exsOk P 1 (envU a) (duV a T k (some (.int (j : Int))) (some (.str (low (subT2 T k j)))) (some (.int (abv S.nm pc : Nat)))) (duG P a S.rows st S.nm hd K ρ) ((elBody ((whBody (inner (T1 23) 10)).getD 3 (.Pass default))).drop 1)
      (fun f σ' μ' => f = .next ∧ DuM P a T k j (low (subT2 T k j)) (S.rows ++ [16 * abv S.nm pc + sIdx c + 1]) st (S.nm ++ [shw S.nm pc ++ [c]]) hd K ρ σ' μ') := by
  have hG := GOk.nil (P := P)
  have hj1 : ((j : Int) - 1) = ((j - 1 : Nat) : Int) := by have := N.lt; lia
  have hjl : j - 1 < T.length := by have := N.lt; have := N.le; lia
  have hT := N.X.T
  have hn := N.X.nm
  have hlen := N.len
  have hav : abv S.nm pc ≤ 40 := by
    unfold abv
    cases e : idxL S.nm pc with
    | none => exact Nat.zero_le _
    | some i => obtain ⟨_, _, _, h⟩ := idxL_some e; exact Nat.le_trans h N.X.nm
  have hsub : ∀ {value slice : Expr} {Q : V → Led → Prop} {μ : Led}, Q (.str [c]) μ → (∀ t u, subscripted slice false (.str (mkS T) t) (.int (((j - 1 : Nat)) : Int) u) = operate [.str (mkS T) t, .int (((j - 1 : Nat)) : Int) u] (getItem (.str (mkS T) t) (.int (((j - 1 : Nat)) : Int) u))) → subOk P 1 μ value slice (.str T) (.int (((j - 1 : Nat)) : Int)) Q := fun h hs =>
    sub_str (c := c) (Int.natCast_nonneg _) (by lia) (by rw [Int.toNat_natCast]; exact N.at_) h hs
  walk_at "ex"
  refine bin_mulR (by lia) ?_
  walk_at "ex"
  rw [hj1]
  refine hsub ?_ (fun _ _ => rfl)
  walk_at "ex"
  refine call_index (i := sIdx c) (rest := []) (sg_idx c N.cs) ?_
  have he : shownN S.nm ++ [(low (subT2 T k j), shw S.nm pc ++ [c])] = shownN (S.nm ++ [shw S.nm pc ++ [c]]) := by rw [shown_app, N.lw]
  have hll : (low (subT2 T k j)).length ≤ 40 := by rw [hlen]; lia
  have hsl : (low (subT2 T k j)).length ≤ sizeLine := by rw [sizeLine_eq]; lia
  have hns : (shownN S.nm).lookup (low (subT2 T k j)) = none := shown_none (fun e => by rw [e] at hlen; have hz : 0 = j - k := hlen; have := N.lt; lia) N.no
  have hsh := N.shw
  have hlk : (shownN (S.nm ++ [shw S.nm pc ++ [c]])).lookup (low (subT2 T k j)) = some (shw S.nm pc ++ [c]) := by
    rw [← he, List.lookup_append, hns]
    show (match low (subT2 T k j) == low (subT2 T k j) with | true => some (shw S.nm pc ++ [c]) | false => none) = _
    rw [beq_self_eq_true]
  walk_at "ex"
  · rw [vints_snoc S.rows (16 * abv S.nm pc + sIdx c + 1) _ (by push_cast; rfl)]
    walk_at "ex"
    refine evOk.sliceS (fun _ _ => rfl) ?_
    walk_at "ex"
    refine ⟨_, rfl, ?_⟩
    refine ⟨_, rfl, hsl, ?_⟩
    rw [pySlice_m1 N.ls]
    walk_at "ex"
    refine sub_sd (by walk_at "mem") (shown_some N.ne N.pn) ?_ (fun _ => rfl)
    walk_at "ex"
    rw [hj1]
    refine hsub ?_ (fun _ _ => rfl)
    walk_at "ex"
    refine cat (by lia) (show 1 ≤ 1000000 from by decide) ?_
    walk_at "ex"
    refine set_sd (by walk_at "upd") hns (by rw [sizeLine_eq]; unfold shownN; rw [List.length_cons, List.length_map]; lia) ?_
    rw [he]
    walk_at "ex"
    · rw [pcs_snoc S.nm N.lw]
      walk_at "ex"
      refine sub_sd (by walk_at "mem") hlk ?_ (fun _ => rfl)
      walk_at "ex"
      · rw [names_snoc]
        exact ⟨rfl, .mk _⟩
      · rw [sizeLine_eq, List.length_map]; lia
    · rw [sizeLine_eq, List.length_map]; lia
  · rw [sizeLine_eq, List.length_map]; exact Nat.le_trans N.X.rows (by decide)
theorem due_none {a : DA} {T st hd : List Nat} {K ρ : Led} {S : CS} {k j : Nat} {o3 : Option V} (b1 : Bi P "len" (.builtin "len")) (hI : DuI T k j S) (hX : DuX T S) (hi : idxL S.nm (subT2 T k j) = none) :
    exOk P 1 (envU a) (duV a T k (some (.int (j : Int))) (some (.str (low (subT2 T k j)))) o3) (duG P a S.rows st S.nm hd K ρ) ((whBody (inner (T1 23) 10)).getD 3 (.Pass default))
      (fun f σ' μ' => f = .next ∧ DuM P a T k j (low (subT2 T k j)) (S.rows ++ [16 * abv S.nm (subT2 T k (j - 1)) + sIdx (T.getD (j - 1) 0) + 1]) st (S.nm ++ [shw S.nm (subT2 T k (j - 1)) ++ [T.getD (j - 1) 0]]) hd K ρ σ' μ') := by
  have N := hI.duN hX hi
  have hp0 : subT2 T k (j - 1) = [] ∨ 1 < (low (subT2 T k j)).length := by
    by_cases h : subT2 T k (j - 1) = []
    · exact .inl h
    · right
      rw [N.ls, List.length_append, low_len']
      have := List.length_pos_iff.mpr h
      simp; lia
  have hp1 : subT2 T k (j - 1) = [] → ¬ 1 < (low (subT2 T k j)).length := fun h => by rw [N.ls, h]; exact show ¬ 1 < 1 from by decide
  generalize subT2 T k (j - 1) = pc at N hp0 hp1 ⊢
  generalize T.getD (j - 1) 0 = c at N ⊢
  have hG := GOk.b b1 GOk.nil
  have hT := hX.T
  have hn := hX.nm
  have hle := N.le
  have hlen := N.len
  have hll : (low (subT2 T k j)).length ≤ 40 := by rw [hlen]; lia
  have hsl : (low (subT2 T k j)).length ≤ sizeLine := by rw [sizeLine_eq]; lia
  walk_at "ex"
  refine cmp_inList (c := false) (by walk_at "mem") pcs_is (by rw [pcs_in, hi]; rfl) ?_
  walk_at "ex"
  rw [if_neg (by decide)]
  walk_at "ex"
  refine call_lenStr hsl ?_
  walk_at "ex"
  by_cases h1 : pc = []
  · rw [if_neg (by rw [decide_eq_true_eq]; exact fun h => hp1 h1 (Int.ofNat_lt.mp h))]
    have ea : abv S.nm pc = 0 := by rw [h1, abv_nil N.ne]
    refine evOk.cint ?_
    have e1 : (0 : Int) = ((abv S.nm pc : Nat) : Int) := by rw [ea]; rfl
    rw [e1]
    exact asOk.name (by walk_at "sto") (due_rest N) rfl rfl
  · rw [if_pos (by rw [decide_eq_true_eq]; have := hp0.resolve_left h1; lia)]
    obtain ⟨i, hpi⟩ := N.pn.resolve_left h1
    obtain ⟨hx, hno, hin⟩ := pcs_at hpi
    have ea := abv_some hpi
    walk_at "ex"
    refine meth_list F.slot_list_index F.type_list_index (by walk_at "mem") ?_
    walk_at "ex"
    refine evOk.sliceS (fun _ _ => rfl) ?_
    walk_at "ex"
    refine ⟨_, rfl, ?_⟩
    refine ⟨_, rfl, hsl, ?_⟩
    rw [pySlice_m1 N.ls]
    walk_at "ex"
    refine call_listIndex (j := i) (by walk_at "mem") pcs_is hx hno (by lia) ?_
    refine evOk.cint (bin_add ?_)
    have e1 : (i : Int) + 1 = ((abv S.nm pc : Nat) : Int) := by rw [ea]; rfl
    rw [e1]
    exact asOk.name (by walk_at "sto") (due_rest N) rfl rfl
end

section
variable {P : Par} {d : Nat} {μ : Led}
/-! the due answer: the loops -/
inductive DuJ (P : Par) (a : DA) (T : List Nat) (k : Nat) (S : CS) (st : List Nat) (hd : List Nat) (K ρ : Led) (o2 o3 : Option V) : Nat → Loc → Led → Prop
  | mk (j : Nat) (hI : DuI T k j S) : DuJ P a T k S st hd K ρ o2 o3 (T.length - j) (duV a T k (some (.int (j : Int))) o2 o3) (duG P a S.rows st S.nm hd K ρ)
inductive DuW (P : Par) (a : DA) (T : List Nat) (k : Nat) (S : CS) (st : List Nat) (hd : List Nat) (K ρ : Led) (o2 o3 : Option V) : Loc → Led → Prop
  | mk (j : Nat) (hI : DuI T k j S) (h : j < T.length → idxL S.nm (subT2 T k j) = none) : DuW P a T k S st hd K ρ o2 o3 (duV a T k (some (.int (j : Int))) o2 o3) (duG P a S.rows st S.nm hd K ρ)
theorem due_wh {a : DA} {T st hd : List Nat} {K ρ : Led} {S : CS} {k : Nat} {o2 o3 : Option V} (b1 : Bi P "len" (.builtin "len")) (hX : DuX T S) (hI0 : DuI T k (k + 1) S) :
    exOk P 1 (envU a) (duV a T k (some (.int ((k + 1 : Nat) : Int))) o2 o3) (duG P a S.rows st S.nm hd K ρ) ((whBody (inner (T1 23) 10)).getD 1 (.Pass default)) (fun f σ' μ' => f = .next ∧ DuW P a T k S st hd K ρ o2 o3 σ' μ') := by
  have hG := GOk.b b1 GOk.nil
  have hT := hX.T
  walk_at "ex"
  refine exOk.while_ (WhileOk.of (DuJ P a T k S st hd K ρ o2 o3) ⟨_, .mk _ hI0⟩ ?_)
  rintro J' hJ _ _ _ ⟨j, hI⟩
  have hle := hI.le
  have hlt := hI.lt
  walk_at "ex"
  refine call_lenStr (by rw [sizeLine_eq]; lia) ?_
  walk_at "ex"
  by_cases hj : j < T.length
  · rw [if_pos (decide_eq_true (Int.ofNat_lt.mpr hj))]
    walk_at "ex"
    refine evOk.sliceS (fun _ _ => rfl) ?_
    walk_at "ex"
    refine ⟨_, rfl, ?_⟩
    walk_at "ex"
    refine ⟨_, rfl, ?_⟩
    refine ⟨_, rfl, by rw [low_len', sizeLine_eq]; lia, ?_⟩
    rw [pySlice_sub (Nat.le_of_lt hlt) (by rw [low_len']; exact hle), sub_low]
    walk_at "ex"
    cases hi : idxL S.nm (subT2 T k j) with
    | none =>
      refine cmp_inList (c := false) (by walk_at "mem") pcs_is (by rw [pcs_in, hi]; rfl) ?_
      walk_at "ex"
      rw [if_neg (by decide)]
      exact ⟨rfl, .mk j hI fun _ => hi⟩
    | some i =>
      refine cmp_inList (c := true) (by walk_at "mem") pcs_is (by rw [pcs_in, hi]; rfl) ?_
      walk_at "ex"
      rw [if_pos rfl]
      walk_at "ex"
      rw [if_pos rfl]
      walk_at "ex"
      exact ⟨_, Nat.sub_lt_sub_left hj (Nat.lt_succ_self j), hJ _ _ _ (.mk (j + 1) (hI.next hj hi))⟩
  · rw [if_neg (by rw [decide_eq_true_eq]; exact fun h => hj (Int.ofNat_lt.mp h))]
    walk_at "ex"
    exact ⟨rfl, .mk j hI fun h => absurd h hj⟩
inductive DuO (P : Par) (a : DA) (T : List Nat) (K ρ : Led) : Nat → Loc → Led → Prop
  | mk (k : Nat) (S : CS) (o1 o2 o3 : Option V) (h : DuS T k S) : DuO P a T K ρ (T.length - k) (duV a T k o1 o2 o3) (duG P a S.fin (begs 0 S.segs) S.nm S.segs.flatten K ρ)
structure DuT (T : List Nat) : Prop where
  sg : ∀ c ∈ T, c ∈ sg
  T : T.length ≤ 40
theorem begs_snoc (segs : List (List Nat)) (q : List Nat) : begs 0 (segs ++ [q]) = begs 0 segs ++ [segs.flatten.length] := by
  rw [begs_app, Nat.zero_add]; rfl
theorem DuS.beg {T : List Nat} {k : Nat} {S : CS} (h : DuS T k S) (hT : ∀ c ∈ T, c ∈ sg) : S.segs.flatten.length = k := by
  have h1 := heard_low (t := T.take k) fun c hc => hT c (List.mem_of_mem_take hc)
  unfold heardF at h1
  rw [h.run] at h1
  have := congrArg List.length h1
  rw [low_len', low_len', List.length_take, Nat.min_eq_left h.le] at this
  exact this
theorem len_flat {q : List Nat} : ∀ {l : List (List Nat)}, q ∈ l → q.length ≤ l.flatten.length
  | a :: l, h => by
    rw [List.flatten_cons, List.length_append]
    rcases List.mem_cons.mp h with rfl | h
    · exact Nat.le_add_right _ _
    · exact Nat.le_trans (len_flat h) (Nat.le_add_left _ _)
theorem DuS.duX {T : List Nat} {k : Nat} {S : CS} (h : DuS T k S) (hT : DuT T) (hk : k < T.length) : DuX T S := by
  have hc : COk (T.take k) S := h.run ▸ cOk _ fun c hc => hT.sg c (List.mem_of_mem_take hc)
  have hl := h.beg hT.sg
  have hp := h.pcNil hk
  obtain ⟨e1, e2⟩ := CS.fin_nil hp
  rw [e2] at hl
  have hkT := hT.T
  have hall : ∀ q ∈ S.nm, q.length ≤ 40 := fun q hq => by
    have := len_flat hq
    lia
  have hn : S.nm.length ≤ 40 := by
    have := hc.nmLe
    rw [List.length_take] at this
    lia
  exact ⟨hT.sg, hT.T, hn, hall, by lia, by rw [hc.len]; exact hn⟩
end
namespace X_due_turn
noncomputable def stmt (P : Par) (a : DA) (T : List Nat) (K : Led) (ρ : Led) (S : CS) (k : Nat) (o1 : Option V) (o2 : Option V) (o3 : Option V) : Prop := ∀ (b1 : Bi P "len" (.builtin "len")), ∀ (hT : DuT T), ∀ (hS : DuS T k S), ∀ (hk : k < T.length), exsOk P 1 (envU a) (duV a T k o1 o2 o3) (duG P a S.fin (begs 0 S.segs) S.nm S.segs.flatten K ρ) (whBody (inner (T1 23) 10)) (fun f σ' μ' => f = .next ∧ ∃ n, n < T.length - k ∧ DuO P a T K ρ n σ' μ')
noncomputable def pck : DA × (List Nat) × Led × Led × CS × Nat × (Option V) × (Option V) × (Option V) := @Classical.epsilon (DA × (List Nat) × Led × Led × CS × Nat × (Option V) × (Option V) × (Option V)) ⟨((⟨0, .none, 0, 0, 0, 0, 0, 0, 0, 0, 0, 0, 0, 0⟩ : DA), ([] : List Nat), ([] : Led), ([] : Led), (⟨[], [], []⟩ : CS), (0 : Nat), (none : Option V), (none : Option V), (none : Option V))⟩ fun b => ∃ P, ¬ stmt P b.1 b.2.1 b.2.2.1 b.2.2.2.1 b.2.2.2.2.1 b.2.2.2.2.2.1 b.2.2.2.2.2.2.1 b.2.2.2.2.2.2.2.1 b.2.2.2.2.2.2.2.2
@[irreducible] noncomputable def a : DA := pck.1
@[irreducible] noncomputable def T : List Nat := pck.2.1
@[irreducible] noncomputable def K : Led := pck.2.2.1
@[irreducible] noncomputable def ρ : Led := pck.2.2.2.1
@[irreducible] noncomputable def S : CS := pck.2.2.2.2.1
@[irreducible] noncomputable def k : Nat := pck.2.2.2.2.2.1
@[irreducible] noncomputable def o1 : Option V := pck.2.2.2.2.2.2.1
@[irreducible] noncomputable def o2 : Option V := pck.2.2.2.2.2.2.2.1
@[irreducible] noncomputable def o3 : Option V := pck.2.2.2.2.2.2.2.2
theorem coreT (P : Par) : stmt P a T K ρ S k o1 o2 o3 := by
  intro b1 hT hS hk
  have hX := hS.duX hT hk
  have hb := hS.beg hT.sg
  obtain ⟨ef, es⟩ := CS.fin_nil (hS.pcNil hk)
  have hsl : S.segs.length = S.nm.length := by rw [es]
  have hT40 := hT.T
  rw [ef]
  refine exsOk.cut (R := fun σ' μ' => σ' = duV a T k (some (.int ((k + 1 : Nat) : Int))) o2 o3 ∧ μ' = duG P a S.rows (begs 0 S.segs) S.nm S.segs.flatten K ρ) ?_ ?_
  · have hG := GOk.nil (P := P)
    walk_at "ex"
    exact ⟨rfl, rfl, rfl⟩
  rintro _ _ ⟨rfl, rfl⟩
  refine exsOk.cut (due_wh b1 hX (hS.start hk)) ?_
  rintro _ _ ⟨j, hI, hj⟩
  have hjT := hI.le
  have hkj := hI.lt
  refine exsOk.cut (R := fun σ' μ' => σ' = duV a T k (some (.int (j : Int))) (some (.str (low (subT2 T k j)))) o3 ∧ μ' = duG P a S.rows (begs 0 S.segs) S.nm S.segs.flatten K ρ) ?_ ?_
  · have hG := GOk.nil (P := P)
    walk_at "ex"
    refine evOk.sliceS (fun _ _ => rfl) ?_
    walk_at "ex"
    refine ⟨_, rfl, ?_⟩
    walk_at "ex"
    refine ⟨_, rfl, ?_⟩
    refine ⟨_, rfl, by rw [low_len', sizeLine_eq]; lia, ?_⟩
    rw [pySlice_sub (Nat.le_of_lt hkj) (by rw [low_len']; exact hjT), sub_low]
    walk_at "ex"
    exact ⟨rfl, rfl, rfl⟩
  rintro _ _ ⟨rfl, rfl⟩
  have hfl : S.segs.flatten.length ≤ 1000 := by lia
  have hbl : (begs 0 S.segs).length ≤ 1000 := by rw [begs_len, hsl]; have := hX.nm; lia
  have hsub : (subT2 T k j).length ≤ 40 := by rw [sub_len hjT]; lia
  have hok := hI.ok hT.sg
  cases hi : idxL S.nm (subT2 T k j) with
  | some i =>
    have hjl : j = T.length := Nat.le_antisymm hjT (Nat.le_of_not_lt fun h => by rw [hj h] at hi; cases hi)
    obtain ⟨S', hS', hn, hf, hsg⟩ := hI.doneS hi hjl
    obtain ⟨q, hq, hql, _⟩ := idxL_some hi
    have hlook := shown_some hok.ne (p := subT2 T k j) (.inr ⟨i, hi⟩)
    have hqs := shw_some hi hq
    refine exsOk.cut (due_some hX hi) ?_
    rintro _ _ ⟨o3'⟩
    refine due_tail hlook hfl (by rw [hqs]; have := congrArg List.length hql; rw [low_len', low_len'] at this; lia) hbl ?_
    have e1 : S.segs.flatten ++ shw S.nm (subT2 T k j) = S'.segs.flatten := by rw [hsg, es]; simp
    have e2 : begs 0 S.segs ++ [k] = begs 0 S'.segs := by rw [hsg, ← es, begs_snoc, hb]
    rw [e1, e2, ← hf, ← hn]
    exact ⟨_, Nat.sub_lt_sub_left hk hkj, .mk j S' _ _ _ hS'⟩
  | none =>
    obtain ⟨S', hS', hn, hf, hsg⟩ := hI.doneN hi
    have N := hI.duN hX hi
    have hlk : (shownN (S.nm ++ [shw S.nm (subT2 T k (j - 1)) ++ [T.getD (j - 1) 0]])).lookup (low (subT2 T k j)) = some (shw S.nm (subT2 T k (j - 1)) ++ [T.getD (j - 1) 0]) := by
      have hns : (shownN S.nm).lookup (low (subT2 T k j)) = none := shown_none (fun e => by have := N.len; rw [e] at this; have hz : 0 = j - k := this; lia) hi
      rw [shown_app, N.lw, List.lookup_append, hns]
      show (match low (subT2 T k j) == low (subT2 T k j) with | true => some (shw S.nm (subT2 T k (j - 1)) ++ [T.getD (j - 1) 0]) | false => none) = _
      rw [beq_self_eq_true]
    refine exsOk.cut (due_none b1 hI hX hi) ?_
    rintro _ _ ⟨o3'⟩
    refine due_tail hlk hfl (by have := N.shw; rw [List.length_append]; show _ + 1 ≤ _; lia) hbl ?_
    have e1 : S.segs.flatten ++ (shw S.nm (subT2 T k (j - 1)) ++ [T.getD (j - 1) 0]) = S'.segs.flatten := by rw [hsg, hn, es]; simp
    have e2 : begs 0 S.segs ++ [k] = begs 0 S'.segs := by rw [hsg, hn, ← es, begs_snoc, hb]
    rw [e1, e2, ← hf, ← hn]
    exact ⟨_, Nat.sub_lt_sub_left hk hkj, .mk j S' _ _ _ hS'⟩
theorem allT (P : Par) (a : DA) (T : List Nat) (K : Led) (ρ : Led) (S : CS) (k : Nat) (o1 : Option V) (o2 : Option V) (o3 : Option V) : stmt P a T K ρ S k o1 o2 o3 := skol (Q := fun (P : Par) (b : DA × (List Nat) × Led × Led × CS × Nat × (Option V) × (Option V) × (Option V)) => stmt P b.1 b.2.1 b.2.2.1 b.2.2.2.1 b.2.2.2.2.1 b.2.2.2.2.2.1 b.2.2.2.2.2.2.1 b.2.2.2.2.2.2.2.1 b.2.2.2.2.2.2.2.2) (by with_unfolding_all exact coreT) P (a, T, K, ρ, S, k, o1, o2, o3)
end X_due_turn
section
variable {P : Par} {d : Nat} {μ : Led}
theorem due_turn {a : DA} {T : List Nat} {K ρ : Led} {S : CS} {k : Nat} {o1 o2 o3 : Option V} (b1 : Bi P "len" (.builtin "len")) (hT : DuT T) (hS : DuS T k S) (hk : k < T.length) : exsOk P 1 (envU a) (duV a T k o1 o2 o3) (duG P a S.fin (begs 0 S.segs) S.nm S.segs.flatten K ρ) (whBody (inner (T1 23) 10)) (fun f σ' μ' => f = .next ∧ ∃ n, n < T.length - k ∧ DuO P a T K ρ n σ' μ') := X_due_turn.allT P a T K ρ S k o1 o2 o3 b1 hT hS hk
end

section
variable {P : Par} {d : Nat} {μ : Led}
/-! the due answer: what is told -/
inductive DuE (P : Par) (a : DA) (T : List Nat) (K ρ : Led) : Loc → Led → Prop
  | mk (o1 o2 o3 : Option V) : DuE P a T K ρ (duV a T T.length o1 o2 o3) (duG P a (runC T).fin (begs 0 (runC T).segs) (runC T).nm (runC T).segs.flatten K ρ)
theorem due_loop {a : DA} {T : List Nat} {K ρ : Led} (b1 : Bi P "len" (.builtin "len")) (hT : DuT T) :
    exOk P 1 (envU a) (duV a T 0 none none none) (duG P a [] [] [] [] K ρ) (inner (T1 23) 10) (fun f σ' μ' => f = .next ∧ DuE P a T K ρ σ' μ') := by
  have hG := GOk.b b1 GOk.nil
  have hT40 := hT.T
  walk_at "ex"
  refine exOk.while_ (WhileOk.of (DuO P a T K ρ) ⟨_, .mk 0 ⟨[], [], []⟩ none none none (DuS.zero T)⟩ ?_)
  rintro J' hJ _ _ _ ⟨k, S, o1, o2, o3, hS⟩
  walk_at "ex"
  refine call_lenStr (by rw [sizeLine_eq]; lia) ?_
  walk_at "ex"
  by_cases hk : k < T.length
  · rw [decide_eq_true (Int.ofNat_lt.mpr hk)]
    rw [if_pos rfl]
    refine exsOk.mono (due_turn b1 hT hS hk) fun f σ' μ' h => ?_
    obtain ⟨rfl, n, hn, h⟩ := h
    exact ⟨n, hn, hJ _ _ _ h⟩
  · rw [decide_eq_false (fun h => hk (Int.ofNat_lt.mp h))]
    rw [if_neg (by decide)]
    have e : k = T.length := Nat.le_antisymm hS.le (Nat.le_of_not_lt hk)
    subst e
    have hr := hS.run
    rw [List.take_length] at hr
    subst hr
    exact ⟨rfl, .mk _ _ _⟩
noncomputable abbrev duV3 (a : DA) (T : List Nat) (tl : Addr) (o1 o2 o3 o4 o5 : Option V) : Loc := [("pairs", some (R a.pl)), ("signs", some (.str sg)), ("text", some (.str T)), ("spots", some (R a.sl)), ("small", some (.str (low T))), ("shown", some (R a.shl)), ("pieces", some (R a.pcl)), ("names", some (R a.nml)), ("starts", some (R a.stl)), ("start", some (.int (T.length : Int))), ("stop", o1), ("piece", o2), ("above", o3), ("told", some (R tl)), ("places", o4), ("rest", o5), ("number", none)]
noncomputable abbrev duG3 (P : Par) (a : DA) (S : CS) (oP oE : Option V) (K ρ : Led) : Led := (a.rl, .list (vints S.fin)) :: (a.stl, .list (vints (begs 0 S.segs))) :: (a.nml, .list (S.nm.map V.str)) :: (a.pcl, .list (pcsV S.nm)) :: (a.shl, sdO P (shownN S.nm)) :: (K ++ ((a.cP, .cell oP) :: (a.cE, .cell oE) :: (a.cH, .cell (some (.str S.segs.flatten))) :: (a.cR, .cell (some (R a.rl))) :: ρ))
inductive DuT1 (P : Par) (a : DA) (T : List Nat) (S : CS) (tl : Addr) (vs : List V) (J K ρ : Led) (o1 o2 o3 o4 o5 oP oE : Option V) : Loc → Led → Prop
  | mk (J' : Led) (h : ∀ p ∈ J, p ∈ J') : DuT1 P a T S tl vs J K ρ o1 o2 o3 o4 o5 oP oE (duV3 a T tl o1 o2 o3 o4 o5) (J' ++ ((tl, .list vs) :: duG3 P a S oP oE K ρ))
structure DuF (S : CS) (T : List Nat) : Prop where
  x : ReadX S
  k : COk T S
theorem mem_perm {p : Addr × AObj} {μ : Led} (h : p ∈ μ) : ∃ rest, μ.Perm ([p] ++ rest) := by
  obtain ⟨s, t, rfl⟩ := List.append_of_mem h
  exact ⟨s ++ t, List.perm_middle⟩
theorem vints_get {l : List Nat} {i : Nat} {v : V} (h : (vints l)[i]? = some v) : ∃ x, l[i]? = some x ∧ v = .int x := by
  rw [List.getElem?_map] at h
  cases e : l[i]? with
  | none => rw [e] at h; cases h
  | some x => rw [e] at h; cases h; exact ⟨x, rfl, rfl⟩
theorem due_past {a : DA} {T : List Nat} {S : CS} {tl : Addr} {vs : List V} {J K ρ : Led} {o1 o2 o3 o4 o5 oP : Option V} {e : Nat} (b1 : Bi P "len" (.builtin "len")) (hF : DuF S T) :
    exOk P 1 (envU a) (duV3 a T tl o1 o2 o3 o4 o5) (J ++ ((tl, .list vs) :: duG3 P a S oP (some (.int (e : Int))) K ρ)) ((forBody (inner (T1 23) 12)).getD 0 (.Pass default))
      (fun f σ' μ' => f = .next ∧ DuT1 P a T S tl vs J K ρ o1 o2 o3 o4 o5 (some (.int (past S.segs e : Nat))) (some (.int (e : Int))) σ' μ') := by
  have hG := GOk.b b1 GOk.nil
  have hbl : (begs 0 S.segs).length ≤ 41 := by rw [begs_len, ← hF.k.finLen]; exact hF.x.fin
  have hpb := past_begs S.segs 0 e hF.k.segsNe
  rw [Nat.zero_add] at hpb
  walk_at "ex"
  refine evOk.listcomp [("x", none)] [("end", a.cE)] ?_ rfl (fun _ => rfl) (.inr ⟨_, rfl⟩) (by decide) rfl (by decide)
  walk_at "ex"
  refine it_list (xs := vints (begs 0 S.segs)) (by walk_at "mem") fun C => ?_
  refine CompOk.one (x0 := "x") (by rw [List.length_map, sizeLine_eq]; lia) (fun _ => _) (fun j => vints (((begs 0 S.segs).take j).filter fun x => decide (x < e))) rfl rfl (fun _ => mem_perm (by walk_at "mem")) (fun j v o hv => ?_) ?_
  · obtain ⟨x, hx, rfl⟩ := vints_get hv
    walk_at "ex"
    show isOk _ _ _ _ _ _ _
    walk_at "ex"
    have hstep : ((begs 0 S.segs).take (j + 1)).filter (fun x => decide (x < e)) = ((begs 0 S.segs).take j).filter (fun x => decide (x < e)) ++ (if decide (x < e) then [x] else []) := by
      rw [List.take_add_one, hx, List.filter_append]
      show _ ++ List.filter _ [x] = _
      rw [List.filter_cons]
      rfl
    rw [hstep]
    by_cases hxe : x < e
    · rw [decide_eq_true (Int.ofNat_lt.mpr hxe), decide_eq_true hxe, if_pos rfl, if_pos rfl]
      walk_at "ex"
      exact ⟨_, rfl, rfl, vints_snoc _ _ _ rfl⟩
    · rw [decide_eq_false (fun h => hxe (Int.ofNat_lt.mp h)), decide_eq_false hxe, if_neg (by decide), if_neg (by decide), List.append_nil]
      exact ⟨_, rfl, rfl, rfl⟩
  · intro D
    rw [List.length_map, List.take_length]
    walk_at "ex"
    · rw [List.length_map, hpb]
      exact ⟨rfl, .mk (_ :: J) fun p hp => List.mem_cons_of_mem _ hp⟩
    · rw [List.length_map, hpb, sizeLine_eq]; have := past_le S.segs e; rw [begs_len] at hbl; lia
theorem due_rst {a : DA} {T : List Nat} {S : CS} {tl : Addr} {vs : List V} {J K ρ : Led} {o1 o2 o3 o4 o5 : Option V} {e : Nat} (b1 : Bi P "len" (.builtin "len")) (b2 : Bi P "range" (.type "range")) (b3 : Bi P "sum" (.builtin "sum")) (hF : DuF S T) :
    exOk P 1 (envU a) (duV3 a T tl o1 o2 o3 o4 o5) (J ++ ((tl, .list vs) :: duG3 P a S (some (.int (past S.segs e : Nat))) (some (.int (e : Int))) K ρ)) ((forBody (inner (T1 23) 12)).getD 1 (.Pass default))
      (fun f σ' μ' => f = .next ∧ DuT1 P a T S tl vs J K ρ o1 o2 o3 o4 (some (.int (stN S e : Int))) (some (.int (past S.segs e : Nat))) (some (.int (e : Int))) σ' μ') := by
  have hG := GOk.b b1 (GOk.b b2 (GOk.b b3 GOk.nil))
  have hfl : S.fin.length ≤ 41 := hF.x.fin
  have hpf : past S.segs e ≤ S.fin.length := by rw [hF.k.finLen]; exact past_le _ _
  have hlt := hF.k.finLt hF.x
  have hsN : stN S e = undig 10 (S.fin.drop (past S.segs e)) := rfl
  have hsum := sum_undig (S.fin.drop (past S.segs e))
  rw [← hsN, List.length_drop] at hsum
  generalize past S.segs e = p at *
  generalize stN S e = w at *
  walk_at "ex"
  refine evOk.listcomp [("k", none)] [("rows", a.cR), ("past", a.cP)] ?_ rfl (fun _ => rfl) (.inl rfl) (by decide) rfl (by decide)
  walk_at "ex"
  · rename_i rg
    rw [List.length_map]
    refine it_range (n := S.fin.length - p) (by walk_at "mem") (small_one (by lia) (by lia) (by lia) (by lia)) (rsize (by lia)) fun C => ?_
    refine CompOk.map1 (ys := (((List.range (S.fin.length - p)).map fun (i : Nat) => (((S.fin.drop p).getD i 0 : Nat) : Int) * ((1024 ^ i : Nat) : Int)).map .int)) (by rw [sizeLine_eq, irange_len]; lia) rfl rfl ⟨_, List.Perm.refl _⟩ (by rw [irange_len]; simp) (fun i v y hv hy => ?_) ?_
    · obtain ⟨hi, rfl⟩ := irange_get hv
      rw [List.map_map] at hy
      have hy2 : y = V.int ((((S.fin.drop p).getD i 0 : Nat) : Int) * ((1024 ^ i : Nat) : Int)) := (map_get hy).2
      subst hy2
      have hpi : p + i < S.fin.length := by lia
      have hat : S.fin[p + i]? = some ((S.fin.drop p).getD i 0) := by rw [List.getD_eq_getElem?_getD, List.getElem?_drop, List.getElem?_eq_getElem hpi]; rfl
      have hl := hlt _ (List.mem_of_getElem? hat)
      generalize (S.fin.drop p).getD i 0 = r at *
      walk_at "ex"
      refine sub_list (v := .int (r : Int)) (by walk_at "mem") (by lia) (by lia) (by rw [← Int.natCast_add, Int.toNat_natCast, List.getElem?_map, hat]; rfl) ?_ (fun _ => rfl)
      walk_at "ex"
      rw [show (p : Int) + (i : Int) - (p : Int) = (i : Int) from by lia]
      refine bin_pow (by lia) (by lia) (by decide) ?_
      rw [show (1024 : Int) ^ (i : Int).toNat = ((1024 ^ i : Nat) : Int) from by rw [Int.toNat_natCast]; push_cast; rfl]
      walk_at "ex"
      refine bin_mulL (by lia) ?_
      walk_at "ex"
      exact ⟨rfl, rfl⟩
    · intro D
      walk_at "ex"
      refine call_sumList (by walk_at "mem") ?_
      rw [hsum]
      walk_at "ex"
      exact ⟨rfl, .mk (_ :: _ :: J) fun p hp => List.mem_cons_of_mem _ (List.mem_cons_of_mem _ hp)⟩
  · rw [List.length_map, sizeLine_eq]; lia
theorem pySlice_toN {α : Type} (xs : List α) (n : Nat) : pySlice xs none (some (n : Int)) = xs.take n := by
  show (xs.drop 0).take (clipAt xs.length n - 0) = _
  have : clipAt xs.length (n : Int) = min n xs.length := by unfold clipAt; omega
  rw [this, List.drop_zero, Nat.sub_zero]
  exact List.take_eq_take_min.symm
noncomputable def dueD (S : CS) (s : Spt) : DV := wordD S (s.1.map (S.segs.flatten.getD · 0), s.2)
inductive DuT2 (P : Par) (a : DA) (T : List Nat) (S : CS) (tl : Addr) (vs : List V) (ds : List DV) (K ρ : Led) (o1 o2 o3 o4 o5 oP oE : Option V) : Loc → Led → Prop
  | mk (vs' : List V) (J' : Led) (h : DeepL J' 3 ds vs') (hl : vs'.length = vs.length + 1) : DuT2 P a T S tl vs ds K ρ o1 o2 o3 o4 o5 oP oE (duV3 a T tl o1 o2 o3 o4 o5) (J' ++ ((tl, .list vs') :: duG3 P a S oP oE K ρ))
end
namespace X_due_app
noncomputable def stmt (P : Par) (a : DA) (T : List Nat) (S : CS) (tl : Addr) (ql : Addr) (vs : List V) (ds : List DV) (J : Led) (K : Led) (ρ : Led) (o1 : Option V) (o2 : Option V) (o3 : Option V) (oE : Option V) (w : List Nat) (e : Nat) : Prop := ∀ (hF : DuF S T), ∀ (hm : (ql, AObj.list (vints w)) ∈ K), ∀ (hw : ∀ k ∈ w, k < S.segs.flatten.length), ∀ (hwl : w.length ≤ 40), ∀ (hd : DeepL J 3 ds vs), ∀ (hv : vs.length ≤ 20), exOk P 1 (envU a) (duV3 a T tl o1 o2 o3 (some (R ql)) (some (.int (stN S e : Int)))) (J ++ ((tl, .list vs) :: duG3 P a S (some (.int (past S.segs e : Nat))) oE K ρ)) ((forBody (inner (T1 23) 12)).getD 2 (.Pass default))
      (fun f σ' μ' => f = .next ∧ DuT2 P a T S tl vs (ds ++ [dueD S (w, e)]) K ρ o1 o2 o3 (some (R ql)) (some (.int (stN S e : Int))) (some (.int (past S.segs e : Nat))) oE σ' μ')
noncomputable def pck : DA × (List Nat) × CS × Addr × Addr × (List V) × (List DV) × Led × Led × Led × (Option V) × (Option V) × (Option V) × (Option V) × (List Nat) × Nat := @Classical.epsilon (DA × (List Nat) × CS × Addr × Addr × (List V) × (List DV) × Led × Led × Led × (Option V) × (Option V) × (Option V) × (Option V) × (List Nat) × Nat) ⟨((⟨0, .none, 0, 0, 0, 0, 0, 0, 0, 0, 0, 0, 0, 0⟩ : DA), ([] : List Nat), (⟨[], [], []⟩ : CS), (0 : Addr), (0 : Addr), ([] : List V), ([] : List DV), ([] : Led), ([] : Led), ([] : Led), (none : Option V), (none : Option V), (none : Option V), (none : Option V), ([] : List Nat), (0 : Nat))⟩ fun b => ∃ P, ¬ stmt P b.1 b.2.1 b.2.2.1 b.2.2.2.1 b.2.2.2.2.1 b.2.2.2.2.2.1 b.2.2.2.2.2.2.1 b.2.2.2.2.2.2.2.1 b.2.2.2.2.2.2.2.2.1 b.2.2.2.2.2.2.2.2.2.1 b.2.2.2.2.2.2.2.2.2.2.1 b.2.2.2.2.2.2.2.2.2.2.2.1 b.2.2.2.2.2.2.2.2.2.2.2.2.1 b.2.2.2.2.2.2.2.2.2.2.2.2.2.1 b.2.2.2.2.2.2.2.2.2.2.2.2.2.2.1 b.2.2.2.2.2.2.2.2.2.2.2.2.2.2.2
@[irreducible] noncomputable def a : DA := pck.1
@[irreducible] noncomputable def T : List Nat := pck.2.1
@[irreducible] noncomputable def S : CS := pck.2.2.1
@[irreducible] noncomputable def tl : Addr := pck.2.2.2.1
@[irreducible] noncomputable def ql : Addr := pck.2.2.2.2.1
@[irreducible] noncomputable def vs : List V := pck.2.2.2.2.2.1
@[irreducible] noncomputable def ds : List DV := pck.2.2.2.2.2.2.1
@[irreducible] noncomputable def J : Led := pck.2.2.2.2.2.2.2.1
@[irreducible] noncomputable def K : Led := pck.2.2.2.2.2.2.2.2.1
@[irreducible] noncomputable def ρ : Led := pck.2.2.2.2.2.2.2.2.2.1
@[irreducible] noncomputable def o1 : Option V := pck.2.2.2.2.2.2.2.2.2.2.1
@[irreducible] noncomputable def o2 : Option V := pck.2.2.2.2.2.2.2.2.2.2.2.1
@[irreducible] noncomputable def o3 : Option V := pck.2.2.2.2.2.2.2.2.2.2.2.2.1
@[irreducible] noncomputable def oE : Option V := pck.2.2.2.2.2.2.2.2.2.2.2.2.2.1
@[irreducible] noncomputable def w : List Nat := pck.2.2.2.2.2.2.2.2.2.2.2.2.2.2.1
@[irreducible] noncomputable def e : Nat := pck.2.2.2.2.2.2.2.2.2.2.2.2.2.2.2
theorem coreT (P : Par) : stmt P a T S tl ql vs ds J K ρ o1 o2 o3 oE w e := by
  intro hF hm hw hwl hd hv
  have hG := GOk.nil (P := P)
  have hfl : S.segs.flatten.length ≤ 40 := hF.x.all
  have hK : ∀ {ρ2 : Led}, (ql, AObj.list (vints w)) ∈ ρ2 ++ (J ++ ((tl, .list vs) :: duG3 P a S (some (.int (past S.segs e : Nat))) oE K ρ)) := List.mem_append_right _ (List.mem_append_right _ (.tail _ (.tail _ (.tail _ (.tail _ (.tail _ (.tail _ (List.mem_append_left _ hm))))))))
  have hKm := hK (ρ2 := [])
  walk_at "ex"
  refine evOk.listcomp [("k", none)] [("heard", a.cH)] ?_ rfl (fun _ => rfl) (.inl rfl) (by decide) rfl (by decide)
  walk_at "ex"
  refine it_list (xs := vints w) hKm fun C => ?_
  refine CompOk.map1 (ys := chars (w.map (S.segs.flatten.getD · 0))) (by rw [List.length_map, sizeLine_eq]; lia) rfl rfl (mem_perm hKm) (by unfold chars; simp) (fun i v y hv hy => ?_) ?_
  · obtain ⟨k, hk, rfl⟩ := vints_get hv
    obtain ⟨c, hc, rfl⟩ := chars_get hy
    rw [List.getElem?_map, hk] at hc
    cases hc
    have hkl := hw k (List.mem_of_getElem? hk)
    walk_at "ex"
    refine sub_str (c := S.segs.flatten.getD k 0) (Int.natCast_nonneg _) (by lia) (by rw [Int.toNat_natCast]; exact getD_at hkl) ?_ (fun _ _ => rfl)
    walk_at "ex"
    exact ⟨rfl, rfl⟩
  · intro D
    walk_at "ex"
    refine join_chars (w := w.map (S.segs.flatten.getD · 0)) (by walk_at "mem") (by rw [List.length_map]; lia) ?_
    walk_at "ex"
    refine evOk.sliceL (fun _ _ => rfl) ?_
    walk_at "ex"
    refine ⟨_, rfl, ?_⟩
    refine ⟨_, _, rfl, by walk_at "mem", by rw [List.length_map, sizeLine_eq]; have := hF.x.nm; lia, fun l2 => ?_⟩
    rw [pySlice_toN, ← List.map_take, ← keys_bk]
    walk_at "ex"
    · refine ⟨rfl, .mk _ ((l2, .list (keysV (bkN S e))) :: _ :: J) ?_ ?_⟩
      · exact (hd.mono fun p hp => List.mem_cons_of_mem _ (List.mem_cons_of_mem _ hp)).snoc (wordD_deep List.mem_cons_self)
      · rw [List.length_append]; rfl
    · rw [sizeLine_eq]; lia
theorem allT (P : Par) (a : DA) (T : List Nat) (S : CS) (tl : Addr) (ql : Addr) (vs : List V) (ds : List DV) (J : Led) (K : Led) (ρ : Led) (o1 : Option V) (o2 : Option V) (o3 : Option V) (oE : Option V) (w : List Nat) (e : Nat) : stmt P a T S tl ql vs ds J K ρ o1 o2 o3 oE w e := skol (Q := fun (P : Par) (b : DA × (List Nat) × CS × Addr × Addr × (List V) × (List DV) × Led × Led × Led × (Option V) × (Option V) × (Option V) × (Option V) × (List Nat) × Nat) => stmt P b.1 b.2.1 b.2.2.1 b.2.2.2.1 b.2.2.2.2.1 b.2.2.2.2.2.1 b.2.2.2.2.2.2.1 b.2.2.2.2.2.2.2.1 b.2.2.2.2.2.2.2.2.1 b.2.2.2.2.2.2.2.2.2.1 b.2.2.2.2.2.2.2.2.2.2.1 b.2.2.2.2.2.2.2.2.2.2.2.1 b.2.2.2.2.2.2.2.2.2.2.2.2.1 b.2.2.2.2.2.2.2.2.2.2.2.2.2.1 b.2.2.2.2.2.2.2.2.2.2.2.2.2.2.1 b.2.2.2.2.2.2.2.2.2.2.2.2.2.2.2) (by with_unfolding_all exact coreT) P (a, T, S, tl, ql, vs, ds, J, K, ρ, o1, o2, o3, oE, w, e)
end X_due_app
section
variable {P : Par} {d : Nat} {μ : Led}
theorem due_app {a : DA} {T : List Nat} {S : CS} {tl ql : Addr} {vs : List V} {ds : List DV} {J K ρ : Led} {o1 o2 o3 oE : Option V} {w : List Nat} {e : Nat} (hF : DuF S T) (hm : (ql, AObj.list (vints w)) ∈ K) (hw : ∀ k ∈ w, k < S.segs.flatten.length) (hwl : w.length ≤ 40) (hd : DeepL J 3 ds vs) (hv : vs.length ≤ 20) : exOk P 1 (envU a) (duV3 a T tl o1 o2 o3 (some (R ql)) (some (.int (stN S e : Int)))) (J ++ ((tl, .list vs) :: duG3 P a S (some (.int (past S.segs e : Nat))) oE K ρ)) ((forBody (inner (T1 23) 12)).getD 2 (.Pass default))
      (fun f σ' μ' => f = .next ∧ DuT2 P a T S tl vs (ds ++ [dueD S (w, e)]) K ρ o1 o2 o3 (some (R ql)) (some (.int (stN S e : Int))) (some (.int (past S.segs e : Nat))) oE σ' μ') := X_due_app.allT P a T S tl ql vs ds J K ρ o1 o2 o3 oE w e hF hm hw hwl hd hv
end

section
variable {P : Par} {d : Nat} {μ : Led}
/-! the due answer: the loop over the spots -/
theorem asOk.mono {t v} {env : Env} {σ : Loc} {Q Q' : Loc → Led → Prop} (h : asOk P d env σ μ t v Q) (hq : ∀ σ' μ', Q σ' μ' → Q' σ' μ') : asOk P d env σ μ t v Q' := fun A s β y hR hI ry => (h A s β y hR hI ry).mono fun _ β1 h1 le1 hX => by
  obtain ⟨σ', μ', I1, q⟩ := hX
  exact ⟨σ', μ', I1, hq _ _ q⟩
inductive DuTl (P : Par) (a : DA) (T : List Nat) (S : CS) (svs : List V) (J0 K1 ρ : Led) (tl : Addr) (sp : List Spt) (o1 o2 o3 : Option V) : Nat → Loc → Led → Prop
  | mk (i : Nat) (vs : List V) (J : Led) (o4 o5 oP oE : Option V) (h : DeepL J 3 ((sp.take i).map (dueD S)) vs) (hl : vs.length = i) : DuTl P a T S svs J0 K1 ρ tl sp o1 o2 o3 i (duV3 a T tl o1 o2 o3 o4 o5) (J ++ ((tl, .list vs) :: duG3 P a S oP oE (J0 ++ ((a.sl, .list svs) :: K1)) ρ))
theorem du_mem {a : DA} {S : CS} {p q : Addr × AObj} {J K ρ : Led} {oP oE : Option V} (h : p ∈ K) : p ∈ J ++ (q :: duG3 P a S oP oE K ρ) := List.mem_append_right _ (.tail _ (.tail _ (.tail _ (.tail _ (.tail _ (.tail _ (List.mem_append_left _ h)))))))
structure DuSp (S : CS) (sp : List Spt) : Prop where
  lt : ∀ s ∈ sp, ∀ k ∈ s.1, k < S.segs.flatten.length
  wl : ∀ s ∈ sp, s.1.length ≤ 40
  len : sp.length ≤ 20
end
namespace X_due_for
noncomputable def stmt (P : Par) (a : DA) (T : List Nat) (S : CS) (tl : Addr) (svs : List V) (J0 : Led) (K1 : Led) (ρ : Led) (sp : List Spt) (o1 : Option V) (o2 : Option V) (o3 : Option V) : Prop := ∀ (b1 : Bi P "len" (.builtin "len")), ∀ (b2 : Bi P "range" (.type "range")), ∀ (b3 : Bi P "sum" (.builtin "sum")), ∀ (hF : DuF S T), ∀ (hR : SpRel J0 sp svs), ∀ (hsp : DuSp S sp), exOk P 1 (envU a) (duV3 a T tl o1 o2 o3 none none) ((tl, .list []) :: duG3 P a S none none (J0 ++ ((a.sl, .list svs) :: K1)) ρ) (inner (T1 23) 12) (fun f σ' μ' => f = .next ∧ DuTl P a T S svs J0 K1 ρ tl sp o1 o2 o3 sp.length σ' μ')
noncomputable def pck : DA × (List Nat) × CS × Addr × (List V) × Led × Led × Led × (List Spt) × (Option V) × (Option V) × (Option V) := @Classical.epsilon (DA × (List Nat) × CS × Addr × (List V) × Led × Led × Led × (List Spt) × (Option V) × (Option V) × (Option V)) ⟨((⟨0, .none, 0, 0, 0, 0, 0, 0, 0, 0, 0, 0, 0, 0⟩ : DA), ([] : List Nat), (⟨[], [], []⟩ : CS), (0 : Addr), ([] : List V), ([] : Led), ([] : Led), ([] : Led), ([] : List Spt), (none : Option V), (none : Option V), (none : Option V))⟩ fun b => ∃ P, ¬ stmt P b.1 b.2.1 b.2.2.1 b.2.2.2.1 b.2.2.2.2.1 b.2.2.2.2.2.1 b.2.2.2.2.2.2.1 b.2.2.2.2.2.2.2.1 b.2.2.2.2.2.2.2.2.1 b.2.2.2.2.2.2.2.2.2.1 b.2.2.2.2.2.2.2.2.2.2.1 b.2.2.2.2.2.2.2.2.2.2.2
@[irreducible] noncomputable def a : DA := pck.1
@[irreducible] noncomputable def T : List Nat := pck.2.1
@[irreducible] noncomputable def S : CS := pck.2.2.1
@[irreducible] noncomputable def tl : Addr := pck.2.2.2.1
@[irreducible] noncomputable def svs : List V := pck.2.2.2.2.1
@[irreducible] noncomputable def J0 : Led := pck.2.2.2.2.2.1
@[irreducible] noncomputable def K1 : Led := pck.2.2.2.2.2.2.1
@[irreducible] noncomputable def ρ : Led := pck.2.2.2.2.2.2.2.1
@[irreducible] noncomputable def sp : List Spt := pck.2.2.2.2.2.2.2.2.1
@[irreducible] noncomputable def o1 : Option V := pck.2.2.2.2.2.2.2.2.2.1
@[irreducible] noncomputable def o2 : Option V := pck.2.2.2.2.2.2.2.2.2.2.1
@[irreducible] noncomputable def o3 : Option V := pck.2.2.2.2.2.2.2.2.2.2.2
theorem coreT (P : Par) : stmt P a T S tl svs J0 K1 ρ sp o1 o2 o3 := by
  intro b1 b2 b3 hF hR hsp
  have hG := GOk.b b1 (GOk.b b2 (GOk.b b3 GOk.nil))
  walk_at "ex"
  refine it_list (xs := svs) (du_mem (J := []) (List.mem_append_right _ List.mem_cons_self)) ?_
  refine ForOk.of (DuTl P a T S svs J0 K1 ρ tl sp o1 o2 o3) (.mk 0 [] [] none none none none trivial rfl) ?_ ?_ ?_
  · rintro i σ μ' ⟨vs, J, o4, o5, oP, oE, _, _⟩
    exact mem_perm (du_mem (List.mem_append_right _ List.mem_cons_self))
  · rintro J' hJ i v σ μ' hv ⟨vs, J, o4, o5, oP, oE, h, hl⟩
    have hi : i < sp.length := by rw [← hR.1]; exact (List.getElem?_eq_some_iff.mp hv).1
    have hs := List.getElem?_eq_getElem hi
    generalize sp[i] = s at hs
    obtain ⟨ql, hq, hm⟩ := hR.2 i s hs
    rw [hv] at hq
    injection hq with hq
    subst hq
    have hsm := List.mem_of_getElem? hs
    have hln := hsp.len
    refine asOk.mono (Q := fun σ' μ' => σ' = duV3 a T tl o1 o2 o3 (some (R ql)) o5 ∧ μ' = J ++ ((tl, .list vs) :: duG3 P a S oP (some (.int (s.2 : Int))) (J0 ++ ((a.sl, .list svs) :: K1)) ρ)) (by walk_at "ex"; exact ⟨rfl, rfl⟩) ?_
    rintro _ _ ⟨rfl, rfl⟩
    refine exsOk.cut (due_past b1 hF) ?_
    rintro _ _ ⟨J1, h1⟩
    refine exsOk.cut (due_rst b1 b2 b3 hF) ?_
    rintro _ _ ⟨J2, h2⟩
    refine exsOk.cut (due_app hF (List.mem_append_left _ hm) (hsp.lt s hsm) (hsp.wl s hsm) (h.mono fun p hp => h2 _ (h1 _ hp)) (by lia)) ?_
    rintro _ _ ⟨vs', J3, h3, hl3⟩
    have hsp1 : (sp.take (i + 1)).map (dueD S) = (sp.take i).map (dueD S) ++ [dueD S (s.1, s.2)] := by rw [List.take_add_one, hs, List.map_append]; rfl
    refine exsOk.nil (hJ _ _ _ (.mk (i + 1) vs' J3 _ _ _ _ ?_ (by rw [hl3, hl])))
    rw [hsp1]
    exact h3
  · intro σ μ' h
    rw [hR.1] at h
    exact ⟨rfl, h⟩
theorem allT (P : Par) (a : DA) (T : List Nat) (S : CS) (tl : Addr) (svs : List V) (J0 : Led) (K1 : Led) (ρ : Led) (sp : List Spt) (o1 : Option V) (o2 : Option V) (o3 : Option V) : stmt P a T S tl svs J0 K1 ρ sp o1 o2 o3 := skol (Q := fun (P : Par) (b : DA × (List Nat) × CS × Addr × (List V) × Led × Led × Led × (List Spt) × (Option V) × (Option V) × (Option V)) => stmt P b.1 b.2.1 b.2.2.1 b.2.2.2.1 b.2.2.2.2.1 b.2.2.2.2.2.1 b.2.2.2.2.2.2.1 b.2.2.2.2.2.2.2.1 b.2.2.2.2.2.2.2.2.1 b.2.2.2.2.2.2.2.2.2.1 b.2.2.2.2.2.2.2.2.2.2.1 b.2.2.2.2.2.2.2.2.2.2.2) (by with_unfolding_all exact coreT) P (a, T, S, tl, svs, J0, K1, ρ, sp, o1, o2, o3)
end X_due_for
section
variable {P : Par} {d : Nat} {μ : Led}
theorem due_for {a : DA} {T : List Nat} {S : CS} {tl : Addr} {svs : List V} {J0 K1 ρ : Led} {sp : List Spt} {o1 o2 o3 : Option V} (b1 : Bi P "len" (.builtin "len")) (b2 : Bi P "range" (.type "range")) (b3 : Bi P "sum" (.builtin "sum")) (hF : DuF S T) (hR : SpRel J0 sp svs) (hsp : DuSp S sp) : exOk P 1 (envU a) (duV3 a T tl o1 o2 o3 none none) ((tl, .list []) :: duG3 P a S none none (J0 ++ ((a.sl, .list svs) :: K1)) ρ) (inner (T1 23) 12) (fun f σ' μ' => f = .next ∧ DuTl P a T S svs J0 K1 ρ tl sp o1 o2 o3 sp.length σ' μ') := X_due_for.allT P a T S tl svs J0 K1 ρ sp o1 o2 o3 b1 b2 b3 hF hR hsp
theorem due_end {a : DA} {T : List Nat} {S : CS} {tl : Addr} {vs : List V} {J K ρ : Led} {o1 o2 o3 o4 o5 oP oE : Option V} (b1 : Bi P "len" (.builtin "len")) (b2 : Bi P "range" (.type "range")) (b3 : Bi P "sum" (.builtin "sum")) (hF : DuF S T) :
    exsOk P 1 (envU a) (duV3 a T tl o1 o2 o3 o4 o5) (J ++ ((tl, .list vs) :: duG3 P a S oP oE K ρ)) ((fnBody (T1 23)).drop 13) (fun f σ' μ' => f = .ret (.tup [.str T, .int (undig 10 S.fin : Nat), R tl, .str S.segs.flatten]) ∧ ∃ J', μ' = J' ++ (J ++ ((tl, .list vs) :: duG3 P a S oP oE K ρ))) := by
  have hG := GOk.b b1 (GOk.b b2 (GOk.b b3 GOk.nil))
  have hfl : S.fin.length ≤ 41 := hF.x.fin
  have hlt := hF.k.finLt hF.x
  have hsum := sum_undig S.fin
  walk_at "ex"
  refine evOk.listcomp [("k", none)] [("rows", a.cR)] ?_ rfl (fun _ => rfl) (.inl rfl) (by decide) rfl (by decide)
  walk_at "ex"
  · rename_i rg
    rw [List.length_map]
    refine it_range (n := S.fin.length) (by walk_at "mem") (small_one (by lia) (by lia) (by lia) (by lia)) (rsize (by lia)) fun C => ?_
    refine CompOk.map1 (ys := (((List.range S.fin.length).map fun (i : Nat) => ((S.fin.getD i 0 : Nat) : Int) * ((1024 ^ i : Nat) : Int)).map .int)) (by rw [sizeLine_eq, irange_len]; lia) rfl rfl ⟨_, List.Perm.refl _⟩ (by rw [irange_len]; simp) (fun i v y hv hy => ?_) ?_
    · obtain ⟨hi, rfl⟩ := irange_get0 hv
      rw [List.map_map] at hy
      have hy2 : y = V.int (((S.fin.getD i 0 : Nat) : Int) * ((1024 ^ i : Nat) : Int)) := (map_get hy).2
      subst hy2
      have hat := getD_at hi
      have hl := hlt _ (List.mem_of_getElem? hat)
      generalize S.fin.getD i 0 = r at *
      walk_at "ex"
      refine sub_list (v := .int (r : Int)) (by walk_at "mem") (by lia) (by lia) (by rw [Int.toNat_natCast, List.getElem?_map, hat]; rfl) ?_ (fun _ => rfl)
      walk_at "ex"
      refine bin_pow (by lia) (by lia) (by decide) ?_
      rw [show (1024 : Int) ^ (i : Int).toNat = ((1024 ^ i : Nat) : Int) from by rw [Int.toNat_natCast]; push_cast; rfl]
      walk_at "ex"
      refine bin_mulL (by lia) ?_
      walk_at "ex"
      exact ⟨rfl, rfl⟩
    · intro D
      walk_at "ex"
      refine call_sumList (by walk_at "mem") ?_
      rw [hsum]
      walk_at "ex"
      exact ⟨rfl, [_, _], rfl⟩
  · rw [List.length_map, sizeLine_eq]; lia
end

section
variable {P : Par} {d : Nat} {μ : Led}
/-! the due answer -/
theorem names_sg (T : List Nat) : (∀ c ∈ T, c ∈ sg) → ∀ q ∈ (runC T).nm, ∀ c ∈ q, c ∈ sg := by
  refine rev_ind (p := fun T => (∀ c ∈ T, c ∈ sg) → ∀ q ∈ (runC T).nm, ∀ c ∈ q, c ∈ sg) ?_ ?_ T
  · intro _ q hq; cases hq
  · intro t c ih h q hq
    have ih := ih fun x hx => h x (List.mem_append_left _ hx)
    rw [runC_app] at hq
    cases e : idxL (runC t).nm ((runC t).pc ++ [c]) with
    | some i => rw [CS.step_some e] at hq; exact ih q hq
    | none =>
      rw [CS.step_none e] at hq
      rcases List.mem_append.mp hq with hq | hq
      · exact ih q hq
      · rw [List.mem_singleton] at hq
        subst hq
        intro x hx
        rcases List.mem_append.mp hx with hx | hx
        · unfold shw at hx
          cases e2 : idxL (runC t).nm (runC t).pc with
          | none => rw [e2] at hx; cases hx
          | some i =>
            rw [e2] at hx
            obtain ⟨r, hr, _, _⟩ := idxL_some e2
            have hx : x ∈ (runC t).nm.getD i [] := hx
            rw [List.getD_eq_getElem?_getD, hr] at hx
            exact ih r (List.mem_of_getElem? hr) x hx
        · rw [List.mem_singleton] at hx
          subst hx
          exact h x (List.mem_append_right _ List.mem_cons_self)
theorem segs_sg {T : List Nat} (hT : ∀ c ∈ T, c ∈ sg) : ∀ c ∈ (runC T).segs.flatten, c ∈ sg := by
  have hn := names_sg T hT
  have hc := cOk T hT
  intro c h
  unfold CS.segs at h
  rw [List.flatten_append] at h
  rcases List.mem_append.mp h with h | h
  · obtain ⟨q, hq, h⟩ := List.mem_flatten.mp h
    exact hn q hq c h
  · split at h
    · cases h
    · rename_i h0
      rcases hc.pc with e | ⟨i, e⟩
      · exact absurd e h0
      · obtain ⟨r, hr, _, _⟩ := idxL_some e
        rw [shw_some e hr] at h
        exact hn r (List.mem_of_getElem? hr) c (by simpa using h)
theorem heard_len {T : List Nat} (hT : ∀ c ∈ T, c ∈ sg) : (runC T).segs.flatten.length = T.length := by
  have := congrArg List.length (heard_low hT)
  rw [low_len', low_len'] at this
  exact this
theorem DuT.f {T : List Nat} (h : DuT T) : DuF (runC T) T := by
  have hc := cOk T h.sg
  have hn := hc.nmLe
  have h40 := h.T
  refine ⟨⟨by lia, by rw [heard_len h.sg]; exact h40, names_sg T h.sg, ?_⟩, hc⟩
  rw [hc.finLen]
  unfold CS.segs
  rw [List.length_append]
  split
  · show _ + 0 ≤ _; lia
  · show _ + 1 ≤ _; lia
theorem plc_len : ∀ (o : Nat) (w : List Nat), (plc o w).length = w.length
  | _, [] => rfl
  | o, s :: w => by
    unfold plc
    split <;> rw [List.length_cons, List.length_cons, plc_len]
theorem spots_short : ∀ (ps : List Pr2) (q : List Nat × List Spt), (∀ p ∈ ps, p.2.length ≤ 2) → (∀ s ∈ q.2, s.1.length ≤ 2) → ∀ s ∈ (ps.foldl wstep q).2, s.1.length ≤ 2
  | [], _, _, h => h
  | p :: ps, q, hp, h => by
    rw [List.foldl_cons]
    refine spots_short ps _ (fun x hx => hp x (List.mem_cons_of_mem _ hx)) ?_
    rw [wstep_eq]
    intro s hs
    rcases List.mem_append.mp hs with hs | hs
    · exact h s hs
    · rcases List.mem_cons.mp hs with rfl | hs
      · exact show 1 ≤ 2 from by decide
      · split at hs
        · cases hs
        · rw [List.mem_singleton] at hs
          subst hs
          show (plc _ _).length ≤ 2
          rw [plc_len]
          exact hp p List.mem_cons_self
theorem fmt_sg {p : Pr2} (h : PrOk p ∧ p.2.length ≤ 2 ∧ ∀ c ∈ p.2, c ∈ sg) : ∀ c ∈ fmtN p, c ∈ sg := by
  obtain ⟨⟨⟨c0, hc0, hm⟩⟩, _, hw⟩ := h
  have h0 : c0 ∈ sg := (show ∀ c ∈ ([97, 98, 65, 66] : List Nat), c ∈ sg from by decide) c0 hm
  have he : ∀ c ∈ escN p.2, c ∈ sg := by
    intro c hc
    unfold escN at hc
    obtain ⟨x, hx, hc⟩ := List.mem_flatMap.mp hc
    unfold escC at hc
    split at hc
    · rcases List.mem_cons.mp hc with rfl | hc
      · decide
      · rw [List.mem_singleton] at hc; subst hc; exact hw _ hx
    · rw [List.mem_singleton] at hc; subst hc; exact hw _ hx
  intro c hc
  unfold fmtN at hc
  rw [hc0] at hc
  split at hc
  · rw [List.mem_singleton] at hc; subst hc; exact h0
  · simp only [List.mem_append, List.mem_cons, List.not_mem_nil, or_false] at hc
    rcases hc with ((rfl | rfl | rfl) | hc) | rfl
    · exact h0
    · decide
    · decide
    · exact he c hc
    · decide
theorem writ_sg : ∀ (ps : List Pr2) (q : List Nat × List Spt), (∀ p ∈ ps, PrOk p ∧ p.2.length ≤ 2 ∧ ∀ c ∈ p.2, c ∈ sg) → (∀ c ∈ q.1, c ∈ sg) → ∀ c ∈ (ps.foldl wstep q).1, c ∈ sg
  | [], _, _, h => h
  | p :: ps, q, hp, h => by
    rw [List.foldl_cons]
    refine writ_sg ps _ (fun x hx => hp x (List.mem_cons_of_mem _ hx)) ?_
    rw [wstep_eq]
    intro c hc
    rcases List.mem_append.mp hc with hc | hc
    · unfold wgap at hc
      split at hc
      · exact h c hc
      · rcases List.mem_append.mp hc with hc | hc
        · exact h c hc
        · rw [List.mem_singleton] at hc; subst hc; decide
    · exact fmt_sg (hp p List.mem_cons_self) c hc
theorem PsN.duT {ps : List Pr2} (h : PsN ps) : DuT (writN ps).1 := by
  refine ⟨writ_sg ps ([], []) h.ok (fun _ h => nomatch h), ?_⟩
  have := (writ_len h ps.length (Nat.le_refl _)).1
  rw [List.take_length] at this
  have := h.len
  lia
theorem PsN.duSp {ps : List Pr2} (h : PsN ps) : DuSp (runC (writN ps).1) (spotsN ps) := by
  have hs := h.duT.sg
  refine ⟨?_, ?_, ?_⟩
  · rw [heard_len hs]
    exact spots_lt fun p hp => by obtain ⟨c, e, _⟩ := (h.ok p hp).1.nm; rw [e]; exact fun q => nomatch q
  · intro s hm
    unfold spotsN at hm
    rcases List.mem_append.mp hm with hm | hm
    · exact Nat.le_trans (spots_short ps ([], []) (fun p hp => (h.ok p hp).2.1) (fun _ h => nomatch h) s hm) (by decide)
    · rw [List.mem_singleton] at hm; subst hm; exact Nat.zero_le _
  · have := (writ_len h ps.length (Nat.le_refl _)).2
    rw [List.take_length] at this
    have := h.len
    unfold spotsN
    rw [List.length_append]
    show _ + 1 ≤ _
    lia
inductive DueP (ps : List Pr2) (μ : Led) : V → Led → Prop
  | mk (tl : Addr) (vs : List V) (J : Led) (h : DeepL J 3 ((spotsN ps).map (dueD (runC (writN ps).1))) vs) : DueP ps μ (.tup [.str (writN ps).1, .int (undig 10 (runC (writN ps).1).fin : Nat), R tl, .str (runC (writN ps).1).segs.flatten]) (J ++ ((tl, .list vs) :: μ))
theorem exsOk.le {d d' : Nat} {env : Env} {σ : Loc} {sts} {Q : Fl → Loc → Led → Prop} (h : exsOk P d env σ μ sts Q) (hd : d ≤ d') : exsOk P d' env σ μ sts Q := fun A s β hR hI => h A s β (hR.le hd) hI
theorem exOk.le {d d' : Nat} {env : Env} {σ : Loc} {st} {Q : Fl → Loc → Led → Prop} (h : exOk P d env σ μ st Q) (hd : d ≤ d') : exOk P d' env σ μ st Q := fun A s β hR hI => h A s β (hR.le hd) hI
end
namespace X_due_ok
noncomputable def stmt (P : Par) (μ : Led) (aU : Addr) (aW : Addr) (pl : Addr) (cU : Value) (cW : Value) (ps : List Pr2) : Prop := ∀ (f : FnIs P aU "_law_due" (T1 23) cU .none .none), ∀ (fw : FnIs P aW "_law_written" (T1 22) cW .none .none), ∀ (gW : Glob P "_law_written" (R aW)), ∀ (b1 : Bi P "len" (.builtin "len")), ∀ (b2 : Bi P "range" (.type "range")), ∀ (b3 : Bi P "sum" (.builtin "sum")), ∀ (hp : PsN ps), fnOk P 3 ((pl, .list (pairsV ps)) :: μ) (R aU) [R pl] [] (DueP ps μ)
noncomputable def pck : Led × Addr × Addr × Addr × Value × Value × (List Pr2) := @Classical.epsilon (Led × Addr × Addr × Addr × Value × Value × (List Pr2)) ⟨(([] : Led), (0 : Addr), (0 : Addr), (0 : Addr), (.none : Value), (.none : Value), ([] : List Pr2))⟩ fun b => ∃ P, ¬ stmt P b.1 b.2.1 b.2.2.1 b.2.2.2.1 b.2.2.2.2.1 b.2.2.2.2.2.1 b.2.2.2.2.2.2
@[irreducible] noncomputable def μ : Led := pck.1
@[irreducible] noncomputable def aU : Addr := pck.2.1
@[irreducible] noncomputable def aW : Addr := pck.2.2.1
@[irreducible] noncomputable def pl : Addr := pck.2.2.2.1
@[irreducible] noncomputable def cU : Value := pck.2.2.2.2.1
@[irreducible] noncomputable def cW : Value := pck.2.2.2.2.2.1
@[irreducible] noncomputable def ps : List Pr2 := pck.2.2.2.2.2.2
theorem coreT (P : Par) : stmt P μ aU aW pl cU cW ps := by
  intro f fw gW b1 b2 b3 hp
  have hG := GOk.b b1 (GOk.b b2 (GOk.b b3 (GOk.g gW GOk.nil)))
  have hT := hp.duT
  have hF := hT.f
  have hSp := hp.duSp
  have hT40 := hT.T
  refine f.okC (d := 2) (binds := [("pairs", R pl)]) (σ₀ := [("pairs", some (R pl)), ("signs", none), ("text", none), ("spots", none), ("small", none), ("shown", none), ("pieces", none), ("names", none), ("starts", none), ("start", none), ("stop", none), ("piece", none), ("above", none), ("told", none), ("places", none), ("rest", none), ("number", none)])
    (fun f => [("past", f 3), ("end", f 2), ("heard", f 1), ("rows", f 0)]) (fun f => [(f 3, .cell none), (f 2, .cell none), (f 1, .cell none), (f 0, .cell none)])
    (fun _ _ _ _ => bind1 fun _ => rfl) (fun _ => rfl) (fun _ => rfl) (fun _ => rfl) rfl rfl rfl rfl rfl rfl fun L f => ?_
  dsimp only [List.cons_append, List.nil_append]
  walk_at "ex"
  refine ⟨fw.kp, callOk.picks (ps := [(pl, .list (pairsV ps))]) (by walk_at "picks") (opOk.mono (written_ok fw b1 hp).call ?_)⟩
  rintro _ _ ⟨sl, svs, J0, hR⟩
  generalize hK : J0 ++ [(sl, .list svs), (pl, .list (pairsV ps))] = K
  walk_at "ex"
  refine call_lower (fun c hc => sg_lt (hT.sg c hc)) (by rw [sizeLine_eq]; lia) ?_
  walk_at "ex"
  refine evOk.sdict rfl rfl rfl (by decide) (by decide) fun shl => ?_
  walk_at "ex"
  refine fun pcl => ?_
  walk_at "ex"
  refine fun nml => ?_
  walk_at "ex"
  refine fun stl => ?_
  walk_at "ex"
  refine fun rl => ?_
  walk_at "ex"
  refine exOk.mono ((due_loop (a := ⟨aU, cU, L, pl, sl, shl, pcl, nml, stl, rl, f 0, f 1, f 2, f 3⟩) (K := K) (ρ := μ) b1 hT).le (by decide)) ?_
  rintro _ _ _ ⟨rfl, o1, o2, o3⟩
  refine (exsOk.unhide (by assumption) ?_ : exsOk P 2 _ _ _ _ _)
  refine exsOk.cut (R := fun σ' μ' => ∃ tl, σ' = duV3 ⟨aU, cU, L, pl, sl, shl, pcl, nml, stl, rl, f 0, f 1, f 2, f 3⟩ (writN ps).1 tl o1 o2 o3 none none ∧ μ' = (tl, .list []) :: duG3 P ⟨aU, cU, L, pl, sl, shl, pcl, nml, stl, rl, f 0, f 1, f 2, f 3⟩ (runC (writN ps).1) none none K μ) ?_ ?_
  · walk_at "ex"
    refine fun tl => ?_
    walk_at "ex"
    exact ⟨rfl, tl, rfl, rfl⟩
  subst hK
  rintro _ _ ⟨tl, rfl, rfl⟩
  refine exsOk.cut (exOk.le (d := 1) (d' := 2) (due_for (a := ⟨aU, cU, L, pl, sl, shl, pcl, nml, stl, rl, f 0, f 1, f 2, f 3⟩) b1 b2 b3 hF hR hSp) (by decide)) ?_
  rintro _ _ ⟨vs, J, o4, o5, oP, oE, hd, hl⟩
  rw [List.take_length] at hd
  refine exsOk.mono (exsOk.le (d := 1) (d' := 2) (due_end (a := ⟨aU, cU, L, pl, sl, shl, pcl, nml, stl, rl, f 0, f 1, f 2, f 3⟩) b1 b2 b3 hF) (by decide)) ?_
  rintro _ _ _ ⟨rfl, J', rfl⟩
  refine ⟨J ++ ((tl, .list vs) :: μ), ((List.Sublist.cons_cons _ ?_).append_left J).trans (List.sublist_append_right _ _), .mk tl vs J hd⟩
  exact .cons _ (.cons _ (.cons _ (.cons _ (.cons _ ((List.Sublist.cons _ (.cons _ (.cons _ (.cons _ (.refl _))))).trans (List.sublist_append_right _ _))))))
theorem allT (P : Par) (μ : Led) (aU : Addr) (aW : Addr) (pl : Addr) (cU : Value) (cW : Value) (ps : List Pr2) : stmt P μ aU aW pl cU cW ps := skol (Q := fun (P : Par) (b : Led × Addr × Addr × Addr × Value × Value × (List Pr2)) => stmt P b.1 b.2.1 b.2.2.1 b.2.2.2.1 b.2.2.2.2.1 b.2.2.2.2.2.1 b.2.2.2.2.2.2) (by with_unfolding_all exact coreT) P (μ, aU, aW, pl, cU, cW, ps)
end X_due_ok
section
variable {P : Par} {d : Nat} {μ : Led}
theorem due_ok {aU aW pl : Addr} {cU cW : Value} {ps : List Pr2} (f : FnIs P aU "_law_due" (T1 23) cU .none .none) (fw : FnIs P aW "_law_written" (T1 22) cW .none .none) (gW : Glob P "_law_written" (R aW)) (b1 : Bi P "len" (.builtin "len")) (b2 : Bi P "range" (.type "range")) (b3 : Bi P "sum" (.builtin "sum")) (hp : PsN ps) : fnOk P 3 ((pl, .list (pairsV ps)) :: μ) (R aU) [R pl] [] (DueP ps μ) := X_due_ok.allT P μ aU aW pl cU cW ps f fw gW b1 b2 b3 hp
end

section
variable {P : Par} {d : Nat} {μ : Led}
/-! law -/
set_option genInjectivity false in
structure LawA where
  aPr : Addr
  aPk : Addr
  aDu : Addr
  aWr : Addr
  aTo : Addr
  aFm : Addr
  cPr : Value
  cPk : Value
  cDu : Value
  cWr : Value
  cFm : Value
  dFm : Value
  c : Addr
  p : Addr
  lx : LexA
  pk : PackA
structure LawF (P : Par) (a : LawA) : Prop where
  pk : PackF P a.pk
  rd : RdF P a.lx a.pk.th a.pk.td a.pk.aAdd a.pk.cA
  to : ToF P a.aTo a.c a.p
  pr : FnIs P a.aPr "_law_pair" (T1 19) a.cPr .none .none
  pf : FnIs P a.aPk "_law_packed" (T1 20) a.cPk .none .none
  wr : FnIs P a.aWr "_law_written" (T1 22) a.cWr .none .none
  du : FnIs P a.aDu "_law_due" (T1 23) a.cDu .none .none
  fm : FnIs P a.aFm "_formatparam" (T1 16) a.cFm a.dFm .none
  D2 : Dflt2 P a.dFm
  gPr : Glob P "_law_pair" (R a.aPr)
  gPk : Glob P "_law_packed" (R a.aPk)
  gWr : Glob P "_law_written" (R a.aWr)
  gDu : Glob P "_law_due" (R a.aDu)
  gTo : Glob P "_law_told" (R a.aTo)
  gFm : Glob P "_formatparam" (R a.aFm)
  b1 : Bi P "len" (.builtin "len")
  b2 : Bi P "range" (.type "range")
  b3 : Bi P "sum" (.builtin "sum")
noncomputable def ns4 (ns : List Int) : List Int := [128, 502] ++ pySlice ns none (some 2)
noncomputable def psL (ns : List Int) : List Pr2 := (ns4 ns).map pairN
theorem ns4_len (ns : List Int) : (ns4 ns).length ≤ 4 := by
  unfold ns4 pySlice
  have : clipN ns.length (some 2) ≤ 2 := by show clipAt _ _ ≤ 2; unfold clipAt; omega
  simp only [List.length_append, List.length_cons, List.length_nil, List.length_take, List.length_drop]
  omega
theorem psN (ns : List Int) : PsN (psL ns) := ⟨fun p hp => by
  obtain ⟨n, _, rfl⟩ := List.mem_map.mp hp
  exact pairN_ok n, by unfold psL; rw [List.length_map]; exact ns4_len ns⟩
theorem wordD_cap {S : CS} (hk : ∀ q ∈ S.segs, q ≠ []) (w : List Nat) (e : Nat) : wordD S (w, min e S.segs.flatten.length) = wordD S (w, e) := by
  have h : past S.segs (min e S.segs.flatten.length) = past S.segs e := by
    by_cases q : e ≤ S.segs.flatten.length
    · rw [Nat.min_eq_left q]
    · rw [Nat.min_eq_right (by omega), past_cap hk rfl (Nat.le_of_not_le q)]
  unfold wordD stN bkN
  dsimp only
  rw [h]
theorem due_told {S : CS} {ps : List Pr2} (hk : ∀ q ∈ S.segs, q ≠ []) (hl : S.segs.flatten.length = (writN ps).1.length) :
    (seqOf S.segs.flatten (writN ps).2 ++ [([], S.segs.flatten.length)]).map (wordD S) = (spotsN ps).map (dueD S) := by
  unfold spotsN
  rw [List.map_append, List.map_append]
  congr 1
  · unfold seqOf
    rw [List.map_map]
    refine List.map_congr_left fun s _ => ?_
    exact wordD_cap hk _ _
  · rw [hl]; rfl
theorem joinN_len (xs : List (List Nat)) : (joinN [32] xs).length ≤ (xs.map fun x => x.length + 1).sum := by
  have key : ∀ (r : List (List Nat)) (x : List Nat), (r.foldl (fun acc p => acc ++ [32] ++ p) x).length = x.length + (r.map fun x => x.length + 1).sum := by
    intro r
    induction r with
    | nil => intro x; rfl
    | cons y r ih =>
      intro x
      rw [List.foldl_cons, ih, List.map_cons, List.sum_cons, List.length_append, List.length_append]
      show x.length + 1 + y.length + _ = _
      omega
  cases xs with
  | nil => exact Nat.le_refl _
  | cons x r =>
    show (r.foldl _ x).length ≤ _
    rw [key, List.map_cons, List.sum_cons]
    omega
theorem fmt_sum : ∀ (ps : List Pr2), (∀ p ∈ ps, PrOk p ∧ p.2.length ≤ 2 ∧ ∀ c ∈ p.2, c ∈ sg) → ((ps.map fmtN).map fun x => x.length + 1).sum ≤ 9 * ps.length
  | [], _ => Nat.le_refl _
  | p :: ps, h => by
    have := fmt_sum ps fun x hx => h x (List.mem_cons_of_mem _ hx)
    have := fmtN_len (h p List.mem_cons_self)
    rw [List.map_cons, List.map_cons, List.sum_cons, List.length_cons]
    omega
end
namespace X_law_body
noncomputable def stmt (P : Par) (a : LawA) (L : Addr) (fa : Addr) (l : Addr) (cd : Value) (vs : Array Value) (ns : List Int) : Prop := ∀ (hF : LawF P a), ∀ (hl : P.h₀.IsList l vs), ∀ (hi : IntsAre vs.toList ns), ∀ (hn : ns.length ≤ 63), exsOk P 45 (envX "law" (fnScope (T1 24)) L fa cd []) [("script", some (R l)), ("pairs", none), ("text", none), ("number", none), ("told", none), ("heard", none)] [] (fnBody (T1 24))
      fun f _ _ => f = .ret (.bool true)
noncomputable def pck : LawA × Addr × Addr × Addr × Value × (Array Value) × (List Int) := @Classical.epsilon (LawA × Addr × Addr × Addr × Value × (Array Value) × (List Int)) ⟨((⟨0, 0, 0, 0, 0, 0, .none, .none, .none, .none, .none, .none, 0, 0, ⟨0, 0, 0, 0, .none, .none, .none⟩, ⟨⟨0, 0, 0, 0, 0, 0, 0, 0, 0, .none, .none, .none⟩, ⟨0, 0, 0, 0, 0, 0, 0, #[], #[], .none, .none, .none, .none, .none, .none⟩, 0, .none⟩⟩ : LawA), (0 : Addr), (0 : Addr), (0 : Addr), (.none : Value), (#[] : Array Value), ([] : List Int))⟩ fun b => ∃ P, ¬ stmt P b.1 b.2.1 b.2.2.1 b.2.2.2.1 b.2.2.2.2.1 b.2.2.2.2.2.1 b.2.2.2.2.2.2
@[irreducible] noncomputable def a : LawA := pck.1
@[irreducible] noncomputable def L : Addr := pck.2.1
@[irreducible] noncomputable def fa : Addr := pck.2.2.1
@[irreducible] noncomputable def l : Addr := pck.2.2.2.1
@[irreducible] noncomputable def cd : Value := pck.2.2.2.2.1
@[irreducible] noncomputable def vs : Array Value := pck.2.2.2.2.2.1
@[irreducible] noncomputable def ns : List Int := pck.2.2.2.2.2.2
theorem coreT (P : Par) : stmt P a L fa l cd vs ns := by
  intro hF hl hi hn
  have hG := GOk.g hF.gPr (GOk.g hF.gPk (GOk.g hF.gDu (GOk.g hF.gTo (GOk.g hF.gFm GOk.nil))))
  have hp := psN ns
  have hT := hp.duT
  have hD := hT.f
  have hseg := hD.k.segsNe
  have hhl := heard_len hT.sg
  have hhs := segs_sg hT.sg
  have hpl4 := hp.len
  walk_at "ex"
  refine exOk.asgComp [("x", none)] [] ?_ rfl rfl (fun _ => rfl) (.inl rfl) (by decide) rfl (by decide) rfl rfl
  walk_at "ex"
  intro l1
  walk_at "ex"
  refine evOk.sliceF (fun _ _ => rfl) ?_
  walk_at "ex"
  refine ⟨_, rfl, ?_⟩
  refine ⟨l, vs, ns, rfl, hl, hi, by rw [sizeLine_eq]; lia, fun l2 => ?_⟩
  have h4 := ns4_len ns
  unfold ns4 at h4
  rw [List.length_append] at h4
  refine bin_listAdd (xs := [128, 502].map V.int) (show (l1, AObj.list [V.int 128, V.int 502]) ∈ _ from by walk_at "mem") (by walk_at "mem") (by rw [sizeLine_eq, List.length_map, List.length_map]; exact Nat.le_trans h4 (by decide)) fun l3 => ?_
  rw [← List.map_append, show [128, 502] ++ pySlice ns none (some 2) = ns4 ns from rfl]
  have hpy : pairsV (psL ns) = (ns4 ns).map fun n => V.tup [.str (pairN n).1, .str (pairN n).2] := by unfold pairsV psL; rw [List.map_map]; rfl
  have hn4 := ns4_len ns
  generalize psL ns = ps at *
  generalize ns4 ns = ms at *
  walk_at "ex"
  refine it_list (by walk_at "mem") fun C => ?_
  refine CompOk.map1 (ys := pairsV ps) (by rw [List.length_map, sizeLine_eq]; lia) rfl rfl ⟨_, List.Perm.refl _⟩ (by rw [hpy]; simp) (fun i v y hv hy => ?_) ?_
  · rw [hpy] at hy
    rw [List.getElem?_map] at hv hy
    cases hq : ms[i]? with
    | none => rw [hq] at hv; cases hv
    | some n =>
      rw [hq] at hv hy
      cases hv; cases hy
      walk_at "ex"
      refine ⟨hF.pr.kp, opOk.monoE ((pair_ok hF.pr hF.b2).le (by decide)).call ?_⟩
      walk_at "ex"
      exact ⟨rfl, rfl⟩
  · intro pl
    refine ⟨_, by walk_at "sto", ?_⟩
    refine exsOk.weak (μ2 := [(pl, .list (pairsV ps))]) (by walk_at "sub") ?_
    have hitem : ∀ (i : Nat) (v : V), (pairsV ps)[i]? = some v → ∃ p, ps[i]? = some p ∧ v = V.tup [.str p.1, .str p.2] ∧ ps.take (i + 1) = ps.take i ++ [p] := fun i v hv => by
      obtain ⟨p, h1, h2⟩ := pairs_get hv
      exact ⟨p, h1, h2, by rw [List.take_add_one, h1]; rfl⟩
    walk_at "ex"
    refine evOk.listcomp [("name", none), ("word", none)] [] ?_ rfl (fun _ => rfl) (.inl rfl) (by decide) rfl (by decide)
    walk_at "ex"
    refine it_list (by walk_at "mem") fun C => ?_
    refine ⟨by rw [List.length_map, sizeLine_eq]; lia, by decide, nodupB_of rfl, fun i ys σ μ' => ∃ o1 o2, σ = ([("name", o1), ("word", o2)] : Loc) ∧ μ' = [(pl, .list (pairsV ps))] ∧ ys = ((ps.take i).map fmtN).map V.str, ⟨none, none, rfl, rfl, rfl⟩, ?_, ?_, ?_⟩
    · rintro i ys σ μ' ⟨o1, o2, rfl, rfl, _⟩
      exact ⟨_, List.Perm.refl _⟩
    · rintro i v ys σ μ' hv ⟨o1, o2, rfl, rfl, rfl⟩
      obtain ⟨q, hq, rfl, htk⟩ := hitem i v hv
      obtain ⟨q1, q2, q3⟩ := hp.ok q (List.mem_of_getElem? hq)
      have hq1 : q.1.length ≤ 1 := by obtain ⟨c, e, _⟩ := q1.nm; rw [e]; exact Nat.le_refl 1
      walk_at "ex"
      show evOk _ _ _ _ _ _ _
      walk_at "ex"
      refine ⟨hF.fm.kp, opOk.monoE ((fmt_ok hF.fm hF.D2 hF.b1 hq1 (esc_ok q2 q3)).le (by decide)).call ?_⟩
      walk_at "ex"
      refine ⟨_, _, rfl, rfl, ?_⟩
      rw [htk, List.map_append, List.map_append]
      rfl
    · rintro ys σ μ' ⟨o1, o2, rfl, rfl, rfl⟩ T0
      rw [List.length_map, List.take_length]
      walk_at "ex"
      have hfs := fmt_sum ps hp.ok
      have hjl := joinN_len (ps.map fmtN)
      refine call_join (by walk_at "mem") (by rw [sizeLine_eq]; show ((ps.map fmtN).map fun x => x.length + 1).sum ≤ _; lia) (by rw [sizeLine_eq]; show (joinN [32] (ps.map fmtN)).length ≤ _; lia) ?_
      have htx : joinN (Str.ofString " ").cps.toList (ps.map fmtN) = (writN ps).1 := (writ_text fun p hp' => by obtain ⟨c, e, _⟩ := (hp.ok p hp').1.nm; rw [e]; exact fun q => nomatch q).symm
      rw [htx]
      walk_at "ex"
      refine ⟨hF.pf.kp, opOk.monoE ((pack_ok hF.pk hF.pf ⟨hT.sg, hT.T⟩).le (by decide)).call ?_⟩
      walk_at "ex"
      obtain ⟨m, hr, hm, he⟩ := rd_end (h := (runC (writN ps).1).segs.flatten) (ps := ps) (fun p h => (hp.ok p h).1) (heard_low hT.sg)
      have hwl := (writ_len hp ps.length (Nat.le_refl _)).2
      rw [List.take_length] at hwl
      refine ⟨hF.to.f.kp, opOk.mono ((told2_ok hF.rd hF.to hD.k hD.x (fun c hc => sg_lt (hhs c hc)) hr hm he (by unfold seqOf; rw [List.length_map]; lia)).le (by decide)).call ?_⟩
      rintro _ _ ⟨tl, vs1, J1, hd1, _⟩
      walk_at "ex"
      have hpm : ∀ (x y z : Addr × AObj), (x :: (J1 ++ [y, z])).Perm ([z] ++ (x :: (J1 ++ [y]))) := fun x y z => by
        have : x :: (J1 ++ [y, z]) = (x :: (J1 ++ [y])) ++ [z] := by simp
        rw [this]
        exact List.perm_append_comm
      refine ⟨hF.du.kp, opOk.frame (hpm _ _ _) (opOk.mono ((due_ok hF.du hF.wr hF.gWr hF.b1 hF.b2 hF.b3 hp).le (by decide)).call ?_)⟩
      rintro _ _ ⟨tl2, vs2, J2, hd2⟩
      rw [due_told hseg hhl] at hd1
      have hag := packAgain hT.sg
      have hs2 : SgOk (runC (writN ps).1).segs.flatten := ⟨hhs, by rw [hhl]; exact hT.T⟩
      walk_at "ex"
      refine cmp_eqDeepT (ds := [.str (writN ps).1, .int (undig 10 (runC (writN ps).1).fin : Nat), .list ((spotsN ps).map (dueD (runC (writN ps).1))), .str (runC (writN ps).1).segs.flatten]) (n := 4) (by decide)
        (Deep.mkTup (DeepL.cons .mkStr (DeepL.cons .mkInt (DeepL.cons (Deep.mkList (List.mem_append_right _ List.mem_cons_self) (hd1.mono fun p hp => List.mem_append_right _ (List.mem_cons_of_mem _ (List.mem_append_left _ hp)))) (DeepL.cons .mkStr DeepL.nil)))))
        (Deep.mkTup (DeepL.cons .mkStr (DeepL.cons .mkInt (DeepL.cons (Deep.mkList (List.mem_append_left _ (List.mem_append_right _ List.mem_cons_self)) (hd2.mono fun p hp => List.mem_append_left _ (List.mem_append_left _ hp))) (DeepL.cons .mkStr DeepL.nil))))) ?_
      walk_at "ex"
      refine tru_bool ?_
      rw [if_pos rfl]
      walk_at "ex"
      refine ⟨hF.pf.kp, opOk.monoE ((pack_ok hF.pk hF.pf hs2).le (by decide)).call ?_⟩
      rw [show (runC (runC (writN ps).1).segs.flatten).fin = (runC (writN ps).1).fin from hag]
      walk_at "ex"
      rw [beq_self_eq_true]
theorem allT (P : Par) (a : LawA) (L : Addr) (fa : Addr) (l : Addr) (cd : Value) (vs : Array Value) (ns : List Int) : stmt P a L fa l cd vs ns := skol (Q := fun (P : Par) (b : LawA × Addr × Addr × Addr × Value × (Array Value) × (List Int)) => stmt P b.1 b.2.1 b.2.2.1 b.2.2.2.1 b.2.2.2.2.1 b.2.2.2.2.2.1 b.2.2.2.2.2.2) (by with_unfolding_all exact coreT) P (a, L, fa, l, cd, vs, ns)
end X_law_body
section
variable {P : Par} {d : Nat} {μ : Led}
theorem law_body {a : LawA} {L fa l : Addr} {cd : Value} {vs : Array Value} {ns : List Int} (hF : LawF P a) (hl : P.h₀.IsList l vs) (hi : IntsAre vs.toList ns) (hn : ns.length ≤ 63) : exsOk P 45 (envX "law" (fnScope (T1 24)) L fa cd []) [("script", some (R l)), ("pairs", none), ("text", none), ("number", none), ("told", none), ("heard", none)] [] (fnBody (T1 24))
      fun f _ _ => f = .ret (.bool true) := X_law_body.allT P a L fa l cd vs ns hF hl hi hn
end

theorem FnIs.ofK {P : Par} {K : Frag} (hP : P.K = K) {a c : Addr} {qual : Str} {S : Stmt} {dV kV doc pm ct : Value} {an : Option Addr} {o oc : Obj} {vs : Array Value} {t : Tok}
    (h1 : K.lookup a = some o) (h1' : o.data = .func (fnX (fnName S) qual (fnParams S) (fnBody S) (fnScope S) [] dV kV doc pm an (.ref c) ct))
    (h2 : K.lookup c = some oc) (h2' : oc.data = .fields vs) (h3 : vs[1]? = some (.str qual t)) (hk : keepIn K (.ref a) = true) : FnIs P a qual S (.ref c) dV kV where
  at_ := ⟨doc, pm, an, ct, fun μ β ν h I => ⟨o, I.inK _ _ (hP ▸ h1), h1', c, oc, vs, t, rfl, I.inK _ _ (hP ▸ h2), h2', h3⟩⟩
  keep := hP ▸ hk
theorem Glob.ofK {P : Par} {K : Frag} (hP : P.K = K) {x : Str} {v : Value} {w : V} (h : nsIn K mainGlobals x = some (some v)) (hw : ∀ β, VRel β w v) : Glob P x w := ⟨v, mg_of P.inK P.g (hP ▸ h), hw⟩
theorem Bi.ofK {P : Par} {K : Frag} (hP : P.K = K) {x : Str} {v : Value} (h : nsIn K mainGlobals x = some none) (hv : bootBuiltins x = some v) (hn : x ≠ "__name__") : Bi P x v := ⟨mg_none_of P.inK P.g (hP ▸ h), hv, hn⟩
theorem DfltAt.ofK {P : Par} {K : Frag} (hP : P.K = K) {a : Addr} {o : Obj} {n : Nat} (h : K.lookup a = some o) (hd : o.data = .seq #[.none] n) : DfltAt P (.ref a) := ⟨a, o, n, rfl, P.inK _ _ (hP ▸ h), hd⟩
theorem PatAt.ofK {P : Par} {K : Frag} (hP : P.K = K) {pat ca : Addr} {code : Array Nat} {o oc : Obj} {fs its : Array Value} {n : Nat} (h : K.lookup pat = some o) (hc : o.cls = .type "re.Pattern") (hdi : o.dict = none) (hd : o.data = .fields fs)
    (h6 : Builtin.Re.reRawNat (fs.getD 6 .none) = 0) (h2 : Builtin.Re.reRawNat (fs.getD 2 .none) = 0) (h5 : fs.getD 5 .none = .ref ca) (hl : K.lookup ca = some oc) (hs : oc.data = .seq its n) (hk : (its.map Builtin.Re.reRawOf).map (·.toNat) = code) : PatAt P pat code :=
  ⟨o, fs, ca, oc, its, n, P.inK _ _ (hP ▸ h), hc, hdi, hd, h6, h2, h5, P.inK _ _ (hP ▸ hl), hs, hk⟩
noncomputable abbrev tabsL : List (Addr × Addr) := [(100, 96), (290, 286), (107, 103)]
noncomputable def qualL (l c : Nat) : Str :=
  if l == (fnPos SI).line && c == (fnPos SI).col then "_int2digits.<locals>.inner" else
  if l == (fnPos SJ).line && c == (fnPos SJ).col then "_digits2int.<locals>.inner" else
  if l == (fnPos SD).line && c == (fnPos SD).col then "_law_told.<locals>.read" else "_law_told.<locals>." ++ "<lambda>"
noncomputable abbrev kNa : Array Nat := #[14, 10, 4, 1, 1, 22, 0, 31, 16, 127, 0, 13, 7, 22, 0, 31, 16, 127, 0, 1]
noncomputable abbrev kV : Array Nat := #[14, 14, 4, 1, 1, 9, 4294966783, 0, 0, 2147483648, 0, 0, 0, 0, 0, 13, 11, 9, 4294966783, 0, 0, 2147483648, 0, 0, 0, 0, 0, 1]
theorem opN : Rx.Opens kNa := ⟨by kernel_rfl, by kernel_rfl, by kernel_rfl⟩
theorem opV : Rx.Opens kV := ⟨by kernel_rfl, by kernel_rfl, by kernel_rfl⟩
theorem setN : Rx.Set1 kNa 0 31 127 := ⟨⟨17, by kernel_rfl⟩, by kernel_rfl, by kernel_rfl, by kernel_rfl, by kernel_rfl, by kernel_rfl, by kernel_rfl⟩
theorem setVk : ∀ c < 127, 32 ≤ c → (decide (c < 256) && (kV.getD (5 + (1 + c / 32)) 0).testBit (c % 32)) = false := by decide +kernel
theorem setV : Rx.Set2 kV fun c => 32 ≤ c ∧ c < 127 := ⟨⟨26, by kernel_rfl⟩, by kernel_rfl, fun c hc => setVk c hc.2 hc.1, by kernel_rfl⟩
section
variable {P : Par} {p : Params}
theorem divF (hP : P.K = KH p) (hT : P.tabs = tabsL) (hq : P.qualAt = qualL) : DivF P ⟨87, 101, 108, 115, 122, 100, 96, 107, 103, .ref 86, .ref 114, .ref 121⟩ where
  f1 := FnIs.ofK hP rfl rfl rfl rfl rfl rfl
  f2 := FnIs.ofK hP rfl rfl rfl rfl rfl rfl
  f3 := FnIs.ofK hP rfl rfl rfl rfl rfl rfl
  f4 := FnIs.ofK hP rfl rfl rfl rfl rfl rfl
  f5 := FnIs.ofK hP rfl rfl rfl rfl rfl rfl
  g1 := Glob.ofK hP rfl fun _ => .raw _
  g2 := Glob.ofK hP rfl fun _ => .raw _
  g3 := Glob.ofK hP rfl fun _ => .raw _
  g4 := Glob.ofK hP rfl fun _ => .raw _
  g5 := Glob.ofK hP rfl fun _ => .raw _
  g6 := Glob.ofK hP rfl fun _ => .int ..
  b1 := Bi.ofK hP rfl rfl (by decide)
  b2 := Bi.ofK hP rfl rfl (by decide)
  b3 := Bi.ofK hP rfl rfl (by decide)
  t1 := by rw [hT]; decide
  t2 := by rw [hT]; decide
  q1 := by rw [hq]; decide +kernel
  q2 := by rw [hq]; decide +kernel
theorem lexF (hP : P.K = KH p) : LexF P ⟨76, 52, 59, 66, .ref 51, .ref 58, .ref 65⟩ where
  f1 := FnIs.ofK hP rfl rfl rfl rfl rfl rfl
  f2 := FnIs.ofK hP rfl rfl rfl rfl rfl rfl
  f3 := FnIs.ofK hP rfl rfl rfl rfl rfl rfl
  b1 := Bi.ofK hP rfl rfl (by decide)
  gC := Glob.ofK hP rfl fun _ => .raw _
  kC := by rw [hP]; rfl
  mks := by rw [hP]; rfl
  ga := fun _ => by rw [hP]; rfl
  hd := by rw [hP]; rfl
  po := by rw [hP]; rfl
  sa := by rw [hP]; rfl
  fi := by rw [hP]; rfl
  fr := by rw [hP]; rfl
  fk := by rw [hP]; rfl
  n1 := by rw [hP]; rfl
  n2 := by rw [hP]; rfl
  n3 := by rw [hP]; rfl
  n4 := by rw [hP]; rfl
  t1 := by rw [hP]; rfl
  t2 := by rw [hP]; rfl
  t3 := by rw [hP]; rfl
  t4 := by rw [hP]; rfl
  i1 := by rw [hP]; rfl
  i2 := by rw [hP]; rfl
  i3 := by rw [hP]; rfl
  s1 := by rw [hP]; rfl
  s2 := by rw [hP]; rfl
theorem hdrF (hP : P.K = KH p) : HdrF P ⟨268, 160, 167, 215, 220, 132, 137, kNa, kV, .ref 159, .ref 166, .ref 214, .ref 219, .ref 153, .ref 208⟩ where
  f1 := FnIs.ofK hP rfl rfl rfl rfl rfl rfl
  f2 := FnIs.ofK hP rfl rfl rfl rfl rfl rfl
  f3 := FnIs.ofK hP rfl rfl rfl rfl rfl rfl
  f5 := FnIs.ofK hP rfl rfl rfl rfl rfl rfl
  e1 := DfltAt.ofK hP rfl rfl
  e3 := DfltAt.ofK hP rfl rfl
  g1 := Glob.ofK hP rfl fun _ => .raw _
  g2 := Glob.ofK hP rfl fun _ => .raw _
  r1 := PatAt.ofK hP rfl rfl rfl rfl rfl rfl rfl rfl rfl (by kernel_rfl)
  r2 := PatAt.ofK hP rfl rfl rfl rfl rfl rfl rfl rfl rfl (by kernel_rfl)
  o1 := opN
  o2 := opV
  s1 := setN
  s2 := setV
  b1 := Bi.ofK hP rfl rfl (by decide)
  b2 := Bi.ofK hP rfl rfl (by decide)
  b3 := Bi.ofK hP rfl rfl (by decide)
  gC := Glob.ofK hP rfl fun _ => .raw _
  kC := by rw [hP]; rfl
  mks := by rw [hP]; rfl
  ga := fun _ => by rw [hP]; rfl
  hd := by rw [hP]; rfl
  po := by rw [hP]; rfl
  sa := by rw [hP]; rfl
  fi := by rw [hP]; rfl
  ff := by rw [hP]; rfl
  ft := by rw [hP]; rfl
  fc := by rw [hP]; rfl
  fg := by rw [hP]; rfl
  fk := by rw [hP]; rfl
  i1 := by rw [hP]; rfl
  i2 := by rw [hP]; rfl
  i3 := by rw [hP]; rfl
  i5 := by rw [hP]; rfl
theorem hdrX (hP : P.K = KH p) : HdrX P ⟨268, 160, 167, 215, 220, 132, 137, kNa, kV, .ref 159, .ref 166, .ref 214, .ref 219, .ref 153, .ref 208⟩ 265 (.ref 264) where
  f6 := FnIs.ofK hP rfl rfl rfl rfl rfl rfl
  fa := by rw [hP]; rfl
  i6 := by rw [hP]; rfl
theorem Dflt2.ofK {P : Par} {K : Frag} (hP : P.K = K) {a : Addr} {o : Obj} {n : Nat} {t : Tok} (h : K.lookup a = some o) (hd : o.data = .seq #[.none, .int 1 t] n) : Dflt2 P (.ref a) := ⟨a, o, n, t, rfl, P.inK _ _ (hP ▸ h), hd⟩
noncomputable abbrev lawL : LawA := ⟨277, 284, 303, 298, 291, 145, .ref 276, .ref 283, .ref 302, .ref 297, .ref 144, .ref 138, 290, 286, ⟨76, 52, 59, 66, .ref 51, .ref 58, .ref 65⟩, ⟨⟨87, 101, 108, 115, 122, 100, 96, 107, 103, .ref 86, .ref 114, .ref 121⟩, ⟨268, 160, 167, 215, 220, 132, 137, kNa, kV, .ref 159, .ref 166, .ref 214, .ref 219, .ref 153, .ref 208⟩, 265, .ref 264⟩⟩
theorem lawF (hP : P.K = KH p) (hT : P.tabs = tabsL) (hq : P.qualAt = qualL) : LawF P lawL where
  pk := { dv := divF hP hT hq, hd := hdrF hP, hx := hdrX hP, b1 := Bi.ofK hP rfl rfl (by decide), b2 := Bi.ofK hP rfl rfl (by decide) }
  rd := { dv := divF hP hT hq, hd := hdrF hP, hx := hdrX hP, lx := lexF hP, b1 := Bi.ofK hP rfl rfl (by decide) }
  to := { f := FnIs.ofK hP rfl rfl rfl rfl rfl rfl, t := by rw [hT]; decide, q1 := by rw [hq]; decide +kernel, q2 := by rw [hq]; decide +kernel }
  pr := FnIs.ofK hP rfl rfl rfl rfl rfl rfl
  pf := FnIs.ofK hP rfl rfl rfl rfl rfl rfl
  wr := FnIs.ofK hP rfl rfl rfl rfl rfl rfl
  du := FnIs.ofK hP rfl rfl rfl rfl rfl rfl
  fm := FnIs.ofK hP rfl rfl rfl rfl rfl rfl
  D2 := Dflt2.ofK hP rfl rfl
  gPr := Glob.ofK hP rfl fun _ => .raw _
  gPk := Glob.ofK hP rfl fun _ => .raw _
  gWr := Glob.ofK hP rfl fun _ => .raw _
  gDu := Glob.ofK hP rfl fun _ => .raw _
  gTo := Glob.ofK hP rfl fun _ => .raw _
  gFm := Glob.ofK hP rfl fun _ => .raw _
  b1 := Bi.ofK hP rfl rfl (by decide)
  b2 := Bi.ofK hP rfl rfl (by decide)
  b3 := Bi.ofK hP rfl rfl (by decide)
theorem law_run {fa l L : Addr} {cd : Value} {vs : Array Value} {ns : List Int} {s : Shared} (hP : P.K = KH p) (hT : P.tabs = tabsL) (hq : P.qualAt = qualL) (F : Fr P.h₀ L s.heap (fun x => List.lookup x [(("script" : Str), Value.ref l)]))
    (N : ∀ q ∈ tabsL, s.heap.get? q.2 = some (tabObj #[]) ∧ q.2 ≠ L ∧ P.h₀.get? q.2 = none) (hl : P.h₀.IsList l vs) (hi : IntsAre vs.toList ns) (hn : ns.length ≤ 63) :
    wpAny (model P.prog P.w) (callerA.deeper (envX "law" (fnScope (T1 24)) L fa cd [])) (execs (fnBody (T1 24)) (envX "law" (fnScope (T1 24)) L fa cd []))
      (fun f s' => f = .ret (.bool true) ∧ St s s' ∧ (∀ a o, P.h₀.get? a = some o → s'.heap.get? a = some o) ∧ ∀ q ∈ tabsL, ∃ ps, s'.heap.get? q.2 = some (tabObj ps)) (fun _ _ => False) s := by
  have hR : Room (callerA.deeper (envX "law" (fnScope (T1 24)) L fa cd [])) 45 := ⟨by show callerA.depth + 1 + 2 * 45 < 1000; decide, by show callerA.units + 3 + 8 * 45 + 40 < 9900; decide, rfl⟩
  obtain ⟨oL, es, ep, hoL, hdL, hkL, hfL⟩ := F.ns
  have hLn : P.h₀.get? L = none := Heap.get?_none_of_le F.above
  have I : Inv P (fun a => P.h₀.get? a) [(L, .ns [("script", some (R l)), ("pairs", none), ("text", none), ("number", none), ("told", none), ("heard", none)])] s.heap := by
    refine ⟨fun a o e => e, F.keep, fun q hq => ?_, fun q hq => ?_, by simp, fun q hq => ?_⟩
    · rw [List.mem_singleton.mp hq]
      refine ⟨oL, hoL, es, ep, hdL, hkL, nodupB_of rfl, fun q hq => ?_⟩
      rw [hfL]
      simp only [List.mem_cons, List.not_mem_nil, or_false] at hq
      rcases hq with rfl | rfl | rfl | rfl | rfl | rfl
      · exact VRel.raw _
      all_goals trivial
    · rw [List.mem_singleton.mp hq]; exact hLn
    · rw [hT] at hq
      obtain ⟨n1, n2, n3⟩ := N q hq
      exact ⟨⟨#[], n1, trivial, fun pos cv e => by cases e⟩, n3, by simpa using n2⟩
  refine wpAny_mono (law_body (lawF hP hT hq) hl hi hn _ s _ hR I) (fun f s' ⟨st, β', le, fl, σ', μ', I', rf, e⟩ => ?_) fun _ _ x => x
  subst e
  cases rf with | ret r =>
  cases r
  refine ⟨rfl, st, fun a o e => I'.froz _ _ (I'.base _ _ e), fun q hq => ?_⟩
  obtain ⟨⟨ps, e1, _⟩, _⟩ := I'.tab q (by rw [hT]; exact hq)
  exact ⟨ps, e1⟩
end

noncomputable def parL {w : World} {h : Heap} {q : Program} {loose : List Str} {mean : ExcName → Option Value} {mg mb : Str → Option Value} (prog : Program) (X : (KH w.params).In h) (T : Top q loose mean mg mb h)
    (c1 : CodeHd h 100 96) (c2 : CodeHd h 290 286) (c3 : CodeHd h 107 103) : Par where
  prog := prog
  w := w
  K := KH w.params
  h₀ := h
  tabs := tabsL
  qualAt := qualL
  mg := mg
  mb := mb
  inK := X
  g := T.g
  b := T.b
  nolimit := T.nolimit
  builtins := T.builtins
  nodigits := T.nodigits
  bmain := T.bmain
  codeHd := fun q hq => by
    simp only [List.mem_cons, List.not_mem_nil, or_false] at hq
    rcases hq with rfl | rfl | rfl
    · exact c1
    · exact c2
    · exact c3
  tabsNd := by decide
theorem finish {w : World} {s₁ : Shared} {q : Program} {loose : List Str} {mean : ExcName → Option Value} {mg mb : Str → Option Value} {prog : Program} {fa l : Addr} {cd : Value} {vs : List Value} {ns : List Int} {s : Shared}
    (X : (KH w.params).In (ghostOf s₁.heap tabsL)) (T : Top q loose mean mg mb (ghostOf s₁.heap tabsL)) (F : Fr (ghostOf s₁.heap tabsL) s₁.heap.objs.size s.heap (fun x => List.lookup x [(("script" : Str), Value.ref l)]))
    (N : News (ghostOf s₁.heap tabsL) s₁.heap.objs.size s.heap [(96, tabObj #[]), (286, tabObj #[]), (103, tabObj #[])]) (hl : (ghostOf s₁.heap tabsL).IsList l vs.toArray) (hi : IntsAre vs ns) (hn : ¬ ((63 : Nat) : Int) < (ns.length : Int))
    (c1 : CodeHd (ghostOf s₁.heap tabsL) 100 96) (c2 : CodeHd (ghostOf s₁.heap tabsL) 290 286) (c3 : CodeHd (ghostOf s₁.heap tabsL) 107 103) :
    wpAny (model prog w) (callerA.deeper (envX "law" (fnScope (T1 24)) s₁.heap.objs.size fa cd [])) (execs (fnBody (T1 24)) (envX "law" (fnScope (T1 24)) s₁.heap.objs.size fa cd []))
      (fun f s' => f = .ret (.bool true) ∧ St s s' ∧ (∀ a o, (ghostOf s₁.heap tabsL).get? a = some o → s'.heap.get? a = some o) ∧ ∀ q ∈ tabsL, ∃ ps, s'.heap.get? q.2 = some (tabObj ps)) (fun _ _ => False) s := by
  refine law_run (P := parL prog X T c1 c2 c3) (p := w.params) rfl rfl rfl F (fun q hq => ?_) hl (by simpa using hi) (by omega)
  simp only [List.mem_cons, List.not_mem_nil, or_false] at hq
  rcases hq with rfl | rfl | rfl
  · exact N (96, tabObj #[]) (.head _)
  · exact N (286, tabObj #[]) (.tail _ (.head _))
  · exact N (103, tabObj #[]) (.tail _ (.tail _ (.head _)))
end Mine
open PySem PySem.W PySem.Calls PyProof.Rows
set_option maxHeartbeats 8000000 in
theorem PySem.Challenge.cw_ph0173_02_holds : PySem.Challenge.rw_ph0173_02.Holds := by
  w_on
  refine holds_law (by kernel_rfl) fun said => ?_
  refine holds_open (q := Mine.vw) (loose := ["tspecials", "_name_disallowed_re", "_value_disallowed_re", "_formatparam"]) (Xt := fun s => xlAt Mine.vw [] s && recOk [] s) (XP := XL Mine.vw []) (Yf := Mine.HK.obs) (Ya := Mine.HK.val) (YP := (kmHook Mine.KH Mine.asH (fun _ => by kernel_rfl) [96, 286, 103]).says) (N := 4032) Mine.left Mine.HK.of Mine.HK.keeps (fun s e => xl_of s (Bool.and_eq_true_iff.mp e).1) XL.keeps (by rfl) (by rfl) (by rfl) (fun s e => recFacts_of (Bool.and_eq_true_iff.mp e).2) (by rfl) (by first | assumption | decide +kernel) (by decide +kernel) ⟨rfl, rfl, rfl, rfl, rfl, by decide +kernel⟩ ?hw ?hc
  case hw => w_witness2
  case hc =>
    k_fill
    intro w s₀ s₁ mg mb G Y fa o pm cd doc dV kV ho hd hcd hD hmg hg args vals as hpre hlay hrd hwl hlo
    have KX := km_in_of Y
    km_tabs Y
    have X := (Ground.X G).1
    have V := (Ground.X G).2
    refine Ground.open G ?_
    intro T B D TE TW
    try (refine guard_noD D (by decide +kernel) ?_; clear D)
    km_lay T hmg ho hd cd
    clear hmg
    wrow_args hpre hlay hrd hwl hlo
    all_goals (
      first | refine callC_kw (enter_call ?_) | refine enter_call ?_
      w_top on
      kn_posts
      w_call any ho hd hcd hD T F
      clear hd
      kn_ghosts F T
      k_drop
      skip)
    refine wpAny_mono (Mine.finish (by assumption) (by assumption) (by assumption) (by assumption) (by assumption) (by assumption) (by assumption) (by assumption) (by assumption) (by assumption)) (fun f s' hh => ?_) (fun _ _ x => x.elim)
    obtain ⟨e, st, hk, ht⟩ := hh
    subst e
    refine ⟨⟨.inl ⟨_, .bool true, [], rfl, fun _ => rfl, .bool _, ?_, ?_⟩, hk, ?_, ?_⟩, ?_⟩
    · first | rfl | wrow_post
    · exact fun _ => ⟨List.nodup_nil, fun a ha => by cases ha⟩
    · exact st.os
    · exact st.gens.trans (by assumption)
    · exact ⟨ht _ (.head _), ht _ (.tail _ (.head _)), ht _ (.tail _ (.tail _ (.head _))), trivial⟩
