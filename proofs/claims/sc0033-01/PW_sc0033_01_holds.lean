import PyProof.Rows.All
import Wide.All
import OpenK.AllK
import Wide.FinOn
import PySem.Challenge.RW_sc0033_01
open PySem PySem.W PyProof.Rows PySem.Spec PySem.Calls
set_option Elab.async false
set_option maxRecDepth 100000
set_option maxHeartbeats 8000000
set_option rowWalk.seconds 0
set_option compiler.extract_closed false
set_option genInjectivity false
set_option genSizeOf false
set_option linter.all false
namespace Mine
noncomputable def nth : List Stmt → Nat → Stmt
  | [], _ => .Pass ⟨0, 0, 0, 0⟩
  | a :: _, 0 => a
  | _ :: l, n + 1 => nth l n
noncomputable def fP : Stmt → Arguments
  | .FunctionDef _ a _ _ _ _ _ _ _ _ => a
  | _ => ⟨[], [], none, [], [], none, []⟩
noncomputable def fB : Stmt → List Stmt
  | .FunctionDef _ _ b _ _ _ _ _ _ _ => b
  | .ClassDef _ _ _ b _ _ _ _ _ _ _ => b
  | _ => []
noncomputable def fS : Stmt → Scope
  | .FunctionDef _ _ _ _ _ _ s _ _ _ => s
  | _ => { kind := .function, names := [], isGenerator := false, isCoroutine := false }
noncomputable def fo (i : Stmt) (n q m : Str) (t : Tok) (c : Addr) : Obj :=
  { cls := .type "function", data := .func { name := n, qualname := q, params := fP i, body := .stmts (fB i), scope := fS i, globals := 3, closure := [], defaults := .none, kwdefaults := .none, pyModule := .str m t, code := .ref c } }
/- hp: the objects that the proof reads, the functions' bodies out of the program's own text; hs: the same, written out -/
noncomputable def khq0 : Params → Frag := fun P =>
  (nat_lit 2, { cls := Value.none, data := Data.dict #[{ hash := PyData.keyHash P (Str.ofString "type.__subclasses__.Exception.0"), key := Value.str (Str.ofString "type.__subclasses__.Exception.0") 212, val := Value.int 31 0 }, { hash := PyData.keyHash P (Str.ofString "type.__subclasses__.Exception.n"), key := Value.str (Str.ofString "type.__subclasses__.Exception.n") 213, val := Value.int 1 0 }] 2 }) :: []
noncomputable def khq1 : Params → Frag := fun P =>
  (nat_lit 3, { cls := Value.type "dict", data := Data.dict #[{ hash := PyData.keyHash P (Str.ofString "__name__"), key := Value.str (Str.ofString "__name__") 165, val := Value.str (Str.ofString "law_sc0033_01") 319 }, { hash := PyData.keyHash P (Str.ofString "__doc__"), key := Value.str (Str.ofString "__doc__") 166, val := Value.none }, { hash := PyData.keyHash P (Str.ofString "__package__"), key := Value.str (Str.ofString "__package__") 167, val := Value.none }, { hash := PyData.keyHash P (Str.ofString "__loader__"), key := Value.str (Str.ofString "__loader__") 168, val := Value.builtin "__main__.__loader__#opaque" }, { hash := PyData.keyHash P (Str.ofString "__spec__"), key := Value.str (Str.ofString "__spec__") 169, val := Value.none }, { hash := PyData.keyHash P (Str.ofString "__annotations__"), key := Value.str (Str.ofString "__annotations__") 170, val := Value.ref 6 }, { hash := PyData.keyHash P (Str.ofString "__builtins__"), key := Value.str (Str.ofString "__builtins__") 171, val := Value.ref 4 }, { hash := PyData.keyHash P (Str.ofString "__file__"), key := Value.str (Str.ofString "__file__") 173, val := Value.str (Str.ofString "/claim/cut.py") 172 }, { hash := PyData.keyHash P (Str.ofString "__cached__"), key := Value.str (Str.ofString "__cached__") 174, val := Value.none }, { hash := PyData.keyHash P (Str.ofString "_wall"), key := Value.str (Str.ofString "_wall") 193, val := Value.ref 21 }, { hash := PyData.keyHash P (Str.ofString "Error"), key := Value.str (Str.ofString "Error") 215, val := Value.ref 31 }, { hash := PyData.keyHash P (Str.ofString "error_reply"), key := Value.str (Str.ofString "error_reply") 231, val := Value.ref 44 }, { hash := PyData.keyHash P (Str.ofString "parse257"), key := Value.str (Str.ofString "parse257") 242, val := Value.ref 53 }, { hash := PyData.keyHash P (Str.ofString "ELLIPSIS_MARKER"), key := Value.str (Str.ofString "ELLIPSIS_MARKER") 246, val := Value.str (Str.ofString "...") 245 }, { hash := PyData.keyHash P (Str.ofString "_ellipsis_match"), key := Value.str (Str.ofString "_ellipsis_match") 258, val := Value.ref 60 }, { hash := PyData.keyHash P (Str.ofString "_netrclex"), key := Value.str (Str.ofString "_netrclex") 318, val := Value.ref 98 }, { hash := PyData.keyHash P (Str.ofString "_law_sign"), key := Value.str (Str.ofString "_law_sign") 328, val := Value.ref 109 }, { hash := PyData.keyHash P (Str.ofString "_law_drawn"), key := Value.str (Str.ofString "_law_drawn") 334, val := Value.ref 114 }, { hash := PyData.keyHash P (Str.ofString "_law_fronts"), key := Value.str (Str.ofString "_law_fronts") 346, val := Value.ref 121 }, { hash := PyData.keyHash P (Str.ofString "_law_ends"), key := Value.str (Str.ofString "_law_ends") 359, val := Value.ref 128 }, { hash := PyData.keyHash P (Str.ofString "_law_lexer"), key := Value.str (Str.ofString "_law_lexer") 371, val := Value.ref 135 }, { hash := PyData.keyHash P (Str.ofString "_law_read"), key := Value.str (Str.ofString "_law_read") 381, val := Value.ref 142 }, { hash := PyData.keyHash P (Str.ofString "_law_unread"), key := Value.str (Str.ofString "_law_unread") 390, val := Value.ref 149 }, { hash := PyData.keyHash P (Str.ofString "_law_found"), key := Value.str (Str.ofString "_law_found") 398, val := Value.ref 156 }, { hash := PyData.keyHash P (Str.ofString "_law_first_ones"), key := Value.str (Str.ofString "_law_first_ones") 407, val := Value.ref 163 }, { hash := PyData.keyHash P (Str.ofString "_law_last_ones"), key := Value.str (Str.ofString "_law_last_ones") 417, val := Value.ref 170 }, { hash := PyData.keyHash P (Str.ofString "_law_parted"), key := Value.str (Str.ofString "_law_parted") 423, val := Value.ref 175 }, { hash := PyData.keyHash P (Str.ofString "_law_stops"), key := Value.str (Str.ofString "_law_stops") 446, val := Value.ref 182 }, { hash := PyData.keyHash P (Str.ofString "law"), key := Value.str (Str.ofString "law") 452, val := Value.ref 187 }] 29 }) :: []
noncomputable def khq2 : Params → Frag := fun P =>
  (nat_lit 22, { cls := Value.type "tuple", data := Data.seq #[Value.type "Exception"] }) :: []
noncomputable def khq3 : Params → Frag := fun P =>
  (nat_lit 30, { cls := Value.type "dict", data := Data.dict #[{ hash := PyData.keyHash P (Str.ofString "__module__"), key := Value.str (Str.ofString "__module__") 203, val := Value.str (Str.ofString "cpy313.ftplib") 194 }, { hash := PyData.keyHash P (Str.ofString "__firstlineno__"), key := Value.str (Str.ofString "__firstlineno__") 207, val := Value.int 5 206 }, { hash := PyData.keyHash P (Str.ofString "__static_attributes__"), key := Value.str (Str.ofString "__static_attributes__") 208, val := Value.ref 29 }, { hash := PyData.keyHash P (Str.ofString "__weakref__"), key := Value.str (Str.ofString "__weakref__") 210, val := Value.ref 32 }, { hash := PyData.keyHash P (Str.ofString "__doc__"), key := Value.str (Str.ofString "__doc__") 211, val := Value.none }] 3 }) :: []
noncomputable def khq4 : Params → Frag := fun P =>
  (nat_lit 31, { cls := Value.type "type", data := Data.cls { name := Str.ofString "Error", bases := [Value.type "Exception"], mro := [Value.ref 31, Value.type "Exception", Value.type "BaseException", Value.type "object"], ns := 30, qualname := Str.ofString "Error", subclasses := [Value.ref 44] }, slots := #[some (Value.ref 22), none, some (Value.str (Str.ofString "Error") 196), some (Value.str (Str.ofString "Error") 204), some (Value.builtin "Exception.__new__"), some (Value.bool true)] }) ::
  (nat_lit 32, { cls := Value.type "getset_descriptor", data := Data.fields #[Value.str (Str.ofString "__weakref__") 209, Value.ref 31, Value.builtin "ExceptionGroup.__weakref__", Value.none] }) ::
  (nat_lit 35, { cls := Value.type "tuple", data := Data.seq #[Value.ref 31] }) ::
  (nat_lit 43, { cls := Value.type "dict", data := Data.dict #[{ hash := PyData.keyHash P (Str.ofString "__module__"), key := Value.str (Str.ofString "__module__") 223, val := Value.str (Str.ofString "cpy313.ftplib") 194 }, { hash := PyData.keyHash P (Str.ofString "__firstlineno__"), key := Value.str (Str.ofString "__firstlineno__") 227, val := Value.int 7 226 }, { hash := PyData.keyHash P (Str.ofString "__static_attributes__"), key := Value.str (Str.ofString "__static_attributes__") 228, val := Value.ref 42 }, { hash := PyData.keyHash P (Str.ofString "__doc__"), key := Value.str (Str.ofString "__doc__") 229, val := Value.none }] 2 }) :: []
noncomputable def khq5 : Params → Frag := fun P =>
  (nat_lit 44, { cls := Value.type "type", data := Data.cls { name := Str.ofString "error_reply", bases := [Value.ref 31], mro := [Value.ref 44, Value.ref 31, Value.type "Exception", Value.type "BaseException", Value.type "object"], ns := 43, qualname := Str.ofString "error_reply" }, slots := #[some (Value.ref 35), none, some (Value.str (Str.ofString "error_reply") 216), some (Value.str (Str.ofString "error_reply") 224), some (Value.builtin "Exception.__new__"), some (Value.bool true)] }) ::
  (nat_lit 52, { cls := Value.type "code", data := Data.fields #[Value.str (Str.ofString "parse257") 232, Value.str (Str.ofString "parse257") 233, Value.str (Str.ofString "/claim/cut.py") 234, Value.int 9 0, Value.int 1 0, Value.int 0 0, Value.int 0 0, Value.int 3 0, Value.ref 47, Value.bool true, Value.int 181 0, Value.ref 48, Value.none, Value.ref 49, Value.ref 50, Value.ref 51, Value.int 240 0, Value.int 9 0, Value.str (Str.ofString "/claim/cut.py") 241] }) ::
  (nat_lit 53, fo (nth PySem.Challenge.pw_sc0033_01.main.body 4) (Str.ofString "parse257") (Str.ofString "parse257") (Str.ofString "cpy313.ftplib") 194 52) ::
  (nat_lit 59, { cls := Value.type "code", data := Data.fields #[Value.str (Str.ofString "_ellipsis_match") 247, Value.str (Str.ofString "_ellipsis_match") 248, Value.str (Str.ofString "/claim/cut.py") 249, Value.int 28 0, Value.int 2 0, Value.int 0 0, Value.int 0 0, Value.int 3 0, Value.ref 54, Value.bool true, Value.int 181 0, Value.ref 55, Value.none, Value.ref 56, Value.ref 57, Value.ref 58, Value.int 256 0, Value.int 28 0, Value.str (Str.ofString "/claim/cut.py") 257] }) :: []
noncomputable def khq6 : Params → Frag := fun P =>
  (nat_lit 60, fo (nth PySem.Challenge.pw_sc0033_01.main.body 7) (Str.ofString "_ellipsis_match") (Str.ofString "_ellipsis_match") (Str.ofString "cpy313.doctest") 243 59) ::
  (nat_lit 73, { cls := Value.type "code", data := Data.fields #[Value.str (Str.ofString "__init__") 273, Value.str (Str.ofString "_netrclex.__init__") 274, Value.str (Str.ofString "/claim/cut.py") 275, Value.int 59 0, Value.int 2 0, Value.int 0 0, Value.int 0 0, Value.int 3 0, Value.ref 68, Value.bool true, Value.int 181 0, Value.ref 69, Value.none, Value.ref 70, Value.ref 71, Value.ref 72, Value.int 278 0, Value.int 59 0, Value.str (Str.ofString "/claim/cut.py") 279] }) ::
  (nat_lit 74, fo (nth (fB (nth PySem.Challenge.pw_sc0033_01.main.body 9)) 0) (Str.ofString "__init__") (Str.ofString "_netrclex.__init__") (Str.ofString "cpy313.netrc") 259 73) ::
  (nat_lit 80, { cls := Value.type "code", data := Data.fields #[Value.str (Str.ofString "_read_char") 281, Value.str (Str.ofString "_netrclex._read_char") 282, Value.str (Str.ofString "/claim/cut.py") 283, Value.int 65 0, Value.int 1 0, Value.int 0 0, Value.int 0 0, Value.int 3 0, Value.ref 75, Value.bool true, Value.int 181 0, Value.ref 76, Value.none, Value.ref 77, Value.ref 78, Value.ref 79, Value.int 286 0, Value.int 65 0, Value.str (Str.ofString "/claim/cut.py") 287] }) :: []
noncomputable def khq7 : Params → Frag := fun P =>
  (nat_lit 81, fo (nth (fB (nth PySem.Challenge.pw_sc0033_01.main.body 9)) 1) (Str.ofString "_read_char") (Str.ofString "_netrclex._read_char") (Str.ofString "cpy313.netrc") 259 80) ::
  (nat_lit 87, { cls := Value.type "code", data := Data.fields #[Value.str (Str.ofString "get_token") 289, Value.str (Str.ofString "_netrclex.get_token") 290, Value.str (Str.ofString "/claim/cut.py") 291, Value.int 71 0, Value.int 1 0, Value.int 0 0, Value.int 0 0, Value.int 3 0, Value.ref 82, Value.bool true, Value.int 181 0, Value.ref 83, Value.none, Value.ref 84, Value.ref 85, Value.ref 86, Value.int 296 0, Value.int 71 0, Value.str (Str.ofString "/claim/cut.py") 297] }) ::
  (nat_lit 88, fo (nth (fB (nth PySem.Challenge.pw_sc0033_01.main.body 9)) 2) (Str.ofString "get_token") (Str.ofString "_netrclex.get_token") (Str.ofString "cpy313.netrc") 259 87) ::
  (nat_lit 96, { cls := Value.type "tuple", data := Data.seq #[Value.str (Str.ofString "instream") 307, Value.str (Str.ofString "lineno") 308, Value.str (Str.ofString "pushback") 309, Value.str (Str.ofString "whitespace") 310] }) :: []
noncomputable def khq8 : Params → Frag := fun P =>
  (nat_lit 97, { cls := Value.type "dict", data := Data.dict #[{ hash := PyData.keyHash P (Str.ofString "__module__"), key := Value.str (Str.ofString "__module__") 268, val := Value.str (Str.ofString "cpy313.netrc") 259 }, { hash := PyData.keyHash P (Str.ofString "__firstlineno__"), key := Value.str (Str.ofString "__firstlineno__") 272, val := Value.int 57 271 }, { hash := PyData.keyHash P (Str.ofString "__init__"), key := Value.str (Str.ofString "__init__") 280, val := Value.ref 74 }, { hash := PyData.keyHash P (Str.ofString "_read_char"), key := Value.str (Str.ofString "_read_char") 288, val := Value.ref 81 }, { hash := PyData.keyHash P (Str.ofString "get_token"), key := Value.str (Str.ofString "get_token") 298, val := Value.ref 88 }, { hash := PyData.keyHash P (Str.ofString "push_token"), key := Value.str (Str.ofString "push_token") 306, val := Value.ref 95 }, { hash := PyData.keyHash P (Str.ofString "__static_attributes__"), key := Value.str (Str.ofString "__static_attributes__") 311, val := Value.ref 96 }, { hash := PyData.keyHash P (Str.ofString "__dict__"), key := Value.str (Str.ofString "__dict__") 313, val := Value.ref 99 }, { hash := PyData.keyHash P (Str.ofString "__weakref__"), key := Value.str (Str.ofString "__weakref__") 315, val := Value.ref 100 }, { hash := PyData.keyHash P (Str.ofString "__doc__"), key := Value.str (Str.ofString "__doc__") 316, val := Value.none }] 4 }) :: []
noncomputable def khq9 : Params → Frag := fun P =>
  (nat_lit 98, { cls := Value.type "type", data := Data.cls { name := Str.ofString "_netrclex", bases := [Value.type "object"], mro := [Value.ref 98, Value.type "object"], ns := 97, qualname := Str.ofString "_netrclex" }, slots := #[none, none, some (Value.str (Str.ofString "_netrclex") 261), some (Value.str (Str.ofString "_netrclex") 269), some (Value.builtin "object.__new__"), some (Value.bool true)] }) ::
  (nat_lit 99, { cls := Value.type "getset_descriptor", data := Data.fields #[Value.str (Str.ofString "__dict__") 312, Value.ref 98, Value.builtin "function.__dict__", Value.builtin "function.__dict__#set"] }) ::
  (nat_lit 100, { cls := Value.type "getset_descriptor", data := Data.fields #[Value.str (Str.ofString "__weakref__") 314, Value.ref 98, Value.builtin "ExceptionGroup.__weakref__", Value.none] }) ::
  (nat_lit 108, { cls := Value.type "code", data := Data.fields #[Value.str (Str.ofString "_law_sign") 321, Value.str (Str.ofString "_law_sign") 322, Value.str (Str.ofString "/claim/cut.py") 323, Value.int 101 0, Value.int 1 0, Value.int 0 0, Value.int 0 0, Value.int 3 0, Value.ref 103, Value.bool true, Value.int 181 0, Value.ref 104, Value.none, Value.ref 105, Value.ref 106, Value.ref 107, Value.int 326 0, Value.int 101 0, Value.str (Str.ofString "/claim/cut.py") 327] }) :: []
noncomputable def khq10 : Params → Frag := fun P =>
  (nat_lit 109, fo (nth PySem.Challenge.pw_sc0033_01.main.body 11) (Str.ofString "_law_sign") (Str.ofString "_law_sign") (Str.ofString "law_sc0033_01") 319 108) ::
  (nat_lit 113, { cls := Value.type "code", data := Data.fields #[Value.str (Str.ofString "_law_drawn") 329, Value.str (Str.ofString "_law_drawn") 330, Value.str (Str.ofString "/claim/cut.py") 331, Value.int 104 0, Value.int 1 0, Value.int 0 0, Value.int 0 0, Value.int 3 0, Value.ref 110, Value.bool true, Value.int 181 0, Value.ref 111, Value.none, Value.none, Value.none, Value.ref 112, Value.int 332 0, Value.int 104 0, Value.str (Str.ofString "/claim/cut.py") 333] }) ::
  (nat_lit 114, fo (nth PySem.Challenge.pw_sc0033_01.main.body 12) (Str.ofString "_law_drawn") (Str.ofString "_law_drawn") (Str.ofString "law_sc0033_01") 319 113) ::
  (nat_lit 120, { cls := Value.type "code", data := Data.fields #[Value.str (Str.ofString "_law_fronts") 335, Value.str (Str.ofString "_law_fronts") 336, Value.str (Str.ofString "/claim/cut.py") 337, Value.int 117 0, Value.int 2 0, Value.int 0 0, Value.int 0 0, Value.int 3 0, Value.ref 115, Value.bool true, Value.int 181 0, Value.ref 116, Value.none, Value.ref 117, Value.ref 118, Value.ref 119, Value.int 344 0, Value.int 117 0, Value.str (Str.ofString "/claim/cut.py") 345] }) :: []
noncomputable def khq11 : Params → Frag := fun P =>
  (nat_lit 121, fo (nth PySem.Challenge.pw_sc0033_01.main.body 13) (Str.ofString "_law_fronts") (Str.ofString "_law_fronts") (Str.ofString "law_sc0033_01") 319 120) ::
  (nat_lit 127, { cls := Value.type "code", data := Data.fields #[Value.str (Str.ofString "_law_ends") 347, Value.str (Str.ofString "_law_ends") 348, Value.str (Str.ofString "/claim/cut.py") 349, Value.int 127 0, Value.int 2 0, Value.int 0 0, Value.int 0 0, Value.int 3 0, Value.ref 122, Value.bool true, Value.int 181 0, Value.ref 123, Value.none, Value.ref 124, Value.ref 125, Value.ref 126, Value.int 357 0, Value.int 127 0, Value.str (Str.ofString "/claim/cut.py") 358] }) ::
  (nat_lit 128, fo (nth PySem.Challenge.pw_sc0033_01.main.body 14) (Str.ofString "_law_ends") (Str.ofString "_law_ends") (Str.ofString "law_sc0033_01") 319 127) ::
  (nat_lit 134, { cls := Value.type "code", data := Data.fields #[Value.str (Str.ofString "_law_lexer") 360, Value.str (Str.ofString "_law_lexer") 361, Value.str (Str.ofString "/claim/cut.py") 362, Value.int 138 0, Value.int 2 0, Value.int 0 0, Value.int 0 0, Value.int 3 0, Value.ref 129, Value.bool true, Value.int 181 0, Value.ref 130, Value.none, Value.ref 131, Value.ref 132, Value.ref 133, Value.int 369 0, Value.int 138 0, Value.str (Str.ofString "/claim/cut.py") 370] }) :: []
noncomputable def khq12 : Params → Frag := fun P =>
  (nat_lit 135, fo (nth PySem.Challenge.pw_sc0033_01.main.body 15) (Str.ofString "_law_lexer") (Str.ofString "_law_lexer") (Str.ofString "law_sc0033_01") 319 134) ::
  (nat_lit 141, { cls := Value.type "code", data := Data.fields #[Value.str (Str.ofString "_law_read") 372, Value.str (Str.ofString "_law_read") 373, Value.str (Str.ofString "/claim/cut.py") 374, Value.int 146 0, Value.int 4 0, Value.int 0 0, Value.int 0 0, Value.int 3 0, Value.ref 136, Value.bool true, Value.int 181 0, Value.ref 137, Value.none, Value.ref 138, Value.ref 139, Value.ref 140, Value.int 379 0, Value.int 146 0, Value.str (Str.ofString "/claim/cut.py") 380] }) ::
  (nat_lit 142, fo (nth PySem.Challenge.pw_sc0033_01.main.body 16) (Str.ofString "_law_read") (Str.ofString "_law_read") (Str.ofString "law_sc0033_01") 319 141) ::
  (nat_lit 148, { cls := Value.type "code", data := Data.fields #[Value.str (Str.ofString "_law_unread") 382, Value.str (Str.ofString "_law_unread") 383, Value.str (Str.ofString "/claim/cut.py") 384, Value.int 150 0, Value.int 2 0, Value.int 0 0, Value.int 0 0, Value.int 3 0, Value.ref 143, Value.bool true, Value.int 181 0, Value.ref 144, Value.none, Value.ref 145, Value.ref 146, Value.ref 147, Value.int 388 0, Value.int 150 0, Value.str (Str.ofString "/claim/cut.py") 389] }) :: []
noncomputable def khq13 : Params → Frag := fun P =>
  (nat_lit 149, fo (nth PySem.Challenge.pw_sc0033_01.main.body 17) (Str.ofString "_law_unread") (Str.ofString "_law_unread") (Str.ofString "law_sc0033_01") 319 148) ::
  (nat_lit 155, { cls := Value.type "code", data := Data.fields #[Value.str (Str.ofString "_law_found") 391, Value.str (Str.ofString "_law_found") 392, Value.str (Str.ofString "/claim/cut.py") 393, Value.int 158 0, Value.int 2 0, Value.int 0 0, Value.int 0 0, Value.int 3 0, Value.ref 150, Value.bool true, Value.int 181 0, Value.ref 151, Value.none, Value.ref 152, Value.ref 153, Value.ref 154, Value.int 396 0, Value.int 158 0, Value.str (Str.ofString "/claim/cut.py") 397] }) ::
  (nat_lit 156, fo (nth PySem.Challenge.pw_sc0033_01.main.body 18) (Str.ofString "_law_found") (Str.ofString "_law_found") (Str.ofString "law_sc0033_01") 319 155) ::
  (nat_lit 162, { cls := Value.type "code", data := Data.fields #[Value.str (Str.ofString "_law_first_ones") 399, Value.str (Str.ofString "_law_first_ones") 400, Value.str (Str.ofString "/claim/cut.py") 401, Value.int 160 0, Value.int 3 0, Value.int 0 0, Value.int 0 0, Value.int 3 0, Value.ref 157, Value.bool true, Value.int 181 0, Value.ref 158, Value.none, Value.ref 159, Value.ref 160, Value.ref 161, Value.int 405 0, Value.int 160 0, Value.str (Str.ofString "/claim/cut.py") 406] }) :: []
noncomputable def khq14 : Params → Frag := fun P =>
  (nat_lit 163, fo (nth PySem.Challenge.pw_sc0033_01.main.body 19) (Str.ofString "_law_first_ones") (Str.ofString "_law_first_ones") (Str.ofString "law_sc0033_01") 319 162) ::
  (nat_lit 169, { cls := Value.type "code", data := Data.fields #[Value.str (Str.ofString "_law_last_ones") 408, Value.str (Str.ofString "_law_last_ones") 409, Value.str (Str.ofString "/claim/cut.py") 410, Value.int 164 0, Value.int 3 0, Value.int 0 0, Value.int 0 0, Value.int 3 0, Value.ref 164, Value.bool true, Value.int 181 0, Value.ref 165, Value.none, Value.ref 166, Value.ref 167, Value.ref 168, Value.int 415 0, Value.int 164 0, Value.str (Str.ofString "/claim/cut.py") 416] }) ::
  (nat_lit 170, fo (nth PySem.Challenge.pw_sc0033_01.main.body 20) (Str.ofString "_law_last_ones") (Str.ofString "_law_last_ones") (Str.ofString "law_sc0033_01") 319 169) ::
  (nat_lit 174, { cls := Value.type "code", data := Data.fields #[Value.str (Str.ofString "_law_parted") 418, Value.str (Str.ofString "_law_parted") 419, Value.str (Str.ofString "/claim/cut.py") 420, Value.int 169 0, Value.int 3 0, Value.int 0 0, Value.int 0 0, Value.int 3 0, Value.ref 171, Value.bool true, Value.int 181 0, Value.ref 172, Value.none, Value.none, Value.none, Value.ref 173, Value.int 421 0, Value.int 169 0, Value.str (Str.ofString "/claim/cut.py") 422] }) :: []
noncomputable def khq15 : Params → Frag := fun P =>
  (nat_lit 175, fo (nth PySem.Challenge.pw_sc0033_01.main.body 21) (Str.ofString "_law_parted") (Str.ofString "_law_parted") (Str.ofString "law_sc0033_01") 319 174) ::
  (nat_lit 181, { cls := Value.type "code", data := Data.fields #[Value.str (Str.ofString "_law_stops") 424, Value.str (Str.ofString "_law_stops") 425, Value.str (Str.ofString "/claim/cut.py") 426, Value.int 175 0, Value.int 4 0, Value.int 0 0, Value.int 0 0, Value.int 3 0, Value.ref 176, Value.bool true, Value.int 181 0, Value.ref 177, Value.none, Value.ref 178, Value.ref 179, Value.ref 180, Value.int 444 0, Value.int 175 0, Value.str (Str.ofString "/claim/cut.py") 445] }) ::
  (nat_lit 182, fo (nth PySem.Challenge.pw_sc0033_01.main.body 22) (Str.ofString "_law_stops") (Str.ofString "_law_stops") (Str.ofString "law_sc0033_01") 319 181) ::
  (nat_lit 186, { cls := Value.type "code", data := Data.fields #[Value.str (Str.ofString "law") 447, Value.str (Str.ofString "law") 448, Value.str (Str.ofString "/claim/cut.py") 449, Value.int 200 0, Value.int 1 0, Value.int 0 0, Value.int 0 0, Value.int 3 0, Value.ref 183, Value.bool true, Value.int 181 0, Value.ref 184, Value.none, Value.none, Value.none, Value.ref 185, Value.int 450 0, Value.int 200 0, Value.str (Str.ofString "/claim/cut.py") 451] }) :: []
noncomputable def khq16 : Params → Frag := fun P =>
  (nat_lit 187, fo (nth PySem.Challenge.pw_sc0033_01.main.body 23) (Str.ofString "law") (Str.ofString "law") (Str.ofString "law_sc0033_01") 319 186) :: []
noncomputable def Khq : Params → Frag := fun P => khq0 P ++ (khq1 P ++ (khq2 P ++ (khq3 P ++ (khq4 P ++ (khq5 P ++ (khq6 P ++ (khq7 P ++ (khq8 P ++ (khq9 P ++ (khq10 P ++ (khq11 P ++ (khq12 P ++ (khq13 P ++ (khq14 P ++ (khq15 P ++ (khq16 P))))))))))))))))
noncomputable def Khp : Params → Frag := fun P =>
  (nat_lit 2, { cls := Value.none, data := Data.dict #[{ hash := PyData.keyHash P (Str.ofString "type.__subclasses__.Exception.0"), key := Value.str (Str.ofString "type.__subclasses__.Exception.0") 212, val := Value.int 31 0 }, { hash := PyData.keyHash P (Str.ofString "type.__subclasses__.Exception.n"), key := Value.str (Str.ofString "type.__subclasses__.Exception.n") 213, val := Value.int 1 0 }] 2 }) ::
  (nat_lit 3, { cls := Value.type "dict", data := Data.dict #[{ hash := PyData.keyHash P (Str.ofString "__name__"), key := Value.str (Str.ofString "__name__") 165, val := Value.str (Str.ofString "law_sc0033_01") 319 }, { hash := PyData.keyHash P (Str.ofString "__doc__"), key := Value.str (Str.ofString "__doc__") 166, val := Value.none }, { hash := PyData.keyHash P (Str.ofString "__package__"), key := Value.str (Str.ofString "__package__") 167, val := Value.none }, { hash := PyData.keyHash P (Str.ofString "__loader__"), key := Value.str (Str.ofString "__loader__") 168, val := Value.builtin "__main__.__loader__#opaque" }, { hash := PyData.keyHash P (Str.ofString "__spec__"), key := Value.str (Str.ofString "__spec__") 169, val := Value.none }, { hash := PyData.keyHash P (Str.ofString "__annotations__"), key := Value.str (Str.ofString "__annotations__") 170, val := Value.ref 6 }, { hash := PyData.keyHash P (Str.ofString "__builtins__"), key := Value.str (Str.ofString "__builtins__") 171, val := Value.ref 4 }, { hash := PyData.keyHash P (Str.ofString "__file__"), key := Value.str (Str.ofString "__file__") 173, val := Value.str (Str.ofString "/claim/cut.py") 172 }, { hash := PyData.keyHash P (Str.ofString "__cached__"), key := Value.str (Str.ofString "__cached__") 174, val := Value.none }, { hash := PyData.keyHash P (Str.ofString "_wall"), key := Value.str (Str.ofString "_wall") 193, val := Value.ref 21 }, { hash := PyData.keyHash P (Str.ofString "Error"), key := Value.str (Str.ofString "Error") 215, val := Value.ref 31 }, { hash := PyData.keyHash P (Str.ofString "error_reply"), key := Value.str (Str.ofString "error_reply") 231, val := Value.ref 44 }, { hash := PyData.keyHash P (Str.ofString "parse257"), key := Value.str (Str.ofString "parse257") 242, val := Value.ref 53 }, { hash := PyData.keyHash P (Str.ofString "ELLIPSIS_MARKER"), key := Value.str (Str.ofString "ELLIPSIS_MARKER") 246, val := Value.str (Str.ofString "...") 245 }, { hash := PyData.keyHash P (Str.ofString "_ellipsis_match"), key := Value.str (Str.ofString "_ellipsis_match") 258, val := Value.ref 60 }, { hash := PyData.keyHash P (Str.ofString "_netrclex"), key := Value.str (Str.ofString "_netrclex") 318, val := Value.ref 98 }, { hash := PyData.keyHash P (Str.ofString "_law_sign"), key := Value.str (Str.ofString "_law_sign") 328, val := Value.ref 109 }, { hash := PyData.keyHash P (Str.ofString "_law_drawn"), key := Value.str (Str.ofString "_law_drawn") 334, val := Value.ref 114 }, { hash := PyData.keyHash P (Str.ofString "_law_fronts"), key := Value.str (Str.ofString "_law_fronts") 346, val := Value.ref 121 }, { hash := PyData.keyHash P (Str.ofString "_law_ends"), key := Value.str (Str.ofString "_law_ends") 359, val := Value.ref 128 }, { hash := PyData.keyHash P (Str.ofString "_law_lexer"), key := Value.str (Str.ofString "_law_lexer") 371, val := Value.ref 135 }, { hash := PyData.keyHash P (Str.ofString "_law_read"), key := Value.str (Str.ofString "_law_read") 381, val := Value.ref 142 }, { hash := PyData.keyHash P (Str.ofString "_law_unread"), key := Value.str (Str.ofString "_law_unread") 390, val := Value.ref 149 }, { hash := PyData.keyHash P (Str.ofString "_law_found"), key := Value.str (Str.ofString "_law_found") 398, val := Value.ref 156 }, { hash := PyData.keyHash P (Str.ofString "_law_first_ones"), key := Value.str (Str.ofString "_law_first_ones") 407, val := Value.ref 163 }, { hash := PyData.keyHash P (Str.ofString "_law_last_ones"), key := Value.str (Str.ofString "_law_last_ones") 417, val := Value.ref 170 }, { hash := PyData.keyHash P (Str.ofString "_law_parted"), key := Value.str (Str.ofString "_law_parted") 423, val := Value.ref 175 }, { hash := PyData.keyHash P (Str.ofString "_law_stops"), key := Value.str (Str.ofString "_law_stops") 446, val := Value.ref 182 }, { hash := PyData.keyHash P (Str.ofString "law"), key := Value.str (Str.ofString "law") 452, val := Value.ref 187 }] 29 }) ::
  (nat_lit 22, { cls := Value.type "tuple", data := Data.seq #[Value.type "Exception"] }) ::
  (nat_lit 30, { cls := Value.type "dict", data := Data.dict #[{ hash := PyData.keyHash P (Str.ofString "__module__"), key := Value.str (Str.ofString "__module__") 203, val := Value.str (Str.ofString "cpy313.ftplib") 194 }, { hash := PyData.keyHash P (Str.ofString "__firstlineno__"), key := Value.str (Str.ofString "__firstlineno__") 207, val := Value.int 5 206 }, { hash := PyData.keyHash P (Str.ofString "__static_attributes__"), key := Value.str (Str.ofString "__static_attributes__") 208, val := Value.ref 29 }, { hash := PyData.keyHash P (Str.ofString "__weakref__"), key := Value.str (Str.ofString "__weakref__") 210, val := Value.ref 32 }, { hash := PyData.keyHash P (Str.ofString "__doc__"), key := Value.str (Str.ofString "__doc__") 211, val := Value.none }] 3 }) ::
  (nat_lit 31, { cls := Value.type "type", data := Data.cls { name := Str.ofString "Error", bases := [Value.type "Exception"], mro := [Value.ref 31, Value.type "Exception", Value.type "BaseException", Value.type "object"], ns := 30, qualname := Str.ofString "Error", subclasses := [Value.ref 44] }, slots := #[some (Value.ref 22), none, some (Value.str (Str.ofString "Error") 196), some (Value.str (Str.ofString "Error") 204), some (Value.builtin "Exception.__new__"), some (Value.bool true)] }) ::
  (nat_lit 32, { cls := Value.type "getset_descriptor", data := Data.fields #[Value.str (Str.ofString "__weakref__") 209, Value.ref 31, Value.builtin "ExceptionGroup.__weakref__", Value.none] }) ::
  (nat_lit 35, { cls := Value.type "tuple", data := Data.seq #[Value.ref 31] }) ::
  (nat_lit 43, { cls := Value.type "dict", data := Data.dict #[{ hash := PyData.keyHash P (Str.ofString "__module__"), key := Value.str (Str.ofString "__module__") 223, val := Value.str (Str.ofString "cpy313.ftplib") 194 }, { hash := PyData.keyHash P (Str.ofString "__firstlineno__"), key := Value.str (Str.ofString "__firstlineno__") 227, val := Value.int 7 226 }, { hash := PyData.keyHash P (Str.ofString "__static_attributes__"), key := Value.str (Str.ofString "__static_attributes__") 228, val := Value.ref 42 }, { hash := PyData.keyHash P (Str.ofString "__doc__"), key := Value.str (Str.ofString "__doc__") 229, val := Value.none }] 2 }) ::
  (nat_lit 44, { cls := Value.type "type", data := Data.cls { name := Str.ofString "error_reply", bases := [Value.ref 31], mro := [Value.ref 44, Value.ref 31, Value.type "Exception", Value.type "BaseException", Value.type "object"], ns := 43, qualname := Str.ofString "error_reply" }, slots := #[some (Value.ref 35), none, some (Value.str (Str.ofString "error_reply") 216), some (Value.str (Str.ofString "error_reply") 224), some (Value.builtin "Exception.__new__"), some (Value.bool true)] }) ::
  (nat_lit 52, { cls := Value.type "code", data := Data.fields #[Value.str (Str.ofString "parse257") 232, Value.str (Str.ofString "parse257") 233, Value.str (Str.ofString "/claim/cut.py") 234, Value.int 9 0, Value.int 1 0, Value.int 0 0, Value.int 0 0, Value.int 3 0, Value.ref 47, Value.bool true, Value.int 181 0, Value.ref 48, Value.none, Value.ref 49, Value.ref 50, Value.ref 51, Value.int 240 0, Value.int 9 0, Value.str (Str.ofString "/claim/cut.py") 241] }) ::
  (nat_lit 53, by (refine' (?f : ∀ o : Obj, fo (nth PySem.Challenge.pw_sc0033_01.main.body 4) (Str.ofString "parse257") (Str.ofString "parse257") (Str.ofString "cpy313.ftplib") 194 52 = o → Obj) _ ?h; (case f => exact fun o _ => o); (case h => dsimp only [fo, fP, fB, fS, nth, PySem.Challenge.pw_sc0033_01]; exact rfl))) ::
  (nat_lit 59, { cls := Value.type "code", data := Data.fields #[Value.str (Str.ofString "_ellipsis_match") 247, Value.str (Str.ofString "_ellipsis_match") 248, Value.str (Str.ofString "/claim/cut.py") 249, Value.int 28 0, Value.int 2 0, Value.int 0 0, Value.int 0 0, Value.int 3 0, Value.ref 54, Value.bool true, Value.int 181 0, Value.ref 55, Value.none, Value.ref 56, Value.ref 57, Value.ref 58, Value.int 256 0, Value.int 28 0, Value.str (Str.ofString "/claim/cut.py") 257] }) ::
  (nat_lit 60, by (refine' (?f : ∀ o : Obj, fo (nth PySem.Challenge.pw_sc0033_01.main.body 7) (Str.ofString "_ellipsis_match") (Str.ofString "_ellipsis_match") (Str.ofString "cpy313.doctest") 243 59 = o → Obj) _ ?h; (case f => exact fun o _ => o); (case h => dsimp only [fo, fP, fB, fS, nth, PySem.Challenge.pw_sc0033_01]; exact rfl))) ::
  (nat_lit 73, { cls := Value.type "code", data := Data.fields #[Value.str (Str.ofString "__init__") 273, Value.str (Str.ofString "_netrclex.__init__") 274, Value.str (Str.ofString "/claim/cut.py") 275, Value.int 59 0, Value.int 2 0, Value.int 0 0, Value.int 0 0, Value.int 3 0, Value.ref 68, Value.bool true, Value.int 181 0, Value.ref 69, Value.none, Value.ref 70, Value.ref 71, Value.ref 72, Value.int 278 0, Value.int 59 0, Value.str (Str.ofString "/claim/cut.py") 279] }) ::
  (nat_lit 74, by (refine' (?f : ∀ o : Obj, fo (nth (fB (nth PySem.Challenge.pw_sc0033_01.main.body 9)) 0) (Str.ofString "__init__") (Str.ofString "_netrclex.__init__") (Str.ofString "cpy313.netrc") 259 73 = o → Obj) _ ?h; (case f => exact fun o _ => o); (case h => dsimp only [fo, fP, fB, fS, nth, PySem.Challenge.pw_sc0033_01]; exact rfl))) ::
  (nat_lit 80, { cls := Value.type "code", data := Data.fields #[Value.str (Str.ofString "_read_char") 281, Value.str (Str.ofString "_netrclex._read_char") 282, Value.str (Str.ofString "/claim/cut.py") 283, Value.int 65 0, Value.int 1 0, Value.int 0 0, Value.int 0 0, Value.int 3 0, Value.ref 75, Value.bool true, Value.int 181 0, Value.ref 76, Value.none, Value.ref 77, Value.ref 78, Value.ref 79, Value.int 286 0, Value.int 65 0, Value.str (Str.ofString "/claim/cut.py") 287] }) ::
  (nat_lit 81, by (refine' (?f : ∀ o : Obj, fo (nth (fB (nth PySem.Challenge.pw_sc0033_01.main.body 9)) 1) (Str.ofString "_read_char") (Str.ofString "_netrclex._read_char") (Str.ofString "cpy313.netrc") 259 80 = o → Obj) _ ?h; (case f => exact fun o _ => o); (case h => dsimp only [fo, fP, fB, fS, nth, PySem.Challenge.pw_sc0033_01]; exact rfl))) ::
  (nat_lit 87, { cls := Value.type "code", data := Data.fields #[Value.str (Str.ofString "get_token") 289, Value.str (Str.ofString "_netrclex.get_token") 290, Value.str (Str.ofString "/claim/cut.py") 291, Value.int 71 0, Value.int 1 0, Value.int 0 0, Value.int 0 0, Value.int 3 0, Value.ref 82, Value.bool true, Value.int 181 0, Value.ref 83, Value.none, Value.ref 84, Value.ref 85, Value.ref 86, Value.int 296 0, Value.int 71 0, Value.str (Str.ofString "/claim/cut.py") 297] }) ::
  (nat_lit 88, by (refine' (?f : ∀ o : Obj, fo (nth (fB (nth PySem.Challenge.pw_sc0033_01.main.body 9)) 2) (Str.ofString "get_token") (Str.ofString "_netrclex.get_token") (Str.ofString "cpy313.netrc") 259 87 = o → Obj) _ ?h; (case f => exact fun o _ => o); (case h => dsimp only [fo, fP, fB, fS, nth, PySem.Challenge.pw_sc0033_01]; exact rfl))) ::
  (nat_lit 96, { cls := Value.type "tuple", data := Data.seq #[Value.str (Str.ofString "instream") 307, Value.str (Str.ofString "lineno") 308, Value.str (Str.ofString "pushback") 309, Value.str (Str.ofString "whitespace") 310] }) ::
  (nat_lit 97, { cls := Value.type "dict", data := Data.dict #[{ hash := PyData.keyHash P (Str.ofString "__module__"), key := Value.str (Str.ofString "__module__") 268, val := Value.str (Str.ofString "cpy313.netrc") 259 }, { hash := PyData.keyHash P (Str.ofString "__firstlineno__"), key := Value.str (Str.ofString "__firstlineno__") 272, val := Value.int 57 271 }, { hash := PyData.keyHash P (Str.ofString "__init__"), key := Value.str (Str.ofString "__init__") 280, val := Value.ref 74 }, { hash := PyData.keyHash P (Str.ofString "_read_char"), key := Value.str (Str.ofString "_read_char") 288, val := Value.ref 81 }, { hash := PyData.keyHash P (Str.ofString "get_token"), key := Value.str (Str.ofString "get_token") 298, val := Value.ref 88 }, { hash := PyData.keyHash P (Str.ofString "push_token"), key := Value.str (Str.ofString "push_token") 306, val := Value.ref 95 }, { hash := PyData.keyHash P (Str.ofString "__static_attributes__"), key := Value.str (Str.ofString "__static_attributes__") 311, val := Value.ref 96 }, { hash := PyData.keyHash P (Str.ofString "__dict__"), key := Value.str (Str.ofString "__dict__") 313, val := Value.ref 99 }, { hash := PyData.keyHash P (Str.ofString "__weakref__"), key := Value.str (Str.ofString "__weakref__") 315, val := Value.ref 100 }, { hash := PyData.keyHash P (Str.ofString "__doc__"), key := Value.str (Str.ofString "__doc__") 316, val := Value.none }] 4 }) ::
  (nat_lit 98, { cls := Value.type "type", data := Data.cls { name := Str.ofString "_netrclex", bases := [Value.type "object"], mro := [Value.ref 98, Value.type "object"], ns := 97, qualname := Str.ofString "_netrclex" }, slots := #[none, none, some (Value.str (Str.ofString "_netrclex") 261), some (Value.str (Str.ofString "_netrclex") 269), some (Value.builtin "object.__new__"), some (Value.bool true)] }) ::
  (nat_lit 99, { cls := Value.type "getset_descriptor", data := Data.fields #[Value.str (Str.ofString "__dict__") 312, Value.ref 98, Value.builtin "function.__dict__", Value.builtin "function.__dict__#set"] }) ::
  (nat_lit 100, { cls := Value.type "getset_descriptor", data := Data.fields #[Value.str (Str.ofString "__weakref__") 314, Value.ref 98, Value.builtin "ExceptionGroup.__weakref__", Value.none] }) ::
  (nat_lit 108, { cls := Value.type "code", data := Data.fields #[Value.str (Str.ofString "_law_sign") 321, Value.str (Str.ofString "_law_sign") 322, Value.str (Str.ofString "/claim/cut.py") 323, Value.int 101 0, Value.int 1 0, Value.int 0 0, Value.int 0 0, Value.int 3 0, Value.ref 103, Value.bool true, Value.int 181 0, Value.ref 104, Value.none, Value.ref 105, Value.ref 106, Value.ref 107, Value.int 326 0, Value.int 101 0, Value.str (Str.ofString "/claim/cut.py") 327] }) ::
  (nat_lit 109, by (refine' (?f : ∀ o : Obj, fo (nth PySem.Challenge.pw_sc0033_01.main.body 11) (Str.ofString "_law_sign") (Str.ofString "_law_sign") (Str.ofString "law_sc0033_01") 319 108 = o → Obj) _ ?h; (case f => exact fun o _ => o); (case h => dsimp only [fo, fP, fB, fS, nth, PySem.Challenge.pw_sc0033_01]; exact rfl))) ::
  (nat_lit 113, { cls := Value.type "code", data := Data.fields #[Value.str (Str.ofString "_law_drawn") 329, Value.str (Str.ofString "_law_drawn") 330, Value.str (Str.ofString "/claim/cut.py") 331, Value.int 104 0, Value.int 1 0, Value.int 0 0, Value.int 0 0, Value.int 3 0, Value.ref 110, Value.bool true, Value.int 181 0, Value.ref 111, Value.none, Value.none, Value.none, Value.ref 112, Value.int 332 0, Value.int 104 0, Value.str (Str.ofString "/claim/cut.py") 333] }) ::
  (nat_lit 114, by (refine' (?f : ∀ o : Obj, fo (nth PySem.Challenge.pw_sc0033_01.main.body 12) (Str.ofString "_law_drawn") (Str.ofString "_law_drawn") (Str.ofString "law_sc0033_01") 319 113 = o → Obj) _ ?h; (case f => exact fun o _ => o); (case h => dsimp only [fo, fP, fB, fS, nth, PySem.Challenge.pw_sc0033_01]; exact rfl))) ::
  (nat_lit 120, { cls := Value.type "code", data := Data.fields #[Value.str (Str.ofString "_law_fronts") 335, Value.str (Str.ofString "_law_fronts") 336, Value.str (Str.ofString "/claim/cut.py") 337, Value.int 117 0, Value.int 2 0, Value.int 0 0, Value.int 0 0, Value.int 3 0, Value.ref 115, Value.bool true, Value.int 181 0, Value.ref 116, Value.none, Value.ref 117, Value.ref 118, Value.ref 119, Value.int 344 0, Value.int 117 0, Value.str (Str.ofString "/claim/cut.py") 345] }) ::
  (nat_lit 121, by (refine' (?f : ∀ o : Obj, fo (nth PySem.Challenge.pw_sc0033_01.main.body 13) (Str.ofString "_law_fronts") (Str.ofString "_law_fronts") (Str.ofString "law_sc0033_01") 319 120 = o → Obj) _ ?h; (case f => exact fun o _ => o); (case h => dsimp only [fo, fP, fB, fS, nth, PySem.Challenge.pw_sc0033_01]; exact rfl))) ::
  (nat_lit 127, { cls := Value.type "code", data := Data.fields #[Value.str (Str.ofString "_law_ends") 347, Value.str (Str.ofString "_law_ends") 348, Value.str (Str.ofString "/claim/cut.py") 349, Value.int 127 0, Value.int 2 0, Value.int 0 0, Value.int 0 0, Value.int 3 0, Value.ref 122, Value.bool true, Value.int 181 0, Value.ref 123, Value.none, Value.ref 124, Value.ref 125, Value.ref 126, Value.int 357 0, Value.int 127 0, Value.str (Str.ofString "/claim/cut.py") 358] }) ::
  (nat_lit 128, by (refine' (?f : ∀ o : Obj, fo (nth PySem.Challenge.pw_sc0033_01.main.body 14) (Str.ofString "_law_ends") (Str.ofString "_law_ends") (Str.ofString "law_sc0033_01") 319 127 = o → Obj) _ ?h; (case f => exact fun o _ => o); (case h => dsimp only [fo, fP, fB, fS, nth, PySem.Challenge.pw_sc0033_01]; exact rfl))) ::
  (nat_lit 134, { cls := Value.type "code", data := Data.fields #[Value.str (Str.ofString "_law_lexer") 360, Value.str (Str.ofString "_law_lexer") 361, Value.str (Str.ofString "/claim/cut.py") 362, Value.int 138 0, Value.int 2 0, Value.int 0 0, Value.int 0 0, Value.int 3 0, Value.ref 129, Value.bool true, Value.int 181 0, Value.ref 130, Value.none, Value.ref 131, Value.ref 132, Value.ref 133, Value.int 369 0, Value.int 138 0, Value.str (Str.ofString "/claim/cut.py") 370] }) ::
  (nat_lit 135, by (refine' (?f : ∀ o : Obj, fo (nth PySem.Challenge.pw_sc0033_01.main.body 15) (Str.ofString "_law_lexer") (Str.ofString "_law_lexer") (Str.ofString "law_sc0033_01") 319 134 = o → Obj) _ ?h; (case f => exact fun o _ => o); (case h => dsimp only [fo, fP, fB, fS, nth, PySem.Challenge.pw_sc0033_01]; exact rfl))) ::
  (nat_lit 141, { cls := Value.type "code", data := Data.fields #[Value.str (Str.ofString "_law_read") 372, Value.str (Str.ofString "_law_read") 373, Value.str (Str.ofString "/claim/cut.py") 374, Value.int 146 0, Value.int 4 0, Value.int 0 0, Value.int 0 0, Value.int 3 0, Value.ref 136, Value.bool true, Value.int 181 0, Value.ref 137, Value.none, Value.ref 138, Value.ref 139, Value.ref 140, Value.int 379 0, Value.int 146 0, Value.str (Str.ofString "/claim/cut.py") 380] }) ::
  (nat_lit 142, by (refine' (?f : ∀ o : Obj, fo (nth PySem.Challenge.pw_sc0033_01.main.body 16) (Str.ofString "_law_read") (Str.ofString "_law_read") (Str.ofString "law_sc0033_01") 319 141 = o → Obj) _ ?h; (case f => exact fun o _ => o); (case h => dsimp only [fo, fP, fB, fS, nth, PySem.Challenge.pw_sc0033_01]; exact rfl))) ::
  (nat_lit 148, { cls := Value.type "code", data := Data.fields #[Value.str (Str.ofString "_law_unread") 382, Value.str (Str.ofString "_law_unread") 383, Value.str (Str.ofString "/claim/cut.py") 384, Value.int 150 0, Value.int 2 0, Value.int 0 0, Value.int 0 0, Value.int 3 0, Value.ref 143, Value.bool true, Value.int 181 0, Value.ref 144, Value.none, Value.ref 145, Value.ref 146, Value.ref 147, Value.int 388 0, Value.int 150 0, Value.str (Str.ofString "/claim/cut.py") 389] }) ::
  (nat_lit 149, by (refine' (?f : ∀ o : Obj, fo (nth PySem.Challenge.pw_sc0033_01.main.body 17) (Str.ofString "_law_unread") (Str.ofString "_law_unread") (Str.ofString "law_sc0033_01") 319 148 = o → Obj) _ ?h; (case f => exact fun o _ => o); (case h => dsimp only [fo, fP, fB, fS, nth, PySem.Challenge.pw_sc0033_01]; exact rfl))) ::
  (nat_lit 155, { cls := Value.type "code", data := Data.fields #[Value.str (Str.ofString "_law_found") 391, Value.str (Str.ofString "_law_found") 392, Value.str (Str.ofString "/claim/cut.py") 393, Value.int 158 0, Value.int 2 0, Value.int 0 0, Value.int 0 0, Value.int 3 0, Value.ref 150, Value.bool true, Value.int 181 0, Value.ref 151, Value.none, Value.ref 152, Value.ref 153, Value.ref 154, Value.int 396 0, Value.int 158 0, Value.str (Str.ofString "/claim/cut.py") 397] }) ::
  (nat_lit 156, by (refine' (?f : ∀ o : Obj, fo (nth PySem.Challenge.pw_sc0033_01.main.body 18) (Str.ofString "_law_found") (Str.ofString "_law_found") (Str.ofString "law_sc0033_01") 319 155 = o → Obj) _ ?h; (case f => exact fun o _ => o); (case h => dsimp only [fo, fP, fB, fS, nth, PySem.Challenge.pw_sc0033_01]; exact rfl))) ::
  (nat_lit 162, { cls := Value.type "code", data := Data.fields #[Value.str (Str.ofString "_law_first_ones") 399, Value.str (Str.ofString "_law_first_ones") 400, Value.str (Str.ofString "/claim/cut.py") 401, Value.int 160 0, Value.int 3 0, Value.int 0 0, Value.int 0 0, Value.int 3 0, Value.ref 157, Value.bool true, Value.int 181 0, Value.ref 158, Value.none, Value.ref 159, Value.ref 160, Value.ref 161, Value.int 405 0, Value.int 160 0, Value.str (Str.ofString "/claim/cut.py") 406] }) ::
  (nat_lit 163, by (refine' (?f : ∀ o : Obj, fo (nth PySem.Challenge.pw_sc0033_01.main.body 19) (Str.ofString "_law_first_ones") (Str.ofString "_law_first_ones") (Str.ofString "law_sc0033_01") 319 162 = o → Obj) _ ?h; (case f => exact fun o _ => o); (case h => dsimp only [fo, fP, fB, fS, nth, PySem.Challenge.pw_sc0033_01]; exact rfl))) ::
  (nat_lit 169, { cls := Value.type "code", data := Data.fields #[Value.str (Str.ofString "_law_last_ones") 408, Value.str (Str.ofString "_law_last_ones") 409, Value.str (Str.ofString "/claim/cut.py") 410, Value.int 164 0, Value.int 3 0, Value.int 0 0, Value.int 0 0, Value.int 3 0, Value.ref 164, Value.bool true, Value.int 181 0, Value.ref 165, Value.none, Value.ref 166, Value.ref 167, Value.ref 168, Value.int 415 0, Value.int 164 0, Value.str (Str.ofString "/claim/cut.py") 416] }) ::
  (nat_lit 170, by (refine' (?f : ∀ o : Obj, fo (nth PySem.Challenge.pw_sc0033_01.main.body 20) (Str.ofString "_law_last_ones") (Str.ofString "_law_last_ones") (Str.ofString "law_sc0033_01") 319 169 = o → Obj) _ ?h; (case f => exact fun o _ => o); (case h => dsimp only [fo, fP, fB, fS, nth, PySem.Challenge.pw_sc0033_01]; exact rfl))) ::
  (nat_lit 174, { cls := Value.type "code", data := Data.fields #[Value.str (Str.ofString "_law_parted") 418, Value.str (Str.ofString "_law_parted") 419, Value.str (Str.ofString "/claim/cut.py") 420, Value.int 169 0, Value.int 3 0, Value.int 0 0, Value.int 0 0, Value.int 3 0, Value.ref 171, Value.bool true, Value.int 181 0, Value.ref 172, Value.none, Value.none, Value.none, Value.ref 173, Value.int 421 0, Value.int 169 0, Value.str (Str.ofString "/claim/cut.py") 422] }) ::
  (nat_lit 175, by (refine' (?f : ∀ o : Obj, fo (nth PySem.Challenge.pw_sc0033_01.main.body 21) (Str.ofString "_law_parted") (Str.ofString "_law_parted") (Str.ofString "law_sc0033_01") 319 174 = o → Obj) _ ?h; (case f => exact fun o _ => o); (case h => dsimp only [fo, fP, fB, fS, nth, PySem.Challenge.pw_sc0033_01]; exact rfl))) ::
  (nat_lit 181, { cls := Value.type "code", data := Data.fields #[Value.str (Str.ofString "_law_stops") 424, Value.str (Str.ofString "_law_stops") 425, Value.str (Str.ofString "/claim/cut.py") 426, Value.int 175 0, Value.int 4 0, Value.int 0 0, Value.int 0 0, Value.int 3 0, Value.ref 176, Value.bool true, Value.int 181 0, Value.ref 177, Value.none, Value.ref 178, Value.ref 179, Value.ref 180, Value.int 444 0, Value.int 175 0, Value.str (Str.ofString "/claim/cut.py") 445] }) ::
  (nat_lit 182, by (refine' (?f : ∀ o : Obj, fo (nth PySem.Challenge.pw_sc0033_01.main.body 22) (Str.ofString "_law_stops") (Str.ofString "_law_stops") (Str.ofString "law_sc0033_01") 319 181 = o → Obj) _ ?h; (case f => exact fun o _ => o); (case h => dsimp only [fo, fP, fB, fS, nth, PySem.Challenge.pw_sc0033_01]; exact rfl))) ::
  (nat_lit 186, { cls := Value.type "code", data := Data.fields #[Value.str (Str.ofString "law") 447, Value.str (Str.ofString "law") 448, Value.str (Str.ofString "/claim/cut.py") 449, Value.int 200 0, Value.int 1 0, Value.int 0 0, Value.int 0 0, Value.int 3 0, Value.ref 183, Value.bool true, Value.int 181 0, Value.ref 184, Value.none, Value.none, Value.none, Value.ref 185, Value.int 450 0, Value.int 200 0, Value.str (Str.ofString "/claim/cut.py") 451] }) ::
  (nat_lit 187, by (refine' (?f : ∀ o : Obj, fo (nth PySem.Challenge.pw_sc0033_01.main.body 23) (Str.ofString "law") (Str.ofString "law") (Str.ofString "law_sc0033_01") 319 186 = o → Obj) _ ?h; (case f => exact fun o _ => o); (case h => dsimp only [fo, fP, fB, fS, nth, PySem.Challenge.pw_sc0033_01]; exact rfl))) :: []
theorem khp_khq : Khp = Khq := by kernel_rfl
theorem km_swap {K K' : Params → Frag} {as : List Addr} {e : ∀ P, as = (K P).map (·.1)} {ts : List Addr} (W : (World → Heap → Prop) → Prop) (hK : K' = K)
    (h : ∀ e' : ∀ P, as = (K' P).map (·.1), W (kmHook K' as e' ts).says) : W (kmHook K as e ts).says := by subst hK; exact h e
end Mine
namespace Mine
noncomputable def isL (o : Option NameKind) : Bool := match o with | some .local => true | _ => false
noncomputable def isF (o : ScopeKind) : Bool := match o with | .function => true | _ => false
theorem isL_eq {o : Option NameKind} (h : isL o = true) : o = some .local := by
  match o, h with | some .local, _ => rfl
theorem isF_eq {o : ScopeKind} (h : isF o = true) : o = .function := by
  match o, h with | .function, _ => rfl
noncomputable def nmOk (e : Env) (x : Str) : Bool := cond (isF e.scope.kind) (cond (isL (e.kindOf x)) (!(x == ("__debug__" : Str))) false) false
theorem nmOk_all {e : Env} {x : Str} (h : nmOk e x = true) : e.scope.kind = .function ∧ e.kindOf x = some .local ∧ (x == ("__debug__" : Str)) = false := by
  unfold nmOk at h
  cases h1 : isF e.scope.kind <;> rw [h1] at h
  · cases h
  cases h2 : isL (e.kindOf x) <;> rw [h2] at h
  · cases h
  cases h3 : (x == ("__debug__" : Str)) <;> rw [h3] at h
  · exact ⟨isF_eq h1, isL_eq h2, rfl⟩
  · cases h
noncomputable def nxt (M : Model) (A : Around) (rest : List Stmt) (env : Env) (Q : Flow → Shared → Prop) (E : Value → Shared → Prop) : Flow → Shared → Prop := fun f s' =>
  match f with | .next => wpAny M A (execs rest env) Q E s' | f => Q f s'
section
variable {M : Model} {A : Around} {E : Value → Shared → Prop} {s : Shared} {env : Env} {rest : List Stmt} {Q : Flow → Shared → Prop} {pos pos' : Pos} {x : Str}
theorem exC {st : Stmt} (k : let q := nxt M A rest env Q E; wpAny M A (exec st env) q E s) : wpAny M A (execs (st :: rest) env) Q E s := wpAny_execs_cons k
theorem exA {value : PySem.Expr} (hs : swapsWith value (some (.Name x pos')) pos.line env = pure false) (k : let q := fun (_ : Unit) s' => wpAny M A (execs rest env) Q E s'; wpAny M A (eval value env) (fun v s₁ => wpAny M A (storeName env x v) q E s₁) E s) :
    wpAny M A (execs (.Assign [.Name x pos'] value pos :: rest) env) Q E s := wpAny_execs_cons (wpAny_Assign_Name k hs)
theorem exI {test : PySem.Expr} {body orelse : List Stmt} (k : let q := nxt M A rest env Q E; wpAny M A (isTrue test env (eval test env)) (fun b s₂ => if b then wpAny M A (execs body env) q E s₂ else wpAny M A (execs orelse env) q E s₂) E s) :
    wpAny M A (execs (.If test body orelse pos :: rest) env) Q E s := wpAny_execs_cons (wpAny_If k)
theorem exR {e : PySem.Expr} (k : wpAny M A (eval e env) (fun v s' => Q (.ret v) s') E s) : wpAny M A (execs (.Return (some e) pos :: rest) env) Q E s := wpAny_execs_cons (wpAny_Return_some k)
theorem exG {op : Operator} {value : PySem.Expr} (k : let q := fun (_ : Unit) s' => wpAny M A (execs rest env) Q E s'; wpAny M A (loadName env x) (fun old s₁ => wpAny M A (eval value env) (fun v s₂ => wpAny M A (inplaceOp op old v) (fun r s₃ => wpAny M A (storeName env x r) q E s₃) E s₂) E s₁) E s) :
    wpAny M A (execs (.AugAssign (.Name x pos') op value pos :: rest) env) Q E s := wpAny_execs_cons (wpAny_AugAssign_Name k)
theorem exN {env' : Env} {E' : Value → Shared → Prop} {A' : Around} {M' : Model} (k : wpAny M A (execs rest env) Q E s) : wpAny M' A' (execs [] env') (nxt M A rest env Q E) E' s := wpAny_execs_nil k
theorem nxR {v : Value} (k : Q (.ret v) s) : nxt M A rest env Q E (.ret v) s := k
theorem nxN (k : wpAny M A (execs rest env) Q E s) : nxt M A rest env Q E .next s := k
theorem nxB (k : Q .brk s) : nxt M A rest env Q E .brk s := k
theorem nxK (k : Q .cont s) : nxt M A rest env Q E .cont s := k
end
section
variable {M : Model} {A : Around} {E : Value → Shared → Prop} {h₀ h : Heap} {L : Addr} {m : Str → Option Value} {g : Array GenState} {d : Drawn} {t : Nat} {o : OsState} {s : Shared} {x : Str} {pos : Pos} {v : Value} {e : Env} {news : List (Addr × Obj)}
theorem nmL {Q : Value → Shared → Prop} (F : Fr h₀ L s.heap m) (hv : m x = some v) (hx : nmOk e x = true) (hl : e.locals = L) (k : Q v s) : wpAny M A (eval (.Name x pos) e) Q E s := by
  subst hl
  obtain ⟨a, b, c⟩ := nmOk_all hx
  exact wpAny_Name (wpAny_loadName_local a b F.ns hv k) c
theorem stY {Q : Unit → Shared → Prop} (F : Fr h₀ L h m) (N : News h₀ L h news) (hx : nmOk e x = true) (hl : e.locals = L)
    (k : ∀ h' t', Fr h₀ L h' (fun y => if y = x then some v else m y) → News h₀ L h' news → Q () ⟨h', g, d, t', o⟩) : wpAny M A (storeName e x v) Q E ⟨h, g, d, t, o⟩ := by
  subst hl
  obtain ⟨a, b, c⟩ := nmOk_all hx
  exact wpAny_storeName_local b F.ns (fun h' hn hs => k h' _ (F.set hn hs) (N.set hs)) (by rw [a]; rfl)
theorem stX {Q : Unit → Shared → Prop} (F : Fr h₀ L h m) (N : News h₀ L h news) (hx : nmOk e x = true) (hl : e.locals = L)
    (k : let m1 := fun y => if y = x then some v else m y; ∀ h' t', Fr h₀ L h' m1 → News h₀ L h' news → Q () ⟨h', g, d, t', o⟩) : wpAny M A (storeName e x v) Q E ⟨h, g, d, t, o⟩ := stY F N hx hl k
/- the ways behind a branch meet: a word with `P`, the frame and the ledger as they stood -/
noncomputable def JS {α : Type} (g₀ : Heap) (L : Addr) (m : Str → Option Value) (news : List (Addr × Obj)) (g : Array GenState) (d : Drawn) (o : OsState) (P : α → Prop) (v : α) (s : Shared) : Prop := ∃ h t, P v ∧ Fr g₀ L h m ∧ News g₀ L h news ∧ s = ⟨h, g, d, t, o⟩
theorem JS.mk {α : Type} {P : α → Prop} {v : α} (p : P v) (F : Fr h₀ L h m) (N : News h₀ L h news) : JS h₀ L m news g d o P v ⟨h, g, d, t, o⟩ := ⟨h, t, p, F, N, rfl⟩
theorem join1 {α : Type} {x : Sem α} {Q : α → Shared → Prop} (P : α → Prop) (F : Fr h₀ L h m) (N : News h₀ L h news) (w : wpAny M A x (JS h₀ L m news g d o P) E ⟨h, g, d, t, o⟩)
    (k : ∀ v h1 t1, P v → Fr h₀ L h1 m → News h₀ L h1 news → Q v ⟨h1, g, d, t1, o⟩) : wpAny M A x Q E ⟨h, g, d, t, o⟩ :=
  wpAny_mono w (fun v _ ⟨h1, t1, p, F, N, e⟩ => e ▸ k v h1 t1 p F N) fun _ _ e => e
/- the ways behind a statement meet: a state of four parts with `P`, the ledger told by it -/
inductive JF {α β γ δ : Type} (g₀ : Heap) (L : Addr) (m : Str → Option Value) (Lg : α → β → γ → δ → List (Addr × Obj)) (g : Array GenState) (d : Drawn) (o : OsState) (P : α → β → Prop) : Flow → Shared → Prop
  | mk (a : α) (b : β) {c : γ} {e : δ} {h : Heap} {t : Nat} (p : P a b) (F : Fr g₀ L h m) (N : News g₀ L h (Lg a b c e)) : JF g₀ L m Lg g d o P .next ⟨h, g, d, t, o⟩
theorem join2 {α β γ δ : Type} {x : Sem Flow} {Q : Flow → Shared → Prop} (Lg : α → β → γ → δ → List (Addr × Obj)) (P : α → β → Prop) (a₀ : α) (b₀ : β) (c₀ : γ) (e₀ : δ) (F : Fr h₀ L h m) (_N : News h₀ L h (Lg a₀ b₀ c₀ e₀)) (w : wpAny M A x (JF h₀ L m Lg g d o P) E ⟨h, g, d, t, o⟩)
    (k : ∀ a b c e h1 t1, P a b → Fr h₀ L h1 m → News h₀ L h1 (Lg a b c e) → Q .next ⟨h1, g, d, t1, o⟩) : wpAny M A x Q E ⟨h, g, d, t, o⟩ :=
  wpAny_mono w (fun f _ j => by cases j with | mk a b p F N => exact k a b _ _ _ _ p F N) fun _ _ e => e
end
section
variable {α : Type} {a : α} {l l₁ l₂ l' : List α} {P : α → Prop}
theorem sb0 : ∀ q ∈ ([] : List α), q ∈ l := List.forall_mem_nil _
theorem sbR : ∀ q ∈ l, q ∈ l := fun _ h => h
theorem sbC (h : a ∈ l) (k : ∀ q ∈ l', q ∈ l) : ∀ q ∈ a :: l', q ∈ l := List.forall_mem_cons.mpr ⟨h, k⟩
theorem sbA (h : ∀ q ∈ l₁, q ∈ l) (k : ∀ q ∈ l₂, q ∈ l) : ∀ q ∈ l₁ ++ l₂, q ∈ l := fun q m => (List.mem_append.mp m).elim (h q) (k q)
theorem sbT (h : ∀ q ∈ l', q ∈ l) : ∀ q ∈ l', q ∈ a :: l := fun q m => .tail _ (h q m)
theorem sbL (h : ∀ q ∈ l', q ∈ l₁) : ∀ q ∈ l', q ∈ l₁ ++ l₂ := fun q m => List.mem_append_left _ (h q m)
theorem sbr (h : ∀ q ∈ l', q ∈ l₂) : ∀ q ∈ l', q ∈ l₁ ++ l₂ := fun q m => List.mem_append_right _ (h q m)
theorem alC (h : P a) (k : ∀ q ∈ l, P q) : ∀ q ∈ a :: l, P q := List.forall_mem_cons.mpr ⟨h, k⟩
theorem alA (h : ∀ q ∈ l₁, P q) (k : ∀ q ∈ l₂, P q) : ∀ q ∈ l₁ ++ l₂, P q := fun q m => (List.mem_append.mp m).elim (h q) (k q)
theorem alS (h : ∀ q ∈ l, P q) (k : ∀ q ∈ l', q ∈ l) : ∀ q ∈ l', P q := fun q m => h q (k q m)
end
/- two maps alike but at the names of `xs` -/
noncomputable def Ovr (xs : List Str) (m' m : Str → Option Value) : Prop := ∀ z, xs.contains z = false → m' z = m z
section
variable {xs ks : List Str} {m' m u : Str → Option Value} {x : Str} {v : Option Value} {ps : List (Str × Value)}
theorem ov0 : Ovr xs m m := fun _ _ => rfl
theorem ovS (hx : xs.contains x = true) (k : Ovr xs m' m) : Ovr xs (fun y => if y = x then v else m' y) m := fun z h => by
  show (if z = x then v else m' z) = m z
  rw [if_neg (fun e => by rw [e, hx] at h; cases h)]; exact k z h
theorem ovK (hx : (ps.map (·.1)).all xs.contains = true) (k : Ovr xs m' m) : Ovr xs (kstB m' ps) m := by
  induction ps with
  | nil => exact k
  | cons p r ih =>
    rw [List.map_cons, List.all_cons, Bool.and_eq_true] at hx
    exact ovS (m' := kstB m' r) hx.1 (ih hx.2)
theorem ovI (hx : ks.all xs.contains = true) (k : Ovr xs m' m) : Ovr xs (fun z => if ks.contains z then u z else m' z) m := fun z h => by
  show (if ks.contains z = true then u z else m' z) = m z
  rw [if_neg (fun e => by have := List.all_eq_true.mp hx z (List.contains_iff_mem.mp e); rw [this] at h; cases h)]; exact k z h
theorem ovE (k : Ovr (x :: (ps.map (·.1) ++ ks)) m' m) : ∀ z, z ≠ x → (∀ p ∈ ps, z ≠ p.1) → ks.contains z = false → m' z = m z := fun z h1 h2 h3 => k z (by
  rw [List.contains_cons, List.contains_append, h3, Bool.or_false, Bool.or_eq_false_iff]
  refine ⟨beq_eq_false_iff_ne.mpr h1, ?_⟩
  rw [← Bool.not_eq_true]
  intro e
  obtain ⟨p, hp, rfl⟩ := List.mem_map.mp (List.contains_iff_mem.mp e)
  exact h2 p hp rfl)
end
theorem room1 {a j k n : Nat} (h : a + k < n) (hk : 1 + j ≤ k) : a + 1 + j < n := by rw [Nat.add_assoc]; exact Nat.lt_of_le_of_lt (Nat.add_le_add_left hk a) h
theorem units3 {a j k n : Nat} (h : a + 8 * k < n) (hk : 3 + 8 * j ≤ 8 * k) : a + 3 + 8 * j < n := by rw [Nat.add_assoc]; exact Nat.lt_of_le_of_lt (Nat.add_le_add_left hk a) h
theorem enter_room {dp k un n : Nat} {gd : Option (List Code)} {cn : Str} {cs : Scope} {L a : Addr} {ccd : Value} {cl : List (Str × Addr)} {outer : List Env} (h : dp + k < n) : (ktrTop dp un gd cn cs L a ccd cl outer).depth < n := Nat.lt_of_le_of_lt (Nat.le_add_right _ _) h
end Mine
namespace Mine
/- a text out of its signs -/
noncomputable def S (l : List Nat) : Str := ⟨l.toArray⟩
theorem S_len (l : List Nat) : (S l).length = l.length := by simp [S, Str.length]
theorem S_cps (l : List Nat) : (S l).cps = l.toArray := rfl
theorem S_inj {a b : List Nat} (h : S a = S b) : a = b := by
  have := congrArg (fun s : Str => s.cps.toList) h
  simpa [S] using this
theorem S_eq_iff {a b : List Nat} : S a = S b ↔ a = b := ⟨S_inj, fun h => h ▸ rfl⟩
theorem S_app (a b : List Nat) : S a ++ S b = S (a ++ b) := Str.ext' (by simp [S, Str.cps_append])
theorem S_beq (a b : List Nat) : (S a == S b) = (a == b) := by
  rw [Bool.eq_iff_iff, beq_iff_eq, beq_iff_eq, S_eq_iff]
theorem S_bne (a b : List Nat) : (S a != S b) = (a != b) := by
  show (!(S a == S b)) = (!(a == b)); rw [S_beq]

theorem slice_ss (l : List Nat) {i j : Int} (h0 : 0 ≤ i) (h1 : 0 ≤ j) : Txt.slice (S l) (some i) (some j) = S ((l.take j.toNat).drop i.toNat) := by
  have hlen : (S l).length = l.length := S_len l
  obtain ⟨a, rfl⟩ := Int.eq_ofNat_of_zero_le h0
  obtain ⟨b, rfl⟩ := Int.eq_ofNat_of_zero_le h1
  simp only [Int.toNat_natCast]
  by_cases hij : (a : Int) < (b : Int)
  · by_cases hi : (a : Int) < (l.length : Int)
    · have e : Txt.slice (S l) (some (a : Int)) (some (b : Int)) = Txt.slice (S l) (some (a : Int)) (some (min (b : Int) (l.length : Int))) := by
        have e1 : Builtin.Str.strSliceIndices (some (a : Int)) (some (b : Int)) 1 (S l).length = Builtin.Str.strSliceIndices (some (a : Int)) (some (min (b : Int) (l.length : Int))) 1 (S l).length := by
          have a1 : ¬ (a : Int) < 0 := Int.not_lt.mpr (Int.natCast_nonneg a)
          have a2 : ¬ (b : Int) < 0 := Int.not_lt.mpr (Int.natCast_nonneg b)
          have a3 : ¬ (min (b : Int) (l.length : Int)) < 0 := by first | lia | omega
          have a4 : min (min (b : Int) (l.length : Int)) (l.length : Int) = min (b : Int) (l.length : Int) := Int.min_eq_left (Int.min_le_right _ _)
          simp only [Builtin.Str.strSliceIndices, hlen, a1, a2, a3, a4, if_false, show ((1 : Int) > 0) = True from by simp, if_true]
        unfold Txt.slice
        rw [e1]
      have := slice_closes (x := S l) (i := (a : Int)) (j := min (b : Int) (l.length : Int)) ⟨h0, by first | lia | omega, by simp [S]; (first | lia | omega)⟩
      rw [e, beq_iff_eq.mp this]
      show S _ = S _
      congr 1
      show (((S l).cps.toList.drop a).take (min (b : Int) (l.length : Int) - (a : Int)).toNat) = _
      simp only [S_cps]
      rw [List.drop_take]
      by_cases hj : (b : Int) ≤ (l.length : Int)
      · rw [Int.min_eq_left hj, Int.toNat_sub]
      · have hj' := Int.le_of_lt (Int.not_le.mp hj)
        rw [Int.min_eq_right hj', Int.toNat_sub, List.take_of_length_le (by rw [List.length_drop]; exact Nat.le_refl _), List.take_of_length_le (by rw [List.length_drop]; exact Nat.sub_le_sub_right (Int.ofNat_le.mp hj') _)]
    · have e1 : Builtin.Str.strSliceIndices (some (a : Int)) (some (b : Int)) 1 (S l).length = [] := by
        have a1 : ¬ (a : Int) < 0 := Int.not_lt.mpr (Int.natCast_nonneg a)
        have a2 : ¬ (b : Int) < 0 := Int.not_lt.mpr (Int.natCast_nonneg b)
        have a3 : max (0:Int) (min (a : Int) (l.length : Int)) = l.length := by rw [Int.min_eq_right (Int.not_lt.mp hi)]; exact Int.max_eq_right (Int.natCast_nonneg _)
        have a4 : max (0:Int) (min (b : Int) (l.length : Int)) = l.length := by rw [Int.min_eq_right (Int.le_trans (Int.not_lt.mp hi) (Int.le_of_lt hij))]; exact Int.max_eq_right (Int.natCast_nonneg _)
        simp [Builtin.Str.strSliceIndices, hlen, a1, a2, a3, a4, sliceRange]
      unfold Txt.slice
      rw [e1]
      have : (l.take b).drop a = [] := List.drop_eq_nil_of_le (by rw [List.length_take]; exact Nat.le_trans (Nat.min_le_right _ _) (Int.ofNat_le.mp (Int.not_lt.mp hi)))
      rw [this]
      split
      · rename_i h
        simp at h
        have : l = [] := by
          apply List.eq_nil_of_length_eq_zero
          simp [S_len] at h; (first | lia | omega)
        rw [this]
      · rfl
  · have e1 : Builtin.Str.strSliceIndices (some (a : Int)) (some (b : Int)) 1 (S l).length = [] := by
      have a1 : ¬ (a : Int) < 0 := Int.not_lt.mpr (Int.natCast_nonneg a)
      have a2 : ¬ (b : Int) < 0 := Int.not_lt.mpr (Int.natCast_nonneg b)
      have a5 : ¬ (max (0:Int) (min (a : Int) (l.length : Int)) < max (0:Int) (min (b : Int) (l.length : Int))) :=
        Int.not_lt.mpr (Int.max_le.mpr ⟨Int.le_max_left _ _, Int.le_trans (Int.le_min.mpr ⟨Int.le_trans (Int.min_le_left _ _) (Int.not_lt.mp hij), Int.min_le_right _ _⟩) (Int.le_max_right _ _)⟩)
      simp only [Builtin.Str.strSliceIndices, hlen, a1, a2, if_false, sliceRange]
      simp only [show ((1 : Int) > 0) = True from by simp, if_true, a5, if_false]
      rfl
    unfold Txt.slice
    rw [e1]
    have : (l.take b).drop a = [] := List.drop_eq_nil_of_le (by rw [List.length_take]; exact Nat.le_trans (Nat.min_le_left _ _) (Int.ofNat_le.mp (Int.not_lt.mp hij)))
    rw [this]
    split
    · rename_i h
      simp at h
      have : l = [] := by
        apply List.eq_nil_of_length_eq_zero
        simp [S_len] at h; (first | lia | omega)
      rw [this]
    · rfl
theorem slice_ns (l : List Nat) {j : Int} (h1 : 0 ≤ j) : Txt.slice (S l) none (some j) = S (l.take j.toNat) := by
  have e : Txt.slice (S l) none (some j) = Txt.slice (S l) (some 0) (some j) := by
    show StrLaws.sliceText (S l) none (some j) = StrLaws.sliceText (S l) (some 0) (some j)
    unfold StrLaws.sliceText
    rw [StrLaws.sliceIdx_none_lo]
  rw [e, slice_ss l (by first | lia | omega) h1]
  simp
theorem slice_sn (l : List Nat) {i : Int} (h0 : 0 ≤ i) : Txt.slice (S l) (some i) none = S (l.drop i.toNat) := by
  by_cases h : i ≤ (l.length : Int)
  · have := slice_from_eq (x := S l) (i := i) (b := (l.length : Int)) h0 (by rw [S_len]; exact h) (by rw [S_len])
    rw [this]
    show S _ = S _
    congr 1
    simp only [S_cps]
    exact List.take_of_length_le (by simp; (first | lia | omega))
  · rw [slice_beyond (by rw [S_len]; (first | lia | omega))]
    rw [List.drop_eq_nil_of_le (by first | lia | omega)]
    rfl
theorem item_S (l : List Nat) {i : Int} (h0 : 0 ≤ i) (h1 : i < (l.length : Int)) : Txt.item (S l) i = S [l.getD i.toNat 0] := by
  unfold Txt.item Txt.charAt
  have : seqIndex? i (S l).length = some i.toNat := by
    unfold seqIndex?
    rw [S_len]
    have a1 : ¬ i < 0 := by first | lia | omega
    simp [a1]
    (first | lia | omega)
  rw [this]
  simp [S]

/- what parse257 tells -/
noncomputable def parseGo : List Nat → List Nat
  | [] => []
  | 34 :: 34 :: r => 34 :: parseGo r
  | 34 :: _ => []
  | c :: r => c :: parseGo r
noncomputable def parseP (l : List Nat) : List Nat := if (l.take 5).drop 3 = [32, 34] then parseGo (l.drop 5) else []
end Mine
namespace Mine
open PySem.Builtin PySem.Builtin.Str
/- finding -/
abbrev OccAt (w g : List Nat) (i : Nat) : Prop := i + w.length ≤ g.length ∧ (g.drop i).take w.length = w
theorem at_iff (w g : List Nat) (i : Nat) : StrLaws.At (S g) (S w) (S g).length i ↔ OccAt w g i := by
  unfold StrLaws.At OccAt
  rw [StrLaws.subAt_eq, S_len, S_len]
  simp [S]
noncomputable def findL (w g : List Nat) (a : Nat) : Option Nat := (List.range' a (g.length + 1 - a)).find? fun i => decide (OccAt w g i)
theorem findL_some {w g : List Nat} {a i : Nat} (h : findL w g a = some i) : a ≤ i ∧ OccAt w g i ∧ ∀ k, a ≤ k → k < i → ¬ OccAt w g k := by
  unfold findL at h
  rw [List.find?_range'_eq_some] at h
  obtain ⟨h1, h2, h3⟩ := h
  have := (List.mem_range'_1.mp h2)
  exact ⟨this.1, by simpa using h1, fun k h4 h5 ho => by have h6 := h3 k h4 h5; rw [decide_eq_true ho] at h6; cases h6⟩
theorem findL_none {w g : List Nat} {a : Nat} (h : findL w g a = none) : ∀ k, a ≤ k → ¬ OccAt w g k := by
  intro k hk ho
  unfold findL at h
  rw [List.find?_eq_none] at h
  have := ho.1
  exact h k (List.mem_range'_1.mpr ⟨hk, by first | lia | omega⟩) (by simpa using ho)
theorem findL_eq_some {w g : List Nat} {a i : Nat} (h1 : a ≤ i) (h2 : OccAt w g i) (h3 : ∀ k, a ≤ k → k < i → ¬ OccAt w g k) : findL w g a = some i := by
  cases h : findL w g a with
  | none => exact absurd h2 (findL_none h i h1)
  | some j =>
    obtain ⟨k1, k2, k3⟩ := findL_some h
    have : i = j := by
      rcases Nat.lt_trichotomy i j with h | h | h
      · exact absurd h2 (k3 i h1 h)
      · exact h
      · exact absurd k2 (h3 j k1 h)
    rw [this]
theorem findL_eq_none {w g : List Nat} {a : Nat} (h : ∀ k, a ≤ k → ¬ OccAt w g k) : findL w g a = none := by
  cases h' : findL w g a with
  | none => rfl
  | some j => exact absurd (findL_some h').2.1 (h j (findL_some h').1)
noncomputable def foundGo : List (List Nat) → List Nat → Nat → Bool
  | [], _, _ => true
  | p :: r, g, a => match findL p g a with
    | none => false
    | some i => foundGo r g (i + p.length)
/- x.find(y, i, j) -/
noncomputable def find4 (x y : Str) (i j : Int) : Int := match occurrences x y (fromIndex x.length i) (min (fromIndex x.length j) x.length) 1 with | k :: _ => (k : Int) | [] => -1
theorem gives_find4 (x y : Str) (i j : Int) (t u v v' : Tok) : Gives («str.find» ⟨[.str x t, .str y u, .int i v, .int j v'], []⟩) (.int (find4 x y i j)) := by
  show Gives (match occurrences x y (fromIndex x.length i) (min (fromIndex x.length j) x.length) 1 with | k :: _ => retInt k | [] => (do rule "str.find.not-found"; retInt (-1))) _
  unfold find4
  cases occurrences x y (fromIndex x.length i) (min (fromIndex x.length j) x.length) 1 with
  | nil => exact .rule (.of_eq rfl)
  | cons k _ => exact .of_eq rfl
theorem call_find4 {prog : Program} {w : World} {A : Around} {E : Value → Shared → Prop} {s : Shared} {x y : Str} {t u v v' : Tok} {i j : Int} {Q : Value → Shared → Prop}
    (hq : Q (.int (find4 x y i j) s.toks) { s with toks := s.toks + 1 }) : wpAny (model prog w) A (call (.builtin "str.find") [.str x t, .str y u, .int i v, .int j v']) Q E s :=
  call_gives F.slot_str_find (typeIs_str _ _ _) F.entry_str_find (F.args_str_find_4 _ _ _ _) (gives_find4 x y i j t u v v') hq
theorem find4_S (g w : List Nat) (a : Nat) : find4 (S g) (S w) (a : Int) ((S g).length : Int) = match findL w g a with | some i => (i : Int) | none => -1 := by
  unfold find4
  have e1 : fromIndex (S g).length (a : Int) = a := by unfold fromIndex; rw [if_neg (by first | lia | omega)]; (first | lia | omega)
  have e2 : fromIndex (S g).length ((S g).length : Int) = (S g).length := by unfold fromIndex; rw [if_neg (by first | lia | omega)]; (first | lia | omega)
  rw [e1, e2, Nat.min_self]
  rcases StrLaws.occ_head_from (S g) (S w) a 1 (Nat.le_refl 1) with ⟨h0, hn⟩ | ⟨i, r, h0, h1, h2, h3⟩
  · rw [h0, findL_eq_none fun k hk => fun h => hn k hk ((at_iff w g k).mpr h)]
  · rw [h0, findL_eq_some h1 ((at_iff w g i).mp h2) fun k hk hki => fun h => h3 k hk hki ((at_iff w g k).mpr h)]
/- the loop -/
noncomputable def EInv (ws : List (List Nat)) (g : List Nat) (i : Nat) (a : Int) : Prop := ∃ n : Nat, a = (n : Int) ∧ n ≤ g.length ∧ foundGo (ws.drop i) g n = foundGo ws g 0
theorem einv_start (ws : List (List Nat)) (g : List Nat) : EInv ws g 0 0 := ⟨0, rfl, Nat.zero_le _, rfl⟩
theorem einv_drop {ws : List (List Nat)} {i : Nat} {y : List Nat} (hy : ws[i]? = some y) : ws.drop i = y :: ws.drop (i + 1) := by
  obtain ⟨h, e⟩ := List.getElem?_eq_some_iff.mp hy
  rw [← e]; exact List.drop_eq_getElem_cons h
theorem einv_out {ws : List (List Nat)} {g : List Nat} {i : Nat} {a : Int} {y : List Nat} (h : EInv ws g i a) (hy : ws[i]? = some y) (hf : find4 (S g) (S y) a ((S g).length : Int) < 0) : foundGo ws g 0 = false := by
  obtain ⟨n, rfl, hn, e⟩ := h
  rw [← e, einv_drop hy, foundGo]
  rw [find4_S] at hf
  cases h : findL y g n with
  | none => rfl
  | some k => rw [h] at hf; simp only at hf; (first | lia | omega)
theorem einv_next {ws : List (List Nat)} {g : List Nat} {i : Nat} {a : Int} {y : List Nat} (h : EInv ws g i a) (hy : ws[i]? = some y) (hf : ¬ find4 (S g) (S y) a ((S g).length : Int) < 0) : EInv ws g (i + 1) (find4 (S g) (S y) a ((S g).length : Int) + ((S y).length : Int)) := by
  obtain ⟨n, rfl, hn, e⟩ := h
  rw [find4_S] at hf ⊢
  rw [einv_drop hy, foundGo] at e
  rw [S_len]
  cases h : findL y g n with
  | none => rw [h] at hf; simp at hf
  | some k =>
    rw [h] at e
    have := (findL_some h).2.1.1
    exact ⟨k + y.length, by simp, by first | lia | omega, e⟩
theorem einv_end {ws : List (List Nat)} {g : List Nat} {a : Int} (h : EInv ws g ws.length a) : foundGo ws g 0 = true := by
  obtain ⟨n, _, _, e⟩ := h
  rw [← e]; simp [foundGo]
/- '...' ahead of, between and behind -/
noncomputable def glue (sep : List Nat) : List (List Nat) → List Nat
  | [] => []
  | [p] => p
  | p :: q :: r => p ++ sep ++ glue sep (q :: r)
theorem join_S (sep : List Nat) : ∀ ps : List (List Nat), Str.join (S sep) (ps.map S) = S (glue sep ps)
  | [] => rfl
  | [_] => rfl
  | p :: q :: r => by
    have h := join_S sep (q :: r)
    show S p ++ S sep ++ Str.join (S sep) ((q :: r).map S) = _
    rw [h, S_app, S_app]; rfl
end Mine
namespace Mine
theorem getD_last {l : List Str} {ws : List (List Nat)} (h : l = (([] :: ws) ++ [[]]).map S) : l.getD (Int.toNat (-1 + (l.length : Int))) Str.empty = S [] := by
  subst h
  have e : Int.toNat (-1 + (((([] :: ws) ++ [[]]).map S).length : Int)) = ws.length + 1 := by simp; (first | lia | omega)
  rw [e]
  simp
end Mine
namespace Mine
theorem at_S {ys : List Str} {ps : List (List Nat)} (h : ys = ps.map S) {i : Nat} {y : Str} (hy : ys[i]? = some y) : ∃ q, y = S q ∧ ps[i]? = some q := by
  subst h
  rw [List.getElem?_map] at hy
  cases h : ps[i]? with
  | none => rw [h] at hy; cases hy
  | some q => rw [h] at hy; exact ⟨q, (Option.some.inj hy).symm, rfl⟩
theorem strs_S {vs : List Value} {ys : List Str} {ps : List (List Nat)} (hs : StrsAre vs ys) (h : ys = ps.map S) {i : Nat} {v : Value} (hv : vs[i]? = some v) : ∃ q t, v = .str (S q) t ∧ ps[i]? = some q := by
  obtain ⟨y, t, rfl, hy⟩ := StrsAre.item hs i v hv
  obtain ⟨q, rfl, hq⟩ := at_S h hy
  exact ⟨q, t, rfl, hq⟩
theorem strs_Slen {vs : List Value} {ys : List Str} {ps : List (List Nat)} (hs : StrsAre vs ys) (h : ys = ps.map S) : vs.length = ps.length := by
  rw [hs.length, h, List.length_map]
end Mine
namespace Mine
theorem S_bound {ys : List Str} {ps : List (List Nat)} {n : Nat} (hb : ∀ a ∈ ys, a.length ≤ n) (h : ys = ps.map S) {i : Nat} {q : List Nat} (hq : ps[i]? = some q) : (S q).length ≤ n :=
  hb _ (by rw [h]; exact List.mem_map.mpr ⟨q, List.mem_of_getElem? hq, rfl⟩)
end Mine
namespace Mine
open PySem.Builtin PySem.Builtin.Str
theorem occ_head {c : Nat} {y' l : List Nat} {d : Nat} (h : OccAt (c :: y') l d) : l[d]? = some c := by
  have h2 := congrArg (fun z : List Nat => z[0]?) h.2
  simp only [List.length_cons] at h2
  rw [List.getElem?_take_of_lt (by first | lia | omega), List.getElem?_drop] at h2
  simpa using h2
theorem strSub_S (l : List Nat) (a b : Nat) : strSub (S l) a b = S ((l.drop a).take (b - a)) := by
  apply Str.ext'
  apply Array.toList_inj.mp
  rw [StrLaws.strSub_toList]; simp [S]
theorem parts_glue (c : Nat) (y' l : List Nat) : ∀ (ps : List (List Nat)) (a : Nat) (cuts : List Nat) (f : Nat), ps ≠ [] → (∀ p ∈ ps, c ∉ p) → l.drop a = glue (c :: y') ps →
    StrLaws.ChainG (S l) (S (c :: y')) (S l).length a cuts f → (∀ k, f ≤ k → ¬ StrLaws.At (S l) (S (c :: y')) (S l).length k) → StrLaws.partsFrom (S l) (S (c :: y')).length a cuts = ps.map S
  | [], _, _, _, h, _, _, _, _ => absurd rfl h
  | [p], a, cuts, f, _, hf, hd, hc, hn => by
    have hd' : l.drop a = p := hd
    cases cuts with
    | nil =>
      show [strSub (S l) a (S l).length] = [S p]
      rw [strSub_S, hd', S_len, List.take_of_length_le (by rw [← hd']; simp)]
    | cons d r =>
      exfalso
      have h1 := occ_head ((at_iff _ _ _).mp hc.2.1)
      have h2 : (l.drop a)[d - a]? = some c := by rw [List.getElem?_drop, show a + (d - a) = d from by have := hc.1; (first | lia | omega)]; exact h1
      rw [hd'] at h2
      exact hf p (.head _) (List.mem_of_getElem? h2)
  | p :: q :: r, a, cuts, f, _, hf, hd, hc, hn => by
    have hd' : l.drop a = p ++ (c :: y') ++ glue (c :: y') (q :: r) := hd
    have hlen := congrArg List.length hd'
    simp only [List.length_drop, List.length_append, List.length_cons] at hlen
    have hdr : l.drop (a + p.length) = (c :: y') ++ glue (c :: y') (q :: r) := by
      rw [← List.drop_drop, hd', List.append_assoc, List.drop_left]
    have hat : OccAt (c :: y') l (a + p.length) := ⟨by simp only [List.length_cons]; (first | lia | omega), by rw [hdr, List.take_left]⟩
    have hA := (at_iff (c :: y') l _).mpr hat
    cases cuts with
    | nil =>
      exfalso
      have e : f = a := hc
      exact hn _ (by first | lia | omega) hA
    | cons d r' =>
      obtain ⟨h1, h2, h3, h4⟩ := hc
      have hd2 : d = a + p.length := by
        rcases Nat.lt_trichotomy d (a + p.length) with h | h | h
        · exfalso
          have h5 := occ_head ((at_iff _ _ _).mp h2)
          have h6 : (l.drop a)[d - a]? = some c := by rw [List.getElem?_drop, show a + (d - a) = d from by first | lia | omega]; exact h5
          rw [hd', List.append_assoc, List.getElem?_append_left (by first | lia | omega)] at h6
          exact hf p (.head _) (List.mem_of_getElem? h6)
        · exact h
        · exact absurd hA (h3 _ (by first | lia | omega) h)
      subst hd2
      show strSub (S l) a (a + p.length) :: StrLaws.partsFrom (S l) (S (c :: y')).length (a + p.length + (S (c :: y')).length) r' = S p :: (q :: r).map S
      rw [parts_glue c y' l (q :: r) _ r' f (by simp) (fun z hz => hf z (.tail _ hz)) ?_ h4 hn, strSub_S, hd', List.append_assoc, show a + p.length - a = p.length from by first | lia | omega, List.take_left]
      rw [S_len, ← List.drop_drop, hdr, List.drop_left]
theorem kind_pos (x : Str) : 1 ≤ Builtin.Str.strKind x := by unfold Builtin.Str.strKind; split <;> (try split) <;> (first | lia | omega)
theorem split_glue {c : Nat} {y' : List Nat} {ps : List (List Nat)} (hne : ps ≠ []) (hf : ∀ p ∈ ps, c ∉ p) (hk : Builtin.Str.strKind (S (c :: y')) = 1) : Txt.split (S (glue (c :: y') ps)) (S (c :: y')) = ps.map S := by
  obtain ⟨f, hG, hn⟩ := StrLaws.occ_tight (S (glue (c :: y') ps)) (S (c :: y')) (by rw [S_len]; simp)
  have main := parts_glue c y' (glue (c :: y') ps) ps 0 _ f hne hf (by simp) hG hn
  unfold Txt.split
  split
  · rename_i h
    match ps, hne with
    | [p], _ => rfl
    | p :: q :: r, _ =>
      exfalso
      have := kind_pos (S (glue (c :: y') (p :: q :: r)))
      rw [Bool.or_eq_true, decide_eq_true_eq, decide_eq_true_eq, S_len, S_len, hk] at h
      rcases h with h | h
      · simp only [glue, List.length_append] at h
        (first | lia | omega)
      · (first | lia | omega)
  · split
    · rename_i h
      have e0 := List.isEmpty_iff.mp h
      rw [e0] at main
      rw [← main]
      show [S _] = [strSub _ 0 _]
      rw [strSub_S, S_len]; simp
    · rw [StrLaws.partsBetween_eq]; exact main
/- the dots' text -/
noncomputable def dots : List Nat := [46, 46, 46]
theorem dots_lit : Str.ofString "..." = S dots := by decide
theorem glue_cons (sep p : List Nat) {ps : List (List Nat)} (h : ps ≠ []) : glue sep (p :: ps) = p ++ sep ++ glue sep ps := by
  cases ps with
  | nil => exact absurd rfl h
  | cons q r => rfl
theorem glue_snoc (sep p : List Nat) : ∀ {ps : List (List Nat)}, ps ≠ [] → glue sep (ps ++ [p]) = glue sep ps ++ sep ++ p
  | [], h => absurd rfl h
  | [q], _ => rfl
  | q :: r :: t, _ => by
    have h := glue_snoc sep p (ps := r :: t) (by simp)
    show q ++ sep ++ glue sep ((r :: t) ++ [p]) = q ++ sep ++ glue sep (r :: t) ++ sep ++ p
    rw [h]; simp
/- the pieces as the split tells them: for none, one empty piece -/
noncomputable def mids (ps : List (List Nat)) : List (List Nat) := if ps = [] then [[]] else ps
theorem glue_mids (sep : List Nat) (ps : List (List Nat)) : glue sep (mids ps) = glue sep ps := by
  unfold mids; split
  · rename_i h; subst h; rfl
  · rfl
theorem mids_ne (ps : List (List Nat)) : mids ps ≠ [] := by unfold mids; split <;> simp_all
theorem glue_dots (ps : List (List Nat)) : dots ++ glue dots ps ++ dots = glue dots (([] :: mids ps) ++ [[]]) := by
  rw [glue_snoc _ _ (by simp), glue_cons _ _ (mids_ne ps), glue_mids]; simp
theorem split_dots {ps : List (List Nat)} (hf : ∀ p ∈ ps, 46 ∉ p) : Txt.split (S (dots ++ glue dots ps ++ dots)) (Str.ofString "...") = (([] :: mids ps) ++ [[]]).map S := by
  rw [dots_lit, glue_dots]
  refine split_glue (c := 46) (y' := [46, 46]) (by simp) ?_ (by decide +kernel)
  intro p hp
  simp only [List.mem_append, List.mem_cons, List.not_mem_nil, or_false] at hp
  rcases hp with (rfl | hp) | rfl
  · simp
  · unfold mids at hp
    split at hp
    · simp at hp; subst hp; simp
    · exact hf p hp
  · simp
theorem in_dots (ps : List (List Nat)) : (occurrences (S (dots ++ glue dots ps ++ dots)) (Str.ofString "...") 0 (S (dots ++ glue dots ps ++ dots)).length 1).isEmpty = false := by
  rw [dots_lit]
  rcases StrLaws.occ_head_from (S (dots ++ glue dots ps ++ dots)) (S dots) 0 1 (Nat.le_refl 1) with ⟨_, hn⟩ | ⟨i, r, h0, _⟩
  · exact absurd ((at_iff dots _ 0).mpr ⟨by simp [dots], by simp [dots]⟩) (hn 0 (Nat.le_refl _))
  · rw [h0]; rfl
theorem findL_nil {g : List Nat} {a : Nat} (h : a ≤ g.length) : findL [] g a = some a := findL_eq_some (Nat.le_refl _) ⟨by simpa using h, by simp⟩ (fun k h1 h2 => by first | lia | omega)
theorem found_snoc (g : List Nat) : ∀ (ps : List (List Nat)) (a : Nat), a ≤ g.length → foundGo (ps ++ [[]]) g a = foundGo ps g a
  | [], a, h => by simp only [List.nil_append, foundGo]; rw [findL_nil h]
  | p :: r, a, _ => by
    simp only [List.cons_append, foundGo]
    cases h : findL p g a with
    | none => rfl
    | some i => exact found_snoc g r _ (findL_some h).2.1.1
theorem found_mids (g : List Nat) (ps : List (List Nat)) (a : Nat) (h : a ≤ g.length) : foundGo (mids ps) g a = foundGo ps g a := by
  unfold mids; split
  · rename_i e; subst e; simp only [foundGo]; rw [findL_nil h]
  · rfl
theorem found_dots (g : List Nat) (ps : List (List Nat)) : foundGo (([] :: mids ps) ++ [[]]) g 0 = foundGo ps g 0 := by
  rw [found_snoc g _ 0 (Nat.zero_le _)]
  simp only [foundGo]
  rw [findL_nil (Nat.zero_le _)]
  exact found_mids g ps _ (Nat.zero_le _)
theorem glue_len (sep : List Nat) : ∀ ps : List (List Nat), (glue sep ps).length ≤ (ps.map List.length).sum + ps.length * sep.length
  | [] => by simp [glue]
  | [p] => by simp [glue]
  | p :: q :: r => by
    have h := glue_len sep (q :: r)
    simp only [glue, List.length_append, List.map_cons, List.sum_cons, List.length_cons, Nat.add_mul] at h ⊢
    (first | lia | omega)
end Mine
namespace Mine
theorem join_dots (ps : List (List Nat)) : Txt.join (Str.ofString "...") (ps.map S) = S (glue dots ps) := by
  unfold Txt.join; rw [StrLaws.glued_eq_join, dots_lit, join_S]
theorem cat_dots (x : List Nat) : Str.ofString "..." ++ S x ++ Str.ofString "..." = S (dots ++ x ++ dots) := by
  rw [dots_lit, S_app, S_app]
theorem sum_S (ps : List (List Nat)) : ((ps.map S).map (·.length)).sum = (ps.map List.length).sum := by
  rw [List.map_map]; exact congrArg List.sum (List.map_congr_left fun p _ => S_len p)
end Mine
namespace Mine
noncomputable def PInv (l : List Nat) (i : Int) (d : Str) : Prop := ∃ e, d = S e ∧ e ++ parseGo (l.drop i.toNat) = parseGo (l.drop 5)
theorem q_lit : Str.ofString "\"" = S [34] := by decide
theorem item_q {l : List Nat} {i : Int} (h0 : 0 ≤ i) (h1 : i < ((S l).length : Int)) {b : Bool} (h : (Txt.item (S l) i == Str.ofString "\"") = b) : decide (l.getD i.toNat 0 = 34) = b := by
  rw [S_len] at h1
  rw [item_S l h0 h1, q_lit, S_beq] at h
  rw [← h]
  generalize l.getD i.toNat 0 = c
  rw [Bool.eq_iff_iff]; simp
theorem item_nq {l : List Nat} {i : Int} (h0 : 0 ≤ i) (h1 : i < ((S l).length : Int)) {b : Bool} (h : (Txt.item (S l) i != Str.ofString "\"") = b) : decide (l.getD i.toNat 0 = 34) = !b := by
  rw [S_len] at h1
  rw [item_S l h0 h1, q_lit, S_bne] at h
  rw [← h]
  generalize l.getD i.toNat 0 = c
  rw [Bool.eq_iff_iff]; simp
theorem drop_at {l : List Nat} {i : Int} (h0 : 0 ≤ i) (h1 : i < ((S l).length : Int)) : l.drop i.toNat = l.getD i.toNat 0 :: l.drop (i + 1).toNat := by
  rw [S_len] at h1
  have e : (i + 1).toNat = i.toNat + 1 := by first | lia | omega
  have hl : i.toNat < l.length := by first | lia | omega
  rw [e, List.drop_eq_getElem_cons hl, List.getD_eq_getElem?_getD, List.getElem?_eq_getElem hl]; rfl
theorem parse_start (l : List Nat) : PInv l 5 (Str.ofString "") := ⟨[], by decide, rfl⟩
theorem parse_plain {l : List Nat} {i : Int} {d : Str} (h0 : 5 ≤ i) (h1 : i < ((S l).length : Int)) (h : PInv l i d) (hq : (Txt.item (S l) i == Str.ofString "\"") = false) : PInv l (i + 1) (d ++ Txt.item (S l) i) := by
  obtain ⟨e, rfl, he⟩ := h
  have hq' := item_q (by first | lia | omega) h1 hq
  rw [item_S l (by first | lia | omega) (by rw [S_len] at h1; exact h1), S_app]
  refine ⟨_, rfl, ?_⟩
  rw [← he, drop_at (by first | lia | omega) h1]
  have hc : l.getD i.toNat 0 ≠ 34 := by simpa using hq'
  generalize l.getD i.toNat 0 = c at hc
  rw [show parseGo (c :: List.drop (i + 1).toNat l) = c :: parseGo (List.drop (i + 1).toNat l) from by
    rw [parseGo] <;> simp [hc]]
  simp
theorem parse_two {l : List Nat} {i : Int} {d : Str} (h0 : 5 ≤ i) (h1 : i < ((S l).length : Int)) (h : PInv l i d) (hq : (Txt.item (S l) i == Str.ofString "\"") = true)
    (h2 : ¬ ((S l).length : Int) ≤ i + 1) (hq2 : (Txt.item (S l) (i + 1) != Str.ofString "\"") = false) : PInv l (i + 1 + 1) (d ++ Txt.item (S l) i) := by
  obtain ⟨e, rfl, he⟩ := h
  have hq' : l.getD i.toNat 0 = 34 := by simpa using item_q (by first | lia | omega) h1 hq
  have hq2' : l.getD (i + 1).toNat 0 = 34 := by simpa using item_nq (by first | lia | omega) (by first | lia | omega) hq2
  rw [item_S l (by first | lia | omega) (by rw [S_len] at h1; exact h1), S_app]
  refine ⟨_, rfl, ?_⟩
  rw [← he, drop_at (by first | lia | omega) h1, drop_at (i := i + 1) (by first | lia | omega) (by first | lia | omega), hq', hq2', parseGo]
  simp
theorem parse_brk1 {l : List Nat} {i : Int} {d : Str} (h0 : 5 ≤ i) (h1 : i < ((S l).length : Int)) (h : PInv l i d) (hq : (Txt.item (S l) i == Str.ofString "\"") = true)
    (h2 : ((S l).length : Int) ≤ i + 1) : d = S (parseGo (l.drop 5)) := by
  obtain ⟨e, rfl, he⟩ := h
  have hq' : l.getD i.toNat 0 = 34 := by simpa using item_q (by first | lia | omega) h1 hq
  rw [S_len] at h2
  rw [← he, drop_at (by first | lia | omega) h1, hq', List.drop_eq_nil_of_le (by first | lia | omega), parseGo]
  · simp
  · intro r h; cases h
theorem parse_brk2 {l : List Nat} {i : Int} {d : Str} (h0 : 5 ≤ i) (h1 : i < ((S l).length : Int)) (h : PInv l i d) (hq : (Txt.item (S l) i == Str.ofString "\"") = true)
    (h2 : ¬ ((S l).length : Int) ≤ i + 1) (hq2 : (Txt.item (S l) (i + 1) != Str.ofString "\"") = true) : d = S (parseGo (l.drop 5)) := by
  obtain ⟨e, rfl, he⟩ := h
  have hq' : l.getD i.toNat 0 = 34 := by simpa using item_q (by first | lia | omega) h1 hq
  have hq2' : l.getD (i + 1).toNat 0 ≠ 34 := by simpa using item_nq (by first | lia | omega) (by first | lia | omega) hq2
  rw [← he, drop_at (by first | lia | omega) h1, drop_at (i := i + 1) (by first | lia | omega) (by first | lia | omega), hq']
  generalize l.getD (i + 1).toNat 0 = c at hq2'
  rw [parseGo]
  · simp
  · intro r h; injection h with h _; exact hq2' h
theorem parse_out {l : List Nat} {i : Int} {d : Str} (h : PInv l i d) (h2 : ¬ i < ((S l).length : Int)) : d = S (parseGo (l.drop 5)) := by
  obtain ⟨e, rfl, he⟩ := h
  rw [S_len] at h2
  rw [← he, List.drop_eq_nil_of_le (by first | lia | omega), parseGo]; simp
theorem parse_head {l : List Nat} (h : (Txt.slice (S l) (some 3) (some 5) != Str.ofString " \"") = false) : 5 ≤ l.length ∧ parseP l = parseGo (l.drop 5) := by
  rw [slice_ss l (by first | lia | omega) (by first | lia | omega), show Str.ofString " \"" = S [32, 34] from by decide, S_bne] at h
  have h' : (l.take 5).drop 3 = [32, 34] := by simpa using h
  constructor
  · have := congrArg List.length h'
    simp at this; (first | lia | omega)
  · unfold parseP; rw [if_pos h']
theorem parse_nohead {l : List Nat} (h : (Txt.slice (S l) (some 3) (some 5) != Str.ofString " \"") = true) : Str.ofString "" = S (parseP l) := by
  rw [slice_ss l (by first | lia | omega) (by first | lia | omega), show Str.ofString " \"" = S [32, 34] from by decide, S_bne] at h
  have h' : (l.take 5).drop 3 ≠ [32, 34] := by simpa using h
  unfold parseP; rw [if_neg h']; decide
theorem parse_257 {l : List Nat} (h3 : l.take 3 = [50, 53, 55]) (h : (Txt.slice (S l) none (some 3) != Str.ofString "257") = true) : False := by
  rw [slice_ns l (by first | lia | omega), show Str.ofString "257" = S [50, 53, 55] from by decide, S_bne] at h
  simp at h
  exact h h3
theorem parseGo_len : ∀ l : List Nat, (parseGo l).length ≤ l.length
  | [] => Nat.le_refl _
  | [c] => by
    by_cases h : c = 34
    · subst h; simp [parseGo]
    · rw [parseGo] <;> simp [h, parseGo]
  | c :: d :: r => by
    by_cases h : c = 34
    · subst h
      by_cases h2 : d = 34
      · subst h2; rw [parseGo]; have := parseGo_len r; simp only [List.length_cons]; (first | lia | omega)
      · rw [parseGo]
        · simp
        · intro r' e; injection e with e _; exact h2 e
    · rw [parseGo]
      · have := parseGo_len (d :: r); simp only [List.length_cons] at this ⊢; (first | lia | omega)
      · intro r' e; exact absurd e h
      · exact h
theorem parseP_len (l : List Nat) : (parseP l).length ≤ l.length := by
  unfold parseP; split
  · exact Nat.le_trans (parseGo_len _) (by simp)
  · simp
end Mine
namespace Mine
theorem tz1 (i : Nat) : 1 + (i : Int) = ((i + 1 : Nat) : Int) := Int.add_comm _ _
theorem tzA (i n : Nat) : Int.toNat (1 + (i : Int) - (n : Int)) = i + 1 - n := by rw [tz1]; exact Int.toNat_sub _ _
theorem tzB (i : Nat) : Int.toNat (1 + (i : Int) - 1) = i := tzA i 1
theorem tzC (i : Nat) : Int.toNat (1 + (i : Int)) = i + 1 := by rw [tz1]; exact Int.toNat_natCast _
theorem tzD (a b : Nat) : Int.toNat ((a : Int) - 1 - (b : Int)) = a - 1 - b := by rw [Int.sub_sub, tz1, Nat.sub_sub, Nat.add_comm 1 b]; exact Int.toNat_sub _ _
theorem tzE (a i : Nat) : Int.toNat ((a : Int) - (1 + (i : Int))) = a - (i + 1) := by rw [tz1]; exact Int.toNat_sub _ _
theorem tzF {a i : Nat} (p : Nat) (h : i < a) : Int.toNat ((a : Int) - (1 + (i : Int)) + (p : Int)) = a - (i + 1) + p := by rw [tz1, ← Int.natCast_sub h]; exact Int.toNat_natCast (a - (i + 1) + p)
/- the counts -/
/- one more count, for the end `e` (counts.length = e) -/
noncomputable def frontNext (name : List Nat) (ps : List (List Nat)) (cs : List Nat) (e : Nat) : Nat :=
  let best := cs.getD (e - 1) 0
  if best < ps.length then
    let p := ps.getD best []
    if p.length ≤ e ∧ (name.take e).drop (e - p.length) = p ∧ cs.getD (e - p.length) 0 = best then best + 1 else best
  else best
noncomputable def frontsTo (name : List Nat) (ps : List (List Nat)) : Nat → List Nat
  | 0 => [0]
  | k + 1 => let cs := frontsTo name ps k; cs ++ [frontNext name ps cs (k + 1)]
noncomputable def fronts (name : List Nat) (ps : List (List Nat)) : List Nat := frontsTo name ps name.length
noncomputable def endNext (name : List Nat) (ps : List (List Nat)) (cs : List Nat) (size : Nat) : Nat :=
  let best := cs.getD (size - 1) 0
  if best < ps.length then
    let p := ps.getD (ps.length - 1 - best) []
    let start := name.length - size
    if (name.take (start + p.length)).drop start = p ∧ cs.getD (size - p.length) 0 = best then best + 1 else best
  else best
noncomputable def endsTo (name : List Nat) (ps : List (List Nat)) : Nat → List Nat
  | 0 => [0]
  | k + 1 => let cs := endsTo name ps k; cs ++ [endNext name ps cs (k + 1)]
noncomputable def ends (name : List Nat) (ps : List (List Nat)) : List Nat := endsTo name ps name.length
theorem frontsTo_len (name : List Nat) (ps : List (List Nat)) : ∀ k, (frontsTo name ps k).length = k + 1
  | 0 => rfl
  | k + 1 => by simp only [frontsTo, List.length_append, frontsTo_len name ps k, List.length_cons, List.length_nil]
theorem endsTo_len (name : List Nat) (ps : List (List Nat)) : ∀ k, (endsTo name ps k).length = k + 1
  | 0 => rfl
  | k + 1 => by simp only [endsTo, List.length_append, endsTo_len name ps k, List.length_cons, List.length_nil]
noncomputable def natInts (l : List Nat) : List Int := l.map fun (n : Nat) => (n : Int)
theorem natInts_len (l : List Nat) : (natInts l).length = l.length := by simp [natInts]
theorem natInts_getD (l : List Nat) (k : Nat) : (natInts l).getD k 0 = ((l.getD k 0 : Nat) : Int) := by
  unfold natInts
  rw [List.getD_eq_getElem?_getD, List.getD_eq_getElem?_getD, List.getElem?_map]
  cases l[k]? <;> rfl
theorem frontNext_le {name : List Nat} {ps : List (List Nat)} {cs : List Nat} {e : Nat} (h : ∀ k, cs.getD k 0 ≤ ps.length) : frontNext name ps cs e ≤ ps.length := by
  unfold frontNext
  have := h (e - 1)
  dsimp only
  split
  · split <;> (first | lia | omega)
  · exact this
theorem endNext_le {name : List Nat} {ps : List (List Nat)} {cs : List Nat} {e : Nat} (h : ∀ k, cs.getD k 0 ≤ ps.length) : endNext name ps cs e ≤ ps.length := by
  unfold endNext
  have := h (e - 1)
  dsimp only
  split
  · split <;> (first | lia | omega)
  · exact this
theorem getD_snoc_le {cs : List Nat} {x n : Nat} (h : ∀ k, cs.getD k 0 ≤ n) (hx : x ≤ n) : ∀ k, (cs ++ [x]).getD k 0 ≤ n := by
  intro k
  rw [List.getD_eq_getElem?_getD]
  by_cases hk : k < cs.length
  · rw [List.getElem?_append_left hk, ← List.getD_eq_getElem?_getD]; exact h k
  · rw [List.getElem?_append_right (by first | lia | omega)]
    cases hk2 : k - cs.length with
    | zero => simpa using hx
    | succ j => simp
theorem frontsTo_le (name : List Nat) (ps : List (List Nat)) : ∀ j k, (frontsTo name ps j).getD k 0 ≤ ps.length
  | 0, k => by cases k <;> simp [frontsTo]
  | j + 1, k => getD_snoc_le (frontsTo_le name ps j) (frontNext_le (frontsTo_le name ps j)) k
theorem endsTo_le (name : List Nat) (ps : List (List Nat)) : ∀ j k, (endsTo name ps j).getD k 0 ≤ ps.length
  | 0, k => by cases k <;> simp [endsTo]
  | j + 1, k => getD_snoc_le (endsTo_le name ps j) (endNext_le (endsTo_le name ps j)) k
end Mine
namespace Mine
section
variable {g : List Nat} {ps : List (List Nat)} {cs : List Nat} {i : Nat}
theorem fn_A (h1 : ¬ ((cs.getD (Int.toNat (1 + (i : Int) - 1)) 0 : Nat) : Int) < (ps.length : Int)) : ((cs.getD (Int.toNat (1 + (i : Int) - 1)) 0 : Nat) : Int) = ((frontNext g ps cs (i + 1) : Nat) : Int) := by
  rw [tzB i] at *
  unfold frontNext
  simp only [Nat.add_sub_cancel]
  rw [if_neg (by first | lia | omega)]
theorem fn_B (h1 : ((cs.getD (Int.toNat (1 + (i : Int) - 1)) 0 : Nat) : Int) < (ps.length : Int))
    (h2 : ¬ 0 ≤ 1 + (i : Int) - ((ps.getD (Int.toNat ((cs.getD (Int.toNat (1 + (i : Int) - 1)) 0 : Nat) : Int)) []).length : Int)) :
    ((cs.getD (Int.toNat (1 + (i : Int) - 1)) 0 : Nat) : Int) = ((frontNext g ps cs (i + 1) : Nat) : Int) := by
  rw [tzB i] at *
  rw [Int.toNat_natCast] at h2
  unfold frontNext
  simp only [Nat.add_sub_cancel]
  rw [if_pos (by first | lia | omega), if_neg (fun h => by first | lia | omega)]
theorem fn_slice {p : List Nat} (h2 : 0 ≤ 1 + (i : Int) - (p.length : Int)) : Txt.slice (S g) (some (1 + (i : Int) - (p.length : Int))) (some (1 + (i : Int))) = S ((g.take (i + 1)).drop (i + 1 - p.length)) := by
  rw [slice_ss g h2 (by first | lia | omega)]
  rw [tzC i, tzA i p.length]
theorem fn_C (h1 : ((cs.getD (Int.toNat (1 + (i : Int) - 1)) 0 : Nat) : Int) < (ps.length : Int))
    (h2 : 0 ≤ 1 + (i : Int) - ((ps.getD (Int.toNat ((cs.getD (Int.toNat (1 + (i : Int) - 1)) 0 : Nat) : Int)) []).length : Int))
    (h3 : (Txt.slice (S g) (some (1 + (i : Int) - ((ps.getD (Int.toNat ((cs.getD (Int.toNat (1 + (i : Int) - 1)) 0 : Nat) : Int)) []).length : Int))) (some (1 + (i : Int))) == S (ps.getD (Int.toNat ((cs.getD (Int.toNat (1 + (i : Int) - 1)) 0 : Nat) : Int)) [])) = false) :
    ((cs.getD (Int.toNat (1 + (i : Int) - 1)) 0 : Nat) : Int) = ((frontNext g ps cs (i + 1) : Nat) : Int) := by
  rw [fn_slice h2, S_beq] at h3
  rw [tzB i] at *
  rw [Int.toNat_natCast] at h2 h3
  unfold frontNext
  simp only [Nat.add_sub_cancel]
  rw [if_pos (by first | lia | omega), if_neg (fun h => by rw [h.2.1] at h3; simp at h3)]
theorem fn_D (h1 : ((cs.getD (Int.toNat (1 + (i : Int) - 1)) 0 : Nat) : Int) < (ps.length : Int))
    (h2 : 0 ≤ 1 + (i : Int) - ((ps.getD (Int.toNat ((cs.getD (Int.toNat (1 + (i : Int) - 1)) 0 : Nat) : Int)) []).length : Int))
    (h4 : ((cs.getD (Int.toNat (1 + (i : Int) - ((ps.getD (Int.toNat ((cs.getD (Int.toNat (1 + (i : Int) - 1)) 0 : Nat) : Int)) []).length : Int))) 0 : Nat) : Int) ≠ ((cs.getD (Int.toNat (1 + (i : Int) - 1)) 0 : Nat) : Int)) :
    ((cs.getD (Int.toNat (1 + (i : Int) - 1)) 0 : Nat) : Int) = ((frontNext g ps cs (i + 1) : Nat) : Int) := by
  rw [tzB i] at *
  rw [Int.toNat_natCast] at h2 h4
  rw [tzA i (ps.getD (cs.getD i 0) []).length] at h4
  unfold frontNext
  simp only [Nat.add_sub_cancel]
  rw [if_pos (by first | lia | omega), if_neg (fun h => h4 (by rw [h.2.2]))]
theorem fn_E (h1 : ((cs.getD (Int.toNat (1 + (i : Int) - 1)) 0 : Nat) : Int) < (ps.length : Int))
    (h2 : 0 ≤ 1 + (i : Int) - ((ps.getD (Int.toNat ((cs.getD (Int.toNat (1 + (i : Int) - 1)) 0 : Nat) : Int)) []).length : Int))
    (h3 : (Txt.slice (S g) (some (1 + (i : Int) - ((ps.getD (Int.toNat ((cs.getD (Int.toNat (1 + (i : Int) - 1)) 0 : Nat) : Int)) []).length : Int))) (some (1 + (i : Int))) == S (ps.getD (Int.toNat ((cs.getD (Int.toNat (1 + (i : Int) - 1)) 0 : Nat) : Int)) [])) = true)
    (h4 : ((cs.getD (Int.toNat (1 + (i : Int) - ((ps.getD (Int.toNat ((cs.getD (Int.toNat (1 + (i : Int) - 1)) 0 : Nat) : Int)) []).length : Int))) 0 : Nat) : Int) = ((cs.getD (Int.toNat (1 + (i : Int) - 1)) 0 : Nat) : Int)) :
    ((cs.getD (Int.toNat (1 + (i : Int) - 1)) 0 : Nat) : Int) + 1 = ((frontNext g ps cs (i + 1) : Nat) : Int) := by
  rw [fn_slice h2, S_beq] at h3
  rw [tzB i] at *
  rw [Int.toNat_natCast] at h2 h3 h4
  rw [tzA i (ps.getD (cs.getD i 0) []).length] at h4
  unfold frontNext
  simp only [Nat.add_sub_cancel]
  rw [if_pos (by first | lia | omega), if_pos ⟨by first | lia | omega, beq_iff_eq.mp h3, by first | lia | omega⟩]
  simp
end
end Mine
namespace Mine
section
variable {g : List Nat} {ps : List (List Nat)} {cs : List Nat} {i : Nat} {p : List Nat}
theorem en_slice (hi : i < g.length) : Txt.slice (S g) (some (((S g).length : Int) - (1 + (i : Int)))) (some (((S g).length : Int) - (1 + (i : Int)) + (p.length : Int))) = S ((g.take (g.length - (i + 1) + p.length)).drop (g.length - (i + 1))) := by
  rw [S_len, slice_ss g (by first | lia | omega) (by first | lia | omega)]
  rw [tzE g.length i, tzF p.length hi]
theorem ends_ge (hi : i < g.length) (h : (Txt.slice (S g) (some (((S g).length : Int) - (1 + (i : Int)))) (some (((S g).length : Int) - (1 + (i : Int)) + (p.length : Int))) == S p) = true) : 0 ≤ 1 + (i : Int) - (p.length : Int) := by
  rw [en_slice hi, S_beq] at h
  have hl := congrArg List.length (beq_iff_eq.mp h)
  rw [List.length_drop, List.length_take] at hl
  have h2 := Nat.sub_le_sub_right (Nat.min_le_right (g.length - (i + 1) + p.length) g.length) (g.length - (i + 1))
  rw [hl, Nat.sub_sub_self hi] at h2
  rw [tz1]
  exact Int.sub_nonneg_of_le (Int.ofNat_le.mpr h2)
theorem en_A (h1 : ¬ ((cs.getD (Int.toNat (1 + (i : Int) - 1)) 0 : Nat) : Int) < (ps.length : Int)) : ((cs.getD (Int.toNat (1 + (i : Int) - 1)) 0 : Nat) : Int) = ((endNext g ps cs (i + 1) : Nat) : Int) := by
  rw [tzB i] at *
  unfold endNext
  simp only [Nat.add_sub_cancel]
  rw [if_neg (by first | lia | omega)]
theorem en_C (hi : i < g.length) (h1 : ((cs.getD (Int.toNat (1 + (i : Int) - 1)) 0 : Nat) : Int) < (ps.length : Int))
    (h3 : (Txt.slice (S g) (some (((S g).length : Int) - (1 + (i : Int)))) (some (((S g).length : Int) - (1 + (i : Int)) + ((ps.getD (Int.toNat ((ps.length : Int) - 1 - ((cs.getD (Int.toNat (1 + (i : Int) - 1)) 0 : Nat) : Int))) []).length : Int))) == S (ps.getD (Int.toNat ((ps.length : Int) - 1 - ((cs.getD (Int.toNat (1 + (i : Int) - 1)) 0 : Nat) : Int))) [])) = false) :
    ((cs.getD (Int.toNat (1 + (i : Int) - 1)) 0 : Nat) : Int) = ((endNext g ps cs (i + 1) : Nat) : Int) := by
  rw [en_slice hi, S_beq] at h3
  rw [tzB i] at *
  rw [tzD ps.length (cs.getD i 0)] at h3
  unfold endNext
  simp only [Nat.add_sub_cancel]
  rw [if_pos (by first | lia | omega), if_neg (fun h => by rw [h.1] at h3; simp at h3)]
theorem en_D (h1 : ((cs.getD (Int.toNat (1 + (i : Int) - 1)) 0 : Nat) : Int) < (ps.length : Int))
    (h4 : ((cs.getD (Int.toNat (1 + (i : Int) - ((ps.getD (Int.toNat ((ps.length : Int) - 1 - ((cs.getD (Int.toNat (1 + (i : Int) - 1)) 0 : Nat) : Int))) []).length : Int))) 0 : Nat) : Int) ≠ ((cs.getD (Int.toNat (1 + (i : Int) - 1)) 0 : Nat) : Int)) :
    ((cs.getD (Int.toNat (1 + (i : Int) - 1)) 0 : Nat) : Int) = ((endNext g ps cs (i + 1) : Nat) : Int) := by
  rw [tzB i] at *
  rw [tzD ps.length (cs.getD i 0)] at h4
  rw [tzA i (ps.getD (ps.length - 1 - cs.getD i 0) []).length] at h4
  unfold endNext
  simp only [Nat.add_sub_cancel]
  rw [if_pos (by first | lia | omega), if_neg (fun h => h4 (by rw [h.2]))]
theorem en_E (hi : i < g.length) (h1 : ((cs.getD (Int.toNat (1 + (i : Int) - 1)) 0 : Nat) : Int) < (ps.length : Int))
    (h3 : (Txt.slice (S g) (some (((S g).length : Int) - (1 + (i : Int)))) (some (((S g).length : Int) - (1 + (i : Int)) + ((ps.getD (Int.toNat ((ps.length : Int) - 1 - ((cs.getD (Int.toNat (1 + (i : Int) - 1)) 0 : Nat) : Int))) []).length : Int))) == S (ps.getD (Int.toNat ((ps.length : Int) - 1 - ((cs.getD (Int.toNat (1 + (i : Int) - 1)) 0 : Nat) : Int))) [])) = true)
    (h4 : ((cs.getD (Int.toNat (1 + (i : Int) - ((ps.getD (Int.toNat ((ps.length : Int) - 1 - ((cs.getD (Int.toNat (1 + (i : Int) - 1)) 0 : Nat) : Int))) []).length : Int))) 0 : Nat) : Int) = ((cs.getD (Int.toNat (1 + (i : Int) - 1)) 0 : Nat) : Int)) :
    ((cs.getD (Int.toNat (1 + (i : Int) - 1)) 0 : Nat) : Int) + 1 = ((endNext g ps cs (i + 1) : Nat) : Int) := by
  rw [en_slice hi, S_beq] at h3
  rw [tzB i] at *
  rw [tzD ps.length (cs.getD i 0)] at h3 h4
  rw [tzA i (ps.getD (ps.length - 1 - cs.getD i 0) []).length] at h4
  unfold endNext
  simp only [Nat.add_sub_cancel]
  rw [if_pos (by first | lia | omega), if_pos ⟨beq_iff_eq.mp h3, by first | lia | omega⟩]
  simp
end
end Mine
namespace Mine
/- the sign that a number tells, ahead of the last look -/
noncomputable def signC (n : Int) : Nat := ([97, 98, 32, 10, 97, 98, 35, (32 + Int.fmod (Int.fdiv n 8) 50000).toNat] : List Nat).getD (Int.fmod n 8).toNat 0
noncomputable def signN (n : Int) : Nat := if signC n = 46 ∨ signC n = 34 ∨ signC n = 92 then 97 else signC n
theorem signN_free (n : Int) : signN n ≠ 46 ∧ signN n ≠ 34 ∧ signN n ≠ 92 := by
  unfold signN; split
  · decide
  · rename_i h; exact ⟨fun e => h (.inl e), fun e => h (.inr (.inl e)), fun e => h (.inr (.inr e))⟩
theorem sign_pick {n : Int} {t0 t1 t2 t3 t4 t5 t6 t7 : Tok} (h0 : 0 ≤ Int.fmod n 8) (h1 : Int.fmod n 8 < 8) :
    ∃ t, [Value.str (Str.ofString "a") t0, .str (Str.ofString "b") t1, .str (Str.ofString " ") t2, .str (Str.ofString "\n") t3, .str (Str.ofString "a") t4, .str (Str.ofString "b") t5, .str (Str.ofString "#") t6, .str (Str.mk #[(32 + Int.fmod (Int.fdiv n 8) 50000).toNat]) t7][(Int.fmod n 8).toNat]? = some (.str (S [signC n]) t) := by
  unfold signC
  have e : ∃ k : Nat, k < 8 ∧ (Int.fmod n 8).toNat = k := ⟨_, by first | lia | omega, rfl⟩
  obtain ⟨k, hk, e⟩ := e
  rw [e]
  rcases (by first | lia | omega : k = 0 ∨ k = 1 ∨ k = 2 ∨ k = 3 ∨ k = 4 ∨ k = 5 ∨ k = 6 ∨ k = 7) with rfl | rfl | rfl | rfl | rfl | rfl | rfl | rfl
  all_goals first
    | exact ⟨t0, rfl⟩
    | exact ⟨t7, rfl⟩
    | exact ⟨t1, by show some (Value.str (Str.ofString "b") t1) = _; rw [show Str.ofString "b" = S [98] from by decide]; rfl⟩
    | exact ⟨t2, by show some (Value.str (Str.ofString " ") t2) = _; rw [show Str.ofString " " = S [32] from by decide]; rfl⟩
    | exact ⟨t3, by show some (Value.str (Str.ofString "\n") t3) = _; rw [show Str.ofString "\n" = S [10] from by decide]; rfl⟩
    | exact ⟨t4, by show some (Value.str (Str.ofString "a") t4) = _; rw [show Str.ofString "a" = S [97] from by decide]; rfl⟩
    | exact ⟨t5, by show some (Value.str (Str.ofString "b") t5) = _; rw [show Str.ofString "b" = S [98] from by decide]; rfl⟩
    | exact ⟨t6, by show some (Value.str (Str.ofString "#") t6) = _; rw [show Str.ofString "#" = S [35] from by decide]; rfl⟩
    | exact ⟨t0, by show some (Value.str (Str.ofString "a") t0) = _; rw [show Str.ofString "a" = S [97] from by decide]; rfl⟩
theorem in_three (c : Nat) : (!(Builtin.Str.occurrences (Str.ofString ".\"\\") (S [c]) 0 (Str.ofString ".\"\\").length 1).isEmpty) = decide (c = 46 ∨ c = 34 ∨ c = 92) := by
  rw [show Str.ofString ".\"\\" = S [46, 34, 92] from by decide]
  rw [Bool.eq_iff_iff, decide_eq_true_eq, Bool.not_eq_true']
  rcases StrLaws.occ_head_from (S [46, 34, 92]) (S [c]) 0 1 (Nat.le_refl 1) with ⟨h0, hn⟩ | ⟨i, r, h0, _, ha, _⟩
  · rw [h0]
    constructor
    · intro h; cases h
    · intro h
      exfalso
      rcases h with rfl | rfl | rfl
      · exact hn 0 (by first | lia | omega) ((at_iff [46] [46, 34, 92] 0).mpr (by decide))
      · exact hn 1 (by first | lia | omega) ((at_iff [34] [46, 34, 92] 1).mpr (by decide))
      · exact hn 2 (by first | lia | omega) ((at_iff [92] [46, 34, 92] 2).mpr (by decide))
  · rw [h0]
    refine ⟨fun _ => ?_, fun _ => rfl⟩
    obtain ⟨h1, h2⟩ := (at_iff [c] [46, 34, 92] i).mp ha
    simp only [List.length_cons, List.length_nil] at h1 h2
    rcases (by first | lia | omega : i = 0 ∨ i = 1 ∨ i = 2) with rfl | rfl | rfl
    · simp at h2; exact .inl h2.symm
    · simp at h2; exact .inr (.inl h2.symm)
    · simp at h2; exact .inr (.inr h2.symm)
end Mine
namespace Mine
theorem fm8 (n : Int) : 0 ≤ Int.fmod n 8 ∧ Int.fmod n 8 < 8 := by
  rw [Int.fmod_eq_emod_of_nonneg _ (by decide)]; (first | lia | omega)
theorem seq8 {k : Int} (h0 : 0 ≤ k) (h1 : k < 8) : seqIndex? k 8 = some k.toNat := by
  unfold seqIndex?
  have : ¬ k < 0 := by first | lia | omega
  simp [this]; (first | lia | omega)
theorem signC_dec (n : Int) : (if decide (signC n = 46 ∨ signC n = 34 ∨ signC n = 92) = true then Str.ofString "a" else S [signC n]) = S [signN n] := by
  unfold signN
  by_cases h : signC n = 46 ∨ signC n = 34 ∨ signC n = 92
  · simp only [h, decide_true, if_true]; decide
  · simp only [h, decide_false, Bool.false_eq_true, if_false]
end Mine
namespace Mine
theorem sign_out {n : Int} (h : (Builtin.Str.occurrences (Str.ofString ".\"\\") (S [signC n]) 0 (Str.ofString ".\"\\").length 1).isEmpty = true) : S [signC n] = S [signN n] := by
  have := in_three (signC n)
  rw [h] at this
  rw [← signC_dec, ← this]; rfl
theorem sign_a {n : Int} (h : (Builtin.Str.occurrences (Str.ofString ".\"\\") (S [signC n]) 0 (Str.ofString ".\"\\").length 1).isEmpty = false) : Str.ofString "a" = S [signN n] := by
  have := in_three (signC n)
  rw [h] at this
  rw [← signC_dec, ← this]; rfl
end Mine
namespace Mine
noncomputable def wsB (c : Nat) : Bool := c == 10 || c == 9 || c == 13 || c == 32
/- one for a new line -/
noncomputable def nlOf (x : List Nat) : Int := if x = [10] then 1 else 0
/- the token that stands first in a row, and how far the place moves -/
noncomputable def tokOf : List Nat → List Nat × Nat
  | [] => ([], 1)
  | c :: r => if wsB c then ((tokOf r).1, (tokOf r).2 + 1) else if c = 34 then (r.takeWhile (· != 34), (r.takeWhile (· != 34)).length + 2) else (c :: r.takeWhile (!wsB ·), (r.takeWhile (!wsB ·)).length + 2)
noncomputable def nlc (r : List Nat) (m : Nat) : Int := ((r.take m).count 10 : Nat)
theorem in_ws (c : Nat) : (Builtin.Str.occurrences (Str.ofString "\n\t\r ") (S [c]) 0 (Str.ofString "\n\t\r ").length 1).isEmpty = !wsB c := by
  rw [show Str.ofString "\n\t\r " = S [10, 9, 13, 32] from by decide]
  rcases StrLaws.occ_head_from (S [10, 9, 13, 32]) (S [c]) 0 1 (Nat.le_refl 1) with ⟨h0, hn⟩ | ⟨i, r, h0, _, ha, _⟩
  · rw [h0]
    cases h : wsB c with
    | false => rfl
    | true =>
      exfalso
      simp only [wsB, Bool.or_eq_true, beq_iff_eq] at h
      rcases h with ((rfl | rfl) | rfl) | rfl
      · exact hn 0 (by first | lia | omega) ((at_iff [10] [10, 9, 13, 32] 0).mpr (by decide))
      · exact hn 1 (by first | lia | omega) ((at_iff [9] [10, 9, 13, 32] 1).mpr (by decide))
      · exact hn 2 (by first | lia | omega) ((at_iff [13] [10, 9, 13, 32] 2).mpr (by decide))
      · exact hn 3 (by first | lia | omega) ((at_iff [32] [10, 9, 13, 32] 3).mpr (by decide))
  · rw [h0]
    obtain ⟨h1, h2⟩ := (at_iff [c] [10, 9, 13, 32] i).mp ha
    simp only [List.length_cons, List.length_nil] at h1 h2
    have : wsB c = true := by
      rcases (by first | lia | omega : i = 0 ∨ i = 1 ∨ i = 2 ∨ i = 3) with rfl | rfl | rfl | rfl <;> (simp at h2; subst h2; decide)
    rw [this]; rfl
theorem nlOf_nn (x : List Nat) : 0 ≤ nlOf x := by unfold nlOf; split <;> (first | lia | omega)
theorem nlc_nn (r : List Nat) (m : Nat) : 0 ≤ nlc r m := by unfold nlc; (first | lia | omega)
theorem nlc_le (r : List Nat) (m : Nat) : nlc r m ≤ r.length := by
  unfold nlc
  have h1 := List.count_le_length (a := 10) (l := r.take m)
  have h2 : (r.take m).length ≤ r.length := by rw [List.length_take]; (first | lia | omega)
  (first | lia | omega)
theorem nlc_cons (c : Nat) (r : List Nat) (m : Nat) : nlc (c :: r) (m + 1) = nlOf [c] + nlc r m := by
  unfold nlc nlOf
  rw [List.take_succ_cons, List.count_cons]
  by_cases h : c = 10
  · subst h; simp; (first | lia | omega)
  · simp [h]
theorem nlc_nil (m : Nat) : nlc [] m = 0 := by simp [nlc]
theorem nlc_zero (r : List Nat) : nlc r 0 = 0 := by simp [nlc]
theorem tok_le : ∀ r : List Nat, (tokOf r).2 ≤ r.length + 1
  | [] => by simp [tokOf]
  | c :: r => by
    have ih := tok_le r
    have h1 := (List.takeWhile_sublist (l := r) (· != 34)).length_le
    have h2 := (List.takeWhile_sublist (l := r) (!wsB ·)).length_le
    unfold tokOf
    split
    · simp only [List.length_cons]; (first | lia | omega)
    · split <;> (simp only [List.length_cons]; (first | lia | omega))
theorem tok_ws {c : Nat} {r : List Nat} (h : wsB c = true) : (tokOf (c :: r)).1 = (tokOf r).1 ∧ (tokOf (c :: r)).2 = (tokOf r).2 + 1 := by
  rw [tokOf, if_pos h]; exact ⟨rfl, rfl⟩
theorem tok_q {r : List Nat} : tokOf (34 :: r) = (r.takeWhile (· != 34), (r.takeWhile (· != 34)).length + 2) := by
  rw [tokOf, if_neg (by decide), if_pos rfl]
theorem tok_p {c : Nat} {r : List Nat} (h : wsB c = false) (h2 : c ≠ 34) : tokOf (c :: r) = (c :: r.takeWhile (!wsB ·), (r.takeWhile (!wsB ·)).length + 2) := by
  rw [tokOf, if_neg (by simp [h]), if_neg h2]
theorem tok_drop {row : List Nat} {n ch : Nat} (h : row[n]? = some ch) : row.drop n = ch :: row.drop (n + 1) := by
  obtain ⟨hlt, hc⟩ := List.getElem?_eq_some_iff.mp h
  rw [List.drop_eq_getElem_cons hlt, hc]
end Mine
namespace Mine
/- a goal laid aside: no line of the walk knows this head -/
structure Park (P : Prop) : Prop where
  out : P
abbrev Led := List (Addr × Obj)
/- a contract: called from any frame of a def, over any ledger that meets `pre`; what it hands back meets `post`; the caller's ledger stands -/
noncomputable def CPure (w : World) (k : Nat) (f : Addr) (vs : List Value) (pre : Led → Prop) (post : Value → Prop) : Prop :=
  ∀ (p : Program) (loose : List Str) (mean : ExcName → Option Value) (mg mb : Str → Option Value) (dp un : Nat) (gd : Option (List Code)) (cn : Str) (cs : Scope) (a : Addr) (ccd : Value) (cl : List (Str × Addr)) (outer : List Env) (A₀ : Around) (base h₀ : Heap) (L : Addr) (m : Str → Option Value) (news : Led) (s : Shared)
    (Q E : Value → Shared → Prop),
    Below A₀ base outer h₀ → Fr h₀ L s.heap m → (Khp w.params).In h₀ → News h₀ L s.heap news → Top p loose mean mg mb h₀ → cs.kind = .function → dp + k < recursionLimit → un + 8 * k < cLine → pre news →
    (∀ r h' tk', Fr h₀ L h' m → News h₀ L h' news → post r → Q r { s with heap := h', toks := tk' }) →
    wpAny (model PySem.Challenge.rw_sc0033_01.row.prog w) (ktrTop dp un gd cn cs L a ccd cl outer) (call (.ref f) vs) Q E s
/- the same where new objects come back -/
noncomputable def CNew (w : World) (k : Nat) (f : Addr) (vs : List Value) (pre : Led → Prop) (post : Led → Value → Prop) : Prop :=
  ∀ (p : Program) (loose : List Str) (mean : ExcName → Option Value) (mg mb : Str → Option Value) (dp un : Nat) (gd : Option (List Code)) (cn : Str) (cs : Scope) (a : Addr) (ccd : Value) (cl : List (Str × Addr)) (outer : List Env) (A₀ : Around) (base h₀ : Heap) (L : Addr) (m : Str → Option Value) (news : Led) (s : Shared)
    (Q E : Value → Shared → Prop),
    Below A₀ base outer h₀ → Fr h₀ L s.heap m → (Khp w.params).In h₀ → News h₀ L s.heap news → Top p loose mean mg mb h₀ → cs.kind = .function → dp + k < recursionLimit → un + 8 * k < cLine → pre news →
    (∀ r tl h' tk', Fr h₀ L h' m → News h₀ L h' (tl ++ news) → (∀ p ∈ news, ∀ q ∈ tl, p.1 < q.1) → post tl r → Q r { s with heap := h', toks := tk' }) →
    wpAny (model PySem.Challenge.rw_sc0033_01.row.prog w) (ktrTop dp un gd cn cs L a ccd cl outer) (call (.ref f) vs) Q E s
section
variable {w : World} {k : Nat} {f : Addr} {vs : List Value} {pre : Led → Prop} {p : Program} {loose : List Str} {mean : ExcName → Option Value} {mg mb : Str → Option Value} {dp un : Nat} {gd : Option (List Code)} {cn : Str} {cs : Scope} {a : Addr} {ccd : Value} {cl : List (Str × Addr)} {outer : List Env} {A₀ : Around} {base h₀ : Heap} {L : Addr} {m : Str → Option Value} {news : Led} {s : Shared}
  {Q E : Value → Shared → Prop}
theorem CPure.use {post : Value → Prop} (C : CPure w k f vs pre post) (B : Below A₀ base outer h₀) (F : Fr h₀ L s.heap m) (X : (Khp w.params).In h₀) (N : News h₀ L s.heap news) (T : Top p loose mean mg mb h₀) (hk : cs.kind = .function) (hd : dp + k < recursionLimit) (hu : un + 8 * k < cLine) (hp : pre news)
    (ret : ∀ r h' tk', Fr h₀ L h' m → News h₀ L h' news → post r → Q r { s with heap := h', toks := tk' }) :
    wpAny (model PySem.Challenge.rw_sc0033_01.row.prog w) (ktrTop dp un gd cn cs L a ccd cl outer) (call (.ref f) vs) Q E s := C _ _ _ _ _ _ _ _ _ _ _ _ _ _ _ _ _ _ _ _ _ _ _ B F X N T hk hd hu hp ret
theorem CNew.use {post : Led → Value → Prop} (C : CNew w k f vs pre post) (B : Below A₀ base outer h₀) (F : Fr h₀ L s.heap m) (X : (Khp w.params).In h₀) (N : News h₀ L s.heap news) (T : Top p loose mean mg mb h₀) (hk : cs.kind = .function) (hd : dp + k < recursionLimit) (hu : un + 8 * k < cLine) (hp : pre news)
    (ret : ∀ r tl h' tk', Fr h₀ L h' m → News h₀ L h' (tl ++ news) → (∀ p ∈ news, ∀ q ∈ tl, p.1 < q.1) → post tl r → Q r { s with heap := h', toks := tk' }) :
    wpAny (model PySem.Challenge.rw_sc0033_01.row.prog w) (ktrTop dp un gd cn cs L a ccd cl outer) (call (.ref f) vs) Q E s := C _ _ _ _ _ _ _ _ _ _ _ _ _ _ _ _ _ _ _ _ _ _ _ B F X N T hk hd hu hp ret
theorem CPure.mono {post post' : Value → Prop} {pre' : Led → Prop} (C : CPure w k f vs pre post) (h1 : ∀ n, pre' n → pre n) (h2 : ∀ r, post r → post' r) : CPure w k f vs pre' post' := by
  unfold CPure at C ⊢
  intro p loose mean mg mb dp un gd cn cs a ccd cl outer A₀ base h₀ L m news s Q E B F X N T hk hdp hun hpre hret
  exact C p loose mean mg mb dp un gd cn cs a ccd cl outer A₀ base h₀ L m news s Q E B F X N T hk hdp hun (h1 _ hpre) fun r h' tk' F' N' hp => hret r h' tk' F' N' (h2 r hp)
end
theorem news_sub {h₀ h : Heap} {L : Addr} {l l' : Led} (N : News h₀ L h l) (hs : ∀ p ∈ l', p ∈ l) : News h₀ L h l' := fun p hp => N p (hs p hp)
end Mine
namespace Mine
/- what stands behind a turn: a next state `c'` -/
inductive TurnEnds {σ : Type} (h₀ : Heap) (L : Addr) (Lg : σ → Led) (ps : σ → List (Str × Value)) (x : Str) (stored : List Str) (m₀ : Str → Option Value) (P : σ → Prop) (own : Led) (s₁ s₂ : Shared) : Prop
  | mk (c : σ) (h' : Heap) (tk : Nat) (m' : Str → Option Value) (news' : Led) (g0 : s₂ = { s₁ with heap := h', toks := tk }) (g1 : Fr h₀ L h' m') (g2 : News h₀ L h' news') (g3 : ∀ p ∈ Lg c, p ∈ news') (g4 : ∀ p ∈ own, p ∈ news') (g5 : TbOff own (Lg c))
    (g6 : ∀ p ∈ ps c, m' p.1 = some p.2) (g7 : ∀ z, z ≠ x → (∀ p ∈ ps c, z ≠ p.1) → stored.contains z = false → m' z = m₀ z) (g8 : P c) : TurnEnds h₀ L Lg ps x stored m₀ P own s₁ s₂
inductive TurnJ {σ : Type} (Lg : σ → Led) (ps : σ → List (Str × Value)) (x : Str) (stored : List Str) (m₀ : Str → Option Value) (P : Nat → σ → Prop) (i : Nat) (m : Str → Option Value) (nx : Led) : Prop
  | mk (c : σ) (g0 : nx = Lg c) (g1 : ∀ p ∈ ps c, m p.1 = some p.2) (g2 : ∀ z, z ≠ x → (∀ p ∈ ps c, z ≠ p.1) → stored.contains z = false → m z = m₀ z) (g3 : P i c) : TurnJ Lg ps x stored m₀ P i m nx
noncomputable def TurnPost {σ : Type} (h₀ : Heap) (L : Addr) (Lg : σ → Led) (ps : σ → List (Str × Value)) (x : Str) (stored : List Str) (m₀ : Str → Option Value) (P : σ → Prop) (own : Led) (s₁ : Shared) (Q : Flow → Shared → Prop) (f : Flow) (s₂ : Shared) : Prop :=
  match f with
  | .ret v => Q (.ret v) s₂
  | .brk => Q .next s₂
  | _ => TurnEnds h₀ L Lg ps x stored m₀ P own s₁ s₂
theorem turn_ends {σ : Type} {h₀ : Heap} {L : Addr} {Lg : σ → Led} {ps : σ → List (Str × Value)} {x : Str} {stored : List Str} {m₀ : Str → Option Value} {P : σ → Prop} {own : Led} {s₁ : Shared} (c : σ) {h' : Heap} {tk : Nat} {m' : Str → Option Value} {news' : Led}
    (F : Fr h₀ L h' m') (N : News h₀ L h' news') (h1 : ∀ p ∈ Lg c, p ∈ news') (h2 : ∀ p ∈ own, p ∈ news') (h3 : TbOff own (Lg c)) (h4 : ∀ p ∈ ps c, m' p.1 = some p.2) (h5 : ∀ z, z ≠ x → (∀ p ∈ ps c, z ≠ p.1) → stored.contains z = false → m' z = m₀ z) (h6 : P c) :
    TurnEnds h₀ L Lg ps x stored m₀ P own s₁ { s₁ with heap := h', toks := tk } := ⟨c, h', tk, m', news', rfl, F, N, h1, h2, h3, h4, h5, h6⟩
section
variable {prog : Program} {w : World} {A : Around} {E : Value → Shared → Prop} {s : Shared} {env : Env} {h₀ : Heap} {x : Str} {body : List Stmt} {Q : Flow → Shared → Prop}
/- a for over a list that stands in the ledger and is not turned by the loop -/
theorem my_for {σ : Type} {l : Addr} {vs : List Value} {nn : Nat} {m₀ : Str → Option Value} (Lg : σ → Led) (ps : σ → List (Str × Value)) (stored : List Str) (P : Nat → σ → Prop) (c₀ : σ)
    (hh : A.handled = none) (hl : ∀ c, (l, listOf vs.toArray nn) ∈ Lg c) (F : Fr h₀ env.locals s.heap m₀) (N : News h₀ env.locals s.heap (Lg c₀)) (hk : ∀ p ∈ ps c₀, m₀ p.1 = some p.2) (hp : P 0 c₀)
    (turn : ∀ (c : σ) i v (u : Str → Option Value) h tk own, vs[i]? = some v → TbOff own (Lg c) → P i c →
      Fr h₀ env.locals h (fun y => if y = x then some v else kstB (fun z => if stored.contains z then u z else m₀ z) (ps c) y) → News h₀ env.locals h (Lg c ++ own) →
      wpAny (model prog w) A (execs body env) (TurnPost h₀ env.locals Lg ps x stored m₀ (P (i + 1)) own { s with heap := h, toks := tk } Q) E { s with heap := h, toks := tk })
    (done : ∀ (c : σ) (u : Str → Option Value) h tk, P vs.length c → Fr h₀ env.locals h (fun y => if y = x then u y else kstB (fun z => if stored.contains z then u z else m₀ z) (ps c) y) → News h₀ env.locals h (Lg c) → Q .next { s with heap := h, toks := tk }) :
    wpAny (model prog w) A (pyIter (.ref l)) (fun it s₂ => LoopAtV prog w A h₀ env x body Q E it s₂) E s := by
  let J := TurnJ Lg ps x stored m₀ P
  refine kdl_iter J hh (hl c₀) F N ⟨c₀, rfl, hk, fun _ _ _ _ => rfl, hp⟩ ?_ ?_
  · intro i v m₁ nx h tk own hv hoff _ hJ F₁ N₁
    obtain ⟨c, rfl, k1, k2, k3⟩ := hJ
    have off : TbOff own (Lg c) := fun p hp q hq => hoff p hp q.1 (List.mem_map.mpr ⟨q, hq, rfl⟩)
    refine wpAny_mono (turn c i v m₁ h tk own hv off k3 (kst_fr k1 k2 F₁) N₁) (fun f s₂ p => ?_) fun _ _ e => e
    have conv : TurnEnds h₀ env.locals Lg ps x stored m₀ (P (i + 1)) own { s with heap := h, toks := tk } s₂ → InvEndG h₀ env.locals (fun m' nx => (l, listOf vs.toArray nn) ∈ nx ∧ J (i + 1) m' nx) own { s with heap := h, toks := tk } s₂ := by
      rintro ⟨c', h', tk', m', news', e, F', N', a1, a2, a3, a4, a5, a6⟩
      refine ⟨h', tk', m', news', Lg c', e, F', N', a1, a2, ?_, hl c', c', rfl, a4, a5, a6⟩
      intro p hp b hb
      obtain ⟨q, hq, rfl⟩ := List.mem_map.mp hb
      exact a3 p hp q hq
    cases f with
    | ret v => exact p
    | brk => exact p
    | next => exact conv p
    | cont => exact conv p
  · intro m₁ nx h tk hJ F₁ N₁
    obtain ⟨c, rfl, k1, k2, k3⟩ := hJ
    exact done c m₁ h tk k3 (kst_frOut k1 k2 F₁) N₁
/- a for over a range by ones -/
theorem my_range {σ : Type} {r : Addr} {a₀ b₀ : Int} {t₀ u₀ v₀ : Tok} {n : Nat} {m₀ : Str → Option Value} (Lg : σ → Led) (ps : σ → List (Str × Value)) (stored : List Str) (P : Nat → σ → Prop) (c₀ : σ)
    (hh : A.handled = none) (hr : IsRange s.heap r a₀ b₀ 1 t₀ u₀ v₀) (hsmall : Builtin.Range.small a₀ b₀ 1 = true) (hn : Builtin.Range.rangeSize a₀ b₀ 1 = (n : Int)) (F : Fr h₀ env.locals s.heap m₀) (N : News h₀ env.locals s.heap (Lg c₀)) (hk : ∀ p ∈ ps c₀, m₀ p.1 = some p.2) (hp : P 0 c₀)
    (turn : ∀ (c : σ) (i : Nat) t (u : Str → Option Value) h tk own, i < n → TbOff own (Lg c) → P i c →
      Fr h₀ env.locals h (fun y => if y = x then some (.int (a₀ + (i : Int)) t) else kstB (fun z => if stored.contains z then u z else m₀ z) (ps c) y) → News h₀ env.locals h (Lg c ++ own) →
      wpAny (model prog w) A (execs body env) (TurnPost h₀ env.locals Lg ps x stored m₀ (P (i + 1)) own { s with heap := h, toks := tk } Q) E { s with heap := h, toks := tk })
    (done : ∀ (c : σ) (u : Str → Option Value) h tk, P n c → Fr h₀ env.locals h (fun y => if y = x then u y else kstB (fun z => if stored.contains z then u z else m₀ z) (ps c) y) → News h₀ env.locals h (Lg c) → Q .next { s with heap := h, toks := tk }) :
    wpAny (model prog w) A (pyIter (.ref r)) (fun it s₂ => LoopAtV prog w A h₀ env x body Q E it s₂) E s := by
  let J := TurnJ Lg ps x stored m₀ P
  refine tbr_invG J hh hr hsmall hn F N ⟨c₀, rfl, hk, fun _ _ _ _ => rfl, hp⟩ ?_ ?_
  · intro i k t m₁ nx h tk own hki hoff hJ F₁ N₁
    obtain ⟨c, rfl, k1, k2, k3⟩ := hJ
    obtain ⟨hi, hke⟩ := List.getElem?_eq_some_iff.mp hki
    rw [rangeKs_length] at hi
    have hk' : k = a₀ + (i : Int) := by rw [← hke]; simp [rangeKs]
    subst hk'
    refine wpAny_mono (turn c i t m₁ h tk own hi hoff k3 (kst_fr k1 k2 F₁) N₁) (fun f s₂ p => ?_) fun _ _ e => e
    have conv : TurnEnds h₀ env.locals Lg ps x stored m₀ (P (i + 1)) own { s with heap := h, toks := tk } s₂ → TbEnd h₀ env.locals (J (i + 1)) own { s with heap := h, toks := tk } s₂ := by
      rintro ⟨c', h', tk', m', news', e, F', N', a1, a2, a3, a4, a5, a6⟩
      exact ⟨h', tk', m', news', Lg c', e, F', N', a1, a2, a3, c', rfl, a4, a5, a6⟩
    cases f with
    | ret v => exact p
    | brk => exact p
    | next => exact conv p
    | cont => exact conv p
  · intro m₁ nx h tk hJ F₁ N₁
    obtain ⟨c, rfl, k1, k2, k3⟩ := hJ
    exact done c m₁ h tk k3 (kst_frOut k1 k2 F₁) N₁
end
end Mine
namespace Mine
open PyProof.Rows.LCg
section
variable {prog : Program} {w : World} {A : Around} {E : Value → Shared → Prop} {s : Shared} {h₀ : Heap} {L : Addr} {m : Str → Option Value} {env : Env}
/- the loop of a comprehension of pairs with one test -/
theorem pair_loop {elt ct iter : Expr} {elts : List Expr} {kk : Nat} {tp : Pos} {scope : Scope} {pos : Pos} {it acc : Value} {R : Result → Shared → Prop} (I : Nat → Shared → Prop)
    (turn : ∀ n s E', I n s → wpAny (model prog w) A (pyNext it) (fun r s₁ => match r with
      | none => R (.ok .next) s₁
      | some v => wpAny (model prog w) A (letOwnedTupleGo (.Tuple elts kk tp) it v) (fun _ s₁' => wpAny (model prog w) A (assign (.Tuple elts kk tp) env v) (fun _ s₂ =>
          wpAny (model prog w) A (isTrue ct env (eval ct env)) (fun ok s₃ =>
            if ok = true then wpAny (model prog w) A (eval elt env) (fun x s₄ => wpAny (model prog w) A (call (.builtin "list.append") [acc, x]) (fun _ s₅ => ∃ m, m < n ∧ I m s₅) E' s₄) E' s₃
            else ∃ m, m < n ∧ I m s₃) E' s₂) E' s₁') E' s₁) E' s)
    (n : Nat) (h : I n s) : codeAny (model prog w) A (.compLoop (.ListComp elt [⟨.Tuple elts kk tp, iter, [ct], 0⟩] scope pos) 0 it acc env) R s := by
  refine codeAny_loop rfl I (fun n s hI => ?_) n h
  show wpAny _ A ((compTurn (.ListComp elt [⟨.Tuple elts kk tp, iter, [ct], 0⟩] scope pos) 0 it acc env).onRaise (fun x => do noteFrame x env; theTreesLotGoes x)) _ _ s
  refine wpAny_noted ?_
  rw [compTurn_list]
  refine wpAny_bind (wpAny_standAt (wpAny_bind (wpAny_mono (turn n s _ hI) (fun r s₁ h₁ => ?_) fun _ _ h' => h')))
  cases r with
  | none => exact wpAny_pure h₁
  | some v =>
    refine wpAny_bind (wpAny_mono h₁ (fun _ s₁' h₁' => ?_) fun _ _ h' => h')
    refine wpAny_bind (wpAny_mono h₁' (fun _ s₂ h₂ => ?_) fun _ _ h' => h')
    refine wpAny_bind (wpAny_tests_one (wpAny_mono h₂ (fun ok s₃ h₃ => ?_) fun _ _ h' => h'))
    cases ok with
    | false => exact wpAny_pure ⟨rfl, h₃⟩
    | true => exact wpAny_bind (wpAny_bind (wpAny_mono h₃ (fun x s₄ h₄ => wpAny_bind (wpAny_mono h₄ (fun _ s₅ h₅ => wpAny_pure (wpAny_pure ⟨rfl, h₅⟩)) fun _ _ h' => h')) fun _ _ h' => h'))

theorem ne_lt {a b : Nat} (h : a < b ∨ b < a) : @Ne Addr a b := fun q => by have q' : @Eq Nat a b := q; (first | lia | omega)
theorem ints_snoc1 {vs : List Value} {ns : List Int} (hi : IntsAre vs ns) (k : Int) (t : Tok) : IntsAre (vs ++ [.int k t]) (ns ++ [k]) := by
  induction hi with
  | nil => exact IntsAre.cons k t IntsAre.nil
  | cons a b _ ih => exact IntsAre.cons a b ih

inductive PI (svs : List Value) (s : Shared) (I C D ax L : Addr) (h₀ : Heap) (m : Str → Option Value) (news : Led) (p : Nat → Bool) (k : Nat) (s' : Shared) : Prop
  | mk (i : Nat) (h : Heap) (tk : Nat) (ys : List Value) (ns : List Int) (oI oC : Obj) (m' : Str → Option Value) (g1 : k = svs.length + 1 - i) (g2 : i ≤ svs.length) (g3 : s' = { s with heap := h, toks := tk }) (g4 : h.IsListIter I ax i) (g5 : NsObj oC m') (g6 : Fr h₀ L h m)
    (g7 : News h₀ L h ((I, oI) :: (C, oC) :: (D, lst ys) :: news)) (g8 : IntsAre ys ns) (g9 : ns = [] ↔ ∀ j < i, p j = false) (g10 : ys.length ≤ i) : PI svs s I C D ax L h₀ m news p k s'
/- a comprehension of ones over pairs, with one test: empty if no pair passes -/
theorem pairs_comp {elt ct iter : Expr} {x x₂ : Str} {px px₂ tp : Pos} {kk : Nat} {scope : Scope} {cl : List (Str × Addr)} {pos : Pos} {Q : Value → Shared → Prop} {ax : Addr} {svs : List Value} {nn : Nat} {news : Led} (p : Nat → Bool) (V : Nat → Value → Value → Prop)
    (hclos : closureFor scope env = pure cl) (hcell : ∀ y ∈ scope.names, y.2 ≠ .cell) (hkind : scope.kind = .function) (hnames : ∀ y ∈ scope.names, y.2 = .local → scope.names.lookup y.1 = some .local)
    (hx : scope.names.lookup x = some .local) (hx₂ : scope.names.lookup x₂ = some .local) (hxx : x ≠ x₂) (hh : A.handled = none) (hsz : svs.length ≤ sizeLine)
    (F : Fr h₀ L s.heap m) (N : News h₀ L s.heap news) (hax : (ax, listOf svs.toArray nn) ∈ news)
    (hT : ∀ i v, svs[i]? = some v → ∃ T oT nt x1 x2, v = .ref T ∧ (T, oT) ∈ news ∧ oT.cls = .type "tuple" ∧ oT.data = .seq #[x1, x2] nt ∧ V i x1 x2)
    (hiter : ∀ Q' : Value → Shared → Prop, Q' (.ref ax) s → wpAny (model prog w) A (eval iter env) Q' E s)
    (test : ∀ i x1 x2 C I D h tk oI oC ys m' E', i < svs.length → V i x1 x2 → NsObj oC m' → m' x = some x1 → m' x₂ = some x2 → Fr h₀ L h m → News h₀ L h ((I, oI) :: (C, oC) :: (D, lst ys) :: news) →
      wpAny (model prog w) A (isTrue ct (compEnvC scope cl C env) (eval ct (compEnvC scope cl C env))) (fun ok s' => ok = p i ∧ ∃ h' tk', s' = { s with heap := h', toks := tk' } ∧ Fr h₀ L h' m ∧ News h₀ L h' ((I, oI) :: (C, oC) :: (D, lst ys) :: news)) E' { s with heap := h, toks := tk })
    (one : ∀ C h tk E' (Q' : Value → Shared → Prop), (∀ tk' t, Q' (.int 1 t) { s with heap := h, toks := tk' }) → wpAny (model prog w) A (eval elt (compEnvC scope cl C env)) Q' E' { s with heap := h, toks := tk })
    (fin : ∀ D ys ns h tk, IntsAre ys ns → (ns = [] ↔ ∀ i < svs.length, p i = false) → Fr h₀ L h m → News h₀ L h ((D, lst ys) :: news) → (∀ q ∈ news, q.1 < D) → Q (.ref D) { s with heap := h, toks := tk })
    (hs : ∀ x, foldedSetIterable iter env x = pure x := by intro _; rfl) :
    wpAny (model prog w) A (eval (.ListComp elt [⟨.Tuple [.Name x px, .Name x₂ px₂] kk tp, iter, [ct], 0⟩] scope pos) env) Q E s := by
  rw [eval_ListComp]
  refine wpAny_comprehension_free (use := none) rfl hs hclos hkind hnames (hiter _ ?_)
  have hl : s.heap.IsList ax svs.toArray := ⟨_, (N _ hax).1, rfl, _, rfl⟩
  refine wpAny_pyIter_list hl ?_
  generalize hI : s.heap.objs.size = I
  have oldI : ∀ (b : Nat) o, s.heap.get? b = some o → b < I := fun b o e => hI ▸ Heap.lt_size e
  refine wpAny_newObj_type (wpAny_newFunctionEnv hcell (by intro y hy; simp at hy) (fun h₁ hns₁ hsb₁ => ?_) hkind)
  dsimp only at hns₁ hsb₁ ⊢
  generalize hH1 : s.heap.push { cls := .type "list_iterator", data := .fields #[.ref ax, .int 0 0] } = H1 at hns₁ hsb₁ ⊢
  generalize hD : H1.objs.size = D at hns₁ hsb₁ ⊢
  have eD : D = I + 1 := by rw [← hD, ← hH1, Heap.size_push, hI]
  generalize hH2 : H1.push { cls := .type "list", dict := none, data := .seq ([] : List Value).toArray } = H2 at hns₁ hsb₁ ⊢
  generalize hC : H2.objs.size = C at hns₁ hsb₁ ⊢
  have eC : C = D + 1 := by rw [← hC, ← hH2, Heap.size_push, hD]
  have oI : H1.get? I = some { cls := .type "list_iterator", data := .fields #[.ref ax, .int 0 0] } := by rw [← hH1, ← hI]; exact Heap.get?_push_size _ rfl
  have oI2 : h₁.get? I = some { cls := .type "list_iterator", data := .fields #[.ref ax, .int 0 0] } := hsb₁.extBut I _ (Nat.ne_of_lt (by first | lia | omega)) (Heap.get?_push_of_some _ (by rw [← hH2]; exact Heap.get?_push_of_some _ oI))
  have oD2 : h₁.get? D = some (lst []) := hsb₁.extBut D _ (Nat.ne_of_lt (by first | lia | omega)) (Heap.get?_push_of_some _ (by rw [← hH2, ← hD]; exact Heap.get?_push_size _ rfl))
  have old : ∀ b o, s.heap.get? b = some o → h₁.get? b = some o := fun b o e => hsb₁.extBut b o (Nat.ne_of_lt (by have := oldI b o e; (first | lia | omega))) (Heap.get?_push_of_some _ (by rw [← hH2]; exact Heap.get?_push_of_some _ (by rw [← hH1]; exact Heap.get?_push_of_some _ e)))
  have h₀I : ∀ (b : Nat), I ≤ b → h₀.get? b = none := fun b hb => by
    cases e : h₀.get? b with
    | none => rfl
    | some o => exact absurd (oldI b o (F.keep _ _ e)) (Nat.not_lt.mpr hb)
  have hLI : @LT.lt Nat _ L I := hI ▸ F.ns.lt
  have hnI : ∀ q ∈ news, @LT.lt Nat _ q.1 I := fun q hq => oldI _ _ (N q hq).1
  show let G9 : Prop := _; G9
  intro G9
  obtain ⟨oC, heC, hoC⟩ := ns_obj hns₁
  k_unfold
  have W := Walks.list (prog := prog) (w := w) hh I ax (Nat.ne_of_lt (hnI _ hax)) svs.toArray
  have loop : ∀ s₃ : Shared, s₃ = { s with heap := h₁, toks := s.toks + ([] : List (Str × Value)).length } →
      codeAny (model prog w) A (.compLoop (.ListComp elt [⟨.Tuple [.Name x px, .Name x₂ px₂] kk tp, iter, [ct], 0⟩] scope pos) 0 (.ref I) (.ref D) (compEnvC scope cl C env)) (compPost (model prog w) A E none Q (.ref D) C) s₃ := by
    rintro s₃ rfl
    refine pair_loop (PI svs s I C D ax L h₀ m news p) ?_ (svs.length + 1)
      ⟨0, h₁, _, [], [], ({ cls := .type "list_iterator", data := .fields #[.ref ax, .int 0 0] } : Obj), oC, _, rfl, Nat.zero_le _, rfl, ⟨_, oI2, rfl, rfl⟩, hoC, F.keeps old, ?_, .nil, ⟨fun _ j hj => absurd hj (Nat.not_lt_zero _), fun _ => rfl⟩, Nat.le_refl _⟩
    · intro k s' E' hPI
      show let G9 : Prop := _; G9
      intro G9
      obtain ⟨i, h, tk, ys, ns, oI', oC', m', rfl, hi, rfl, hit, hoC', F', N', hy, hns, hyl⟩ := hPI
      k_unfold
      have hl' : h.IsList ax svs.toArray := ⟨_, (N' _ (List.mem_cons_of_mem _ (List.mem_cons_of_mem _ (List.mem_cons_of_mem _ hax)))).1, rfl, _, rfl⟩
      by_cases hlt : i < svs.length
      · refine W.item i _ _ _ (by simpa using hlt) ⟨hit, hl'⟩ fun v h₂ tk₂ hPv hst₂ hk₂ => ?_
        show let G9 : Prop := _; G9
        intro G9
        obtain ⟨T, oT, nt, x1, x2, rfl, hmT, hcT, hdT, hV⟩ := hT i v (by simpa using hPv)
        k_unfold
        have hT₂ : h₂.get? T = some oT := hk₂ _ _ (by simpa using ne_lt (by have := hnI _ hmT; (first | lia | omega))) (N' (T, oT) (List.mem_cons_of_mem _ (List.mem_cons_of_mem _ (List.mem_cons_of_mem _ hmT)))).1
        refine wpAny_letOwnedTupleGo_listiter hst₂.1 ?_
        refine assign_Tuple_tuple hh ⟨oT, hT₂, hcT, nt, hdT⟩ rfl rfl fun h₅ he => ?_
        have he' : ∀ b o, h₂.get? b = some o → h₅.get? b = some o := fun b o e => he b o (Nat.ne_of_lt (Heap.lt_size e)) e
        have zC := (N' (C, oC') (by simp)).1
        have hC2 : h₅.Ns C m' := hoC'.ns (he' _ _ (hk₂ _ _ (by simpa using ne_lt (by first | lia | omega)) zC))
        refine assignInOrder_cons (wpAny_assign_Name (wpAny_storeName_local (lookup_relabel_local hx) hC2 (fun h₆ hn₆ hs₆ => ?_) (by simp [compEnvC, relabel, hkind])))
        refine assignInOrder_cons (wpAny_assign_Name (wpAny_storeName_local (lookup_relabel_local hx₂) hn₆ (fun h₇ hn₇ hs₇ => ?_) (by simp [compEnvC, relabel, hkind])))
        refine assignInOrder_nil ?_
        have up : ∀ b o, b ≠ I → b ≠ C → h.get? b = some o → h₇.get? b = some o := fun b o b1 b2 e => hs₇.extBut b o b2 (hs₆.extBut b o b2 (he' b o (hk₂ b o (by simpa using b1) e)))
        show let G9 : Prop := _; G9
        intro G9
        obtain ⟨oC₇, heC₇, hoC₇⟩ := ns_obj hn₇
        k_unfold
        show let G9 : Prop := _; G9
        intro G9
        obtain ⟨oI₂, heI₂, hcI₂, hdI₂⟩ := hst₂.1
        k_unfold
        have heI₇ : h₇.get? I = some oI₂ := hs₇.extBut I _ (show @Ne Addr I C from ne_lt (by first | lia | omega)) (hs₆.extBut I _ (show @Ne Addr I C from ne_lt (by first | lia | omega)) (he' _ _ heI₂))
        have F₇ : Fr h₀ L h₇ m := ⟨F'.ns.at' fun o e => up _ o (ne_lt (by first | lia | omega)) (ne_lt (by first | lia | omega)) e, fun b o e => up b o (fun q => by rw [q, h₀I I (Nat.le_refl _)] at e; cases e) (fun q => by rw [q, h₀I C (by first | lia | omega)] at e; cases e) (F'.keep b o e), F'.above⟩
        have N₇ : News h₀ L h₇ ((I, oI₂) :: (C, oC₇) :: (D, lst ys) :: news) :=
          alC ⟨heI₇, ne_lt (by first | lia | omega), h₀I I (Nat.le_refl _)⟩ (alC ⟨heC₇, ne_lt (by first | lia | omega), h₀I C (by first | lia | omega)⟩ (fun q hq => by
              have z := N' q (List.mem_cons_of_mem _ (List.mem_cons_of_mem _ hq))
              have hq' : @LT.lt Nat _ q.1 C ∧ q.1 ≠ I := alC (P := fun q : Addr × Obj => @LT.lt Nat _ q.1 C ∧ q.1 ≠ I) ⟨by show D < C; (first | lia | omega), ne_lt (by first | lia | omega)⟩ (fun q hq => by have := hnI _ hq; exact ⟨by first | lia | omega, ne_lt (by first | lia | omega)⟩) q hq
              exact ⟨up _ _ hq'.2 (ne_lt (by first | lia | omega)) z.1, z.2⟩))
        refine wpAny_mono (test i x1 x2 C I D h₇ _ oI₂ oC₇ ys _ E' hlt hV hoC₇ (by simp [hxx]) (by simp) F₇ N₇) (fun ok s₃ h₃ => ?_) fun _ _ e => e
        show let G9 : Prop := _; G9
        intro G9
        obtain ⟨hok, h₈, tk₈, rfl, F₈, N₈⟩ := h₃
        k_unfold
        have hI₈ : h₈.IsListIter I ax (i + 1) := ⟨oI₂, (N₈ (I, oI₂) (by simp)).1, hcI₂, hdI₂⟩
        by_cases hp : p i = true
        · rw [hok, if_pos hp]
          refine one C h₈ tk₈ E' _ fun tk₉ t => ?_
          have zD := (N₈ (D, lst ys) (by simp)).1
          refine append_at (hsz := by show ys.toArray.size ≤ sizeLine; rw [List.size_toArray]; exact Nat.le_trans hyl (Nat.le_trans hi hsz)) zD fun h₉ hs₉ hD₉ => ?_
          refine ⟨svs.length + 1 - (i + 1), by first | lia | omega, i + 1, h₉, _, ys ++ [.int 1 t], ns ++ [1], oI₂, oC₇, _, rfl, hlt, rfl, hI₈.at fun o e => hs₉.extBut _ o (ne_lt (by first | lia | omega)) e, hoC₇, F₈.change hs₉ (ne_lt (by first | lia | omega)) (h₀I D (by first | lia | omega)), fun q hq => ?_, ints_snoc1 hy 1 t, ⟨fun q => by simp at q, fun q => absurd (q i (Nat.lt_succ_self _)) (by simp [hp])⟩, by simp; (first | lia | omega)⟩
          · by_cases hqD : q.1 = D
            · have hq' : q = (D, lst (ys ++ [.int 1 t])) := by
                rcases List.mem_cons.mp hq with rfl | hq
                · exact absurd hqD (ne_lt (by first | lia | omega))
                · rcases List.mem_cons.mp hq with rfl | hq
                  · exact absurd hqD (ne_lt (by first | lia | omega))
                  · rcases List.mem_cons.mp hq with rfl | hq
                    · rfl
                    · exact absurd hqD (ne_lt (by have := hnI _ hq; (first | lia | omega)))
              subst hq'
              exact ⟨hD₉.trans (congrArg some (lst_snoc ys _)), ne_lt (by first | lia | omega), h₀I D (by first | lia | omega)⟩
            · have hq' : q ∈ (I, oI₂) :: (C, oC₇) :: (D, lst ys) :: news := by
                rcases List.mem_cons.mp hq with rfl | hq
                · simp
                · rcases List.mem_cons.mp hq with rfl | hq
                  · simp
                  · rcases List.mem_cons.mp hq with rfl | hq
                    · exact absurd rfl hqD
                    · simp [hq]
              exact ⟨hs₉.extBut _ _ hqD (N₈ q hq').1, (N₈ q hq').2⟩
        · have hp' : p i = false := by simpa using hp
          rw [hok, if_neg hp]
          refine ⟨svs.length + 1 - (i + 1), by first | lia | omega, i + 1, h₈, _, ys, ns, oI₂, oC₇, _, rfl, hlt, rfl, hI₈, hoC₇, F₈, N₈, hy, hns.trans ⟨fun q j hj => ?_, fun q j hj => q j (Nat.lt_succ_of_lt hj)⟩, Nat.le_succ_of_le hyl⟩
          rcases Nat.lt_succ_iff_lt_or_eq.mp hj with h | rfl
          · exact q j h
          · exact hp'
      · obtain rfl : i = svs.length := Nat.le_antisymm hi (Nat.not_lt.mp hlt)
        refine W.done _ _ _ ⟨by simpa using hit, hl'⟩ fun h₂ tk₂ hk₂ => ?_
        have up : ∀ b o, b ≠ I → h.get? b = some o → h₂.get? b = some o := fun b o hb e => hk₂ b o (by simpa using hb) e
        refine ⟨m', (hoC'.ns (up C _ (ne_lt (by first | lia | omega)) (N' (C, oC') (by simp)).1)), fun h₃ hs₃ => ?_⟩
        refine fin D ys ns h₃ _ hy hns ?_ ?_ (fun q hq => Nat.lt_trans (hnI q hq) (by first | lia | omega))
        · have F₂ : Fr h₀ L h₂ m := ⟨F'.ns.at' fun o e => up _ o (ne_lt (by first | lia | omega)) e, fun b o e => up b o (fun q => by rw [q, h₀I I (Nat.le_refl _)] at e; cases e) (F'.keep b o e), F'.above⟩
          exact F₂.change hs₃ (ne_lt (by first | lia | omega)) (h₀I C (by first | lia | omega))
        · intro q hq
          have z := N' q (List.mem_cons_of_mem _ (List.mem_cons_of_mem _ hq))
          have hq' : q.1 ≠ C ∧ q.1 ≠ I := by
            rcases List.mem_cons.mp hq with rfl | hq
            · exact ⟨ne_lt (by first | lia | omega), ne_lt (by first | lia | omega)⟩
            · have := hnI _ hq; exact ⟨ne_lt (by first | lia | omega), ne_lt (by first | lia | omega)⟩
          exact ⟨hs₃.extBut _ _ hq'.1 (up _ _ hq'.2 z.1), z.2⟩
    · exact alC ⟨oI2, ne_lt (by first | lia | omega), h₀I I (Nat.le_refl _)⟩ (alC ⟨heC, ne_lt (by first | lia | omega), h₀I C (by first | lia | omega)⟩ (alC ⟨oD2, ne_lt (by first | lia | omega), h₀I D (by first | lia | omega)⟩ (fun q hq => ⟨old _ _ (N q hq).1, (N q hq).2⟩)))
  exact codeAny_compStart_list (loop _ rfl) (W.self 0 _ _ _ ⟨⟨_, oI2, rfl, rfl⟩, ⟨_, old _ _ (N _ hax).1, rfl, _, rfl⟩⟩ (loop _ rfl))
end
end Mine
namespace Mine
/- the range iterator -/
abbrev riObj (c r : Int) : Obj := { cls := .type "range_iterator", data := .fields #[rawInt c, rawInt r, rawInt 1] }
section
variable {prog : Program} {w : World} {A : Around} {E : Value → Shared → Prop} {s : Shared} {L : Addr} {env : Env} {target : Expr} {body : List Stmt} {Q : Flow → Shared → Prop}
/- where a turn of a raw loop over a range must end -/
inductive RT0 {σ : Type} (G : σ → Heap) (Lg : σ → Led) (P : Nat → σ → (Str → Option Value) → Prop) (L : Addr) (s : Shared) (it : Addr) (o : Obj) (i : Nat) (s₃ : Shared) : Prop
  | mk (c : σ) (h : Heap) (tk : Nat) (m : Str → Option Value) (g1 : s₃ = { s with heap := h, toks := tk }) (g2 : Fr (G c) L h m) (g3 : News (G c) L h ((it, o) :: Lg c)) (g4 : ∀ p ∈ Lg c, p.1 ≠ it) (g5 : P i c m) : RT0 G Lg P L s it o i s₃
structure RTurn {σ : Type} (G : σ → Heap) (Lg : σ → Led) (P : Nat → σ → (Str → Option Value) → Prop) (L : Addr) (s : Shared) (it : Addr) (o : Obj) (i : Nat) (s₃ : Shared) : Prop where
  out : RT0 G Lg P L s it o i s₃
inductive RI {σ : Type} (G : σ → Heap) (Lg : σ → Led) (P : Nat → σ → (Str → Option Value) → Prop) (L : Addr) (s : Shared) (I : Addr) (a₀ : Int) (n : Nat) (k : Nat) (s' : Shared) : Prop
  | mk (i : Nat) (c : σ) (h : Heap) (tk : Nat) (m : Str → Option Value) (g0 : k = n + 1 - i) (g1 : i ≤ n) (g2 : s' = { s with heap := h, toks := tk }) (g3 : Fr (G c) L h m) (g4 : News (G c) L h ((I, riObj (a₀ + (i : Int)) ((n : Int) - (i : Int))) :: Lg c)) (g5 : ∀ p ∈ Lg c, p.1 ≠ I) (g6 : P i c m) : RI G Lg P L s I a₀ n k s'
/- a for over a range by ones, any target, the ground may change -/
theorem raw_range {σ : Type} {r : Addr} {a₀ b₀ : Int} {t₀ u₀ v₀ : Tok} {n : Nat} {m₀ : Str → Option Value} (G : σ → Heap) (Lg : σ → Led) (P : Nat → σ → (Str → Option Value) → Prop) (c₀ : σ)
    (hh : A.handled = none) (hr : IsRange s.heap r a₀ b₀ 1 t₀ u₀ v₀) (hsmall : Builtin.Range.small a₀ b₀ 1 = true) (hn : Builtin.Range.rangeSize a₀ b₀ 1 = (n : Int)) (F : Fr (G c₀) L s.heap m₀) (N : News (G c₀) L s.heap (Lg c₀)) (hp : P 0 c₀ m₀)
    (turn : ∀ it i c m h tk t E', i < n → P i c m → Fr (G c) L h m → News (G c) L h ((it, riObj (a₀ + ((i + 1 : Nat) : Int)) ((n : Int) - ((i + 1 : Nat) : Int))) :: Lg c) → (∀ p ∈ Lg c, p.1 ≠ it) →
      wpAny (model prog w) A (assign target env (.int (a₀ + (i : Int)) t)) (fun _ s₂ => wpAny (model prog w) A (execs body env) (fun f s₃ => match f with
        | .next => RTurn G Lg P L s it (riObj (a₀ + ((i + 1 : Nat) : Int)) ((n : Int) - ((i + 1 : Nat) : Int))) (i + 1) s₃
        | .cont => RTurn G Lg P L s it (riObj (a₀ + ((i + 1 : Nat) : Int)) ((n : Int) - ((i + 1 : Nat) : Int))) (i + 1) s₃
        | .brk => Q .next s₃ | .ret v => Q (.ret v) s₃) E' s₂) E' { s with heap := h, toks := tk })
    (done : ∀ c m h tk, P n c m → Fr (G c) L h m → News (G c) L h (Lg c) → Q .next { s with heap := h, toks := tk })
    (ht : ∀ it v, letOwnedTupleGo target it v = pure () := by intro _ _; rfl) :
    wpAny (model prog w) A (pyIter (.ref r)) (fun it s₂ => codeAny (model prog w) A (.forLoop target it body [] env) (fun r s' => match r with | .ok f => Q f s' | .error e => cameBackBy (model prog w) A env E e s') s₂) E s := by
  refine wpAny_pyIter_range hr hsmall ?_
  generalize hI : s.heap.objs.size = I
  have oI : (s.heap.push (riObj a₀ n)).get? I = some (riObj a₀ n) := by rw [← hI]; exact Heap.get?_push_size _ rfl
  have up : ∀ b o, s.heap.get? b = some o → (s.heap.push (riObj a₀ n)).get? b = some o := fun b o e => Heap.get?_push_of_some _ e
  rw [hn]
  have fresh : ∀ g : Heap, (∀ b o, g.get? b = some o → s.heap.get? b = some o) → g.get? I = none := fun g k => by
    cases e : g.get? I with
    | none => rfl
    | some o => exact absurd (hI ▸ Heap.lt_size (k I o e)) (Nat.lt_irrefl _)
  refine codeAny_forLoop (RI G Lg P L s I a₀ n) ?_ (n + 1)
    ⟨0, c₀, _, s.toks, m₀, rfl, Nat.zero_le _, rfl, F.keeps up, ?_, fun p hp => hI ▸ Nat.ne_of_lt (Heap.lt_size (N p hp).1), hp⟩ (ht _)
  · intro k s' hRI
    show let G9 : Prop := _; G9
    intro G9
    obtain ⟨i, c, h, tk, m, rfl, hi, rfl, F', N', off, hP⟩ := hRI
    k_unfold
    have zI := N' _ (List.mem_cons_self)
    have hIL : I ≠ L := zI.2.1
    by_cases hlt : i < n
    · refine wpAny_pyNext_range_item (it := I) (x := a₀ + (i : Int)) (left := (n : Int) - (i : Int)) (step := 1) zI.1 (by omega) fun h₂ hi₂ hs₂ => ?_
      have e1 : (riObj (a₀ + (i : Int) + 1) ((n : Int) - (i : Int) - 1)) = riObj (a₀ + ((i + 1 : Nat) : Int)) ((n : Int) - ((i + 1 : Nat) : Int)) := by
        rw [show a₀ + (i : Int) + 1 = a₀ + ((i + 1 : Nat) : Int) by omega, show (n : Int) - (i : Int) - 1 = (n : Int) - ((i + 1 : Nat) : Int) by omega]
      have N₂ : News (G c) L h₂ ((I, riObj (a₀ + ((i + 1 : Nat) : Int)) ((n : Int) - ((i + 1 : Nat) : Int))) :: Lg c) := fun q hq => by
        rcases List.mem_cons.mp hq with rfl | hq
        · exact ⟨e1 ▸ hi₂, hIL, zI.2.2⟩
        · exact ⟨hs₂.extBut _ _ (off q hq) (N' q (List.mem_cons_of_mem _ hq)).1, (N' q (List.mem_cons_of_mem _ hq)).2⟩
      have F₂ : Fr (G c) L h₂ m := F'.change hs₂ hIL zI.2.2
      refine wpAny_mono (turn I i c m h₂ _ _ _ hlt hP F₂ N₂ off) (fun _ s₂ h₂' => wpAny_mono h₂' (fun f s₃ h₃ => ?_) fun _ _ e => e) fun _ _ e => e
      have conv : RTurn G Lg P L s I (riObj (a₀ + ((i + 1 : Nat) : Int)) ((n : Int) - ((i + 1 : Nat) : Int))) (i + 1) s₃ → ∃ m_1, m_1 < n + 1 - i ∧ RI G Lg P L s I a₀ n m_1 s₃ := by
        rintro ⟨c', h', tk', m', e, F₃, N₃, off₃, hP₃⟩
        exact ⟨n + 1 - (i + 1), by omega, i + 1, c', h', tk', m', rfl, hlt, e, F₃, N₃, off₃, hP₃⟩
      cases f with
      | ret v => exact h₃
      | brk => exact h₃
      | next => exact conv h₃
      | cont => exact conv h₃
    · obtain rfl : i = n := Nat.le_antisymm hi (Nat.not_lt.mp hlt)
      refine wpAny_pyNext_range_end (it := I) hh zI.1 (by omega) fun h₂ hs₂ => ?_
      refine wpAny_execs_nil (done c m h₂ _ hP ⟨F'.ns.at' fun o e => hs₂ _ o hIL.symm e, fun b o e => hs₂ b o (fun q => by rw [q, zI.2.2] at e; cases e) (F'.keep b o e), F'.above⟩ fun q hq => ?_)
      exact ⟨hs₂ _ _ (off q hq) (N' q (List.mem_cons_of_mem _ hq)).1, (N' q (List.mem_cons_of_mem _ hq)).2⟩
  · intro q hq
    rcases List.mem_cons.mp hq with rfl | hq
    · refine ⟨by simpa using oI, fun q => ?_, fresh _ F.keep⟩
      have := F.ns.lt
      rw [← q, hI] at this
      exact Nat.lt_irrefl _ this
    · exact ⟨up _ _ (N q hq).1, (N q hq).2⟩
end
end Mine
namespace Mine
theorem slot_ci_next : Slot "callable_iterator" "__next__" "callable_iterator.__next__" :=
  .of (owner := "callable_iterator") (n := "__next__") (by rw [typeLookup_type, builtinLookup_eq_fast]; kernel_rfl) (by decide +kernel) (by decide +kernel) (by decide +kernel)
    (by first | exact .inl (by decide +kernel) | exact .inr (by decide +kernel)) (by rw [isSubtype_type]; kernel_rfl)
theorem slot_ci_iter : Slot "callable_iterator" "__iter__" "callable_iterator.__iter__" :=
  .of (owner := "callable_iterator") (n := "__iter__") (by rw [typeLookup_type, builtinLookup_eq_fast]; kernel_rfl) (by decide +kernel) (by decide +kernel) (by decide +kernel)
    (by first | exact .inl (by decide +kernel) | exact .inr (by decide +kernel)) (by rw [isSubtype_type]; kernel_rfl)
theorem entry_ci_next : entryFor table "callable_iterator.__next__" = some Builtin.«callable_iterator.__next__» := entryFor_of_fast (by kernel_rfl)
theorem args_ci_next (a : Value) : argsOk "callable_iterator.__next__" ⟨[a], []⟩ := by unfold argsOk; kernel_rfl
theorem args_ci_iter (a : Value) : argsOk "callable_iterator.__iter__" ⟨[a], []⟩ := by unfold argsOk; kernel_rfl
section
variable {prog : Program} {w : World} {A : Around} {E : Value → Shared → Prop} {s : Shared}
theorem wpAny_callBorrowed {f : Value} {pos : List Value} {Q : Value → Shared → Prop} (h : wpAny (model prog w) A (call f pos) Q E s) : wpAny (model prog w) A (callBorrowed f pos) Q E s := fun Γ p hΓ => by
  have z := h Γ p hΓ
  unfold call at z
  rw [Sem.wp_runValue] at z
  show Sem.wp _ _ _ _ _ _ _
  unfold callBorrowed
  rw [Sem.wp_call]
  refine (congrArg (fun g => wpCode (model prog w) (Γ.enter _ none p) g p s) (funext fun r => funext fun s' => ?_)).mp z
  cases r with
  | error e => rfl
  | ok f => cases f <;> rfl

abbrev ciObj (f sent : Value) (b : Bool) : Obj := { cls := .type "callable_iterator", data := .fields #[f, sent, .bool b] }
theorem entry_ci_iter : entryFor table "callable_iterator.__iter__" = some Builtin.«dict_keyiterator.__iter__» :=
  entryFor_alias (id' := "dict_keyiterator.__iter__") (by kernel_rfl) rfl (by decide +kernel) (by kernel_rfl)
theorem ci_self {it : Addr} {f sent : Value} {b : Bool} {Q : Value → Shared → Prop} (hit : s.heap.get? it = some (ciObj f sent b)) (h : Q (.ref it) s) : wpAny (model prog w) A (pyIter (.ref it)) Q E s := by
  have hT : s.TypeIs (.ref it) "callable_iterator" := ⟨_, hit, rfl⟩
  refine wpAny_pyIter_slot hT slot_ci_iter (wpAny_call_entry slot_ci_iter hT entry_ci_iter ?_ (args_ci_iter _))
  show wpAny _ _ (ret (.ref it)) _ _ s
  exact wpAny_pure ⟨_, rfl, "callable_iterator", _, hT, slot_ci_next.lookup, h⟩
theorem stop_here {α : Type} {B : Around} {R : α → Shared → Prop} (hh : B.handled = none)
    (h : ∀ e h', (∀ b o, s.heap.get? b = some o → h'.get? b = some o) → Shared.TypeIs { s with heap := h' } e "StopIteration" → E e { s with heap := h' }) :
    wpAny (model prog w) B (Builtin.SmallTypes.stopIteration : Sem α) R E s := by
  unfold Builtin.SmallTypes.stopIteration
  show wpAny _ _ (newExc (.type "StopIteration") [] >>= _) _ _ _
  refine wpAny_bind ?_
  simp only [newExc, newTuple]
  refine wpAny_bind (wpAny_newObj_type ?_ (by size_fits))
  refine wpAny_bind (m := firstArgMember _ _) (wpAny_of_eq (a := Value.none) (by first | rfl | (simp only [firstArgMember]; rfl)) ?_)
  refine wpAny_newObj_type ?_ (by size_fits)
  simp only [raiseNew]
  refine wpAny_bind (wpAny_handled ?_)
  rw [hh]
  refine wpAny_bind (wpAny_pure (wpAny_throw ?_))
  exact h _ _ (fun b o e => Heap.get?_push_of_some _ (Heap.get?_push_of_some _ e)) ⟨_, Heap.get?_push_size _ rfl, rfl⟩
theorem ci_ended {it : Addr} {Q : Option Value → Shared → Prop} (hh : A.handled = none) (hit : s.heap.get? it = some (ciObj .none .none true))
    (hQ : ∀ h', (∀ b o, s.heap.get? b = some o → h'.get? b = some o) → Q none { s with heap := h' }) : wpAny (model prog w) A (pyNext (.ref it)) Q E s := by
  have hT : s.TypeIs (.ref it) "callable_iterator" := ⟨_, hit, rfl⟩
  unfold pyNext
  refine wpAny_bind (wpAny_attempt (wpAny_callSpecial?_slot (name := Str.ofString "__next__") hT slot_ci_next
    (wpAny_call_entry slot_ci_next hT entry_ci_next ?_ (args_ci_next _))))
  show wpAny _ _ (field (.ref it) 2 >>= _) _ _ s
  refine wpAny_bind (wpAny_field hit rfl (x := .bool true) rfl ?_)
  refine wpAny_bind ?_
  refine wpAny_bind (wpAny_rule ?_)
  refine wpAny_pure ?_
  refine wpAny_bind (stop_here hh fun e h' hk hT' => ?_)
  refine wpAny_bind (wpAny_isInstance (T := "StopIteration") (b := true) hT' isSubtype_stop ?_)
  exact wpAny_pure (hQ h' hk)
theorem borrows_method {mo fr : Addr} {self : Value} {o : Obj} {fd : FuncData} {Q : Bool → Shared → Prop} (hmo : s.heap.get? mo = some (methodObj (.ref fr) self)) (hf : s.heap.get? fr = some o) (hd : o.data = .func fd) (h : Q true s) : wpAny (model prog w) A (borrowsExactly (.ref mo)) Q E s := by
  unfold borrowsExactly
  refine wpAny_bind (wpAny_load hmo ?_)
  show wpAny _ _ (load fr >>= _) _ _ s
  refine wpAny_bind (wpAny_load hf ?_)
  rw [hd]
  exact wpAny_pure h
theorem ci_item {it mo fr : Addr} {self : Value} {t0 : Tok} {o : Obj} {fd : FuncData} {Q : Option Value → Shared → Prop} (hh : A.handled = none) (hit : s.heap.get? it = some (ciObj (.ref mo) (.str (Str.ofString "") t0) false))
    (hmo : s.heap.get? mo = some (methodObj (.ref fr) self)) (hf : s.heap.get? fr = some o) (hd : o.data = .func fd)
    (hcall : codeAny (model prog w) A.in1 (.call (.ref fr) ⟨[self], []⟩) (fun r s' => match r with
      | .ok (.ret v) => ∃ x t, v = .str x t ∧ s'.heap.get? it = some (ciObj (.ref mo) (.str (Str.ofString "") t0) false) ∧ s'.heap.get? mo = some (methodObj (.ref fr) self) ∧ s'.heap.get? fr = some o ∧
          (x ≠ Str.ofString "" → Q (some (.str x t)) s') ∧ (x = Str.ofString "" → ∀ h', h'.get? it = some (ciObj .none .none true) → (∀ b o, b ≠ it → s'.heap.get? b = some o → h'.get? b = some o) → Q none { s' with heap := h' })
      | .ok _ => False | .error _ => False) s) : wpAny (model prog w) A (pyNext (.ref it)) Q E s := by
  have hT : s.TypeIs (.ref it) "callable_iterator" := ⟨_, hit, rfl⟩
  unfold pyNext
  refine wpAny_bind (wpAny_attempt (wpAny_callSpecial?_slot (name := Str.ofString "__next__") hT slot_ci_next
    (wpAny_call_entry slot_ci_next hT entry_ci_next ?_ (args_ci_next _))))
  show wpAny _ _ (field (.ref it) 2 >>= _) _ _ s
  refine wpAny_bind (wpAny_field hit rfl (x := .bool false) rfl ?_)
  show wpAny _ _ (field (.ref it) 0 >>= _) _ _ s
  refine wpAny_bind (wpAny_field hit rfl (x := .ref mo) rfl ?_)
  refine wpAny_bind (wpAny_attempt ?_)
  unfold callOutOfASlot
  refine wpAny_bind (borrows_method hmo hf hd ?_)
  show wpAny _ _ (callBorrowed (.ref mo) []) _ _ s
  refine wpAny_callBorrowed (wpAny_call (method_call hmo (codeAny_mono hcall fun r s' hr => ?_)))
  cases r with
  | error e => exact False.elim hr
  | ok fl =>
    cases fl with
    | next => exact False.elim hr
    | brk => exact False.elim hr
    | cont => exact False.elim hr
    | ret v =>
      obtain ⟨x, t, e, hit', hmo', hf', h1, h2⟩ := hr
      subst e
      show wpAny _ _ (field (.ref it) 2 >>= _) _ _ s'
      refine wpAny_bind (wpAny_field hit' rfl (x := .bool false) rfl ?_)
      show wpAny _ _ (field (.ref it) 1 >>= _) _ _ s'
      refine wpAny_bind (wpAny_field hit' rfl (x := .str (Str.ofString "") t0) rfl ?_)
      refine wpAny_bind (wpAny_holding (eqBool_str ?_))
      by_cases hx : x = Str.ofString ""
      · have hb : (Str.ofString "" == x) = true := by rw [hx]; exact beq_self_eq_true _
        rw [hb]
        refine wpAny_bind (wpAny_rule ?_)
        refine wpAny_bind ?_
        show wpAny _ _ (field (.ref it) 0 >>= _) _ _ s'
        refine wpAny_bind (wpAny_field hit' rfl (x := .ref mo) rfl ?_)
        refine wpAny_bind ?_
        unfold slotLetsGo
        refine wpAny_bind (borrows_method hmo' hf' hd ?_)
        refine wpAny_pure ?_
        refine wpAny_bind (wpAny_setField hit' rfl (by simp) ?_)
        refine wpAny_bind (wpAny_setField (Heap.get?_update_self _ hit' rfl) rfl (by simp) ?_)
        refine (wpAny_setField (Heap.get?_update_self _ (Heap.get?_update_self _ hit' rfl) rfl) rfl (by simp) ?_)
        refine stop_here hh fun e h' hk hT' => ?_
        refine wpAny_bind (wpAny_isInstance (T := "StopIteration") (b := true) hT' isSubtype_stop ?_)
        refine wpAny_pure (h2 hx h' (hk _ _ (Heap.get?_update_self _ (Heap.get?_update_self _ (Heap.get?_update_self _ hit' rfl) rfl) rfl)) fun b o hb e => hk _ _ ?_)
        rw [Heap.get?_update_other _ _ (Ne.symm hb), Heap.get?_update_other _ _ (Ne.symm hb), Heap.get?_update_other _ _ (Ne.symm hb)]
        exact e
      · have hb : (Str.ofString "" == x) = false := by
          rw [beq_eq_false_iff_ne]; exact fun q => hx q.symm
        rw [hb]
        exact wpAny_pure ⟨_, rfl, wpAny_pure (h1 hx)⟩
theorem args_iter2 (a b : Value) : argsOk "iter" ⟨[a, b], []⟩ := by unfold argsOk; kernel_rfl
theorem method_call_look : typeLookup (.type "method") "__call__" = pure (some (.builtin "method.__call__")) := by rw [typeLookup_type, builtinLookup_eq_fast]; kernel_rfl
theorem my_iter2 {h₀ : Heap} {L mo : Addr} {m : Str → Option Value} {news : Led} {f self : Value} {y : Str} {t : Tok} {Q : Value → Shared → Prop} (F : Fr h₀ L s.heap m) (N : News h₀ L s.heap news) (hm : (mo, methodObj f self) ∈ news)
    (h : ∀ it h', Fr h₀ L h' m → News h₀ L h' ((it, ciObj (.ref mo) (.str y t) false) :: news) → (∀ p ∈ news, p.1 < it) → Q (.ref it) { s with heap := h' }) :
    wpAny (model prog w) A (call (.builtin "iter") [.ref mo, .str y t]) Q E s := by
  refine call_function_entry (by decide +kernel) (by decide +kernel) kdk_entry_iter (args_iter2 _ _) ?_
  unfold Builtin.«iter»
  refine wpAny_bind (m := someArgs "iter" 1 2 _) (wpAny_of_eq (a := [Value.ref mo, Value.str y t]) (by first | rfl | kernel_rfl!) ?_)
  have hT : s.TypeIs (.ref mo) "method" := ⟨_, (N _ hm).1, rfl⟩
  refine wpAny_bind (wpAny_specialOf hT method_call_look ?_)
  refine wpAny_bind ?_
  refine wpAny_rule ?_
  refine wpAny_bind ?_
  unfold newFields
  refine wpAny_newObj_type ?_ (by size_fits)
  exact wpAny_pure ⟨_, rfl, h _ _ (F.push _) (News.push F N _ rfl) fun q hq => Heap.lt_size (N q hq).1⟩
end
end Mine
namespace Mine
section
variable {prog : Program} {w : World} {A : Around} {E : Value → Shared → Prop} {s : Shared} {h₀ : Heap} {L l : Addr} {m : Str → Option Value} {init : List Value} {x v : Value} {nn : Nat} {t : Tok} {rest news : Led}
theorem setL_last (init : List Value) (x v : Value) : ki_setL (init ++ [x]) init.length v = some (init ++ [v]) := by
  induction init with
  | nil => rfl
  | cons a r ih =>
    show (match ki_setL (r ++ [x]) r.length v with | some q => some (a :: q) | none => none) = _
    rw [ih]; rfl
theorem seq_last (n : Nat) : seqIndex? (-1) (n + 1) = some n := by
  unfold seqIndex?
  have : (-1 : Int) < 0 := by omega
  simp only [this, if_true]
  rw [if_pos (by simp; omega)]
  congr 1
  omega
theorem my_setlast {Q : Unit → Shared → Prop} (F : Fr h₀ L s.heap m) (N : News h₀ L s.heap ((l, listOf (init ++ [x]).toArray nn) :: rest)) (hne : ∀ p ∈ rest, p.1 ≠ l)
    (h : ∀ h', Fr h₀ L h' m → News h₀ L h' ((l, listOf (init ++ [v]).toArray nn) :: rest) → Q () { s with heap := h' }) : wpAny (model prog w) A (setItem (.ref l) (.int (-1) t) v) Q E s :=
  ki_setNeg F N (by decide) (by decide) (j := init.length) (by rw [List.size_toArray, List.length_append, List.length_singleton]; exact seq_last _) (setL_last init x v) (Upd.head hne) h
theorem my_getlast {Q : Value → Shared → Prop} (N : News h₀ L s.heap news) (hm : (l, listOf (init ++ [x]).toArray nn) ∈ news) (h : Q x s) : wpAny (model prog w) A (getItem (.ref l) (.int (-1) t)) Q E s := by
  have hl : s.heap.IsList l (init ++ [x]).toArray := ⟨_, (N _ hm).1, rfl, _, rfl⟩
  refine wpAny_getItem_list_neg hl (by decide) ?_ (by decide) ?_ h
  · rw [List.size_toArray, List.length_append, List.length_singleton]; omega
  · rw [List.size_toArray, List.length_append, List.length_singleton, show ((-1 : Int) + ((init.length + 1 : Nat) : Int)).toNat = init.length by omega]
    simp
end
end Mine
namespace Mine
/- a comprehension over a list of texts that keeps those that are not empty -/
noncomputable def keepOne (l : List (List Nat)) (q : List Nat) : List (List Nat) := if q = [] then l else l ++ [q]
noncomputable def keepNE (ps : List (List Nat)) : List (List Nat) := ps.foldl keepOne []
noncomputable def KsEl (news : List (Addr × Obj)) (l r : List (List Nat)) (y : Value) (news' : List (Addr × Obj)) : Prop := news' = news ∧ ∃ (q : List Nat) (t : Tok), y = .str (S q) t ∧ r = l ++ [q]
noncomputable def KsNo (news : List (Addr × Obj)) (l r : List (List Nat)) (news' : List (Addr × Obj)) : Prop := news' = news ∧ r = l
theorem strs_snocS {vs : List Value} {ps : List (List Nat)} {q : List Nat} {t : Tok} (h : StrsAre vs (ps.map S)) : StrsAre (vs ++ [.str (S q) t]) ((ps ++ [q]).map S) := by
  rw [List.map_append]
  generalize ps.map S = xs at h
  induction h with
  | nil => exact StrsAre.cons (y := S q) t StrsAre.nil
  | cons a b _ ih => exact StrsAre.cons a b ih
section
variable {prog : Program} {w : World} {A : Around} {h₀ : Heap} {L : Addr} {m : Str → Option Value} {env : Env} {ct elt : Expr} {x : Str} {scope : Scope} {cl : List (Str × Addr)} {s : Shared} {S' : List (Addr × Obj) → Prop} {Fin : List Value → List (Addr × Obj) → Prop} {news : List (Addr × Obj)}
theorem ks_rest {vs : List Value} {ps : List (List Nat)} (hs : StrsAre vs (ps.map S))
    (turn : ∀ q t I oI C oC D m₂ ys l h tk (E' : Value → Shared → Prop), q ∈ ps → StrsAre ys (l.map S) → LCg.NsObj oC m₂ → m₂ x = some (.str (S q) t) → Fr h₀ L h m → News h₀ L h ((I, oI) :: (C, oC) :: (D, LCg.lst ys) :: news) → LCg.Off3 I C D news → ((@Ne Nat I C) ∧ (@Ne Nat I D) ∧ (@Ne Nat C D)) →
      wpAny (model prog w) A (isTrue ct (compEnvC scope cl C env) (eval ct (compEnvC scope cl C env))) (fun b s' => if b = true then wpAny (model prog w) A (eval elt (compEnvC scope cl C env)) (LCg.CompEnd h₀ L m { s with heap := h, toks := tk } I oI C oC D (LCg.lst ys) S' (fun y news' => KsEl news l (keepOne l q) y news')) E' s'
        else LCg.CompEnd h₀ L m { s with heap := h, toks := tk } I oI C oC D (LCg.lst ys) S' (fun _ news' => KsNo news l (keepOne l q) news') Value.none s') E' { s with heap := h, toks := tk })
    (fin : ∀ ys, StrsAre ys ((keepNE ps).map S) → Fin ys news) : LCt.CompRestT prog w A h₀ L m env ct elt x scope cl s S' (fun i v => vs.toArray[i]? = some v) Fin vs.toArray.size 0 [] news := by
  have hlen := strs_Slen hs rfl
  have key : ∀ (j i : Nat) (ys : List Value), i + j = vs.toArray.size → StrsAre ys (((ps.take i).foldl keepOne []).map S) → LCt.CompRestT prog w A h₀ L m env ct elt x scope cl s S' (fun i v => vs.toArray[i]? = some v) Fin j i ys news := by
    intro j
    induction j with
    | zero =>
      intro i ys hi hy
      rw [List.size_toArray] at hi
      rw [List.take_of_length_le (by first | lia | omega)] at hy
      exact LCt.CompRestT.zero (fin ys hy)
    | succ j ih =>
      intro i ys hi hy
      refine LCt.CompRestT.succ ?_
      intro v I oI C oC D m₂ h tk E' hv hC hx F N off ne
      obtain ⟨q, t, hv', hk⟩ := strs_S hs rfl (show vs[i]? = some v by simpa using hv)
      rw [hv'] at hx
      have hst : (ps.take (i + 1)).foldl keepOne [] = keepOne ((ps.take i).foldl keepOne []) q := by
        rw [List.take_add_one, hk]; simp
      refine wpAny_mono (turn q t I oI C oC D m₂ ys _ h tk E' (List.mem_of_getElem? hk) hy hC hx F N off ne) (fun b s₂ hq => ?_) fun _ _ e => e
      cases b with
      | true =>
        simp only [if_true] at hq ⊢
        refine wpAny_mono hq (fun y s₃ hr => ?_) fun _ _ e => e
        obtain ⟨h', tk', nw, e, F', N', off', hS, hn, q', t', hy', hr'⟩ := hr
        rw [hn] at N' off' hS
        refine ⟨h', tk', news, e, F', N', off', hS, ?_⟩
        rw [hy']
        refine ih (i + 1) _ (by first | lia | omega) ?_
        rw [hst, hr']
        exact strs_snocS hy
      | false =>
        simp only [Bool.false_eq_true, if_false] at hq ⊢
        obtain ⟨h', tk', nw, e, F', N', off', hS, hn, hr'⟩ := hq
        rw [hn] at N' off' hS
        refine ⟨h', tk', news, e, F', N', off', hS, ih (i + 1) _ (by first | lia | omega) ?_⟩
        rw [hst, hr']
        exact hy
  exact key _ 0 [] (by first | lia | omega) (by simp only [List.take_zero, List.foldl_nil]; exact .nil)
end
theorem keep_filter (ps : List (List Nat)) : keepNE ps = ps.filter (fun q => decide (q ≠ [])) := by
  have h : ∀ (ps l : List (List Nat)), ps.foldl keepOne l = l ++ ps.filter (fun q => decide (q ≠ [])) := by
    intro ps
    induction ps with
    | nil => intro l; simp
    | cons q r ih =>
      intro l
      rw [List.foldl_cons, ih, keepOne]
      by_cases h : q = [] <;> simp [h]
  exact (h ps []).trans (by simp)
theorem ks_el {news news' : List (Addr × Obj)} {l : List (List Nat)} {q : List Nat} {t : Tok} (h : q ≠ []) (hn : news' = news) : KsEl news l (keepOne l q) (.str (S q) t) news' := ⟨hn, q, t, rfl, by unfold keepOne; rw [if_neg h]⟩
theorem ks_no {news news' : List (Addr × Obj)} {l : List (List Nat)} {q : List Nat} (h : q = []) (hn : news' = news) : KsNo news l (keepOne l q) news' := ⟨hn, by unfold keepOne; rw [if_pos h]⟩
end Mine
namespace Mine
section
variable {prog : Program} {w : World} {A : Around} {E : Value → Shared → Prop} {s : Shared} {h₀ : Heap} {L l : Addr} {m : Str → Option Value} {news : List (Addr × Obj)} {value slice : PySem.Expr} {vs : List Value} {nn : Nat} {Q : Value → Shared → Prop}
theorem isl (N : News h₀ L s.heap news) (hm : (l, listOf vs.toArray nn) ∈ news) : s.heap.IsList l vs.toArray := ⟨_, (N _ hm).1, rfl, nn, rfl⟩
theorem my_len {k : Nat} (N : News h₀ L s.heap news) (hm : (l, listOf vs.toArray nn) ∈ news) (e : vs.length = k) (hfit : k < 10000)
    (h : Q (.int (k : Int) (s.toks + 1)) { s with toks := s.toks + 1 + 1 }) : wpAny (model prog w) A (call (.builtin "len") [.ref l]) Q E s := kst_len N hm e (by first | lia | omega) h
theorem pick_upto (vs : List Value) {j : Int} (h : 0 ≤ j) : kms_pick vs none (some j) = vs.take j.toNat := by
  have : ¬ j < 0 := by first | lia | omega
  simp only [kms_pick, kms_lo, kms_hi, this, if_false, List.drop_zero, Nat.sub_zero]
  by_cases hj : j.toNat ≤ vs.length
  · rw [Nat.min_eq_left hj]
  · rw [Nat.min_eq_right (by first | lia | omega), List.take_of_length_le (Nat.le_refl _), List.take_of_length_le (by first | lia | omega)]
theorem pick_from (vs : List Value) {i : Int} (h : 0 ≤ i) : kms_pick vs (some i) none = vs.drop i.toNat := by
  have : ¬ i < 0 := by first | lia | omega
  simp only [kms_pick, kms_lo, kms_hi, this, if_false]
  by_cases hj : i.toNat ≤ vs.length
  · rw [Nat.min_eq_left hj, List.take_of_length_le (by simp)]
  · rw [Nat.min_eq_right (by first | lia | omega), List.take_of_length_le (by simp), List.drop_eq_nil_of_le (Nat.le_refl _), List.drop_eq_nil_of_le (by first | lia | omega)]
theorem my_upto {j : Int} {t : Tok} (F : Fr h₀ L s.heap m) (N : News h₀ L s.heap news) (hm : (l, listOf vs.toArray nn) ∈ news) (h0 : 0 ≤ j) (hz : vs.length < 10000)
    (h : ∀ D h', Fr h₀ L h' m → News h₀ L h' ((D, listOf (vs.take j.toNat).toArray 0) :: news) → (∀ p ∈ news, p.1 < D) → Q (.ref D) { s with heap := h' })
    (hs : subscripted slice false (.ref l) (.ref s.heap.objs.size) = operate [.ref s.heap.objs.size, .ref l] (getItem (.ref l) (.ref s.heap.objs.size))) (ht : ∀ r, letTemporaryGo value (.ref l) r = pure ()) :
    wpAny (model prog w) A (subscriptTail value slice (.ref l) (.ref s.heap.objs.size)) Q E { s with heap := s.heap.push { cls := .type "slice", data := .fields #[.none, .int j t, .none] } } :=
  kms_slice_lit F N (isl N hm) .none (.int j t) (by simpa using pick_upto vs h0) h hs ht (by rw [List.size_toArray, sizeLine_eq]; (first | lia | omega))
theorem my_from {i : Int} {t : Tok} (F : Fr h₀ L s.heap m) (N : News h₀ L s.heap news) (hm : (l, listOf vs.toArray nn) ∈ news) (h0 : 0 ≤ i) (hz : vs.length < 10000)
    (h : ∀ D h', Fr h₀ L h' m → News h₀ L h' ((D, listOf (vs.drop i.toNat).toArray 0) :: news) → (∀ p ∈ news, p.1 < D) → Q (.ref D) { s with heap := h' })
    (hs : subscripted slice false (.ref l) (.ref s.heap.objs.size) = operate [.ref s.heap.objs.size, .ref l] (getItem (.ref l) (.ref s.heap.objs.size))) (ht : ∀ r, letTemporaryGo value (.ref l) r = pure ()) :
    wpAny (model prog w) A (subscriptTail value slice (.ref l) (.ref s.heap.objs.size)) Q E { s with heap := s.heap.push { cls := .type "slice", data := .fields #[.int i t, .none, .none] } } :=
  kms_slice_lit F N (isl N hm) (.int i t) .none (by simpa using pick_from vs h0) h hs ht (by rw [List.size_toArray, sizeLine_eq]; (first | lia | omega))
theorem my_item {ps : List (List Nat)} {k : Int} {u : Tok} (N : News h₀ L s.heap news) (hm : (l, listOf vs.toArray nn) ∈ news) (hi : StrsAre vs (ps.map S)) (h0 : 0 ≤ k) (h1 : k < (ps.length : Int)) (hz : ps.length < 10000)
    (h : ∀ t', Q (.str (S (ps.getD k.toNat [])) t') s)
    (hs : subscripted slice false (.ref l) (.int k u) = operate [.ref l, .int k u] (getItem (.ref l) (.int k u))) (hg : ∀ r, letTemporaryGo value (.ref l) r = pure ()) :
    wpAny (model prog w) A (subscriptTail value slice (.ref l) (.int k u)) Q E s := by
  refine item_strsA (isl N hm) hi h0 (by rw [List.length_map]; exact h1) (by first | lia | omega) (fun t' => ?_) hs hg
  have e : (ps.map S).getD k.toNat Str.empty = S (ps.getD k.toNat []) := by
    have hk : k.toNat < ps.length := by first | lia | omega
    rw [List.getD_eq_getElem?_getD, List.getD_eq_getElem?_getD, List.getElem?_map, List.getElem?_eq_getElem hk]; rfl
  rw [e]; exact h t'
theorem my_int {ns : List Int} {k : Int} {u : Tok} (N : News h₀ L s.heap news) (hm : (l, listOf vs.toArray nn) ∈ news) (hi : IntsAre vs ns) (h0 : 0 ≤ k) (h1 : k < (ns.length : Int)) (hz : ns.length < 10000)
    (h : ∀ t', Q (.int (ns.getD k.toNat 0) t') s)
    (hs : subscripted slice false (.ref l) (.int k u) = operate [.ref l, .int k u] (getItem (.ref l) (.int k u))) (hg : ∀ r, letTemporaryGo value (.ref l) r = pure ()) :
    wpAny (model prog w) A (subscriptTail value slice (.ref l) (.int k u)) Q E s := item_list_ints (isl N hm) hi h0 h1 (by first | lia | omega) h hs hg
theorem my_nat {ns : List Nat} {k : Int} {u : Tok} (N : News h₀ L s.heap news) (hm : (l, listOf vs.toArray nn) ∈ news) (hi : IntsAre vs (natInts ns)) (h0 : 0 ≤ k) (h1 : k < (ns.length : Int)) (hz : ns.length < 10000)
    (h : ∀ t', Q (.int ((ns.getD k.toNat 0 : Nat) : Int) t') s)
    (hs : subscripted slice false (.ref l) (.int k u) = operate [.ref l, .int k u] (getItem (.ref l) (.int k u))) (hg : ∀ r, letTemporaryGo value (.ref l) r = pure ()) :
    wpAny (model prog w) A (subscriptTail value slice (.ref l) (.int k u)) Q E s :=
  my_int N hm hi h0 (by rw [natInts_len]; exact h1) (by rw [natInts_len]; exact hz) (fun t' => by rw [natInts_getD]; exact h t') hs hg
theorem my_append {x : Value} {rest : List (Addr × Obj)} (F : Fr h₀ L s.heap m) (N : News h₀ L s.heap ((l, listOf vs.toArray nn) :: rest)) (hne : ∀ p ∈ rest, p.1 ≠ l) (hz : vs.length < 10000)
    (h : ∀ h', Fr h₀ L h' m → News h₀ L h' ((l, listOf (vs ++ [x]).toArray (nn + 1)) :: rest) → Q .none { s with heap := h' }) : wpAny (model prog w) A (call (.builtin "list.append") [.ref l, x]) Q E s := by
  have z := N (l, listOf vs.toArray nn) (.head _)
  refine append_at (hsz := by rw [List.size_toArray, sizeLine_eq]; (first | lia | omega)) z.1 fun h' hs ho' => ?_
  refine h h' (F.change hs z.2.1 z.2.2) (news_set (pre := []) N (fun _ hp => nomatch hp) hne hs ?_)
  rw [ho']; simp
theorem ne_of_off {D : Addr} {o : Obj} {news own : Led} (l1 : ∀ p ∈ news, p.1 < D) (hoff : TbOff own ((D, o) :: news)) : ∀ p ∈ news ++ own, p.1 ≠ D := by
  intro p hp
  rcases List.mem_append.mp hp with h | h
  · exact Nat.ne_of_lt (l1 p h)
  · exact hoff p h _ (.head _)
end
theorem strs_take {vs : List Value} {ps : List (List Nat)} (h : StrsAre vs (ps.map S)) (k : Nat) : StrsAre (vs.take k) ((ps.take k).map S) := by rw [List.map_take]; exact h.take' k
theorem strs_drop {vs : List Value} {ps : List (List Nat)} (h : StrsAre vs (ps.map S)) (k : Nat) : StrsAre (vs.drop k) ((ps.drop k).map S) := by rw [List.map_drop]; exact h.drop' k
theorem sum_take (l : List Nat) (k : Nat) : (l.take k).sum ≤ l.sum := by
  have := congrArg List.sum (List.take_append_drop k l); rw [List.sum_append] at this; (first | lia | omega)
theorem sum_drop (l : List Nat) (k : Nat) : (l.drop k).sum ≤ l.sum := by
  have := congrArg List.sum (List.take_append_drop k l); rw [List.sum_append] at this; (first | lia | omega)
/- the pieces' bound -/
noncomputable def PB (ps : List (List Nat)) : Prop := (∀ p ∈ ps, 46 ∉ p ∧ p ≠ []) ∧ (ps.map List.length).sum + ps.length * 3 < 900
theorem PB.dots {ps : List (List Nat)} (h : PB ps) : ∀ p ∈ ps, 46 ∉ p := fun p hp => (h.1 p hp).1
theorem PB.take {ps : List (List Nat)} (h : PB ps) (k : Nat) : PB (ps.take k) := ⟨fun p hp => h.1 p (List.mem_of_mem_take hp), by
  have := h.2; have h2 := sum_take (ps.map List.length) k; rw [List.map_take]; have : (ps.take k).length ≤ ps.length := by rw [List.length_take]; (first | lia | omega)
  (first | lia | omega)⟩
theorem PB.drop {ps : List (List Nat)} (h : PB ps) (k : Nat) : PB (ps.drop k) := ⟨fun p hp => h.1 p (List.mem_of_mem_drop hp), by
  have := h.2; have h2 := sum_drop (ps.map List.length) k; rw [List.map_drop]; have : (ps.drop k).length ≤ ps.length := by simp
  (first | lia | omega)⟩
theorem PB.len {ps : List (List Nat)} (h : PB ps) : ps.length < 300 := by have := h.2; (first | lia | omega)
theorem mem_le_sum : ∀ {l : List Nat} {x : Nat}, x ∈ l → x ≤ l.sum
  | y :: r, x, h => by
    rcases List.mem_cons.mp h with rfl | h
    · simp
    · have := mem_le_sum h; simp only [List.sum_cons]; (first | lia | omega)
theorem PB.item {ps : List (List Nat)} (h : PB ps) {k : Nat} (hk : k < ps.length) : 1 ≤ (ps.getD k []).length ∧ (ps.getD k []).length < 900 := by
  have hm : ps.getD k [] ∈ ps := by
    rw [List.getD_eq_getElem?_getD, List.getElem?_eq_getElem hk]; exact List.getElem_mem hk
  have h1 := h.1 _ hm
  have h2 := mem_le_sum (List.mem_map.mpr ⟨_, hm, rfl⟩ : (ps.getD k []).length ∈ ps.map List.length)
  have h3 := h.2
  refine ⟨?_, by first | lia | omega⟩
  cases e : ps.getD k [] with
  | nil => exact absurd e h1.2
  | cons a r => simp
section
variable {prog : Program} {w : World} {A : Around} {E : Value → Shared → Prop} {s : Shared} {Q : Value → Shared → Prop}
theorem len_piece {ps : List (List Nat)} {k : Nat} {t : Tok} (hb : PB ps) (hk : k < ps.length)
    (h : 1 ≤ (ps.getD k []).length → (ps.getD k []).length < 900 → (S (ps.getD k [])).length = (ps.getD k []).length → Q (.int ((ps.getD k []).length : Int) (s.toks + 1)) { s with toks := s.toks + 1 + 1 }) :
    wpAny (model prog w) A (call (.builtin "len") [.str (S (ps.getD k [])) t]) Q E s := by
  have hi := hb.item hk
  have hl := S_len (ps.getD k [])
  refine SBL.len (by rw [hl]; (first | lia | omega)) ?_
  rw [hl]
  exact h hi.1 hi.2 hl
end
theorem ints_snocA : ∀ {vs : List Value} {ns : List Int} {x : Int} {t : Tok}, IntsAre vs ns → IntsAre (vs ++ [.int x t]) (ns ++ [x])
  | _, _, _, _, .nil => .cons _ _ .nil
  | _, _, _, _, .cons n t' h => .cons n t' (ints_snocA h)
theorem ints_snoc {vs : List Value} {a : List Nat} {x : Int} {y : Nat} {t : Tok} (h : IntsAre vs (natInts a)) (e : x = (y : Int)) : IntsAre (vs ++ [.int x t]) (natInts (a ++ [y])) := by
  subst e
  have := ints_snocA (t := t) (x := (y : Int)) h
  unfold natInts at this ⊢
  rw [List.map_append]; exact this
theorem tboff_head {own r : Led} {D : Addr} {o o' : Obj} (h : TbOff own ((D, o) :: r)) : TbOff own ((D, o') :: r) := by
  intro p hp q hq
  rcases List.mem_cons.mp hq with rfl | hq
  · exact h p hp (D, o) (.head _)
  · exact h p hp q (.tail _ hq)
theorem one_above {news : Led} {D : Addr} {o : Obj} (l1 : ∀ p ∈ news, p.1 < D) : ∀ p ∈ news, ∀ q ∈ [(D, o)], p.1 < q.1 := by
  intro p hp q hq
  rw [List.mem_singleton.mp hq]; exact l1 p hp
end Mine
namespace Mine
local macro_rules | `(tactic| walk_at "my mem") => `(tactic| first | assumption | exact List.Mem.head _ | (refine List.mem_append.mpr (Or.inl ?_); walk_at "my mem") | (refine List.Mem.tail _ ?_; walk_at "my mem") | (refine List.mem_append.mpr (Or.inr ?_); walk_at "my mem"))
section
theorem ell_ok (w : World) (x g : List Nat) (ws : List (List Nat)) (t t' : Tok) (hx : x.length < 1000) (hg : g.length < 1000)
    (hin : (Builtin.Str.occurrences (S x) (Str.ofString "...") 0 (S x).length 1).isEmpty = false) (hsp : Txt.split (S x) (Str.ofString "...") = (([] :: ws) ++ [[]]).map S) :
    CPure w 20 60 [.str (S x) t, .str (S g) t'] (fun _ => True) (fun r => r = .bool (foundGo (([] :: ws) ++ [[]]) g 0)) := by
  unfold CPure
  k_fill
  k_with_none
  w_top off
  intro p loose mean mg mb dp un gd cn cs a ccd cl outer A₀ base h₀ L m news s Q E B F X N T hk hdp hun _ hret
  have hs := S_len x
  have hs := S_len g
  refine wpAny_call ?_
  k_dflt ktr_enter
  rename Fr _ _ _ _ => F0
  revert F0
  show let m0 := _; Fr _ _ _ m0 → _
  intro m0 F0
  show let M0 := _; let A0 := _; let e0 := _; wpAny M0 A0 (execs _ e0) _ _ _
  intro M0 A0 e0
  (repeat' (first | ((with_reducible show wpAny _ _ (call (Value.builtin "str.find") _ _) _ _ _); ((with_reducible show wpAny _ _ (call (Value.builtin "str.find") [Value.str _ _, Value.str _ _, Value.int _ _, Value.int _ _]) _ _ _); refine call_find4 ?_)) | ((with_reducible show wpAny _ _ (call (Value.builtin "len") _ _) _ _ _); (k_here; (with_reducible show wpAny _ _ (call _ [Value.str (S (List.getD _ _ [])) _]) _ _ _); k_dflt (refine len_piece (by assumption) (by first | lia | omega) ?_); intro zlp1 zlp2 zlp3)) | ((with_reducible show wpAny _ _ (subscriptTail _ _ (Value.ref _) (Value.int _ _)) _ _ _); ((k_here; (with_reducible show wpAny _ _ (subscriptTail _ _ (Value.ref _) (Value.int _ _)) _ _ _); k_dflt (first | refine my_item (by k_asm) (by walk_at "my mem") (by assumption) (by first | lia | omega) (by first | lia | omega) (by first | lia | omega) ?_ (by with_unfolding_all rfl) (by with_unfolding_all (intro _; rfl)) | refine my_nat (by k_asm) (by walk_at "my mem") (by assumption) (by first | lia | omega) (by first | lia | omega) (by first | lia | omega) ?_ (by with_unfolding_all rfl) (by with_unfolding_all (intro _; rfl))); intro zt))) | ((with_reducible show wpAny _ _ (call (Value.builtin "len") _ _) _ _ _); (k_here; (with_reducible show wpAny _ _ (call _ [Value.ref _]) _ _ _); k_dflt (refine my_len (by k_asm) (by walk_at "my mem") (by assumption) (by first | lia | omega) ?_))) | ((with_reducible show TurnEnds _ _ _ _ _ _ _ _ _ _ _); (refine Park.out ?_)) | ((with_reducible show TurnPost _ _ _ _ _ _ _ _ _ _ _ _ _); (dsimp only [TurnPost])) | ((with_reducible show wpAny _ _ (pyIter (Value.ref _)) _ _ _); (refine Park.out ?_)) | ((with_reducible show wpAny _ _ (exec (Stmt.For (Expr.Name _ _) (Expr.Name _ _) _ _ _) _) _ _ _); ((k_here; (rename Fr _ _ _ _ => zlF); (with_unfolding_all refine' For_invVF zlF ?zzk1 ?zzk2 ?_; (case zzk1 => exact rfl); (case zzk2 => exact rfl); k_whole)))) | (with_reducible refine nxR ?_) | (with_reducible refine nxN ?_) | (with_reducible refine nxB ?_) | (with_reducible refine nxK ?_) | (with_reducible refine exN ?_) | (with_reducible refine exA ?zzhs ?_; (case zzhs => k_dflt (exact (rfl : (pure false : Sem Bool) = pure false))); intro zqk) | (with_reducible refine exI ?_; intro zqk) | (with_reducible refine exR ?_) | (with_reducible refine exG ?_; intro zqk) | (with_reducible refine exC ?_; intro zqk) | ((with_reducible show wpAny _ _ (eval (Expr.Name _ _) _) _ _ _); k_dflt (refine' nmL ?zzF ?zzv (rfl : true = true) ?zzl ?_; (case zzF => k_asm); (case zzl => exact rfl); (case zzv => exact (rfl : some _ = some _)); k_whole)) | ((with_reducible show wpAny _ _ (storeName _ _ _) _ _ _); k_dflt (refine' stX ?zzF ?zzN (rfl : true = true) ?zzl ?_; (case zzF => k_asm); (case zzN => k_asm); (case zzl => exact rfl); k_whole); intro zm1 zh zt zF zN; (try k_sweep)) | k_unfold | walk1 | (dsimp only; walk1) | leave1))
  · rename (List.map _ _)[Int.toNat 0]? = some _ => hy0
    rename List.map _ _ = Txt.split _ _ => hl0
    rw [hl0, hsp] at hy0
    have hy1 := (Option.some.inj hy0).symm
    subst hy1
    refine P.truthy_str (by decide) ?_
    refine ite_neg (by decide) ?_
    (repeat' (first | ((with_reducible show wpAny _ _ (call (Value.builtin "str.find") _ _) _ _ _); ((with_reducible show wpAny _ _ (call (Value.builtin "str.find") [Value.str _ _, Value.str _ _, Value.int _ _, Value.int _ _]) _ _ _); refine call_find4 ?_)) | ((with_reducible show wpAny _ _ (call (Value.builtin "len") _ _) _ _ _); (k_here; (with_reducible show wpAny _ _ (call _ [Value.str (S (List.getD _ _ [])) _]) _ _ _); k_dflt (refine len_piece (by assumption) (by first | lia | omega) ?_); intro zlp1 zlp2 zlp3)) | ((with_reducible show wpAny _ _ (subscriptTail _ _ (Value.ref _) (Value.int _ _)) _ _ _); ((k_here; (with_reducible show wpAny _ _ (subscriptTail _ _ (Value.ref _) (Value.int _ _)) _ _ _); k_dflt (first | refine my_item (by k_asm) (by walk_at "my mem") (by assumption) (by first | lia | omega) (by first | lia | omega) (by first | lia | omega) ?_ (by with_unfolding_all rfl) (by with_unfolding_all (intro _; rfl)) | refine my_nat (by k_asm) (by walk_at "my mem") (by assumption) (by first | lia | omega) (by first | lia | omega) (by first | lia | omega) ?_ (by with_unfolding_all rfl) (by with_unfolding_all (intro _; rfl))); intro zt))) | ((with_reducible show wpAny _ _ (call (Value.builtin "len") _ _) _ _ _); (k_here; (with_reducible show wpAny _ _ (call _ [Value.ref _]) _ _ _); k_dflt (refine my_len (by k_asm) (by walk_at "my mem") (by assumption) (by first | lia | omega) ?_))) | ((with_reducible show TurnEnds _ _ _ _ _ _ _ _ _ _ _); (refine Park.out ?_)) | ((with_reducible show TurnPost _ _ _ _ _ _ _ _ _ _ _ _ _); (dsimp only [TurnPost])) | ((with_reducible show wpAny _ _ (pyIter (Value.ref _)) _ _ _); (refine Park.out ?_)) | ((with_reducible show wpAny _ _ (exec (Stmt.For (Expr.Name _ _) (Expr.Name _ _) _ _ _) _) _ _ _); ((k_here; (rename Fr _ _ _ _ => zlF); (with_unfolding_all refine' For_invVF zlF ?zzk1 ?zzk2 ?_; (case zzk1 => exact rfl); (case zzk2 => exact rfl); k_whole)))) | (with_reducible refine nxR ?_) | (with_reducible refine nxN ?_) | (with_reducible refine nxB ?_) | (with_reducible refine nxK ?_) | (with_reducible refine exN ?_) | (with_reducible refine exA ?zzhs ?_; (case zzhs => k_dflt (exact (rfl : (pure false : Sem Bool) = pure false))); intro zqk) | (with_reducible refine exI ?_; intro zqk) | (with_reducible refine exR ?_) | (with_reducible refine exG ?_; intro zqk) | (with_reducible refine exC ?_; intro zqk) | ((with_reducible show wpAny _ _ (eval (Expr.Name _ _) _) _ _ _); k_dflt (refine' nmL ?zzF ?zzv (rfl : true = true) ?zzl ?_; (case zzF => k_asm); (case zzl => exact rfl); (case zzv => exact (rfl : some _ = some _)); k_whole)) | ((with_reducible show wpAny _ _ (storeName _ _ _) _ _ _); k_dflt (refine' stX ?zzF ?zzN (rfl : true = true) ?zzl ?_; (case zzF => k_asm); (case zzN => k_asm); (case zzl => exact rfl); k_whole); intro zm1 zh zt zF zN; (try k_sweep)) | k_unfold | walk1 | (dsimp only; walk1) | leave1))
    rw [getD_last (hl0.trans hsp)]
    refine P.truthy_str (by decide) ?_
    refine ite_neg (by decide) ?_
    (repeat' (first | ((with_reducible show wpAny _ _ (call (Value.builtin "str.find") _ _) _ _ _); ((with_reducible show wpAny _ _ (call (Value.builtin "str.find") [Value.str _ _, Value.str _ _, Value.int _ _, Value.int _ _]) _ _ _); refine call_find4 ?_)) | ((with_reducible show wpAny _ _ (call (Value.builtin "len") _ _) _ _ _); (k_here; (with_reducible show wpAny _ _ (call _ [Value.str (S (List.getD _ _ [])) _]) _ _ _); k_dflt (refine len_piece (by assumption) (by first | lia | omega) ?_); intro zlp1 zlp2 zlp3)) | ((with_reducible show wpAny _ _ (subscriptTail _ _ (Value.ref _) (Value.int _ _)) _ _ _); ((k_here; (with_reducible show wpAny _ _ (subscriptTail _ _ (Value.ref _) (Value.int _ _)) _ _ _); k_dflt (first | refine my_item (by k_asm) (by walk_at "my mem") (by assumption) (by first | lia | omega) (by first | lia | omega) (by first | lia | omega) ?_ (by with_unfolding_all rfl) (by with_unfolding_all (intro _; rfl)) | refine my_nat (by k_asm) (by walk_at "my mem") (by assumption) (by first | lia | omega) (by first | lia | omega) (by first | lia | omega) ?_ (by with_unfolding_all rfl) (by with_unfolding_all (intro _; rfl))); intro zt))) | ((with_reducible show wpAny _ _ (call (Value.builtin "len") _ _) _ _ _); (k_here; (with_reducible show wpAny _ _ (call _ [Value.ref _]) _ _ _); k_dflt (refine my_len (by k_asm) (by walk_at "my mem") (by assumption) (by first | lia | omega) ?_))) | ((with_reducible show TurnEnds _ _ _ _ _ _ _ _ _ _ _); (refine Park.out ?_)) | ((with_reducible show TurnPost _ _ _ _ _ _ _ _ _ _ _ _ _); (dsimp only [TurnPost])) | ((with_reducible show wpAny _ _ (pyIter (Value.ref _)) _ _ _); (refine Park.out ?_)) | ((with_reducible show wpAny _ _ (exec (Stmt.For (Expr.Name _ _) (Expr.Name _ _) _ _ _) _) _ _ _); ((k_here; (rename Fr _ _ _ _ => zlF); (with_unfolding_all refine' For_invVF zlF ?zzk1 ?zzk2 ?_; (case zzk1 => exact rfl); (case zzk2 => exact rfl); k_whole)))) | (with_reducible refine nxR ?_) | (with_reducible refine nxN ?_) | (with_reducible refine nxB ?_) | (with_reducible refine nxK ?_) | (with_reducible refine exN ?_) | (with_reducible refine exA ?zzhs ?_; (case zzhs => k_dflt (exact (rfl : (pure false : Sem Bool) = pure false))); intro zqk) | (with_reducible refine exI ?_; intro zqk) | (with_reducible refine exR ?_) | (with_reducible refine exG ?_; intro zqk) | (with_reducible refine exC ?_; intro zqk) | ((with_reducible show wpAny _ _ (eval (Expr.Name _ _) _) _ _ _); k_dflt (refine' nmL ?zzF ?zzv (rfl : true = true) ?zzl ?_; (case zzF => k_asm); (case zzl => exact rfl); (case zzv => exact (rfl : some _ = some _)); k_whole)) | ((with_reducible show wpAny _ _ (storeName _ _ _) _ _ _); k_dflt (refine' stX ?zzF ?zzN (rfl : true = true) ?zzl ?_; (case zzF => k_asm); (case zzN => k_asm); (case zzl => exact rfl); k_whole); intro zm1 zh zt zF zN; (try k_sweep)) | k_unfold | walk1 | (dsimp only; walk1) | leave1))
    refine Park.mk ?_
    (rename Fr _ _ _ _ => lF'); (rename News _ _ _ _ => lN'); (rename StrsAre _ _ => hst)
    with_unfolding_all refine' my_for (σ := Int × Tok) (fun _ => _) (fun c => [(Str.ofString "startpos", .int c.1 c.2)]) [] (fun i c => EInv (([] :: ws) ++ [[]]) g i c.1) (0, _) (by rfl) (by intro c; exact .tail _ (.head _)) lF' lN' ?hk ?hp ?turn ?done
    case hk => kst_all
    case hp => exact einv_start _ _
    case turn =>
      intro c i v u h tk own hv hoff hP F' N'
      obtain ⟨q, tq, rfl, hq⟩ := strs_S hst (hl0.trans hsp) hv
      have hqs : (S q).length ≤ (S x).length := S_bound (by assumption) (hl0.trans hsp) hq
      (repeat' (first | ((with_reducible show wpAny _ _ (call (Value.builtin "str.find") _ _) _ _ _); ((with_reducible show wpAny _ _ (call (Value.builtin "str.find") [Value.str _ _, Value.str _ _, Value.int _ _, Value.int _ _]) _ _ _); refine call_find4 ?_)) | ((with_reducible show wpAny _ _ (call (Value.builtin "len") _ _) _ _ _); (k_here; (with_reducible show wpAny _ _ (call _ [Value.str (S (List.getD _ _ [])) _]) _ _ _); k_dflt (refine len_piece (by assumption) (by first | lia | omega) ?_); intro zlp1 zlp2 zlp3)) | ((with_reducible show wpAny _ _ (subscriptTail _ _ (Value.ref _) (Value.int _ _)) _ _ _); ((k_here; (with_reducible show wpAny _ _ (subscriptTail _ _ (Value.ref _) (Value.int _ _)) _ _ _); k_dflt (first | refine my_item (by k_asm) (by walk_at "my mem") (by assumption) (by first | lia | omega) (by first | lia | omega) (by first | lia | omega) ?_ (by with_unfolding_all rfl) (by with_unfolding_all (intro _; rfl)) | refine my_nat (by k_asm) (by walk_at "my mem") (by assumption) (by first | lia | omega) (by first | lia | omega) (by first | lia | omega) ?_ (by with_unfolding_all rfl) (by with_unfolding_all (intro _; rfl))); intro zt))) | ((with_reducible show wpAny _ _ (call (Value.builtin "len") _ _) _ _ _); (k_here; (with_reducible show wpAny _ _ (call _ [Value.ref _]) _ _ _); k_dflt (refine my_len (by k_asm) (by walk_at "my mem") (by assumption) (by first | lia | omega) ?_))) | ((with_reducible show TurnEnds _ _ _ _ _ _ _ _ _ _ _); (refine Park.out ?_)) | ((with_reducible show TurnPost _ _ _ _ _ _ _ _ _ _ _ _ _); (dsimp only [TurnPost])) | ((with_reducible show wpAny _ _ (pyIter (Value.ref _)) _ _ _); (refine Park.out ?_)) | ((with_reducible show wpAny _ _ (exec (Stmt.For (Expr.Name _ _) (Expr.Name _ _) _ _ _) _) _ _ _); ((k_here; (rename Fr _ _ _ _ => zlF); (with_unfolding_all refine' For_invVF zlF ?zzk1 ?zzk2 ?_; (case zzk1 => exact rfl); (case zzk2 => exact rfl); k_whole)))) | (with_reducible refine nxR ?_) | (with_reducible refine nxN ?_) | (with_reducible refine nxB ?_) | (with_reducible refine nxK ?_) | (with_reducible refine exN ?_) | (with_reducible refine exA ?zzhs ?_; (case zzhs => k_dflt (exact (rfl : (pure false : Sem Bool) = pure false))); intro zqk) | (with_reducible refine exI ?_; intro zqk) | (with_reducible refine exR ?_) | (with_reducible refine exG ?_; intro zqk) | (with_reducible refine exC ?_; intro zqk) | ((with_reducible show wpAny _ _ (eval (Expr.Name _ _) _) _ _ _); k_dflt (refine' nmL ?zzF ?zzv (rfl : true = true) ?zzl ?_; (case zzF => k_asm); (case zzl => exact rfl); (case zzv => exact (rfl : some _ = some _)); k_whole)) | ((with_reducible show wpAny _ _ (storeName _ _ _) _ _ _); k_dflt (refine' stX ?zzF ?zzN (rfl : true = true) ?zzl ?_; (case zzF => k_asm); (case zzN => k_asm); (case zzl => exact rfl); k_whole); intro zm1 zh zt zF zN; (try k_sweep)) | k_unfold | walk1 | (dsimp only; walk1) | leave1))
      · exact hret _ _ _ (by assumption) (news_sub (by assumption) (by intro p hp; simp only [List.mem_append, List.mem_cons, hp, true_or, or_true])) (congrArg Value.bool (einv_out hP hq (by assumption)).symm)
      · refine Park.mk (turn_ends (_, _) (by assumption) (by assumption) (by kst_in) (by intro p hp; kst_mem) hoff (by kst_all) (by (refine ovE ?_; (repeat' (first | (with_reducible exact ov0) | k_dflt (refine ovI (rfl : true = true) ?_) | k_dflt (refine ovK (rfl : true = true) ?_) | k_dflt (refine ovS (rfl : true = true) ?_) | k_dflt (exact ov0))))) ?_)
        exact einv_next hP hq (by assumption)
    case done =>
      intro c u h tk hP F' N'
      (repeat' (first | ((with_reducible show wpAny _ _ (call (Value.builtin "str.find") _ _) _ _ _); ((with_reducible show wpAny _ _ (call (Value.builtin "str.find") [Value.str _ _, Value.str _ _, Value.int _ _, Value.int _ _]) _ _ _); refine call_find4 ?_)) | ((with_reducible show wpAny _ _ (call (Value.builtin "len") _ _) _ _ _); (k_here; (with_reducible show wpAny _ _ (call _ [Value.str (S (List.getD _ _ [])) _]) _ _ _); k_dflt (refine len_piece (by assumption) (by first | lia | omega) ?_); intro zlp1 zlp2 zlp3)) | ((with_reducible show wpAny _ _ (subscriptTail _ _ (Value.ref _) (Value.int _ _)) _ _ _); ((k_here; (with_reducible show wpAny _ _ (subscriptTail _ _ (Value.ref _) (Value.int _ _)) _ _ _); k_dflt (first | refine my_item (by k_asm) (by walk_at "my mem") (by assumption) (by first | lia | omega) (by first | lia | omega) (by first | lia | omega) ?_ (by with_unfolding_all rfl) (by with_unfolding_all (intro _; rfl)) | refine my_nat (by k_asm) (by walk_at "my mem") (by assumption) (by first | lia | omega) (by first | lia | omega) (by first | lia | omega) ?_ (by with_unfolding_all rfl) (by with_unfolding_all (intro _; rfl))); intro zt))) | ((with_reducible show wpAny _ _ (call (Value.builtin "len") _ _) _ _ _); (k_here; (with_reducible show wpAny _ _ (call _ [Value.ref _]) _ _ _); k_dflt (refine my_len (by k_asm) (by walk_at "my mem") (by assumption) (by first | lia | omega) ?_))) | ((with_reducible show TurnEnds _ _ _ _ _ _ _ _ _ _ _); (refine Park.out ?_)) | ((with_reducible show TurnPost _ _ _ _ _ _ _ _ _ _ _ _ _); (dsimp only [TurnPost])) | ((with_reducible show wpAny _ _ (pyIter (Value.ref _)) _ _ _); (refine Park.out ?_)) | ((with_reducible show wpAny _ _ (exec (Stmt.For (Expr.Name _ _) (Expr.Name _ _) _ _ _) _) _ _ _); ((k_here; (rename Fr _ _ _ _ => zlF); (with_unfolding_all refine' For_invVF zlF ?zzk1 ?zzk2 ?_; (case zzk1 => exact rfl); (case zzk2 => exact rfl); k_whole)))) | (with_reducible refine nxR ?_) | (with_reducible refine nxN ?_) | (with_reducible refine nxB ?_) | (with_reducible refine nxK ?_) | (with_reducible refine exN ?_) | (with_reducible refine exA ?zzhs ?_; (case zzhs => k_dflt (exact (rfl : (pure false : Sem Bool) = pure false))); intro zqk) | (with_reducible refine exI ?_; intro zqk) | (with_reducible refine exR ?_) | (with_reducible refine exG ?_; intro zqk) | (with_reducible refine exC ?_; intro zqk) | ((with_reducible show wpAny _ _ (eval (Expr.Name _ _) _) _ _ _); k_dflt (refine' nmL ?zzF ?zzv (rfl : true = true) ?zzl ?_; (case zzF => k_asm); (case zzl => exact rfl); (case zzv => exact (rfl : some _ = some _)); k_whole)) | ((with_reducible show wpAny _ _ (storeName _ _ _) _ _ _); k_dflt (refine' stX ?zzF ?zzN (rfl : true = true) ?zzl ?_; (case zzF => k_asm); (case zzN => k_asm); (case zzl => exact rfl); k_whole); intro zm1 zh zt zF zN; (try k_sweep)) | k_unfold | walk1 | (dsimp only; walk1) | leave1))
      rw [strs_Slen hst (hl0.trans hsp)] at hP
      exact hret _ _ _ (by assumption) (news_sub (by assumption) (by intro p hp; simp only [List.mem_append, List.mem_cons, hp, true_or, or_true])) (congrArg Value.bool (einv_end hP).symm)
  · rename List.map _ _ = Txt.split _ _ => hl0
    have := congrArg List.length (hl0.trans hsp)
    simp at this
    (first | lia | omega)
theorem ell_found (w : World) (ps : List (List Nat)) (g : List Nat) (t t' : Tok) (hf : ∀ p ∈ ps, 46 ∉ p) (hx : (ps.map List.length).sum + ps.length * 3 < 900) (hg : g.length < 1000) :
    CPure w 20 60 [.str (S (dots ++ glue dots ps ++ dots)) t, .str (S g) t'] (fun _ => True) (fun r => r = .bool (foundGo ps g 0)) :=
  (ell_ok w (dots ++ glue dots ps ++ dots) g (mids ps) t t' (by have := glue_len dots ps; simp only [List.length_append, dots, List.length_cons, List.length_nil] at this ⊢; (first | lia | omega)) hg (in_dots ps) (split_dots hf)).mono (fun _ h => h) (fun r h => by rw [h, found_dots])
end
section
theorem found_ok (w : World) (l : Addr) (vs : List Value) (nn : Nat) (ps : List (List Nat)) (g : List Nat) (t' : Tok) (hs : StrsAre vs (ps.map S)) (hf : ∀ p ∈ ps, 46 ∉ p) (hx : (ps.map List.length).sum + ps.length * 3 < 900) (hg : g.length < 1000) : CPure w 30 156 [.ref l, .str (S g) t'] (fun news => (l, listOf vs.toArray nn) ∈ news) (fun r => r = .bool (foundGo ps g 0)) := by
  unfold CPure
  k_fill
  k_with_none
  w_top off
  intro p loose mean mg mb dp un gd cn cs a ccd cl outer A₀ base h₀ L m news s Q E B F X N T hk hdp hun hpre hret

  refine wpAny_call ?_
  k_dflt ktr_enter
  rename Fr _ _ _ _ => F0
  revert F0
  show let m0 := _; Fr _ _ _ m0 → _
  intro m0 F0
  show let M0 := _; let A0 := _; let e0 := _; wpAny M0 A0 (execs _ e0) _ _ _
  intro M0 A0 e0
  (repeat' (first | ((with_reducible show wpAny _ _ (call (Value.ref _) _ _) _ _ _); ((with_reducible show wpAny _ _ (call (Value.ref 60) _ _) _ _ _); refine Park.out ?_)) | (with_reducible refine nxR ?_) | (with_reducible refine nxN ?_) | (with_reducible refine nxB ?_) | (with_reducible refine nxK ?_) | (with_reducible refine exN ?_) | (with_reducible refine exA ?zzhs ?_; (case zzhs => k_dflt (exact (rfl : (pure false : Sem Bool) = pure false))); intro zqk) | (with_reducible refine exI ?_; intro zqk) | (with_reducible refine exR ?_) | (with_reducible refine exG ?_; intro zqk) | (with_reducible refine exC ?_; intro zqk) | ((with_reducible show wpAny _ _ (eval (Expr.Name _ _) _) _ _ _); k_dflt (refine' nmL ?zzF ?zzv (rfl : true = true) ?zzl ?_; (case zzF => k_asm); (case zzl => exact rfl); (case zzv => exact (rfl : some _ = some _)); k_whole)) | ((with_reducible show wpAny _ _ (storeName _ _ _) _ _ _); k_dflt (refine' stX ?zzF ?zzN (rfl : true = true) ?zzl ?_; (case zzF => k_asm); (case zzN => k_asm); (case zzl => exact rfl); k_whole); intro zm1 zh zt zF zN; (try k_sweep)) | k_unfold | walk1 | (dsimp only; walk1) | leave1))
  refine join_list (D := l) (items := vs.toArray) ⟨_, ((by assumption : News _ _ _ news) _ hpre).1, rfl, nn, rfl⟩ hs (by rw [sum_S, List.length_map]; show _ + _ * 3 ≤ _; (first | lia | omega)) ?_
  intro t9 k9
  rw [join_dots]
  have hl9 : (S (glue dots ps)).length ≤ 900 := by rw [S_len]; have := glue_len dots ps; simp only [dots, List.length_cons, List.length_nil] at this ⊢; (first | lia | omega)
  (repeat' (first | ((with_reducible show wpAny _ _ (call (Value.ref _) _ _) _ _ _); ((with_reducible show wpAny _ _ (call (Value.ref 60) _ _) _ _ _); refine Park.out ?_)) | (with_reducible refine nxR ?_) | (with_reducible refine nxN ?_) | (with_reducible refine nxB ?_) | (with_reducible refine nxK ?_) | (with_reducible refine exN ?_) | (with_reducible refine exA ?zzhs ?_; (case zzhs => k_dflt (exact (rfl : (pure false : Sem Bool) = pure false))); intro zqk) | (with_reducible refine exI ?_; intro zqk) | (with_reducible refine exR ?_) | (with_reducible refine exG ?_; intro zqk) | (with_reducible refine exC ?_; intro zqk) | ((with_reducible show wpAny _ _ (eval (Expr.Name _ _) _) _ _ _); k_dflt (refine' nmL ?zzF ?zzv (rfl : true = true) ?zzl ?_; (case zzF => k_asm); (case zzl => exact rfl); (case zzv => exact (rfl : some _ = some _)); k_whole)) | ((with_reducible show wpAny _ _ (storeName _ _ _) _ _ _); k_dflt (refine' stX ?zzF ?zzN (rfl : true = true) ?zzl ?_; (case zzF => k_asm); (case zzN => k_asm); (case zzl => exact rfl); k_whole); intro zm1 zh zt zF zN; (try k_sweep)) | k_unfold | walk1 | (dsimp only; walk1) | leave1))
  refine Park.mk ?_
  rw [cat_dots]
  refine' CPure.use (ell_found w ps g _ t' hf hx hg) ?k1 ?k2 ?k3 ?k4 ?k5 ?kK ?kd ?ku trivial ?_
  ((case k1 => k_asm); (case k2 => k_asm); (case k3 => k_asm); (case k4 => k_asm); (case k5 => k_asm); (case kK => first | exact rfl | assumption); (case kd => first | exact room1 (by assumption) (by decide) | ((try dsimp only [A0]); ktr_room)); (case ku => first | exact units3 (by assumption) (by decide) | ktr_units))
  intro r h9 tk9 F9 N9 hr
  subst hr
  (try dsimp only)
  (repeat' (first | ((with_reducible show wpAny _ _ (call (Value.ref _) _ _) _ _ _); ((with_reducible show wpAny _ _ (call (Value.ref 60) _ _) _ _ _); refine Park.out ?_)) | (with_reducible refine nxR ?_) | (with_reducible refine nxN ?_) | (with_reducible refine nxB ?_) | (with_reducible refine nxK ?_) | (with_reducible refine exN ?_) | (with_reducible refine exA ?zzhs ?_; (case zzhs => k_dflt (exact (rfl : (pure false : Sem Bool) = pure false))); intro zqk) | (with_reducible refine exI ?_; intro zqk) | (with_reducible refine exR ?_) | (with_reducible refine exG ?_; intro zqk) | (with_reducible refine exC ?_; intro zqk) | ((with_reducible show wpAny _ _ (eval (Expr.Name _ _) _) _ _ _); k_dflt (refine' nmL ?zzF ?zzv (rfl : true = true) ?zzl ?_; (case zzF => k_asm); (case zzl => exact rfl); (case zzv => exact (rfl : some _ = some _)); k_whole)) | ((with_reducible show wpAny _ _ (storeName _ _ _) _ _ _); k_dflt (refine' stX ?zzF ?zzN (rfl : true = true) ?zzl ?_; (case zzF => k_asm); (case zzN => k_asm); (case zzl => exact rfl); k_whole); intro zm1 zh zt zF zN; (try k_sweep)) | k_unfold | walk1 | (dsimp only; walk1) | leave1))
  exact hret _ _ _ (by assumption) (by assumption) rfl
end
section
theorem parse_ok (w : World) (l : List Nat) (t : Tok) (hx : l.length < 1000) (h3 : l.take 3 = [50, 53, 55]) : CPure w 20 53 [.str (S l) t] (fun _ => True) (fun r => ∃ t', r = .str (S (parseP l)) t') := by
  unfold CPure
  k_fill
  k_with_none
  w_top off
  intro p loose mean mg mb dp un gd cn cs a ccd cl outer A₀ base h₀ L m news s Q E B F X N T hk hdp hun _ hret
  have hs := S_len l
  refine wpAny_call ?_
  k_dflt ktr_enter
  rename Fr _ _ _ _ => F0
  revert F0
  show let m0 := _; Fr _ _ _ m0 → _
  intro m0 F0
  show let M0 := _; let A0 := _; let e0 := _; wpAny M0 A0 (execs _ e0) _ _ _
  intro M0 A0 e0
  (repeat' (first | ((with_reducible show wpAny _ _ (exec (Stmt.While _ _ _ _) _) _ _ _); (refine Park.out ?_)) | ((with_reducible show wpAny _ _ (call (Value.builtin "len") _ _) _ _ _); (k_here; (with_reducible show wpAny _ _ (call _ [Value.str (S (List.getD _ _ [])) _]) _ _ _); k_dflt (refine len_piece (by assumption) (by first | lia | omega) ?_); intro zlp1 zlp2 zlp3)) | ((with_reducible show wpAny _ _ (call (Value.builtin "len") _ _) _ _ _); (k_here; (with_reducible show wpAny _ _ (call _ [Value.ref _]) _ _ _); k_dflt (refine my_len (by k_asm) (by walk_at "my mem") (by assumption) (by first | lia | omega) ?_))) | (with_reducible refine nxR ?_) | (with_reducible refine nxN ?_) | (with_reducible refine nxB ?_) | (with_reducible refine nxK ?_) | (with_reducible refine exN ?_) | (with_reducible refine exA ?zzhs ?_; (case zzhs => k_dflt (exact (rfl : (pure false : Sem Bool) = pure false))); intro zqk) | (with_reducible refine exI ?_; intro zqk) | (with_reducible refine exR ?_) | (with_reducible refine exG ?_; intro zqk) | (with_reducible refine exC ?_; intro zqk) | ((with_reducible show wpAny _ _ (eval (Expr.Name _ _) _) _ _ _); k_dflt (refine' nmL ?zzF ?zzv (rfl : true = true) ?zzl ?_; (case zzF => k_asm); (case zzl => exact rfl); (case zzv => exact (rfl : some _ = some _)); k_whole)) | ((with_reducible show wpAny _ _ (storeName _ _ _) _ _ _); k_dflt (refine' stY ?zzF ?zzN (rfl : true = true) ?zzl ?_; (case zzF => k_asm); (case zzN => k_asm); (case zzl => exact rfl); k_whole); intro zh zt zF zN; (try k_sweep)) | k_unfold | walk1 | (dsimp only; walk1) | leave1))
  · exact (parse_257 h3 (by assumption)).elim
  · exact hret _ _ _ (by assumption) (by assumption) ⟨_, congrArg (fun z => Value.str z _) (parse_nohead (by assumption))⟩
  · refine Park.mk ?_
    have hh := parse_head (l := l) (by assumption)
    k_with "state" => first
      | exact ⟨by first | lia | omega, by first | lia | omega, by decide, parse_start l⟩
      | exact ⟨by first | lia | omega, by first | lia | omega, by first | lia | omega, parse_two (by first | lia | omega) (by assumption) (by assumption) (by assumption) (by assumption) (by assumption)⟩
      | exact ⟨by first | lia | omega, by first | lia | omega, by first | lia | omega, parse_plain (by first | lia | omega) (by assumption) (by assumption) (by assumption)⟩
    k_while (fun _ i d => 5 ≤ i ∧ i ≤ (l.length : Int) ∧ (d.length : Int) ≤ i ∧ PInv l i d) (fun _ i _ => l.length - i.toNat) "i" "dirname"
    (repeat' (first | ((with_reducible show wpAny _ _ (exec (Stmt.While _ _ _ _) _) _ _ _); (refine Park.out ?_)) | ((with_reducible show wpAny _ _ (call (Value.builtin "len") _ _) _ _ _); (k_here; (with_reducible show wpAny _ _ (call _ [Value.str (S (List.getD _ _ [])) _]) _ _ _); k_dflt (refine len_piece (by assumption) (by first | lia | omega) ?_); intro zlp1 zlp2 zlp3)) | ((with_reducible show wpAny _ _ (call (Value.builtin "len") _ _) _ _ _); (k_here; (with_reducible show wpAny _ _ (call _ [Value.ref _]) _ _ _); k_dflt (refine my_len (by k_asm) (by walk_at "my mem") (by assumption) (by first | lia | omega) ?_))) | (with_reducible refine nxR ?_) | (with_reducible refine nxN ?_) | (with_reducible refine nxB ?_) | (with_reducible refine nxK ?_) | (with_reducible refine exN ?_) | (with_reducible refine exA ?zzhs ?_; (case zzhs => k_dflt (exact (rfl : (pure false : Sem Bool) = pure false))); intro zqk) | (with_reducible refine exI ?_; intro zqk) | (with_reducible refine exR ?_) | (with_reducible refine exG ?_; intro zqk) | (with_reducible refine exC ?_; intro zqk) | ((with_reducible show wpAny _ _ (eval (Expr.Name _ _) _) _ _ _); k_dflt (refine' nmL ?zzF ?zzv (rfl : true = true) ?zzl ?_; (case zzF => k_asm); (case zzl => exact rfl); (case zzv => exact (rfl : some _ = some _)); k_whole)) | ((with_reducible show wpAny _ _ (storeName _ _ _) _ _ _); k_dflt (refine' stY ?zzF ?zzN (rfl : true = true) ?zzl ?_; (case zzF => k_asm); (case zzN => k_asm); (case zzl => exact rfl); k_whole); intro zh zt zF zN; (try k_sweep)) | k_unfold | walk1 | (dsimp only; walk1) | leave1))
    all_goals (refine hret _ _ _ (by assumption) (by assumption) ⟨_, congrArg (fun z => Value.str z _) (Eq.trans ?_ (congrArg S hh.2.symm))⟩)
    · exact parse_brk1 (by first | lia | omega) (by assumption) (by assumption) (by assumption) (by assumption)
    · exact parse_brk2 (by first | lia | omega) (by assumption) (by assumption) (by assumption) (by assumption) (by assumption)
    · exact parse_out (by assumption) (by assumption)
end
section
theorem sign_ok (w : World) (n : Int) (t : Tok) (h0 : 0 ≤ n) (h1 : n < 2000000) : CPure w 20 109 [.int n t] (fun _ => True) (fun r => ∃ t', r = .str (S [signN n]) t') := by
  unfold CPure
  k_fill
  k_with_none
  w_top off
  intro p loose mean mg mb dp un gd cn cs a ccd cl outer A₀ base h₀ L m news s Q E B F X N T hk hdp hun hpre hret

  have hm8 := fm8 n
  refine wpAny_call ?_
  k_dflt ktr_enter
  rename Fr _ _ _ _ => F0
  revert F0
  show let m0 := _; Fr _ _ _ m0 → _
  intro m0 F0
  show let M0 := _; let A0 := _; let e0 := _; wpAny M0 A0 (execs _ e0) _ _ _
  intro M0 A0 e0
  (repeat' (first | (with_reducible refine nxR ?_) | (with_reducible refine nxN ?_) | (with_reducible refine nxB ?_) | (with_reducible refine nxK ?_) | (with_reducible refine exN ?_) | (with_reducible refine exA ?zzhs ?_; (case zzhs => k_dflt (exact (rfl : (pure false : Sem Bool) = pure false))); intro zqk) | (with_reducible refine exI ?_; intro zqk) | (with_reducible refine exR ?_) | (with_reducible refine exG ?_; intro zqk) | (with_reducible refine exC ?_; intro zqk) | ((with_reducible show wpAny _ _ (eval (Expr.Name _ _) _) _ _ _); k_dflt (refine' nmL ?zzF ?zzv (rfl : true = true) ?zzl ?_; (case zzF => k_asm); (case zzl => exact rfl); (case zzv => exact (rfl : some _ = some _)); k_whole)) | ((with_reducible show wpAny _ _ (storeName _ _ _) _ _ _); k_dflt (refine' stX ?zzF ?zzN (rfl : true = true) ?zzl ?_; (case zzF => k_asm); (case zzN => k_asm); (case zzl => exact rfl); k_whole); intro zm1 zh zt zF zN; (try k_sweep)) | k_unfold | walk1 | (dsimp only; walk1) | leave1))
  refine' item_tupleT ?ht ?hlo ?hhi ?hj ?hx ?_
  case ht => exact News.isTup (by assumption) (.head _)
  case hlo => (first | lia | omega)
  case hhi => (first | lia | omega)
  case hj => exact seq8 hm8.1 hm8.2
  case hx => exact (sign_pick hm8.1 hm8.2).choose_spec
  have hl9 := S_len [signC n]
  (repeat' (first | (with_reducible refine nxR ?_) | (with_reducible refine nxN ?_) | (with_reducible refine nxB ?_) | (with_reducible refine nxK ?_) | (with_reducible refine exN ?_) | (with_reducible refine exA ?zzhs ?_; (case zzhs => k_dflt (exact (rfl : (pure false : Sem Bool) = pure false))); intro zqk) | (with_reducible refine exI ?_; intro zqk) | (with_reducible refine exR ?_) | (with_reducible refine exG ?_; intro zqk) | (with_reducible refine exC ?_; intro zqk) | ((with_reducible show wpAny _ _ (eval (Expr.Name _ _) _) _ _ _); k_dflt (refine' nmL ?zzF ?zzv (rfl : true = true) ?zzl ?_; (case zzF => k_asm); (case zzl => exact rfl); (case zzv => exact (rfl : some _ = some _)); k_whole)) | ((with_reducible show wpAny _ _ (storeName _ _ _) _ _ _); k_dflt (refine' stX ?zzF ?zzN (rfl : true = true) ?zzl ?_; (case zzF => k_asm); (case zzN => k_asm); (case zzl => exact rfl); k_whole); intro zm1 zh zt zF zN; (try k_sweep)) | k_unfold | walk1 | (dsimp only; walk1) | leave1))
  · exact hret _ _ _ (by assumption) (news_sub (by assumption) (by (repeat' (first | exact sb0 | exact sbR | refine sbC ?_ ?_ | refine sbA ?_ ?_ | (walk_at "my mem") | refine sbT ?_ | (refine sbL ?_; (repeat (refine sbT ?_)); exact sbR) | refine sbr ?_)))) ⟨_, congrArg (fun z => Value.str z _) (sign_out (by assumption))⟩
  · exact hret _ _ _ (by assumption) (news_sub (by assumption) (by (repeat' (first | exact sb0 | exact sbR | refine sbC ?_ ?_ | refine sbA ?_ ?_ | (walk_at "my mem") | refine sbT ?_ | (refine sbL ?_; (repeat (refine sbT ?_)); exact sbR) | refine sbr ?_)))) ⟨_, congrArg (fun z => Value.str z _) (sign_a (by assumption))⟩
end
section
theorem fronts_ok (w : World) (l : Addr) (vs : List Value) (nn : Nat) (ps : List (List Nat)) (g : List Nat) (t' : Tok) (hs : StrsAre vs (ps.map S)) (hb : PB ps) (hg : g.length < 1000) :
    CNew w 30 121 [.str (S g) t', .ref l] (fun news => (l, listOf vs.toArray nn) ∈ news) (fun tl r => ∃ D us n, tl = [(D, listOf us.toArray n)] ∧ r = .ref D ∧ IntsAre us (natInts (fronts g ps))) := by
  unfold CNew
  k_fill
  k_with_none
  w_top off
  intro p loose mean mg mb dp un gd cn cs a ccd cl outer A₀ base h₀ L m news s Q E B F X N T hk hdp hun hpre hret

  have hlen := strs_Slen hs rfl
  have hpl := hb.len
  have hgl := S_len g
  refine wpAny_call ?_
  k_dflt ktr_enter
  rename Fr _ _ _ _ => F0
  revert F0
  show let m0 := _; Fr _ _ _ m0 → _
  intro m0 F0
  show let M0 := _; let A0 := _; let e0 := _; wpAny M0 A0 (execs _ e0) _ _ _
  intro M0 A0 e0
  (repeat' (first | ((with_reducible show wpAny _ _ (call (Value.builtin "len") _ _) _ _ _); (k_here; (with_reducible show wpAny _ _ (call _ [Value.str (S (List.getD _ _ [])) _]) _ _ _); k_dflt (refine len_piece (by assumption) (by first | lia | omega) ?_); intro zlp1 zlp2 zlp3)) | ((with_reducible show wpAny _ _ (call (Value.builtin "list.append") _ _) _ _ _); (k_here; (with_reducible show wpAny _ _ (call _ [Value.ref _, _]) _ _ _); k_dflt (refine my_append (by k_asm) (by k_asm) (by assumption) (by first | lia | omega) ?_); intro zh zF zN; (try k_sweep))) | ((with_reducible show wpAny _ _ (subscriptTail _ _ (Value.ref _) (Value.int _ _)) _ _ _); ((k_here; (with_reducible show wpAny _ _ (subscriptTail _ _ (Value.ref _) (Value.int _ _)) _ _ _); k_dflt (first | refine my_item (by k_asm) (by walk_at "my mem") (by assumption) (by first | lia | omega) (by first | lia | omega) (by first | lia | omega) ?_ (by with_unfolding_all rfl) (by with_unfolding_all (intro _; rfl)) | refine my_nat (by k_asm) (by walk_at "my mem") (by assumption) (by first | lia | omega) (by first | lia | omega) (by first | lia | omega) ?_ (by with_unfolding_all rfl) (by with_unfolding_all (intro _; rfl))); intro zt))) | ((with_reducible show wpAny _ _ (call (Value.builtin "len") _ _) _ _ _); (k_here; (with_reducible show wpAny _ _ (call _ [Value.ref _]) _ _ _); k_dflt (refine my_len (by k_asm) (by walk_at "my mem") (by assumption) (by first | lia | omega) ?_))) | ((with_reducible show TurnEnds _ _ _ _ _ _ _ _ _ _ _); (refine Park.out ?_)) | ((with_reducible show TurnPost _ _ _ _ _ _ _ _ _ _ _ _ _); (dsimp only [TurnPost])) | ((with_reducible show wpAny _ _ (pyIter (Value.ref _)) _ _ _); (refine Park.out ?_)) | ((with_reducible show wpAny _ _ (exec (Stmt.For (Expr.Name _ _) (Expr.Call _ _ _ _) _ _ _) _) _ _ _); ((k_here; (rename Fr _ _ _ _ => zlF); (with_unfolding_all refine' For_invVF zlF ?zzk1 ?zzk2 ?_; (case zzk1 => exact rfl); (case zzk2 => exact rfl); k_whole)))) | (with_reducible refine nxR ?_) | (with_reducible refine nxN ?_) | (with_reducible refine nxB ?_) | (with_reducible refine nxK ?_) | (with_reducible refine exN ?_) | (with_reducible refine exA ?zzhs ?_; (case zzhs => k_dflt (exact (rfl : (pure false : Sem Bool) = pure false))); intro zqk) | (with_reducible refine exI ?_; intro zqk) | (with_reducible refine exR ?_) | (with_reducible refine exG ?_; intro zqk) | (with_reducible refine exC ?_; intro zqk) | ((with_reducible show wpAny _ _ (eval (Expr.Name _ _) _) _ _ _); k_dflt (refine' nmL ?zzF ?zzv (rfl : true = true) ?zzl ?_; (case zzF => k_asm); (case zzl => exact rfl); (case zzv => exact (rfl : some _ = some _)); k_whole)) | ((with_reducible show wpAny _ _ (storeName _ _ _) _ _ _); k_dflt (refine' stX ?zzF ?zzN (rfl : true = true) ?zzl ?_; (case zzF => k_asm); (case zzN => k_asm); (case zzl => exact rfl); k_whole); intro zm1 zh zt zF zN; (try k_sweep)) | k_unfold | walk1 | (dsimp only; walk1) | leave1))
  refine Park.mk ?_
  (rename Fr _ _ _ _ => lF'); (rename News _ _ _ _ => lN'); (rename IsRange _ _ _ _ _ _ _ _ => rgX)
  with_unfolding_all refine' my_range (n := g.length) (σ := List Value × Nat) (fun c => (_, listOf c.1.toArray c.2) :: news) (fun _ => []) [Str.ofString "best", Str.ofString "start"] (fun i c => IntsAre c.1 (natInts (frontsTo g ps i))) ([.int 0 _], 0) (by rfl) rgX ?hsm ?hn lF' lN' ?hk ?hp ?turn ?done
  case hsm => exact small_one (by first | lia | omega) (by first | lia | omega) (by first | lia | omega) (by first | lia | omega)
  case hn => rw [hgl]; exact (rangeSize_nat _ _).trans (by first | lia | omega)
  case hk => exact List.forall_mem_nil _
  case hp => exact .cons _ _ .nil
  case turn =>
    intro c i t u h tk own hi hoff hP F' N'
    have hci := natInts_len (frontsTo g ps i)
    have hcl := frontsTo_len g ps i
    have hcv := hP.length
    have hne := ne_of_off (by assumption) hoff
    have hle := fun k => frontsTo_le g ps i k
    rw [List.cons_append] at N'
    (repeat' (first | ((with_reducible show wpAny _ _ (call (Value.builtin "len") _ _) _ _ _); (k_here; (with_reducible show wpAny _ _ (call _ [Value.str (S (List.getD _ _ [])) _]) _ _ _); k_dflt (refine len_piece (by assumption) (by first | lia | omega) ?_); intro zlp1 zlp2 zlp3)) | ((with_reducible show wpAny _ _ (call (Value.builtin "list.append") _ _) _ _ _); (k_here; (with_reducible show wpAny _ _ (call _ [Value.ref _, _]) _ _ _); k_dflt (refine my_append (by k_asm) (by k_asm) (by assumption) (by first | lia | omega) ?_); intro zh zF zN; (try k_sweep))) | ((with_reducible show wpAny _ _ (subscriptTail _ _ (Value.ref _) (Value.int _ _)) _ _ _); ((k_here; (with_reducible show wpAny _ _ (subscriptTail _ _ (Value.ref _) (Value.int _ _)) _ _ _); k_dflt (first | refine my_item (by k_asm) (by walk_at "my mem") (by assumption) (by first | lia | omega) (by first | lia | omega) (by first | lia | omega) ?_ (by with_unfolding_all rfl) (by with_unfolding_all (intro _; rfl)) | refine my_nat (by k_asm) (by walk_at "my mem") (by assumption) (by first | lia | omega) (by first | lia | omega) (by first | lia | omega) ?_ (by with_unfolding_all rfl) (by with_unfolding_all (intro _; rfl))); intro zt))) | ((with_reducible show wpAny _ _ (call (Value.builtin "len") _ _) _ _ _); (k_here; (with_reducible show wpAny _ _ (call _ [Value.ref _]) _ _ _); k_dflt (refine my_len (by k_asm) (by walk_at "my mem") (by assumption) (by first | lia | omega) ?_))) | ((with_reducible show TurnEnds _ _ _ _ _ _ _ _ _ _ _); (refine Park.out ?_)) | ((with_reducible show TurnPost _ _ _ _ _ _ _ _ _ _ _ _ _); (dsimp only [TurnPost])) | ((with_reducible show wpAny _ _ (pyIter (Value.ref _)) _ _ _); (refine Park.out ?_)) | ((with_reducible show wpAny _ _ (exec (Stmt.For (Expr.Name _ _) (Expr.Call _ _ _ _) _ _ _) _) _ _ _); ((k_here; (rename Fr _ _ _ _ => zlF); (with_unfolding_all refine' For_invVF zlF ?zzk1 ?zzk2 ?_; (case zzk1 => exact rfl); (case zzk2 => exact rfl); k_whole)))) | (with_reducible refine nxR ?_) | (with_reducible refine nxN ?_) | (with_reducible refine nxB ?_) | (with_reducible refine nxK ?_) | (with_reducible refine exN ?_) | (with_reducible refine exA ?zzhs ?_; (case zzhs => k_dflt (exact (rfl : (pure false : Sem Bool) = pure false))); intro zqk) | (with_reducible refine exI ?_; intro zqk) | (with_reducible refine exR ?_) | (with_reducible refine exG ?_; intro zqk) | (with_reducible refine exC ?_; intro zqk) | ((with_reducible show wpAny _ _ (eval (Expr.Name _ _) _) _ _ _); k_dflt (refine' nmL ?zzF ?zzv (rfl : true = true) ?zzl ?_; (case zzF => k_asm); (case zzl => exact rfl); (case zzv => exact (rfl : some _ = some _)); k_whole)) | ((with_reducible show wpAny _ _ (storeName _ _ _) _ _ _); k_dflt (refine' stX ?zzF ?zzN (rfl : true = true) ?zzl ?_; (case zzF => k_asm); (case zzN => k_asm); (case zzl => exact rfl); k_whole); intro zm1 zh zt zF zN; (try k_sweep)) | k_unfold | walk1 | (dsimp only; walk1) | leave1))
    all_goals (refine Park.mk (turn_ends (_, _) (by assumption) (by assumption) (by kst_in) (by intro p hp; kst_mem) (tboff_head hoff) (List.forall_mem_nil _) (by (refine ovE ?_; (repeat' (first | (with_reducible exact ov0) | k_dflt (refine ovI (rfl : true = true) ?_) | k_dflt (refine ovK (rfl : true = true) ?_) | k_dflt (refine ovS (rfl : true = true) ?_) | k_dflt (exact ov0))))) (ints_snoc hP ?_)))
    all_goals first
      | exact fn_E (by assumption) (by assumption) (by assumption) (by assumption)
      | exact fn_D (by assumption) (by assumption) (by assumption)
      | exact fn_C (by assumption) (by assumption) (by assumption)
      | exact fn_B (by assumption) (by assumption)
      | exact fn_A (by assumption)
  case done =>
    intro c u h tk hP F' N'
    (repeat' (first | ((with_reducible show wpAny _ _ (call (Value.builtin "len") _ _) _ _ _); (k_here; (with_reducible show wpAny _ _ (call _ [Value.str (S (List.getD _ _ [])) _]) _ _ _); k_dflt (refine len_piece (by assumption) (by first | lia | omega) ?_); intro zlp1 zlp2 zlp3)) | ((with_reducible show wpAny _ _ (call (Value.builtin "list.append") _ _) _ _ _); (k_here; (with_reducible show wpAny _ _ (call _ [Value.ref _, _]) _ _ _); k_dflt (refine my_append (by k_asm) (by k_asm) (by assumption) (by first | lia | omega) ?_); intro zh zF zN; (try k_sweep))) | ((with_reducible show wpAny _ _ (subscriptTail _ _ (Value.ref _) (Value.int _ _)) _ _ _); ((k_here; (with_reducible show wpAny _ _ (subscriptTail _ _ (Value.ref _) (Value.int _ _)) _ _ _); k_dflt (first | refine my_item (by k_asm) (by walk_at "my mem") (by assumption) (by first | lia | omega) (by first | lia | omega) (by first | lia | omega) ?_ (by with_unfolding_all rfl) (by with_unfolding_all (intro _; rfl)) | refine my_nat (by k_asm) (by walk_at "my mem") (by assumption) (by first | lia | omega) (by first | lia | omega) (by first | lia | omega) ?_ (by with_unfolding_all rfl) (by with_unfolding_all (intro _; rfl))); intro zt))) | ((with_reducible show wpAny _ _ (call (Value.builtin "len") _ _) _ _ _); (k_here; (with_reducible show wpAny _ _ (call _ [Value.ref _]) _ _ _); k_dflt (refine my_len (by k_asm) (by walk_at "my mem") (by assumption) (by first | lia | omega) ?_))) | ((with_reducible show TurnEnds _ _ _ _ _ _ _ _ _ _ _); (refine Park.out ?_)) | ((with_reducible show TurnPost _ _ _ _ _ _ _ _ _ _ _ _ _); (dsimp only [TurnPost])) | ((with_reducible show wpAny _ _ (pyIter (Value.ref _)) _ _ _); (refine Park.out ?_)) | ((with_reducible show wpAny _ _ (exec (Stmt.For (Expr.Name _ _) (Expr.Call _ _ _ _) _ _ _) _) _ _ _); ((k_here; (rename Fr _ _ _ _ => zlF); (with_unfolding_all refine' For_invVF zlF ?zzk1 ?zzk2 ?_; (case zzk1 => exact rfl); (case zzk2 => exact rfl); k_whole)))) | (with_reducible refine nxR ?_) | (with_reducible refine nxN ?_) | (with_reducible refine nxB ?_) | (with_reducible refine nxK ?_) | (with_reducible refine exN ?_) | (with_reducible refine exA ?zzhs ?_; (case zzhs => k_dflt (exact (rfl : (pure false : Sem Bool) = pure false))); intro zqk) | (with_reducible refine exI ?_; intro zqk) | (with_reducible refine exR ?_) | (with_reducible refine exG ?_; intro zqk) | (with_reducible refine exC ?_; intro zqk) | ((with_reducible show wpAny _ _ (eval (Expr.Name _ _) _) _ _ _); k_dflt (refine' nmL ?zzF ?zzv (rfl : true = true) ?zzl ?_; (case zzF => k_asm); (case zzl => exact rfl); (case zzv => exact (rfl : some _ = some _)); k_whole)) | ((with_reducible show wpAny _ _ (storeName _ _ _) _ _ _); k_dflt (refine' stX ?zzF ?zzN (rfl : true = true) ?zzl ?_; (case zzF => k_asm); (case zzN => k_asm); (case zzl => exact rfl); k_whole); intro zm1 zh zt zF zN; (try k_sweep)) | k_unfold | walk1 | (dsimp only; walk1) | leave1))
    exact hret _ [(_, _)] _ _ (by assumption) (by assumption) (one_above (by assumption)) ⟨_, _, _, rfl, rfl, hP⟩
end
section
theorem first_ones_ok (w : World) (l : Addr) (vs : List Value) (nn : Nat) (ps : List (List Nat)) (g : List Nat) (fit : Nat) (t t' : Tok) (hs : StrsAre vs (ps.map S)) (hb : PB ps) (hg : g.length < 1000)
   (hfit : fit ≤ ps.length) (h1 : foundGo (ps.take fit) g 0 = true) (h2 : fit ≠ ps.length → foundGo (ps.take (fit + 1)) g 0 = false) : CPure w 40 163 [.ref l, .int (fit : Int) t, .str (S g) t'] (fun news => (l, listOf vs.toArray nn) ∈ news) (fun r => r = .bool true) := by
  unfold CPure
  k_fill
  k_with_none
  w_top off
  intro p loose mean mg mb dp un gd cn cs a ccd cl outer A₀ base h₀ L m news s Q E B F X N T hk hdp hun hpre hret

  have hlen := strs_Slen hs rfl
  have hpl := hb.len
  refine wpAny_call ?_
  k_dflt ktr_enter
  rename Fr _ _ _ _ => F0
  revert F0
  show let m0 := _; Fr _ _ _ m0 → _
  intro m0 F0
  show let M0 := _; let A0 := _; let e0 := _; wpAny M0 A0 (execs _ e0) _ _ _
  intro M0 A0 e0
  (repeat' (first | ((with_reducible show wpAny _ _ (call (Value.ref _) _ _) _ _ _); ((with_reducible show wpAny _ _ (call (Value.ref 156) _ _) _ _ _); refine Park.out ?_)) | ((with_reducible show wpAny _ _ (call (Value.builtin "len") _ _) _ _ _); (k_here; (with_reducible show wpAny _ _ (call _ [Value.str (S (List.getD _ _ [])) _]) _ _ _); k_dflt (refine len_piece (by assumption) (by first | lia | omega) ?_); intro zlp1 zlp2 zlp3)) | ((with_reducible show wpAny _ _ (subscriptTail (Expr.Name _ _) (Expr.Slice _ _ _ _) (Value.ref _) (Value.ref _)) _ _ _); (k_here; k_dflt (first | refine my_upto (by k_asm) (by k_asm) (by walk_at "my mem") (by first | lia | omega) (by first | lia | omega) ?_ (by with_unfolding_all rfl) (by kmk_pure) | refine my_from (by k_asm) (by k_asm) (by walk_at "my mem") (by first | lia | omega) (by first | lia | omega) ?_ (by with_unfolding_all rfl) (by kmk_pure)); intro zD zh zF zN zl1; (try k_lt zl1); (try k_sweep))) | ((with_reducible show wpAny _ _ (call (Value.builtin "len") _ _) _ _ _); (k_here; (with_reducible show wpAny _ _ (call _ [Value.ref _]) _ _ _); k_dflt (refine my_len (by k_asm) (by walk_at "my mem") (by assumption) (by first | lia | omega) ?_))) | (with_reducible refine nxR ?_) | (with_reducible refine nxN ?_) | (with_reducible refine nxB ?_) | (with_reducible refine nxK ?_) | (with_reducible refine exN ?_) | (with_reducible refine exA ?zzhs ?_; (case zzhs => k_dflt (exact (rfl : (pure false : Sem Bool) = pure false))); intro zqk) | (with_reducible refine exI ?_; intro zqk) | (with_reducible refine exR ?_) | (with_reducible refine exG ?_; intro zqk) | (with_reducible refine exC ?_; intro zqk) | ((with_reducible show wpAny _ _ (eval (Expr.Name _ _) _) _ _ _); k_dflt (refine' nmL ?zzF ?zzv (rfl : true = true) ?zzl ?_; (case zzF => k_asm); (case zzl => exact rfl); (case zzv => exact (rfl : some _ = some _)); k_whole)) | ((with_reducible show wpAny _ _ (storeName _ _ _) _ _ _); k_dflt (refine' stX ?zzF ?zzN (rfl : true = true) ?zzl ?_; (case zzF => k_asm); (case zzN => k_asm); (case zzl => exact rfl); k_whole); intro zm1 zh zt zF zN; (try k_sweep)) | k_unfold | walk1 | (dsimp only; walk1) | leave1))
  refine Park.mk ?_
  refine' CPure.use (found_ok w _ _ 0 (ps.take fit) g t' (strs_take hs fit) (hb.take fit).dots (hb.take fit).2 hg) ?k1 ?k2 ?k3 ?k4 ?k5 ?kK ?kd ?ku ?kp ?_
  ((case k1 => k_asm); (case k2 => k_asm); (case k3 => k_asm); (case k4 => k_asm); (case k5 => k_asm); (case kK => first | exact rfl | assumption); (case kd => first | exact room1 (by assumption) (by decide) | ((try dsimp only [A0]); ktr_room)); (case ku => first | exact units3 (by assumption) (by decide) | ktr_units))
  case kp => exact .head _
  intro r h9 tk9 F9 N9 hr
  subst hr
  rw [h1]
  (try dsimp only)
  (repeat' (first | ((with_reducible show wpAny _ _ (call (Value.ref _) _ _) _ _ _); ((with_reducible show wpAny _ _ (call (Value.ref 156) _ _) _ _ _); refine Park.out ?_)) | ((with_reducible show wpAny _ _ (call (Value.builtin "len") _ _) _ _ _); (k_here; (with_reducible show wpAny _ _ (call _ [Value.str (S (List.getD _ _ [])) _]) _ _ _); k_dflt (refine len_piece (by assumption) (by first | lia | omega) ?_); intro zlp1 zlp2 zlp3)) | ((with_reducible show wpAny _ _ (subscriptTail (Expr.Name _ _) (Expr.Slice _ _ _ _) (Value.ref _) (Value.ref _)) _ _ _); (k_here; k_dflt (first | refine my_upto (by k_asm) (by k_asm) (by walk_at "my mem") (by first | lia | omega) (by first | lia | omega) ?_ (by with_unfolding_all rfl) (by kmk_pure) | refine my_from (by k_asm) (by k_asm) (by walk_at "my mem") (by first | lia | omega) (by first | lia | omega) ?_ (by with_unfolding_all rfl) (by kmk_pure)); intro zD zh zF zN zl1; (try k_lt zl1); (try k_sweep))) | ((with_reducible show wpAny _ _ (call (Value.builtin "len") _ _) _ _ _); (k_here; (with_reducible show wpAny _ _ (call _ [Value.ref _]) _ _ _); k_dflt (refine my_len (by k_asm) (by walk_at "my mem") (by assumption) (by first | lia | omega) ?_))) | (with_reducible refine nxR ?_) | (with_reducible refine nxN ?_) | (with_reducible refine nxB ?_) | (with_reducible refine nxK ?_) | (with_reducible refine exN ?_) | (with_reducible refine exA ?zzhs ?_; (case zzhs => k_dflt (exact (rfl : (pure false : Sem Bool) = pure false))); intro zqk) | (with_reducible refine exI ?_; intro zqk) | (with_reducible refine exR ?_) | (with_reducible refine exG ?_; intro zqk) | (with_reducible refine exC ?_; intro zqk) | ((with_reducible show wpAny _ _ (eval (Expr.Name _ _) _) _ _ _); k_dflt (refine' nmL ?zzF ?zzv (rfl : true = true) ?zzl ?_; (case zzF => k_asm); (case zzl => exact rfl); (case zzv => exact (rfl : some _ = some _)); k_whole)) | ((with_reducible show wpAny _ _ (storeName _ _ _) _ _ _); k_dflt (refine' stX ?zzF ?zzN (rfl : true = true) ?zzl ?_; (case zzF => k_asm); (case zzN => k_asm); (case zzl => exact rfl); k_whole); intro zm1 zh zt zF zN; (try k_sweep)) | k_unfold | walk1 | (dsimp only; walk1) | leave1))
  · exact hret _ _ _ (by assumption) (news_sub (by assumption) (by (repeat' (first | exact sb0 | exact sbR | refine sbC ?_ ?_ | refine sbA ?_ ?_ | (walk_at "my mem") | refine sbT ?_ | (refine sbL ?_; (repeat (refine sbT ?_)); exact sbR) | refine sbr ?_)))) (congrArg Value.bool (beq_iff_eq.mpr (by assumption)))
  · have hne : fit ≠ ps.length := fun e => (by assumption : (fit : Int) ≠ (ps.length : Int)) (by rw [e])
    refine Park.mk ?_
    refine' CPure.use (found_ok w _ _ 0 (ps.take (Int.toNat ((fit : Int) + 1))) g t' (strs_take hs _) (hb.take _).dots (hb.take _).2 hg) ?k1 ?k2 ?k3 ?k4 ?k5 ?kK ?kd ?ku ?kp ?_
    ((case k1 => k_asm); (case k2 => k_asm); (case k3 => k_asm); (case k4 => k_asm); (case k5 => k_asm); (case kK => first | exact rfl | assumption); (case kd => first | exact room1 (by assumption) (by decide) | ((try dsimp only [A0]); ktr_room)); (case ku => first | exact units3 (by assumption) (by decide) | ktr_units))
    case kp => exact .head _
    intro r h9 tk9 F9 N9 hr
    subst hr
    rw [show Int.toNat ((fit : Int) + 1) = fit + 1 from by first | lia | omega, h2 hne]
    (try dsimp only)
    (repeat' (first | ((with_reducible show wpAny _ _ (call (Value.ref _) _ _) _ _ _); ((with_reducible show wpAny _ _ (call (Value.ref 156) _ _) _ _ _); refine Park.out ?_)) | ((with_reducible show wpAny _ _ (call (Value.builtin "len") _ _) _ _ _); (k_here; (with_reducible show wpAny _ _ (call _ [Value.str (S (List.getD _ _ [])) _]) _ _ _); k_dflt (refine len_piece (by assumption) (by first | lia | omega) ?_); intro zlp1 zlp2 zlp3)) | ((with_reducible show wpAny _ _ (subscriptTail (Expr.Name _ _) (Expr.Slice _ _ _ _) (Value.ref _) (Value.ref _)) _ _ _); (k_here; k_dflt (first | refine my_upto (by k_asm) (by k_asm) (by walk_at "my mem") (by first | lia | omega) (by first | lia | omega) ?_ (by with_unfolding_all rfl) (by kmk_pure) | refine my_from (by k_asm) (by k_asm) (by walk_at "my mem") (by first | lia | omega) (by first | lia | omega) ?_ (by with_unfolding_all rfl) (by kmk_pure)); intro zD zh zF zN zl1; (try k_lt zl1); (try k_sweep))) | ((with_reducible show wpAny _ _ (call (Value.builtin "len") _ _) _ _ _); (k_here; (with_reducible show wpAny _ _ (call _ [Value.ref _]) _ _ _); k_dflt (refine my_len (by k_asm) (by walk_at "my mem") (by assumption) (by first | lia | omega) ?_))) | (with_reducible refine nxR ?_) | (with_reducible refine nxN ?_) | (with_reducible refine nxB ?_) | (with_reducible refine nxK ?_) | (with_reducible refine exN ?_) | (with_reducible refine exA ?zzhs ?_; (case zzhs => k_dflt (exact (rfl : (pure false : Sem Bool) = pure false))); intro zqk) | (with_reducible refine exI ?_; intro zqk) | (with_reducible refine exR ?_) | (with_reducible refine exG ?_; intro zqk) | (with_reducible refine exC ?_; intro zqk) | ((with_reducible show wpAny _ _ (eval (Expr.Name _ _) _) _ _ _); k_dflt (refine' nmL ?zzF ?zzv (rfl : true = true) ?zzl ?_; (case zzF => k_asm); (case zzl => exact rfl); (case zzv => exact (rfl : some _ = some _)); k_whole)) | ((with_reducible show wpAny _ _ (storeName _ _ _) _ _ _); k_dflt (refine' stX ?zzF ?zzN (rfl : true = true) ?zzl ?_; (case zzF => k_asm); (case zzN => k_asm); (case zzl => exact rfl); k_whole); intro zm1 zh zt zF zN; (try k_sweep)) | k_unfold | walk1 | (dsimp only; walk1) | leave1))
    exact hret _ _ _ (by assumption) (news_sub (by assumption) (by (repeat' (first | exact sb0 | exact sbR | refine sbC ?_ ?_ | refine sbA ?_ ?_ | (walk_at "my mem") | refine sbT ?_ | (refine sbL ?_; (repeat (refine sbT ?_)); exact sbR) | refine sbr ?_)))) rfl
end
section
theorem last_ones_ok (w : World) (l : Addr) (vs : List Value) (nn : Nat) (ps : List (List Nat)) (g : List Nat) (fit : Nat) (t t' : Tok) (hs : StrsAre vs (ps.map S)) (hb : PB ps) (hg : g.length < 1000)
   (hfit : fit ≤ ps.length) (h1 : foundGo (ps.drop (ps.length - fit)) g 0 = true) (h2 : fit ≠ ps.length → foundGo (ps.drop (ps.length - fit - 1)) g 0 = false) : CPure w 40 170 [.ref l, .int (fit : Int) t, .str (S g) t'] (fun news => (l, listOf vs.toArray nn) ∈ news) (fun r => r = .bool true) := by
  unfold CPure
  k_fill
  k_with_none
  w_top off
  intro p loose mean mg mb dp un gd cn cs a ccd cl outer A₀ base h₀ L m news s Q E B F X N T hk hdp hun hpre hret

  have hlen := strs_Slen hs rfl
  have hpl := hb.len
  refine wpAny_call ?_
  k_dflt ktr_enter
  rename Fr _ _ _ _ => F0
  revert F0
  show let m0 := _; Fr _ _ _ m0 → _
  intro m0 F0
  show let M0 := _; let A0 := _; let e0 := _; wpAny M0 A0 (execs _ e0) _ _ _
  intro M0 A0 e0
  (repeat' (first | ((with_reducible show wpAny _ _ (call (Value.ref _) _ _) _ _ _); ((with_reducible show wpAny _ _ (call (Value.ref 156) _ _) _ _ _); refine Park.out ?_)) | ((with_reducible show wpAny _ _ (call (Value.builtin "len") _ _) _ _ _); (k_here; (with_reducible show wpAny _ _ (call _ [Value.str (S (List.getD _ _ [])) _]) _ _ _); k_dflt (refine len_piece (by assumption) (by first | lia | omega) ?_); intro zlp1 zlp2 zlp3)) | ((with_reducible show wpAny _ _ (subscriptTail (Expr.Name _ _) (Expr.Slice _ _ _ _) (Value.ref _) (Value.ref _)) _ _ _); (k_here; k_dflt (first | refine my_upto (by k_asm) (by k_asm) (by walk_at "my mem") (by first | lia | omega) (by first | lia | omega) ?_ (by with_unfolding_all rfl) (by kmk_pure) | refine my_from (by k_asm) (by k_asm) (by walk_at "my mem") (by first | lia | omega) (by first | lia | omega) ?_ (by with_unfolding_all rfl) (by kmk_pure)); intro zD zh zF zN zl1; (try k_lt zl1); (try k_sweep))) | ((with_reducible show wpAny _ _ (call (Value.builtin "len") _ _) _ _ _); (k_here; (with_reducible show wpAny _ _ (call _ [Value.ref _]) _ _ _); k_dflt (refine my_len (by k_asm) (by walk_at "my mem") (by assumption) (by first | lia | omega) ?_))) | (with_reducible refine nxR ?_) | (with_reducible refine nxN ?_) | (with_reducible refine nxB ?_) | (with_reducible refine nxK ?_) | (with_reducible refine exN ?_) | (with_reducible refine exA ?zzhs ?_; (case zzhs => k_dflt (exact (rfl : (pure false : Sem Bool) = pure false))); intro zqk) | (with_reducible refine exI ?_; intro zqk) | (with_reducible refine exR ?_) | (with_reducible refine exG ?_; intro zqk) | (with_reducible refine exC ?_; intro zqk) | ((with_reducible show wpAny _ _ (eval (Expr.Name _ _) _) _ _ _); k_dflt (refine' nmL ?zzF ?zzv (rfl : true = true) ?zzl ?_; (case zzF => k_asm); (case zzl => exact rfl); (case zzv => exact (rfl : some _ = some _)); k_whole)) | ((with_reducible show wpAny _ _ (storeName _ _ _) _ _ _); k_dflt (refine' stX ?zzF ?zzN (rfl : true = true) ?zzl ?_; (case zzF => k_asm); (case zzN => k_asm); (case zzl => exact rfl); k_whole); intro zm1 zh zt zF zN; (try k_sweep)) | k_unfold | walk1 | (dsimp only; walk1) | leave1))
  refine Park.mk ?_
  refine' CPure.use (found_ok w _ _ 0 (ps.drop (Int.toNat ((ps.length : Int) - (fit : Int)))) g t' (strs_drop hs _) (hb.drop _).dots (hb.drop _).2 hg) ?k1 ?k2 ?k3 ?k4 ?k5 ?kK ?kd ?ku ?kp ?_
  ((case k1 => k_asm); (case k2 => k_asm); (case k3 => k_asm); (case k4 => k_asm); (case k5 => k_asm); (case kK => first | exact rfl | assumption); (case kd => first | exact room1 (by assumption) (by decide) | ((try dsimp only [A0]); ktr_room)); (case ku => first | exact units3 (by assumption) (by decide) | ktr_units))
  case kp => exact .head _
  intro r h9 tk9 F9 N9 hr
  subst hr
  rw [show Int.toNat ((ps.length : Int) - (fit : Int)) = ps.length - fit from by first | lia | omega, h1]
  (try dsimp only)
  (repeat' (first | ((with_reducible show wpAny _ _ (call (Value.ref _) _ _) _ _ _); ((with_reducible show wpAny _ _ (call (Value.ref 156) _ _) _ _ _); refine Park.out ?_)) | ((with_reducible show wpAny _ _ (call (Value.builtin "len") _ _) _ _ _); (k_here; (with_reducible show wpAny _ _ (call _ [Value.str (S (List.getD _ _ [])) _]) _ _ _); k_dflt (refine len_piece (by assumption) (by first | lia | omega) ?_); intro zlp1 zlp2 zlp3)) | ((with_reducible show wpAny _ _ (subscriptTail (Expr.Name _ _) (Expr.Slice _ _ _ _) (Value.ref _) (Value.ref _)) _ _ _); (k_here; k_dflt (first | refine my_upto (by k_asm) (by k_asm) (by walk_at "my mem") (by first | lia | omega) (by first | lia | omega) ?_ (by with_unfolding_all rfl) (by kmk_pure) | refine my_from (by k_asm) (by k_asm) (by walk_at "my mem") (by first | lia | omega) (by first | lia | omega) ?_ (by with_unfolding_all rfl) (by kmk_pure)); intro zD zh zF zN zl1; (try k_lt zl1); (try k_sweep))) | ((with_reducible show wpAny _ _ (call (Value.builtin "len") _ _) _ _ _); (k_here; (with_reducible show wpAny _ _ (call _ [Value.ref _]) _ _ _); k_dflt (refine my_len (by k_asm) (by walk_at "my mem") (by assumption) (by first | lia | omega) ?_))) | (with_reducible refine nxR ?_) | (with_reducible refine nxN ?_) | (with_reducible refine nxB ?_) | (with_reducible refine nxK ?_) | (with_reducible refine exN ?_) | (with_reducible refine exA ?zzhs ?_; (case zzhs => k_dflt (exact (rfl : (pure false : Sem Bool) = pure false))); intro zqk) | (with_reducible refine exI ?_; intro zqk) | (with_reducible refine exR ?_) | (with_reducible refine exG ?_; intro zqk) | (with_reducible refine exC ?_; intro zqk) | ((with_reducible show wpAny _ _ (eval (Expr.Name _ _) _) _ _ _); k_dflt (refine' nmL ?zzF ?zzv (rfl : true = true) ?zzl ?_; (case zzF => k_asm); (case zzl => exact rfl); (case zzv => exact (rfl : some _ = some _)); k_whole)) | ((with_reducible show wpAny _ _ (storeName _ _ _) _ _ _); k_dflt (refine' stX ?zzF ?zzN (rfl : true = true) ?zzl ?_; (case zzF => k_asm); (case zzN => k_asm); (case zzl => exact rfl); k_whole); intro zm1 zh zt zF zN; (try k_sweep)) | k_unfold | walk1 | (dsimp only; walk1) | leave1))
  · exact hret _ _ _ (by assumption) (news_sub (by assumption) (by (repeat' (first | exact sb0 | exact sbR | refine sbC ?_ ?_ | refine sbA ?_ ?_ | (walk_at "my mem") | refine sbT ?_ | (refine sbL ?_; (repeat (refine sbT ?_)); exact sbR) | refine sbr ?_)))) (congrArg Value.bool (beq_iff_eq.mpr (by assumption)))
  · have hne : fit ≠ ps.length := fun e => (by assumption : (ps.length : Int) - (fit : Int) ≠ 0) (by rw [e]; (first | lia | omega))
    refine Park.mk ?_
    refine' CPure.use (found_ok w _ _ 0 (ps.drop (Int.toNat ((ps.length : Int) - (fit : Int) - 1))) g t' (strs_drop hs _) (hb.drop _).dots (hb.drop _).2 hg) ?k1 ?k2 ?k3 ?k4 ?k5 ?kK ?kd ?ku ?kp ?_
    ((case k1 => k_asm); (case k2 => k_asm); (case k3 => k_asm); (case k4 => k_asm); (case k5 => k_asm); (case kK => first | exact rfl | assumption); (case kd => first | exact room1 (by assumption) (by decide) | ((try dsimp only [A0]); ktr_room)); (case ku => first | exact units3 (by assumption) (by decide) | ktr_units))
    case kp => exact .head _
    intro r h9 tk9 F9 N9 hr
    subst hr
    rw [show Int.toNat ((ps.length : Int) - (fit : Int) - 1) = ps.length - fit - 1 from by first | lia | omega, h2 hne]
    (try dsimp only)
    (repeat' (first | ((with_reducible show wpAny _ _ (call (Value.ref _) _ _) _ _ _); ((with_reducible show wpAny _ _ (call (Value.ref 156) _ _) _ _ _); refine Park.out ?_)) | ((with_reducible show wpAny _ _ (call (Value.builtin "len") _ _) _ _ _); (k_here; (with_reducible show wpAny _ _ (call _ [Value.str (S (List.getD _ _ [])) _]) _ _ _); k_dflt (refine len_piece (by assumption) (by first | lia | omega) ?_); intro zlp1 zlp2 zlp3)) | ((with_reducible show wpAny _ _ (subscriptTail (Expr.Name _ _) (Expr.Slice _ _ _ _) (Value.ref _) (Value.ref _)) _ _ _); (k_here; k_dflt (first | refine my_upto (by k_asm) (by k_asm) (by walk_at "my mem") (by first | lia | omega) (by first | lia | omega) ?_ (by with_unfolding_all rfl) (by kmk_pure) | refine my_from (by k_asm) (by k_asm) (by walk_at "my mem") (by first | lia | omega) (by first | lia | omega) ?_ (by with_unfolding_all rfl) (by kmk_pure)); intro zD zh zF zN zl1; (try k_lt zl1); (try k_sweep))) | ((with_reducible show wpAny _ _ (call (Value.builtin "len") _ _) _ _ _); (k_here; (with_reducible show wpAny _ _ (call _ [Value.ref _]) _ _ _); k_dflt (refine my_len (by k_asm) (by walk_at "my mem") (by assumption) (by first | lia | omega) ?_))) | (with_reducible refine nxR ?_) | (with_reducible refine nxN ?_) | (with_reducible refine nxB ?_) | (with_reducible refine nxK ?_) | (with_reducible refine exN ?_) | (with_reducible refine exA ?zzhs ?_; (case zzhs => k_dflt (exact (rfl : (pure false : Sem Bool) = pure false))); intro zqk) | (with_reducible refine exI ?_; intro zqk) | (with_reducible refine exR ?_) | (with_reducible refine exG ?_; intro zqk) | (with_reducible refine exC ?_; intro zqk) | ((with_reducible show wpAny _ _ (eval (Expr.Name _ _) _) _ _ _); k_dflt (refine' nmL ?zzF ?zzv (rfl : true = true) ?zzl ?_; (case zzF => k_asm); (case zzl => exact rfl); (case zzv => exact (rfl : some _ = some _)); k_whole)) | ((with_reducible show wpAny _ _ (storeName _ _ _) _ _ _); k_dflt (refine' stX ?zzF ?zzN (rfl : true = true) ?zzl ?_; (case zzF => k_asm); (case zzN => k_asm); (case zzl => exact rfl); k_whole); intro zm1 zh zt zF zN; (try k_sweep)) | k_unfold | walk1 | (dsimp only; walk1) | leave1))
    exact hret _ _ _ (by assumption) (news_sub (by assumption) (by (repeat' (first | exact sb0 | exact sbR | refine sbC ?_ ?_ | refine sbA ?_ ?_ | (walk_at "my mem") | refine sbT ?_ | (refine sbL ?_; (repeat (refine sbT ?_)); exact sbR) | refine sbr ?_)))) rfl
end
section
theorem read_ok (w : World) (row : List Nat) (due : List Nat) (place : Nat) (more : Bool) (t t' t'' : Tok) (hx : row.length < 1000) (hp : place ≤ row.length) (hp4 : 4 ≤ place) (h3 : row.take 3 = [50, 53, 55])
   (h1 : parseP (row.take place) = due) (h2 : parseP (row.take (place - 1)) = due) (h4 : more = true → parseP (row.take (place + 1)) = due ++ [34]) : CPure w 40 142 [.str (S row) t, .int (place : Int) t', .str (S due) t'', .bool more] (fun _ => True) (fun r => r = .bool true) := by
  unfold CPure
  k_fill
  k_with_none
  w_top off
  intro p loose mean mg mb dp un gd cn cs a ccd cl outer A₀ base h₀ L m news s Q E B F X N T hk hdp hun hpre hret

  have hlen := S_len row
  refine wpAny_call ?_
  k_dflt ktr_enter
  rename Fr _ _ _ _ => F0
  revert F0
  show let m0 := _; Fr _ _ _ m0 → _
  intro m0 F0
  show let M0 := _; let A0 := _; let e0 := _; wpAny M0 A0 (execs _ e0) _ _ _
  intro M0 A0 e0
  (repeat' (first | ((with_reducible show wpAny _ _ (call (Value.ref _) _ _) _ _ _); ((with_reducible show wpAny _ _ (call (Value.ref 53) _ _) _ _ _); refine Park.out ?_)) | (with_reducible refine nxR ?_) | (with_reducible refine nxN ?_) | (with_reducible refine nxB ?_) | (with_reducible refine nxK ?_) | (with_reducible refine exN ?_) | (with_reducible refine exA ?zzhs ?_; (case zzhs => k_dflt (exact (rfl : (pure false : Sem Bool) = pure false))); intro zqk) | (with_reducible refine exI ?_; intro zqk) | (with_reducible refine exR ?_) | (with_reducible refine exG ?_; intro zqk) | (with_reducible refine exC ?_; intro zqk) | ((with_reducible show wpAny _ _ (eval (Expr.Name _ _) _) _ _ _); k_dflt (refine' nmL ?zzF ?zzv (rfl : true = true) ?zzl ?_; (case zzF => k_asm); (case zzl => exact rfl); (case zzv => exact (rfl : some _ = some _)); k_whole)) | ((with_reducible show wpAny _ _ (storeName _ _ _) _ _ _); k_dflt (refine' stX ?zzF ?zzN (rfl : true = true) ?zzl ?_; (case zzF => k_asm); (case zzN => k_asm); (case zzl => exact rfl); k_whole); intro zm1 zh zt zF zN; (try k_sweep)) | k_unfold | walk1 | (dsimp only; walk1) | leave1))
  refine Park.mk ?_
  rw [slice_ns row (by first | lia | omega)]
  refine' CPure.use (parse_ok w (row.take (Int.toNat (place : Int))) _ (by rw [List.length_take]; (first | lia | omega)) (by rw [List.take_take]; rw [show min 3 (Int.toNat (place : Int)) = 3 from by first | lia | omega]; exact h3)) ?k1 ?k2 ?k3 ?k4 ?k5 ?kK ?kd ?ku trivial ?_
  ((case k1 => k_asm); (case k2 => k_asm); (case k3 => k_asm); (case k4 => k_asm); (case k5 => k_asm); (case kK => first | exact rfl | assumption); (case kd => first | exact room1 (by assumption) (by decide) | ((try dsimp only [A0]); ktr_room)); (case ku => first | exact units3 (by assumption) (by decide) | ktr_units))
  rintro r h9 tk9 F9 N9 ⟨t9, rfl⟩
  rw [show Int.toNat (place : Int) = place from by first | lia | omega, h1]
  (try dsimp only)
  (repeat' (first | ((with_reducible show wpAny _ _ (call (Value.ref _) _ _) _ _ _); ((with_reducible show wpAny _ _ (call (Value.ref 53) _ _) _ _ _); refine Park.out ?_)) | (with_reducible refine nxR ?_) | (with_reducible refine nxN ?_) | (with_reducible refine nxB ?_) | (with_reducible refine nxK ?_) | (with_reducible refine exN ?_) | (with_reducible refine exA ?zzhs ?_; (case zzhs => k_dflt (exact (rfl : (pure false : Sem Bool) = pure false))); intro zqk) | (with_reducible refine exI ?_; intro zqk) | (with_reducible refine exR ?_) | (with_reducible refine exG ?_; intro zqk) | (with_reducible refine exC ?_; intro zqk) | ((with_reducible show wpAny _ _ (eval (Expr.Name _ _) _) _ _ _); k_dflt (refine' nmL ?zzF ?zzv (rfl : true = true) ?zzl ?_; (case zzF => k_asm); (case zzl => exact rfl); (case zzv => exact (rfl : some _ = some _)); k_whole)) | ((with_reducible show wpAny _ _ (storeName _ _ _) _ _ _); k_dflt (refine' stX ?zzF ?zzN (rfl : true = true) ?zzl ?_; (case zzF => k_asm); (case zzN => k_asm); (case zzl => exact rfl); k_whole); intro zm1 zh zt zF zN; (try k_sweep)) | k_unfold | walk1 | (dsimp only; walk1) | leave1))
  · exact absurd (by assumption : (S due != S due) = true) (by simp)
  refine Park.mk ?_
  rw [slice_ns row (by first | lia | omega)]
  refine' CPure.use (parse_ok w (row.take (Int.toNat ((place : Int) - 1))) _ (by rw [List.length_take]; (first | lia | omega)) (by rw [List.take_take]; rw [show min 3 (Int.toNat ((place : Int) - 1)) = 3 from by first | lia | omega]; exact h3)) ?k1 ?k2 ?k3 ?k4 ?k5 ?kK ?kd ?ku trivial ?_
  ((case k1 => k_asm); (case k2 => k_asm); (case k3 => k_asm); (case k4 => k_asm); (case k5 => k_asm); (case kK => first | exact rfl | assumption); (case kd => first | exact room1 (by assumption) (by decide) | ((try dsimp only [A0]); ktr_room)); (case ku => first | exact units3 (by assumption) (by decide) | ktr_units))
  rintro r h9 tk9 F9 N9 ⟨t9, rfl⟩
  rw [show Int.toNat ((place : Int) - 1) = place - 1 from by first | lia | omega, h2]
  (try dsimp only)
  (repeat' (first | ((with_reducible show wpAny _ _ (call (Value.ref _) _ _) _ _ _); ((with_reducible show wpAny _ _ (call (Value.ref 53) _ _) _ _ _); refine Park.out ?_)) | (with_reducible refine nxR ?_) | (with_reducible refine nxN ?_) | (with_reducible refine nxB ?_) | (with_reducible refine nxK ?_) | (with_reducible refine exN ?_) | (with_reducible refine exA ?zzhs ?_; (case zzhs => k_dflt (exact (rfl : (pure false : Sem Bool) = pure false))); intro zqk) | (with_reducible refine exI ?_; intro zqk) | (with_reducible refine exR ?_) | (with_reducible refine exG ?_; intro zqk) | (with_reducible refine exC ?_; intro zqk) | ((with_reducible show wpAny _ _ (eval (Expr.Name _ _) _) _ _ _); k_dflt (refine' nmL ?zzF ?zzv (rfl : true = true) ?zzl ?_; (case zzF => k_asm); (case zzl => exact rfl); (case zzv => exact (rfl : some _ = some _)); k_whole)) | ((with_reducible show wpAny _ _ (storeName _ _ _) _ _ _); k_dflt (refine' stX ?zzF ?zzN (rfl : true = true) ?zzl ?_; (case zzF => k_asm); (case zzN => k_asm); (case zzl => exact rfl); k_whole); intro zm1 zh zt zF zN; (try k_sweep)) | k_unfold | walk1 | (dsimp only; walk1) | leave1))
  · refine Park.mk ?_
    rw [slice_ns row (by first | lia | omega)]
    refine' CPure.use (parse_ok w (row.take (Int.toNat ((place : Int) + 1))) _ (by rw [List.length_take]; (first | lia | omega)) (by rw [List.take_take]; rw [show min 3 (Int.toNat ((place : Int) + 1)) = 3 from by first | lia | omega]; exact h3)) ?k1 ?k2 ?k3 ?k4 ?k5 ?kK ?kd ?ku trivial ?_
    ((case k1 => k_asm); (case k2 => k_asm); (case k3 => k_asm); (case k4 => k_asm); (case k5 => k_asm); (case kK => first | exact rfl | assumption); (case kd => first | exact room1 (by assumption) (by decide) | ((try dsimp only [A0]); ktr_room)); (case ku => first | exact units3 (by assumption) (by decide) | ktr_units))
    rintro r h9 tk9 F9 N9 ⟨t9, rfl⟩
    rw [show Int.toNat ((place : Int) + 1) = place + 1 from by first | lia | omega, h4 (by assumption)]
    have hdl : (S due).length ≤ 1000 := by rw [S_len, ← h1]; exact Nat.le_trans (parseP_len _) (by rw [List.length_take]; (first | lia | omega))
    (try dsimp only)
    (repeat' (first | ((with_reducible show wpAny _ _ (call (Value.ref _) _ _) _ _ _); ((with_reducible show wpAny _ _ (call (Value.ref 53) _ _) _ _ _); refine Park.out ?_)) | (with_reducible refine nxR ?_) | (with_reducible refine nxN ?_) | (with_reducible refine nxB ?_) | (with_reducible refine nxK ?_) | (with_reducible refine exN ?_) | (with_reducible refine exA ?zzhs ?_; (case zzhs => k_dflt (exact (rfl : (pure false : Sem Bool) = pure false))); intro zqk) | (with_reducible refine exI ?_; intro zqk) | (with_reducible refine exR ?_) | (with_reducible refine exG ?_; intro zqk) | (with_reducible refine exC ?_; intro zqk) | ((with_reducible show wpAny _ _ (eval (Expr.Name _ _) _) _ _ _); k_dflt (refine' nmL ?zzF ?zzv (rfl : true = true) ?zzl ?_; (case zzF => k_asm); (case zzl => exact rfl); (case zzv => exact (rfl : some _ = some _)); k_whole)) | ((with_reducible show wpAny _ _ (storeName _ _ _) _ _ _); k_dflt (refine' stX ?zzF ?zzN (rfl : true = true) ?zzl ?_; (case zzF => k_asm); (case zzN => k_asm); (case zzl => exact rfl); k_whole); intro zm1 zh zt zF zN; (try k_sweep)) | k_unfold | walk1 | (dsimp only; walk1) | leave1))
    exact hret _ _ _ (by assumption) (by assumption) (congrArg Value.bool (by rw [q_lit, S_app]; simp))
  · exact hret _ _ _ (by assumption) (by assumption) (congrArg Value.bool (by rw [(by assumption : more = false)]; rfl))
end
section
theorem my_args {prog : Program} {w : World} {A : Around} {E : Value → Shared → Prop} {h₀ h : Heap} {g : Array GenState} {d : Drawn} {tk : Nat} {os : OsState} {L e t : Addr} {news : Led} {vs : List Value} {m : Str → Option Value} {expr : Bool} {Q : Value → Shared → Prop}
    (F : Fr h₀ L h m) (X : (Khp w.params).In h₀) {n2 : Led} (G : Got n2 e t (.ref 44) vs) (N : News h₀ L h n2) (N' : News h₀ L h news)
 (hq : ∀ ot nt, (t, ot) ∈ n2 → ot.cls = .type "tuple" → ot.data = .seq vs.toArray nt → News h₀ L h (n2 ++ news) → Q (.ref t) ⟨h, g, d, tk + 1, os⟩) :
    wpAny (model prog w) A (getAttr (.ref e) "args" expr) Q E ⟨h, g, d, tk, os⟩ := by
  obtain ⟨oe, ot, ws, nt, h1, h2, hc, hd', h0, hc2, hd2⟩ := G
  have hq := hq ot nt h2 hc2 hd2 (fun p hp => (List.mem_append.mp hp).elim (N p) (N' p))
  have X' := X.keeps F.keep
  have q1 : ∀ n ∈ quietNames, h.nsMap 43 n = none := by
    intro n hn
    simp only [quietNames, List.mem_cons, List.not_mem_nil, or_false] at hn
    rcases hn with rfl | rfl | rfl | rfl <;> exact nsMap_none_of_in X' (by kernel_rfl!) (by kernel_rfl!)
  have q2 : ∀ n ∈ quietNames, h.nsMap 30 n = none := by
    intro n hn
    simp only [quietNames, List.mem_cons, List.not_mem_nil, or_false] at hn
    rcases hn with rfl | rfl | rfl | rfl <;> exact nsMap_none_of_in X' (by kernel_rfl!) (by kernel_rfl!)
  have c1 := X' 44 _ rfl
  have c2 := X' 31 _ rfl
  exact args_attr_own PySem.F.attrBase_Exception c1 (.of_isNs (isNs_of_in (N := 43) X' (by kernel_rfl!))) q1 (.own c2 (.of_isNs (isNs_of_in (N := 30) X' (by kernel_rfl!))) q2 .base) (N.get h1) hc hd' h0 hq
noncomputable def CUn (w : World) (k : Nat) (f : Addr) (vs : List Value) (post : Value → Prop) : Prop :=
  ∀ (p : Program) (loose : List Str) (mean : ExcName → Option Value) (mg mb : Str → Option Value) (dp un : Nat) (gd : Option (List Code)) (cn : Str) (cs : Scope) (a : Addr) (ccd : Value) (outer : List Env) (A₀ : Around) (base h₀ : Heap) (L : Addr) (m : Str → Option Value) (news : Led) (s : Shared)
    (Q E : Value → Shared → Prop),
    Below A₀ base outer h₀ → Fr h₀ L s.heap m → (Khp w.params).In h₀ → News h₀ L s.heap news → Top p loose mean mg mb h₀ → (Khp w.params).In base → Top p loose mean mg mb base → KtsDicts (outer.filterMap (·.frame)) h₀ → cs.kind = .function → dp + k < recursionLimit → un + 8 * k < cLine →
    (∀ r g' h' tk', KtsTurn (outer.filterMap (·.frame)) h₀ g' → Fr g' L h' m → News g' L h' news → Below A₀ base outer g' → (Khp w.params).In g' → Top p loose mean mg mb g' → KtsDicts (outer.filterMap (·.frame)) g' → post r → Q r { s with heap := h', toks := tk' }) →
    wpAny (model PySem.Challenge.rw_sc0033_01.row.prog w) (ktrTop dp un gd cn cs L a ccd [] outer) (call (.ref f) vs) Q E s
theorem unread_ok (w : World) (x : List Nat) (due : List Nat)  (t t' : Tok) (hx : x.length < 990) (hok : ∀ c ∈ x, c < 0x110000) (h3 : x.take 3 ≠ [50, 53, 55])
   (h1 : parseP ([50, 53, 55] ++ x) = []) (h2 : parseP ([50, 53, 55, 32] ++ x) = due) : CUn w 40 149 [.str (S x) t, .str (S due) t'] (fun r => r = .bool true) := by
  have hne : (Txt.slice (S x) none (some 3) != Str.ofString "257") = true := by
    rw [slice_ns x (by first | lia | omega), show (Str.ofString "257") = S [50, 53, 55] by decide +kernel]
    exact (S_bne _ _).trans (by simpa using h3)
  have hok' : PyData.strOk (S x) = true := by simpa [PyData.strOk, S] using hok
  unfold CUn
  k_fill
  k_with_none
  w_top off
  intro p loose mean mg mb dp un gd cn cs a ccd outer A₀ base h₀ L m news s Q E B F X N T XB TB D hk hdp hun hret
  have hlen := S_len x
  refine wpAny_call ?_
  k_dflt ((refine' code_defS ?k1 ?k2 ?k3 ?k4 ?k5 ?XB ?TB ?D ?T0 ?kA ?k6 ?k7 ?k8 ?k9 ?kB ?_ ?cK ?c2 ?c3 ?c4 ?c5; (case kA => exact rfl); (case k2 => k_asm); (case k1 => k_asm); (case XB => assumption); (case TB => assumption); (case D => assumption); (case T0 => first | assumption | exact KtsTurn.refl); (case k3 => k_asm); (case k4 => k_asm); (case k5 => k_asm); (case k6 => k_is); (case k7 => k_is); (case k8 => first | exact enter_room (by assumption) | ((try dsimp only [A0]); ktr_room)); (case k9 => first | exact binds_K (by k_in) rfl (by kernel_rfl!) rfl rfl rfl | exact BindsTo.of_eq rfl | fail "kts_go: no rule for these arguments"); (case kB => exact locs rfl); (case cK => first | assumption | exact rfl); (case c2 => exact rfl); (case c3 => exact rfl); (case c4 => exact rfl); (case c5 => decide); k_whole; intro g' L' h' FG' F' N' B' X' T' D'; (try dsimp only); (try k_lift B'); (try k_fold)))
  (repeat' (first | ((with_reducible show wpAny _ _ (getAttr (Value.ref _) _ _) _ _ _); (refine Park.out ?_)) | ((with_reducible show wpAny _ _ (call (Value.ref _) _ _) _ _ _); ((with_reducible show wpAny _ _ (call (Value.ref 53) _ _) _ _ _); refine Park.out ?_)) | (with_reducible refine nxR ?_) | (with_reducible refine nxN ?_) | (with_reducible refine nxB ?_) | (with_reducible refine nxK ?_) | (with_reducible refine exN ?_) | (with_reducible refine exA ?zzhs ?_; (case zzhs => k_dflt (exact (rfl : (pure false : Sem Bool) = pure false))); intro zqk) | (with_reducible refine exI ?_; intro zqk) | (with_reducible refine exR ?_) | (with_reducible refine exG ?_; intro zqk) | (with_reducible refine exC ?_; intro zqk) | ((with_reducible show wpAny _ _ (eval (Expr.Name _ _) _) _ _ _); k_dflt (refine' nmL ?zzF ?zzv (rfl : true = true) ?zzl ?_; (case zzF => k_asm); (case zzl => exact rfl); (case zzv => exact (rfl : some _ = some _)); k_whole)) | ((with_reducible show wpAny _ _ (storeName _ _ _) _ _ _); k_dflt (refine' stX ?zzF ?zzN (rfl : true = true) ?zzl ?_; (case zzF => k_asm); (case zzN => k_asm); (case zzl => exact rfl); k_whole); intro zm1 zh zt zF zN; (try k_sweep)) | k_unfold | walk1 | (dsimp only; walk1) | leave1))
  refine Park.mk ?_
  refine wpAny_call ?_
  k_dflt ((refine' code_def ?k1 ?k2 ?k3 ?k4 ?k5 ?kA ?kF ?kK ?k6 ?k7 ?k8 ?k9 ?kB ?_ ?c2 ?c3 ?c4 ?c5; (case kA => exact rfl); (case kF => exact rfl); (case kK => first | exact rfl | assumption); (case k1 => k_asm); (case k2 => k_asm); (case k3 => k_asm); (case k4 => k_asm); (case k5 => k_asm); (case k6 => k_is); (case k7 => k_is); (case k8 => first | exact enter_room (by assumption) | ((try dsimp only [A0]); ktr_room)); (case k9 => first | exact BindsTo.of_eq rfl | exact binds_K (by k_in) rfl (by k_is) rfl rfl rfl); (case c5 => decide); (case kB => exact locs rfl); (case c2 => exact rfl); (case c3 => exact rfl); (case c4 => exact rfl); k_whole; intro g' L' h' FG' F' N' B' X' T'; (try dsimp only); (try k_lift B'); (try k_fold)))
  (repeat' (first | ((with_reducible show wpAny _ _ (getAttr (Value.ref _) _ _) _ _ _); (refine Park.out ?_)) | ((with_reducible show wpAny _ _ (call (Value.ref _) _ _) _ _ _); ((with_reducible show wpAny _ _ (call (Value.ref 53) _ _) _ _ _); refine Park.out ?_)) | (with_reducible refine nxR ?_) | (with_reducible refine nxN ?_) | (with_reducible refine nxB ?_) | (with_reducible refine nxK ?_) | (with_reducible refine exN ?_) | (with_reducible refine exA ?zzhs ?_; (case zzhs => k_dflt (exact (rfl : (pure false : Sem Bool) = pure false))); intro zqk) | (with_reducible refine exI ?_; intro zqk) | (with_reducible refine exR ?_) | (with_reducible refine exG ?_; intro zqk) | (with_reducible refine exC ?_; intro zqk) | ((with_reducible show wpAny _ _ (eval (Expr.Name _ _) _) _ _ _); k_dflt (refine' nmL ?zzF ?zzv (rfl : true = true) ?zzl ?_; (case zzF => k_asm); (case zzl => exact rfl); (case zzv => exact (rfl : some _ = some _)); k_whole)) | ((with_reducible show wpAny _ _ (storeName _ _ _) _ _ _); k_dflt (refine' stX ?zzF ?zzN (rfl : true = true) ?zzl ?_; (case zzF => k_asm); (case zzN => k_asm); (case zzl => exact rfl); k_whole); intro zm1 zh zt zF zN; (try k_sweep)) | k_unfold | walk1 | (dsimp only; walk1) | leave1))
  refine Park.mk ?_
  k_dflt (refine' my_args (news := news) ?F ?X ?G ?N2 ?N ?_; (case G => assumption); (case F => k_asm); (case X => k_asm); (case N2 => assumption); (case N => assumption); k_whole)
  intro ot nt m1 m2 m3
  (repeat (rename News _ _ _ _ => N8; clear N8))
  intro N9
  (repeat' (first | ((with_reducible show wpAny _ _ (getAttr (Value.ref _) _ _) _ _ _); (refine Park.out ?_)) | ((with_reducible show wpAny _ _ (call (Value.ref _) _ _) _ _ _); ((with_reducible show wpAny _ _ (call (Value.ref 53) _ _) _ _ _); refine Park.out ?_)) | (with_reducible refine nxR ?_) | (with_reducible refine nxN ?_) | (with_reducible refine nxB ?_) | (with_reducible refine nxK ?_) | (with_reducible refine exN ?_) | (with_reducible refine exA ?zzhs ?_; (case zzhs => k_dflt (exact (rfl : (pure false : Sem Bool) = pure false))); intro zqk) | (with_reducible refine exI ?_; intro zqk) | (with_reducible refine exR ?_) | (with_reducible refine exG ?_; intro zqk) | (with_reducible refine exC ?_; intro zqk) | ((with_reducible show wpAny _ _ (eval (Expr.Name _ _) _) _ _ _); k_dflt (refine' nmL ?zzF ?zzv (rfl : true = true) ?zzl ?_; (case zzF => k_asm); (case zzl => exact rfl); (case zzv => exact (rfl : some _ = some _)); k_whole)) | ((with_reducible show wpAny _ _ (storeName _ _ _) _ _ _); k_dflt (refine' stX ?zzF ?zzN (rfl : true = true) ?zzl ?_; (case zzF => k_asm); (case zzN => k_asm); (case zzl => exact rfl); k_whole); intro zm1 zh zt zF zN; (try k_sweep)) | k_unfold | walk1 | (dsimp only; walk1) | leave1))
  k_dflt (refine' ne_dataH (reads_tuple_at (News.get ?a ?b) ?c ?d ?e) ?f ?g ?i ?j ?_)
  (case a => k_dflt k_asm)
  (case b => k_dflt (walk_at "my mem"))
  (case c => k_dflt assumption)
  (case d => k_dflt assumption)
  (case e => k_dflt ke_reads)
  (case f => k_dflt ke_read)
  (case g => simp [SeqAt.shaped, PyData.canLay0, PyData.canLayAll0, PyData.depth, PyData.depthAll, hok'])
  (case i => simp [SeqAt.shaped, PyData.canLay0, PyData.canLayAll0, PyData.depth, PyData.depthAll, hok'])
  (case j => k_dflt ktr_units)
  ke_norm
  (repeat' (first | ((with_reducible show wpAny _ _ (getAttr (Value.ref _) _ _) _ _ _); (refine Park.out ?_)) | ((with_reducible show wpAny _ _ (call (Value.ref _) _ _) _ _ _); ((with_reducible show wpAny _ _ (call (Value.ref 53) _ _) _ _ _); refine Park.out ?_)) | (with_reducible refine nxR ?_) | (with_reducible refine nxN ?_) | (with_reducible refine nxB ?_) | (with_reducible refine nxK ?_) | (with_reducible refine exN ?_) | (with_reducible refine exA ?zzhs ?_; (case zzhs => k_dflt (exact (rfl : (pure false : Sem Bool) = pure false))); intro zqk) | (with_reducible refine exI ?_; intro zqk) | (with_reducible refine exR ?_) | (with_reducible refine exG ?_; intro zqk) | (with_reducible refine exC ?_; intro zqk) | ((with_reducible show wpAny _ _ (eval (Expr.Name _ _) _) _ _ _); k_dflt (refine' nmL ?zzF ?zzv (rfl : true = true) ?zzl ?_; (case zzF => k_asm); (case zzl => exact rfl); (case zzv => exact (rfl : some _ = some _)); k_whole)) | ((with_reducible show wpAny _ _ (storeName _ _ _) _ _ _); k_dflt (refine' stX ?zzF ?zzN (rfl : true = true) ?zzl ?_; (case zzF => k_asm); (case zzN => k_asm); (case zzl => exact rfl); k_whole); intro zm1 zh zt zF zN; (try k_sweep)) | k_unfold | walk1 | (dsimp only; walk1) | leave1))
  refine Park.mk ?_
  rw [show ("257" : Str) ++ S x = S ([50, 53, 55] ++ x) from (congrArg (· ++ S x) (by decide +kernel : ("257" : Str) = S [50, 53, 55])).trans (S_app _ _)]
  refine' CPure.use (parse_ok w ([50, 53, 55] ++ x) _ (by simp; (first | lia | omega)) rfl) ?k1 ?k2 ?k3 ?k4 ?k5 ?kK ?kd ?ku ?kp ?_
  ((case k1 => k_asm); (case k2 => k_asm); (case k3 => k_asm); (case k4 => k_asm); (case k5 => k_asm); (case kK => first | exact rfl | assumption); (case kd => first | exact room1 (by assumption) (by decide) | ((try dsimp only [A0]); ktr_room)); (case ku => first | exact units3 (by assumption) (by decide) | ktr_units))
  case kp => trivial
  intro r h9 tk9 F9 N9 hr
  obtain ⟨t9, rfl⟩ := hr
  rw [h1]
  (try dsimp only)
  (repeat' (first | ((with_reducible show wpAny _ _ (getAttr (Value.ref _) _ _) _ _ _); (refine Park.out ?_)) | ((with_reducible show wpAny _ _ (call (Value.ref _) _ _) _ _ _); ((with_reducible show wpAny _ _ (call (Value.ref 53) _ _) _ _ _); refine Park.out ?_)) | (with_reducible refine nxR ?_) | (with_reducible refine nxN ?_) | (with_reducible refine nxB ?_) | (with_reducible refine nxK ?_) | (with_reducible refine exN ?_) | (with_reducible refine exA ?zzhs ?_; (case zzhs => k_dflt (exact (rfl : (pure false : Sem Bool) = pure false))); intro zqk) | (with_reducible refine exI ?_; intro zqk) | (with_reducible refine exR ?_) | (with_reducible refine exG ?_; intro zqk) | (with_reducible refine exC ?_; intro zqk) | ((with_reducible show wpAny _ _ (eval (Expr.Name _ _) _) _ _ _); k_dflt (refine' nmL ?zzF ?zzv (rfl : true = true) ?zzl ?_; (case zzF => k_asm); (case zzl => exact rfl); (case zzv => exact (rfl : some _ = some _)); k_whole)) | ((with_reducible show wpAny _ _ (storeName _ _ _) _ _ _); k_dflt (refine' stX ?zzF ?zzN (rfl : true = true) ?zzl ?_; (case zzF => k_asm); (case zzN => k_asm); (case zzl => exact rfl); k_whole); intro zm1 zh zt zF zN; (try k_sweep)) | k_unfold | walk1 | (dsimp only; walk1) | leave1))
  refine Park.mk ?_
  rw [show ("257 " : Str) ++ S x = S ([50, 53, 55, 32] ++ x) from (congrArg (· ++ S x) (by decide +kernel : ("257 " : Str) = S [50, 53, 55, 32])).trans (S_app _ _)]
  refine' CPure.use (parse_ok w ([50, 53, 55, 32] ++ x) _ (by simp; (first | lia | omega)) rfl) ?k1 ?k2 ?k3 ?k4 ?k5 ?kK ?kd ?ku ?kp ?_
  ((case k1 => k_asm); (case k2 => k_asm); (case k3 => k_asm); (case k4 => k_asm); (case k5 => k_asm); (case kK => first | exact rfl | assumption); (case kd => first | exact room1 (by assumption) (by decide) | ((try dsimp only [A0]); ktr_room)); (case ku => first | exact units3 (by assumption) (by decide) | ktr_units))
  case kp => trivial
  intro r h8 tk8 F8 N8 hr
  obtain ⟨t8, rfl⟩ := hr
  rw [h2]
  (try dsimp only)
  (repeat' (first | ((with_reducible show wpAny _ _ (getAttr (Value.ref _) _ _) _ _ _); (refine Park.out ?_)) | ((with_reducible show wpAny _ _ (call (Value.ref _) _ _) _ _ _); ((with_reducible show wpAny _ _ (call (Value.ref 53) _ _) _ _ _); refine Park.out ?_)) | (with_reducible refine nxR ?_) | (with_reducible refine nxN ?_) | (with_reducible refine nxB ?_) | (with_reducible refine nxK ?_) | (with_reducible refine exN ?_) | (with_reducible refine exA ?zzhs ?_; (case zzhs => k_dflt (exact (rfl : (pure false : Sem Bool) = pure false))); intro zqk) | (with_reducible refine exI ?_; intro zqk) | (with_reducible refine exR ?_) | (with_reducible refine exG ?_; intro zqk) | (with_reducible refine exC ?_; intro zqk) | ((with_reducible show wpAny _ _ (eval (Expr.Name _ _) _) _ _ _); k_dflt (refine' nmL ?zzF ?zzv (rfl : true = true) ?zzl ?_; (case zzF => k_asm); (case zzl => exact rfl); (case zzv => exact (rfl : some _ = some _)); k_whole)) | ((with_reducible show wpAny _ _ (storeName _ _ _) _ _ _); k_dflt (refine' stX ?zzF ?zzN (rfl : true = true) ?zzl ?_; (case zzF => k_asm); (case zzN => k_asm); (case zzl => exact rfl); k_whole); intro zm1 zh zt zF zN; (try k_sweep)) | k_unfold | walk1 | (dsimp only; walk1) | leave1))
  exact hret _ _ _ _ (by assumption) (by assumption) (news_sub (by assumption) (by (repeat' (first | exact sb0 | exact sbR | refine sbC ?_ ?_ | refine sbA ?_ ?_ | (walk_at "my mem") | refine sbT ?_ | (refine sbL ?_; (repeat (refine sbT ?_)); exact sbR) | refine sbr ?_)))) (by assumption) (by assumption) (by assumption) (by assumption) (congrArg Value.bool (beq_self_eq_true _))
end
section
theorem ends_ok (w : World) (l : Addr) (vs : List Value) (nn : Nat) (ps : List (List Nat)) (g : List Nat) (t' : Tok) (hs : StrsAre vs (ps.map S)) (hb : PB ps) (hg : g.length < 1000) :
    CNew w 30 128 [.str (S g) t', .ref l] (fun news => (l, listOf vs.toArray nn) ∈ news) (fun tl r => ∃ D us n, tl = [(D, listOf us.toArray n)] ∧ r = .ref D ∧ IntsAre us (natInts (ends g ps))) := by
  unfold CNew
  k_fill
  k_with_none
  w_top off
  intro p loose mean mg mb dp un gd cn cs a ccd cl outer A₀ base h₀ L m news s Q E B F X N T hk hdp hun hpre hret

  have hlen := strs_Slen hs rfl
  have hpl := hb.len
  have hgl := S_len g
  refine wpAny_call ?_
  k_dflt ktr_enter
  rename Fr _ _ _ _ => F0
  revert F0
  show let m0 := _; Fr _ _ _ m0 → _
  intro m0 F0
  show let M0 := _; let A0 := _; let e0 := _; wpAny M0 A0 (execs _ e0) _ _ _
  intro M0 A0 e0
  (repeat' (first | ((with_reducible show wpAny _ _ (subscriptTail (Expr.Name _ _) (Expr.BinOp _ _ _ _) (Value.ref _) (Value.int _ _)) _ _ _); (first | (k_here; (with_reducible show wpAny _ _ (subscriptTail _ _ (Value.ref _) (Value.int _ _)) _ _ _); k_dflt (first | refine my_item (by k_asm) (by walk_at "my mem") (by assumption) (by first | lia | omega) (by first | lia | omega) (by first | lia | omega) ?_ (by with_unfolding_all rfl) (by with_unfolding_all (intro _; rfl)) | refine my_nat (by k_asm) (by walk_at "my mem") (by assumption) (by first | lia | omega) (by first | lia | omega) (by first | lia | omega) ?_ (by with_unfolding_all rfl) (by with_unfolding_all (intro _; rfl))); intro zt) | (k_here; k_dflt (refine' my_nat ?zzk1 ?zzk2 ?zzk3 ?zzk4 ?zzk5 ?zzk6 ?_ ?zzk7 ?zzk8; (case zzk1 => k_asm); (case zzk2 => walk_at "my mem"); (case zzk3 => assumption); (case zzk4 => exact ends_ge (by assumption) (by assumption)); (case zzk5 => (first | lia | omega)); (case zzk6 => (first | lia | omega)); (case zzk7 => with_unfolding_all rfl); (case zzk8 => with_unfolding_all (intro _; rfl))); intro zt))) | ((with_reducible show wpAny _ _ (call (Value.builtin "len") _ _) _ _ _); (k_here; (with_reducible show wpAny _ _ (call _ [Value.str (S (List.getD _ _ [])) _]) _ _ _); k_dflt (refine len_piece (by assumption) (by first | lia | omega) ?_); intro zlp1 zlp2 zlp3)) | ((with_reducible show wpAny _ _ (call (Value.builtin "list.append") _ _) _ _ _); (k_here; (with_reducible show wpAny _ _ (call _ [Value.ref _, _]) _ _ _); k_dflt (refine my_append (by k_asm) (by k_asm) (by assumption) (by first | lia | omega) ?_); intro zh zF zN; (try k_sweep))) | ((with_reducible show wpAny _ _ (subscriptTail _ _ (Value.ref _) (Value.int _ _)) _ _ _); ((k_here; (with_reducible show wpAny _ _ (subscriptTail _ _ (Value.ref _) (Value.int _ _)) _ _ _); k_dflt (first | refine my_item (by k_asm) (by walk_at "my mem") (by assumption) (by first | lia | omega) (by first | lia | omega) (by first | lia | omega) ?_ (by with_unfolding_all rfl) (by with_unfolding_all (intro _; rfl)) | refine my_nat (by k_asm) (by walk_at "my mem") (by assumption) (by first | lia | omega) (by first | lia | omega) (by first | lia | omega) ?_ (by with_unfolding_all rfl) (by with_unfolding_all (intro _; rfl))); intro zt))) | ((with_reducible show wpAny _ _ (call (Value.builtin "len") _ _) _ _ _); (k_here; (with_reducible show wpAny _ _ (call _ [Value.ref _]) _ _ _); k_dflt (refine my_len (by k_asm) (by walk_at "my mem") (by assumption) (by first | lia | omega) ?_))) | ((with_reducible show TurnEnds _ _ _ _ _ _ _ _ _ _ _); (refine Park.out ?_)) | ((with_reducible show TurnPost _ _ _ _ _ _ _ _ _ _ _ _ _); (dsimp only [TurnPost])) | ((with_reducible show wpAny _ _ (pyIter (Value.ref _)) _ _ _); (refine Park.out ?_)) | ((with_reducible show wpAny _ _ (exec (Stmt.For (Expr.Name _ _) (Expr.Call _ _ _ _) _ _ _) _) _ _ _); ((k_here; (rename Fr _ _ _ _ => zlF); (with_unfolding_all refine' For_invVF zlF ?zzk1 ?zzk2 ?_; (case zzk1 => exact rfl); (case zzk2 => exact rfl); k_whole)))) | (with_reducible refine nxR ?_) | (with_reducible refine nxN ?_) | (with_reducible refine nxB ?_) | (with_reducible refine nxK ?_) | (with_reducible refine exN ?_) | (with_reducible refine exA ?zzhs ?_; (case zzhs => k_dflt (exact (rfl : (pure false : Sem Bool) = pure false))); intro zqk) | (with_reducible refine exI ?_; intro zqk) | (with_reducible refine exR ?_) | (with_reducible refine exG ?_; intro zqk) | (with_reducible refine exC ?_; intro zqk) | ((with_reducible show wpAny _ _ (eval (Expr.Name _ _) _) _ _ _); k_dflt (refine' nmL ?zzF ?zzv (rfl : true = true) ?zzl ?_; (case zzF => k_asm); (case zzl => exact rfl); (case zzv => exact (rfl : some _ = some _)); k_whole)) | ((with_reducible show wpAny _ _ (storeName _ _ _) _ _ _); k_dflt (refine' stX ?zzF ?zzN (rfl : true = true) ?zzl ?_; (case zzF => k_asm); (case zzN => k_asm); (case zzl => exact rfl); k_whole); intro zm1 zh zt zF zN; (try k_sweep)) | k_unfold | walk1 | (dsimp only; walk1) | leave1))
  refine Park.mk ?_
  (rename Fr _ _ _ _ => lF'); (rename News _ _ _ _ => lN'); (rename IsRange _ _ _ _ _ _ _ _ => rgX)
  with_unfolding_all refine' my_range (n := g.length) (σ := List Value × Nat) (fun c => (_, listOf c.1.toArray c.2) :: news) (fun _ => []) [Str.ofString "best", Str.ofString "start", Str.ofString "piece"] (fun i c => IntsAre c.1 (natInts (endsTo g ps i))) ([.int 0 _], 0) (by rfl) rgX ?hsm ?hn lF' lN' ?hk ?hp ?turn ?done
  case hsm => exact small_one (by first | lia | omega) (by first | lia | omega) (by first | lia | omega) (by first | lia | omega)
  case hn => rw [hgl]; exact (rangeSize_nat _ _).trans (by first | lia | omega)
  case hk => exact List.forall_mem_nil _
  case hp => exact .cons _ _ .nil
  case turn =>
    intro c i t u h tk own hi hoff hP F' N'
    have hci := natInts_len (endsTo g ps i)
    have hcl := endsTo_len g ps i
    have hcv := hP.length
    have hne := ne_of_off (by assumption) hoff
    have hle := fun k => endsTo_le g ps i k
    rw [List.cons_append] at N'
    (repeat' (first | ((with_reducible show wpAny _ _ (subscriptTail (Expr.Name _ _) (Expr.BinOp _ _ _ _) (Value.ref _) (Value.int _ _)) _ _ _); (first | (k_here; (with_reducible show wpAny _ _ (subscriptTail _ _ (Value.ref _) (Value.int _ _)) _ _ _); k_dflt (first | refine my_item (by k_asm) (by walk_at "my mem") (by assumption) (by first | lia | omega) (by first | lia | omega) (by first | lia | omega) ?_ (by with_unfolding_all rfl) (by with_unfolding_all (intro _; rfl)) | refine my_nat (by k_asm) (by walk_at "my mem") (by assumption) (by first | lia | omega) (by first | lia | omega) (by first | lia | omega) ?_ (by with_unfolding_all rfl) (by with_unfolding_all (intro _; rfl))); intro zt) | (k_here; k_dflt (refine' my_nat ?zzk1 ?zzk2 ?zzk3 ?zzk4 ?zzk5 ?zzk6 ?_ ?zzk7 ?zzk8; (case zzk1 => k_asm); (case zzk2 => walk_at "my mem"); (case zzk3 => assumption); (case zzk4 => exact ends_ge (by assumption) (by assumption)); (case zzk5 => (first | lia | omega)); (case zzk6 => (first | lia | omega)); (case zzk7 => with_unfolding_all rfl); (case zzk8 => with_unfolding_all (intro _; rfl))); intro zt))) | ((with_reducible show wpAny _ _ (call (Value.builtin "len") _ _) _ _ _); (k_here; (with_reducible show wpAny _ _ (call _ [Value.str (S (List.getD _ _ [])) _]) _ _ _); k_dflt (refine len_piece (by assumption) (by first | lia | omega) ?_); intro zlp1 zlp2 zlp3)) | ((with_reducible show wpAny _ _ (call (Value.builtin "list.append") _ _) _ _ _); (k_here; (with_reducible show wpAny _ _ (call _ [Value.ref _, _]) _ _ _); k_dflt (refine my_append (by k_asm) (by k_asm) (by assumption) (by first | lia | omega) ?_); intro zh zF zN; (try k_sweep))) | ((with_reducible show wpAny _ _ (subscriptTail _ _ (Value.ref _) (Value.int _ _)) _ _ _); ((k_here; (with_reducible show wpAny _ _ (subscriptTail _ _ (Value.ref _) (Value.int _ _)) _ _ _); k_dflt (first | refine my_item (by k_asm) (by walk_at "my mem") (by assumption) (by first | lia | omega) (by first | lia | omega) (by first | lia | omega) ?_ (by with_unfolding_all rfl) (by with_unfolding_all (intro _; rfl)) | refine my_nat (by k_asm) (by walk_at "my mem") (by assumption) (by first | lia | omega) (by first | lia | omega) (by first | lia | omega) ?_ (by with_unfolding_all rfl) (by with_unfolding_all (intro _; rfl))); intro zt))) | ((with_reducible show wpAny _ _ (call (Value.builtin "len") _ _) _ _ _); (k_here; (with_reducible show wpAny _ _ (call _ [Value.ref _]) _ _ _); k_dflt (refine my_len (by k_asm) (by walk_at "my mem") (by assumption) (by first | lia | omega) ?_))) | ((with_reducible show TurnEnds _ _ _ _ _ _ _ _ _ _ _); (refine Park.out ?_)) | ((with_reducible show TurnPost _ _ _ _ _ _ _ _ _ _ _ _ _); (dsimp only [TurnPost])) | ((with_reducible show wpAny _ _ (pyIter (Value.ref _)) _ _ _); (refine Park.out ?_)) | ((with_reducible show wpAny _ _ (exec (Stmt.For (Expr.Name _ _) (Expr.Call _ _ _ _) _ _ _) _) _ _ _); ((k_here; (rename Fr _ _ _ _ => zlF); (with_unfolding_all refine' For_invVF zlF ?zzk1 ?zzk2 ?_; (case zzk1 => exact rfl); (case zzk2 => exact rfl); k_whole)))) | (with_reducible refine nxR ?_) | (with_reducible refine nxN ?_) | (with_reducible refine nxB ?_) | (with_reducible refine nxK ?_) | (with_reducible refine exN ?_) | (with_reducible refine exA ?zzhs ?_; (case zzhs => k_dflt (exact (rfl : (pure false : Sem Bool) = pure false))); intro zqk) | (with_reducible refine exI ?_; intro zqk) | (with_reducible refine exR ?_) | (with_reducible refine exG ?_; intro zqk) | (with_reducible refine exC ?_; intro zqk) | ((with_reducible show wpAny _ _ (eval (Expr.Name _ _) _) _ _ _); k_dflt (refine' nmL ?zzF ?zzv (rfl : true = true) ?zzl ?_; (case zzF => k_asm); (case zzl => exact rfl); (case zzv => exact (rfl : some _ = some _)); k_whole)) | ((with_reducible show wpAny _ _ (storeName _ _ _) _ _ _); k_dflt (refine' stX ?zzF ?zzN (rfl : true = true) ?zzl ?_; (case zzF => k_asm); (case zzN => k_asm); (case zzl => exact rfl); k_whole); intro zm1 zh zt zF zN; (try k_sweep)) | k_unfold | walk1 | (dsimp only; walk1) | leave1))
    all_goals (refine Park.mk (turn_ends (_, _) (by assumption) (by assumption) (by kst_in) (by intro p hp; kst_mem) (tboff_head hoff) (List.forall_mem_nil _) (by (refine ovE ?_; (repeat' (first | (with_reducible exact ov0) | k_dflt (refine ovI (rfl : true = true) ?_) | k_dflt (refine ovK (rfl : true = true) ?_) | k_dflt (refine ovS (rfl : true = true) ?_) | k_dflt (exact ov0))))) (ints_snoc hP ?_)))
    all_goals first
      | exact en_E (by assumption) (by assumption) (by assumption) (by assumption)
      | exact en_D (by assumption) (by assumption)
      | exact en_C (by assumption) (by assumption) (by assumption)
      | exact en_A (by assumption)
  case done =>
    intro c u h tk hP F' N'
    (repeat' (first | ((with_reducible show wpAny _ _ (subscriptTail (Expr.Name _ _) (Expr.BinOp _ _ _ _) (Value.ref _) (Value.int _ _)) _ _ _); (first | (k_here; (with_reducible show wpAny _ _ (subscriptTail _ _ (Value.ref _) (Value.int _ _)) _ _ _); k_dflt (first | refine my_item (by k_asm) (by walk_at "my mem") (by assumption) (by first | lia | omega) (by first | lia | omega) (by first | lia | omega) ?_ (by with_unfolding_all rfl) (by with_unfolding_all (intro _; rfl)) | refine my_nat (by k_asm) (by walk_at "my mem") (by assumption) (by first | lia | omega) (by first | lia | omega) (by first | lia | omega) ?_ (by with_unfolding_all rfl) (by with_unfolding_all (intro _; rfl))); intro zt) | (k_here; k_dflt (refine' my_nat ?zzk1 ?zzk2 ?zzk3 ?zzk4 ?zzk5 ?zzk6 ?_ ?zzk7 ?zzk8; (case zzk1 => k_asm); (case zzk2 => walk_at "my mem"); (case zzk3 => assumption); (case zzk4 => exact ends_ge (by assumption) (by assumption)); (case zzk5 => (first | lia | omega)); (case zzk6 => (first | lia | omega)); (case zzk7 => with_unfolding_all rfl); (case zzk8 => with_unfolding_all (intro _; rfl))); intro zt))) | ((with_reducible show wpAny _ _ (call (Value.builtin "len") _ _) _ _ _); (k_here; (with_reducible show wpAny _ _ (call _ [Value.str (S (List.getD _ _ [])) _]) _ _ _); k_dflt (refine len_piece (by assumption) (by first | lia | omega) ?_); intro zlp1 zlp2 zlp3)) | ((with_reducible show wpAny _ _ (call (Value.builtin "list.append") _ _) _ _ _); (k_here; (with_reducible show wpAny _ _ (call _ [Value.ref _, _]) _ _ _); k_dflt (refine my_append (by k_asm) (by k_asm) (by assumption) (by first | lia | omega) ?_); intro zh zF zN; (try k_sweep))) | ((with_reducible show wpAny _ _ (subscriptTail _ _ (Value.ref _) (Value.int _ _)) _ _ _); ((k_here; (with_reducible show wpAny _ _ (subscriptTail _ _ (Value.ref _) (Value.int _ _)) _ _ _); k_dflt (first | refine my_item (by k_asm) (by walk_at "my mem") (by assumption) (by first | lia | omega) (by first | lia | omega) (by first | lia | omega) ?_ (by with_unfolding_all rfl) (by with_unfolding_all (intro _; rfl)) | refine my_nat (by k_asm) (by walk_at "my mem") (by assumption) (by first | lia | omega) (by first | lia | omega) (by first | lia | omega) ?_ (by with_unfolding_all rfl) (by with_unfolding_all (intro _; rfl))); intro zt))) | ((with_reducible show wpAny _ _ (call (Value.builtin "len") _ _) _ _ _); (k_here; (with_reducible show wpAny _ _ (call _ [Value.ref _]) _ _ _); k_dflt (refine my_len (by k_asm) (by walk_at "my mem") (by assumption) (by first | lia | omega) ?_))) | ((with_reducible show TurnEnds _ _ _ _ _ _ _ _ _ _ _); (refine Park.out ?_)) | ((with_reducible show TurnPost _ _ _ _ _ _ _ _ _ _ _ _ _); (dsimp only [TurnPost])) | ((with_reducible show wpAny _ _ (pyIter (Value.ref _)) _ _ _); (refine Park.out ?_)) | ((with_reducible show wpAny _ _ (exec (Stmt.For (Expr.Name _ _) (Expr.Call _ _ _ _) _ _ _) _) _ _ _); ((k_here; (rename Fr _ _ _ _ => zlF); (with_unfolding_all refine' For_invVF zlF ?zzk1 ?zzk2 ?_; (case zzk1 => exact rfl); (case zzk2 => exact rfl); k_whole)))) | (with_reducible refine nxR ?_) | (with_reducible refine nxN ?_) | (with_reducible refine nxB ?_) | (with_reducible refine nxK ?_) | (with_reducible refine exN ?_) | (with_reducible refine exA ?zzhs ?_; (case zzhs => k_dflt (exact (rfl : (pure false : Sem Bool) = pure false))); intro zqk) | (with_reducible refine exI ?_; intro zqk) | (with_reducible refine exR ?_) | (with_reducible refine exG ?_; intro zqk) | (with_reducible refine exC ?_; intro zqk) | ((with_reducible show wpAny _ _ (eval (Expr.Name _ _) _) _ _ _); k_dflt (refine' nmL ?zzF ?zzv (rfl : true = true) ?zzl ?_; (case zzF => k_asm); (case zzl => exact rfl); (case zzv => exact (rfl : some _ = some _)); k_whole)) | ((with_reducible show wpAny _ _ (storeName _ _ _) _ _ _); k_dflt (refine' stX ?zzF ?zzN (rfl : true = true) ?zzl ?_; (case zzF => k_asm); (case zzN => k_asm); (case zzl => exact rfl); k_whole); intro zm1 zh zt zF zN; (try k_sweep)) | k_unfold | walk1 | (dsimp only; walk1) | leave1))
    exact hret _ [(_, _)] _ _ (by assumption) (by assumption) (one_above (by assumption)) ⟨_, _, _, rfl, rfl, hP⟩
end
section
/- a list of pairs of ints in the ledger -/
noncomputable def Stops (news : Led) (svs : List Value) (stops : List (Nat × Nat)) : Prop :=
  svs.length = stops.length ∧ ∀ (i : Nat) v, svs[i]? = some v → ∃ T oT nt t u, v = .ref T ∧ (T, oT) ∈ news ∧ oT.cls = .type "tuple" ∧ oT.data = .seq #[.int ((stops.getD i (0, 0)).1 : Int) t, .int ((stops.getD i (0, 0)).2 : Int) u] nt
theorem my_add {prog : Program} {w : World} {A : Around} {E : Value → Shared → Prop} {s : Shared} {h₀ : Heap} {L a b : Addr} {m : Str → Option Value} {news : Led} {vs ws : List Value} {n1 n2 : Nat} {Q : Value → Shared → Prop}
    (F : Fr h₀ L s.heap m) (N : News h₀ L s.heap news) (ha : (a, listOf vs.toArray n1) ∈ news) (hb : (b, listOf ws.toArray n2) ∈ news) (hz : vs.length + ws.length ≤ 2000)
    (h : ∀ D h', Fr h₀ L h' m → News h₀ L h' ((D, listOf (vs ++ ws).toArray 0) :: news) → (∀ p ∈ news, p.1 < D) → Q (.ref D) { s with heap := h' }) : wpAny (model prog w) A (binaryOp .Add (.ref a) (.ref b)) Q E s :=
  add_lists (hsz := Nat.le_trans hz (by decide)) F N ⟨_, (N _ ha).1, rfl, _, rfl⟩ ⟨_, (N _ hb).1, rfl, _, rfl⟩ fun h' F' N' => h _ h' F' N' fun p hp => Heap.lt_size (N p hp).1
theorem strs_app {vs ws : List Value} {xs ys : List Str} (h : StrsAre vs xs) (h2 : StrsAre ws ys) : StrsAre (vs ++ ws) (xs ++ ys) := by
  induction h with
  | nil => exact h2
  | cons a b _ ih => exact StrsAre.cons a b ih
theorem any_stops {α : Type} (f : α → Bool) (z : α) : ∀ (l : List α), (l.any f = false) ↔ ∀ k < l.length, f (l.getD k z) = false
  | [] => by simp
  | x :: r => by
    rw [List.any_cons, Bool.or_eq_false_iff, any_stops f z r]
    constructor
    · rintro ⟨a, b⟩ k hk
      cases k with
      | zero => exact a
      | succ k => exact b k (by simpa using hk)
    · intro a
      exact ⟨a 0 (by simp), fun k hk => a (k + 1) (by simpa using hk)⟩
theorem one_len {ps : List (List Nat)} {j : Nat} : ((ps.take j ++ [[34]] ++ ps.drop j).map List.length).sum = (ps.map List.length).sum + 1 := by
  have := congrArg (fun z => (z.map List.length).sum) (List.take_append_drop j ps)
  simp only [List.map_append, List.sum_append, List.map_cons, List.map_nil, List.sum_cons, List.sum_nil, List.length_cons, List.length_nil] at this ⊢
  (first | lia | omega)
theorem one_len2 {ps : List (List Nat)} {j : Nat} : (ps.take j ++ [[34]] ++ ps.drop j).length = ps.length + 1 := by
  have := congrArg List.length (List.take_append_drop j ps)
  simp only [List.length_append, List.length_cons, List.length_nil] at this ⊢
  (first | lia | omega)
theorem one_dots {ps : List (List Nat)} (h : ∀ p ∈ ps, 46 ∉ p) {j : Nat} : ∀ p ∈ ps.take j ++ [[34]] ++ ps.drop j, 46 ∉ p := by
  intro p hp
  rcases List.mem_append.mp hp with hp | hp
  · rcases List.mem_append.mp hp with hp | hp
    · exact h p (List.mem_of_mem_take hp)
    · rw [List.mem_singleton.mp hp]; decide
  · exact h p (List.mem_of_mem_drop hp)
theorem strs_one {vs : List Value} {j : Nat} {t : Tok} {ps : List (List Nat)} (h : StrsAre vs (ps.map S)) : StrsAre (vs.take j ++ [.str (Str.ofString "\"") t] ++ vs.drop j) ((ps.take j ++ [[34]] ++ ps.drop j).map S) := by
  rw [List.map_append, List.map_append]
  refine strs_app (strs_app (strs_take h j) ?_) (strs_drop h j)
  exact StrsAre.cons (y := S [34]) t StrsAre.nil
theorem parted_ok (w : World) (l l2 : Addr) (vs svs : List Value) (nn n2 : Nat) (ps : List (List Nat)) (stops : List (Nat × Nat)) (g : List Nat) (t' : Tok) (hs : StrsAre vs (ps.map S)) (hb : PB ps) (hg : g.length < 1000) (hb2 : (ps.map List.length).sum + ps.length * 3 < 890) (hst : stops.length < 1000) (hsm : ∀ q ∈ stops, q.1 < 1000 ∧ q.2 < 1000)
    (hyp : ∀ j, j ≤ ps.length → foundGo (ps.take j ++ [[34]] ++ ps.drop j) g 0 = stops.any fun p => decide (j ≤ p.1 ∧ ps.length - j ≤ p.2)) :
    CPure w 40 175 [.str (S g) t', .ref l, .ref l2] (fun news => (l, listOf vs.toArray nn) ∈ news ∧ (l2, listOf svs.toArray n2) ∈ news ∧ Stops news svs stops) (fun r => r = .bool true) := by
  unfold CPure
  k_fill
  k_with_none
  w_top off
  intro p loose mean mg mb dp un gd cn cs a ccd cl outer A₀ base h₀ L m news s Q E B F X N T hk hdp hun hpre hret
  show let G9 : Prop := _; G9
  intro G9
  obtain ⟨hp1, hp2, hp3⟩ := hpre
  k_unfold
  have hlen := strs_Slen hs rfl
  have hpl := hb.len
  have hgl := S_len g
  have hsl := hp3.1
  refine wpAny_call ?_
  k_dflt (refine' code_defC ?k1 ?k2 ?k3 ?k4 ?k5 ?kA ?kF ?kK ?k6 ?k7 ?k8 ?k9 ?kB ?kD ?_ ?c2 ?c3 ?c4; (case kA => exact rfl); (case kF => exact rfl); (case kK => first | exact rfl | assumption); (case k1 => k_asm); (case k2 => k_asm); (case k3 => k_asm); (case k4 => k_asm); (case k5 => k_asm); (case k6 => k_is); (case k7 => k_is); (case k8 => first | exact enter_room (by assumption) | ktr_room); (case k9 => exact BindsTo.of_eq rfl); (case kB => exact rfl); (case kD => decide +kernel); (case c2 => exact rfl); (case c3 => exact rfl); (case c4 => exact rfl); k_whole)
  intro g' L' h' tk' cells' FG' F' N' Y' B' X' T' l1
  show let G9 : Prop := _; G9
  intro G9
  obtain ⟨oj, op, rfl, dj, dp'⟩ := PyProof.Rows.CellsAre.two Y'
  k_unfold
  have dj' : oj.data = .cell none := dj
  have dp9 : op.data = .cell (some (.ref l)) := dp'
  clear dj dp' Y'
  have hn1 : ∀ p ∈ news, p.1 ≠ L' + 1 + 1 := fun p hp => Nat.ne_of_lt (Nat.lt_succ_of_lt (Nat.lt_succ_of_lt (l1 p hp)))
  (try simp only [List.cons_append, List.nil_append] at N')
  (try dsimp only)
  (try k_lift B')
  (try k_fold)
  (repeat' (first | ((with_reducible show wpAny _ _ (eval (Expr.Name _ _) _) _ _ _); (k_here; k_dflt (refine' nameX_L ?zzF ?zzv ?_ ?zza ?zzb; (case zzF => k_asm); (case zza => rfl); (case zzb => rfl); (case zzv => with_unfolding_all assumption); k_whole))) | ((with_reducible show wpAny _ _ (binaryOp _ (Value.ref _) (Value.ref _)) _ _ _); (k_here; (with_reducible show wpAny _ _ (binaryOp _ (Value.ref _) (Value.ref _)) _ _ _); k_dflt (refine' my_add ?zzF ?zzN ?zza ?zzb ?zzz ?_; (case zzF => k_asm); (case zzN => k_asm); (case zza => walk_at "my mem"); (case zzb => walk_at "my mem"); (case zzz => (simp only [List.length_append, List.length_take, List.length_drop, List.length_cons, List.length_nil]; (first | lia | omega)))); intro zD zh zF zN zl1; (try k_lt zl1); (try k_sweep))) | ((with_reducible show wpAny _ _ (eval (Expr.ListComp _ _ _ _) _) _ _ _); (refine Park.out ?_)) | ((with_reducible show wpAny _ _ (exec (Stmt.For (Expr.Name _ _) (Expr.Call _ _ _ _) _ _ _) _) _ _ _); (k_here; refine wpAny_For ?_)) | ((with_reducible show wpAny _ _ (call (Value.ref _) _ _) _ _ _); ((with_reducible show wpAny _ _ (call (Value.ref 156) _ _) _ _ _); refine Park.out ?_)) | ((with_reducible show wpAny _ _ (call (Value.builtin "len") _ _) _ _ _); (k_here; (with_reducible show wpAny _ _ (call _ [Value.str (S (List.getD _ _ [])) _]) _ _ _); k_dflt (refine len_piece (by assumption) (by first | lia | omega) ?_); intro zlp1 zlp2 zlp3)) | ((with_reducible show wpAny _ _ (subscriptTail (Expr.Name _ _) (Expr.Slice _ _ _ _) (Value.ref _) (Value.ref _)) _ _ _); (k_here; k_dflt (first | refine my_upto (by k_asm) (by k_asm) (by walk_at "my mem") (by first | lia | omega) (by first | lia | omega) ?_ (by with_unfolding_all rfl) (by kmk_pure) | refine my_from (by k_asm) (by k_asm) (by walk_at "my mem") (by first | lia | omega) (by first | lia | omega) ?_ (by with_unfolding_all rfl) (by kmk_pure)); intro zD zh zF zN zl1; (try k_lt zl1); (try k_sweep))) | ((with_reducible show wpAny _ _ (call (Value.builtin "len") _ _) _ _ _); (k_here; (with_reducible show wpAny _ _ (call _ [Value.ref _]) _ _ _); k_dflt (refine my_len (by k_asm) (by walk_at "my mem") (by assumption) (by first | lia | omega) ?_))) | ((with_reducible show wpAny _ _ (pyIter (Value.ref _)) _ _ _); (refine Park.out ?_)) | ((with_reducible show wpAny _ _ (exec (Stmt.For (Expr.Name _ _) (Expr.Call _ _ _ _) _ _ _) _) _ _ _); ((k_here; (rename Fr _ _ _ _ => zlF); (with_unfolding_all refine' For_invVF zlF ?zzk1 ?zzk2 ?_; (case zzk1 => exact rfl); (case zzk2 => exact rfl); k_whole)))) | (with_reducible refine nxR ?_) | (with_reducible refine nxN ?_) | (with_reducible refine nxB ?_) | (with_reducible refine nxK ?_) | (with_reducible refine exN ?_) | (with_reducible refine exA ?zzhs ?_; (case zzhs => k_dflt (exact (rfl : (pure false : Sem Bool) = pure false))); intro zqk) | (with_reducible refine exI ?_; intro zqk) | (with_reducible refine exR ?_) | (with_reducible refine exG ?_; intro zqk) | (with_reducible refine exC ?_; intro zqk) | ((with_reducible show wpAny _ _ (eval (Expr.Name _ _) _) _ _ _); k_dflt (refine' nmL ?zzF ?zzv (rfl : true = true) ?zzl ?_; (case zzF => k_asm); (case zzl => exact rfl); (case zzv => exact (rfl : some _ = some _)); k_whole)) | ((with_reducible show wpAny _ _ (storeName _ _ _) _ _ _); k_dflt (refine' stX ?zzF ?zzN (rfl : true = true) ?zzl ?_; (case zzF => k_asm); (case zzN => k_asm); (case zzl => exact rfl); k_whole); intro zm1 zh zt zF zN; (try k_sweep)) | k_unfold | walk1 | (dsimp only; walk1) | leave1))
  refine Park.mk ?_
  (rename Fr _ _ _ _ => lF'); (rename News _ _ _ _ => lN'); (rename IsRange _ _ _ _ _ _ _ _ => rgX)
  with_unfolding_all refine' raw_range (n := ps.length + 1) (σ := Obj) (fun _ => g') (fun c => (L' + 1 + 1, c) :: (L' + 1, op) :: news) (fun _ c m => (∃ v₀, c.data = .cell v₀) ∧ m (Str.ofString "name") = some (.str (S g) t') ∧ m (Str.ofString "stops") = some (.ref l2)) oj (by rfl) rgX ?hsm ?hn lF' lN' ?hp ?turn ?done
  case hsm => exact small_one (by first | lia | omega) (by first | lia | omega) (by first | lia | omega) (by first | lia | omega)
  case hn => exact (rangeSize_nat _ _).trans (by first | lia | omega)
  case hp => exact ⟨⟨_, dj'⟩, rfl, rfl⟩
  case turn =>
    intro it i c m9 h9 tk9 t9 E9 hi hP F9 N9 off
    show let G9 : Prop := _; G9
    intro G9
    obtain ⟨⟨v0, dc⟩, hm1, hm2⟩ := hP
    k_unfold
    have q1 : it ≠ L' + 1 + 1 := (off _ (List.Mem.head _)).symm
    have q2 : it ≠ L' + 1 := (off _ (List.Mem.tail _ (List.Mem.head _))).symm
    (try dsimp only at F9 N9)
    (repeat' (first | ((with_reducible show wpAny _ _ (eval (Expr.Name _ _) _) _ _ _); (k_here; k_dflt (refine' nameX_L ?zzF ?zzv ?_ ?zza ?zzb; (case zzF => k_asm); (case zza => rfl); (case zzb => rfl); (case zzv => with_unfolding_all assumption); k_whole))) | ((with_reducible show wpAny _ _ (binaryOp _ (Value.ref _) (Value.ref _)) _ _ _); (k_here; (with_reducible show wpAny _ _ (binaryOp _ (Value.ref _) (Value.ref _)) _ _ _); k_dflt (refine' my_add ?zzF ?zzN ?zza ?zzb ?zzz ?_; (case zzF => k_asm); (case zzN => k_asm); (case zza => walk_at "my mem"); (case zzb => walk_at "my mem"); (case zzz => (simp only [List.length_append, List.length_take, List.length_drop, List.length_cons, List.length_nil]; (first | lia | omega)))); intro zD zh zF zN zl1; (try k_lt zl1); (try k_sweep))) | ((with_reducible show wpAny _ _ (eval (Expr.ListComp _ _ _ _) _) _ _ _); (refine Park.out ?_)) | ((with_reducible show wpAny _ _ (exec (Stmt.For (Expr.Name _ _) (Expr.Call _ _ _ _) _ _ _) _) _ _ _); (k_here; refine wpAny_For ?_)) | ((with_reducible show wpAny _ _ (call (Value.ref _) _ _) _ _ _); ((with_reducible show wpAny _ _ (call (Value.ref 156) _ _) _ _ _); refine Park.out ?_)) | ((with_reducible show wpAny _ _ (call (Value.builtin "len") _ _) _ _ _); (k_here; (with_reducible show wpAny _ _ (call _ [Value.str (S (List.getD _ _ [])) _]) _ _ _); k_dflt (refine len_piece (by assumption) (by first | lia | omega) ?_); intro zlp1 zlp2 zlp3)) | ((with_reducible show wpAny _ _ (subscriptTail (Expr.Name _ _) (Expr.Slice _ _ _ _) (Value.ref _) (Value.ref _)) _ _ _); (k_here; k_dflt (first | refine my_upto (by k_asm) (by k_asm) (by walk_at "my mem") (by first | lia | omega) (by first | lia | omega) ?_ (by with_unfolding_all rfl) (by kmk_pure) | refine my_from (by k_asm) (by k_asm) (by walk_at "my mem") (by first | lia | omega) (by first | lia | omega) ?_ (by with_unfolding_all rfl) (by kmk_pure)); intro zD zh zF zN zl1; (try k_lt zl1); (try k_sweep))) | ((with_reducible show wpAny _ _ (call (Value.builtin "len") _ _) _ _ _); (k_here; (with_reducible show wpAny _ _ (call _ [Value.ref _]) _ _ _); k_dflt (refine my_len (by k_asm) (by walk_at "my mem") (by assumption) (by first | lia | omega) ?_))) | ((with_reducible show wpAny _ _ (pyIter (Value.ref _)) _ _ _); (refine Park.out ?_)) | ((with_reducible show wpAny _ _ (exec (Stmt.For (Expr.Name _ _) (Expr.Call _ _ _ _) _ _ _) _) _ _ _); ((k_here; (rename Fr _ _ _ _ => zlF); (with_unfolding_all refine' For_invVF zlF ?zzk1 ?zzk2 ?_; (case zzk1 => exact rfl); (case zzk2 => exact rfl); k_whole)))) | (with_reducible refine nxR ?_) | (with_reducible refine nxN ?_) | (with_reducible refine nxB ?_) | (with_reducible refine nxK ?_) | (with_reducible refine exN ?_) | (with_reducible refine exA ?zzhs ?_; (case zzhs => k_dflt (exact (rfl : (pure false : Sem Bool) = pure false))); intro zqk) | (with_reducible refine exI ?_; intro zqk) | (with_reducible refine exR ?_) | (with_reducible refine exG ?_; intro zqk) | (with_reducible refine exC ?_; intro zqk) | ((with_reducible show wpAny _ _ (eval (Expr.Name _ _) _) _ _ _); k_dflt (refine' nmL ?zzF ?zzv (rfl : true = true) ?zzl ?_; (case zzF => k_asm); (case zzl => exact rfl); (case zzv => exact (rfl : some _ = some _)); k_whole)) | ((with_reducible show wpAny _ _ (storeName _ _ _) _ _ _); k_dflt (refine' stX ?zzF ?zzN (rfl : true = true) ?zzl ?_; (case zzF => k_asm); (case zzN => k_asm); (case zzl => exact rfl); k_whole); intro zm1 zh zt zF zN; (try k_sweep)) | k_unfold | walk1 | (dsimp only; walk1) | leave1))
    k_dflt (refine' storeX_C ?F ?N ?c ?U ?d ?_ ?a ?b; (case a => rfl); (case b => rfl); (case F => exact F9); (case N => exact N9); (case c => rfl); (case U => exact UpdF.tail q1 (UpdF.head (List.forall_mem_cons.mpr ⟨by k_ne, hn1⟩))); (case d => exact dc); k_whole)
    intro hA oA FA NA dA
    clear N9 F9
    (try dsimp only at NA)
    (repeat' (first | ((with_reducible show wpAny _ _ (eval (Expr.Name _ _) _) _ _ _); (k_here; k_dflt (refine' nameX_L ?zzF ?zzv ?_ ?zza ?zzb; (case zzF => k_asm); (case zza => rfl); (case zzb => rfl); (case zzv => with_unfolding_all assumption); k_whole))) | ((with_reducible show wpAny _ _ (binaryOp _ (Value.ref _) (Value.ref _)) _ _ _); (k_here; (with_reducible show wpAny _ _ (binaryOp _ (Value.ref _) (Value.ref _)) _ _ _); k_dflt (refine' my_add ?zzF ?zzN ?zza ?zzb ?zzz ?_; (case zzF => k_asm); (case zzN => k_asm); (case zza => walk_at "my mem"); (case zzb => walk_at "my mem"); (case zzz => (simp only [List.length_append, List.length_take, List.length_drop, List.length_cons, List.length_nil]; (first | lia | omega)))); intro zD zh zF zN zl1; (try k_lt zl1); (try k_sweep))) | ((with_reducible show wpAny _ _ (eval (Expr.ListComp _ _ _ _) _) _ _ _); (refine Park.out ?_)) | ((with_reducible show wpAny _ _ (exec (Stmt.For (Expr.Name _ _) (Expr.Call _ _ _ _) _ _ _) _) _ _ _); (k_here; refine wpAny_For ?_)) | ((with_reducible show wpAny _ _ (call (Value.ref _) _ _) _ _ _); ((with_reducible show wpAny _ _ (call (Value.ref 156) _ _) _ _ _); refine Park.out ?_)) | ((with_reducible show wpAny _ _ (call (Value.builtin "len") _ _) _ _ _); (k_here; (with_reducible show wpAny _ _ (call _ [Value.str (S (List.getD _ _ [])) _]) _ _ _); k_dflt (refine len_piece (by assumption) (by first | lia | omega) ?_); intro zlp1 zlp2 zlp3)) | ((with_reducible show wpAny _ _ (subscriptTail (Expr.Name _ _) (Expr.Slice _ _ _ _) (Value.ref _) (Value.ref _)) _ _ _); (k_here; k_dflt (first | refine my_upto (by k_asm) (by k_asm) (by walk_at "my mem") (by first | lia | omega) (by first | lia | omega) ?_ (by with_unfolding_all rfl) (by kmk_pure) | refine my_from (by k_asm) (by k_asm) (by walk_at "my mem") (by first | lia | omega) (by first | lia | omega) ?_ (by with_unfolding_all rfl) (by kmk_pure)); intro zD zh zF zN zl1; (try k_lt zl1); (try k_sweep))) | ((with_reducible show wpAny _ _ (call (Value.builtin "len") _ _) _ _ _); (k_here; (with_reducible show wpAny _ _ (call _ [Value.ref _]) _ _ _); k_dflt (refine my_len (by k_asm) (by walk_at "my mem") (by assumption) (by first | lia | omega) ?_))) | ((with_reducible show wpAny _ _ (pyIter (Value.ref _)) _ _ _); (refine Park.out ?_)) | ((with_reducible show wpAny _ _ (exec (Stmt.For (Expr.Name _ _) (Expr.Call _ _ _ _) _ _ _) _) _ _ _); ((k_here; (rename Fr _ _ _ _ => zlF); (with_unfolding_all refine' For_invVF zlF ?zzk1 ?zzk2 ?_; (case zzk1 => exact rfl); (case zzk2 => exact rfl); k_whole)))) | (with_reducible refine nxR ?_) | (with_reducible refine nxN ?_) | (with_reducible refine nxB ?_) | (with_reducible refine nxK ?_) | (with_reducible refine exN ?_) | (with_reducible refine exA ?zzhs ?_; (case zzhs => k_dflt (exact (rfl : (pure false : Sem Bool) = pure false))); intro zqk) | (with_reducible refine exI ?_; intro zqk) | (with_reducible refine exR ?_) | (with_reducible refine exG ?_; intro zqk) | (with_reducible refine exC ?_; intro zqk) | ((with_reducible show wpAny _ _ (eval (Expr.Name _ _) _) _ _ _); k_dflt (refine' nmL ?zzF ?zzv (rfl : true = true) ?zzl ?_; (case zzF => k_asm); (case zzl => exact rfl); (case zzv => exact (rfl : some _ = some _)); k_whole)) | ((with_reducible show wpAny _ _ (storeName _ _ _) _ _ _); k_dflt (refine' stX ?zzF ?zzN (rfl : true = true) ?zzl ?_; (case zzF => k_asm); (case zzN => k_asm); (case zzl => exact rfl); k_whole); intro zm1 zh zt zF zN; (try k_sweep)) | k_unfold | walk1 | (dsimp only; walk1) | leave1))
    refine Park.mk ?_
    (with_unfolding_all refine' (pairs_comp (svs := svs) (ax := l2) (fun k => decide (i ≤ (stops.getD k (0, 0)).1 ∧ ps.length - i ≤ (stops.getD k (0, 0)).2)) (fun k x1 x2 => ∃ t u, x1 = .int ((stops.getD k (0, 0)).1 : Int) t ∧ x2 = .int ((stops.getD k (0, 0)).2 : Int) u) ?c1 ?c2 ?c3 ?c4 ?c5 ?c6 ?c7 ?c8 ?c9 FA NA ?d1 ?d2 ?d3 ?d4 ?d5 ?d6))
    case c1 => with_unfolding_all exact rfl
    case c2 => decide
    case c3 => rfl
    case c4 => decide
    case c5 => rfl
    case c6 => rfl
    case c7 => decide
    case c8 => with_unfolding_all exact rfl
    case c9 => exact Nat.le_trans (by first | lia | omega : svs.length ≤ 1000) (by decide)
    case d1 => exact List.Mem.tail _ (List.Mem.tail _ (List.Mem.tail _ hp2))
    case d2 =>
      intro k v hv
      show let G9 : Prop := _; G9
      intro G9
      obtain ⟨T, oT, nt, t, u, e, mT, cT, dT⟩ := hp3.2 k v hv
      k_unfold
      exact ⟨T, oT, nt, _, _, e, List.Mem.tail _ (List.Mem.tail _ (List.Mem.tail _ mT)), cT, dT, t, u, rfl, rfl⟩
    case d3 =>
      intro Q' hq
      (repeat' (first | ((with_reducible show wpAny _ _ (eval (Expr.Name _ _) _) _ _ _); (k_here; k_dflt (refine' nameX_L ?zzF ?zzv ?_ ?zza ?zzb; (case zzF => k_asm); (case zza => rfl); (case zzb => rfl); (case zzv => with_unfolding_all assumption); k_whole))) | ((with_reducible show wpAny _ _ (binaryOp _ (Value.ref _) (Value.ref _)) _ _ _); (k_here; (with_reducible show wpAny _ _ (binaryOp _ (Value.ref _) (Value.ref _)) _ _ _); k_dflt (refine' my_add ?zzF ?zzN ?zza ?zzb ?zzz ?_; (case zzF => k_asm); (case zzN => k_asm); (case zza => walk_at "my mem"); (case zzb => walk_at "my mem"); (case zzz => (simp only [List.length_append, List.length_take, List.length_drop, List.length_cons, List.length_nil]; (first | lia | omega)))); intro zD zh zF zN zl1; (try k_lt zl1); (try k_sweep))) | ((with_reducible show wpAny _ _ (eval (Expr.ListComp _ _ _ _) _) _ _ _); (refine Park.out ?_)) | ((with_reducible show wpAny _ _ (exec (Stmt.For (Expr.Name _ _) (Expr.Call _ _ _ _) _ _ _) _) _ _ _); (k_here; refine wpAny_For ?_)) | ((with_reducible show wpAny _ _ (call (Value.ref _) _ _) _ _ _); ((with_reducible show wpAny _ _ (call (Value.ref 156) _ _) _ _ _); refine Park.out ?_)) | ((with_reducible show wpAny _ _ (call (Value.builtin "len") _ _) _ _ _); (k_here; (with_reducible show wpAny _ _ (call _ [Value.str (S (List.getD _ _ [])) _]) _ _ _); k_dflt (refine len_piece (by assumption) (by first | lia | omega) ?_); intro zlp1 zlp2 zlp3)) | ((with_reducible show wpAny _ _ (subscriptTail (Expr.Name _ _) (Expr.Slice _ _ _ _) (Value.ref _) (Value.ref _)) _ _ _); (k_here; k_dflt (first | refine my_upto (by k_asm) (by k_asm) (by walk_at "my mem") (by first | lia | omega) (by first | lia | omega) ?_ (by with_unfolding_all rfl) (by kmk_pure) | refine my_from (by k_asm) (by k_asm) (by walk_at "my mem") (by first | lia | omega) (by first | lia | omega) ?_ (by with_unfolding_all rfl) (by kmk_pure)); intro zD zh zF zN zl1; (try k_lt zl1); (try k_sweep))) | ((with_reducible show wpAny _ _ (call (Value.builtin "len") _ _) _ _ _); (k_here; (with_reducible show wpAny _ _ (call _ [Value.ref _]) _ _ _); k_dflt (refine my_len (by k_asm) (by walk_at "my mem") (by assumption) (by first | lia | omega) ?_))) | ((with_reducible show wpAny _ _ (pyIter (Value.ref _)) _ _ _); (refine Park.out ?_)) | ((with_reducible show wpAny _ _ (exec (Stmt.For (Expr.Name _ _) (Expr.Call _ _ _ _) _ _ _) _) _ _ _); ((k_here; (rename Fr _ _ _ _ => zlF); (with_unfolding_all refine' For_invVF zlF ?zzk1 ?zzk2 ?_; (case zzk1 => exact rfl); (case zzk2 => exact rfl); k_whole)))) | (with_reducible refine nxR ?_) | (with_reducible refine nxN ?_) | (with_reducible refine nxB ?_) | (with_reducible refine nxK ?_) | (with_reducible refine exN ?_) | (with_reducible refine exA ?zzhs ?_; (case zzhs => k_dflt (exact (rfl : (pure false : Sem Bool) = pure false))); intro zqk) | (with_reducible refine exI ?_; intro zqk) | (with_reducible refine exR ?_) | (with_reducible refine exG ?_; intro zqk) | (with_reducible refine exC ?_; intro zqk) | ((with_reducible show wpAny _ _ (eval (Expr.Name _ _) _) _ _ _); k_dflt (refine' nmL ?zzF ?zzv (rfl : true = true) ?zzl ?_; (case zzF => k_asm); (case zzl => exact rfl); (case zzv => exact (rfl : some _ = some _)); k_whole)) | ((with_reducible show wpAny _ _ (storeName _ _ _) _ _ _); k_dflt (refine' stX ?zzF ?zzN (rfl : true = true) ?zzl ?_; (case zzF => k_asm); (case zzN => k_asm); (case zzl => exact rfl); k_whole); intro zm1 zh zt zF zN; (try k_sweep)) | k_unfold | walk1 | (dsimp only; walk1) | leave1))
      all_goals exact hq
    case d4 =>
      intro k x1 x2 C I D h2 tk2 oI oC ys m' E' hk2 hV hoC e1 e2 F2 N2
      show let G9 : Prop := _; G9
      intro G9
      obtain ⟨t1, t2, rfl, rfl⟩ := hV
      k_unfold
      clear NA FA
      (repeat' (first | ((with_reducible show wpAny _ _ (eval (Expr.Name _ _) _) _ _ _); (k_here; k_dflt (refine' nameX_L ?zzF ?zzv ?_ ?zza ?zzb; (case zzF => k_asm); (case zza => rfl); (case zzb => rfl); (case zzv => with_unfolding_all assumption); k_whole))) | ((with_reducible show wpAny _ _ (binaryOp _ (Value.ref _) (Value.ref _)) _ _ _); (k_here; (with_reducible show wpAny _ _ (binaryOp _ (Value.ref _) (Value.ref _)) _ _ _); k_dflt (refine' my_add ?zzF ?zzN ?zza ?zzb ?zzz ?_; (case zzF => k_asm); (case zzN => k_asm); (case zza => walk_at "my mem"); (case zzb => walk_at "my mem"); (case zzz => (simp only [List.length_append, List.length_take, List.length_drop, List.length_cons, List.length_nil]; (first | lia | omega)))); intro zD zh zF zN zl1; (try k_lt zl1); (try k_sweep))) | ((with_reducible show wpAny _ _ (eval (Expr.ListComp _ _ _ _) _) _ _ _); (refine Park.out ?_)) | ((with_reducible show wpAny _ _ (exec (Stmt.For (Expr.Name _ _) (Expr.Call _ _ _ _) _ _ _) _) _ _ _); (k_here; refine wpAny_For ?_)) | ((with_reducible show wpAny _ _ (call (Value.ref _) _ _) _ _ _); ((with_reducible show wpAny _ _ (call (Value.ref 156) _ _) _ _ _); refine Park.out ?_)) | ((with_reducible show wpAny _ _ (call (Value.builtin "len") _ _) _ _ _); (k_here; (with_reducible show wpAny _ _ (call _ [Value.str (S (List.getD _ _ [])) _]) _ _ _); k_dflt (refine len_piece (by assumption) (by first | lia | omega) ?_); intro zlp1 zlp2 zlp3)) | ((with_reducible show wpAny _ _ (subscriptTail (Expr.Name _ _) (Expr.Slice _ _ _ _) (Value.ref _) (Value.ref _)) _ _ _); (k_here; k_dflt (first | refine my_upto (by k_asm) (by k_asm) (by walk_at "my mem") (by first | lia | omega) (by first | lia | omega) ?_ (by with_unfolding_all rfl) (by kmk_pure) | refine my_from (by k_asm) (by k_asm) (by walk_at "my mem") (by first | lia | omega) (by first | lia | omega) ?_ (by with_unfolding_all rfl) (by kmk_pure)); intro zD zh zF zN zl1; (try k_lt zl1); (try k_sweep))) | ((with_reducible show wpAny _ _ (call (Value.builtin "len") _ _) _ _ _); (k_here; (with_reducible show wpAny _ _ (call _ [Value.ref _]) _ _ _); k_dflt (refine my_len (by k_asm) (by walk_at "my mem") (by assumption) (by first | lia | omega) ?_))) | ((with_reducible show wpAny _ _ (pyIter (Value.ref _)) _ _ _); (refine Park.out ?_)) | ((with_reducible show wpAny _ _ (exec (Stmt.For (Expr.Name _ _) (Expr.Call _ _ _ _) _ _ _) _) _ _ _); ((k_here; (rename Fr _ _ _ _ => zlF); (with_unfolding_all refine' For_invVF zlF ?zzk1 ?zzk2 ?_; (case zzk1 => exact rfl); (case zzk2 => exact rfl); k_whole)))) | (with_reducible refine nxR ?_) | (with_reducible refine nxN ?_) | (with_reducible refine nxB ?_) | (with_reducible refine nxK ?_) | (with_reducible refine exN ?_) | (with_reducible refine exA ?zzhs ?_; (case zzhs => k_dflt (exact (rfl : (pure false : Sem Bool) = pure false))); intro zqk) | (with_reducible refine exI ?_; intro zqk) | (with_reducible refine exR ?_) | (with_reducible refine exG ?_; intro zqk) | (with_reducible refine exC ?_; intro zqk) | ((with_reducible show wpAny _ _ (eval (Expr.Name _ _) _) _ _ _); k_dflt (refine' nmL ?zzF ?zzv (rfl : true = true) ?zzl ?_; (case zzF => k_asm); (case zzl => exact rfl); (case zzv => exact (rfl : some _ = some _)); k_whole)) | ((with_reducible show wpAny _ _ (storeName _ _ _) _ _ _); k_dflt (refine' stX ?zzF ?zzN (rfl : true = true) ?zzl ?_; (case zzF => k_asm); (case zzN => k_asm); (case zzl => exact rfl); k_whole); intro zm1 zh zt zF zN; (try k_sweep)) | k_unfold | walk1 | (dsimp only; walk1) | leave1))
      all_goals (first | assumption | (symm; first | (refine decide_eq_true ?_; (first | lia | omega)) | (refine decide_eq_false ?_; (first | lia | omega))))
    case d5 =>
      intro C h2 tk2 E' Q' hq
      (repeat' (first | ((with_reducible show wpAny _ _ (eval (Expr.Name _ _) _) _ _ _); (k_here; k_dflt (refine' nameX_L ?zzF ?zzv ?_ ?zza ?zzb; (case zzF => k_asm); (case zza => rfl); (case zzb => rfl); (case zzv => with_unfolding_all assumption); k_whole))) | ((with_reducible show wpAny _ _ (binaryOp _ (Value.ref _) (Value.ref _)) _ _ _); (k_here; (with_reducible show wpAny _ _ (binaryOp _ (Value.ref _) (Value.ref _)) _ _ _); k_dflt (refine' my_add ?zzF ?zzN ?zza ?zzb ?zzz ?_; (case zzF => k_asm); (case zzN => k_asm); (case zza => walk_at "my mem"); (case zzb => walk_at "my mem"); (case zzz => (simp only [List.length_append, List.length_take, List.length_drop, List.length_cons, List.length_nil]; (first | lia | omega)))); intro zD zh zF zN zl1; (try k_lt zl1); (try k_sweep))) | ((with_reducible show wpAny _ _ (eval (Expr.ListComp _ _ _ _) _) _ _ _); (refine Park.out ?_)) | ((with_reducible show wpAny _ _ (exec (Stmt.For (Expr.Name _ _) (Expr.Call _ _ _ _) _ _ _) _) _ _ _); (k_here; refine wpAny_For ?_)) | ((with_reducible show wpAny _ _ (call (Value.ref _) _ _) _ _ _); ((with_reducible show wpAny _ _ (call (Value.ref 156) _ _) _ _ _); refine Park.out ?_)) | ((with_reducible show wpAny _ _ (call (Value.builtin "len") _ _) _ _ _); (k_here; (with_reducible show wpAny _ _ (call _ [Value.str (S (List.getD _ _ [])) _]) _ _ _); k_dflt (refine len_piece (by assumption) (by first | lia | omega) ?_); intro zlp1 zlp2 zlp3)) | ((with_reducible show wpAny _ _ (subscriptTail (Expr.Name _ _) (Expr.Slice _ _ _ _) (Value.ref _) (Value.ref _)) _ _ _); (k_here; k_dflt (first | refine my_upto (by k_asm) (by k_asm) (by walk_at "my mem") (by first | lia | omega) (by first | lia | omega) ?_ (by with_unfolding_all rfl) (by kmk_pure) | refine my_from (by k_asm) (by k_asm) (by walk_at "my mem") (by first | lia | omega) (by first | lia | omega) ?_ (by with_unfolding_all rfl) (by kmk_pure)); intro zD zh zF zN zl1; (try k_lt zl1); (try k_sweep))) | ((with_reducible show wpAny _ _ (call (Value.builtin "len") _ _) _ _ _); (k_here; (with_reducible show wpAny _ _ (call _ [Value.ref _]) _ _ _); k_dflt (refine my_len (by k_asm) (by walk_at "my mem") (by assumption) (by first | lia | omega) ?_))) | ((with_reducible show wpAny _ _ (pyIter (Value.ref _)) _ _ _); (refine Park.out ?_)) | ((with_reducible show wpAny _ _ (exec (Stmt.For (Expr.Name _ _) (Expr.Call _ _ _ _) _ _ _) _) _ _ _); ((k_here; (rename Fr _ _ _ _ => zlF); (with_unfolding_all refine' For_invVF zlF ?zzk1 ?zzk2 ?_; (case zzk1 => exact rfl); (case zzk2 => exact rfl); k_whole)))) | (with_reducible refine nxR ?_) | (with_reducible refine nxN ?_) | (with_reducible refine nxB ?_) | (with_reducible refine nxK ?_) | (with_reducible refine exN ?_) | (with_reducible refine exA ?zzhs ?_; (case zzhs => k_dflt (exact (rfl : (pure false : Sem Bool) = pure false))); intro zqk) | (with_reducible refine exI ?_; intro zqk) | (with_reducible refine exR ?_) | (with_reducible refine exG ?_; intro zqk) | (with_reducible refine exC ?_; intro zqk) | ((with_reducible show wpAny _ _ (eval (Expr.Name _ _) _) _ _ _); k_dflt (refine' nmL ?zzF ?zzv (rfl : true = true) ?zzl ?_; (case zzF => k_asm); (case zzl => exact rfl); (case zzv => exact (rfl : some _ = some _)); k_whole)) | ((with_reducible show wpAny _ _ (storeName _ _ _) _ _ _); k_dflt (refine' stX ?zzF ?zzN (rfl : true = true) ?zzl ?_; (case zzF => k_asm); (case zzN => k_asm); (case zzl => exact rfl); k_whole); intro zm1 zh zt zF zN; (try k_sweep)) | k_unfold | walk1 | (dsimp only; walk1) | leave1))
      exact hq _ _
    case d6 =>
      intro D ys ns h2 tk2 hys hns F2 N2 hD
      have hyq : (stops.any fun p => decide (i ≤ p.1 ∧ ps.length - i ≤ p.2)) = !decide (ns = []) := by
        rw [hsl] at hns
        cases hz : (stops.any fun p => decide (i ≤ p.1 ∧ ps.length - i ≤ p.2)) with
        | false => simp [hns.mpr ((any_stops _ (0, 0) stops).mp hz)]
        | true =>
          have : ns ≠ [] := fun q => by
            have z := (any_stops (fun p : Nat × Nat => decide (i ≤ p.1 ∧ ps.length - i ≤ p.2)) (0, 0) stops).mpr (hns.mp q)
            rw [hz] at z; cases z
          simp [this]
      have off9 : ∀ p ∈ (L' + 1 + 1, oA) :: (L' + 1, op) :: news, p.1 ≠ it := List.forall_mem_cons.mpr ⟨off (L' + 1 + 1, c) (List.Mem.head _), fun p hp => off p (List.Mem.tail _ hp)⟩
      clear NA FA hns
      (repeat' (first | ((with_reducible show wpAny _ _ (eval (Expr.Name _ _) _) _ _ _); (k_here; k_dflt (refine' nameX_L ?zzF ?zzv ?_ ?zza ?zzb; (case zzF => k_asm); (case zza => rfl); (case zzb => rfl); (case zzv => with_unfolding_all assumption); k_whole))) | ((with_reducible show wpAny _ _ (binaryOp _ (Value.ref _) (Value.ref _)) _ _ _); (k_here; (with_reducible show wpAny _ _ (binaryOp _ (Value.ref _) (Value.ref _)) _ _ _); k_dflt (refine' my_add ?zzF ?zzN ?zza ?zzb ?zzz ?_; (case zzF => k_asm); (case zzN => k_asm); (case zza => walk_at "my mem"); (case zzb => walk_at "my mem"); (case zzz => (simp only [List.length_append, List.length_take, List.length_drop, List.length_cons, List.length_nil]; (first | lia | omega)))); intro zD zh zF zN zl1; (try k_lt zl1); (try k_sweep))) | ((with_reducible show wpAny _ _ (eval (Expr.ListComp _ _ _ _) _) _ _ _); (refine Park.out ?_)) | ((with_reducible show wpAny _ _ (exec (Stmt.For (Expr.Name _ _) (Expr.Call _ _ _ _) _ _ _) _) _ _ _); (k_here; refine wpAny_For ?_)) | ((with_reducible show wpAny _ _ (call (Value.ref _) _ _) _ _ _); ((with_reducible show wpAny _ _ (call (Value.ref 156) _ _) _ _ _); refine Park.out ?_)) | ((with_reducible show wpAny _ _ (call (Value.builtin "len") _ _) _ _ _); (k_here; (with_reducible show wpAny _ _ (call _ [Value.str (S (List.getD _ _ [])) _]) _ _ _); k_dflt (refine len_piece (by assumption) (by first | lia | omega) ?_); intro zlp1 zlp2 zlp3)) | ((with_reducible show wpAny _ _ (subscriptTail (Expr.Name _ _) (Expr.Slice _ _ _ _) (Value.ref _) (Value.ref _)) _ _ _); (k_here; k_dflt (first | refine my_upto (by k_asm) (by k_asm) (by walk_at "my mem") (by first | lia | omega) (by first | lia | omega) ?_ (by with_unfolding_all rfl) (by kmk_pure) | refine my_from (by k_asm) (by k_asm) (by walk_at "my mem") (by first | lia | omega) (by first | lia | omega) ?_ (by with_unfolding_all rfl) (by kmk_pure)); intro zD zh zF zN zl1; (try k_lt zl1); (try k_sweep))) | ((with_reducible show wpAny _ _ (call (Value.builtin "len") _ _) _ _ _); (k_here; (with_reducible show wpAny _ _ (call _ [Value.ref _]) _ _ _); k_dflt (refine my_len (by k_asm) (by walk_at "my mem") (by assumption) (by first | lia | omega) ?_))) | ((with_reducible show wpAny _ _ (pyIter (Value.ref _)) _ _ _); (refine Park.out ?_)) | ((with_reducible show wpAny _ _ (exec (Stmt.For (Expr.Name _ _) (Expr.Call _ _ _ _) _ _ _) _) _ _ _); ((k_here; (rename Fr _ _ _ _ => zlF); (with_unfolding_all refine' For_invVF zlF ?zzk1 ?zzk2 ?_; (case zzk1 => exact rfl); (case zzk2 => exact rfl); k_whole)))) | (with_reducible refine nxR ?_) | (with_reducible refine nxN ?_) | (with_reducible refine nxB ?_) | (with_reducible refine nxK ?_) | (with_reducible refine exN ?_) | (with_reducible refine exA ?zzhs ?_; (case zzhs => k_dflt (exact (rfl : (pure false : Sem Bool) = pure false))); intro zqk) | (with_reducible refine exI ?_; intro zqk) | (with_reducible refine exR ?_) | (with_reducible refine exG ?_; intro zqk) | (with_reducible refine exC ?_; intro zqk) | ((with_reducible show wpAny _ _ (eval (Expr.Name _ _) _) _ _ _); k_dflt (refine' nmL ?zzF ?zzv (rfl : true = true) ?zzl ?_; (case zzF => k_asm); (case zzl => exact rfl); (case zzv => exact (rfl : some _ = some _)); k_whole)) | ((with_reducible show wpAny _ _ (storeName _ _ _) _ _ _); k_dflt (refine' stX ?zzF ?zzN (rfl : true = true) ?zzl ?_; (case zzF => k_asm); (case zzN => k_asm); (case zzl => exact rfl); k_whole); intro zm1 zh zt zF zN; (try k_sweep)) | k_unfold | walk1 | (dsimp only; walk1) | leave1))
      refine Park.mk ?_
      refine' CPure.use (found_ok w _ _ 0 (ps.take (Int.toNat (0 + (i : Int))) ++ [[34]] ++ ps.drop (Int.toNat (0 + (i : Int)))) g t' (strs_one hs) (one_dots hb.dots) (by rw [one_len, one_len2]; clear hyq; (first | lia | omega)) hg) ?k1 ?k2 ?k3 ?k4 ?k5 ?kK ?kd ?ku ?kp ?_
      ((case k1 => k_asm); (case k2 => k_asm); (case k3 => k_asm); (case k4 => k_asm); (case k5 => k_asm); (case kK => first | exact rfl | assumption); (case kd => first | exact room1 (by assumption) (by decide) | ktr_room); (case ku => first | exact units3 (by assumption) (by decide) | ktr_units))
      case kp => walk_at "my mem"
      intro r h8 tk8 F8 N8 hr
      subst hr
      rw [show Int.toNat (0 + (i : Int)) = i by rw [Int.zero_add]; rfl, hyp i (Nat.le_of_lt_succ hi)]
      (try dsimp only)
      (repeat' (first | ((with_reducible show wpAny _ _ (eval (Expr.Name _ _) _) _ _ _); (k_here; k_dflt (refine' nameX_L ?zzF ?zzv ?_ ?zza ?zzb; (case zzF => k_asm); (case zza => rfl); (case zzb => rfl); (case zzv => with_unfolding_all assumption); k_whole))) | ((with_reducible show wpAny _ _ (binaryOp _ (Value.ref _) (Value.ref _)) _ _ _); (k_here; (with_reducible show wpAny _ _ (binaryOp _ (Value.ref _) (Value.ref _)) _ _ _); k_dflt (refine' my_add ?zzF ?zzN ?zza ?zzb ?zzz ?_; (case zzF => k_asm); (case zzN => k_asm); (case zza => walk_at "my mem"); (case zzb => walk_at "my mem"); (case zzz => (simp only [List.length_append, List.length_take, List.length_drop, List.length_cons, List.length_nil]; (first | lia | omega)))); intro zD zh zF zN zl1; (try k_lt zl1); (try k_sweep))) | ((with_reducible show wpAny _ _ (eval (Expr.ListComp _ _ _ _) _) _ _ _); (refine Park.out ?_)) | ((with_reducible show wpAny _ _ (exec (Stmt.For (Expr.Name _ _) (Expr.Call _ _ _ _) _ _ _) _) _ _ _); (k_here; refine wpAny_For ?_)) | ((with_reducible show wpAny _ _ (call (Value.ref _) _ _) _ _ _); ((with_reducible show wpAny _ _ (call (Value.ref 156) _ _) _ _ _); refine Park.out ?_)) | ((with_reducible show wpAny _ _ (call (Value.builtin "len") _ _) _ _ _); (k_here; (with_reducible show wpAny _ _ (call _ [Value.str (S (List.getD _ _ [])) _]) _ _ _); k_dflt (refine len_piece (by assumption) (by first | lia | omega) ?_); intro zlp1 zlp2 zlp3)) | ((with_reducible show wpAny _ _ (subscriptTail (Expr.Name _ _) (Expr.Slice _ _ _ _) (Value.ref _) (Value.ref _)) _ _ _); (k_here; k_dflt (first | refine my_upto (by k_asm) (by k_asm) (by walk_at "my mem") (by first | lia | omega) (by first | lia | omega) ?_ (by with_unfolding_all rfl) (by kmk_pure) | refine my_from (by k_asm) (by k_asm) (by walk_at "my mem") (by first | lia | omega) (by first | lia | omega) ?_ (by with_unfolding_all rfl) (by kmk_pure)); intro zD zh zF zN zl1; (try k_lt zl1); (try k_sweep))) | ((with_reducible show wpAny _ _ (call (Value.builtin "len") _ _) _ _ _); (k_here; (with_reducible show wpAny _ _ (call _ [Value.ref _]) _ _ _); k_dflt (refine my_len (by k_asm) (by walk_at "my mem") (by assumption) (by first | lia | omega) ?_))) | ((with_reducible show wpAny _ _ (pyIter (Value.ref _)) _ _ _); (refine Park.out ?_)) | ((with_reducible show wpAny _ _ (exec (Stmt.For (Expr.Name _ _) (Expr.Call _ _ _ _) _ _ _) _) _ _ _); ((k_here; (rename Fr _ _ _ _ => zlF); (with_unfolding_all refine' For_invVF zlF ?zzk1 ?zzk2 ?_; (case zzk1 => exact rfl); (case zzk2 => exact rfl); k_whole)))) | (with_reducible refine nxR ?_) | (with_reducible refine nxN ?_) | (with_reducible refine nxB ?_) | (with_reducible refine nxK ?_) | (with_reducible refine exN ?_) | (with_reducible refine exA ?zzhs ?_; (case zzhs => k_dflt (exact (rfl : (pure false : Sem Bool) = pure false))); intro zqk) | (with_reducible refine exI ?_; intro zqk) | (with_reducible refine exR ?_) | (with_reducible refine exG ?_; intro zqk) | (with_reducible refine exC ?_; intro zqk) | ((with_reducible show wpAny _ _ (eval (Expr.Name _ _) _) _ _ _); k_dflt (refine' nmL ?zzF ?zzv (rfl : true = true) ?zzl ?_; (case zzF => k_asm); (case zzl => exact rfl); (case zzv => exact (rfl : some _ = some _)); k_whole)) | ((with_reducible show wpAny _ _ (storeName _ _ _) _ _ _); k_dflt (refine' stX ?zzF ?zzN (rfl : true = true) ?zzl ?_; (case zzF => k_asm); (case zzN => k_asm); (case zzl => exact rfl); k_whole); intro zm1 zh zt zF zN; (try k_sweep)) | k_unfold | walk1 | (dsimp only; walk1) | leave1))
      all_goals first
        | (exfalso; rename (_ != _) = true => hz9; rw [hyq] at hz9; simp at hz9; done)
        | exact RTurn.mk ⟨oA, _, _, _, rfl, by assumption, news_sub (by assumption) (by (repeat' (first | exact sb0 | exact sbR | refine sbC ?_ ?_ | refine sbA ?_ ?_ | (walk_at "my mem") | refine sbT ?_ | (refine sbL ?_; (repeat (refine sbT ?_)); exact sbR) | refine sbr ?_))), fun p hp => off9 p hp, ⟨_, dA⟩, by with_unfolding_all exact hm1, by with_unfolding_all exact hm2⟩
  case done =>
    intro c m9 h9 tk9 hP F9 N9
    (repeat' (first | ((with_reducible show wpAny _ _ (eval (Expr.Name _ _) _) _ _ _); (k_here; k_dflt (refine' nameX_L ?zzF ?zzv ?_ ?zza ?zzb; (case zzF => k_asm); (case zza => rfl); (case zzb => rfl); (case zzv => with_unfolding_all assumption); k_whole))) | ((with_reducible show wpAny _ _ (binaryOp _ (Value.ref _) (Value.ref _)) _ _ _); (k_here; (with_reducible show wpAny _ _ (binaryOp _ (Value.ref _) (Value.ref _)) _ _ _); k_dflt (refine' my_add ?zzF ?zzN ?zza ?zzb ?zzz ?_; (case zzF => k_asm); (case zzN => k_asm); (case zza => walk_at "my mem"); (case zzb => walk_at "my mem"); (case zzz => (simp only [List.length_append, List.length_take, List.length_drop, List.length_cons, List.length_nil]; (first | lia | omega)))); intro zD zh zF zN zl1; (try k_lt zl1); (try k_sweep))) | ((with_reducible show wpAny _ _ (eval (Expr.ListComp _ _ _ _) _) _ _ _); (refine Park.out ?_)) | ((with_reducible show wpAny _ _ (exec (Stmt.For (Expr.Name _ _) (Expr.Call _ _ _ _) _ _ _) _) _ _ _); (k_here; refine wpAny_For ?_)) | ((with_reducible show wpAny _ _ (call (Value.ref _) _ _) _ _ _); ((with_reducible show wpAny _ _ (call (Value.ref 156) _ _) _ _ _); refine Park.out ?_)) | ((with_reducible show wpAny _ _ (call (Value.builtin "len") _ _) _ _ _); (k_here; (with_reducible show wpAny _ _ (call _ [Value.str (S (List.getD _ _ [])) _]) _ _ _); k_dflt (refine len_piece (by assumption) (by first | lia | omega) ?_); intro zlp1 zlp2 zlp3)) | ((with_reducible show wpAny _ _ (subscriptTail (Expr.Name _ _) (Expr.Slice _ _ _ _) (Value.ref _) (Value.ref _)) _ _ _); (k_here; k_dflt (first | refine my_upto (by k_asm) (by k_asm) (by walk_at "my mem") (by first | lia | omega) (by first | lia | omega) ?_ (by with_unfolding_all rfl) (by kmk_pure) | refine my_from (by k_asm) (by k_asm) (by walk_at "my mem") (by first | lia | omega) (by first | lia | omega) ?_ (by with_unfolding_all rfl) (by kmk_pure)); intro zD zh zF zN zl1; (try k_lt zl1); (try k_sweep))) | ((with_reducible show wpAny _ _ (call (Value.builtin "len") _ _) _ _ _); (k_here; (with_reducible show wpAny _ _ (call _ [Value.ref _]) _ _ _); k_dflt (refine my_len (by k_asm) (by walk_at "my mem") (by assumption) (by first | lia | omega) ?_))) | ((with_reducible show wpAny _ _ (pyIter (Value.ref _)) _ _ _); (refine Park.out ?_)) | ((with_reducible show wpAny _ _ (exec (Stmt.For (Expr.Name _ _) (Expr.Call _ _ _ _) _ _ _) _) _ _ _); ((k_here; (rename Fr _ _ _ _ => zlF); (with_unfolding_all refine' For_invVF zlF ?zzk1 ?zzk2 ?_; (case zzk1 => exact rfl); (case zzk2 => exact rfl); k_whole)))) | (with_reducible refine nxR ?_) | (with_reducible refine nxN ?_) | (with_reducible refine nxB ?_) | (with_reducible refine nxK ?_) | (with_reducible refine exN ?_) | (with_reducible refine exA ?zzhs ?_; (case zzhs => k_dflt (exact (rfl : (pure false : Sem Bool) = pure false))); intro zqk) | (with_reducible refine exI ?_; intro zqk) | (with_reducible refine exR ?_) | (with_reducible refine exG ?_; intro zqk) | (with_reducible refine exC ?_; intro zqk) | ((with_reducible show wpAny _ _ (eval (Expr.Name _ _) _) _ _ _); k_dflt (refine' nmL ?zzF ?zzv (rfl : true = true) ?zzl ?_; (case zzF => k_asm); (case zzl => exact rfl); (case zzv => exact (rfl : some _ = some _)); k_whole)) | ((with_reducible show wpAny _ _ (storeName _ _ _) _ _ _); k_dflt (refine' stX ?zzF ?zzN (rfl : true = true) ?zzl ?_; (case zzF => k_asm); (case zzN => k_asm); (case zzl => exact rfl); k_whole); intro zm1 zh zt zF zN; (try k_sweep)) | k_unfold | walk1 | (dsimp only; walk1) | leave1))
    exact hret _ _ _ (by assumption) (news_sub (by assumption) (by (repeat' (first | exact sb0 | exact sbR | refine sbC ?_ ?_ | refine sbA ?_ ?_ | (walk_at "my mem") | refine sbT ?_ | (refine sbL ?_; (repeat (refine sbT ?_)); exact sbR) | refine sbr ?_)))) rfl
end
local macro_rules | `(tactic| k_all) => `(tactic| assumption)
section
open Mine in
/- the contract of a call that makes a def: the table P of the caller's code grows -/
noncomputable def CLex (w : World) (k : Nat) (f : Addr) (vs : List Value) (c P : Addr) (pre : Led → Prop) (post : Array Value → Led → Value → Prop) : Prop :=
  ∀ (p : Program) (loose : List Str) (mean : ExcName → Option Value) (mg mb : Str → Option Value) (dp un : Nat) (gd : Option (List Code)) (cn : Str) (cs : Scope) (a : Addr) (ccd : Value) (cl : List (Str × Addr)) (outer : List Env) (A₀ : Around) (base h₀ : Heap) (L : Addr) (m : Str → Option Value) (news : Led) (s : Shared)
    (Q E : Value → Shared → Prop),
    Below A₀ base outer h₀ → Fr h₀ L s.heap m → (Khp w.params).In h₀ → News h₀ L s.heap ((P, tabObj #[]) :: news) → Top p loose mean mg mb h₀ → CodeHd base c P → (∀ q ∈ news, q.1 ≠ P) → cs.kind = .function → dp + k < recursionLimit → un + 8 * k < cLine → pre news →
    (∀ r tl ps h' tk', Fr h₀ L h' m → News h₀ L h' (tl ++ ((P, tabObj ps) :: news)) → (∀ q ∈ (P, tabObj #[]) :: news, ∀ z ∈ tl, q.1 < z.1) → post ps tl r → Q r { s with heap := h', toks := tk' }) →
    wpAny (model PySem.Challenge.rw_sc0033_01.row.prog w) (ktrTop dp un gd cn cs L a ccd cl outer) (call (.ref f) vs) Q E s

/- a call of the reader: it gives the next sign of the row, and moves the place -/
noncomputable def ReadSpec (w : World) (f l : Addr) (row : List Nat) (fr : Led) : Prop :=
  ∀ (p : Program) (loose : List Str) (mean : ExcName → Option Value) (mg mb : Str → Option Value) (dp un : Nat) (gd : Option (List Code)) (cn : Str) (cs : Scope) (a : Addr) (ccd : Value) (cl : List (Str × Addr)) (outer : List Env) (A₀ : Around) (base h₀ : Heap) (L : Addr) (m : Str → Option Value) (news : Led) (s : Shared)
    (n : Nat) (t t1 : Tok) (k0 : Nat) (Q E : Value → Shared → Prop),
    Below A₀ base outer h₀ → Fr h₀ L s.heap m → (Khp w.params).In h₀ → News h₀ L s.heap ((l, listOf #[.int (n : Int) t] k0) :: (fr ++ news)) → Top p loose mean mg mb h₀ → (∀ q ∈ fr ++ news, q.1 ≠ l) → cs.kind = .function → dp + 20 < recursionLimit → un + 160 < cLine → n < 5000 →
    (∀ t2 t3 k2 h' tk', Fr h₀ L h' m → News h₀ L h' ((l, listOf #[.int ((n + 1 : Nat) : Int) t2] k2) :: (fr ++ news)) → Q (.str (S ((row.drop n).take 1)) t3) { s with heap := h', toks := tk' }) →
    wpAny (model PySem.Challenge.rw_sc0033_01.row.prog w) (ktrTop dp un gd cn cs L a ccd cl outer) (call (.ref f) [.int 1 t1]) Q E s
section
variable {M : Model} {A : Around} {E : Value → Shared → Prop} {s : Shared} {h₀ : Heap} {L a c P : Addr} {m mg mb : Str → Option Value} {cn : Str} {cs : Scope} {ccd : Value} {cl : List (Str × Addr)} {news : List (Addr × Obj)} {g : Obj → List (Addr × Obj)}
  {p : Program} {loose : List Str} {mean : ExcName → Option Value} {name qual : Str} {params : Arguments} {body : List Stmt} {scope : Scope} {ps : Array Value} {pos : Pos} {firstLine : Nat} {clos : List (Str × Addr)}
theorem nest_my {Q : Value → Shared → Prop} (F : Fr h₀ L s.heap m) (N : News h₀ L s.heap news) (T : Top p loose mean mg mb h₀) (C : CodeHd h₀ c P) (hcd : ccd = .ref c) (U : UpdF P (tabObj ps) news g) (ht : TriplesOk ps.toList) (hnf : codeAmong pos ps.toList = none)
    (hcl : closureFor scope (envX cn cs L a ccd cl) = pure clos)
    (h : ∀ f c' oc oF vs t ctv doc h' tk, oF = fnMade name qual params body scope clos doc ((mg "__name__").getD .none) c' ctv → Fr h₀ L h' m →
      News h₀ L h' ((f, oF) :: (c', oc) :: g (tabObj (ps ++ #[rawInt pos.line, rawInt pos.col, .ref c']))) →
      oc.data = .fields vs → vs[1]? = some (.str qual t) → (∀ q ∈ news, q.1 < c') → c' < f → Q (.ref f) { s with heap := h', toks := tk }) :
    wpAny M A (makeFunction name qual params (.stmts body) scope (envX cn cs L a ccd cl) [] [] [] pos firstLine) Q E s :=
  nest_K F N T C hcd U ht hnf hcl fun f c' oc vs t ctv doc h' tk F N d1 d2 l1 l2 => h f c' oc _ vs t ctv doc h' tk rfl F N d1 d2 l1 l2
end

/- a lexer's own dict -/
inductive IsLexD (w : World) (k : Int) (x1 l2 : Addr) (o : Obj) : Prop
  | mk (a b c d e f : Tok) (k0_ : o = dictOf [⟨PyData.keyHash w.params "lineno", .str "lineno" a, .int k b⟩, ⟨PyData.keyHash w.params "instream", .str "instream" c, .ref x1⟩, ⟨PyData.keyHash w.params "whitespace", .str "whitespace" d, .str "\n\t\r " e⟩, ⟨PyData.keyHash w.params "pushback", .str "pushback" f, .ref l2⟩] 4) : IsLexD w k x1 l2 o
/- the stand's dict: its read is the reader -/
inductive IsStdD (w : World) (f : Addr) (o : Obj) : Prop
  | mk (a b c d e g u : Tok) (l1 : Addr) (k0_ : o = dictOf [⟨PyData.keyHash w.params "lineno", .str "lineno" a, .int 1 b⟩, ⟨PyData.keyHash w.params "instream", .str "instream" c, .none⟩, ⟨PyData.keyHash w.params "whitespace", .str "whitespace" d, .str "\n\t\r " e⟩, ⟨PyData.keyHash w.params "pushback", .str "pushback" g, .ref l1⟩, ⟨PyData.keyHash w.params "read", .str "read" u, .ref f⟩] 5) : IsStdD w f o
/- what of a lexer stands still -/
inductive LexFix (w : World) (l : Addr) (row : List Nat) (x2 d2 l2 x1 : Addr) (fix : Led) : Prop
  | mk (d1 f c' cj cp : Addr) (oF oc oj op o1 : Obj) (k0_ : fix = [(l2, listOf #[] 0), (x2, instObj 98 d2), (f, oF), (c', oc), (x1, instObj 98 d1), (d1, o1), (cj, oj), (cp, op)]) (k1_ : IsStdD w f o1) (k2_ : (∃ fd oc0 od sl, oF = ⟨oc0, od, .func fd, sl⟩)) (k3_ : ReadSpec w f l row [(f, oF), (c', oc), (cj, oj), (cp, op)]) (k4_ : @LT.lt Nat _ l cp) (k5_ : @LT.lt Nat _ cp cj) (k6_ : @LT.lt Nat _ cj d1) (k7_ : @LT.lt Nat _ d1 x1) (k8_ : @LT.lt Nat _ x1 c') (k9_ : @LT.lt Nat _ c' f) (k10_ : @LT.lt Nat _ f d2) (k11_ : @LT.lt Nat _ d2 x2) (k12_ : @LT.lt Nat _ x2 l2) : LexFix w l row x2 d2 l2 x1 fix
inductive LexPost (w : World) (l : Addr) (row : List Nat) (k : Int) (tl : Led) (r : Value) : Prop
  | mk (x2 d2 l2 x1 : Addr) (o2 : Obj) (fix : Led) (k0_ : r = .ref x2) (k1_ : tl = (d2, o2) :: fix) (k2_ : IsLexD w k x1 l2 o2) (k3_ : LexFix w l row x2 d2 l2 x1 fix) : LexPost w l row k tl r
theorem lex_close {w : World} {h₀ h : Heap} {L l P : Addr} {row : List Nat} {news : Led} {l2 x2 d2 f c' l1 x1 d1 cj cp : Addr} {oF oc oj op o1 o2 : Obj} {ps : Array Value}
    (N : News h₀ L h ((l2, listOf #[] 0) :: (x2, instObj 98 d2) :: (d2, o2) :: (f, oF) :: (c', oc) :: (l1, listOf #[] 0) :: (x1, instObj 98 d1) :: (d1, o1) :: (cj, oj) :: (cp, op) :: (P, tabObj ps) :: news))
    (R : ReadSpec w f l row [(f, oF), (c', oc), (cj, oj), (cp, op)]) (hl : l < cp) (hF : ∃ fd oc0 od sl, oF = ⟨oc0, od, .func fd, sl⟩) (h2 : IsLexD w 1 x1 l2 o2) (h1 : IsStdD w f o1)
    (c1 : cp < cj) (c2 : cj < d1) (c3 : d1 < x1) (c4 : x1 < c') (c5 : c' < f) (c6 : f < d2) (c7 : d2 < x2) (c8 : x2 < l2) (hn : ∀ q ∈ (P, tabObj #[]) :: news, q.1 < cp) :
    ∃ tl, News h₀ L h (tl ++ ((P, tabObj ps) :: news)) ∧ (∀ q ∈ (P, tabObj #[]) :: news, ∀ z ∈ tl, q.1 < z.1) ∧ LexPost w l row 1 tl (.ref x2) := by
  refine ⟨(d2, o2) :: [(l2, listOf #[] 0), (x2, instObj 98 d2), (f, oF), (c', oc), (x1, instObj 98 d1), (d1, o1), (cj, oj), (cp, op)], ?_, ?_, x2, d2, l2, x1, o2, _, rfl, rfl, h2, d1, f, c', cj, cp, oF, oc, oj, op, o1, rfl, h1, hF, R, hl, c1, c2, c3, c4, c5, c6, c7, c8⟩
  · exact news_sub N (by (repeat' (first | exact sb0 | exact sbR | refine sbC ?_ ?_ | refine sbA ?_ ?_ | (walk_at "my mem") | refine sbT ?_ | (refine sbL ?_; (repeat (refine sbT ?_)); exact sbR) | refine sbr ?_)))
  · intro q hq
    have b1 : @LT.lt Nat _ q.1 cp := hn q hq
    have b2 := Nat.lt_trans b1 c1
    have b3 := Nat.lt_trans b2 c2
    have b4 := Nat.lt_trans b3 c3
    have b5 := Nat.lt_trans b4 c4
    have b6 := Nat.lt_trans b5 c5
    have b7 := Nat.lt_trans b6 c6
    have b8 := Nat.lt_trans b7 c7
    exact alC b7 (alC (Nat.lt_trans b8 c8) (alC b8 (alC b6 (alC b5 (alC b4 (alC b3 (alC b2 (alC b1 (List.forall_mem_nil _)))))))))
theorem lexer_ok (w : World) (l P : Addr) (k0 : Nat) (row : List Nat) (t t0 : Tok) (hr : row.length < 2000) :
    CLex w 40 135 [.str (S row) t, .ref l] 134 P (fun news => (l, listOf #[.int 0 t0] k0) ∈ news) (fun ps tl r => LexPost w l row 1 tl r) := by
  unfold CLex
  k_fill
  k_with_none
  w_top off
  intro p loose mean mg mb dp un gd cn cs a ccd cl outer A₀ base h₀ L m news s Q E B F X N T CP hPn hk hdp hun hpre hret
  have CP0 : CodeHd h₀ 134 P := CP.keeps B.stays
  refine wpAny_call ?_
  k_dflt (refine' code_defC ?k1 ?k2 ?k3 ?k4 ?k5 ?kA ?kF ?kK ?k6 ?k7 ?k8 ?k9 ?kB ?kD ?_ ?c2 ?c3 ?c4; (case kA => exact rfl); (case kF => exact rfl); (case kK => first | exact rfl | assumption); (case k1 => k_asm); (case k2 => k_asm); (case k3 => k_asm); (case k4 => k_asm); (case k5 => k_asm); (case k6 => k_is); (case k7 => k_is); (case k8 => first | exact enter_room (by assumption) | ((try dsimp only [A0]); ktr_room)); (case k9 => exact BindsTo.of_eq rfl); (case kB => exact rfl); (case kD => decide +kernel); (case c2 => exact rfl); (case c3 => exact rfl); (case c4 => exact rfl); k_whole)
  intro g' L' h' tk' cells' FG' F' N' Y' B' X' T' l1
  have l1_9 := l1
  show let G9 : Prop := _; G9
  intro G9
  obtain ⟨oj, op, rfl, dj, dp'⟩ := PyProof.Rows.CellsAre.two Y'
  k_unfold
  have dj9 : oj.data = .cell (some (.ref l)) := dj
  have dp9 : op.data = .cell (some (.str (S row) t)) := dp'
  clear dj dp' Y'
  have CP' : CodeHd g' 134 P := CP0.keeps FG'.keep
  have hn0 : @LT.lt Nat _ P L' := l1 _ (List.Mem.head _)
  have hn1 : ∀ p ∈ news, p.1 < L' := fun q hq => l1 q (List.Mem.tail _ hq)
  (try simp only [List.cons_append, List.nil_append] at N')
  (try dsimp only)
  (try k_lift B')
  (try k_fold)
  rename Fr _ _ _ _ => F0
  revert F0
  show let m0 := _; Fr _ _ _ m0 → _
  intro m0 F0
  show let M0 := _; let A0 := _; let e0 := _; wpAny M0 A0 (execs _ e0) _ _ _
  intro M0 A0 e0
  (repeat' (first | ((with_reducible show wpAny _ _ (call (Value.ref _) _ _) _ _ _); ((with_reducible show wpAny _ _ (call (Value.ref _) _ _) _ _ _); refine Park.out ?_)) | ((with_reducible show wpAny _ _ (exec (Stmt.FunctionDef _ _ _ _ _ _ _ _ _ _) _) _ _ _); (refine Park.out ?_)) | (with_reducible refine nxR ?_) | (with_reducible refine nxN ?_) | (with_reducible refine nxB ?_) | (with_reducible refine nxK ?_) | (with_reducible refine exN ?_) | (with_reducible refine exA ?zzhs ?_; (case zzhs => k_dflt (exact (rfl : (pure false : Sem Bool) = pure false))); intro zqk) | (with_reducible refine exI ?_; intro zqk) | (with_reducible refine exR ?_) | (with_reducible refine exG ?_; intro zqk) | (with_reducible refine exC ?_; intro zqk) | ((with_reducible show wpAny _ _ (eval (Expr.Name _ _) _) _ _ _); k_dflt (refine' nmL ?zzF ?zzv (rfl : true = true) ?zzl ?_; (case zzF => k_asm); (case zzl => exact rfl); (case zzv => exact (rfl : some _ = some _)); k_whole)) | ((with_reducible show wpAny _ _ (storeName _ _ _) _ _ _); k_dflt (refine' stX ?zzF ?zzN (rfl : true = true) ?zzl ?_; (case zzF => k_asm); (case zzN => k_asm); (case zzl => exact rfl); k_whole); intro zm1 zh zt zF zN; (try k_sweep)) | k_unfold | walk1 | (dsimp only; walk1) | leave1))
  refine Park.mk ?_
  (k_here; k_dflt ((refine' call_cls ?k1 ?k2 ?k3 ?k4 ?k5 ?k6 ?_; (case k1 => k_asm); (case k2 => k_asm); (case k3 => k_asm); (case k4 => k_is); (case k5 => k_is); (case k6 => k_is); k_whole; intro xq' dq' hq' Fq' Nq' l1q l2q; (try k_lt l1q); (try k_lt2 l2q); (try k_sweep); (refine' code_def ?k1 ?k2 ?k3 ?k4 ?k5 ?kA ?kF ?kK ?k6 ?k7 ?k8 ?k9 ?kB ?_ ?c2 ?c3 ?c4 ?c5; (case kA => exact rfl); (case kF => exact rfl); (case kK => first | exact rfl | assumption); (case k1 => k_asm); (case k2 => k_asm); (case k3 => k_asm); (case k4 => k_asm); (case k5 => k_asm); (case k6 => k_is); (case k7 => k_is); (case k8 => first | exact enter_room (by assumption) | ((try dsimp only [A0]); ktr_room)); (case k9 => first | exact BindsTo.of_eq rfl | exact binds_K (by k_in) rfl (by k_is) rfl rfl rfl); (case c5 => decide); (case kB => exact locs rfl); (case c2 => exact rfl); (case c3 => exact rfl); (case c4 => exact rfl); k_whole; intro gq' Lq' hq' FGq' Fq' Nq' Bq' Xq' Tq'; (try dsimp only); (try k_lift Bq'); (try k_fold)))))
  (repeat' (first | ((with_reducible show wpAny _ _ (call (Value.ref _) _ _) _ _ _); ((with_reducible show wpAny _ _ (call (Value.ref _) _ _) _ _ _); refine Park.out ?_)) | ((with_reducible show wpAny _ _ (exec (Stmt.FunctionDef _ _ _ _ _ _ _ _ _ _) _) _ _ _); (refine Park.out ?_)) | (with_reducible refine nxR ?_) | (with_reducible refine nxN ?_) | (with_reducible refine nxB ?_) | (with_reducible refine nxK ?_) | (with_reducible refine exN ?_) | (with_reducible refine exA ?zzhs ?_; (case zzhs => k_dflt (exact (rfl : (pure false : Sem Bool) = pure false))); intro zqk) | (with_reducible refine exI ?_; intro zqk) | (with_reducible refine exR ?_) | (with_reducible refine exG ?_; intro zqk) | (with_reducible refine exC ?_; intro zqk) | ((with_reducible show wpAny _ _ (eval (Expr.Name _ _) _) _ _ _); k_dflt (refine' nmL ?zzF ?zzv (rfl : true = true) ?zzl ?_; (case zzF => k_asm); (case zzl => exact rfl); (case zzv => exact (rfl : some _ = some _)); k_whole)) | ((with_reducible show wpAny _ _ (storeName _ _ _) _ _ _); k_dflt (refine' stX ?zzF ?zzN (rfl : true = true) ?zzl ?_; (case zzF => k_asm); (case zzN => k_asm); (case zzl => exact rfl); k_whole); intro zm1 zh zt zF zN; (try k_sweep)) | k_unfold | walk1 | (dsimp only; walk1) | leave1))
  refine Park.mk ?_
  rename L' + 1 + 1 < _ ∧ _ => hc2
  have hc2' := hc2.1
  k_dflt (refine' nestDef_K ?d0 ?k0 ?a0 ?_; (case d0 => exact rfl); (case k0 => exact rfl); (case a0 => exact rfl))
  rename News _ _ _ _ => N9
  k_dflt (refine' nest_my ?F N9 ?T ?C ?cd ?U ?t ?n ?cl ?_; (case F => k_asm); (case T => k_asm); (case cd => exact rfl); (case C => assumption); (case U => refine' UpdF.tail ?a (UpdF.tail ?b (UpdF.tail ?c (UpdF.tail ?d (UpdF.tail ?e (UpdF.head hPn))))); (case a => k_ne); (case b => k_ne); (case c => k_ne); (case d => k_ne); (case e => k_ne)); (case t => kn_triples); (case n => kn_among); (case cl => exact rfl); k_whole)
  intro f' c' oc' oF vs' t' ct' dc' h' tk' hF F' N' d1' d2' l1 l2
  have RS : ReadSpec w f' l row [(f', oF), (c', oc'), (L' + 1 + 1, oj), (L' + 1, op)] := by
    clear N9 F' N' FG' F X N T B hret hpre
    subst hF
    unfold ReadSpec
    intro p loose mean mg mb dp un gd cn cs a ccd cl outer A₀ base h₀ L m news s n t t1 k0 Q E B F X N T hne hk hdp hun hn hret
    refine wpAny_call ?_
    (try dsimp only [List.cons_append, List.nil_append] at N)
    (simp only [List.cons_append, List.nil_append, List.forall_mem_cons] at hne)
    show let G9 : Prop := _; G9
    intro G9
    obtain ⟨n1, n2, n3, n4, n5⟩ := hne
    k_unfold
    have hgl := S_len row
    have n1' : @Ne Nat f' l := n1
    have n2' : @Ne Nat c' l := n2
    have n3' : @Ne Nat (L' + 1 + 1) l := n3
    have n4' : @Ne Nat (L' + 1) l := n4
    k_dflt (refine' code_nest ?k1 ?k2 ?k3 N ?k5 ?kA ?kF ?kK ?k6 ?k7 ?k8 ?k9 ?kB ?_ ?c2 ?c3 ?c4 ?c5; (case kA => exact rfl); (case kF => exact rfl); (case kK => first | exact rfl | assumption); (case k1 => k_asm); (case k2 => k_asm); (case k3 => k_asm); (case k5 => k_asm); (case k6 => k_mem); (case k7 => exact codeRec_news N (by k_mem) (by assumption) (by assumption)); (case k8 => first | exact enter_room (by assumption) | ((try dsimp only [A0]); ktr_room)); (case k9 => exact BindsTo.of_eq rfl); (case c5 => decide); (case kB => exact locs rfl); (case c2 => exact rfl); (case c3 => exact rfl); (case c4 => exact rfl); k_whole)
    intro g' L' h' FG' F' N' B' X' T'
    (try dsimp only)
    (try k_lift B')
    (try k_fold)
    (repeat' (first | ((with_reducible show wpAny _ _ (call (Value.ref _) _ _) _ _ _); ((with_reducible show wpAny _ _ (call (Value.ref _) _ _) _ _ _); refine Park.out ?_)) | ((with_reducible show wpAny _ _ (exec (Stmt.FunctionDef _ _ _ _ _ _ _ _ _ _) _) _ _ _); (refine Park.out ?_)) | (with_reducible refine nxR ?_) | (with_reducible refine nxN ?_) | (with_reducible refine nxB ?_) | (with_reducible refine nxK ?_) | (with_reducible refine exN ?_) | (with_reducible refine exA ?zzhs ?_; (case zzhs => k_dflt (exact (rfl : (pure false : Sem Bool) = pure false))); intro zqk) | (with_reducible refine exI ?_; intro zqk) | (with_reducible refine exR ?_) | (with_reducible refine exG ?_; intro zqk) | (with_reducible refine exC ?_; intro zqk) | ((with_reducible show wpAny _ _ (eval (Expr.Name _ _) _) _ _ _); k_dflt (refine' nmL ?zzF ?zzv (rfl : true = true) ?zzl ?_; (case zzF => k_asm); (case zzl => exact rfl); (case zzv => exact (rfl : some _ = some _)); k_whole)) | ((with_reducible show wpAny _ _ (storeName _ _ _) _ _ _); k_dflt (refine' stX ?zzF ?zzN (rfl : true = true) ?zzl ?_; (case zzF => k_asm); (case zzN => k_asm); (case zzl => exact rfl); k_whole); intro zm1 zh zt zF zN; (try k_sweep)) | k_unfold | walk1 | (dsimp only; walk1) | leave1))
    simp only [Int.toNat_zero, List.getD_cons_zero]
    (repeat' (first | ((with_reducible show wpAny _ _ (call (Value.ref _) _ _) _ _ _); ((with_reducible show wpAny _ _ (call (Value.ref _) _ _) _ _ _); refine Park.out ?_)) | ((with_reducible show wpAny _ _ (exec (Stmt.FunctionDef _ _ _ _ _ _ _ _ _ _) _) _ _ _); (refine Park.out ?_)) | (with_reducible refine nxR ?_) | (with_reducible refine nxN ?_) | (with_reducible refine nxB ?_) | (with_reducible refine nxK ?_) | (with_reducible refine exN ?_) | (with_reducible refine exA ?zzhs ?_; (case zzhs => k_dflt (exact (rfl : (pure false : Sem Bool) = pure false))); intro zqk) | (with_reducible refine exI ?_; intro zqk) | (with_reducible refine exR ?_) | (with_reducible refine exG ?_; intro zqk) | (with_reducible refine exC ?_; intro zqk) | ((with_reducible show wpAny _ _ (eval (Expr.Name _ _) _) _ _ _); k_dflt (refine' nmL ?zzF ?zzv (rfl : true = true) ?zzl ?_; (case zzF => k_asm); (case zzl => exact rfl); (case zzv => exact (rfl : some _ = some _)); k_whole)) | ((with_reducible show wpAny _ _ (storeName _ _ _) _ _ _); k_dflt (refine' stX ?zzF ?zzN (rfl : true = true) ?zzl ?_; (case zzF => k_asm); (case zzN => k_asm); (case zzl => exact rfl); k_whole); intro zm1 zh zt zF zN; (try k_sweep)) | k_unfold | walk1 | (dsimp only; walk1) | leave1))
    rename News _ _ _ _ => N5
    simp only [Int.toNat_zero, List.getD_cons_zero] at N5
    have e5 : (n : Int) + 1 = ((n + 1 : Nat) : Int) := by first | lia | omega
    rw [slice_ss row (by first | lia | omega) (by first | lia | omega), show ((n : Int) + 1 - 1).toNat = n by first | lia | omega, show ((n : Int) + 1).toNat = n + 1 by first | lia | omega, show (row.take (n + 1)).drop n = (row.drop n).take 1 by rw [List.drop_take]; congr 1; (first | lia | omega)]
    rw [e5] at N5
    exact hret _ _ _ _ _ (by assumption) N5
  (try dsimp only at N')
  have hc5 := l2
  (try k_lt l1)
  (try k_lt2 l2)
  (repeat' (first | ((with_reducible show wpAny _ _ (call (Value.ref _) _ _) _ _ _); ((with_reducible show wpAny _ _ (call (Value.ref _) _ _) _ _ _); refine Park.out ?_)) | ((with_reducible show wpAny _ _ (exec (Stmt.FunctionDef _ _ _ _ _ _ _ _ _ _) _) _ _ _); (refine Park.out ?_)) | (with_reducible refine nxR ?_) | (with_reducible refine nxN ?_) | (with_reducible refine nxB ?_) | (with_reducible refine nxK ?_) | (with_reducible refine exN ?_) | (with_reducible refine exA ?zzhs ?_; (case zzhs => k_dflt (exact (rfl : (pure false : Sem Bool) = pure false))); intro zqk) | (with_reducible refine exI ?_; intro zqk) | (with_reducible refine exR ?_) | (with_reducible refine exG ?_; intro zqk) | (with_reducible refine exC ?_; intro zqk) | ((with_reducible show wpAny _ _ (eval (Expr.Name _ _) _) _ _ _); k_dflt (refine' nmL ?zzF ?zzv (rfl : true = true) ?zzl ?_; (case zzF => k_asm); (case zzl => exact rfl); (case zzv => exact (rfl : some _ = some _)); k_whole)) | ((with_reducible show wpAny _ _ (storeName _ _ _) _ _ _); k_dflt (refine' stX ?zzF ?zzN (rfl : true = true) ?zzl ?_; (case zzF => k_asm); (case zzN => k_asm); (case zzl => exact rfl); k_whole); intro zm1 zh zt zF zN; (try k_sweep)) | k_unfold | walk1 | (dsimp only; walk1) | leave1))
  refine Park.mk ?_
  (k_here; k_dflt ((refine' call_cls ?k1 ?k2 ?k3 ?k4 ?k5 ?k6 ?_; (case k1 => k_asm); (case k2 => k_asm); (case k3 => k_asm); (case k4 => k_is); (case k5 => k_is); (case k6 => k_is); k_whole; intro xq' dq' hq' Fq' Nq' l1q l2q; (try k_lt l1q); (try k_lt2 l2q); (try k_sweep); (refine' code_def ?k1 ?k2 ?k3 ?k4 ?k5 ?kA ?kF ?kK ?k6 ?k7 ?k8 ?k9 ?kB ?_ ?c2 ?c3 ?c4 ?c5; (case kA => exact rfl); (case kF => exact rfl); (case kK => first | exact rfl | assumption); (case k1 => k_asm); (case k2 => k_asm); (case k3 => k_asm); (case k4 => k_asm); (case k5 => k_asm); (case k6 => k_is); (case k7 => k_is); (case k8 => first | exact enter_room (by assumption) | ((try dsimp only [A0]); ktr_room)); (case k9 => first | exact BindsTo.of_eq rfl | exact binds_K (by k_in) rfl (by k_is) rfl rfl rfl); (case c5 => decide); (case kB => exact locs rfl); (case c2 => exact rfl); (case c3 => exact rfl); (case c4 => exact rfl); k_whole; intro gq' Lq' hq' FGq' Fq' Nq' Bq' Xq' Tq'; (try dsimp only); (try k_lift Bq'); (try k_fold)))))
  (repeat' (first | ((with_reducible show wpAny _ _ (call (Value.ref _) _ _) _ _ _); ((with_reducible show wpAny _ _ (call (Value.ref _) _ _) _ _ _); refine Park.out ?_)) | ((with_reducible show wpAny _ _ (exec (Stmt.FunctionDef _ _ _ _ _ _ _ _ _ _) _) _ _ _); (refine Park.out ?_)) | (with_reducible refine nxR ?_) | (with_reducible refine nxN ?_) | (with_reducible refine nxB ?_) | (with_reducible refine nxK ?_) | (with_reducible refine exN ?_) | (with_reducible refine exA ?zzhs ?_; (case zzhs => k_dflt (exact (rfl : (pure false : Sem Bool) = pure false))); intro zqk) | (with_reducible refine exI ?_; intro zqk) | (with_reducible refine exR ?_) | (with_reducible refine exG ?_; intro zqk) | (with_reducible refine exC ?_; intro zqk) | ((with_reducible show wpAny _ _ (eval (Expr.Name _ _) _) _ _ _); k_dflt (refine' nmL ?zzF ?zzv (rfl : true = true) ?zzl ?_; (case zzF => k_asm); (case zzl => exact rfl); (case zzv => exact (rfl : some _ = some _)); k_whole)) | ((with_reducible show wpAny _ _ (storeName _ _ _) _ _ _); k_dflt (refine' stX ?zzF ?zzN (rfl : true = true) ?zzl ?_; (case zzF => k_asm); (case zzN => k_asm); (case zzl => exact rfl); k_whole); intro zm1 zh zt zF zN; (try k_sweep)) | k_unfold | walk1 | (dsimp only; walk1) | leave1))
  rename News _ _ _ _ => N7
  have hl7 : l < L' + 1 := Nat.lt_succ_of_lt (hn1 _ hpre)
  have hn7 : ∀ q ∈ (P, tabObj #[]) :: news, q.1 < L' + 1 := fun q hq => Nat.lt_succ_of_lt (l1_9 q hq)
  show let G9 : Prop := _; G9
  intro G9
  obtain ⟨tl, K1, K2, K3⟩ := lex_close (w := w) (row := row) N7 RS hl7 ⟨_, _, _, _, hF⟩ ⟨_, _, _, _, _, _, rfl⟩ ⟨_, _, _, _, _, _, _, _, rfl⟩ (by first | assumption | exact hc2' | exact hc5 | exact Nat.lt_succ_self _ | (show @LT.lt Nat _ _ _; (first | lia | omega))) (by first | assumption | exact hc2' | exact hc5 | exact Nat.lt_succ_self _ | (show @LT.lt Nat _ _ _; (first | lia | omega))) (by first | assumption | exact hc2' | exact hc5 | exact Nat.lt_succ_self _ | (show @LT.lt Nat _ _ _; (first | lia | omega))) (by first | assumption | exact hc2' | exact hc5 | exact Nat.lt_succ_self _ | (show @LT.lt Nat _ _ _; (first | lia | omega))) (by first | assumption | exact hc2' | exact hc5 | exact Nat.lt_succ_self _ | (show @LT.lt Nat _ _ _; (first | lia | omega))) (by first | assumption | exact hc2' | exact hc5 | exact Nat.lt_succ_self _ | (show @LT.lt Nat _ _ _; (first | lia | omega))) (by first | assumption | exact hc2' | exact hc5 | exact Nat.lt_succ_self _ | (show @LT.lt Nat _ _ _; (first | lia | omega))) (by first | assumption | exact hc2' | exact hc5 | exact Nat.lt_succ_self _ | (show @LT.lt Nat _ _ _; (first | lia | omega))) hn7
  k_unfold
  exact hret _ tl _ _ _ (by assumption) K1 K2 K3
end
section
/- what a call that reads one sign of the row needs and gives -/
noncomputable def CRd (w : World) (f : Addr) (gap un0 : Nat) : Prop :=
  ∀ (p : Program) (loose : List Str) (mean : ExcName → Option Value) (mg mb : Str → Option Value) (dp un : Nat) (gd : Option (List Code)) (cn : Str) (cs : Scope) (a : Addr) (ccd : Value) (cl : List (Str × Addr)) (outer : List Env) (A₀ : Around) (base h₀ : Heap) (L : Addr) (m : Str → Option Value) (news : Led) (s : Shared)
    (l x2 d2 l2 x1 : Addr) (row : List Nat) (o2 : Obj) (fix : Led) (n : Nat) (k : Int) (t : Tok) (k0 : Nat) (R : Result → Shared → Prop),
    Below A₀ base outer h₀ → Fr h₀ L s.heap m → (Khp w.params).In h₀ → News h₀ L s.heap ((l, listOf #[.int (n : Int) t] k0) :: (d2, o2) :: (fix ++ news)) → Top p loose mean mg mb h₀ → LexFix w l row x2 d2 l2 x1 fix → IsLexD w k x1 l2 o2 → (∀ q ∈ news, q.1 ≠ l) → (∀ q ∈ news, q.1 ≠ d2) → cs.kind = .function → dp + gap < recursionLimit → un + un0 < cLine → n < 4000 → 0 ≤ k → k < 5000 →
    (∀ t2 t3 k2 o2' h' tk', IsLexD w (k + nlOf ((row.drop n).take 1)) x1 l2 o2' → Fr h₀ L h' m → News h₀ L h' ((l, listOf #[.int ((n + 1 : Nat) : Int) t2] k2) :: (d2, o2') :: (fix ++ news)) → R (.ok (.ret (.str (S ((row.drop n).take 1)) t3))) { s with heap := h', toks := tk' }) →
    codeAny (model PySem.Challenge.rw_sc0033_01.row.prog w) (ktrTop dp un gd cn cs L a ccd cl outer) (.call (.ref f) ⟨[.ref x2], []⟩) R s
theorem lex_perm {h₀ h : Heap} {L l d2 l2 x2 f c' x1 d1 cj cp : Addr} {ol o2 ol2 ox2 oF oc ox1 o1 oj op : Obj} {news : Led} (N : News h₀ L h ((l, ol) :: (d2, o2) :: ([(l2, ol2), (x2, ox2), (f, oF), (c', oc), (x1, ox1), (d1, o1), (cj, oj), (cp, op)] ++ news))) :
    News h₀ L h ((l, ol) :: ([(f, oF), (c', oc), (cj, oj), (cp, op)] ++ ((d2, o2) :: (l2, ol2) :: (x2, ox2) :: (x1, ox1) :: (d1, o1) :: news))) := news_sub N (by
  intro q hq
  simp only [List.cons_append, List.nil_append, List.mem_cons] at hq ⊢
  rcases hq with h | h | h | h | h | h | h | h | h | h | h <;> simp only [h, true_or, or_true])
theorem lex_back {h₀ h : Heap} {L l d2 l2 x2 f c' x1 d1 cj cp : Addr} {ol o2 ol2 ox2 oF oc ox1 o1 oj op : Obj} {news : Led} (N : News h₀ L h ((l, ol) :: (f, oF) :: (c', oc) :: (cj, oj) :: (cp, op) :: (d2, o2) :: (l2, ol2) :: (x2, ox2) :: (x1, ox1) :: (d1, o1) :: news)) :
    News h₀ L h ((l, ol) :: (d2, o2) :: ([(l2, ol2), (x2, ox2), (f, oF), (c', oc), (x1, ox1), (d1, o1), (cj, oj), (cp, op)] ++ news)) := news_sub N (by
  intro q hq
  simp only [List.cons_append, List.nil_append, List.mem_cons] at hq ⊢
  rcases hq with h | h | h | h | h | h | h | h | h | h | h <;> simp only [h, true_or, or_true])
theorem nl_yes {x : List Nat} (h : (S x == Str.ofString "\n") = true) : nlOf x = 1 := by
  rw [show Str.ofString "\n" = S [10] from by decide, S_beq, beq_iff_eq] at h
  simp [nlOf, h]
theorem nl_no {x : List Nat} (h : (S x == Str.ofString "\n") = false) : nlOf x = 0 := by
  rw [show Str.ofString "\n" = S [10] from by decide, S_beq, beq_eq_false_iff_ne] at h
  simp [nlOf, h]
theorem readchar_ok (w : World) : CRd w 81 40 300 := by
  unfold CRd
  k_fill
  k_with_none
  w_top off
  intro p loose mean mg mb dp un gd cn cs a ccd cl outer A₀ base h₀ L m news s l x2 d2 l2 x1 row o2 fix n k t k0 R B F X N T hfix hd2 hnl hnd hk hdp hun hn hk0 hk1 hret
  show let G9 : Prop := _; G9
  intro G9
  obtain ⟨d1, f, c', cj, cp, oF, oc, oj, op, o1, rfl, hs1, ⟨fd, oc0, od, sl, rfl⟩, RS, c0, c1, c2, c3, c4, c5, c6, c7, c8⟩ := hfix
  k_unfold
  show let G9 : Prop := _; G9
  intro G9
  obtain ⟨a1, a2, a3, a4, a5, a6, rfl⟩ := hd2
  k_unfold
  show let G9 : Prop := _; G9
  intro G9
  obtain ⟨b1, b2, b3, b4, b5, b6, b7, l1, rfl⟩ := hs1
  k_unfold
  (try dsimp only [List.cons_append, List.nil_append] at N)
  k_dflt ((refine' code_def ?k1 ?k2 ?k3 ?k4 ?k5 ?kA ?kF ?kK ?k6 ?k7 ?k8 ?k9 ?kB ?_ ?c2 ?c3 ?c4 ?c5; (case kA => exact rfl); (case kF => exact rfl); (case kK => first | exact rfl | assumption); (case k1 => k_asm); (case k2 => k_asm); (case k3 => k_asm); (case k4 => k_asm); (case k5 => k_asm); (case k6 => k_is); (case k7 => k_is); (case k8 => first | exact enter_room (by assumption) | ktr_room); (case k9 => first | exact BindsTo.of_eq rfl | exact binds_K (by k_in) rfl (by k_is) rfl rfl rfl); (case c5 => decide); (case kB => exact locs rfl); (case c2 => exact rfl); (case c3 => exact rfl); (case c4 => exact rfl); k_whole; intro g' L' h' FG' F' N' B' X' T'; (try dsimp only); (try k_lift B'); (try k_fold)))
  (repeat' (first | ((with_reducible show wpAny _ _ (callWith _ (Value.ref _) _ _ _) _ _ _); (k_here; (try dsimp only); k_dflt (refine' callWith_F ?zzk1 ?_; (case zzk1 => exact FnAt.of (by k_asm) (by k_mem)); k_whole))) | ((with_reducible show wpAny _ _ (call (Value.ref _) _ _) _ _ _); ((with_reducible show wpAny _ _ (call (Value.ref _) [Value.int 1 _] _) _ _ _); refine Park.out ?_)) | (with_reducible refine nxR ?_) | (with_reducible refine nxN ?_) | (with_reducible refine nxB ?_) | (with_reducible refine nxK ?_) | (with_reducible refine exN ?_) | (with_reducible refine exA ?zzhs ?_; (case zzhs => k_dflt (exact (rfl : (pure false : Sem Bool) = pure false))); intro zqk) | (with_reducible refine exI ?_; intro zqk) | (with_reducible refine exR ?_) | (with_reducible refine exG ?_; intro zqk) | (with_reducible refine exC ?_; intro zqk) | ((with_reducible show wpAny _ _ (eval (Expr.Name _ _) _) _ _ _); k_dflt (refine' nmL ?zzF ?zzv (rfl : true = true) ?zzl ?_; (case zzF => k_asm); (case zzl => exact rfl); (case zzv => exact (rfl : some _ = some _)); k_whole)) | ((with_reducible show wpAny _ _ (storeName _ _ _) _ _ _); k_dflt (refine' stX ?zzF ?zzN (rfl : true = true) ?zzl ?_; (case zzF => k_asm); (case zzN => k_asm); (case zzl => exact rfl); k_whole); intro zm1 zh zt zF zN; (try k_sweep)) | k_unfold | walk1 | (dsimp only; walk1) | leave1))
  refine Park.mk ?_
  rename News _ _ _ _ => N0
  have N1 := lex_perm N0
  clear N0
  refine' RS _ _ _ _ _ _ _ _ _ _ _ _ _ _ _ _ _ _ _ _ _ _ _ _ _ _ _ ?k1 ?k2 ?k3 N1 ?k5 ?k6 ?kK ?kd ?ku ?kn ?_
  (case k1 => k_asm)
  (case k2 => k_asm)
  (case k3 => k_asm)
  (case k5 => k_asm)
  (case kK => exact rfl)
  (case kd => first | exact room1 (by assumption) (by decide) | ktr_room)
  (case ku => first | exact units3 (by assumption) (by decide) | ktr_units)
  (case kn => (first | lia | omega))
  case k6 =>
    have hl' : ∀ (b : Nat), @LT.lt Nat _ l b → @Ne Addr b l := fun b hb q => by have q' : @Eq Nat b l := q; (first | lia | omega)
    simp only [List.cons_append, List.nil_append, List.forall_mem_cons]
    exact ⟨hl' _ (by first | lia | omega), hl' _ (by first | lia | omega), hl' _ (by first | lia | omega), hl' _ (by first | lia | omega), hl' _ (by first | lia | omega), hl' _ (by first | lia | omega), hl' _ (by first | lia | omega), hl' _ (by first | lia | omega), hl' _ (by first | lia | omega), hnl⟩
  intro t2 t3 k2 h9 tk9 F9 N9
  (try dsimp only [List.cons_append, List.nil_append] at N9)
  (try dsimp only)
  clear N1
  (repeat' (first | ((with_reducible show wpAny _ _ (callWith _ (Value.ref _) _ _ _) _ _ _); (k_here; (try dsimp only); k_dflt (refine' callWith_F ?zzk1 ?_; (case zzk1 => exact FnAt.of (by k_asm) (by k_mem)); k_whole))) | ((with_reducible show wpAny _ _ (call (Value.ref _) _ _) _ _ _); ((with_reducible show wpAny _ _ (call (Value.ref _) [Value.int 1 _] _) _ _ _); refine Park.out ?_)) | (with_reducible refine nxR ?_) | (with_reducible refine nxN ?_) | (with_reducible refine nxB ?_) | (with_reducible refine nxK ?_) | (with_reducible refine exN ?_) | (with_reducible refine exA ?zzhs ?_; (case zzhs => k_dflt (exact (rfl : (pure false : Sem Bool) = pure false))); intro zqk) | (with_reducible refine exI ?_; intro zqk) | (with_reducible refine exR ?_) | (with_reducible refine exG ?_; intro zqk) | (with_reducible refine exC ?_; intro zqk) | ((with_reducible show wpAny _ _ (eval (Expr.Name _ _) _) _ _ _); k_dflt (refine' nmL ?zzF ?zzv (rfl : true = true) ?zzl ?_; (case zzF => k_asm); (case zzl => exact rfl); (case zzv => exact (rfl : some _ = some _)); k_whole)) | ((with_reducible show wpAny _ _ (storeName _ _ _) _ _ _); k_dflt (refine' stX ?zzF ?zzN (rfl : true = true) ?zzl ?_; (case zzF => k_asm); (case zzN => k_asm); (case zzl => exact rfl); k_whole); intro zm1 zh zt zF zN; (try k_sweep)) | k_unfold | walk1 | (dsimp only; walk1) | leave1))
  · rename News _ _ _ _ => N7
    have e7 := nl_yes (by assumption)
    rw [e7] at hret
    exact hret _ _ _ _ _ _ ⟨_, _, _, _, _, _, rfl⟩ (by assumption) (lex_back N7)
  · rename News _ _ _ _ => N7
    have e7 := nl_no (by assumption)
    rw [e7, Int.add_zero] at hret
    exact hret _ _ _ _ _ _ ⟨_, _, _, _, _, _, rfl⟩ (by assumption) (lex_back N7)
theorem ne_lt' {a b : Nat} (h : a < b ∨ b < a) : @Ne Addr a b := fun q => by have q' : @Eq Nat a b := q; (first | lia | omega)
theorem fiter_next (w : World) {p : Program} {loose : List Str} {mean : ExcName → Option Value} {mg mb : Str → Option Value} {dp un : Nat} {gd : Option (List Code)} {cn : Str} {cs : Scope} {a : Addr} {ccd : Value} {cl : List (Str × Addr)} {outer : List Env} {A₀ : Around} {base h₀ : Heap} {L : Addr} {m : Str → Option Value} {news : Led} {s : Shared}
    {it mo l x2 d2 l2 x1 : Addr} {row : List Nat} {o2 : Obj} {fix : Led} {n : Nat} {k : Int} {t t0 : Tok} {k0 : Nat} {Q : Option Value → Shared → Prop} {E : Value → Shared → Prop}
    (B : Below A₀ base outer h₀) (F : Fr h₀ L s.heap m) (X : (Khp w.params).In h₀) (N : News h₀ L s.heap ((it, ciObj (.ref mo) (.str (Str.ofString "") t0) false) :: (mo, methodObj (.ref 81) (.ref x2)) :: (l, listOf #[.int (n : Int) t] k0) :: (d2, o2) :: (fix ++ news)))
    (T : Top p loose mean mg mb h₀) (hf : LexFix w l row x2 d2 l2 x1 fix) (hd2 : IsLexD w k x1 l2 o2) (h1 : ∀ q ∈ news, q.1 ≠ l) (h2 : ∀ q ∈ news, q.1 ≠ d2) (hit : @LT.lt Nat _ l it) (hmo : @LT.lt Nat _ l mo) (hit2 : it ≠ d2) (hmo2 : mo ≠ d2) (hmi : mo ≠ it) (hfi : ∀ q ∈ fix ++ news, q.1 ≠ it)
    (hk : cs.kind = .function) (hd : dp + 40 < recursionLimit) (hu : un + 310 < cLine) (hn : n < 4000) (hk0 : 0 ≤ k) (hk1 : k < 5000)
    (hsome : ∀ c t2 t3 k2 o2' h' tk', row[n]? = some c → IsLexD w (k + nlOf [c]) x1 l2 o2' → Fr h₀ L h' m → News h₀ L h' ((it, ciObj (.ref mo) (.str (Str.ofString "") t0) false) :: (mo, methodObj (.ref 81) (.ref x2)) :: (l, listOf #[.int ((n + 1 : Nat) : Int) t2] k2) :: (d2, o2') :: (fix ++ news)) → Q (some (.str (S [c]) t3)) { s with heap := h', toks := tk' })
    (hnone : ∀ t2 k2 o2' h' tk', row.length ≤ n → IsLexD w k x1 l2 o2' → Fr h₀ L h' m → News h₀ L h' ((it, ciObj .none .none true) :: (mo, methodObj (.ref 81) (.ref x2)) :: (l, listOf #[.int ((n + 1 : Nat) : Int) t2] k2) :: (d2, o2') :: (fix ++ news)) → Q none { s with heap := h', toks := tk' }) :
    wpAny (model PySem.Challenge.rw_sc0033_01.row.prog w) (ktrTop dp un gd cn cs L a ccd cl outer) (pyNext (.ref it)) Q E s := by
  have X' := X.keeps F.keep
  have e81 := X 81 _ rfl
  have N1 : News h₀ L s.heap ((l, listOf #[.int (n : Int) t] k0) :: (d2, o2) :: (fix ++ ((it, ciObj (.ref mo) (.str (Str.ofString "") t0) false) :: (mo, methodObj (.ref 81) (.ref x2)) :: news))) := news_sub N (by
    intro q hq
    simp only [List.mem_append, List.mem_cons] at hq ⊢
    rcases hq with h | h | h | h | h | h <;> simp only [h, true_or, or_true])
  refine ci_item rfl (N _ (List.mem_cons_self)).1 (N _ (List.mem_cons_of_mem _ (List.mem_cons_self))).1 (F.keep _ _ e81) rfl ?_
  show codeAny _ (ktrTop dp (un + 1) gd cn cs L a ccd cl outer) _ _ _
  refine readchar_ok w p loose mean mg mb dp (un + 1) gd cn cs a ccd cl outer A₀ base h₀ L m _ s l x2 d2 l2 x1 row o2 fix n k t k0 _ B F X N1 T hf hd2 ?_ ?_ hk hd (by first | lia | omega) hn hk0 hk1 ?_
  · exact List.forall_mem_cons.mpr ⟨ne_lt' (.inr hit), List.forall_mem_cons.mpr ⟨ne_lt' (.inr hmo), h1⟩⟩
  · exact List.forall_mem_cons.mpr ⟨hit2, List.forall_mem_cons.mpr ⟨hmo2, h2⟩⟩
  intro t2 t3 k2 o2' h' tk' hD F' N'
  have N2 : News h₀ L h' ((it, ciObj (.ref mo) (.str (Str.ofString "") t0) false) :: (mo, methodObj (.ref 81) (.ref x2)) :: (l, listOf #[.int ((n + 1 : Nat) : Int) t2] k2) :: (d2, o2') :: (fix ++ news)) := news_sub N' (by
    intro q hq
    simp only [List.mem_append, List.mem_cons] at hq ⊢
    rcases hq with h | h | h | h | h | h <;> simp only [h, true_or, or_true])
  refine ⟨_, t3, rfl, (N2 _ (List.mem_cons_self)).1, (N2 _ (List.mem_cons_of_mem _ (List.mem_cons_self))).1, F'.keep _ _ e81, fun hx => ?_, fun hx h'' hit' hkeep => ?_⟩
  · cases hr : row[n]? with
    | none =>
      have : row.drop n = [] := List.drop_eq_nil_of_le (List.getElem?_eq_none_iff.mp hr)
      rw [this] at hx
      exact absurd rfl hx
    | some c =>
      show let G9 : Prop := _; G9
      intro G9
      obtain ⟨hlt, hc⟩ := List.getElem?_eq_some_iff.mp hr
      k_unfold
      have e : (row.drop n).take 1 = [c] := by rw [List.drop_eq_getElem_cons hlt, hc]; rfl
      rw [e] at hD ⊢
      exact hsome c t2 t3 k2 o2' h' tk' hr hD F' N2
  · have hlen : row.length ≤ n := by
      false_or_by_contra
      rename_i hlt
      have hlt' : n < row.length := by first | lia | omega
      rw [List.drop_eq_getElem_cons hlt'] at hx
      have := congrArg Str.length hx
      rw [S_len, show (Str.ofString "").length = 0 by decide] at this
      exact absurd this (by simp; (first | lia | omega))
    have e : (row.drop n).take 1 = [] := by rw [List.drop_eq_nil_of_le hlen]; rfl
    rw [e] at hD
    have zi := N2 _ (List.mem_cons_self)
    refine hnone t2 k2 o2' h'' tk' hlen (by simpa [nlOf] using hD) ⟨F'.ns.at' fun o e => hkeep _ o (Ne.symm zi.2.1) e, fun b o e => hkeep b o (fun q => by rw [q, zi.2.2] at e; cases e) (F'.keep b o e), F'.above⟩ fun q hq => ?_
    rcases List.mem_cons.mp hq with rfl | hq
    · exact ⟨hit', zi.2⟩
    · have zq := N2 q (List.mem_cons_of_mem _ hq)
      have hqi : q.1 ≠ it := by
        rcases List.mem_cons.mp hq with rfl | hq
        · exact hmi
        · rcases List.mem_cons.mp hq with rfl | hq
          · exact ne_lt' (.inl hit)
          · rcases List.mem_cons.mp hq with rfl | hq
            · exact Ne.symm hit2
            · exact hfi q hq
      exact ⟨hkeep _ _ hqi zq.1, zq.2⟩
end
section
/- what of a lexer's run over its row stands still -/
structure FC where
  (it mo l x2 d2 l2 x1 : Addr) (t0 : Tok) (fix news : Led) (row : List Nat)
structure FOk (w : World) (c : FC) : Prop where
  fixed : LexFix w c.l c.row c.x2 c.d2 c.l2 c.x1 c.fix
  h1 : ∀ q ∈ c.news, q.1 ≠ c.l
  h2 : ∀ q ∈ c.news, q.1 ≠ c.d2
  it_l : @LT.lt Nat _ c.l c.it
  mo_l : @LT.lt Nat _ c.l c.mo
  it_d : c.it ≠ c.d2
  mo_d : c.mo ≠ c.d2
  mo_it : c.mo ≠ c.it
  off : ∀ q ∈ c.fix ++ c.news, q.1 ≠ c.it
/- the ledger of a run: the place n, the line k, whether the iterator has ended -/
inductive FSt (w : World) (c : FC) (n : Nat) (k : Int) (b : Bool) (nl : Led) : Prop
  | mk (t : Tok) (k2 : Nat) (o2 : Obj) (k0_ : IsLexD w k c.x1 c.l2 o2) (k1_ : nl = (c.it, if b then ciObj .none .none true else ciObj (.ref c.mo) (.str (Str.ofString "") c.t0) false) :: (c.mo, methodObj (.ref 81) (.ref c.x2)) :: (c.l, listOf #[.int (n : Int) t] k2) :: (c.d2, o2) :: (c.fix ++ c.news)) : FSt w c n k b nl
/- where a turn over the iterator must end -/
inductive FT0 (w : World) (c : FC) (h₀ : Heap) (L : Addr) (I : Nat → Int → Bool → (Str → Option Value) → Prop) (s : Shared) (n : Nat) (s₃ : Shared) : Prop
  | mk (n' : Nat) (k' : Int) (b' : Bool) (m' : Str → Option Value) (h' : Heap) (tk' : Nat) (nl' : Led) (g1 : b' = false → n < n') (g2 : s₃ = { s with heap := h', toks := tk' }) (g3 : FSt w c n' k' b' nl') (g4 : Fr h₀ L h' m') (g5 : News h₀ L h' nl') (g6 : I n' k' b' m') : FT0 w c h₀ L I s n s₃
structure FTurn (w : World) (c : FC) (h₀ : Heap) (L : Addr) (I : Nat → Int → Bool → (Str → Option Value) → Prop) (s : Shared) (n : Nat) (s₃ : Shared) : Prop where
  out : FT0 w c h₀ L I s n s₃
inductive FI (w : World) (c : FC) (h₀ : Heap) (L : Addr) (I : Nat → Int → Bool → (Str → Option Value) → Prop) (s : Shared) (q : Nat) (s' : Shared) : Prop
  | mk (n : Nat) (k : Int) (b : Bool) (m : Str → Option Value) (h : Heap) (tk : Nat) (nl : Led) (g0 : q = (if b then 0 else c.row.length - n + 1)) (g1 : s' = { s with heap := h, toks := tk }) (g2 : FSt w c n k b nl) (g3 : Fr h₀ L h m) (g4 : News h₀ L h nl) (g5 : I n k b m) : FI w c h₀ L I s q s'
theorem for_fiter (w : World) {p : Program} {loose : List Str} {mean : ExcName → Option Value} {mg mb : Str → Option Value} {dp un : Nat} {gd : Option (List Code)} {cn : Str} {cs : Scope} {a : Addr} {ccd : Value} {cl : List (Str × Addr)} {outer : List Env} {A₀ : Around} {base h₀ : Heap} {L : Addr} {m : Str → Option Value} {nl : Led} {s : Shared}
    {body : List Stmt} {pos : Pos} {x : Str} {n : Nat} {k : Int} {b : Bool} {Q : Flow → Shared → Prop} {E : Value → Shared → Prop} (c : FC) (hc : FOk w c) (I : Nat → Int → Bool → (Str → Option Value) → Prop)
    (B : Below A₀ base outer h₀) (F : Fr h₀ L s.heap m) (X : (Khp w.params).In h₀) (N : News h₀ L s.heap nl) (T : Top p loose mean mg mb h₀) (hS : FSt w c n k b nl) (hI : I n k b m)
    (hk : cs.kind = .function) (hx : (envX cn cs L a ccd cl).kindOf x = some .local) (hd : dp + 40 < recursionLimit) (hu : un + 310 < cLine)
    (hb : ∀ n k b m, I n k b m → n < 4000 ∧ 0 ≤ k ∧ k < 5000)
    (turn : ∀ n k m ch h tk nl t E', I n k false m → c.row[n]? = some ch → FSt w c (n + 1) (k + nlOf [ch]) false nl → Fr h₀ L h (fun y => if y = x then some (.str (S [ch]) t) else m y) → News h₀ L h nl →
      wpAny (model PySem.Challenge.rw_sc0033_01.row.prog w) (ktrTop dp un gd cn cs L a ccd cl outer) (execs body (envX cn cs L a ccd cl)) (fun f s₃ => match f with
        | .next => FTurn w c h₀ L I s n s₃ | .cont => FTurn w c h₀ L I s n s₃ | .brk => Q .next s₃ | .ret v => Q (.ret v) s₃) E' { s with heap := h, toks := tk })
    (done : ∀ n k m h tk nl, (I n k true m ∨ ∃ n', n = n' + 1 ∧ c.row.length ≤ n' ∧ I n' k false m) → FSt w c n k true nl → Fr h₀ L h m → News h₀ L h nl → Q .next { s with heap := h, toks := tk }) :
    wpAny (model PySem.Challenge.rw_sc0033_01.row.prog w) (ktrTop dp un gd cn cs L a ccd cl outer) (pyIter (.ref c.it)) (fun it s₂ => codeAny (model PySem.Challenge.rw_sc0033_01.row.prog w) (ktrTop dp un gd cn cs L a ccd cl outer) (.forLoop (.Name x pos) it body [] (envX cn cs L a ccd cl)) (fun r s' => match r with | .ok f => Q f s' | .error e => cameBackBy (model PySem.Challenge.rw_sc0033_01.row.prog w) (ktrTop dp un gd cn cs L a ccd cl outer) (envX cn cs L a ccd cl) E e s') s₂) E s := by
  have zit : ∃ f y z, s.heap.get? c.it = some (ciObj f y z) := by
    show let G9 : Prop := _; G9
    intro G9
    obtain ⟨t, k2, o2, _, rfl⟩ := hS
    k_unfold
    have z := (N _ (List.mem_cons_self)).1
    cases b with
    | true => exact ⟨_, _, _, z⟩
    | false => exact ⟨_, _, _, z⟩
  show let G9 : Prop := _; G9
  intro G9
  obtain ⟨_, _, _, zit⟩ := zit
  k_unfold
  refine ci_self zit ?_
  refine codeAny_forLoop (FI w c h₀ L I s) ?_ _ ⟨n, k, b, m, s.heap, s.toks, nl, rfl, rfl, hS, F, N, hI⟩
  intro q s' hFI
  show let G9 : Prop := _; G9
  intro G9
  obtain ⟨n, k, b, m, h, tk, nl, rfl, rfl, hS, F, N, hI⟩ := hFI
  k_unfold
  show let G9 : Prop := _; G9
  intro G9
  obtain ⟨b1, b2, b3⟩ := hb _ _ _ _ hI
  k_unfold
  cases b with
  | true =>
    have hS' := hS
    show let G9 : Prop := _; G9
    intro G9
    obtain ⟨t, k2, o2, hD, rfl⟩ := hS'
    k_unfold
    have zi := N _ (List.mem_cons_self)
    refine ci_ended rfl zi.1 fun h' hkeep => ?_
    exact wpAny_execs_nil (done n k m h' _ _ (.inl hI) hS (F.keeps hkeep) (N.grown hkeep))
  | false =>
    show let G9 : Prop := _; G9
    intro G9
    obtain ⟨t, k2, o2, hD, rfl⟩ := hS
    k_unfold
    refine fiter_next w B F X N T hc.fixed hD hc.h1 hc.h2 hc.it_l hc.mo_l hc.it_d hc.mo_d hc.mo_it hc.off hk hd hu b1 b2 b3 ?_ ?_
    · intro ch t2 t3 k3 o2' h' tk' hr hD' F' N'
      have hlt : n < c.row.length := (List.getElem?_eq_some_iff.mp hr).1
      refine wpAny_assign_Name (storeX_L F' N' (fun h₂ F₂ N₂ => ?_) hk hx)
      refine wpAny_mono (turn n k m ch h₂ _ _ t3 _ hI hr ⟨t2, k3, o2', hD', rfl⟩ F₂ N₂) (fun f s₃ h₃ => ?_) fun _ _ e => e
      have conv : FTurn w c h₀ L I s n s₃ → ∃ m_1, m_1 < (if false = true then 0 else c.row.length - n + 1) ∧ FI w c h₀ L I s m_1 s₃ := by
        rintro ⟨n', k', b', m', h', tk', nl', g1, g2, g3, g4, g5, g6⟩
        refine ⟨_, ?_, n', k', b', m', h', tk', nl', rfl, g2, g3, g4, g5, g6⟩
        cases b' with
        | true => simp
        | false => have := g1 rfl; simp; omega
      cases f with
      | ret v => exact h₃
      | brk => exact h₃
      | next => exact conv h₃
      | cont => exact conv h₃
    · intro t2 k3 o2' h' tk' hlen hD' F' N'
      exact wpAny_execs_nil (done (n + 1) k m h' _ _ (.inr ⟨n, rfl, hlen, hI⟩) ⟨t2, k3, o2', hD', rfl⟩ F' N')
end
section
noncomputable def CTok (w : World) : Prop :=
  ∀ (p : Program) (loose : List Str) (mean : ExcName → Option Value) (mg mb : Str → Option Value) (dp un : Nat) (gd : Option (List Code)) (cn : Str) (cs : Scope) (a : Addr) (ccd : Value) (cl : List (Str × Addr)) (outer : List Env) (A₀ : Around) (base h₀ : Heap) (L : Addr) (m : Str → Option Value) (news : Led) (s : Shared)
    (l x2 d2 l2 x1 : Addr) (row : List Nat) (o2 : Obj) (fix : Led) (n : Nat) (k : Int) (t : Tok) (k0 : Nat) (Q E : Value → Shared → Prop),
    Below A₀ base outer h₀ → Fr h₀ L s.heap m → (Khp w.params).In h₀ → News h₀ L s.heap ((l, listOf #[.int (n : Int) t] k0) :: (d2, o2) :: (fix ++ news)) → Top p loose mean mg mb h₀ → LexFix w l row x2 d2 l2 x1 fix → IsLexD w k x1 l2 o2 → (∀ q ∈ news, q.1 ≠ l) → (∀ q ∈ news, q.1 ≠ d2) → cs.kind = .function → dp + 60 < recursionLimit → un + 500 < cLine → n < 1500 → row.length < 1500 → 92 ∉ row → 0 ≤ k → k < 1500 →
    (∀ t2 t3 k2 o2' h' tk', IsLexD w (k + nlc (row.drop n) (tokOf (row.drop n)).2) x1 l2 o2' → Fr h₀ L h' m → News h₀ L h' ((l, listOf #[.int ((n + (tokOf (row.drop n)).2 : Nat) : Int) t2] k2) :: (d2, o2') :: (fix ++ news)) → Q (.str (S (tokOf (row.drop n)).1) t3) { s with heap := h', toks := tk' }) →
    wpAny (model PySem.Challenge.rw_sc0033_01.row.prog w) (ktrTop dp un gd cn cs L a ccd cl outer) (call (.ref 88) [.ref x2]) Q E s
theorem allLt_mem {d : Nat} {l : Led} (h : AllLt d l) : ∀ q ∈ l, @LT.lt Nat _ q.1 d := by
  induction l with
  | nil => intro q hq; cases hq
  | cons p r ih =>
    intro q hq
    rcases List.mem_cons.mp hq with e | hq
    · rw [e]; exact h.1
    · exact ih h.2 q hq
theorem lt_fix {w : World} {l x2 d2 l2 x1 : Addr} {fix : Led} {row : List Nat} (hf : LexFix w l row x2 d2 l2 x1 fix) : ∀ q ∈ fix, @LE.le Nat _ q.1 l2 := by
  obtain ⟨d1, f, c', cj, cp, oF, oc, oj, op, o1, rfl, h1, h2, h3, c0, c1, c2, c3, c4, c5, c6, c7, c8⟩ := hf
  have a7 := Nat.lt_trans c7 c8
  have a6 := Nat.lt_trans c6 a7
  have a5 := Nat.lt_trans c5 a6
  have a4 := Nat.lt_trans c4 a5
  have a3 := Nat.lt_trans c3 a4
  have a2 := Nat.lt_trans c2 a3
  exact alC (Nat.le_refl _) (alC (Nat.le_of_lt c8) (alC (Nat.le_of_lt a6) (alC (Nat.le_of_lt a5) (alC (Nat.le_of_lt a4) (alC (Nat.le_of_lt a3) (alC (Nat.le_of_lt a2) (alC (Nat.le_of_lt (Nat.lt_trans c1 a2)) (List.forall_mem_nil _))))))))
theorem fc_ok {w : World} {it mo l x2 d2 l2 x1 : Addr} {t0 : Tok} {fix news : Led} {row : List Nat} (hf : LexFix w l row x2 d2 l2 x1 fix) (h1 : ∀ q ∈ news, q.1 ≠ l) (h2 : ∀ q ∈ news, q.1 ≠ d2)
    (e1 : @LT.lt Nat _ l mo) (e4 : @LT.lt Nat _ d2 mo) (e3 : @LT.lt Nat _ mo it) (e6 : @LT.lt Nat _ l2 it) (e7 : AllLt it news) : FOk w ⟨it, mo, l, x2, d2, l2, x1, t0, fix, news, row⟩ where
  fixed := hf
  h1 := h1
  h2 := h2
  it_l := Nat.lt_trans e1 e3
  mo_l := e1
  it_d := ne_lt' (.inr (Nat.lt_trans e4 e3))
  mo_d := ne_lt' (.inr e4)
  mo_it := ne_lt' (.inl e3)
  off := fun q hq => ne_lt' (.inl (by
    rcases List.mem_append.mp hq with hq | hq
    · exact Nat.lt_of_le_of_lt (lt_fix hf q hq) e6
    · exact allLt_mem e7 q hq))
/- the inner loop's state -/
inductive IIn (stop : Nat → Bool) (row : List Nat) (n : Nat) (k : Int) (n' : Nat) (k' : Int) (b : Bool) (m' : Str → Option Value) : Prop
  | mk (h0_ : b = false) (h1_ : 0 ≤ k') (u : List Nat) (t : Tok) (k0_ : m' (Str.ofString "token") = some (.str (S u) t)) (k1_ : u ++ (row.drop n').takeWhile (fun x => !stop x) = (tokOf (row.drop n)).1) (k2_ : n' + ((row.drop n').takeWhile (fun x => !stop x)).length + 1 = n + (tokOf (row.drop n)).2) (k3_ : k' + nlc (row.drop n') (((row.drop n').takeWhile (fun x => !stop x)).length + 1) = k + nlc (row.drop n) (tokOf (row.drop n)).2) : IIn stop row n k n' k' b m'
theorem tok_len : ∀ r : List Nat, (tokOf r).1.length ≤ r.length
  | [] => by simp [tokOf]
  | c :: r => by
    have ih := tok_len r
    have h1 := (List.takeWhile_sublist (l := r) (· != 34)).length_le
    have h2 := (List.takeWhile_sublist (l := r) (!wsB ·)).length_le
    unfold tokOf
    split
    · simp only [List.length_cons]; (first | lia | omega)
    · split <;> (simp only [List.length_cons]; (first | lia | omega))
theorem IIn.nn {stop : Nat → Bool} {row : List Nat} {n n' : Nat} {k k' : Int} {b : Bool} {m' : Str → Option Value} (h : IIn stop row n k n' k' b m') : 0 ≤ k' := by
  obtain ⟨_, h0, u, t, _, _, h1, h2⟩ := h
  exact h0
theorem IIn.bounds {stop : Nat → Bool} {row : List Nat} {n n' : Nat} {k k' : Int} {b : Bool} {m' : Str → Option Value} (h : IIn stop row n k n' k' b m') (hn : n < 1500) (hr : row.length < 1500) (hk : k < 1500) : n' < 4000 ∧ 0 ≤ k' ∧ k' < 5000 := by
  obtain ⟨_, h0, u, t, _, _, h1, h2⟩ := h
  have a1 := tok_le (row.drop n)
  have a2 := nlc_le (row.drop n) (tokOf (row.drop n)).2
  have a3 := nlc_nn (row.drop n') (((row.drop n').takeWhile (fun x => !stop x)).length + 1)
  have a4 : (row.drop n).length ≤ row.length := by simp
  exact ⟨by first | lia | omega, h0, by first | lia | omega⟩
theorem IIn.hit {stop : Nat → Bool} {row : List Nat} {n n' ch : Nat} {k k' : Int} {b : Bool} {m' : Str → Option Value} (h : IIn stop row n k n' k' b m') (hd : row.drop n' = ch :: row.drop (n' + 1)) (hs : stop ch = true) :
    (∃ t, m' (Str.ofString "token") = some (.str (S (tokOf (row.drop n)).1) t)) ∧ n' + 1 = n + (tokOf (row.drop n)).2 ∧ k' + nlOf [ch] = k + nlc (row.drop n) (tokOf (row.drop n)).2 := by
  obtain ⟨_, h0, u, t, ht, h1, h2, h3⟩ := h
  rw [hd, List.takeWhile_cons_of_neg (by simp [hs])] at h1 h2 h3
  rw [List.append_nil] at h1
  refine ⟨⟨t, by rw [ht, h1]⟩, by simpa using h2, ?_⟩
  rw [← h3]
  have := nlc_cons ch (row.drop (n' + 1)) 0
  rw [nlc_zero] at this
  simp only [List.length_nil]
  (first | lia | omega)
theorem IIn.miss {stop : Nat → Bool} {row : List Nat} {n n' ch : Nat} {k k' : Int} {b : Bool} {m' m2 : Str → Option Value} (h : IIn stop row n k n' k' b m') (hd : row.drop n' = ch :: row.drop (n' + 1)) (hs : stop ch = false)
    (hm : ∀ u t, m' (Str.ofString "token") = some (.str (S u) t) → ∃ t2, m2 (Str.ofString "token") = some (.str (S (u ++ [ch])) t2)) : IIn stop row n k (n' + 1) (k' + nlOf [ch]) false m2 := by
  obtain ⟨_, h0, u, t, ht, h1, h2, h3⟩ := h
  rw [hd, List.takeWhile_cons_of_pos (by simp [hs])] at h1 h2 h3
  obtain ⟨t2, h4⟩ := hm u t ht
  have nn := nlOf_nn [ch]
  refine ⟨rfl, by first | lia | omega, u ++ [ch], t2, h4, by rw [List.append_assoc]; exact h1, ?_, ?_⟩
  · simp only [List.length_cons] at h2; (first | lia | omega)
  · rw [← h3, List.length_cons, nlc_cons]; (first | lia | omega)
theorem IIn.fin {stop : Nat → Bool} {row : List Nat} {n n' : Nat} {k k' : Int} {b : Bool} {m' : Str → Option Value} (h : IIn stop row n k n' k' b m') (hl : row.length ≤ n') :
    (∃ t, m' (Str.ofString "token") = some (.str (S (tokOf (row.drop n)).1) t)) ∧ n' + 1 = n + (tokOf (row.drop n)).2 ∧ k' = k + nlc (row.drop n) (tokOf (row.drop n)).2 := by
  obtain ⟨_, h0, u, t, ht, h1, h2, h3⟩ := h
  rw [List.drop_eq_nil_of_le hl] at h1 h2 h3
  simp only [List.takeWhile_nil, List.append_nil, List.length_nil, nlc_nil] at h1 h2 h3
  exact ⟨⟨t, by rw [ht, h1]⟩, by first | lia | omega, by first | lia | omega⟩
theorem IIn.len {row : List Nat} {n : Nat} {u v : List Nat} (h : u ++ v = (tokOf (row.drop n)).1) : u.length ≤ row.length := by
  have h1 := congrArg List.length h
  rw [List.length_append] at h1
  have h2 := tok_len (row.drop n)
  have h3 : (row.drop n).length ≤ row.length := by simp
  (first | lia | omega)
theorem name_it {h₀ h : Heap} {L it : Addr} {o : Obj} {r : Led} (_N : News h₀ L h ((it, o) :: r)) : ∃ a : Addr, a = it := ⟨it, rfl⟩
theorem name_mo {h₀ h : Heap} {L it mo : Addr} {o o2 : Obj} {r : Led} (_N : News h₀ L h ((it, o) :: (mo, o2) :: r)) : ∃ a : Addr, a = mo := ⟨mo, rfl⟩
theorem name_t0 {h₀ h : Heap} {L it : Addr} {f : Value} {y : Str} {t : Tok} {r : Led} (_N : News h₀ L h ((it, ciObj f (.str y t) false) :: r)) : ∃ a : Tok, a = t := ⟨t, rfl⟩
/- the outer loop's state -/
noncomputable def IOut (row : List Nat) (n : Nat) (k : Int) (n' : Nat) (k' : Int) (b : Bool) (m' : Str → Option Value) : Prop :=
  n' ≤ n + (tokOf (row.drop n)).2 ∧ 0 ≤ k' ∧ k' ≤ k + nlc (row.drop n) (tokOf (row.drop n)).2 ∧
  (b = false → (∃ t, m' (Str.ofString "token") = some (.str (Str.ofString "") t)) ∧ (tokOf (row.drop n')).1 = (tokOf (row.drop n)).1 ∧ n' + (tokOf (row.drop n')).2 = n + (tokOf (row.drop n)).2 ∧ k' + nlc (row.drop n') (tokOf (row.drop n')).2 = k + nlc (row.drop n) (tokOf (row.drop n)).2) ∧
  (b = true → (∃ t, m' (Str.ofString "token") = some (.str (S (tokOf (row.drop n)).1) t)) ∧ n' = n + (tokOf (row.drop n)).2 ∧ k' = k + nlc (row.drop n) (tokOf (row.drop n)).2)
theorem IOut.bounds {row : List Nat} {n n' : Nat} {k k' : Int} {b : Bool} {m' : Str → Option Value} (h : IOut row n k n' k' b m') (hn : n < 1500) (hr : row.length < 1500) (hk : k < 1500) : n' < 4000 ∧ 0 ≤ k' ∧ k' < 5000 := by
  obtain ⟨h1, h2, h3, _⟩ := h
  have a1 := tok_le (row.drop n)
  have a2 := nlc_le (row.drop n) (tokOf (row.drop n)).2
  have a4 : (row.drop n).length ≤ row.length := by simp
  exact ⟨by first | lia | omega, h2, by first | lia | omega⟩
theorem token_ok (w : World) : CTok w := by
  unfold CTok
  k_fill
  k_with_none
  w_top off
  intro p loose mean mg mb dp un gd cn cs a ccd cl outer A₀ base h₀ L m news s l x2 d2 l2 x1 row o2 fix n k t k0 Q E B F X N T hfix hd2 hnl hnd hk hdp hun hn hrow hbs hk0 hk1 hret
  have hfix' := hfix
  show let G9 : Prop := _; G9
  intro G9
  obtain ⟨d1, f, c', cj, cp, oF, oc, oj, op, o1, hfe, hs1, hoF, RS, c0, c1, c2, c3, c4, c5, c6, c7, c8⟩ := hfix
  k_unfold
  subst hfe
  have hd2' := hd2
  show let G9 : Prop := _; G9
  intro G9
  obtain ⟨a1, a2, a3, a4, a5, a6, rfl⟩ := hd2
  k_unfold
  (try dsimp only [List.cons_append, List.nil_append] at N)
  refine wpAny_call ?_
  k_dflt ((refine' code_def ?k1 ?k2 ?k3 ?k4 ?k5 ?kA ?kF ?kK ?k6 ?k7 ?k8 ?k9 ?kB ?_ ?c2 ?c3 ?c4 ?c5; (case kA => exact rfl); (case kF => exact rfl); (case kK => first | exact rfl | assumption); (case k1 => k_asm); (case k2 => k_asm); (case k3 => k_asm); (case k4 => k_asm); (case k5 => k_asm); (case k6 => k_is); (case k7 => k_is); (case k8 => first | exact enter_room (by assumption) | ktr_room); (case k9 => first | exact BindsTo.of_eq rfl | exact binds_K (by k_in) rfl (by k_is) rfl rfl rfl); (case c5 => decide); (case kB => exact locs rfl); (case c2 => exact rfl); (case c3 => exact rfl); (case c4 => exact rfl); k_whole; intro g' L' h' FG' F' N' B' X' T'; (try dsimp only); (try k_lift B'); (try k_fold)))
  (repeat' (first | ((with_reducible show wpAny _ _ (loadName _ _) _ _ _); (k_here; k_dflt (refine' wpAny_loadName_local ?zza ?zzb (Fr.ns ?zzF) ?zzv ?_; (case zzF => k_asm); (case zza => rfl); (case zzb => rfl); (case zzv => with_unfolding_all assumption); k_whole))) | ((with_reducible show wpAny _ _ (eval (Expr.Name _ _) _) _ _ _); (k_here; k_dflt (refine' nameX_L ?zzF ?zzv ?_ ?zza ?zzb; (case zzF => k_asm); (case zza => rfl); (case zzb => rfl); (case zzv => with_unfolding_all assumption); k_whole))) | ((with_reducible show wpAny _ _ (exec (Stmt.For (Expr.Name _ _) (Expr.Name _ _) _ _ _) _) _ _ _); (k_here; (with_unfolding_all refine wpAny_For ?_ (hs := fun _ => rfl)))) | ((with_reducible show wpAny _ _ (call (Value.builtin "iter") _ _) _ _ _); (k_here; (with_reducible show wpAny _ _ (call (Value.builtin "iter") [Value.ref _, Value.str _ _]) _ _ _); k_dflt (refine' my_iter2 ?zzF ?zzN ?zzm ?_; (case zzF => k_asm); (case zzN => k_asm); (case zzm => k_mem)); intro zit zh zF zN zl1; (try k_lt zl1); (try k_sweep))) | ((with_reducible show wpAny _ _ (pyIter (Value.ref _)) _ _ _); (refine Park.out ?_)) | ((with_reducible show wpAny _ _ (exec (Stmt.For (Expr.Name _ _) (Expr.Name _ _) _ _ _) _) _ _ _); ((k_here; (rename Fr _ _ _ _ => zlF); (with_unfolding_all refine' For_invVF zlF ?zzk1 ?zzk2 ?_; (case zzk1 => exact rfl); (case zzk2 => exact rfl); k_whole)))) | (with_reducible refine nxR ?_) | (with_reducible refine nxN ?_) | (with_reducible refine nxB ?_) | (with_reducible refine nxK ?_) | (with_reducible refine exN ?_) | (with_reducible refine exA ?zzhs ?_; (case zzhs => k_dflt (exact (rfl : (pure false : Sem Bool) = pure false))); intro zqk) | (with_reducible refine exI ?_; intro zqk) | (with_reducible refine exR ?_) | (with_reducible refine exG ?_; intro zqk) | (with_reducible refine exC ?_; intro zqk) | ((with_reducible show wpAny _ _ (eval (Expr.Name _ _) _) _ _ _); k_dflt (refine' nmL ?zzF ?zzv (rfl : true = true) ?zzl ?_; (case zzF => k_asm); (case zzl => exact rfl); (case zzv => exact (rfl : some _ = some _)); k_whole)) | ((with_reducible show wpAny _ _ (storeName _ _ _) _ _ _); k_dflt (refine' stY ?zzF ?zzN (rfl : true = true) ?zzl ?_; (case zzF => k_asm); (case zzN => k_asm); (case zzl => exact rfl); k_whole); intro zh zt zF zN; (try k_sweep)) | k_unfold | walk1 | (dsimp only; walk1) | leave1))
  refine Park.mk ?_
  rename l < _ ∧ _ => g1
  rename _ < _ ∧ l < _ ∧ _ => g2
  rename News _ _ _ _ => N9
  rename Fr _ _ _ _ => F9
  show let G9 : Prop := _; G9
  intro G9
  obtain ⟨it, hit9⟩ := name_it N9
  k_unfold
  subst hit9
  show let G9 : Prop := _; G9
  intro G9
  obtain ⟨mo, hmo9⟩ := name_mo N9
  k_unfold
  subst hmo9
  show let G9 : Prop := _; G9
  intro G9
  obtain ⟨t9, ht9⟩ := name_t0 N9
  k_unfold
  rename Below _ _ _ _ => B9
  rename Top _ _ _ _ _ _ => T9
  have X9 := (by k_asm : (Khp w.params).In _)
  have hc := fc_ok (t0 := t9) hfix' hnl hnd g1.1 g1.2.1 g2.1 g2.2.2.2.1 g2.2.2.2.2.2.2.2.2.2.2.2
  (with_unfolding_all refine' for_fiter w ⟨it, mo, l, x2, d2, l2, x1, t9, _, news, row⟩ (n := n) (k := k) (b := false) hc (fun n' k' b m' => m' (Str.ofString "self") = some (.ref x2) ∧ m' (Str.ofString "fiter") = some (.ref it) ∧ IOut row n k n' k' b m') B9 F9 X9 N9 T9 ?kS ?kI ?kk ?kx ?kd ?ku ?kb ?turn ?done)
  case kS => exact ⟨t, k0, _, ⟨a1, a2, a3, a4, a5, a6, rfl⟩, by rw [ht9]; rfl⟩
  case kI => exact ⟨by with_unfolding_all rfl, by with_unfolding_all rfl, by first | lia | omega, hk0, by have := nlc_nn (row.drop n) (tokOf (row.drop n)).2; (first | lia | omega), fun _ => ⟨⟨_, by with_unfolding_all rfl⟩, rfl, rfl, rfl⟩, fun q => by cases q⟩
  case kk => rfl
  case kx => rfl
  case kd => first | exact room1 (by assumption) (by decide) | ktr_room
  case ku => first | exact units3 (by assumption) (by decide) | ktr_units
  case kb => exact fun n' k' b m' h => h.2.2.bounds hn hrow hk1
  case turn =>
    intro n' k' m' ch h5 tk5 nl5 t5 E5 hI hr hS F5 N5
    show let G9 : Prop := _; G9
    intro G9
    obtain ⟨t6, k6, o6, hD6, rfl⟩ := hS
    k_unfold
    show let G9 : Prop := _; G9
    intro G9
    obtain ⟨b1, b2, b3, b4, b5, b6, rfl⟩ := hD6
    k_unfold
    (try dsimp only [List.cons_append, List.nil_append] at N5)
    (try simp only [Bool.false_eq_true, if_false] at N5)
    show let G9 : Prop := _; G9
    intro G9
    obtain ⟨hm1, hm2, hm3⟩ := hI
    k_unfold
    clear N9 F9
    show let G9 : Prop := _; G9
    intro G9
    obtain ⟨hi1, hi2, hi3, hi4, -⟩ := hm3
    k_unfold
    show let G9 : Prop := _; G9
    intro G9
    obtain ⟨⟨tt, htk⟩, hi5, hi6, hi7⟩ := hi4 rfl
    k_unfold
    have hr' : row[n']? = some ch := hr
    have hnb : (S [ch] == Str.ofString "\\") = false := by
      rw [show Str.ofString "\\" = S [92] from by decide, S_beq, beq_eq_false_iff_ne]
      intro q
      exact hbs (by have := List.mem_of_getElem? hr'; rw [List.cons.inj q |>.1] at this; exact this)
    have hdr := tok_drop hr'
    have hl1 : (S [ch]).length = 1 := by rw [S_len]; rfl
    have hl0 : (Str.ofString "").length = 0 := by decide
    have hws := in_ws ch
    (repeat' (first | ((with_reducible show wpAny _ _ (loadName _ _) _ _ _); (k_here; k_dflt (refine' wpAny_loadName_local ?zza ?zzb (Fr.ns ?zzF) ?zzv ?_; (case zzF => k_asm); (case zza => rfl); (case zzb => rfl); (case zzv => with_unfolding_all assumption); k_whole))) | ((with_reducible show wpAny _ _ (eval (Expr.Name _ _) _) _ _ _); (k_here; k_dflt (refine' nameX_L ?zzF ?zzv ?_ ?zza ?zzb; (case zzF => k_asm); (case zza => rfl); (case zzb => rfl); (case zzv => with_unfolding_all assumption); k_whole))) | ((with_reducible show wpAny _ _ (exec (Stmt.For (Expr.Name _ _) (Expr.Name _ _) _ _ _) _) _ _ _); (k_here; (with_unfolding_all refine wpAny_For ?_ (hs := fun _ => rfl)))) | ((with_reducible show wpAny _ _ (call (Value.builtin "iter") _ _) _ _ _); (k_here; (with_reducible show wpAny _ _ (call (Value.builtin "iter") [Value.ref _, Value.str _ _]) _ _ _); k_dflt (refine' my_iter2 ?zzF ?zzN ?zzm ?_; (case zzF => k_asm); (case zzN => k_asm); (case zzm => k_mem)); intro zit zh zF zN zl1; (try k_lt zl1); (try k_sweep))) | ((with_reducible show wpAny _ _ (pyIter (Value.ref _)) _ _ _); (refine Park.out ?_)) | ((with_reducible show wpAny _ _ (exec (Stmt.For (Expr.Name _ _) (Expr.Name _ _) _ _ _) _) _ _ _); ((k_here; (rename Fr _ _ _ _ => zlF); (with_unfolding_all refine' For_invVF zlF ?zzk1 ?zzk2 ?_; (case zzk1 => exact rfl); (case zzk2 => exact rfl); k_whole)))) | (with_reducible refine nxR ?_) | (with_reducible refine nxN ?_) | (with_reducible refine nxB ?_) | (with_reducible refine nxK ?_) | (with_reducible refine exN ?_) | (with_reducible refine exA ?zzhs ?_; (case zzhs => k_dflt (exact (rfl : (pure false : Sem Bool) = pure false))); intro zqk) | (with_reducible refine exI ?_; intro zqk) | (with_reducible refine exR ?_) | (with_reducible refine exG ?_; intro zqk) | (with_reducible refine exC ?_; intro zqk) | ((with_reducible show wpAny _ _ (eval (Expr.Name _ _) _) _ _ _); k_dflt (refine' nmL ?zzF ?zzv (rfl : true = true) ?zzl ?_; (case zzF => k_asm); (case zzl => exact rfl); (case zzv => exact (rfl : some _ = some _)); k_whole)) | ((with_reducible show wpAny _ _ (storeName _ _ _) _ _ _); k_dflt (refine' stY ?zzF ?zzN (rfl : true = true) ?zzl ?_; (case zzF => k_asm); (case zzN => k_asm); (case zzl => exact rfl); k_whole); intro zh zt zF zN; (try k_sweep)) | k_unfold | walk1 | (dsimp only; walk1) | leave1))
    rotate_left 2
    · have hwt : wsB ch = true := by
        have : (!wsB ch) = false := hws.symm.trans (by assumption)
        simpa using this
      show let G9 : Prop := _; G9
      intro G9
      obtain ⟨q1, q2⟩ := tok_ws (r := row.drop (n' + 1)) hwt
      k_unfold
      refine FTurn.mk ⟨n' + 1, k' + nlOf [ch], false, _, _, _, _, fun _ => Nat.lt_succ_self _, rfl, ⟨_, _, _, ⟨_, _, _, _, _, _, rfl⟩, rfl⟩, by assumption, by assumption, by with_unfolding_all exact hm1, by with_unfolding_all exact hm2, ?_⟩
      rw [hdr] at hi5 hi6 hi7
      have nn := nlOf_nn [ch]
      have nn2 := nlc_nn (row.drop (n' + 1)) (tokOf (row.drop (n' + 1))).2
      rw [q2, nlc_cons] at hi7
      rw [q2] at hi6
      refine ⟨by first | lia | omega, by first | lia | omega, by first | lia | omega, fun _ => ⟨⟨tt, by with_unfolding_all exact htk⟩, by rw [← hi5, q1], by first | lia | omega, by first | lia | omega⟩, fun q => by cases q⟩
    · refine Park.mk ?_
      rename Fr _ _ _ _ => F7
      rename News _ _ _ _ => N7
      have hch : ch = 34 := by
        have : (S [ch] == Str.ofString "\"") = true := by assumption
        rw [show Str.ofString "\"" = S [34] from by decide, S_beq, beq_iff_eq] at this
        exact (List.cons.inj this).1
      subst hch
      (with_unfolding_all refine' for_fiter w ⟨it, mo, l, x2, d2, l2, x1, t9, _, news, row⟩ (n := n' + 1) (k := k' + nlOf [34]) (b := false) hc (fun n' k' b m' => m' (Str.ofString "self") = some (.ref x2) ∧ m' (Str.ofString "fiter") = some (.ref it) ∧ IIn (fun x => x == 34) row n k n' k' b m') B9 F7 X9 N7 T9 ?jS ?jI ?jk ?jx ?jd ?ju ?jb ?jturn ?jdone)
      case jS => exact ⟨_, _, _, ⟨_, _, _, _, _, _, rfl⟩, rfl⟩
      case jI =>
        have nn := nlOf_nn [34]
        rw [hdr, tok_q] at hi5 hi6 hi7
        have e34 : nlc (34 :: row.drop (n' + 1)) (((row.drop (n' + 1)).takeWhile (· != 34)).length + 2) = nlOf [34] + nlc (row.drop (n' + 1)) (((row.drop (n' + 1)).takeWhile (· != 34)).length + 1) := nlc_cons _ _ _
        refine ⟨by with_unfolding_all exact hm1, by with_unfolding_all exact hm2, rfl, by first | lia | omega, [], tt, by with_unfolding_all exact htk, hi5, ?_, ?_⟩
        · show n' + 1 + ((row.drop (n' + 1)).takeWhile (· != 34)).length + 1 = _
          simp only at hi6; (first | lia | omega)
        · show k' + nlOf [34] + nlc (row.drop (n' + 1)) (((row.drop (n' + 1)).takeWhile (· != 34)).length + 1) = _
          simp only at hi7; (first | lia | omega)
      case jk => rfl
      case jx => rfl
      case jd => (first | lia | omega)
      case ju => (first | lia | omega)
      case jb => exact fun n' k' b m' h => h.2.2.bounds hn hrow hk1
      case jturn =>
        intro n6 k6' m6 ch h6 tk6 nl6 t6' E6 hI hr6 hS F6 N6
        show let G9 : Prop := _; G9
        intro G9
        obtain ⟨t8, k8, o8, hD8, rfl⟩ := hS
        k_unfold
        show let G9 : Prop := _; G9
        intro G9
        obtain ⟨hp1, hp2, hp3⟩ := hI
        k_unfold
        have hr6' : row[n6]? = some ch := hr6
        have hnb6 : (S [ch] == Str.ofString "\\") = false := by
          rw [show Str.ofString "\\" = S [92] from by decide, S_beq, beq_eq_false_iff_ne]
          intro q
          exact hbs (by have := List.mem_of_getElem? hr6'; rw [List.cons.inj q |>.1] at this; exact this)
        have hdr6 := tok_drop hr6'
        have hl1 : (S [ch]).length = 1 := by rw [S_len]; rfl
        have hp3' := hp3
        show let G9 : Prop := _; G9
        intro G9
        obtain ⟨_, _, u6, tu6, htk6, hu1, hu2, hu3⟩ := hp3'
        k_unfold
        have hul : (S u6).length = u6.length := S_len u6
        have hul2 : u6.length < 1600 := by
          have := IIn.len hu1
          (first | lia | omega)
        (try dsimp only [List.cons_append, List.nil_append] at N6)
        (try simp only [Bool.false_eq_true, if_false] at N6)
        clear N7 F7
        (repeat' (first | ((with_reducible show wpAny _ _ (loadName _ _) _ _ _); (k_here; k_dflt (refine' wpAny_loadName_local ?zza ?zzb (Fr.ns ?zzF) ?zzv ?_; (case zzF => k_asm); (case zza => rfl); (case zzb => rfl); (case zzv => with_unfolding_all assumption); k_whole))) | ((with_reducible show wpAny _ _ (eval (Expr.Name _ _) _) _ _ _); (k_here; k_dflt (refine' nameX_L ?zzF ?zzv ?_ ?zza ?zzb; (case zzF => k_asm); (case zza => rfl); (case zzb => rfl); (case zzv => with_unfolding_all assumption); k_whole))) | ((with_reducible show wpAny _ _ (exec (Stmt.For (Expr.Name _ _) (Expr.Name _ _) _ _ _) _) _ _ _); (k_here; (with_unfolding_all refine wpAny_For ?_ (hs := fun _ => rfl)))) | ((with_reducible show wpAny _ _ (call (Value.builtin "iter") _ _) _ _ _); (k_here; (with_reducible show wpAny _ _ (call (Value.builtin "iter") [Value.ref _, Value.str _ _]) _ _ _); k_dflt (refine' my_iter2 ?zzF ?zzN ?zzm ?_; (case zzF => k_asm); (case zzN => k_asm); (case zzm => k_mem)); intro zit zh zF zN zl1; (try k_lt zl1); (try k_sweep))) | ((with_reducible show wpAny _ _ (pyIter (Value.ref _)) _ _ _); (refine Park.out ?_)) | ((with_reducible show wpAny _ _ (exec (Stmt.For (Expr.Name _ _) (Expr.Name _ _) _ _ _) _) _ _ _); ((k_here; (rename Fr _ _ _ _ => zlF); (with_unfolding_all refine' For_invVF zlF ?zzk1 ?zzk2 ?_; (case zzk1 => exact rfl); (case zzk2 => exact rfl); k_whole)))) | (with_reducible refine nxR ?_) | (with_reducible refine nxN ?_) | (with_reducible refine nxB ?_) | (with_reducible refine nxK ?_) | (with_reducible refine exN ?_) | (with_reducible refine exA ?zzhs ?_; (case zzhs => k_dflt (exact (rfl : (pure false : Sem Bool) = pure false))); intro zqk) | (with_reducible refine exI ?_; intro zqk) | (with_reducible refine exR ?_) | (with_reducible refine exG ?_; intro zqk) | (with_reducible refine exC ?_; intro zqk) | ((with_reducible show wpAny _ _ (eval (Expr.Name _ _) _) _ _ _); k_dflt (refine' nmL ?zzF ?zzv (rfl : true = true) ?zzl ?_; (case zzF => k_asm); (case zzl => exact rfl); (case zzv => exact (rfl : some _ = some _)); k_whole)) | ((with_reducible show wpAny _ _ (storeName _ _ _) _ _ _); k_dflt (refine' stY ?zzF ?zzN (rfl : true = true) ?zzl ?_; (case zzF => k_asm); (case zzN => k_asm); (case zzl => exact rfl); k_whole); intro zh zt zF zN; (try k_sweep)) | k_unfold | walk1 | (dsimp only; walk1) | leave1))
        · have hs9 : (ch == 34) = true := by
            have : (S [ch] == Str.ofString "\"") = true := by assumption
            rw [show Str.ofString "\"" = S [34] from by decide, S_beq, beq_iff_eq] at this
            exact beq_iff_eq.mpr (List.cons.inj this).1
          show let G9 : Prop := _; G9
          intro G9
          obtain ⟨⟨t7, ht7⟩, he1, he2⟩ := hp3.hit hdr6 hs9
          k_unfold
          have eu : S u6 = S (tokOf (row.drop n)).1 := by
            have z := htk6.symm.trans ht7
            injection z with z
            injection z
          rename News _ _ _ _ => N8
          rw [eu]
          exact hret t8 tu6 k8 o8 _ _ (he2 ▸ hD8) (by assumption) (by rw [← he1]; exact news_sub N8 fun q hq => List.Mem.tail _ (List.Mem.tail _ hq))
        · have hs9 : (ch == 34) = false := by
            have : (S [ch] == Str.ofString "\"") = false := by assumption
            rw [show Str.ofString "\"" = S [34] from by decide, S_beq, beq_eq_false_iff_ne] at this
            exact beq_eq_false_iff_ne.mpr fun q => this (by rw [q])
          rename News _ _ _ _ => N8
          refine FTurn.mk ⟨n6 + 1, k6' + nlOf [ch], false, _, _, _, _, fun _ => Nat.lt_succ_self _, rfl, ⟨_, _, _, hD8, rfl⟩, by assumption, N8, by with_unfolding_all exact hp1, by with_unfolding_all exact hp2, hp3.miss hdr6 hs9 fun u t h => ?_⟩
          have z := htk6.symm.trans h
          injection z with z
          injection z with z
          rw [← S_inj z]
          exact ⟨_, by rw [← S_app]; rfl⟩
      case jdone =>
        intro n6 k6' m6 h6 tk6 nl6 hI hS F6 N6
        clear N7 F7
        rcases hI with ⟨_, _, h, _⟩ | ⟨n5, rfl, hlen, hp1, hp2, hp3⟩
        · cases h
        show let G9 : Prop := _; G9
        intro G9
        obtain ⟨ht, he1, he2⟩ := hp3.fin hlen
        k_unfold
        (repeat' (first | ((with_reducible show wpAny _ _ (loadName _ _) _ _ _); (k_here; k_dflt (refine' wpAny_loadName_local ?zza ?zzb (Fr.ns ?zzF) ?zzv ?_; (case zzF => k_asm); (case zza => rfl); (case zzb => rfl); (case zzv => with_unfolding_all assumption); k_whole))) | ((with_reducible show wpAny _ _ (eval (Expr.Name _ _) _) _ _ _); (k_here; k_dflt (refine' nameX_L ?zzF ?zzv ?_ ?zza ?zzb; (case zzF => k_asm); (case zza => rfl); (case zzb => rfl); (case zzv => with_unfolding_all assumption); k_whole))) | ((with_reducible show wpAny _ _ (exec (Stmt.For (Expr.Name _ _) (Expr.Name _ _) _ _ _) _) _ _ _); (k_here; (with_unfolding_all refine wpAny_For ?_ (hs := fun _ => rfl)))) | ((with_reducible show wpAny _ _ (call (Value.builtin "iter") _ _) _ _ _); (k_here; (with_reducible show wpAny _ _ (call (Value.builtin "iter") [Value.ref _, Value.str _ _]) _ _ _); k_dflt (refine' my_iter2 ?zzF ?zzN ?zzm ?_; (case zzF => k_asm); (case zzN => k_asm); (case zzm => k_mem)); intro zit zh zF zN zl1; (try k_lt zl1); (try k_sweep))) | ((with_reducible show wpAny _ _ (pyIter (Value.ref _)) _ _ _); (refine Park.out ?_)) | ((with_reducible show wpAny _ _ (exec (Stmt.For (Expr.Name _ _) (Expr.Name _ _) _ _ _) _) _ _ _); ((k_here; (rename Fr _ _ _ _ => zlF); (with_unfolding_all refine' For_invVF zlF ?zzk1 ?zzk2 ?_; (case zzk1 => exact rfl); (case zzk2 => exact rfl); k_whole)))) | (with_reducible refine nxR ?_) | (with_reducible refine nxN ?_) | (with_reducible refine nxB ?_) | (with_reducible refine nxK ?_) | (with_reducible refine exN ?_) | (with_reducible refine exA ?zzhs ?_; (case zzhs => k_dflt (exact (rfl : (pure false : Sem Bool) = pure false))); intro zqk) | (with_reducible refine exI ?_; intro zqk) | (with_reducible refine exR ?_) | (with_reducible refine exG ?_; intro zqk) | (with_reducible refine exC ?_; intro zqk) | ((with_reducible show wpAny _ _ (eval (Expr.Name _ _) _) _ _ _); k_dflt (refine' nmL ?zzF ?zzv (rfl : true = true) ?zzl ?_; (case zzF => k_asm); (case zzl => exact rfl); (case zzv => exact (rfl : some _ = some _)); k_whole)) | ((with_reducible show wpAny _ _ (storeName _ _ _) _ _ _); k_dflt (refine' stY ?zzF ?zzN (rfl : true = true) ?zzl ?_; (case zzF => k_asm); (case zzN => k_asm); (case zzl => exact rfl); k_whole); intro zh zt zF zN; (try k_sweep)) | k_unfold | walk1 | (dsimp only; walk1) | leave1))
        exact FTurn.mk ⟨n5 + 1, k6', true, m6, _, _, _, (fun q => by cases q), rfl, hS, F6, N6, hp1, hp2, by first | lia | omega, by have := hp3.nn; (first | lia | omega), by first | lia | omega, (fun q => by cases q), fun _ => ⟨ht, he1, he2⟩⟩
    · refine Park.mk ?_
      rename Fr _ _ _ _ => F7
      rename News _ _ _ _ => N7
      have hch : ch ≠ 34 := by
        have : (S [ch] == Str.ofString "\"") = false := by assumption
        rw [show Str.ofString "\"" = S [34] from by decide, S_beq, beq_eq_false_iff_ne] at this
        exact fun q => this (by rw [q])
      have hwf : wsB ch = false := by
        have : (!wsB ch) = true := hws.symm.trans (by assumption)
        simpa using this
      (with_unfolding_all refine' for_fiter w ⟨it, mo, l, x2, d2, l2, x1, t9, _, news, row⟩ (n := n' + 1) (k := k' + nlOf [ch]) (b := false) hc (fun n' k' b m' => m' (Str.ofString "self") = some (.ref x2) ∧ m' (Str.ofString "fiter") = some (.ref it) ∧ IIn (wsB) row n k n' k' b m') B9 F7 X9 N7 T9 ?jS ?jI ?jk ?jx ?jd ?ju ?jb ?jturn ?jdone)
      case jS => exact ⟨_, _, _, ⟨_, _, _, _, _, _, rfl⟩, rfl⟩
      case jI =>
        have nn := nlOf_nn [ch]
        rw [hdr, tok_p hwf hch] at hi5 hi6 hi7
        have e34 : nlc (ch :: row.drop (n' + 1)) (((row.drop (n' + 1)).takeWhile (!wsB ·)).length + 2) = nlOf [ch] + nlc (row.drop (n' + 1)) (((row.drop (n' + 1)).takeWhile (!wsB ·)).length + 1) := nlc_cons _ _ _
        have e0 : Str.ofString "" ++ S [ch] = S [ch] := by rw [show Str.ofString "" = S [] from by decide, S_app]; rfl
        refine ⟨by with_unfolding_all exact hm1, by with_unfolding_all exact hm2, rfl, by first | lia | omega, [ch], _, by rw [← e0]; with_unfolding_all rfl, hi5, ?_, ?_⟩
        · simp only at hi6; (first | lia | omega)
        · simp only at hi7; (first | lia | omega)
      case jk => rfl
      case jx => rfl
      case jd => (first | lia | omega)
      case ju => (first | lia | omega)
      case jb => exact fun n' k' b m' h => h.2.2.bounds hn hrow hk1
      case jturn =>
        intro n6 k6' m6 c2 h6 tk6 nl6 t6' E6 hI hr6 hS F6 N6
        show let G9 : Prop := _; G9
        intro G9
        obtain ⟨t8, k8, o8, hD8, rfl⟩ := hS
        k_unfold
        have hD9 := hD8
        show let G9 : Prop := _; G9
        intro G9
        obtain ⟨b1, b2, b3, b4, b5, b6, ho8⟩ := hD9
        k_unfold
        rw [ho8] at N6
        show let G9 : Prop := _; G9
        intro G9
        obtain ⟨hp1, hp2, hp3⟩ := hI
        k_unfold
        have hr6' : row[n6]? = some c2 := hr6
        have hnb6 : (S [c2] == Str.ofString "\\") = false := by
          rw [show Str.ofString "\\" = S [92] from by decide, S_beq, beq_eq_false_iff_ne]
          intro q
          exact hbs (by have := List.mem_of_getElem? hr6'; rw [List.cons.inj q |>.1] at this; exact this)
        have hdr6 := tok_drop hr6'
        have hl1 : (S [c2]).length = 1 := by rw [S_len]; rfl
        have hp3' := hp3
        show let G9 : Prop := _; G9
        intro G9
        obtain ⟨_, _, u6, tu6, htk6, hu1, hu2, hu3⟩ := hp3'
        k_unfold
        have hul : (S u6).length = u6.length := S_len u6
        have hul2 : u6.length < 1600 := by
          have := IIn.len hu1
          (first | lia | omega)
        (try dsimp only [List.cons_append, List.nil_append] at N6)
        (try simp only [Bool.false_eq_true, if_false] at N6)
        clear N7 F7
        (repeat' (first | ((with_reducible show wpAny _ _ (loadName _ _) _ _ _); (k_here; k_dflt (refine' wpAny_loadName_local ?zza ?zzb (Fr.ns ?zzF) ?zzv ?_; (case zzF => k_asm); (case zza => rfl); (case zzb => rfl); (case zzv => with_unfolding_all assumption); k_whole))) | ((with_reducible show wpAny _ _ (eval (Expr.Name _ _) _) _ _ _); (k_here; k_dflt (refine' nameX_L ?zzF ?zzv ?_ ?zza ?zzb; (case zzF => k_asm); (case zza => rfl); (case zzb => rfl); (case zzv => with_unfolding_all assumption); k_whole))) | ((with_reducible show wpAny _ _ (exec (Stmt.For (Expr.Name _ _) (Expr.Name _ _) _ _ _) _) _ _ _); (k_here; (with_unfolding_all refine wpAny_For ?_ (hs := fun _ => rfl)))) | ((with_reducible show wpAny _ _ (call (Value.builtin "iter") _ _) _ _ _); (k_here; (with_reducible show wpAny _ _ (call (Value.builtin "iter") [Value.ref _, Value.str _ _]) _ _ _); k_dflt (refine' my_iter2 ?zzF ?zzN ?zzm ?_; (case zzF => k_asm); (case zzN => k_asm); (case zzm => k_mem)); intro zit zh zF zN zl1; (try k_lt zl1); (try k_sweep))) | ((with_reducible show wpAny _ _ (pyIter (Value.ref _)) _ _ _); (refine Park.out ?_)) | ((with_reducible show wpAny _ _ (exec (Stmt.For (Expr.Name _ _) (Expr.Name _ _) _ _ _) _) _ _ _); ((k_here; (rename Fr _ _ _ _ => zlF); (with_unfolding_all refine' For_invVF zlF ?zzk1 ?zzk2 ?_; (case zzk1 => exact rfl); (case zzk2 => exact rfl); k_whole)))) | (with_reducible refine nxR ?_) | (with_reducible refine nxN ?_) | (with_reducible refine nxB ?_) | (with_reducible refine nxK ?_) | (with_reducible refine exN ?_) | (with_reducible refine exA ?zzhs ?_; (case zzhs => k_dflt (exact (rfl : (pure false : Sem Bool) = pure false))); intro zqk) | (with_reducible refine exI ?_; intro zqk) | (with_reducible refine exR ?_) | (with_reducible refine exG ?_; intro zqk) | (with_reducible refine exC ?_; intro zqk) | ((with_reducible show wpAny _ _ (eval (Expr.Name _ _) _) _ _ _); k_dflt (refine' nmL ?zzF ?zzv (rfl : true = true) ?zzl ?_; (case zzF => k_asm); (case zzl => exact rfl); (case zzv => exact (rfl : some _ = some _)); k_whole)) | ((with_reducible show wpAny _ _ (storeName _ _ _) _ _ _); k_dflt (refine' stY ?zzF ?zzN (rfl : true = true) ?zzl ?_; (case zzF => k_asm); (case zzN => k_asm); (case zzl => exact rfl); k_whole); intro zh zt zF zN; (try k_sweep)) | k_unfold | walk1 | (dsimp only; walk1) | leave1))
        rotate_left
        · have hs9 : wsB c2 = true := by
            have : (!wsB c2) = false := (in_ws c2).symm.trans (by assumption)
            simpa using this
          show let G9 : Prop := _; G9
          intro G9
          obtain ⟨⟨t7, ht7⟩, he1, he2⟩ := hp3.hit hdr6 hs9
          k_unfold
          have eu : S u6 = S (tokOf (row.drop n)).1 := by
            have z := htk6.symm.trans ht7
            injection z with z
            injection z
          rename News _ _ _ _ => N8
          rw [← ho8] at N8
          rw [eu]
          exact hret t8 tu6 k8 o8 _ _ (he2 ▸ hD8) (by assumption) (by rw [← he1]; exact news_sub N8 fun q hq => List.Mem.tail _ (List.Mem.tail _ hq))
        · have hs9 : wsB c2 = false := by
            have : (!wsB c2) = true := (in_ws c2).symm.trans (by assumption)
            simpa using this
          rename News _ _ _ _ => N8
          rw [← ho8] at N8
          refine FTurn.mk ⟨n6 + 1, k6' + nlOf [c2], false, _, _, _, _, fun _ => Nat.lt_succ_self _, rfl, ⟨_, _, _, hD8, rfl⟩, by assumption, N8, by with_unfolding_all exact hp1, by with_unfolding_all exact hp2, hp3.miss hdr6 hs9 fun u t h => ?_⟩
          have z := htk6.symm.trans h
          injection z with z
          injection z with z
          rw [← S_inj z]
          exact ⟨_, by rw [← S_app]; rfl⟩
      case jdone =>
        intro n6 k6' m6 h6 tk6 nl6 hI hS F6 N6
        clear N7 F7
        rcases hI with ⟨_, _, h, _⟩ | ⟨n5, rfl, hlen, hp1, hp2, hp3⟩
        · cases h
        show let G9 : Prop := _; G9
        intro G9
        obtain ⟨ht, he1, he2⟩ := hp3.fin hlen
        k_unfold
        (repeat' (first | ((with_reducible show wpAny _ _ (loadName _ _) _ _ _); (k_here; k_dflt (refine' wpAny_loadName_local ?zza ?zzb (Fr.ns ?zzF) ?zzv ?_; (case zzF => k_asm); (case zza => rfl); (case zzb => rfl); (case zzv => with_unfolding_all assumption); k_whole))) | ((with_reducible show wpAny _ _ (eval (Expr.Name _ _) _) _ _ _); (k_here; k_dflt (refine' nameX_L ?zzF ?zzv ?_ ?zza ?zzb; (case zzF => k_asm); (case zza => rfl); (case zzb => rfl); (case zzv => with_unfolding_all assumption); k_whole))) | ((with_reducible show wpAny _ _ (exec (Stmt.For (Expr.Name _ _) (Expr.Name _ _) _ _ _) _) _ _ _); (k_here; (with_unfolding_all refine wpAny_For ?_ (hs := fun _ => rfl)))) | ((with_reducible show wpAny _ _ (call (Value.builtin "iter") _ _) _ _ _); (k_here; (with_reducible show wpAny _ _ (call (Value.builtin "iter") [Value.ref _, Value.str _ _]) _ _ _); k_dflt (refine' my_iter2 ?zzF ?zzN ?zzm ?_; (case zzF => k_asm); (case zzN => k_asm); (case zzm => k_mem)); intro zit zh zF zN zl1; (try k_lt zl1); (try k_sweep))) | ((with_reducible show wpAny _ _ (pyIter (Value.ref _)) _ _ _); (refine Park.out ?_)) | ((with_reducible show wpAny _ _ (exec (Stmt.For (Expr.Name _ _) (Expr.Name _ _) _ _ _) _) _ _ _); ((k_here; (rename Fr _ _ _ _ => zlF); (with_unfolding_all refine' For_invVF zlF ?zzk1 ?zzk2 ?_; (case zzk1 => exact rfl); (case zzk2 => exact rfl); k_whole)))) | (with_reducible refine nxR ?_) | (with_reducible refine nxN ?_) | (with_reducible refine nxB ?_) | (with_reducible refine nxK ?_) | (with_reducible refine exN ?_) | (with_reducible refine exA ?zzhs ?_; (case zzhs => k_dflt (exact (rfl : (pure false : Sem Bool) = pure false))); intro zqk) | (with_reducible refine exI ?_; intro zqk) | (with_reducible refine exR ?_) | (with_reducible refine exG ?_; intro zqk) | (with_reducible refine exC ?_; intro zqk) | ((with_reducible show wpAny _ _ (eval (Expr.Name _ _) _) _ _ _); k_dflt (refine' nmL ?zzF ?zzv (rfl : true = true) ?zzl ?_; (case zzF => k_asm); (case zzl => exact rfl); (case zzv => exact (rfl : some _ = some _)); k_whole)) | ((with_reducible show wpAny _ _ (storeName _ _ _) _ _ _); k_dflt (refine' stY ?zzF ?zzN (rfl : true = true) ?zzl ?_; (case zzF => k_asm); (case zzN => k_asm); (case zzl => exact rfl); k_whole); intro zh zt zF zN; (try k_sweep)) | k_unfold | walk1 | (dsimp only; walk1) | leave1))
        exact FTurn.mk ⟨n5 + 1, k6', true, m6, _, _, _, (fun q => by cases q), rfl, hS, F6, N6, hp1, hp2, by first | lia | omega, by have := hp3.nn; (first | lia | omega), by first | lia | omega, (fun q => by cases q), fun _ => ⟨ht, he1, he2⟩⟩
  case done =>
    intro n' k' m' h5 tk5 nl5 hI hS F5 N5
    have hE : (∃ t, m' (Str.ofString "token") = some (.str (S (tokOf (row.drop n)).1) t)) ∧ n' = n + (tokOf (row.drop n)).2 ∧ k' = k + nlc (row.drop n) (tokOf (row.drop n)).2 := by
      rcases hI with ⟨-, -, -, -, -, -, hI⟩ | ⟨n5, rfl, hlen, -, -, -, -, -, hI, -⟩
      · exact hI rfl
      · obtain ⟨⟨t, ht⟩, e1, e2, e3⟩ := hI rfl
        have e0 : row.drop n5 = [] := List.drop_eq_nil_of_le hlen
        rw [e0] at e1 e2 e3
        refine ⟨⟨t, ?_⟩, ?_, ?_⟩
        · rw [ht, ← e1]; rfl
        · rw [← e2]; rfl
        · rw [← e3, nlc_nil]; (first | lia | omega)
    show let G9 : Prop := _; G9
    intro G9
    obtain ⟨⟨tt, htk⟩, e1, e2⟩ := hE
    k_unfold
    show let G9 : Prop := _; G9
    intro G9
    obtain ⟨t6, k6, o6, hD6, rfl⟩ := hS
    k_unfold
    (try dsimp only [List.cons_append, List.nil_append] at N5)
    clear N9 F9
    (repeat' (first | ((with_reducible show wpAny _ _ (loadName _ _) _ _ _); (k_here; k_dflt (refine' wpAny_loadName_local ?zza ?zzb (Fr.ns ?zzF) ?zzv ?_; (case zzF => k_asm); (case zza => rfl); (case zzb => rfl); (case zzv => with_unfolding_all assumption); k_whole))) | ((with_reducible show wpAny _ _ (eval (Expr.Name _ _) _) _ _ _); (k_here; k_dflt (refine' nameX_L ?zzF ?zzv ?_ ?zza ?zzb; (case zzF => k_asm); (case zza => rfl); (case zzb => rfl); (case zzv => with_unfolding_all assumption); k_whole))) | ((with_reducible show wpAny _ _ (exec (Stmt.For (Expr.Name _ _) (Expr.Name _ _) _ _ _) _) _ _ _); (k_here; (with_unfolding_all refine wpAny_For ?_ (hs := fun _ => rfl)))) | ((with_reducible show wpAny _ _ (call (Value.builtin "iter") _ _) _ _ _); (k_here; (with_reducible show wpAny _ _ (call (Value.builtin "iter") [Value.ref _, Value.str _ _]) _ _ _); k_dflt (refine' my_iter2 ?zzF ?zzN ?zzm ?_; (case zzF => k_asm); (case zzN => k_asm); (case zzm => k_mem)); intro zit zh zF zN zl1; (try k_lt zl1); (try k_sweep))) | ((with_reducible show wpAny _ _ (pyIter (Value.ref _)) _ _ _); (refine Park.out ?_)) | ((with_reducible show wpAny _ _ (exec (Stmt.For (Expr.Name _ _) (Expr.Name _ _) _ _ _) _) _ _ _); ((k_here; (rename Fr _ _ _ _ => zlF); (with_unfolding_all refine' For_invVF zlF ?zzk1 ?zzk2 ?_; (case zzk1 => exact rfl); (case zzk2 => exact rfl); k_whole)))) | (with_reducible refine nxR ?_) | (with_reducible refine nxN ?_) | (with_reducible refine nxB ?_) | (with_reducible refine nxK ?_) | (with_reducible refine exN ?_) | (with_reducible refine exA ?zzhs ?_; (case zzhs => k_dflt (exact (rfl : (pure false : Sem Bool) = pure false))); intro zqk) | (with_reducible refine exI ?_; intro zqk) | (with_reducible refine exR ?_) | (with_reducible refine exG ?_; intro zqk) | (with_reducible refine exC ?_; intro zqk) | ((with_reducible show wpAny _ _ (eval (Expr.Name _ _) _) _ _ _); k_dflt (refine' nmL ?zzF ?zzv (rfl : true = true) ?zzl ?_; (case zzF => k_asm); (case zzl => exact rfl); (case zzv => exact (rfl : some _ = some _)); k_whole)) | ((with_reducible show wpAny _ _ (storeName _ _ _) _ _ _); k_dflt (refine' stY ?zzF ?zzN (rfl : true = true) ?zzl ?_; (case zzF => k_asm); (case zzN => k_asm); (case zzl => exact rfl); k_whole); intro zh zt zF zN; (try k_sweep)) | k_unfold | walk1 | (dsimp only; walk1) | leave1))
    rename News _ _ _ _ => N7
    subst e1
    subst e2
    exact hret t6 tt k6 o6 _ _ hD6 (by assumption) (news_sub N7 fun q hq => List.Mem.tail _ (List.Mem.tail _ hq))
end
section
/- one draw: the name, its pieces but the last, the last -/
noncomputable def drawSign (n : Int) : Nat := if 4 ≤ Int.fmod n 8 ∧ Int.fmod n 8 ≤ 6 then 34 else signN (Int.fdiv n 8)
noncomputable def drawStep (st : List Nat × List (List Nat) × List Nat) (n : Int) : List Nat × List (List Nat) × List Nat :=
  let q : List (List Nat) × List Nat := if Int.fmod n 8 = 1 ∨ Int.fmod n 8 = 3 ∨ Int.fmod n 8 = 6 then (st.2.1 ++ [st.2.2], []) else st.2
  (if Int.fmod n 8 ≠ 3 then st.1 ++ [drawSign n] else st.1, q.1, if Int.fmod n 8 ≠ 2 ∧ Int.fmod n 8 ≠ 4 then q.2 ++ [drawSign n] else q.2)
noncomputable def drawAll (ns : List Int) : List Nat × List (List Nat) × List Nat := ns.foldl drawStep ([], [], [])
theorem draw_len : ∀ (ns : List Int) (st : List Nat × List (List Nat) × List Nat), (ns.foldl drawStep st).1.length ≤ st.1.length + ns.length ∧ (ns.foldl drawStep st).2.2.length ≤ st.2.2.length + ns.length ∧ (ns.foldl drawStep st).2.1.length ≤ st.2.1.length + ns.length
  | [], st => ⟨Nat.le_refl _, Nat.le_refl _, Nat.le_refl _⟩
  | n :: r, st => by
    have ih := draw_len r (drawStep st n)
    have h1 : (drawStep st n).1.length ≤ st.1.length + 1 := by unfold drawStep; dsimp only; split <;> simp
    have h2 : (drawStep st n).2.2.length ≤ st.2.2.length + 1 := by unfold drawStep; dsimp only; split <;> split <;> simp
    have h3 : (drawStep st n).2.1.length ≤ st.2.1.length + 1 := by unfold drawStep; dsimp only; split <;> simp
    simp only [List.foldl_cons, List.length_cons]
    (first | lia | omega)
theorem draw_snoc {ns : List Int} {i : Nat} (h : i < ns.length) : drawAll (ns.take (i + 1)) = drawStep (drawAll (ns.take i)) (ns.getD i 0) := by
  unfold drawAll
  rw [List.take_add_one, List.foldl_append, List.getElem?_eq_getElem h, List.getD_eq_getElem?_getD, List.getElem?_eq_getElem h]
  rfl
theorem ints_at {vs : List Value} {ns : List Int} (h : IntsAre vs ns) {i : Nat} {v : Value} (hv : vs[i]? = some v) : ∃ t, v = .int (ns.getD i 0) t ∧ i < ns.length := by
  induction h generalizing i with
  | nil => simp at hv
  | cons n t _ ih =>
    cases i with
    | zero => simp at hv; exact ⟨t, hv.symm, by simp⟩
    | succ i =>
      obtain ⟨t', e, hl⟩ := ih (i := i) (by simpa using hv)
      exact ⟨t', by simpa using e, by simpa using hl⟩
theorem e_lit : Str.ofString "" = S [] := by decide
theorem ne_em {q : List Nat} (h : (S q != Str.ofString "") = true) : q ≠ [] := by
  rw [e_lit, S_bne] at h; simpa using h
theorem eq_em {q : List Nat} (h : (S q != Str.ofString "") = false) : q = [] := by
  rw [e_lit, S_bne] at h; simpa using h
theorem allLt_mem' {d : Nat} {l : Led} (h : AllLt d l) : ∀ q ∈ l, @LT.lt Nat _ q.1 d := by
  induction l with
  | nil => intro q hq; cases hq
  | cons p r ih =>
    intro q hq
    rcases List.mem_cons.mp hq with rfl | hq
    · exact h.1
    · exact ih h.2 q hq
theorem off1_mem {d : Addr} {l : Led} (h : LCg.Off1 d l) : ∀ q ∈ l, q.1 ≠ d := by
  induction l with
  | nil => intro q hq; cases hq
  | cons p r ih =>
    intro q hq
    rcases List.mem_cons.mp hq with rfl | hq
    · exact h.1
    · exact ih h.2 q hq
noncomputable def Drw3 (num : Int) (ci : List Value) (cl : List Nat) (ct : Tok) (ci3 : List Value) (cl3 : List Nat) : Prop :=
  ((Int.fmod num 8 = 1 ∨ Int.fmod num 8 = 3 ∨ Int.fmod num 8 = 6) ∧ ci3 = ci ++ [Value.str (S cl) ct] ∧ cl3 = []) ∨ (¬ (Int.fmod num 8 = 1 ∨ Int.fmod num 8 = 3 ∨ Int.fmod num 8 = 6) ∧ ci3 = ci ∧ cl3 = cl)
noncomputable def Drw4 (num : Int) (ci : List Value) (cl : List Nat) (ci4 : List Value) (cl4 : List Nat) : Prop :=
  ((Int.fmod num 8 ≠ 2 ∧ Int.fmod num 8 ≠ 4) ∧ ci4 = ci ∧ cl4 = cl ++ [drawSign num]) ∨ (¬ (Int.fmod num 8 ≠ 2 ∧ Int.fmod num 8 ≠ 4) ∧ ci4 = ci ∧ cl4 = cl)
theorem Drw3.len {num : Int} {ci ci3 : List Value} {cl cl3 : List Nat} {ct : Tok} (h : Drw3 num ci cl ct ci3 cl3) (hl : (S cl).length ≤ 10) : (S cl3).length ≤ 10 := by
  rcases h with ⟨-, -, rfl⟩ | ⟨-, -, rfl⟩
  · rw [S_len]; exact Nat.zero_le _
  · exact hl
theorem draw_turn {st : List Nat × List (List Nat) × List Nat} {num : Int} {ci ci3 ci4 : List Value} {cn1 cl1 cl3 cl4 n4 : List Nat} {ct : Tok} (h1 : cn1 = st.1) (h2 : StrsAre ci (st.2.1.map S)) (h3 : cl1 = st.2.2) (a : Drw3 num ci cl1 ct ci3 cl3) (b : Drw4 num ci3 cl3 ci4 cl4)
    (c : (Int.fmod num 8 ≠ 3 ∧ n4 = cn1 ++ [drawSign num]) ∨ (Int.fmod num 8 = 3 ∧ n4 = cn1)) : n4 = (drawStep st num).1 ∧ StrsAre ci4 ((drawStep st num).2.1.map S) ∧ cl4 = (drawStep st num).2.2 := by
  subst h1 h3
  unfold drawStep
  refine ⟨?_, ?_, ?_⟩
  · rcases c with ⟨k, rfl⟩ | ⟨k, rfl⟩
    · exact (if_pos k).symm
    · exact (if_neg (not_not_intro k)).symm
  · rcases b with ⟨-, rfl, -⟩ | ⟨-, rfl, -⟩ <;> rcases a with ⟨k, rfl, -⟩ | ⟨k, rfl, -⟩
    · rw [if_pos k]; exact strs_snocS h2
    · rw [if_neg k]; exact h2
    · rw [if_pos k]; exact strs_snocS h2
    · rw [if_neg k]; exact h2
  · dsimp only
    rcases b with ⟨k, -, rfl⟩ | ⟨k, -, rfl⟩ <;> rcases a with ⟨k', -, rfl⟩ | ⟨k', -, rfl⟩
    · rw [if_pos k, if_pos k']
    · rw [if_pos k, if_neg k']
    · rw [if_neg k, if_pos k']
    · rw [if_neg k, if_neg k']
/- CNew, the new addresses only told to be others -/
noncomputable def CNewD (w : World) (k : Nat) (f : Addr) (vs : List Value) (pre : Led → Prop) (post : Led → Value → Prop) : Prop :=
  ∀ (p : Program) (loose : List Str) (mean : ExcName → Option Value) (mg mb : Str → Option Value) (dp un : Nat) (gd : Option (List Code)) (cn : Str) (cs : Scope) (a : Addr) (ccd : Value) (cl : List (Str × Addr)) (outer : List Env) (A₀ : Around) (base h₀ : Heap) (L : Addr) (m : Str → Option Value) (news : Led) (s : Shared)
    (Q E : Value → Shared → Prop),
    Below A₀ base outer h₀ → Fr h₀ L s.heap m → (Khp w.params).In h₀ → News h₀ L s.heap news → Top p loose mean mg mb h₀ → cs.kind = .function → dp + k < recursionLimit → un + 8 * k < cLine → pre news →
    (∀ r tl h' tk', Fr h₀ L h' m → News h₀ L h' (tl ++ news) → (∀ p ∈ news, ∀ q ∈ tl, q.1 ≠ p.1) → post tl r → Q r { s with heap := h', toks := tk' }) →
    wpAny (model PySem.Challenge.rw_sc0033_01.row.prog w) (ktrTop dp un gd cn cs L a ccd cl outer) (call (.ref f) vs) Q E s
theorem CNewD.use {w : World} {k : Nat} {f : Addr} {vs : List Value} {pre : Led → Prop} {p : Program} {loose : List Str} {mean : ExcName → Option Value} {mg mb : Str → Option Value} {dp un : Nat} {gd : Option (List Code)} {cn : Str} {cs : Scope} {a : Addr} {ccd : Value} {cl : List (Str × Addr)} {outer : List Env} {A₀ : Around} {base h₀ : Heap} {L : Addr} {m : Str → Option Value} {news : Led} {s : Shared}
  {Q E : Value → Shared → Prop} {post : Led → Value → Prop} (C : CNewD w k f vs pre post) (B : Below A₀ base outer h₀) (F : Fr h₀ L s.heap m) (X : (Khp w.params).In h₀) (N : News h₀ L s.heap news) (T : Top p loose mean mg mb h₀) (hk : cs.kind = .function) (hd : dp + k < recursionLimit) (hu : un + 8 * k < cLine) (hp : pre news)
    (ret : ∀ r tl h' tk', Fr h₀ L h' m → News h₀ L h' (tl ++ news) → (∀ p ∈ news, ∀ q ∈ tl, q.1 ≠ p.1) → post tl r → Q r { s with heap := h', toks := tk' }) :
    wpAny (model PySem.Challenge.rw_sc0033_01.row.prog w) (ktrTop dp un gd cn cs L a ccd cl outer) (call (.ref f) vs) Q E s := C _ _ _ _ _ _ _ _ _ _ _ _ _ _ _ _ _ _ _ _ _ _ _ B F X N T hk hd hu hp ret
/- what `_law_drawn` hands back: a tuple of the name and the list of the pieces -/
inductive DrawnPost (ns : List Int) (tl : Led) (r : Value) : Prop
  | mk (D D2 l' : Addr) (t : Tok) (ys zs : List Value) (n1 n2 n3 : Nat) (k0_ : tl = [(D, { cls := .type "tuple", data := .seq #[.str (S (drawAll ns).1) t, .ref D2] n1 }), (D2, listOf ys.toArray n2), (l', listOf zs.toArray n3)]) (k1_ : r = .ref D) (k2_ : StrsAre ys ((keepNE ((drawAll ns).2.1 ++ [(drawAll ns).2.2])).map S)) : DrawnPost ns tl r
theorem drawn_ok (w : World) (l : Addr) (vs : List Value) (nn : Nat) (ns : List Int) (hi : IntsAre vs ns) (hl : ns.length ≤ 10) (hb : ∀ n ∈ ns, 0 ≤ n ∧ n < 10000000) :
    CNewD w 40 114 [.ref l] (fun news => (l, listOf vs.toArray nn) ∈ news) (DrawnPost ns) := by
  unfold CNewD
  k_fill
  k_with_none
  w_top off
  intro p loose mean mg mb dp un gd cn cs a ccd cl outer A₀ base h₀ L m news s Q E B F X N T hk hdp hun hpre hret
  refine wpAny_call ?_
  k_dflt ktr_enter
  rename Fr _ _ _ _ => F0
  revert F0
  show let m0 := _; Fr _ _ _ m0 → _
  intro m0 F0
  show let M0 := _; let A0 := _; let e0 := _; wpAny M0 A0 (execs _ e0) _ _ _
  intro M0 A0 e0
  (repeat' (first | ((with_reducible show LCt.CompSrcT _ _ _ _ _ _ _ _ _ _ _ _ _ _ _); (refine Park.out ?_)) | ((with_reducible show wpAny _ _ (eval (Expr.IfExp _ _ _ _) _) _ _ _); (refine Park.out ?_)) | ((with_reducible show wpAny _ _ (execs (Stmt.If _ _ _ _ :: _) _) _ _ _); (refine Park.out ?_)) | ((with_reducible show @ite _ _ _ _ _); (k_here; first | (refine ite_pos (by (simp only [beq_iff_eq, bne_iff_ne, ne_eq, Classical.not_not, decide_eq_true_eq]; (first | lia | omega))) ?_) | (refine ite_neg (by (simp only [beq_iff_eq, bne_iff_ne, ne_eq, Classical.not_not, decide_eq_true_eq]; (first | lia | omega))) ?_))) | ((with_reducible show wpAny _ _ (call (Value.builtin "list.append") _ _) _ _ _); (k_here; (with_reducible show wpAny _ _ (call (Value.builtin _) [Value.ref _, _]) _ _ _); k_dflt (refine' my_append ?zzk1 ?zzk2 ?zzk3 ?zzk4 ?_; (case zzk1 => k_asm); (case zzk2 => k_asm); (case zzk3 => assumption); (case zzk4 => (simp only [List.length_append, List.length_singleton]; (first | lia | omega)))); intro zh zF zN; (try k_sweep))) | ((with_reducible show wpAny _ _ (setItem _ _ _) _ _ _); (k_here; (try dsimp only); k_dflt (refine' my_setlast ?zzF ?zzN ?zzh ?_; (case zzF => k_asm); (case zzN => k_asm); (case zzh => assumption)); intro zh zF zN; (try k_sweep))) | ((with_reducible show wpAny _ _ (getItem _ _) _ _ _); (k_here; (try dsimp only); (with_reducible show wpAny _ _ (getItem (Value.ref _) (Value.int _ _)) _ _ _); k_dflt (refine' my_getlast ?zzN ?zzm ?_; (case zzN => k_asm); (case zzm => walk_at "my mem")))) | ((with_reducible show wpAny _ _ (eval (Expr.ListComp _ _ _ _) _) _ _ _); (refine Park.out ?_)) | ((with_reducible show wpAny _ _ (call (Value.ref _) _ _) _ _ _); ((with_reducible show wpAny _ _ (call (Value.ref 109) _ _) _ _ _); refine Park.out ?_)) | ((with_reducible show wpAny _ _ (call (Value.builtin "list.append") _ _) _ _ _); (k_here; (with_reducible show wpAny _ _ (call _ [Value.ref _, _]) _ _ _); k_dflt (refine my_append (by k_asm) (by k_asm) (by assumption) (by first | lia | omega) ?_); intro zh zF zN; (try k_sweep))) | ((with_reducible show TurnEnds _ _ _ _ _ _ _ _ _ _ _); (refine Park.out ?_)) | ((with_reducible show TurnPost _ _ _ _ _ _ _ _ _ _ _ _ _); (dsimp only [TurnPost])) | ((with_reducible show wpAny _ _ (pyIter (Value.ref _)) _ _ _); (refine Park.out ?_)) | ((with_reducible show wpAny _ _ (exec (Stmt.For (Expr.Name _ _) (Expr.Name _ _) _ _ _) _) _ _ _); ((k_here; (rename Fr _ _ _ _ => zlF); (with_unfolding_all refine' For_invVF zlF ?zzk1 ?zzk2 ?_; (case zzk1 => exact rfl); (case zzk2 => exact rfl); k_whole)))) | (with_reducible refine nxR ?_) | (with_reducible refine nxN ?_) | (with_reducible refine nxB ?_) | (with_reducible refine nxK ?_) | (with_reducible refine exN ?_) | (with_reducible refine exA ?zzhs ?_; (case zzhs => k_dflt (exact (rfl : (pure false : Sem Bool) = pure false))); intro zqk) | (with_reducible refine exI ?_; intro zqk) | (with_reducible refine exR ?_) | (with_reducible refine exG ?_; intro zqk) | (with_reducible refine exC ?_; intro zqk) | ((with_reducible show wpAny _ _ (eval (Expr.Name _ _) _) _ _ _); k_dflt (refine' nmL ?zzF ?zzv (rfl : true = true) ?zzl ?_; (case zzF => k_asm); (case zzl => exact rfl); (case zzv => exact (rfl : some _ = some _)); k_whole)) | ((with_reducible show wpAny _ _ (storeName _ _ _) _ _ _); k_dflt (refine' stY ?zzF ?zzN (rfl : true = true) ?zzl ?_; (case zzF => k_asm); (case zzN => k_asm); (case zzl => exact rfl); k_whole); intro zh zt zF zN; (try k_sweep)) | k_unfold | walk1 | (dsimp only; walk1) | leave1))
  refine Park.mk ?_
  (rename Fr _ _ _ _ => lF'); (rename News _ _ _ _ => lN')
  with_unfolding_all refine' my_for (σ := List Nat × List Value × List Nat × Tok × Nat × Tok) (fun c => (_, listOf (c.2.1 ++ [Value.str (S c.2.2.1) c.2.2.2.1]).toArray c.2.2.2.2.1) :: news) (fun c => [(Str.ofString "name", Value.str (S c.1) c.2.2.2.2.2), (Str.ofString "pieces", Value.ref _)]) [Str.ofString "kind", Str.ofString "sign"] (fun i c => c.1 = (drawAll (ns.take i)).1 ∧ StrsAre c.2.1 ((drawAll (ns.take i)).2.1.map S) ∧ c.2.2.1 = (drawAll (ns.take i)).2.2) ([], [], [], _, 0, _) (by rfl) ?hl lF' lN' ?hk ?hp ?turn ?done
  case hl => exact fun c => List.Mem.tail _ hpre
  case hk => intro p hp; simp only [List.mem_cons, List.not_mem_nil, or_false] at hp; rcases hp with rfl | rfl <;> (with_unfolding_all rfl)
  case hp => exact ⟨rfl, .nil, rfl⟩
  case turn =>
    intro c i v u h tk own hv hoff hP F' N'
    show let G9 : Prop := _; G9
    intro G9
    obtain ⟨cn1, ci, cl1, ct, ck, cnt⟩ := c
    k_unfold
    show let G9 : Prop := _; G9
    intro G9
    obtain ⟨tv, rfl, hil⟩ := ints_at hi hv
    k_unfold
    have hbn := hb (ns.getD i 0) (by rw [List.getD_eq_getElem?_getD, List.getElem?_eq_getElem hil]; exact List.getElem_mem hil)
    have hds := draw_snoc hil
    generalize ns.getD i 0 = num at *
    have hne := ne_of_off (by assumption) hoff
    show let G9 : Prop := _; G9
    intro G9
    obtain ⟨hP1, hP2, hP3⟩ := hP
    k_unfold
    dsimp only at hP1 hP2 hP3
    have dl := draw_len (ns.take i) ([], [], [])
    have dl0 : (ns.take i).length ≤ 10 := by rw [List.length_take]; (first | lia | omega)
    have hnl : (S cn1).length ≤ 10 := by rw [S_len, hP1]; exact Nat.le_trans dl.1 (by simpa using dl0)
    have hll : (S cl1).length ≤ 10 := by rw [S_len, hP3]; exact Nat.le_trans dl.2.1 (by simpa using dl0)
    have hcl := strs_Slen hP2 rfl
    have hcl2 : ci.length ≤ 10 := by rw [hcl]; exact Nat.le_trans dl.2.2 (by simpa using dl0)
    dsimp only at F' N'
    rw [List.cons_append] at N'
    have hm8 := fm8 num
    have hPl := hP3
    clear hP3
    have hsl : (S [drawSign num]).length = 1 := by rw [S_len]; rfl
    (repeat' (first | ((with_reducible show LCt.CompSrcT _ _ _ _ _ _ _ _ _ _ _ _ _ _ _); (refine Park.out ?_)) | ((with_reducible show wpAny _ _ (eval (Expr.IfExp _ _ _ _) _) _ _ _); (refine Park.out ?_)) | ((with_reducible show wpAny _ _ (execs (Stmt.If _ _ _ _ :: _) _) _ _ _); (refine Park.out ?_)) | ((with_reducible show @ite _ _ _ _ _); (k_here; first | (refine ite_pos (by (simp only [beq_iff_eq, bne_iff_ne, ne_eq, Classical.not_not, decide_eq_true_eq]; (first | lia | omega))) ?_) | (refine ite_neg (by (simp only [beq_iff_eq, bne_iff_ne, ne_eq, Classical.not_not, decide_eq_true_eq]; (first | lia | omega))) ?_))) | ((with_reducible show wpAny _ _ (call (Value.builtin "list.append") _ _) _ _ _); (k_here; (with_reducible show wpAny _ _ (call (Value.builtin _) [Value.ref _, _]) _ _ _); k_dflt (refine' my_append ?zzk1 ?zzk2 ?zzk3 ?zzk4 ?_; (case zzk1 => k_asm); (case zzk2 => k_asm); (case zzk3 => assumption); (case zzk4 => (simp only [List.length_append, List.length_singleton]; (first | lia | omega)))); intro zh zF zN; (try k_sweep))) | ((with_reducible show wpAny _ _ (setItem _ _ _) _ _ _); (k_here; (try dsimp only); k_dflt (refine' my_setlast ?zzF ?zzN ?zzh ?_; (case zzF => k_asm); (case zzN => k_asm); (case zzh => assumption)); intro zh zF zN; (try k_sweep))) | ((with_reducible show wpAny _ _ (getItem _ _) _ _ _); (k_here; (try dsimp only); (with_reducible show wpAny _ _ (getItem (Value.ref _) (Value.int _ _)) _ _ _); k_dflt (refine' my_getlast ?zzN ?zzm ?_; (case zzN => k_asm); (case zzm => walk_at "my mem")))) | ((with_reducible show wpAny _ _ (eval (Expr.ListComp _ _ _ _) _) _ _ _); (refine Park.out ?_)) | ((with_reducible show wpAny _ _ (call (Value.ref _) _ _) _ _ _); ((with_reducible show wpAny _ _ (call (Value.ref 109) _ _) _ _ _); refine Park.out ?_)) | ((with_reducible show wpAny _ _ (call (Value.builtin "list.append") _ _) _ _ _); (k_here; (with_reducible show wpAny _ _ (call _ [Value.ref _, _]) _ _ _); k_dflt (refine my_append (by k_asm) (by k_asm) (by assumption) (by first | lia | omega) ?_); intro zh zF zN; (try k_sweep))) | ((with_reducible show TurnEnds _ _ _ _ _ _ _ _ _ _ _); (refine Park.out ?_)) | ((with_reducible show TurnPost _ _ _ _ _ _ _ _ _ _ _ _ _); (dsimp only [TurnPost])) | ((with_reducible show wpAny _ _ (pyIter (Value.ref _)) _ _ _); (refine Park.out ?_)) | ((with_reducible show wpAny _ _ (exec (Stmt.For (Expr.Name _ _) (Expr.Name _ _) _ _ _) _) _ _ _); ((k_here; (rename Fr _ _ _ _ => zlF); (with_unfolding_all refine' For_invVF zlF ?zzk1 ?zzk2 ?_; (case zzk1 => exact rfl); (case zzk2 => exact rfl); k_whole)))) | (with_reducible refine nxR ?_) | (with_reducible refine nxN ?_) | (with_reducible refine nxB ?_) | (with_reducible refine nxK ?_) | (with_reducible refine exN ?_) | (with_reducible refine exA ?zzhs ?_; (case zzhs => k_dflt (exact (rfl : (pure false : Sem Bool) = pure false))); intro zqk) | (with_reducible refine exI ?_; intro zqk) | (with_reducible refine exR ?_) | (with_reducible refine exG ?_; intro zqk) | (with_reducible refine exC ?_; intro zqk) | ((with_reducible show wpAny _ _ (eval (Expr.Name _ _) _) _ _ _); k_dflt (refine' nmL ?zzF ?zzv (rfl : true = true) ?zzl ?_; (case zzF => k_asm); (case zzl => exact rfl); (case zzv => exact (rfl : some _ = some _)); k_whole)) | ((with_reducible show wpAny _ _ (storeName _ _ _) _ _ _); k_dflt (refine' stY ?zzF ?zzN (rfl : true = true) ?zzl ?_; (case zzF => k_asm); (case zzN => k_asm); (case zzl => exact rfl); k_whole); intro zh zt zF zN; (try k_sweep)) | k_unfold | walk1 | (dsimp only; walk1) | leave1))
    refine Park.mk ?_
    (rename Fr _ _ _ _ => F5); (rename News _ _ _ _ => N5)
    refine join1 (fun v => ∃ t, v = Value.str (S [drawSign num]) t) F5 N5 ?ws ?_
    case ws =>
      walk1
      refine join1 (fun b => b = true ↔ 4 ≤ Int.fmod num 8 ∧ Int.fmod num 8 ≤ 6) F5 N5 ?wb ?_
      case wb =>
        (repeat' (first | ((with_reducible show LCt.CompSrcT _ _ _ _ _ _ _ _ _ _ _ _ _ _ _); (refine Park.out ?_)) | ((with_reducible show wpAny _ _ (eval (Expr.IfExp _ _ _ _) _) _ _ _); (refine Park.out ?_)) | ((with_reducible show wpAny _ _ (execs (Stmt.If _ _ _ _ :: _) _) _ _ _); (refine Park.out ?_)) | ((with_reducible show @ite _ _ _ _ _); (k_here; first | (refine ite_pos (by (simp only [beq_iff_eq, bne_iff_ne, ne_eq, Classical.not_not, decide_eq_true_eq]; (first | lia | omega))) ?_) | (refine ite_neg (by (simp only [beq_iff_eq, bne_iff_ne, ne_eq, Classical.not_not, decide_eq_true_eq]; (first | lia | omega))) ?_))) | ((with_reducible show wpAny _ _ (call (Value.builtin "list.append") _ _) _ _ _); (k_here; (with_reducible show wpAny _ _ (call (Value.builtin _) [Value.ref _, _]) _ _ _); k_dflt (refine' my_append ?zzk1 ?zzk2 ?zzk3 ?zzk4 ?_; (case zzk1 => k_asm); (case zzk2 => k_asm); (case zzk3 => assumption); (case zzk4 => (simp only [List.length_append, List.length_singleton]; (first | lia | omega)))); intro zh zF zN; (try k_sweep))) | ((with_reducible show wpAny _ _ (setItem _ _ _) _ _ _); (k_here; (try dsimp only); k_dflt (refine' my_setlast ?zzF ?zzN ?zzh ?_; (case zzF => k_asm); (case zzN => k_asm); (case zzh => assumption)); intro zh zF zN; (try k_sweep))) | ((with_reducible show wpAny _ _ (getItem _ _) _ _ _); (k_here; (try dsimp only); (with_reducible show wpAny _ _ (getItem (Value.ref _) (Value.int _ _)) _ _ _); k_dflt (refine' my_getlast ?zzN ?zzm ?_; (case zzN => k_asm); (case zzm => walk_at "my mem")))) | ((with_reducible show wpAny _ _ (eval (Expr.ListComp _ _ _ _) _) _ _ _); (refine Park.out ?_)) | ((with_reducible show wpAny _ _ (call (Value.ref _) _ _) _ _ _); ((with_reducible show wpAny _ _ (call (Value.ref 109) _ _) _ _ _); refine Park.out ?_)) | ((with_reducible show wpAny _ _ (call (Value.builtin "list.append") _ _) _ _ _); (k_here; (with_reducible show wpAny _ _ (call _ [Value.ref _, _]) _ _ _); k_dflt (refine my_append (by k_asm) (by k_asm) (by assumption) (by first | lia | omega) ?_); intro zh zF zN; (try k_sweep))) | ((with_reducible show TurnEnds _ _ _ _ _ _ _ _ _ _ _); (refine Park.out ?_)) | ((with_reducible show TurnPost _ _ _ _ _ _ _ _ _ _ _ _ _); (dsimp only [TurnPost])) | ((with_reducible show wpAny _ _ (pyIter (Value.ref _)) _ _ _); (refine Park.out ?_)) | ((with_reducible show wpAny _ _ (exec (Stmt.For (Expr.Name _ _) (Expr.Name _ _) _ _ _) _) _ _ _); ((k_here; (rename Fr _ _ _ _ => zlF); (with_unfolding_all refine' For_invVF zlF ?zzk1 ?zzk2 ?_; (case zzk1 => exact rfl); (case zzk2 => exact rfl); k_whole)))) | (with_reducible refine nxR ?_) | (with_reducible refine nxN ?_) | (with_reducible refine nxB ?_) | (with_reducible refine nxK ?_) | (with_reducible refine exN ?_) | (with_reducible refine exA ?zzhs ?_; (case zzhs => k_dflt (exact (rfl : (pure false : Sem Bool) = pure false))); intro zqk) | (with_reducible refine exI ?_; intro zqk) | (with_reducible refine exR ?_) | (with_reducible refine exG ?_; intro zqk) | (with_reducible refine exC ?_; intro zqk) | ((with_reducible show wpAny _ _ (eval (Expr.Name _ _) _) _ _ _); k_dflt (refine' nmL ?zzF ?zzv (rfl : true = true) ?zzl ?_; (case zzF => k_asm); (case zzl => exact rfl); (case zzv => exact (rfl : some _ = some _)); k_whole)) | ((with_reducible show wpAny _ _ (storeName _ _ _) _ _ _); k_dflt (refine' stY ?zzF ?zzN (rfl : true = true) ?zzl ?_; (case zzF => k_asm); (case zzN => k_asm); (case zzl => exact rfl); k_whole); intro zh zt zF zN; (try k_sweep)) | k_unfold | walk1 | (dsimp only; walk1) | leave1))
        all_goals exact JS.mk (by simp only [decide_eq_true_eq, beq_iff_eq, bne_iff_ne, ne_eq, Bool.false_eq_true, Bool.true_eq_false, false_iff, true_iff]; (first | lia | omega)) (by assumption) (by assumption)
      intro b h1 tk1 hb F6 N6
      clear F5 N5
      cases b with
      | true =>
        refine ite_pos rfl ?_
        have hd9 : drawSign num = 34 := if_pos (hb.mp rfl)
        (repeat' (first | ((with_reducible show LCt.CompSrcT _ _ _ _ _ _ _ _ _ _ _ _ _ _ _); (refine Park.out ?_)) | ((with_reducible show wpAny _ _ (eval (Expr.IfExp _ _ _ _) _) _ _ _); (refine Park.out ?_)) | ((with_reducible show wpAny _ _ (execs (Stmt.If _ _ _ _ :: _) _) _ _ _); (refine Park.out ?_)) | ((with_reducible show @ite _ _ _ _ _); (k_here; first | (refine ite_pos (by (simp only [beq_iff_eq, bne_iff_ne, ne_eq, Classical.not_not, decide_eq_true_eq]; (first | lia | omega))) ?_) | (refine ite_neg (by (simp only [beq_iff_eq, bne_iff_ne, ne_eq, Classical.not_not, decide_eq_true_eq]; (first | lia | omega))) ?_))) | ((with_reducible show wpAny _ _ (call (Value.builtin "list.append") _ _) _ _ _); (k_here; (with_reducible show wpAny _ _ (call (Value.builtin _) [Value.ref _, _]) _ _ _); k_dflt (refine' my_append ?zzk1 ?zzk2 ?zzk3 ?zzk4 ?_; (case zzk1 => k_asm); (case zzk2 => k_asm); (case zzk3 => assumption); (case zzk4 => (simp only [List.length_append, List.length_singleton]; (first | lia | omega)))); intro zh zF zN; (try k_sweep))) | ((with_reducible show wpAny _ _ (setItem _ _ _) _ _ _); (k_here; (try dsimp only); k_dflt (refine' my_setlast ?zzF ?zzN ?zzh ?_; (case zzF => k_asm); (case zzN => k_asm); (case zzh => assumption)); intro zh zF zN; (try k_sweep))) | ((with_reducible show wpAny _ _ (getItem _ _) _ _ _); (k_here; (try dsimp only); (with_reducible show wpAny _ _ (getItem (Value.ref _) (Value.int _ _)) _ _ _); k_dflt (refine' my_getlast ?zzN ?zzm ?_; (case zzN => k_asm); (case zzm => walk_at "my mem")))) | ((with_reducible show wpAny _ _ (eval (Expr.ListComp _ _ _ _) _) _ _ _); (refine Park.out ?_)) | ((with_reducible show wpAny _ _ (call (Value.ref _) _ _) _ _ _); ((with_reducible show wpAny _ _ (call (Value.ref 109) _ _) _ _ _); refine Park.out ?_)) | ((with_reducible show wpAny _ _ (call (Value.builtin "list.append") _ _) _ _ _); (k_here; (with_reducible show wpAny _ _ (call _ [Value.ref _, _]) _ _ _); k_dflt (refine my_append (by k_asm) (by k_asm) (by assumption) (by first | lia | omega) ?_); intro zh zF zN; (try k_sweep))) | ((with_reducible show TurnEnds _ _ _ _ _ _ _ _ _ _ _); (refine Park.out ?_)) | ((with_reducible show TurnPost _ _ _ _ _ _ _ _ _ _ _ _ _); (dsimp only [TurnPost])) | ((with_reducible show wpAny _ _ (pyIter (Value.ref _)) _ _ _); (refine Park.out ?_)) | ((with_reducible show wpAny _ _ (exec (Stmt.For (Expr.Name _ _) (Expr.Name _ _) _ _ _) _) _ _ _); ((k_here; (rename Fr _ _ _ _ => zlF); (with_unfolding_all refine' For_invVF zlF ?zzk1 ?zzk2 ?_; (case zzk1 => exact rfl); (case zzk2 => exact rfl); k_whole)))) | (with_reducible refine nxR ?_) | (with_reducible refine nxN ?_) | (with_reducible refine nxB ?_) | (with_reducible refine nxK ?_) | (with_reducible refine exN ?_) | (with_reducible refine exA ?zzhs ?_; (case zzhs => k_dflt (exact (rfl : (pure false : Sem Bool) = pure false))); intro zqk) | (with_reducible refine exI ?_; intro zqk) | (with_reducible refine exR ?_) | (with_reducible refine exG ?_; intro zqk) | (with_reducible refine exC ?_; intro zqk) | ((with_reducible show wpAny _ _ (eval (Expr.Name _ _) _) _ _ _); k_dflt (refine' nmL ?zzF ?zzv (rfl : true = true) ?zzl ?_; (case zzF => k_asm); (case zzl => exact rfl); (case zzv => exact (rfl : some _ = some _)); k_whole)) | ((with_reducible show wpAny _ _ (storeName _ _ _) _ _ _); k_dflt (refine' stY ?zzF ?zzN (rfl : true = true) ?zzl ?_; (case zzF => k_asm); (case zzN => k_asm); (case zzl => exact rfl); k_whole); intro zh zt zF zN; (try k_sweep)) | k_unfold | walk1 | (dsimp only; walk1) | leave1))
        exact JS.mk ⟨_, by rw [hd9, ← q_lit]⟩ F6 N6
      | false =>
        refine ite_neg (by decide) ?_
        have hd9 : drawSign num = signN (Int.fdiv num 8) := if_neg fun e => Bool.noConfusion (hb.mpr e)
        (repeat' (first | ((with_reducible show LCt.CompSrcT _ _ _ _ _ _ _ _ _ _ _ _ _ _ _); (refine Park.out ?_)) | ((with_reducible show wpAny _ _ (eval (Expr.IfExp _ _ _ _) _) _ _ _); (refine Park.out ?_)) | ((with_reducible show wpAny _ _ (execs (Stmt.If _ _ _ _ :: _) _) _ _ _); (refine Park.out ?_)) | ((with_reducible show @ite _ _ _ _ _); (k_here; first | (refine ite_pos (by (simp only [beq_iff_eq, bne_iff_ne, ne_eq, Classical.not_not, decide_eq_true_eq]; (first | lia | omega))) ?_) | (refine ite_neg (by (simp only [beq_iff_eq, bne_iff_ne, ne_eq, Classical.not_not, decide_eq_true_eq]; (first | lia | omega))) ?_))) | ((with_reducible show wpAny _ _ (call (Value.builtin "list.append") _ _) _ _ _); (k_here; (with_reducible show wpAny _ _ (call (Value.builtin _) [Value.ref _, _]) _ _ _); k_dflt (refine' my_append ?zzk1 ?zzk2 ?zzk3 ?zzk4 ?_; (case zzk1 => k_asm); (case zzk2 => k_asm); (case zzk3 => assumption); (case zzk4 => (simp only [List.length_append, List.length_singleton]; (first | lia | omega)))); intro zh zF zN; (try k_sweep))) | ((with_reducible show wpAny _ _ (setItem _ _ _) _ _ _); (k_here; (try dsimp only); k_dflt (refine' my_setlast ?zzF ?zzN ?zzh ?_; (case zzF => k_asm); (case zzN => k_asm); (case zzh => assumption)); intro zh zF zN; (try k_sweep))) | ((with_reducible show wpAny _ _ (getItem _ _) _ _ _); (k_here; (try dsimp only); (with_reducible show wpAny _ _ (getItem (Value.ref _) (Value.int _ _)) _ _ _); k_dflt (refine' my_getlast ?zzN ?zzm ?_; (case zzN => k_asm); (case zzm => walk_at "my mem")))) | ((with_reducible show wpAny _ _ (eval (Expr.ListComp _ _ _ _) _) _ _ _); (refine Park.out ?_)) | ((with_reducible show wpAny _ _ (call (Value.ref _) _ _) _ _ _); ((with_reducible show wpAny _ _ (call (Value.ref 109) _ _) _ _ _); refine Park.out ?_)) | ((with_reducible show wpAny _ _ (call (Value.builtin "list.append") _ _) _ _ _); (k_here; (with_reducible show wpAny _ _ (call _ [Value.ref _, _]) _ _ _); k_dflt (refine my_append (by k_asm) (by k_asm) (by assumption) (by first | lia | omega) ?_); intro zh zF zN; (try k_sweep))) | ((with_reducible show TurnEnds _ _ _ _ _ _ _ _ _ _ _); (refine Park.out ?_)) | ((with_reducible show TurnPost _ _ _ _ _ _ _ _ _ _ _ _ _); (dsimp only [TurnPost])) | ((with_reducible show wpAny _ _ (pyIter (Value.ref _)) _ _ _); (refine Park.out ?_)) | ((with_reducible show wpAny _ _ (exec (Stmt.For (Expr.Name _ _) (Expr.Name _ _) _ _ _) _) _ _ _); ((k_here; (rename Fr _ _ _ _ => zlF); (with_unfolding_all refine' For_invVF zlF ?zzk1 ?zzk2 ?_; (case zzk1 => exact rfl); (case zzk2 => exact rfl); k_whole)))) | (with_reducible refine nxR ?_) | (with_reducible refine nxN ?_) | (with_reducible refine nxB ?_) | (with_reducible refine nxK ?_) | (with_reducible refine exN ?_) | (with_reducible refine exA ?zzhs ?_; (case zzhs => k_dflt (exact (rfl : (pure false : Sem Bool) = pure false))); intro zqk) | (with_reducible refine exI ?_; intro zqk) | (with_reducible refine exR ?_) | (with_reducible refine exG ?_; intro zqk) | (with_reducible refine exC ?_; intro zqk) | ((with_reducible show wpAny _ _ (eval (Expr.Name _ _) _) _ _ _); k_dflt (refine' nmL ?zzF ?zzv (rfl : true = true) ?zzl ?_; (case zzF => k_asm); (case zzl => exact rfl); (case zzv => exact (rfl : some _ = some _)); k_whole)) | ((with_reducible show wpAny _ _ (storeName _ _ _) _ _ _); k_dflt (refine' stY ?zzF ?zzN (rfl : true = true) ?zzl ?_; (case zzF => k_asm); (case zzN => k_asm); (case zzl => exact rfl); k_whole); intro zh zt zF zN; (try k_sweep)) | k_unfold | walk1 | (dsimp only; walk1) | leave1))
        refine Park.mk ?_
        refine' CPure.use (sign_ok w (Int.fdiv num 8) _ ?a ?b) ?k1 ?k2 ?k3 ?k4 ?k5 ?kK ?kd ?ku ?kp ?_
        ((case k1 => k_asm); (case k2 => k_asm); (case k3 => k_asm); (case k4 => k_asm); (case k5 => k_asm); (case kK => first | exact rfl | assumption); (case kd => first | exact room1 (by assumption) (by decide) | ((try dsimp only [A0]); ktr_room)); (case ku => first | exact units3 (by assumption) (by decide) | ktr_units))
        case a => rw [Int.fdiv_eq_ediv_of_nonneg _ (by decide)]; (first | lia | omega)
        case b => rw [Int.fdiv_eq_ediv_of_nonneg _ (by decide)]; (first | lia | omega)
        case kp => trivial
        intro r h9 tk9 F9 N9 hr
        show let G9 : Prop := _; G9
        intro G9
        obtain ⟨t9, rfl⟩ := hr
        k_unfold
        exact JS.mk ⟨t9, by rw [hd9]⟩ F9 N9
    intro v9 h1 tk1 hv9 F6 N6
    show let G9 : Prop := _; G9
    intro G9
    obtain ⟨t9, rfl⟩ := hv9
    k_unfold
    clear F5 N5
    (repeat' (first | ((with_reducible show LCt.CompSrcT _ _ _ _ _ _ _ _ _ _ _ _ _ _ _); (refine Park.out ?_)) | ((with_reducible show wpAny _ _ (eval (Expr.IfExp _ _ _ _) _) _ _ _); (refine Park.out ?_)) | ((with_reducible show wpAny _ _ (execs (Stmt.If _ _ _ _ :: _) _) _ _ _); (refine Park.out ?_)) | ((with_reducible show @ite _ _ _ _ _); (k_here; first | (refine ite_pos (by (simp only [beq_iff_eq, bne_iff_ne, ne_eq, Classical.not_not, decide_eq_true_eq]; (first | lia | omega))) ?_) | (refine ite_neg (by (simp only [beq_iff_eq, bne_iff_ne, ne_eq, Classical.not_not, decide_eq_true_eq]; (first | lia | omega))) ?_))) | ((with_reducible show wpAny _ _ (call (Value.builtin "list.append") _ _) _ _ _); (k_here; (with_reducible show wpAny _ _ (call (Value.builtin _) [Value.ref _, _]) _ _ _); k_dflt (refine' my_append ?zzk1 ?zzk2 ?zzk3 ?zzk4 ?_; (case zzk1 => k_asm); (case zzk2 => k_asm); (case zzk3 => assumption); (case zzk4 => (simp only [List.length_append, List.length_singleton]; (first | lia | omega)))); intro zh zF zN; (try k_sweep))) | ((with_reducible show wpAny _ _ (setItem _ _ _) _ _ _); (k_here; (try dsimp only); k_dflt (refine' my_setlast ?zzF ?zzN ?zzh ?_; (case zzF => k_asm); (case zzN => k_asm); (case zzh => assumption)); intro zh zF zN; (try k_sweep))) | ((with_reducible show wpAny _ _ (getItem _ _) _ _ _); (k_here; (try dsimp only); (with_reducible show wpAny _ _ (getItem (Value.ref _) (Value.int _ _)) _ _ _); k_dflt (refine' my_getlast ?zzN ?zzm ?_; (case zzN => k_asm); (case zzm => walk_at "my mem")))) | ((with_reducible show wpAny _ _ (eval (Expr.ListComp _ _ _ _) _) _ _ _); (refine Park.out ?_)) | ((with_reducible show wpAny _ _ (call (Value.ref _) _ _) _ _ _); ((with_reducible show wpAny _ _ (call (Value.ref 109) _ _) _ _ _); refine Park.out ?_)) | ((with_reducible show wpAny _ _ (call (Value.builtin "list.append") _ _) _ _ _); (k_here; (with_reducible show wpAny _ _ (call _ [Value.ref _, _]) _ _ _); k_dflt (refine my_append (by k_asm) (by k_asm) (by assumption) (by first | lia | omega) ?_); intro zh zF zN; (try k_sweep))) | ((with_reducible show TurnEnds _ _ _ _ _ _ _ _ _ _ _); (refine Park.out ?_)) | ((with_reducible show TurnPost _ _ _ _ _ _ _ _ _ _ _ _ _); (dsimp only [TurnPost])) | ((with_reducible show wpAny _ _ (pyIter (Value.ref _)) _ _ _); (refine Park.out ?_)) | ((with_reducible show wpAny _ _ (exec (Stmt.For (Expr.Name _ _) (Expr.Name _ _) _ _ _) _) _ _ _); ((k_here; (rename Fr _ _ _ _ => zlF); (with_unfolding_all refine' For_invVF zlF ?zzk1 ?zzk2 ?_; (case zzk1 => exact rfl); (case zzk2 => exact rfl); k_whole)))) | (with_reducible refine nxR ?_) | (with_reducible refine nxN ?_) | (with_reducible refine nxB ?_) | (with_reducible refine nxK ?_) | (with_reducible refine exN ?_) | (with_reducible refine exA ?zzhs ?_; (case zzhs => k_dflt (exact (rfl : (pure false : Sem Bool) = pure false))); intro zqk) | (with_reducible refine exI ?_; intro zqk) | (with_reducible refine exR ?_) | (with_reducible refine exG ?_; intro zqk) | (with_reducible refine exC ?_; intro zqk) | ((with_reducible show wpAny _ _ (eval (Expr.Name _ _) _) _ _ _); k_dflt (refine' nmL ?zzF ?zzv (rfl : true = true) ?zzl ?_; (case zzF => k_asm); (case zzl => exact rfl); (case zzv => exact (rfl : some _ = some _)); k_whole)) | ((with_reducible show wpAny _ _ (storeName _ _ _) _ _ _); k_dflt (refine' stY ?zzF ?zzN (rfl : true = true) ?zzl ?_; (case zzF => k_asm); (case zzN => k_asm); (case zzl => exact rfl); k_whole); intro zh zt zF zN; (try k_sweep)) | k_unfold | walk1 | (dsimp only; walk1) | leave1))
    refine Park.mk ?_
    (rename Fr _ _ _ _ => F7); (rename News _ _ _ _ => N7)
    refine exC ?_
    intro q3
    refine join2 (fun a b t k => (_, listOf (a ++ [Value.str (S b) t]).toArray k) :: _) (fun a b => Drw3 num ci cl1 ct a b) ci cl1 ct ck F7 N7 ?w3 ?_
    case w3 =>
      refine wpAny_If ?_
      refine join1 (fun b => b = true ↔ Int.fmod num 8 = 1 ∨ Int.fmod num 8 = 3 ∨ Int.fmod num 8 = 6) F7 N7 ?wb ?_
      case wb =>
        (repeat' (first | ((with_reducible show LCt.CompSrcT _ _ _ _ _ _ _ _ _ _ _ _ _ _ _); (refine Park.out ?_)) | ((with_reducible show wpAny _ _ (eval (Expr.IfExp _ _ _ _) _) _ _ _); (refine Park.out ?_)) | ((with_reducible show wpAny _ _ (execs (Stmt.If _ _ _ _ :: _) _) _ _ _); (refine Park.out ?_)) | ((with_reducible show @ite _ _ _ _ _); (k_here; first | (refine ite_pos (by (simp only [beq_iff_eq, bne_iff_ne, ne_eq, Classical.not_not, decide_eq_true_eq]; (first | lia | omega))) ?_) | (refine ite_neg (by (simp only [beq_iff_eq, bne_iff_ne, ne_eq, Classical.not_not, decide_eq_true_eq]; (first | lia | omega))) ?_))) | ((with_reducible show wpAny _ _ (call (Value.builtin "list.append") _ _) _ _ _); (k_here; (with_reducible show wpAny _ _ (call (Value.builtin _) [Value.ref _, _]) _ _ _); k_dflt (refine' my_append ?zzk1 ?zzk2 ?zzk3 ?zzk4 ?_; (case zzk1 => k_asm); (case zzk2 => k_asm); (case zzk3 => assumption); (case zzk4 => (simp only [List.length_append, List.length_singleton]; (first | lia | omega)))); intro zh zF zN; (try k_sweep))) | ((with_reducible show wpAny _ _ (setItem _ _ _) _ _ _); (k_here; (try dsimp only); k_dflt (refine' my_setlast ?zzF ?zzN ?zzh ?_; (case zzF => k_asm); (case zzN => k_asm); (case zzh => assumption)); intro zh zF zN; (try k_sweep))) | ((with_reducible show wpAny _ _ (getItem _ _) _ _ _); (k_here; (try dsimp only); (with_reducible show wpAny _ _ (getItem (Value.ref _) (Value.int _ _)) _ _ _); k_dflt (refine' my_getlast ?zzN ?zzm ?_; (case zzN => k_asm); (case zzm => walk_at "my mem")))) | ((with_reducible show wpAny _ _ (eval (Expr.ListComp _ _ _ _) _) _ _ _); (refine Park.out ?_)) | ((with_reducible show wpAny _ _ (call (Value.ref _) _ _) _ _ _); ((with_reducible show wpAny _ _ (call (Value.ref 109) _ _) _ _ _); refine Park.out ?_)) | ((with_reducible show wpAny _ _ (call (Value.builtin "list.append") _ _) _ _ _); (k_here; (with_reducible show wpAny _ _ (call _ [Value.ref _, _]) _ _ _); k_dflt (refine my_append (by k_asm) (by k_asm) (by assumption) (by first | lia | omega) ?_); intro zh zF zN; (try k_sweep))) | ((with_reducible show TurnEnds _ _ _ _ _ _ _ _ _ _ _); (refine Park.out ?_)) | ((with_reducible show TurnPost _ _ _ _ _ _ _ _ _ _ _ _ _); (dsimp only [TurnPost])) | ((with_reducible show wpAny _ _ (pyIter (Value.ref _)) _ _ _); (refine Park.out ?_)) | ((with_reducible show wpAny _ _ (exec (Stmt.For (Expr.Name _ _) (Expr.Name _ _) _ _ _) _) _ _ _); ((k_here; (rename Fr _ _ _ _ => zlF); (with_unfolding_all refine' For_invVF zlF ?zzk1 ?zzk2 ?_; (case zzk1 => exact rfl); (case zzk2 => exact rfl); k_whole)))) | (with_reducible refine nxR ?_) | (with_reducible refine nxN ?_) | (with_reducible refine nxB ?_) | (with_reducible refine nxK ?_) | (with_reducible refine exN ?_) | (with_reducible refine exA ?zzhs ?_; (case zzhs => k_dflt (exact (rfl : (pure false : Sem Bool) = pure false))); intro zqk) | (with_reducible refine exI ?_; intro zqk) | (with_reducible refine exR ?_) | (with_reducible refine exG ?_; intro zqk) | (with_reducible refine exC ?_; intro zqk) | ((with_reducible show wpAny _ _ (eval (Expr.Name _ _) _) _ _ _); k_dflt (refine' nmL ?zzF ?zzv (rfl : true = true) ?zzl ?_; (case zzF => k_asm); (case zzl => exact rfl); (case zzv => exact (rfl : some _ = some _)); k_whole)) | ((with_reducible show wpAny _ _ (storeName _ _ _) _ _ _); k_dflt (refine' stY ?zzF ?zzN (rfl : true = true) ?zzl ?_; (case zzF => k_asm); (case zzN => k_asm); (case zzl => exact rfl); k_whole); intro zh zt zF zN; (try k_sweep)) | k_unfold | walk1 | (dsimp only; walk1) | leave1))
        all_goals exact JS.mk (by simp only [decide_eq_true_eq, beq_iff_eq, bne_iff_ne, ne_eq, Bool.false_eq_true, Bool.true_eq_false, false_iff, true_iff]; (first | lia | omega)) (by assumption) (by assumption)
      intro b h1 tk1 hb F8 N8
      clear F7 N7
      cases b with
      | true =>
        refine ite_pos rfl ?_
        (repeat' (first | ((with_reducible show LCt.CompSrcT _ _ _ _ _ _ _ _ _ _ _ _ _ _ _); (refine Park.out ?_)) | ((with_reducible show wpAny _ _ (eval (Expr.IfExp _ _ _ _) _) _ _ _); (refine Park.out ?_)) | ((with_reducible show wpAny _ _ (execs (Stmt.If _ _ _ _ :: _) _) _ _ _); (refine Park.out ?_)) | ((with_reducible show @ite _ _ _ _ _); (k_here; first | (refine ite_pos (by (simp only [beq_iff_eq, bne_iff_ne, ne_eq, Classical.not_not, decide_eq_true_eq]; (first | lia | omega))) ?_) | (refine ite_neg (by (simp only [beq_iff_eq, bne_iff_ne, ne_eq, Classical.not_not, decide_eq_true_eq]; (first | lia | omega))) ?_))) | ((with_reducible show wpAny _ _ (call (Value.builtin "list.append") _ _) _ _ _); (k_here; (with_reducible show wpAny _ _ (call (Value.builtin _) [Value.ref _, _]) _ _ _); k_dflt (refine' my_append ?zzk1 ?zzk2 ?zzk3 ?zzk4 ?_; (case zzk1 => k_asm); (case zzk2 => k_asm); (case zzk3 => assumption); (case zzk4 => (simp only [List.length_append, List.length_singleton]; (first | lia | omega)))); intro zh zF zN; (try k_sweep))) | ((with_reducible show wpAny _ _ (setItem _ _ _) _ _ _); (k_here; (try dsimp only); k_dflt (refine' my_setlast ?zzF ?zzN ?zzh ?_; (case zzF => k_asm); (case zzN => k_asm); (case zzh => assumption)); intro zh zF zN; (try k_sweep))) | ((with_reducible show wpAny _ _ (getItem _ _) _ _ _); (k_here; (try dsimp only); (with_reducible show wpAny _ _ (getItem (Value.ref _) (Value.int _ _)) _ _ _); k_dflt (refine' my_getlast ?zzN ?zzm ?_; (case zzN => k_asm); (case zzm => walk_at "my mem")))) | ((with_reducible show wpAny _ _ (eval (Expr.ListComp _ _ _ _) _) _ _ _); (refine Park.out ?_)) | ((with_reducible show wpAny _ _ (call (Value.ref _) _ _) _ _ _); ((with_reducible show wpAny _ _ (call (Value.ref 109) _ _) _ _ _); refine Park.out ?_)) | ((with_reducible show wpAny _ _ (call (Value.builtin "list.append") _ _) _ _ _); (k_here; (with_reducible show wpAny _ _ (call _ [Value.ref _, _]) _ _ _); k_dflt (refine my_append (by k_asm) (by k_asm) (by assumption) (by first | lia | omega) ?_); intro zh zF zN; (try k_sweep))) | ((with_reducible show TurnEnds _ _ _ _ _ _ _ _ _ _ _); (refine Park.out ?_)) | ((with_reducible show TurnPost _ _ _ _ _ _ _ _ _ _ _ _ _); (dsimp only [TurnPost])) | ((with_reducible show wpAny _ _ (pyIter (Value.ref _)) _ _ _); (refine Park.out ?_)) | ((with_reducible show wpAny _ _ (exec (Stmt.For (Expr.Name _ _) (Expr.Name _ _) _ _ _) _) _ _ _); ((k_here; (rename Fr _ _ _ _ => zlF); (with_unfolding_all refine' For_invVF zlF ?zzk1 ?zzk2 ?_; (case zzk1 => exact rfl); (case zzk2 => exact rfl); k_whole)))) | (with_reducible refine nxR ?_) | (with_reducible refine nxN ?_) | (with_reducible refine nxB ?_) | (with_reducible refine nxK ?_) | (with_reducible refine exN ?_) | (with_reducible refine exA ?zzhs ?_; (case zzhs => k_dflt (exact (rfl : (pure false : Sem Bool) = pure false))); intro zqk) | (with_reducible refine exI ?_; intro zqk) | (with_reducible refine exR ?_) | (with_reducible refine exG ?_; intro zqk) | (with_reducible refine exC ?_; intro zqk) | ((with_reducible show wpAny _ _ (eval (Expr.Name _ _) _) _ _ _); k_dflt (refine' nmL ?zzF ?zzv (rfl : true = true) ?zzl ?_; (case zzF => k_asm); (case zzl => exact rfl); (case zzv => exact (rfl : some _ = some _)); k_whole)) | ((with_reducible show wpAny _ _ (storeName _ _ _) _ _ _); k_dflt (refine' stY ?zzF ?zzN (rfl : true = true) ?zzl ?_; (case zzF => k_asm); (case zzN => k_asm); (case zzl => exact rfl); k_whole); intro zh zt zF zN; (try k_sweep)) | k_unfold | walk1 | (dsimp only; walk1) | leave1))
        rename News _ _ _ _ => N9
        rw [e_lit] at N9
        exact JF.mk (ci ++ [Value.str (S cl1) ct]) [] (.inl ⟨hb.mp rfl, rfl, rfl⟩) (by assumption) N9
      | false =>
        refine ite_neg (by decide) ?_
        (repeat' (first | ((with_reducible show LCt.CompSrcT _ _ _ _ _ _ _ _ _ _ _ _ _ _ _); (refine Park.out ?_)) | ((with_reducible show wpAny _ _ (eval (Expr.IfExp _ _ _ _) _) _ _ _); (refine Park.out ?_)) | ((with_reducible show wpAny _ _ (execs (Stmt.If _ _ _ _ :: _) _) _ _ _); (refine Park.out ?_)) | ((with_reducible show @ite _ _ _ _ _); (k_here; first | (refine ite_pos (by (simp only [beq_iff_eq, bne_iff_ne, ne_eq, Classical.not_not, decide_eq_true_eq]; (first | lia | omega))) ?_) | (refine ite_neg (by (simp only [beq_iff_eq, bne_iff_ne, ne_eq, Classical.not_not, decide_eq_true_eq]; (first | lia | omega))) ?_))) | ((with_reducible show wpAny _ _ (call (Value.builtin "list.append") _ _) _ _ _); (k_here; (with_reducible show wpAny _ _ (call (Value.builtin _) [Value.ref _, _]) _ _ _); k_dflt (refine' my_append ?zzk1 ?zzk2 ?zzk3 ?zzk4 ?_; (case zzk1 => k_asm); (case zzk2 => k_asm); (case zzk3 => assumption); (case zzk4 => (simp only [List.length_append, List.length_singleton]; (first | lia | omega)))); intro zh zF zN; (try k_sweep))) | ((with_reducible show wpAny _ _ (setItem _ _ _) _ _ _); (k_here; (try dsimp only); k_dflt (refine' my_setlast ?zzF ?zzN ?zzh ?_; (case zzF => k_asm); (case zzN => k_asm); (case zzh => assumption)); intro zh zF zN; (try k_sweep))) | ((with_reducible show wpAny _ _ (getItem _ _) _ _ _); (k_here; (try dsimp only); (with_reducible show wpAny _ _ (getItem (Value.ref _) (Value.int _ _)) _ _ _); k_dflt (refine' my_getlast ?zzN ?zzm ?_; (case zzN => k_asm); (case zzm => walk_at "my mem")))) | ((with_reducible show wpAny _ _ (eval (Expr.ListComp _ _ _ _) _) _ _ _); (refine Park.out ?_)) | ((with_reducible show wpAny _ _ (call (Value.ref _) _ _) _ _ _); ((with_reducible show wpAny _ _ (call (Value.ref 109) _ _) _ _ _); refine Park.out ?_)) | ((with_reducible show wpAny _ _ (call (Value.builtin "list.append") _ _) _ _ _); (k_here; (with_reducible show wpAny _ _ (call _ [Value.ref _, _]) _ _ _); k_dflt (refine my_append (by k_asm) (by k_asm) (by assumption) (by first | lia | omega) ?_); intro zh zF zN; (try k_sweep))) | ((with_reducible show TurnEnds _ _ _ _ _ _ _ _ _ _ _); (refine Park.out ?_)) | ((with_reducible show TurnPost _ _ _ _ _ _ _ _ _ _ _ _ _); (dsimp only [TurnPost])) | ((with_reducible show wpAny _ _ (pyIter (Value.ref _)) _ _ _); (refine Park.out ?_)) | ((with_reducible show wpAny _ _ (exec (Stmt.For (Expr.Name _ _) (Expr.Name _ _) _ _ _) _) _ _ _); ((k_here; (rename Fr _ _ _ _ => zlF); (with_unfolding_all refine' For_invVF zlF ?zzk1 ?zzk2 ?_; (case zzk1 => exact rfl); (case zzk2 => exact rfl); k_whole)))) | (with_reducible refine nxR ?_) | (with_reducible refine nxN ?_) | (with_reducible refine nxB ?_) | (with_reducible refine nxK ?_) | (with_reducible refine exN ?_) | (with_reducible refine exA ?zzhs ?_; (case zzhs => k_dflt (exact (rfl : (pure false : Sem Bool) = pure false))); intro zqk) | (with_reducible refine exI ?_; intro zqk) | (with_reducible refine exR ?_) | (with_reducible refine exG ?_; intro zqk) | (with_reducible refine exC ?_; intro zqk) | ((with_reducible show wpAny _ _ (eval (Expr.Name _ _) _) _ _ _); k_dflt (refine' nmL ?zzF ?zzv (rfl : true = true) ?zzl ?_; (case zzF => k_asm); (case zzl => exact rfl); (case zzv => exact (rfl : some _ = some _)); k_whole)) | ((with_reducible show wpAny _ _ (storeName _ _ _) _ _ _); k_dflt (refine' stY ?zzF ?zzN (rfl : true = true) ?zzl ?_; (case zzF => k_asm); (case zzN => k_asm); (case zzl => exact rfl); k_whole); intro zh zt zF zN; (try k_sweep)) | k_unfold | walk1 | (dsimp only; walk1) | leave1))
        exact JF.mk ci cl1 (.inr ⟨fun e => Bool.noConfusion (hb.mpr e), rfl, rfl⟩) F8 N8
    intro ci3 cl3 ct3 ck3 h1 tk1 hP3 F8 N8
    clear F7 N7
    have hl3 : (S cl3).length ≤ 10 := hP3.len hll
    (repeat' (first | ((with_reducible show LCt.CompSrcT _ _ _ _ _ _ _ _ _ _ _ _ _ _ _); (refine Park.out ?_)) | ((with_reducible show wpAny _ _ (eval (Expr.IfExp _ _ _ _) _) _ _ _); (refine Park.out ?_)) | ((with_reducible show wpAny _ _ (execs (Stmt.If _ _ _ _ :: _) _) _ _ _); (refine Park.out ?_)) | ((with_reducible show @ite _ _ _ _ _); (k_here; first | (refine ite_pos (by (simp only [beq_iff_eq, bne_iff_ne, ne_eq, Classical.not_not, decide_eq_true_eq]; (first | lia | omega))) ?_) | (refine ite_neg (by (simp only [beq_iff_eq, bne_iff_ne, ne_eq, Classical.not_not, decide_eq_true_eq]; (first | lia | omega))) ?_))) | ((with_reducible show wpAny _ _ (call (Value.builtin "list.append") _ _) _ _ _); (k_here; (with_reducible show wpAny _ _ (call (Value.builtin _) [Value.ref _, _]) _ _ _); k_dflt (refine' my_append ?zzk1 ?zzk2 ?zzk3 ?zzk4 ?_; (case zzk1 => k_asm); (case zzk2 => k_asm); (case zzk3 => assumption); (case zzk4 => (simp only [List.length_append, List.length_singleton]; (first | lia | omega)))); intro zh zF zN; (try k_sweep))) | ((with_reducible show wpAny _ _ (setItem _ _ _) _ _ _); (k_here; (try dsimp only); k_dflt (refine' my_setlast ?zzF ?zzN ?zzh ?_; (case zzF => k_asm); (case zzN => k_asm); (case zzh => assumption)); intro zh zF zN; (try k_sweep))) | ((with_reducible show wpAny _ _ (getItem _ _) _ _ _); (k_here; (try dsimp only); (with_reducible show wpAny _ _ (getItem (Value.ref _) (Value.int _ _)) _ _ _); k_dflt (refine' my_getlast ?zzN ?zzm ?_; (case zzN => k_asm); (case zzm => walk_at "my mem")))) | ((with_reducible show wpAny _ _ (eval (Expr.ListComp _ _ _ _) _) _ _ _); (refine Park.out ?_)) | ((with_reducible show wpAny _ _ (call (Value.ref _) _ _) _ _ _); ((with_reducible show wpAny _ _ (call (Value.ref 109) _ _) _ _ _); refine Park.out ?_)) | ((with_reducible show wpAny _ _ (call (Value.builtin "list.append") _ _) _ _ _); (k_here; (with_reducible show wpAny _ _ (call _ [Value.ref _, _]) _ _ _); k_dflt (refine my_append (by k_asm) (by k_asm) (by assumption) (by first | lia | omega) ?_); intro zh zF zN; (try k_sweep))) | ((with_reducible show TurnEnds _ _ _ _ _ _ _ _ _ _ _); (refine Park.out ?_)) | ((with_reducible show TurnPost _ _ _ _ _ _ _ _ _ _ _ _ _); (dsimp only [TurnPost])) | ((with_reducible show wpAny _ _ (pyIter (Value.ref _)) _ _ _); (refine Park.out ?_)) | ((with_reducible show wpAny _ _ (exec (Stmt.For (Expr.Name _ _) (Expr.Name _ _) _ _ _) _) _ _ _); ((k_here; (rename Fr _ _ _ _ => zlF); (with_unfolding_all refine' For_invVF zlF ?zzk1 ?zzk2 ?_; (case zzk1 => exact rfl); (case zzk2 => exact rfl); k_whole)))) | (with_reducible refine nxR ?_) | (with_reducible refine nxN ?_) | (with_reducible refine nxB ?_) | (with_reducible refine nxK ?_) | (with_reducible refine exN ?_) | (with_reducible refine exA ?zzhs ?_; (case zzhs => k_dflt (exact (rfl : (pure false : Sem Bool) = pure false))); intro zqk) | (with_reducible refine exI ?_; intro zqk) | (with_reducible refine exR ?_) | (with_reducible refine exG ?_; intro zqk) | (with_reducible refine exC ?_; intro zqk) | ((with_reducible show wpAny _ _ (eval (Expr.Name _ _) _) _ _ _); k_dflt (refine' nmL ?zzF ?zzv (rfl : true = true) ?zzl ?_; (case zzF => k_asm); (case zzl => exact rfl); (case zzv => exact (rfl : some _ = some _)); k_whole)) | ((with_reducible show wpAny _ _ (storeName _ _ _) _ _ _); k_dflt (refine' stY ?zzF ?zzN (rfl : true = true) ?zzl ?_; (case zzF => k_asm); (case zzN => k_asm); (case zzl => exact rfl); k_whole); intro zh zt zF zN; (try k_sweep)) | k_unfold | walk1 | (dsimp only; walk1) | leave1))
    refine Park.mk ?_
    refine exC ?_
    intro q4
    refine join2 (fun a b t k => (_, listOf (a ++ [Value.str (S b) t]).toArray k) :: _) (fun a b => Drw4 num ci3 cl3 a b) ci3 cl3 ct3 ck3 F8 N8 ?w4 ?_
    case w4 =>
      refine wpAny_If ?_
      refine join1 (fun b => b = true ↔ Int.fmod num 8 ≠ 2 ∧ Int.fmod num 8 ≠ 4) F8 N8 ?wb ?_
      case wb =>
        (repeat' (first | ((with_reducible show LCt.CompSrcT _ _ _ _ _ _ _ _ _ _ _ _ _ _ _); (refine Park.out ?_)) | ((with_reducible show wpAny _ _ (eval (Expr.IfExp _ _ _ _) _) _ _ _); (refine Park.out ?_)) | ((with_reducible show wpAny _ _ (execs (Stmt.If _ _ _ _ :: _) _) _ _ _); (refine Park.out ?_)) | ((with_reducible show @ite _ _ _ _ _); (k_here; first | (refine ite_pos (by (simp only [beq_iff_eq, bne_iff_ne, ne_eq, Classical.not_not, decide_eq_true_eq]; (first | lia | omega))) ?_) | (refine ite_neg (by (simp only [beq_iff_eq, bne_iff_ne, ne_eq, Classical.not_not, decide_eq_true_eq]; (first | lia | omega))) ?_))) | ((with_reducible show wpAny _ _ (call (Value.builtin "list.append") _ _) _ _ _); (k_here; (with_reducible show wpAny _ _ (call (Value.builtin _) [Value.ref _, _]) _ _ _); k_dflt (refine' my_append ?zzk1 ?zzk2 ?zzk3 ?zzk4 ?_; (case zzk1 => k_asm); (case zzk2 => k_asm); (case zzk3 => assumption); (case zzk4 => (simp only [List.length_append, List.length_singleton]; (first | lia | omega)))); intro zh zF zN; (try k_sweep))) | ((with_reducible show wpAny _ _ (setItem _ _ _) _ _ _); (k_here; (try dsimp only); k_dflt (refine' my_setlast ?zzF ?zzN ?zzh ?_; (case zzF => k_asm); (case zzN => k_asm); (case zzh => assumption)); intro zh zF zN; (try k_sweep))) | ((with_reducible show wpAny _ _ (getItem _ _) _ _ _); (k_here; (try dsimp only); (with_reducible show wpAny _ _ (getItem (Value.ref _) (Value.int _ _)) _ _ _); k_dflt (refine' my_getlast ?zzN ?zzm ?_; (case zzN => k_asm); (case zzm => walk_at "my mem")))) | ((with_reducible show wpAny _ _ (eval (Expr.ListComp _ _ _ _) _) _ _ _); (refine Park.out ?_)) | ((with_reducible show wpAny _ _ (call (Value.ref _) _ _) _ _ _); ((with_reducible show wpAny _ _ (call (Value.ref 109) _ _) _ _ _); refine Park.out ?_)) | ((with_reducible show wpAny _ _ (call (Value.builtin "list.append") _ _) _ _ _); (k_here; (with_reducible show wpAny _ _ (call _ [Value.ref _, _]) _ _ _); k_dflt (refine my_append (by k_asm) (by k_asm) (by assumption) (by first | lia | omega) ?_); intro zh zF zN; (try k_sweep))) | ((with_reducible show TurnEnds _ _ _ _ _ _ _ _ _ _ _); (refine Park.out ?_)) | ((with_reducible show TurnPost _ _ _ _ _ _ _ _ _ _ _ _ _); (dsimp only [TurnPost])) | ((with_reducible show wpAny _ _ (pyIter (Value.ref _)) _ _ _); (refine Park.out ?_)) | ((with_reducible show wpAny _ _ (exec (Stmt.For (Expr.Name _ _) (Expr.Name _ _) _ _ _) _) _ _ _); ((k_here; (rename Fr _ _ _ _ => zlF); (with_unfolding_all refine' For_invVF zlF ?zzk1 ?zzk2 ?_; (case zzk1 => exact rfl); (case zzk2 => exact rfl); k_whole)))) | (with_reducible refine nxR ?_) | (with_reducible refine nxN ?_) | (with_reducible refine nxB ?_) | (with_reducible refine nxK ?_) | (with_reducible refine exN ?_) | (with_reducible refine exA ?zzhs ?_; (case zzhs => k_dflt (exact (rfl : (pure false : Sem Bool) = pure false))); intro zqk) | (with_reducible refine exI ?_; intro zqk) | (with_reducible refine exR ?_) | (with_reducible refine exG ?_; intro zqk) | (with_reducible refine exC ?_; intro zqk) | ((with_reducible show wpAny _ _ (eval (Expr.Name _ _) _) _ _ _); k_dflt (refine' nmL ?zzF ?zzv (rfl : true = true) ?zzl ?_; (case zzF => k_asm); (case zzl => exact rfl); (case zzv => exact (rfl : some _ = some _)); k_whole)) | ((with_reducible show wpAny _ _ (storeName _ _ _) _ _ _); k_dflt (refine' stY ?zzF ?zzN (rfl : true = true) ?zzl ?_; (case zzF => k_asm); (case zzN => k_asm); (case zzl => exact rfl); k_whole); intro zh zt zF zN; (try k_sweep)) | k_unfold | walk1 | (dsimp only; walk1) | leave1))
        all_goals exact JS.mk (by simp only [decide_eq_true_eq, beq_iff_eq, bne_iff_ne, ne_eq, Bool.false_eq_true, Bool.true_eq_false, false_iff, true_iff]; (first | lia | omega)) (by assumption) (by assumption)
      intro b h1 tk1 hb F9 N9
      clear F8 N8
      cases b with
      | true =>
        refine ite_pos rfl ?_
        (repeat' (first | ((with_reducible show LCt.CompSrcT _ _ _ _ _ _ _ _ _ _ _ _ _ _ _); (refine Park.out ?_)) | ((with_reducible show wpAny _ _ (eval (Expr.IfExp _ _ _ _) _) _ _ _); (refine Park.out ?_)) | ((with_reducible show wpAny _ _ (execs (Stmt.If _ _ _ _ :: _) _) _ _ _); (refine Park.out ?_)) | ((with_reducible show @ite _ _ _ _ _); (k_here; first | (refine ite_pos (by (simp only [beq_iff_eq, bne_iff_ne, ne_eq, Classical.not_not, decide_eq_true_eq]; (first | lia | omega))) ?_) | (refine ite_neg (by (simp only [beq_iff_eq, bne_iff_ne, ne_eq, Classical.not_not, decide_eq_true_eq]; (first | lia | omega))) ?_))) | ((with_reducible show wpAny _ _ (call (Value.builtin "list.append") _ _) _ _ _); (k_here; (with_reducible show wpAny _ _ (call (Value.builtin _) [Value.ref _, _]) _ _ _); k_dflt (refine' my_append ?zzk1 ?zzk2 ?zzk3 ?zzk4 ?_; (case zzk1 => k_asm); (case zzk2 => k_asm); (case zzk3 => assumption); (case zzk4 => (simp only [List.length_append, List.length_singleton]; (first | lia | omega)))); intro zh zF zN; (try k_sweep))) | ((with_reducible show wpAny _ _ (setItem _ _ _) _ _ _); (k_here; (try dsimp only); k_dflt (refine' my_setlast ?zzF ?zzN ?zzh ?_; (case zzF => k_asm); (case zzN => k_asm); (case zzh => assumption)); intro zh zF zN; (try k_sweep))) | ((with_reducible show wpAny _ _ (getItem _ _) _ _ _); (k_here; (try dsimp only); (with_reducible show wpAny _ _ (getItem (Value.ref _) (Value.int _ _)) _ _ _); k_dflt (refine' my_getlast ?zzN ?zzm ?_; (case zzN => k_asm); (case zzm => walk_at "my mem")))) | ((with_reducible show wpAny _ _ (eval (Expr.ListComp _ _ _ _) _) _ _ _); (refine Park.out ?_)) | ((with_reducible show wpAny _ _ (call (Value.ref _) _ _) _ _ _); ((with_reducible show wpAny _ _ (call (Value.ref 109) _ _) _ _ _); refine Park.out ?_)) | ((with_reducible show wpAny _ _ (call (Value.builtin "list.append") _ _) _ _ _); (k_here; (with_reducible show wpAny _ _ (call _ [Value.ref _, _]) _ _ _); k_dflt (refine my_append (by k_asm) (by k_asm) (by assumption) (by first | lia | omega) ?_); intro zh zF zN; (try k_sweep))) | ((with_reducible show TurnEnds _ _ _ _ _ _ _ _ _ _ _); (refine Park.out ?_)) | ((with_reducible show TurnPost _ _ _ _ _ _ _ _ _ _ _ _ _); (dsimp only [TurnPost])) | ((with_reducible show wpAny _ _ (pyIter (Value.ref _)) _ _ _); (refine Park.out ?_)) | ((with_reducible show wpAny _ _ (exec (Stmt.For (Expr.Name _ _) (Expr.Name _ _) _ _ _) _) _ _ _); ((k_here; (rename Fr _ _ _ _ => zlF); (with_unfolding_all refine' For_invVF zlF ?zzk1 ?zzk2 ?_; (case zzk1 => exact rfl); (case zzk2 => exact rfl); k_whole)))) | (with_reducible refine nxR ?_) | (with_reducible refine nxN ?_) | (with_reducible refine nxB ?_) | (with_reducible refine nxK ?_) | (with_reducible refine exN ?_) | (with_reducible refine exA ?zzhs ?_; (case zzhs => k_dflt (exact (rfl : (pure false : Sem Bool) = pure false))); intro zqk) | (with_reducible refine exI ?_; intro zqk) | (with_reducible refine exR ?_) | (with_reducible refine exG ?_; intro zqk) | (with_reducible refine exC ?_; intro zqk) | ((with_reducible show wpAny _ _ (eval (Expr.Name _ _) _) _ _ _); k_dflt (refine' nmL ?zzF ?zzv (rfl : true = true) ?zzl ?_; (case zzF => k_asm); (case zzl => exact rfl); (case zzv => exact (rfl : some _ = some _)); k_whole)) | ((with_reducible show wpAny _ _ (storeName _ _ _) _ _ _); k_dflt (refine' stY ?zzF ?zzN (rfl : true = true) ?zzl ?_; (case zzF => k_asm); (case zzN => k_asm); (case zzl => exact rfl); k_whole); intro zh zt zF zN; (try k_sweep)) | k_unfold | walk1 | (dsimp only; walk1) | leave1))
        rename News _ _ _ _ => N5
        rw [S_app] at N5
        exact JF.mk ci3 (cl3 ++ [drawSign num]) (.inl ⟨hb.mp rfl, rfl, rfl⟩) (by assumption) N5
      | false =>
        refine ite_neg (by decide) ?_
        (repeat' (first | ((with_reducible show LCt.CompSrcT _ _ _ _ _ _ _ _ _ _ _ _ _ _ _); (refine Park.out ?_)) | ((with_reducible show wpAny _ _ (eval (Expr.IfExp _ _ _ _) _) _ _ _); (refine Park.out ?_)) | ((with_reducible show wpAny _ _ (execs (Stmt.If _ _ _ _ :: _) _) _ _ _); (refine Park.out ?_)) | ((with_reducible show @ite _ _ _ _ _); (k_here; first | (refine ite_pos (by (simp only [beq_iff_eq, bne_iff_ne, ne_eq, Classical.not_not, decide_eq_true_eq]; (first | lia | omega))) ?_) | (refine ite_neg (by (simp only [beq_iff_eq, bne_iff_ne, ne_eq, Classical.not_not, decide_eq_true_eq]; (first | lia | omega))) ?_))) | ((with_reducible show wpAny _ _ (call (Value.builtin "list.append") _ _) _ _ _); (k_here; (with_reducible show wpAny _ _ (call (Value.builtin _) [Value.ref _, _]) _ _ _); k_dflt (refine' my_append ?zzk1 ?zzk2 ?zzk3 ?zzk4 ?_; (case zzk1 => k_asm); (case zzk2 => k_asm); (case zzk3 => assumption); (case zzk4 => (simp only [List.length_append, List.length_singleton]; (first | lia | omega)))); intro zh zF zN; (try k_sweep))) | ((with_reducible show wpAny _ _ (setItem _ _ _) _ _ _); (k_here; (try dsimp only); k_dflt (refine' my_setlast ?zzF ?zzN ?zzh ?_; (case zzF => k_asm); (case zzN => k_asm); (case zzh => assumption)); intro zh zF zN; (try k_sweep))) | ((with_reducible show wpAny _ _ (getItem _ _) _ _ _); (k_here; (try dsimp only); (with_reducible show wpAny _ _ (getItem (Value.ref _) (Value.int _ _)) _ _ _); k_dflt (refine' my_getlast ?zzN ?zzm ?_; (case zzN => k_asm); (case zzm => walk_at "my mem")))) | ((with_reducible show wpAny _ _ (eval (Expr.ListComp _ _ _ _) _) _ _ _); (refine Park.out ?_)) | ((with_reducible show wpAny _ _ (call (Value.ref _) _ _) _ _ _); ((with_reducible show wpAny _ _ (call (Value.ref 109) _ _) _ _ _); refine Park.out ?_)) | ((with_reducible show wpAny _ _ (call (Value.builtin "list.append") _ _) _ _ _); (k_here; (with_reducible show wpAny _ _ (call _ [Value.ref _, _]) _ _ _); k_dflt (refine my_append (by k_asm) (by k_asm) (by assumption) (by first | lia | omega) ?_); intro zh zF zN; (try k_sweep))) | ((with_reducible show TurnEnds _ _ _ _ _ _ _ _ _ _ _); (refine Park.out ?_)) | ((with_reducible show TurnPost _ _ _ _ _ _ _ _ _ _ _ _ _); (dsimp only [TurnPost])) | ((with_reducible show wpAny _ _ (pyIter (Value.ref _)) _ _ _); (refine Park.out ?_)) | ((with_reducible show wpAny _ _ (exec (Stmt.For (Expr.Name _ _) (Expr.Name _ _) _ _ _) _) _ _ _); ((k_here; (rename Fr _ _ _ _ => zlF); (with_unfolding_all refine' For_invVF zlF ?zzk1 ?zzk2 ?_; (case zzk1 => exact rfl); (case zzk2 => exact rfl); k_whole)))) | (with_reducible refine nxR ?_) | (with_reducible refine nxN ?_) | (with_reducible refine nxB ?_) | (with_reducible refine nxK ?_) | (with_reducible refine exN ?_) | (with_reducible refine exA ?zzhs ?_; (case zzhs => k_dflt (exact (rfl : (pure false : Sem Bool) = pure false))); intro zqk) | (with_reducible refine exI ?_; intro zqk) | (with_reducible refine exR ?_) | (with_reducible refine exG ?_; intro zqk) | (with_reducible refine exC ?_; intro zqk) | ((with_reducible show wpAny _ _ (eval (Expr.Name _ _) _) _ _ _); k_dflt (refine' nmL ?zzF ?zzv (rfl : true = true) ?zzl ?_; (case zzF => k_asm); (case zzl => exact rfl); (case zzv => exact (rfl : some _ = some _)); k_whole)) | ((with_reducible show wpAny _ _ (storeName _ _ _) _ _ _); k_dflt (refine' stY ?zzF ?zzN (rfl : true = true) ?zzl ?_; (case zzF => k_asm); (case zzN => k_asm); (case zzl => exact rfl); k_whole); intro zh zt zF zN; (try k_sweep)) | k_unfold | walk1 | (dsimp only; walk1) | leave1))
        exact JF.mk ci3 cl3 (.inr ⟨fun e => Bool.noConfusion (hb.mpr e), rfl, rfl⟩) F9 N9
    intro ci4 cl4 ct4 ck4 h1 tk1 hP4 F9 N9
    clear F8 N8
    (repeat' (first | ((with_reducible show LCt.CompSrcT _ _ _ _ _ _ _ _ _ _ _ _ _ _ _); (refine Park.out ?_)) | ((with_reducible show wpAny _ _ (eval (Expr.IfExp _ _ _ _) _) _ _ _); (refine Park.out ?_)) | ((with_reducible show wpAny _ _ (execs (Stmt.If _ _ _ _ :: _) _) _ _ _); (refine Park.out ?_)) | ((with_reducible show @ite _ _ _ _ _); (k_here; first | (refine ite_pos (by (simp only [beq_iff_eq, bne_iff_ne, ne_eq, Classical.not_not, decide_eq_true_eq]; (first | lia | omega))) ?_) | (refine ite_neg (by (simp only [beq_iff_eq, bne_iff_ne, ne_eq, Classical.not_not, decide_eq_true_eq]; (first | lia | omega))) ?_))) | ((with_reducible show wpAny _ _ (call (Value.builtin "list.append") _ _) _ _ _); (k_here; (with_reducible show wpAny _ _ (call (Value.builtin _) [Value.ref _, _]) _ _ _); k_dflt (refine' my_append ?zzk1 ?zzk2 ?zzk3 ?zzk4 ?_; (case zzk1 => k_asm); (case zzk2 => k_asm); (case zzk3 => assumption); (case zzk4 => (simp only [List.length_append, List.length_singleton]; (first | lia | omega)))); intro zh zF zN; (try k_sweep))) | ((with_reducible show wpAny _ _ (setItem _ _ _) _ _ _); (k_here; (try dsimp only); k_dflt (refine' my_setlast ?zzF ?zzN ?zzh ?_; (case zzF => k_asm); (case zzN => k_asm); (case zzh => assumption)); intro zh zF zN; (try k_sweep))) | ((with_reducible show wpAny _ _ (getItem _ _) _ _ _); (k_here; (try dsimp only); (with_reducible show wpAny _ _ (getItem (Value.ref _) (Value.int _ _)) _ _ _); k_dflt (refine' my_getlast ?zzN ?zzm ?_; (case zzN => k_asm); (case zzm => walk_at "my mem")))) | ((with_reducible show wpAny _ _ (eval (Expr.ListComp _ _ _ _) _) _ _ _); (refine Park.out ?_)) | ((with_reducible show wpAny _ _ (call (Value.ref _) _ _) _ _ _); ((with_reducible show wpAny _ _ (call (Value.ref 109) _ _) _ _ _); refine Park.out ?_)) | ((with_reducible show wpAny _ _ (call (Value.builtin "list.append") _ _) _ _ _); (k_here; (with_reducible show wpAny _ _ (call _ [Value.ref _, _]) _ _ _); k_dflt (refine my_append (by k_asm) (by k_asm) (by assumption) (by first | lia | omega) ?_); intro zh zF zN; (try k_sweep))) | ((with_reducible show TurnEnds _ _ _ _ _ _ _ _ _ _ _); (refine Park.out ?_)) | ((with_reducible show TurnPost _ _ _ _ _ _ _ _ _ _ _ _ _); (dsimp only [TurnPost])) | ((with_reducible show wpAny _ _ (pyIter (Value.ref _)) _ _ _); (refine Park.out ?_)) | ((with_reducible show wpAny _ _ (exec (Stmt.For (Expr.Name _ _) (Expr.Name _ _) _ _ _) _) _ _ _); ((k_here; (rename Fr _ _ _ _ => zlF); (with_unfolding_all refine' For_invVF zlF ?zzk1 ?zzk2 ?_; (case zzk1 => exact rfl); (case zzk2 => exact rfl); k_whole)))) | (with_reducible refine nxR ?_) | (with_reducible refine nxN ?_) | (with_reducible refine nxB ?_) | (with_reducible refine nxK ?_) | (with_reducible refine exN ?_) | (with_reducible refine exA ?zzhs ?_; (case zzhs => k_dflt (exact (rfl : (pure false : Sem Bool) = pure false))); intro zqk) | (with_reducible refine exI ?_; intro zqk) | (with_reducible refine exR ?_) | (with_reducible refine exG ?_; intro zqk) | (with_reducible refine exC ?_; intro zqk) | ((with_reducible show wpAny _ _ (eval (Expr.Name _ _) _) _ _ _); k_dflt (refine' nmL ?zzF ?zzv (rfl : true = true) ?zzl ?_; (case zzF => k_asm); (case zzl => exact rfl); (case zzv => exact (rfl : some _ = some _)); k_whole)) | ((with_reducible show wpAny _ _ (storeName _ _ _) _ _ _); k_dflt (refine' stY ?zzF ?zzN (rfl : true = true) ?zzl ?_; (case zzF => k_asm); (case zzN => k_asm); (case zzl => exact rfl); k_whole); intro zh zt zF zN; (try k_sweep)) | k_unfold | walk1 | (dsimp only; walk1) | leave1))
    refine Park.mk ?_
    refine exI ?_
    intro q5
    (repeat' (first | ((with_reducible show LCt.CompSrcT _ _ _ _ _ _ _ _ _ _ _ _ _ _ _); (refine Park.out ?_)) | ((with_reducible show wpAny _ _ (eval (Expr.IfExp _ _ _ _) _) _ _ _); (refine Park.out ?_)) | ((with_reducible show wpAny _ _ (execs (Stmt.If _ _ _ _ :: _) _) _ _ _); (refine Park.out ?_)) | ((with_reducible show @ite _ _ _ _ _); (k_here; first | (refine ite_pos (by (simp only [beq_iff_eq, bne_iff_ne, ne_eq, Classical.not_not, decide_eq_true_eq]; (first | lia | omega))) ?_) | (refine ite_neg (by (simp only [beq_iff_eq, bne_iff_ne, ne_eq, Classical.not_not, decide_eq_true_eq]; (first | lia | omega))) ?_))) | ((with_reducible show wpAny _ _ (call (Value.builtin "list.append") _ _) _ _ _); (k_here; (with_reducible show wpAny _ _ (call (Value.builtin _) [Value.ref _, _]) _ _ _); k_dflt (refine' my_append ?zzk1 ?zzk2 ?zzk3 ?zzk4 ?_; (case zzk1 => k_asm); (case zzk2 => k_asm); (case zzk3 => assumption); (case zzk4 => (simp only [List.length_append, List.length_singleton]; (first | lia | omega)))); intro zh zF zN; (try k_sweep))) | ((with_reducible show wpAny _ _ (setItem _ _ _) _ _ _); (k_here; (try dsimp only); k_dflt (refine' my_setlast ?zzF ?zzN ?zzh ?_; (case zzF => k_asm); (case zzN => k_asm); (case zzh => assumption)); intro zh zF zN; (try k_sweep))) | ((with_reducible show wpAny _ _ (getItem _ _) _ _ _); (k_here; (try dsimp only); (with_reducible show wpAny _ _ (getItem (Value.ref _) (Value.int _ _)) _ _ _); k_dflt (refine' my_getlast ?zzN ?zzm ?_; (case zzN => k_asm); (case zzm => walk_at "my mem")))) | ((with_reducible show wpAny _ _ (eval (Expr.ListComp _ _ _ _) _) _ _ _); (refine Park.out ?_)) | ((with_reducible show wpAny _ _ (call (Value.ref _) _ _) _ _ _); ((with_reducible show wpAny _ _ (call (Value.ref 109) _ _) _ _ _); refine Park.out ?_)) | ((with_reducible show wpAny _ _ (call (Value.builtin "list.append") _ _) _ _ _); (k_here; (with_reducible show wpAny _ _ (call _ [Value.ref _, _]) _ _ _); k_dflt (refine my_append (by k_asm) (by k_asm) (by assumption) (by first | lia | omega) ?_); intro zh zF zN; (try k_sweep))) | ((with_reducible show TurnEnds _ _ _ _ _ _ _ _ _ _ _); (refine Park.out ?_)) | ((with_reducible show TurnPost _ _ _ _ _ _ _ _ _ _ _ _ _); (dsimp only [TurnPost])) | ((with_reducible show wpAny _ _ (pyIter (Value.ref _)) _ _ _); (refine Park.out ?_)) | ((with_reducible show wpAny _ _ (exec (Stmt.For (Expr.Name _ _) (Expr.Name _ _) _ _ _) _) _ _ _); ((k_here; (rename Fr _ _ _ _ => zlF); (with_unfolding_all refine' For_invVF zlF ?zzk1 ?zzk2 ?_; (case zzk1 => exact rfl); (case zzk2 => exact rfl); k_whole)))) | (with_reducible refine nxR ?_) | (with_reducible refine nxN ?_) | (with_reducible refine nxB ?_) | (with_reducible refine nxK ?_) | (with_reducible refine exN ?_) | (with_reducible refine exA ?zzhs ?_; (case zzhs => k_dflt (exact (rfl : (pure false : Sem Bool) = pure false))); intro zqk) | (with_reducible refine exI ?_; intro zqk) | (with_reducible refine exR ?_) | (with_reducible refine exG ?_; intro zqk) | (with_reducible refine exC ?_; intro zqk) | ((with_reducible show wpAny _ _ (eval (Expr.Name _ _) _) _ _ _); k_dflt (refine' nmL ?zzF ?zzv (rfl : true = true) ?zzl ?_; (case zzF => k_asm); (case zzl => exact rfl); (case zzv => exact (rfl : some _ = some _)); k_whole)) | ((with_reducible show wpAny _ _ (storeName _ _ _) _ _ _); k_dflt (refine' stY ?zzF ?zzN (rfl : true = true) ?zzl ?_; (case zzF => k_asm); (case zzN => k_asm); (case zzl => exact rfl); k_whole); intro zh zt zF zN; (try k_sweep)) | k_unfold | walk1 | (dsimp only; walk1) | leave1))
    · refine Park.mk ?_
      (rename Fr _ _ _ _ => F5); (rename News _ _ _ _ => N5)
      rw [S_app] at F5
      refine' turn_ends (cn1 ++ [drawSign num], ci4, cl4, _, _, _) F5 N5 ?t1 ?t2 ?t3 ?t4 ?t5 ?t6
      ((case t1 => kst_in); (case t2 => intro p hp; kst_mem); (case t4 => kst_all); (case t5 => (refine ovE ?_; (repeat' (first | (with_reducible exact ov0) | k_dflt (refine ovI (rfl : true = true) ?_) | k_dflt (refine ovK (rfl : true = true) ?_) | k_dflt (refine ovS (rfl : true = true) ?_) | k_dflt (exact ov0))))))
      case t3 => exact tboff_head hoff
      case t6 => exact hds ▸ draw_turn hP1 hP2 hPl hP3 hP4 (.inl ⟨by assumption, rfl⟩)
    · refine Park.mk ?_
      (rename Fr _ _ _ _ => F5); (rename News _ _ _ _ => N5)
      refine' turn_ends (cn1, ci4, cl4, _, _, _) F5 N5 ?t1 ?t2 ?t3 ?t4 ?t5 ?t6
      ((case t1 => kst_in); (case t2 => intro p hp; kst_mem); (case t4 => kst_all); (case t5 => (refine ovE ?_; (repeat' (first | (with_reducible exact ov0) | k_dflt (refine ovI (rfl : true = true) ?_) | k_dflt (refine ovK (rfl : true = true) ?_) | k_dflt (refine ovS (rfl : true = true) ?_) | k_dflt (exact ov0))))))
      case t3 => exact tboff_head hoff
      case t6 => exact hds ▸ draw_turn hP1 hP2 hPl hP3 hP4 (.inr ⟨by assumption, rfl⟩)
  case done =>
    intro c u h tk hP F' N'
    have hci := strs_Slen hP.2.1 rfl
    have hil : vs.length = ns.length := hi.length
    rw [hil, List.take_length] at hP
    have dl := draw_len ns ([], [], [])
    show let G9 : Prop := _; G9
    intro G9
    obtain ⟨cn1, ci, cl1, ct, ck, cnt⟩ := c
    k_unfold
    show let G9 : Prop := _; G9
    intro G9
    obtain ⟨hP1, hP2, hP3⟩ := hP
    k_unfold
    dsimp only at hP1 hP2 hP3 F' N' hci
    subst hP1 hP3
    have hstr := strs_snocS (t := ct) (q := (drawAll ns).2.2) hP2
    (repeat' (first | ((with_reducible show LCt.CompSrcT _ _ _ _ _ _ _ _ _ _ _ _ _ _ _); (refine Park.out ?_)) | ((with_reducible show wpAny _ _ (eval (Expr.IfExp _ _ _ _) _) _ _ _); (refine Park.out ?_)) | ((with_reducible show wpAny _ _ (execs (Stmt.If _ _ _ _ :: _) _) _ _ _); (refine Park.out ?_)) | ((with_reducible show @ite _ _ _ _ _); (k_here; first | (refine ite_pos (by (simp only [beq_iff_eq, bne_iff_ne, ne_eq, Classical.not_not, decide_eq_true_eq]; (first | lia | omega))) ?_) | (refine ite_neg (by (simp only [beq_iff_eq, bne_iff_ne, ne_eq, Classical.not_not, decide_eq_true_eq]; (first | lia | omega))) ?_))) | ((with_reducible show wpAny _ _ (call (Value.builtin "list.append") _ _) _ _ _); (k_here; (with_reducible show wpAny _ _ (call (Value.builtin _) [Value.ref _, _]) _ _ _); k_dflt (refine' my_append ?zzk1 ?zzk2 ?zzk3 ?zzk4 ?_; (case zzk1 => k_asm); (case zzk2 => k_asm); (case zzk3 => assumption); (case zzk4 => (simp only [List.length_append, List.length_singleton]; (first | lia | omega)))); intro zh zF zN; (try k_sweep))) | ((with_reducible show wpAny _ _ (setItem _ _ _) _ _ _); (k_here; (try dsimp only); k_dflt (refine' my_setlast ?zzF ?zzN ?zzh ?_; (case zzF => k_asm); (case zzN => k_asm); (case zzh => assumption)); intro zh zF zN; (try k_sweep))) | ((with_reducible show wpAny _ _ (getItem _ _) _ _ _); (k_here; (try dsimp only); (with_reducible show wpAny _ _ (getItem (Value.ref _) (Value.int _ _)) _ _ _); k_dflt (refine' my_getlast ?zzN ?zzm ?_; (case zzN => k_asm); (case zzm => walk_at "my mem")))) | ((with_reducible show wpAny _ _ (eval (Expr.ListComp _ _ _ _) _) _ _ _); (refine Park.out ?_)) | ((with_reducible show wpAny _ _ (call (Value.ref _) _ _) _ _ _); ((with_reducible show wpAny _ _ (call (Value.ref 109) _ _) _ _ _); refine Park.out ?_)) | ((with_reducible show wpAny _ _ (call (Value.builtin "list.append") _ _) _ _ _); (k_here; (with_reducible show wpAny _ _ (call _ [Value.ref _, _]) _ _ _); k_dflt (refine my_append (by k_asm) (by k_asm) (by assumption) (by first | lia | omega) ?_); intro zh zF zN; (try k_sweep))) | ((with_reducible show TurnEnds _ _ _ _ _ _ _ _ _ _ _); (refine Park.out ?_)) | ((with_reducible show TurnPost _ _ _ _ _ _ _ _ _ _ _ _ _); (dsimp only [TurnPost])) | ((with_reducible show wpAny _ _ (pyIter (Value.ref _)) _ _ _); (refine Park.out ?_)) | ((with_reducible show wpAny _ _ (exec (Stmt.For (Expr.Name _ _) (Expr.Name _ _) _ _ _) _) _ _ _); ((k_here; (rename Fr _ _ _ _ => zlF); (with_unfolding_all refine' For_invVF zlF ?zzk1 ?zzk2 ?_; (case zzk1 => exact rfl); (case zzk2 => exact rfl); k_whole)))) | (with_reducible refine nxR ?_) | (with_reducible refine nxN ?_) | (with_reducible refine nxB ?_) | (with_reducible refine nxK ?_) | (with_reducible refine exN ?_) | (with_reducible refine exA ?zzhs ?_; (case zzhs => k_dflt (exact (rfl : (pure false : Sem Bool) = pure false))); intro zqk) | (with_reducible refine exI ?_; intro zqk) | (with_reducible refine exR ?_) | (with_reducible refine exG ?_; intro zqk) | (with_reducible refine exC ?_; intro zqk) | ((with_reducible show wpAny _ _ (eval (Expr.Name _ _) _) _ _ _); k_dflt (refine' nmL ?zzF ?zzv (rfl : true = true) ?zzl ?_; (case zzF => k_asm); (case zzl => exact rfl); (case zzv => exact (rfl : some _ = some _)); k_whole)) | ((with_reducible show wpAny _ _ (storeName _ _ _) _ _ _); k_dflt (refine' stY ?zzF ?zzN (rfl : true = true) ?zzl ?_; (case zzF => k_asm); (case zzN => k_asm); (case zzl => exact rfl); k_whole); intro zh zt zF zN; (try k_sweep)) | k_unfold | walk1 | (dsimp only; walk1) | leave1))
    refine Park.mk ?_
    k_dflt (refine LCt.ListComp_T (F₀ := by k_asm) (by with_unfolding_all rfl) (by decide) (by rfl) (by decide) (by rfl) ?_)
    (repeat' (first | ((with_reducible show LCt.CompSrcT _ _ _ _ _ _ _ _ _ _ _ _ _ _ _); (refine Park.out ?_)) | ((with_reducible show wpAny _ _ (eval (Expr.IfExp _ _ _ _) _) _ _ _); (refine Park.out ?_)) | ((with_reducible show wpAny _ _ (execs (Stmt.If _ _ _ _ :: _) _) _ _ _); (refine Park.out ?_)) | ((with_reducible show @ite _ _ _ _ _); (k_here; first | (refine ite_pos (by (simp only [beq_iff_eq, bne_iff_ne, ne_eq, Classical.not_not, decide_eq_true_eq]; (first | lia | omega))) ?_) | (refine ite_neg (by (simp only [beq_iff_eq, bne_iff_ne, ne_eq, Classical.not_not, decide_eq_true_eq]; (first | lia | omega))) ?_))) | ((with_reducible show wpAny _ _ (call (Value.builtin "list.append") _ _) _ _ _); (k_here; (with_reducible show wpAny _ _ (call (Value.builtin _) [Value.ref _, _]) _ _ _); k_dflt (refine' my_append ?zzk1 ?zzk2 ?zzk3 ?zzk4 ?_; (case zzk1 => k_asm); (case zzk2 => k_asm); (case zzk3 => assumption); (case zzk4 => (simp only [List.length_append, List.length_singleton]; (first | lia | omega)))); intro zh zF zN; (try k_sweep))) | ((with_reducible show wpAny _ _ (setItem _ _ _) _ _ _); (k_here; (try dsimp only); k_dflt (refine' my_setlast ?zzF ?zzN ?zzh ?_; (case zzF => k_asm); (case zzN => k_asm); (case zzh => assumption)); intro zh zF zN; (try k_sweep))) | ((with_reducible show wpAny _ _ (getItem _ _) _ _ _); (k_here; (try dsimp only); (with_reducible show wpAny _ _ (getItem (Value.ref _) (Value.int _ _)) _ _ _); k_dflt (refine' my_getlast ?zzN ?zzm ?_; (case zzN => k_asm); (case zzm => walk_at "my mem")))) | ((with_reducible show wpAny _ _ (eval (Expr.ListComp _ _ _ _) _) _ _ _); (refine Park.out ?_)) | ((with_reducible show wpAny _ _ (call (Value.ref _) _ _) _ _ _); ((with_reducible show wpAny _ _ (call (Value.ref 109) _ _) _ _ _); refine Park.out ?_)) | ((with_reducible show wpAny _ _ (call (Value.builtin "list.append") _ _) _ _ _); (k_here; (with_reducible show wpAny _ _ (call _ [Value.ref _, _]) _ _ _); k_dflt (refine my_append (by k_asm) (by k_asm) (by assumption) (by first | lia | omega) ?_); intro zh zF zN; (try k_sweep))) | ((with_reducible show TurnEnds _ _ _ _ _ _ _ _ _ _ _); (refine Park.out ?_)) | ((with_reducible show TurnPost _ _ _ _ _ _ _ _ _ _ _ _ _); (dsimp only [TurnPost])) | ((with_reducible show wpAny _ _ (pyIter (Value.ref _)) _ _ _); (refine Park.out ?_)) | ((with_reducible show wpAny _ _ (exec (Stmt.For (Expr.Name _ _) (Expr.Name _ _) _ _ _) _) _ _ _); ((k_here; (rename Fr _ _ _ _ => zlF); (with_unfolding_all refine' For_invVF zlF ?zzk1 ?zzk2 ?_; (case zzk1 => exact rfl); (case zzk2 => exact rfl); k_whole)))) | (with_reducible refine nxR ?_) | (with_reducible refine nxN ?_) | (with_reducible refine nxB ?_) | (with_reducible refine nxK ?_) | (with_reducible refine exN ?_) | (with_reducible refine exA ?zzhs ?_; (case zzhs => k_dflt (exact (rfl : (pure false : Sem Bool) = pure false))); intro zqk) | (with_reducible refine exI ?_; intro zqk) | (with_reducible refine exR ?_) | (with_reducible refine exG ?_; intro zqk) | (with_reducible refine exC ?_; intro zqk) | ((with_reducible show wpAny _ _ (eval (Expr.Name _ _) _) _ _ _); k_dflt (refine' nmL ?zzF ?zzv (rfl : true = true) ?zzl ?_; (case zzF => k_asm); (case zzl => exact rfl); (case zzv => exact (rfl : some _ = some _)); k_whole)) | ((with_reducible show wpAny _ _ (storeName _ _ _) _ _ _); k_dflt (refine' stY ?zzF ?zzN (rfl : true = true) ?zzl ?_; (case zzF => k_asm); (case zzN => k_asm); (case zzl => exact rfl); k_whole); intro zh zt zF zN; (try k_sweep)) | k_unfold | walk1 | (dsimp only; walk1) | leave1))
    refine Park.mk ?_
    k_dflt (refine LCt.CompSrcT.ledger (by rfl) (by k_asm) (by k_asm) (by k_mem) ?hz ?_)
    case hz =>
      rw [List.size_toArray, sizeLine_eq, List.length_append, List.length_singleton]
      have h2 := dl.2.2
      have h3 : ci.length = (drawAll ns).2.1.length := strs_Slen hP2 rfl
      simp only [drawAll, List.length_nil] at h2 h3
      (first | lia | omega)
    intro g9
    refine ks_rest hstr ?_ ?_
    · intro q t9 I oI C oC D m₂ ys l9 h9 tk9 E9 hq hys hC hx F9 N9 off ne
      have hqs := S_len q
      (repeat' (first | ((with_reducible show LCt.CompSrcT _ _ _ _ _ _ _ _ _ _ _ _ _ _ _); (refine Park.out ?_)) | ((with_reducible show wpAny _ _ (eval (Expr.IfExp _ _ _ _) _) _ _ _); (refine Park.out ?_)) | ((with_reducible show wpAny _ _ (execs (Stmt.If _ _ _ _ :: _) _) _ _ _); (refine Park.out ?_)) | ((with_reducible show @ite _ _ _ _ _); (k_here; first | (refine ite_pos (by (simp only [beq_iff_eq, bne_iff_ne, ne_eq, Classical.not_not, decide_eq_true_eq]; (first | lia | omega))) ?_) | (refine ite_neg (by (simp only [beq_iff_eq, bne_iff_ne, ne_eq, Classical.not_not, decide_eq_true_eq]; (first | lia | omega))) ?_))) | ((with_reducible show wpAny _ _ (call (Value.builtin "list.append") _ _) _ _ _); (k_here; (with_reducible show wpAny _ _ (call (Value.builtin _) [Value.ref _, _]) _ _ _); k_dflt (refine' my_append ?zzk1 ?zzk2 ?zzk3 ?zzk4 ?_; (case zzk1 => k_asm); (case zzk2 => k_asm); (case zzk3 => assumption); (case zzk4 => (simp only [List.length_append, List.length_singleton]; (first | lia | omega)))); intro zh zF zN; (try k_sweep))) | ((with_reducible show wpAny _ _ (setItem _ _ _) _ _ _); (k_here; (try dsimp only); k_dflt (refine' my_setlast ?zzF ?zzN ?zzh ?_; (case zzF => k_asm); (case zzN => k_asm); (case zzh => assumption)); intro zh zF zN; (try k_sweep))) | ((with_reducible show wpAny _ _ (getItem _ _) _ _ _); (k_here; (try dsimp only); (with_reducible show wpAny _ _ (getItem (Value.ref _) (Value.int _ _)) _ _ _); k_dflt (refine' my_getlast ?zzN ?zzm ?_; (case zzN => k_asm); (case zzm => walk_at "my mem")))) | ((with_reducible show wpAny _ _ (eval (Expr.ListComp _ _ _ _) _) _ _ _); (refine Park.out ?_)) | ((with_reducible show wpAny _ _ (call (Value.ref _) _ _) _ _ _); ((with_reducible show wpAny _ _ (call (Value.ref 109) _ _) _ _ _); refine Park.out ?_)) | ((with_reducible show wpAny _ _ (call (Value.builtin "list.append") _ _) _ _ _); (k_here; (with_reducible show wpAny _ _ (call _ [Value.ref _, _]) _ _ _); k_dflt (refine my_append (by k_asm) (by k_asm) (by assumption) (by first | lia | omega) ?_); intro zh zF zN; (try k_sweep))) | ((with_reducible show TurnEnds _ _ _ _ _ _ _ _ _ _ _); (refine Park.out ?_)) | ((with_reducible show TurnPost _ _ _ _ _ _ _ _ _ _ _ _ _); (dsimp only [TurnPost])) | ((with_reducible show wpAny _ _ (pyIter (Value.ref _)) _ _ _); (refine Park.out ?_)) | ((with_reducible show wpAny _ _ (exec (Stmt.For (Expr.Name _ _) (Expr.Name _ _) _ _ _) _) _ _ _); ((k_here; (rename Fr _ _ _ _ => zlF); (with_unfolding_all refine' For_invVF zlF ?zzk1 ?zzk2 ?_; (case zzk1 => exact rfl); (case zzk2 => exact rfl); k_whole)))) | (with_reducible refine nxR ?_) | (with_reducible refine nxN ?_) | (with_reducible refine nxB ?_) | (with_reducible refine nxK ?_) | (with_reducible refine exN ?_) | (with_reducible refine exA ?zzhs ?_; (case zzhs => k_dflt (exact (rfl : (pure false : Sem Bool) = pure false))); intro zqk) | (with_reducible refine exI ?_; intro zqk) | (with_reducible refine exR ?_) | (with_reducible refine exG ?_; intro zqk) | (with_reducible refine exC ?_; intro zqk) | ((with_reducible show wpAny _ _ (eval (Expr.Name _ _) _) _ _ _); k_dflt (refine' nmL ?zzF ?zzv (rfl : true = true) ?zzl ?_; (case zzF => k_asm); (case zzl => exact rfl); (case zzv => exact (rfl : some _ = some _)); k_whole)) | ((with_reducible show wpAny _ _ (storeName _ _ _) _ _ _); k_dflt (refine' stY ?zzF ?zzN (rfl : true = true) ?zzl ?_; (case zzF => k_asm); (case zzN => k_asm); (case zzl => exact rfl); k_whole); intro zh zt zF zN; (try k_sweep)) | k_unfold | walk1 | (dsimp only; walk1) | leave1))
      · exact LCg.CompEnd.intro (by assumption) N9 _ (fun p hp => hp) off (Or.inr ⟨_, List.Mem.head _, rfl, _, rfl⟩) (ks_el (ne_em (by assumption)) rfl)
      · exact LCg.CompEnd.intro (by assumption) N9 _ (fun p hp => hp) off (Or.inr ⟨_, List.Mem.head _, rfl, _, rfl⟩) (ks_no (eq_em (by assumption)) rfl)
    · intro ys hys
      (repeat' (first | ((with_reducible show LCt.CompSrcT _ _ _ _ _ _ _ _ _ _ _ _ _ _ _); (refine Park.out ?_)) | ((with_reducible show wpAny _ _ (eval (Expr.IfExp _ _ _ _) _) _ _ _); (refine Park.out ?_)) | ((with_reducible show wpAny _ _ (execs (Stmt.If _ _ _ _ :: _) _) _ _ _); (refine Park.out ?_)) | ((with_reducible show @ite _ _ _ _ _); (k_here; first | (refine ite_pos (by (simp only [beq_iff_eq, bne_iff_ne, ne_eq, Classical.not_not, decide_eq_true_eq]; (first | lia | omega))) ?_) | (refine ite_neg (by (simp only [beq_iff_eq, bne_iff_ne, ne_eq, Classical.not_not, decide_eq_true_eq]; (first | lia | omega))) ?_))) | ((with_reducible show wpAny _ _ (call (Value.builtin "list.append") _ _) _ _ _); (k_here; (with_reducible show wpAny _ _ (call (Value.builtin _) [Value.ref _, _]) _ _ _); k_dflt (refine' my_append ?zzk1 ?zzk2 ?zzk3 ?zzk4 ?_; (case zzk1 => k_asm); (case zzk2 => k_asm); (case zzk3 => assumption); (case zzk4 => (simp only [List.length_append, List.length_singleton]; (first | lia | omega)))); intro zh zF zN; (try k_sweep))) | ((with_reducible show wpAny _ _ (setItem _ _ _) _ _ _); (k_here; (try dsimp only); k_dflt (refine' my_setlast ?zzF ?zzN ?zzh ?_; (case zzF => k_asm); (case zzN => k_asm); (case zzh => assumption)); intro zh zF zN; (try k_sweep))) | ((with_reducible show wpAny _ _ (getItem _ _) _ _ _); (k_here; (try dsimp only); (with_reducible show wpAny _ _ (getItem (Value.ref _) (Value.int _ _)) _ _ _); k_dflt (refine' my_getlast ?zzN ?zzm ?_; (case zzN => k_asm); (case zzm => walk_at "my mem")))) | ((with_reducible show wpAny _ _ (eval (Expr.ListComp _ _ _ _) _) _ _ _); (refine Park.out ?_)) | ((with_reducible show wpAny _ _ (call (Value.ref _) _ _) _ _ _); ((with_reducible show wpAny _ _ (call (Value.ref 109) _ _) _ _ _); refine Park.out ?_)) | ((with_reducible show wpAny _ _ (call (Value.builtin "list.append") _ _) _ _ _); (k_here; (with_reducible show wpAny _ _ (call _ [Value.ref _, _]) _ _ _); k_dflt (refine my_append (by k_asm) (by k_asm) (by assumption) (by first | lia | omega) ?_); intro zh zF zN; (try k_sweep))) | ((with_reducible show TurnEnds _ _ _ _ _ _ _ _ _ _ _); (refine Park.out ?_)) | ((with_reducible show TurnPost _ _ _ _ _ _ _ _ _ _ _ _ _); (dsimp only [TurnPost])) | ((with_reducible show wpAny _ _ (pyIter (Value.ref _)) _ _ _); (refine Park.out ?_)) | ((with_reducible show wpAny _ _ (exec (Stmt.For (Expr.Name _ _) (Expr.Name _ _) _ _ _) _) _ _ _); ((k_here; (rename Fr _ _ _ _ => zlF); (with_unfolding_all refine' For_invVF zlF ?zzk1 ?zzk2 ?_; (case zzk1 => exact rfl); (case zzk2 => exact rfl); k_whole)))) | (with_reducible refine nxR ?_) | (with_reducible refine nxN ?_) | (with_reducible refine nxB ?_) | (with_reducible refine nxK ?_) | (with_reducible refine exN ?_) | (with_reducible refine exA ?zzhs ?_; (case zzhs => k_dflt (exact (rfl : (pure false : Sem Bool) = pure false))); intro zqk) | (with_reducible refine exI ?_; intro zqk) | (with_reducible refine exR ?_) | (with_reducible refine exG ?_; intro zqk) | (with_reducible refine exC ?_; intro zqk) | ((with_reducible show wpAny _ _ (eval (Expr.Name _ _) _) _ _ _); k_dflt (refine' nmL ?zzF ?zzv (rfl : true = true) ?zzl ?_; (case zzF => k_asm); (case zzl => exact rfl); (case zzv => exact (rfl : some _ = some _)); k_whole)) | ((with_reducible show wpAny _ _ (storeName _ _ _) _ _ _); k_dflt (refine' stY ?zzF ?zzN (rfl : true = true) ?zzl ?_; (case zzF => k_asm); (case zzN => k_asm); (case zzl => exact rfl); k_whole); intro zh zt zF zN; (try k_sweep)) | k_unfold | walk1 | (dsimp only; walk1) | leave1))
      rename _ ∧ LCg.Off1 _ _ => ho1
      rename _ ∧ _ ∧ AllLt _ _ => hl1
      rename News _ _ _ _ => N5
      refine hret _ [(_, _), (_, _), (_, _)] _ _ (by assumption) N5 ?_ ⟨_, _, _, _, _, _, _, _, _, rfl, rfl, hys⟩
      intro p hp q hq
      simp only [List.mem_cons, List.not_mem_nil, or_false] at hq
      rcases hq with rfl | rfl | rfl
      · exact Nat.ne_of_gt (allLt_mem' hl1.2.2 p hp)
      · exact (off1_mem ho1.2 p hp).symm
      · (rename ∀ (p : Addr × Obj), p ∈ news → p.1 < _ => hl2); exact Nat.ne_of_gt (hl2 p hp)
end
section
/- what the law's stops ask of the row, the name, the pieces, the words -/
noncomputable def dueOf (ws : List (List Nat)) (k : Nat) : List Nat := glue [34] (ws.take k)
noncomputable def restOf (ws : List (List Nat)) (k : Nat) : List Nat := glue [34] (ws.drop k)
/- the place behind the k-th word -/
noncomputable def plc (ws : List (List Nat)) : Nat → Nat
  | 0 => 4
  | k + 1 => plc ws k + ((ws.getD k []).length + 2)
noncomputable def fitOf (name : List Nat) (ps : List (List Nat)) : List (List Nat) := ps.take ((fronts name ps).getD name.length 0)
noncomputable def aheadOf (name : List Nat) (ps ws : List (List Nat)) (k : Nat) : Nat := (fronts name ps).getD (dueOf ws k).length 0
noncomputable def behindOf (name : List Nat) (ps ws : List (List Nat)) (k : Nat) : Nat := (ends name (fitOf name ps)).getD (restOf ws k).length 0
noncomputable def stopsTo (name : List Nat) (ps ws : List (List Nat)) (j : Nat) : List (Nat × Nat) := (List.range j).map fun i => (aheadOf name ps ws (i + 1), behindOf name ps ws (i + 1))
/- what parse257 must do with the rest of a row -/
noncomputable def Unread (x due : List Nat) : Prop := x.take 3 ≠ [50, 53, 55] ∧ parseP ([50, 53, 55] ++ x) = [] ∧ parseP ([50, 53, 55, 32] ++ x) = due
theorem nlc_add (row : List Nat) (n m : Nat) : nlc row (n + m) = nlc row n + nlc (row.drop n) m := by
  unfold nlc
  rw [List.take_add, List.count_append]
  (first | lia | omega)
theorem stopsTo_succ (name : List Nat) (ps ws : List (List Nat)) (j : Nat) : stopsTo name ps ws (j + 1) = stopsTo name ps ws j ++ [(aheadOf name ps ws (j + 1), behindOf name ps ws (j + 1))] := by
  unfold stopsTo
  rw [List.range_succ, List.map_append]; rfl
theorem stopsTo_len (name : List Nat) (ps ws : List (List Nat)) (j : Nat) : (stopsTo name ps ws j).length = j := by simp [stopsTo]
structure Plain (row name tail : List Nat) (ps ws : List (List Nat)) : Prop where
  rowlen : row.length < 900
  namelen : name.length < 900
  taillen : tail.length < 900
  pb : PB ps
  pb2 : (ps.map List.length).sum + ps.length * 3 < 890
  row3 : row.take 3 = [50, 53, 55]
  chars : ∀ c ∈ row, c < 0x110000
  tailchars : ∀ c ∈ tail, c < 0x110000
  count : Txt.count (S row) (Str.ofString "\n") = ((row.count 10 : Nat) : Int)
  noslash : 92 ∉ row
  split : Txt.split (S name) (Str.ofString "\"") = ws.map S
  wne : 1 ≤ ws.length
  wsum : (ws.map List.length).sum + ws.length < 2000
  wlen : ws.length < 900
  tok0 : tokOf row = ([50, 53, 55], 4)
  un0 : Unread (row.drop 4) name
  plcEq : ∀ k, 1 ≤ k → k ≤ ws.length → plc ws k = 5 + k + (dueOf ws k).length
  plcLe : ∀ k, k ≤ ws.length → plc ws k ≤ row.length
  dueLe : ∀ k, k ≤ ws.length → (dueOf ws k).length ≤ name.length
  restLe : ∀ k, k ≤ ws.length → (restOf ws k).length ≤ name.length
  tok : ∀ k, k < ws.length → tokOf (row.drop (plc ws k)) = (ws.getD k [], (ws.getD k []).length + 2)
  read1 : ∀ k, 1 ≤ k → k ≤ ws.length → parseP (row.take (plc ws k)) = dueOf ws k
  read2 : ∀ k, 1 ≤ k → k ≤ ws.length → parseP (row.take (plc ws k - 1)) = dueOf ws k
  read3 : ∀ k, 1 ≤ k → k < ws.length → parseP (row.take (plc ws k + 1)) = dueOf ws k ++ [34]
  un : ∀ k, 1 ≤ k → k ≤ ws.length → Unread (row.drop (plc ws k)) (restOf ws k)
  first0 : ∀ k, 1 ≤ k → k ≤ ws.length → aheadOf name ps ws k ≤ ps.length
  first1 : ∀ k, 1 ≤ k → k ≤ ws.length → foundGo (ps.take (aheadOf name ps ws k)) (dueOf ws k) 0 = true
  first2 : ∀ k, 1 ≤ k → k ≤ ws.length → aheadOf name ps ws k ≠ ps.length → foundGo (ps.take (aheadOf name ps ws k + 1)) (dueOf ws k) 0 = false
  last0 : ∀ k, 1 ≤ k → k ≤ ws.length → behindOf name ps ws k ≤ (fitOf name ps).length
  last1 : ∀ k, 1 ≤ k → k ≤ ws.length → foundGo ((fitOf name ps).drop ((fitOf name ps).length - behindOf name ps ws k)) (restOf ws k) 0 = true
  last2 : ∀ k, 1 ≤ k → k ≤ ws.length → behindOf name ps ws k ≠ (fitOf name ps).length → foundGo ((fitOf name ps).drop ((fitOf name ps).length - behindOf name ps ws k - 1)) (restOf ws k) 0 = false
  parted : ∀ j, j ≤ (fitOf name ps).length → foundGo ((fitOf name ps).take j ++ [[34]] ++ (fitOf name ps).drop j) name 0 = (stopsTo name ps ws (ws.length - 1)).any fun p => decide (j ≤ p.1 ∧ (fitOf name ps).length - j ≤ p.2)
  tailTok : ∃ a, tokOf (row.drop (plc ws ws.length)) = (tail, a) ∧ row.length ≤ plc ws ws.length + a
end
section
theorem gettok_method {w : World} {A : Around} {E : Value → Shared → Prop} {s : Shared} {h₀ : Heap} {L x2 d2 x1 l2 : Addr} {o2 : Obj} {k : Int} {m : Str → Option Value} {news : Led} {pl : Sem Bool} {Q : Value × List Value → Shared → Prop}
    (F : Fr h₀ L s.heap m) (X : (Khp w.params).In h₀) (N : News h₀ L s.heap news) (hx : (x2, instObj 98 d2) ∈ news) (hd2 : (d2, o2) ∈ news) (hL : IsLexD w k x1 l2 o2)
    (h : Q (.ref 88, [.ref x2]) s) : wpAny (model PySem.Challenge.rw_sc0033_01.row.prog w) A (getMethod (.ref x2) (Str.ofString "get_token") pl) Q E s := by
  revert X; k_fill; intro X
  obtain ⟨a, b, c, d, e, f, rfl⟩ := hL
  k_dflt (refine' method_inst F X (InstAt.of_news N hx hd2) ?k4 ?k5 ?k6 ?k7 h)
  case k4 => k_is
  case k5 => k_is
  case k6 => k_is
  case k7 => k_get
theorem lineno_get {w : World} {A : Around} {E : Value → Shared → Prop} {s : Shared} {h₀ : Heap} {L x2 d2 x1 l2 : Addr} {o2 : Obj} {k : Int} {m : Str → Option Value} {news : Led} {ex : Bool} {Q : Value → Shared → Prop}
    (F : Fr h₀ L s.heap m) (X : (Khp w.params).In h₀) (N : News h₀ L s.heap news) (hx : (x2, instObj 98 d2) ∈ news) (hd2 : (d2, o2) ∈ news) (hL : IsLexD w k x1 l2 o2)
    (h : ∀ t, Q (.int k t) { s with toks := s.toks + 1 }) : wpAny (model PySem.Challenge.rw_sc0033_01.row.prog w) A (getAttr (.ref x2) (Str.ofString "lineno") ex) Q E s := by
  revert X; k_fill; intro X
  obtain ⟨a, b, c, d, e, f, rfl⟩ := hL
  k_dflt (refine' get_own (attr := none) F X (InstAt.of_news N hx hd2) ?k4 ?k5 ?k6 ?k7 ?k8 ?k9 (h b))
  case k4 => k_is
  case k5 => k_is
  case k6 => k_is
  case k7 => k_is
  case k8 => k_get
  case k9 => k_handed
theorem CLex.use {w : World} {k : Nat} {f : Addr} {vs : List Value} {c P : Addr} {pre : Led → Prop} {post : Array Value → Led → Value → Prop} {p : Program} {loose : List Str} {mean : ExcName → Option Value} {mg mb : Str → Option Value} {dp un : Nat} {gd : Option (List Code)} {cn : Str} {cs : Scope} {a : Addr} {ccd : Value} {cl : List (Str × Addr)} {outer : List Env} {A₀ : Around} {base h₀ : Heap} {L : Addr} {m : Str → Option Value} {news : Led} {s : Shared}
    {Q E : Value → Shared → Prop} (C : CLex w k f vs c P pre post) (B : Below A₀ base outer h₀) (F : Fr h₀ L s.heap m) (X : (Khp w.params).In h₀) (N : News h₀ L s.heap ((P, tabObj #[]) :: news)) (T : Top p loose mean mg mb h₀) (CP : CodeHd base c P) (hP : ∀ q ∈ news, q.1 ≠ P) (hk : cs.kind = .function) (hdq : dp + k < recursionLimit) (hu : un + 8 * k < cLine) (hp : pre news)
    (ret : ∀ r tl ps h' tk', Fr h₀ L h' m → News h₀ L h' (tl ++ ((P, tabObj ps) :: news)) → (∀ q ∈ (P, tabObj #[]) :: news, ∀ z ∈ tl, q.1 < z.1) → post ps tl r → Q r { s with heap := h', toks := tk' }) :
    wpAny (model PySem.Challenge.rw_sc0033_01.row.prog w) (ktrTop dp un gd cn cs L a ccd cl outer) (call (.ref f) vs) Q E s := C _ _ _ _ _ _ _ _ _ _ _ _ _ _ _ _ _ _ _ _ _ _ _ B F X N T CP hP hk hdq hu hp ret
theorem CTok.use {w : World} {p : Program} {loose : List Str} {mean : ExcName → Option Value} {mg mb : Str → Option Value} {dp un : Nat} {gd : Option (List Code)} {cn : Str} {cs : Scope} {a : Addr} {ccd : Value} {cl : List (Str × Addr)} {outer : List Env} {A₀ : Around} {base h₀ : Heap} {L : Addr} {m : Str → Option Value} {news : Led} {s : Shared}
    {l x2 d2 l2 x1 : Addr} {row : List Nat} {o2 : Obj} {fix : Led} {n : Nat} {k : Int} {t : Tok} {k0 : Nat} {Q E : Value → Shared → Prop} (C : CTok w) (B : Below A₀ base outer h₀) (F : Fr h₀ L s.heap m) (X : (Khp w.params).In h₀) (T : Top p loose mean mg mb h₀) (hk : cs.kind = .function) (hdq : dp + 60 < recursionLimit) (hu : un + 500 < cLine)
    (N : News h₀ L s.heap ((l, listOf #[.int (n : Int) t] k0) :: (d2, o2) :: (fix ++ news))) (hF : LexFix w l row x2 d2 l2 x1 fix) (hL : IsLexD w k x1 l2 o2) (h1 : ∀ q ∈ news, q.1 ≠ l) (h2 : ∀ q ∈ news, q.1 ≠ d2) (hn : n < 1500) (hr : row.length < 1500) (hs : 92 ∉ row) (k0' : 0 ≤ k) (k1 : k < 1500)
    (ret : ∀ t2 t3 k2 o2' h' tk', IsLexD w (k + nlc (row.drop n) (tokOf (row.drop n)).2) x1 l2 o2' → Fr h₀ L h' m → News h₀ L h' ((l, listOf #[.int ((n + (tokOf (row.drop n)).2 : Nat) : Int) t2] k2) :: (d2, o2') :: (fix ++ news)) → Q (.str (S (tokOf (row.drop n)).1) t3) { s with heap := h', toks := tk' }) :
    wpAny (model PySem.Challenge.rw_sc0033_01.row.prog w) (ktrTop dp un gd cn cs L a ccd cl outer) (call (.ref 88) [.ref x2]) Q E s :=
  C _ _ _ _ _ _ _ _ _ _ _ _ _ _ _ _ _ _ _ _ _ _ _ _ _ _ _ _ _ _ _ _ _ _ _ B F X N T hF hL h1 h2 hk hdq hu hn hr hs k0' k1 ret
theorem CUn.use {w : World} {k : Nat} {f : Addr} {vs : List Value} {post : Value → Prop} {p : Program} {loose : List Str} {mean : ExcName → Option Value} {mg mb : Str → Option Value} {dp un : Nat} {gd : Option (List Code)} {cn : Str} {cs : Scope} {a : Addr} {ccd : Value} {outer : List Env} {A₀ : Around} {base h₀ : Heap} {L : Addr} {m : Str → Option Value} {news : Led} {s : Shared}
    {Q E : Value → Shared → Prop} (C : CUn w k f vs post) (B : Below A₀ base outer h₀) (F : Fr h₀ L s.heap m) (X : (Khp w.params).In h₀) (N : News h₀ L s.heap news) (T : Top p loose mean mg mb h₀) (XB : (Khp w.params).In base) (TB : Top p loose mean mg mb base) (D : KtsDicts (outer.filterMap (·.frame)) h₀) (hk : cs.kind = .function) (hdq : dp + k < recursionLimit) (hu : un + 8 * k < cLine)
    (ret : ∀ r g' h' tk', KtsTurn (outer.filterMap (·.frame)) h₀ g' → Fr g' L h' m → News g' L h' news → Below A₀ base outer g' → (Khp w.params).In g' → Top p loose mean mg mb g' → KtsDicts (outer.filterMap (·.frame)) g' → post r → Q r { s with heap := h', toks := tk' }) :
    wpAny (model PySem.Challenge.rw_sc0033_01.row.prog w) (ktrTop dp un gd cn cs L a ccd [] outer) (call (.ref f) vs) Q E s := C _ _ _ _ _ _ _ _ _ _ _ _ _ _ _ _ _ _ _ _ _ _ B F X N T XB TB D hk hdq hu ret
theorem fix_mem {w : World} {l x2 d2 l2 x1 : Addr} {row : List Nat} {fix : Led} (hf : LexFix w l row x2 d2 l2 x1 fix) : (x2, instObj 98 d2) ∈ fix := by
  obtain ⟨d1, f, c', cj, cp, oF, oc, oj, op, o1, rfl, _⟩ := hf
  exact .tail _ (.head _)
end
section
theorem ne_pos {l : List Nat} (h : l ≠ []) : 0 < l.length := List.length_pos_iff.mpr h
/- pieces that fit one behind the other -/
/- in g, between a and b -/
noncomputable def Fits (g : List Nat) : List (List Nat) → Nat → Nat → Prop
  | [], a, b => a ≤ b
  | p :: r, a, b => ∃ i, a ≤ i ∧ OccAt p g i ∧ Fits g r (i + p.length) b
theorem fits_le {g : List Nat} : ∀ {ps : List (List Nat)} {a b : Nat}, Fits g ps a b → a ≤ b
  | [], _, _, h => h
  | p :: r, a, b, ⟨i, h1, _, h3⟩ => by have := fits_le h3; (first | lia | omega)
theorem fits_mono {g : List Nat} : ∀ {ps : List (List Nat)} {a a' b b' : Nat}, a' ≤ a → b ≤ b' → Fits g ps a b → Fits g ps a' b'
  | [], a, a', b, b', h1, h2, h => by show a' ≤ b'; have : a ≤ b := h; (first | lia | omega)
  | p :: r, _, _, _, _, h1, h2, ⟨i, h3, h4, h5⟩ => ⟨i, by first | lia | omega, h4, fits_mono (Nat.le_refl _) h2 h5⟩
theorem fits_append {g : List Nat} : ∀ {ps qs : List (List Nat)} {a b : Nat}, Fits g (ps ++ qs) a b ↔ ∃ c, Fits g ps a c ∧ Fits g qs c b
  | [], qs, a, b => ⟨fun h => ⟨a, Nat.le_refl a, h⟩, fun ⟨c, h1, h2⟩ => fits_mono h1 (Nat.le_refl _) h2⟩
  | p :: r, qs, a, b => by
    constructor
    · rintro ⟨i, h1, h2, h3⟩
      obtain ⟨c, h4, h5⟩ := fits_append.mp h3
      exact ⟨c, ⟨i, h1, h2, h4⟩, h5⟩
    · rintro ⟨c, ⟨i, h1, h2, h3⟩, h4⟩
      exact ⟨i, h1, h2, fits_append.mpr ⟨c, h3, h4⟩⟩
/- foundGo finds them just if they fit -/
theorem found_iff (g : List Nat) : ∀ (ps : List (List Nat)) (a : Nat), a ≤ g.length → (foundGo ps g a = true ↔ Fits g ps a g.length)
  | [], a, h => by simp [foundGo, Fits, h]
  | p :: r, a, h => by
    rw [foundGo]
    cases hf : findL p g a with
    | none =>
      simp only [Bool.false_eq_true, false_iff]
      rintro ⟨i, h1, h2, _⟩
      exact findL_none hf i h1 h2
    | some i =>
      obtain ⟨h1, h2, h3⟩ := findL_some hf
      have hle := h2.1
      dsimp only
      rw [found_iff g r _ hle]
      constructor
      · intro h4
        exact ⟨i, h1, h2, h4⟩
      · rintro ⟨j, h4, h5, h6⟩
        have : i ≤ j := by
          rcases Nat.lt_or_ge j i with h | h
          · exact absurd h5 (h3 j h4 h)
          · exact h
        exact fits_mono (by first | lia | omega) (Nat.le_refl _) h6
/- a part of the text -/
theorem occ_take {p g : List Nat} {n i : Nat} (_hn : n ≤ g.length) : OccAt p (g.take n) i ↔ OccAt p g i ∧ i + p.length ≤ n := by
  unfold OccAt
  rw [List.length_take, List.drop_take, List.take_take]
  constructor
  · rintro ⟨h1, h2⟩
    rw [Nat.min_eq_left (Nat.le_sub_of_add_le' (Nat.le_trans h1 (Nat.min_le_left _ _)))] at h2
    exact ⟨⟨Nat.le_trans h1 (Nat.min_le_right _ _), h2⟩, Nat.le_trans h1 (Nat.min_le_left _ _)⟩
  · rintro ⟨⟨h1, h2⟩, h3⟩
    rw [Nat.min_eq_left (Nat.le_sub_of_add_le' h3)]
    exact ⟨Nat.le_min.mpr ⟨h3, h1⟩, h2⟩
theorem fits_take {g : List Nat} {n : Nat} (hn : n ≤ g.length) : ∀ {ps : List (List Nat)} {a b : Nat}, b ≤ n → (Fits (g.take n) ps a b ↔ Fits g ps a b)
  | [], a, b, _ => Iff.rfl
  | p :: r, a, b, hb => by
    constructor
    · rintro ⟨i, h1, h2, h3⟩
      exact ⟨i, h1, ((occ_take hn).mp h2).1, (fits_take hn hb).mp h3⟩
    · rintro ⟨i, h1, h2, h3⟩
      have := fits_le h3
      exact ⟨i, h1, (occ_take hn).mpr ⟨h2, Nat.le_trans this hb⟩, (fits_take hn hb).mpr h3⟩
theorem occ_drop {p g : List Nat} {d i : Nat} (hd : d ≤ g.length) : OccAt p (g.drop d) i ↔ OccAt p g (d + i) := by
  unfold OccAt
  rw [List.length_drop, List.drop_drop]
  constructor
  · rintro ⟨h1, h2⟩
    exact ⟨by rw [Nat.add_assoc]; exact Nat.add_le_of_le_sub' hd h1, h2⟩
  · rintro ⟨h1, h2⟩
    exact ⟨Nat.le_sub_of_add_le' (by rw [← Nat.add_assoc]; exact h1), h2⟩
theorem fits_drop {g : List Nat} {d : Nat} (hd : d ≤ g.length) : ∀ {ps : List (List Nat)} {a b : Nat}, Fits (g.drop d) ps a b ↔ Fits g ps (d + a) (d + b)
  | [], a, b => Nat.add_le_add_iff_left.symm
  | p :: r, a, b => by
    constructor
    · rintro ⟨i, h1, h2, h3⟩
      refine ⟨d + i, Nat.add_le_add_left h1 d, (occ_drop hd).mp h2, ?_⟩
      have := (fits_drop hd).mp h3
      rwa [Nat.add_assoc]
    · rintro ⟨i, h1, h2, h3⟩
      obtain ⟨j, rfl⟩ : ∃ j, i = d + j := ⟨i - d, (Nat.add_sub_of_le (Nat.le_trans (Nat.le_add_right d a) h1)).symm⟩
      refine ⟨j, Nat.le_of_add_le_add_left h1, (occ_drop hd).mpr h2, (fits_drop hd).mpr ?_⟩
      rwa [Nat.add_assoc] at h3
theorem found_pre {g : List Nat} {ps : List (List Nat)} {n : Nat} (hn : n ≤ g.length) : foundGo ps (g.take n) 0 = true ↔ Fits g ps 0 n := by
  rw [found_iff _ _ _ (Nat.zero_le _), show (g.take n).length = n by rw [List.length_take]; exact Nat.min_eq_left hn, fits_take hn (Nat.le_refl _)]
theorem found_suf {g : List Nat} {ps : List (List Nat)} {d : Nat} (hd : d ≤ g.length) : foundGo ps (g.drop d) 0 = true ↔ Fits g ps d g.length := by
  rw [found_iff _ _ _ (Nat.zero_le _), fits_drop hd, List.length_drop, Nat.add_zero, Nat.add_sub_of_le hd]
/- the counts of the first pieces -/
/- c is the number of the first pieces that fit ahead of e -/
noncomputable def IsFront (g : List Nat) (ps : List (List Nat)) (e c : Nat) : Prop := c ≤ ps.length ∧ Fits g (ps.take c) 0 e ∧ (c < ps.length → ¬ Fits g (ps.take (c + 1)) 0 e)
theorem fits_fewer {g : List Nat} {ps : List (List Nat)} {j k a b : Nat} (h : j ≤ k) (hf : Fits g (ps.take k) a b) : Fits g (ps.take j) a b := by
  have e : ps.take k = ps.take j ++ (ps.take k).drop j := by
    have := List.take_append_drop j (ps.take k)
    rw [List.take_take, Nat.min_eq_left h] at this
    exact this.symm
  rw [e] at hf
  obtain ⟨c, h1, h2⟩ := fits_append.mp hf
  exact fits_mono (Nat.le_refl _) (fits_le h2) h1
theorem front_iff {g : List Nat} {ps : List (List Nat)} {e c j : Nat} (h : IsFront g ps e c) (hj : j ≤ ps.length) : Fits g (ps.take j) 0 e ↔ j ≤ c := by
  obtain ⟨h1, h2, h3⟩ := h
  constructor
  · intro h4
    rcases Nat.lt_or_ge c j with h | h
    · exact absurd (fits_fewer (show c + 1 ≤ j from h) h4) (h3 (Nat.lt_of_lt_of_le h hj))
    · exact h
  · intro h4
    exact fits_fewer h4 h2
theorem take_snoc {ps : List (List Nat)} {k : Nat} (hk : k < ps.length) : ps.take (k + 1) = ps.take k ++ [ps.getD k []] := by
  rw [List.take_add_one, List.getElem?_eq_getElem hk, List.getD_eq_getElem?_getD, List.getElem?_eq_getElem hk]; rfl
theorem fits_snoc {g : List Nat} {ps : List (List Nat)} {p : List Nat} {a b : Nat} : Fits g (ps ++ [p]) a b ↔ ∃ i, Fits g ps a i ∧ OccAt p g i ∧ i + p.length ≤ b := by
  rw [fits_append]
  constructor
  · rintro ⟨c, h1, i, h2, h3, h4⟩
    exact ⟨i, fits_mono (Nat.le_refl _) h2 h1, h3, h4⟩
  · rintro ⟨i, h1, h2, h3⟩
    exact ⟨i, h1, i, Nat.le_refl _, h2, h3⟩
theorem front_zero {g : List Nat} {ps : List (List Nat)} (hp : ∀ p ∈ ps, p ≠ []) : IsFront g ps 0 0 := by
  refine ⟨Nat.zero_le _, Nat.le_refl _, fun h => ?_⟩
  cases ps with
  | nil => simp at h
  | cons p r =>
    rintro ⟨i, _, h2, h3⟩
    have h4 : i + p.length ≤ 0 := fits_le h3
    have : p ≠ [] := hp p (.head _)
    have := ne_pos this
    exact absurd (Nat.lt_of_lt_of_le this (Nat.le_trans (Nat.le_add_left _ i) h4)) (Nat.lt_irrefl 0)
theorem getD_mem {ps : List (List Nat)} {k : Nat} (hk : k < ps.length) : ps.getD k [] ∈ ps := by
  rw [List.getD_eq_getElem?_getD, List.getElem?_eq_getElem hk]; exact List.getElem_mem hk
theorem occ_slice {g p : List Nat} {e : Nat} (he : e ≤ g.length) (hp : p.length ≤ e) : OccAt p g (e - p.length) ↔ (g.take e).drop (e - p.length) = p := by
  unfold OccAt
  rw [List.drop_take, Nat.sub_sub_self hp]
  exact ⟨fun h => h.2, fun h => ⟨by rw [Nat.sub_add_cancel hp]; exact he, h⟩⟩
theorem front_step {g : List Nat} {ps : List (List Nat)} {cs : List Nat} {e : Nat} (hp : ∀ p ∈ ps, p ≠ []) (he : e + 1 ≤ g.length) (hc : ∀ k, k ≤ e → IsFront g ps k (cs.getD k 0)) : IsFront g ps (e + 1) (frontNext g ps cs (e + 1)) := by
  obtain ⟨h1, h2, h3⟩ := hc e (Nat.le_refl _)
  unfold frontNext
  simp only [Nat.add_sub_cancel]
  generalize hb : cs.getD e 0 = best at *
  by_cases hlt : best < ps.length
  · rw [if_pos hlt]
    have hpm := hp _ (getD_mem hlt)
    have hpl := ne_pos hpm
    have key : Fits g (ps.take (best + 1)) 0 (e + 1) ↔ ((ps.getD best []).length ≤ e + 1 ∧ (g.take (e + 1)).drop (e + 1 - (ps.getD best []).length) = ps.getD best [] ∧ cs.getD (e + 1 - (ps.getD best []).length) 0 = best) := by
      rw [take_snoc hlt, fits_snoc]
      constructor
      · rintro ⟨i, k1, k2, k3⟩
        have hi : i + (ps.getD best []).length = e + 1 := by
          rcases Nat.lt_or_ge e (i + (ps.getD best []).length) with h | h
          · (first | lia | omega)
          · refine absurd ?_ (h3 hlt)
            rw [take_snoc hlt, fits_snoc]
            exact ⟨i, k1, k2, h⟩
        have hi2 : i = e + 1 - (ps.getD best []).length := Nat.eq_sub_of_add_eq hi
        have hie : i ≤ e := Nat.le_of_lt_succ (Nat.lt_of_lt_of_le (Nat.lt_add_of_pos_right hpl) (Nat.le_of_eq hi))
        have hle : (ps.getD best []).length ≤ e + 1 := hi ▸ Nat.le_add_left _ _
        have k4 := (front_iff (hc i hie) (Nat.le_of_lt hlt)).mp k1
        have k5 : Fits g (ps.take (cs.getD i 0)) 0 e := fits_mono (Nat.le_refl _) hie (hc i hie).2.1
        have k6 := (front_iff ⟨h1, h2, h3⟩ (hc i hie).1).mp k5
        rw [← hi2]
        refine ⟨hle, ?_, Nat.le_antisymm k6 k4⟩
        have := (occ_slice he hle).mp (hi2 ▸ k2)
        rw [hi2]; exact this
      · rintro ⟨k1, k2, k3⟩
        refine ⟨e + 1 - (ps.getD best []).length, ?_, (occ_slice he k1).mpr k2, Nat.le_of_eq (Nat.sub_add_cancel k1)⟩
        have := (hc (e + 1 - (ps.getD best []).length) (Nat.sub_le_of_le_add (Nat.add_le_add_left hpl e))).2.1
        rwa [k3] at this
    by_cases hf : Fits g (ps.take (best + 1)) 0 (e + 1)
    · rw [if_pos (key.mp hf)]
      refine ⟨hlt, hf, fun hlt2 hf2 => ?_⟩
      rw [take_snoc hlt2, fits_snoc] at hf2
      obtain ⟨i, k1, k2, k3⟩ := hf2
      have hpl2 := ne_pos (hp _ (getD_mem hlt2))
      exact h3 hlt (fits_mono (Nat.le_refl _) (Nat.le_of_lt_succ (Nat.lt_of_lt_of_le (Nat.lt_add_of_pos_right hpl2) k3)) k1)
    · rw [if_neg (fun h => hf (key.mpr h))]
      exact ⟨h1, fits_mono (Nat.le_refl _) (Nat.le_succ _) h2, fun _ => hf⟩
  · rw [if_neg hlt]
    exact ⟨h1, fits_mono (Nat.le_refl _) (Nat.le_succ _) h2, fun h => absurd h hlt⟩
theorem getD_snoc_lt {cs : List Nat} {x k : Nat} (h : k < cs.length) : (cs ++ [x]).getD k 0 = cs.getD k 0 := by
  rw [List.getD_eq_getElem?_getD, List.getElem?_append_left h, ← List.getD_eq_getElem?_getD]
theorem getD_snoc_eq {cs : List Nat} {x : Nat} : (cs ++ [x]).getD cs.length 0 = x := by
  rw [List.getD_eq_getElem?_getD, List.getElem?_append_right (Nat.le_refl _)]; simp
theorem frontsTo_ok {g : List Nat} {ps : List (List Nat)} (hp : ∀ p ∈ ps, p ≠ []) : ∀ e, e ≤ g.length → ∀ k, k ≤ e → IsFront g ps k ((frontsTo g ps e).getD k 0)
  | 0, _, k, hk => by
    have : k = 0 := Nat.le_zero.mp hk
    subst this
    exact front_zero hp
  | e + 1, he, k, hk => by
    have ih := frontsTo_ok (g := g) hp e (Nat.le_of_succ_le he)
    have hl := frontsTo_len g ps e
    show IsFront g ps k ((frontsTo g ps e ++ [frontNext g ps (frontsTo g ps e) (e + 1)]).getD k 0)
    rcases Nat.lt_or_ge k (e + 1) with h | h
    · rw [getD_snoc_lt (cs := frontsTo g ps e) (by rw [hl]; exact h)]
      exact ih k (Nat.le_of_lt_succ h)
    · have : k = e + 1 := Nat.le_antisymm hk h
      subst this
      have := getD_snoc_eq (cs := frontsTo g ps e) (x := frontNext g ps (frontsTo g ps e) (e + 1))
      rw [hl] at this
      rw [this]
      exact front_step hp he ih
theorem fronts_front {g : List Nat} {ps : List (List Nat)} (hp : ∀ p ∈ ps, p ≠ []) {k : Nat} (hk : k ≤ g.length) : IsFront g ps k ((fronts g ps).getD k 0) := frontsTo_ok hp _ (Nat.le_refl _) k hk
/- the counts of the last pieces -/
noncomputable def IsEnd (g : List Nat) (ps : List (List Nat)) (size c : Nat) : Prop := c ≤ ps.length ∧ Fits g (ps.drop (ps.length - c)) (g.length - size) g.length ∧ (c < ps.length → ¬ Fits g (ps.drop (ps.length - (c + 1))) (g.length - size) g.length)
theorem fits_fewer_d {g : List Nat} {ps : List (List Nat)} {j k a b : Nat} (h : j ≤ k) (hf : Fits g (ps.drop j) a b) : Fits g (ps.drop k) a b := by
  have e : ps.drop j = (ps.drop j).take (k - j) ++ ps.drop k := by
    have := List.take_append_drop (k - j) (ps.drop j)
    rw [List.drop_drop, Nat.add_sub_of_le h] at this
    exact this.symm
  rw [e] at hf
  obtain ⟨c, h1, h2⟩ := fits_append.mp hf
  exact fits_mono (fits_le h1) (Nat.le_refl _) h2
theorem end_iff {g : List Nat} {ps : List (List Nat)} {e c j : Nat} (h : IsEnd g ps e c) (hj : j ≤ ps.length) : Fits g (ps.drop (ps.length - j)) (g.length - e) g.length ↔ j ≤ c := by
  obtain ⟨h1, h2, h3⟩ := h
  constructor
  · intro h4
    rcases Nat.lt_or_ge c j with h | h
    · exact absurd (fits_fewer_d (Nat.sub_le_sub_left h _) h4) (h3 (Nat.lt_of_lt_of_le h hj))
    · exact h
  · intro h4
    exact fits_fewer_d (Nat.sub_le_sub_left h4 _) h2
theorem drop_cons {ps : List (List Nat)} {k : Nat} (hk : k < ps.length) : ps.drop k = ps.getD k [] :: ps.drop (k + 1) := by
  rw [List.drop_eq_getElem_cons hk, List.getD_eq_getElem?_getD, List.getElem?_eq_getElem hk]; rfl
theorem end_zero {g : List Nat} {ps : List (List Nat)} (hp : ∀ p ∈ ps, p ≠ []) : IsEnd g ps 0 0 := by
  refine ⟨Nat.zero_le _, ?_, fun h => ?_⟩
  · rw [Nat.sub_zero, List.drop_length]; exact Nat.le_refl _
  · rw [drop_cons (show ps.length - (0 + 1) < ps.length from Nat.sub_lt h (Nat.succ_pos _))]
    rintro ⟨i, h1, h2, h3⟩
    have hpl := ne_pos (hp _ (getD_mem (show ps.length - (0 + 1) < ps.length from Nat.sub_lt h (Nat.succ_pos _))))
    have h4 := fits_le h3
    (first | lia | omega)
theorem end_step {g : List Nat} {ps : List (List Nat)} {cs : List Nat} {e : Nat} (hp : ∀ p ∈ ps, p ≠ []) (he : e + 1 ≤ g.length) (hc : ∀ k, k ≤ e → IsEnd g ps k (cs.getD k 0)) : IsEnd g ps (e + 1) (endNext g ps cs (e + 1)) := by
  have h0 := hc e (Nat.le_refl _)
  unfold endNext
  simp only [Nat.add_sub_cancel]
  generalize hb : cs.getD e 0 = best at *
  obtain ⟨h1, h2, h3⟩ := h0
  have h0 : IsEnd g ps e best := ⟨h1, h2, h3⟩
  obtain ⟨d, hd⟩ : ∃ d, g.length = d + (e + 1) := ⟨g.length - (e + 1), (Nat.sub_add_cancel he).symm⟩
  have d1 : g.length - (e + 1) = d := by rw [hd, Nat.add_sub_cancel]
  have d2 : g.length - e = d + 1 := by rw [hd, Nat.add_comm e 1, ← Nat.add_assoc, Nat.add_sub_cancel]
  have dm : g.length - (e + 1) ≤ g.length - e := Nat.sub_le_sub_left (Nat.le_succ _) _
  by_cases hlt : best < ps.length
  · rw [if_pos hlt]
    have h3 := h3 hlt
    obtain ⟨j, hj⟩ : ∃ j, ps.length = j + (best + 1) := ⟨ps.length - (best + 1), (Nat.sub_add_cancel hlt).symm⟩
    have e1 : ps.length - (best + 1) = j := by rw [hj, Nat.add_sub_cancel]
    have e0 : ps.length - 1 - best = j := by rw [Nat.sub_sub, Nat.add_comm 1 best, e1]
    have e2 : ps.length - best = j + 1 := by rw [hj, Nat.add_comm best 1, ← Nat.add_assoc, Nat.add_sub_cancel]
    have hx : j < ps.length := by rw [hj]; exact Nat.lt_add_of_pos_right (Nat.succ_pos _)
    have hpl := ne_pos (hp _ (getD_mem hx))
    rw [e0, d1]
    rw [e1, d2] at h3
    generalize hq : ps.getD j [] = q at *
    have ar1 : ∀ n, n ≤ e + 1 → g.length - (e + 1 - n) = d + n := fun n h => by
      rw [hd, Nat.add_sub_assoc (Nat.sub_le _ _), Nat.sub_sub_self h]
    have le1 : e + 1 - q.length ≤ e := Nat.sub_le_of_le_add (Nat.add_le_add_left hpl e)
    have key : Fits g (ps.drop j) d g.length ↔ ((g.take (d + q.length)).drop d = q ∧ cs.getD (e + 1 - q.length) 0 = best) := by
      rw [drop_cons hx, hq]
      have hcc := hc (e + 1 - q.length) le1
      constructor
      · rintro ⟨i, k1, k2, k3⟩
        have hi : i = d := by
          rcases Nat.lt_or_ge d i with h | h
          · refine absurd ?_ h3
            rw [drop_cons hx, hq]
            exact ⟨i, h, k2, k3⟩
          · exact Nat.le_antisymm h k1
        subst hi
        have hs : q.length ≤ e + 1 := by have := k2.1; rw [hd] at this; exact Nat.le_of_add_le_add_left this
        rw [← ar1 _ hs, ← e2] at k3
        have k4 := (end_iff hcc (Nat.le_of_lt hlt)).mp k3
        have k5 := (end_iff h0 hcc.1).mp (fits_mono (Nat.sub_le_sub_left le1 _) (Nat.le_refl _) hcc.2.1)
        refine ⟨?_, Nat.le_antisymm k5 k4⟩
        rw [List.drop_take, Nat.add_sub_cancel_left]
        exact k2.2
      · rintro ⟨k1, k2⟩
        have hlen := congrArg List.length k1
        rw [List.length_drop, List.length_take] at hlen
        have hs : q.length ≤ e + 1 := by
          have h := Nat.sub_le_sub_right (Nat.min_le_right (d + q.length) g.length) d
          rw [hlen, hd, Nat.add_sub_cancel_left] at h
          exact h
        refine ⟨d, Nat.le_refl _, ⟨by rw [hd]; exact Nat.add_le_add_left hs d, ?_⟩, ?_⟩
        · rw [List.drop_take, Nat.add_sub_cancel_left] at k1
          exact k1
        · have := hcc.2.1
          rw [k2, e2, ar1 _ hs] at this
          exact this
    by_cases hf : Fits g (ps.drop j) d g.length
    · rw [if_pos (key.mp hf)]
      refine ⟨hlt, by rw [e1, d1]; exact hf, fun hlt2 hf2 => ?_⟩
      have hy : ps.length - (best + 1 + 1) < ps.length := Nat.sub_lt (Nat.lt_of_le_of_lt (Nat.zero_le _) hlt) (Nat.succ_pos _)
      have hy1 : ps.length - (best + 1 + 1) + 1 = j := by rw [← e1, ← Nat.sub_sub]; exact Nat.sub_add_cancel (Nat.sub_pos_of_lt hlt2)
      rw [drop_cons hy, hy1, d1] at hf2
      obtain ⟨i, k1, k2, k3⟩ := hf2
      exact h3 (fits_mono (Nat.add_le_add k1 (ne_pos (hp _ (getD_mem hy)))) (Nat.le_refl _) k3)
    · rw [if_neg (fun h => hf (key.mpr h))]
      exact ⟨h1, fits_mono dm (Nat.le_refl _) h2, fun _ => by rw [e1, d1]; exact hf⟩
  · rw [if_neg hlt]
    exact ⟨h1, fits_mono dm (Nat.le_refl _) h2, fun h => absurd h hlt⟩
theorem endsTo_ok {g : List Nat} {ps : List (List Nat)} (hp : ∀ p ∈ ps, p ≠ []) : ∀ e, e ≤ g.length → ∀ k, k ≤ e → IsEnd g ps k ((endsTo g ps e).getD k 0)
  | 0, _, k, hk => by
    have : k = 0 := Nat.le_zero.mp hk
    subst this
    exact end_zero hp
  | e + 1, he, k, hk => by
    have ih := endsTo_ok (g := g) hp e (Nat.le_of_succ_le he)
    have hl := endsTo_len g ps e
    show IsEnd g ps k ((endsTo g ps e ++ [endNext g ps (endsTo g ps e) (e + 1)]).getD k 0)
    rcases Nat.lt_or_ge k (e + 1) with h | h
    · rw [getD_snoc_lt (cs := endsTo g ps e) (by rw [hl]; exact h)]
      exact ih k (Nat.le_of_lt_succ h)
    · have : k = e + 1 := Nat.le_antisymm hk h
      subst this
      have := getD_snoc_eq (cs := endsTo g ps e) (x := endNext g ps (endsTo g ps e) (e + 1))
      rw [hl] at this
      rw [this]
      exact end_step hp he ih
theorem ends_end {g : List Nat} {ps : List (List Nat)} (hp : ∀ p ∈ ps, p ≠ []) {k : Nat} (hk : k ≤ g.length) : IsEnd g ps k ((ends g ps).getD k 0) := endsTo_ok hp _ (Nat.le_refl _) k hk
end
section
/- the words of a name, the row -/
theorem glue_two (sep p q : List Nat) (r : List (List Nat)) : glue sep (p :: q :: r) = p ++ sep ++ glue sep (q :: r) := rfl
theorem words_of : ∀ name : List Nat, ∃ ws : List (List Nat), ws ≠ [] ∧ (∀ w ∈ ws, 34 ∉ w) ∧ glue [34] ws = name
  | [] => ⟨[[]], by simp, by simp, rfl⟩
  | c :: r => by
    obtain ⟨ws, h1, h2, h3⟩ := words_of r
    match ws, h1, h2, h3 with
    | w :: ws', _, h2, h3 =>
      by_cases hc : c = 34
      · subst hc
        refine ⟨[] :: w :: ws', by simp, ?_, ?_⟩
        · intro x hx
          rcases List.mem_cons.mp hx with rfl | hx
          · simp
          · exact h2 x hx
        · rw [glue_two, h3]; rfl
      · refine ⟨(c :: w) :: ws', by simp, ?_, ?_⟩
        · intro x hx
          rcases List.mem_cons.mp hx with rfl | hx
          · intro h
            rcases List.mem_cons.mp h with h | h
            · exact hc h.symm
            · exact h2 w (.head _) h
          · exact h2 x (.tail _ hx)
        · rw [← h3]
          cases ws' with
          | nil => rfl
          | cons q t => rfl
noncomputable def flat : List (List Nat) → List Nat
  | [] => []
  | w :: r => 34 :: (w ++ 34 :: flat r)
theorem flat_append : ∀ a b : List (List Nat), flat (a ++ b) = flat a ++ flat b
  | [], b => rfl
  | w :: r, b => by
    show 34 :: (w ++ 34 :: flat (r ++ b)) = (34 :: (w ++ 34 :: flat r)) ++ flat b
    rw [flat_append r b]; simp
theorem flat_glue : ∀ ws : List (List Nat), ws ≠ [] → flat ws = 34 :: (glue [34, 34] ws ++ [34])
  | [w], _ => rfl
  | w :: q :: r, _ => by
    show 34 :: (w ++ 34 :: flat (q :: r)) = _
    rw [flat_glue (q :: r) (by simp), glue_two]; simp
theorem flat_len : ∀ ws : List (List Nat), ws ≠ [] → (flat ws).length = 1 + ws.length + (glue [34] ws).length
  | [w], _ => by simp [flat, glue]; (first | lia | omega)
  | w :: q :: r, _ => by
    have ih := flat_len (q :: r) (by simp)
    show (34 :: (w ++ 34 :: flat (q :: r))).length = _
    rw [glue_two]
    simp only [List.length_cons, List.length_append, List.length_nil] at ih ⊢
    (first | lia | omega)
noncomputable def rowOf (ws : List (List Nat)) (tl : List Nat) : List Nat := [50, 53, 55, 32] ++ (flat ws ++ tl)
theorem plc_flat (ws : List (List Nat)) : ∀ k, k ≤ ws.length → plc ws k = 4 + (flat (ws.take k)).length
  | 0, _ => rfl
  | k + 1, h => by
    have hk : k < ws.length := h
    show plc ws k + _ = _
    rw [plc_flat ws k (by first | lia | omega), take_snoc hk, flat_append]
    simp only [List.length_append, flat, List.length_cons, List.length_nil]
    (first | lia | omega)
theorem row_split (ws : List (List Nat)) (tl : List Nat) (k : Nat) : rowOf ws tl = ([50, 53, 55, 32] ++ flat (ws.take k)) ++ (flat (ws.drop k) ++ tl) := by
  unfold rowOf
  have : flat ws = flat (ws.take k) ++ flat (ws.drop k) := by rw [← flat_append, List.take_append_drop]
  rw [this]; simp
theorem row_take {ws : List (List Nat)} {tl : List Nat} {k : Nat} (hk : k ≤ ws.length) : (rowOf ws tl).take (plc ws k) = [50, 53, 55, 32] ++ flat (ws.take k) := by
  rw [plc_flat ws k hk, row_split ws tl k]
  exact List.take_left' (by simp; (first | lia | omega))
theorem row_drop {ws : List (List Nat)} {tl : List Nat} {k : Nat} (hk : k ≤ ws.length) : (rowOf ws tl).drop (plc ws k) = flat (ws.drop k) ++ tl := by
  rw [plc_flat ws k hk, row_split ws tl k]
  exact List.drop_left' (by simp; (first | lia | omega))
/- parse257 -/
theorem parse_free : ∀ (w z : List Nat), 34 ∉ w → parseGo (w ++ z) = w ++ parseGo z
  | [], z, _ => rfl
  | c :: r, z, h => by
    have hc : c ≠ 34 := fun e => h (by rw [e]; exact .head _)
    show parseGo (c :: (r ++ z)) = c :: (r ++ parseGo z)
    rw [parseGo, parse_free r z (fun e => h (.tail _ e))]
    · intro r' e; exact absurd e hc
    · exact hc
theorem parse_glue : ∀ (ws : List (List Nat)) (z : List Nat), ws ≠ [] → (∀ w ∈ ws, 34 ∉ w) → parseGo (glue [34, 34] ws ++ z) = glue [34] ws ++ parseGo z
  | [w], z, _, h => parse_free w z (h w (.head _))
  | w :: q :: r, z, _, h => by
    rw [glue_two, glue_two, List.append_assoc, List.append_assoc, parse_free w _ (h w (.head _)), List.append_assoc, List.append_assoc]
    congr 1
    show parseGo (34 :: 34 :: (glue [34, 34] (q :: r) ++ z)) = [34] ++ (glue [34] (q :: r) ++ parseGo z)
    rw [parseGo, parse_glue (q :: r) z (by simp) (fun x hx => h x (.tail _ hx))]; rfl
theorem parse_row (ws : List (List Nat)) (z : List Nat) (h1 : ws ≠ []) (h2 : ∀ w ∈ ws, 34 ∉ w) : parseP ([50, 53, 55, 32, 34] ++ (glue [34, 34] ws ++ z)) = glue [34] ws ++ parseGo z := by
  unfold parseP
  rw [if_pos (by rfl)]
  exact parse_glue ws z h1 h2
theorem take_ne {ws : List (List Nat)} {k : Nat} (h1 : 1 ≤ k) (h2 : k ≤ ws.length) : ws.take k ≠ [] := fun e => by
  have := congrArg List.length e
  rw [List.length_take] at this
  simp at this
  rcases this with h | h
  · (first | lia | omega)
  · rw [h] at h2; simp at h2; (first | lia | omega)
theorem take_free {ws : List (List Nat)} (h : ∀ w ∈ ws, 34 ∉ w) (k : Nat) : ∀ w ∈ ws.take k, 34 ∉ w := fun w hw => h w (List.mem_of_mem_take hw)
theorem drop_free {ws : List (List Nat)} (h : ∀ w ∈ ws, 34 ∉ w) (k : Nat) : ∀ w ∈ ws.drop k, 34 ∉ w := fun w hw => h w (List.mem_of_mem_drop hw)
theorem read1_ok {ws : List (List Nat)} {tl : List Nat} {k : Nat} (hf : ∀ w ∈ ws, 34 ∉ w) (h1 : 1 ≤ k) (h2 : k ≤ ws.length) : parseP ((rowOf ws tl).take (plc ws k)) = dueOf ws k := by
  rw [row_take h2, flat_glue _ (take_ne h1 h2)]
  have := parse_row (ws.take k) [34] (take_ne h1 h2) (take_free hf k)
  rw [show ([50, 53, 55, 32] : List Nat) ++ 34 :: (glue [34, 34] (ws.take k) ++ [34]) = [50, 53, 55, 32, 34] ++ (glue [34, 34] (ws.take k) ++ [34]) from rfl, this]
  show dueOf ws k ++ parseGo [34] = _
  rw [show parseGo [34] = [] from by decide]; simp
theorem read2_ok {ws : List (List Nat)} {tl : List Nat} {k : Nat} (hf : ∀ w ∈ ws, 34 ∉ w) (h1 : 1 ≤ k) (h2 : k ≤ ws.length) : parseP ((rowOf ws tl).take (plc ws k - 1)) = dueOf ws k := by
  have e : (rowOf ws tl).take (plc ws k - 1) = [50, 53, 55, 32, 34] ++ (glue [34, 34] (ws.take k) ++ []) := by
    have := row_take (tl := tl) h2
    have e2 : (rowOf ws tl).take (plc ws k - 1) = ((rowOf ws tl).take (plc ws k)).take (plc ws k - 1) := by rw [List.take_take, Nat.min_eq_left (by first | lia | omega)]
    rw [e2, this, flat_glue _ (take_ne h1 h2), plc_flat ws k h2, flat_glue _ (take_ne h1 h2)]
    rw [show ([50, 53, 55, 32] : List Nat) ++ 34 :: (glue [34, 34] (ws.take k) ++ [34]) = ([50, 53, 55, 32, 34] ++ (glue [34, 34] (ws.take k) ++ [])) ++ [34] by simp]
    exact List.take_left' (by simp; (first | lia | omega))
  rw [e, parse_row _ _ (take_ne h1 h2) (take_free hf k)]
  show dueOf ws k ++ [] = _
  simp
theorem read3_ok {ws : List (List Nat)} {tl : List Nat} {k : Nat} (hf : ∀ w ∈ ws, 34 ∉ w) (h1 : 1 ≤ k) (h2 : k < ws.length) : parseP ((rowOf ws tl).take (plc ws k + 1)) = dueOf ws k ++ [34] := by
  have hle : k ≤ ws.length := by first | lia | omega
  have e : (rowOf ws tl).take (plc ws k + 1) = [50, 53, 55, 32, 34] ++ (glue [34, 34] (ws.take k) ++ [34, 34]) := by
    rw [plc_flat ws k hle, row_split ws tl k, drop_cons h2]
    rw [show ([50, 53, 55, 32] ++ flat (ws.take k)) ++ (flat (ws.getD k [] :: ws.drop (k + 1)) ++ tl) = ([50, 53, 55, 32] ++ flat (ws.take k) ++ [34]) ++ ((ws.getD k [] ++ 34 :: flat (ws.drop (k + 1))) ++ tl) by simp [flat]]
    rw [List.take_left' (by simp; (first | lia | omega)), flat_glue _ (take_ne h1 hle)]
    simp
  rw [e, parse_row _ _ (take_ne h1 hle) (take_free hf k)]
  show dueOf ws k ++ parseGo [34, 34] = _
  rw [show parseGo [34, 34] = [34] from by decide]
/- what may stand behind the name -/
noncomputable def TailOk (tl tail : List Nat) : Prop := (tl = [] ∧ tail = []) ∨ (tl = [32, 109, 97, 100, 101] ∧ tail = [109, 97, 100, 101])
theorem unread_flat {ws : List (List Nat)} {tl tail : List Nat} (hf : ∀ w ∈ ws, 34 ∉ w) (ht : TailOk tl tail) : Unread (flat ws ++ tl) (glue [34] ws) := by
  cases ws with
  | nil =>
    rcases ht with ⟨rfl, _⟩ | ⟨rfl, _⟩
    · exact ⟨by decide, by decide, by decide⟩
    · exact ⟨by decide, by decide, by decide⟩
  | cons w r =>
    have e : flat (w :: r) ++ tl = 34 :: (glue [34, 34] (w :: r) ++ (34 :: tl)) := by rw [flat_glue _ (by simp)]; simp
    refine ⟨?_, ?_, ?_⟩
    · rw [e]; simp
    · rw [e]
      unfold parseP
      rw [if_neg]
      simp
    · rw [e, show ([50, 53, 55, 32] : List Nat) ++ 34 :: (glue [34, 34] (w :: r) ++ (34 :: tl)) = [50, 53, 55, 32, 34] ++ (glue [34, 34] (w :: r) ++ (34 :: tl)) from rfl, parse_row _ _ (by simp) hf]
      rcases ht with ⟨rfl, _⟩ | ⟨rfl, _⟩
      · rw [show parseGo [34] = [] from by decide]; simp
      · rw [show parseGo [34, 32, 109, 97, 100, 101] = [] from by decide]; simp
/- the lexer -/
theorem takeWhile_free : ∀ (w z : List Nat), 34 ∉ w → (w ++ 34 :: z).takeWhile (· != 34) = w
  | [], z, _ => by simp
  | c :: r, z, h => by
    have hc : c ≠ 34 := fun e => h (by rw [e]; exact .head _)
    rw [List.cons_append, List.takeWhile_cons_of_pos (by simpa using hc), takeWhile_free r z (fun e => h (.tail _ e))]
theorem tok_ok {ws : List (List Nat)} {tl : List Nat} {k : Nat} (hf : ∀ w ∈ ws, 34 ∉ w) (hk : k < ws.length) : tokOf ((rowOf ws tl).drop (plc ws k)) = (ws.getD k [], (ws.getD k []).length + 2) := by
  rw [row_drop (Nat.le_of_lt hk), drop_cons hk]
  rw [show flat (ws.getD k [] :: ws.drop (k + 1)) ++ tl = 34 :: (ws.getD k [] ++ 34 :: (flat (ws.drop (k + 1)) ++ tl)) by simp [flat]]
  rw [tok_q, takeWhile_free _ _ (hf _ (getD_mem hk))]
/- the due and the rest in the name -/
theorem glue_append : ∀ (a b : List (List Nat)), a ≠ [] → b ≠ [] → glue [34] (a ++ b) = glue [34] a ++ 34 :: glue [34] b
  | [w], q :: r, _, _ => by
    show glue [34] (w :: q :: r) = _
    rw [glue_two]; simp [glue]
  | w :: q :: r, b, _, hb => by
    show glue [34] (w :: q :: (r ++ b)) = _
    rw [glue_two, glue_two, ← List.cons_append, glue_append (q :: r) b (by simp) hb]
    simp
theorem name_cut {ws : List (List Nat)} {k : Nat} (h1 : 1 ≤ k) (h2 : k < ws.length) : glue [34] ws = dueOf ws k ++ 34 :: restOf ws k := by
  unfold dueOf restOf
  rw [← glue_append _ _ (take_ne h1 (Nat.le_of_lt h2)) (by simpa using h2), List.take_append_drop]
theorem due_all {ws : List (List Nat)} : dueOf ws ws.length = glue [34] ws := by unfold dueOf; rw [List.take_length]
theorem rest_all {ws : List (List Nat)} : restOf ws ws.length = [] := by unfold restOf; rw [List.drop_length]; rfl
theorem due_take {ws : List (List Nat)} {k : Nat} (h1 : 1 ≤ k) (h2 : k ≤ ws.length) : (dueOf ws k).length ≤ (glue [34] ws).length ∧ (glue [34] ws).take (dueOf ws k).length = dueOf ws k := by
  rcases Nat.lt_or_ge k ws.length with h | h
  · rw [name_cut h1 h]
    exact ⟨by simp, List.take_left' rfl⟩
  · have : k = ws.length := by first | lia | omega
    subst this
    rw [due_all]
    exact ⟨Nat.le_refl _, List.take_length⟩
theorem rest_drop {ws : List (List Nat)} {k : Nat} (h1 : 1 ≤ k) (h2 : k ≤ ws.length) : (restOf ws k).length ≤ (glue [34] ws).length ∧ (glue [34] ws).drop ((glue [34] ws).length - (restOf ws k).length) = restOf ws k := by
  rcases Nat.lt_or_ge k ws.length with h | h
  · have e : (glue [34] ws).length - (restOf ws k).length = (dueOf ws k ++ [34]).length := by rw [name_cut h1 h]; simp; (first | lia | omega)
    rw [e, name_cut h1 h]
    refine ⟨by simp; (first | lia | omega), ?_⟩
    rw [show dueOf ws k ++ 34 :: restOf ws k = (dueOf ws k ++ [34]) ++ restOf ws k by simp]
    exact List.drop_left' rfl
  · have : k = ws.length := by first | lia | omega
    subst this
    rw [rest_all]
    exact ⟨Nat.zero_le _, by simp⟩
theorem quote_pos : ∀ {ws : List (List Nat)} {q : Nat}, ws ≠ [] → (∀ w ∈ ws, 34 ∉ w) → (glue [34] ws)[q]? = some 34 → ∃ k, 1 ≤ k ∧ k < ws.length ∧ q = (dueOf ws k).length
  | [w], q, _, h, hq => absurd (List.mem_of_getElem? hq) (h w (.head _))
  | w :: w2 :: r, q, _, h, hq => by
    rw [glue_two, List.append_assoc] at hq
    rcases Nat.lt_trichotomy q w.length with hl | hl | hl
    · rw [List.getElem?_append_left hl] at hq
      exact absurd (List.mem_of_getElem? hq) (h w (.head _))
    · exact ⟨1, Nat.le_refl _, by simp, hl⟩
    · rw [List.getElem?_append_right (by first | lia | omega), List.getElem?_append_right (by simp; (first | lia | omega))] at hq
      obtain ⟨k, k1, k2, k3⟩ := quote_pos (ws := w2 :: r) (by simp) (fun x hx => h x (.tail _ hx)) hq
      refine ⟨k + 1, by first | lia | omega, by simpa using k2, ?_⟩
      obtain ⟨j, rfl⟩ : ∃ j, k = j + 1 := ⟨k - 1, by first | lia | omega⟩
      have e : dueOf (w :: w2 :: r) (j + 1 + 1) = w ++ [34] ++ dueOf (w2 :: r) (j + 1) := by
        unfold dueOf
        rw [List.take_succ_cons, List.take_succ_cons, glue_two]
      rw [e]
      simp only [List.length_append, List.length_cons, List.length_nil] at k3 ⊢
      (first | lia | omega)
theorem occ_quote {g : List Nat} {q : Nat} : OccAt [34] g q ↔ g[q]? = some 34 := by
  unfold OccAt
  constructor
  · rintro ⟨h1, h2⟩
    have := congrArg (fun z : List Nat => z[0]?) h2
    simp only [List.length_cons, List.length_nil] at this h1
    rw [List.getElem?_take_of_lt (by first | lia | omega), List.getElem?_drop] at this
    simpa using this
  · intro h
    obtain ⟨hlt, he⟩ := List.getElem?_eq_some_iff.mp h
    refine ⟨by simp only [List.length_cons, List.length_nil]; (first | lia | omega), ?_⟩
    rw [List.drop_eq_getElem_cons hlt, he]; simp
end
section
theorem count_S (l : List Nat) (c : Nat) : Txt.count (S l) (S [c]) = ((l.count c : Nat) : Int) := by
  show Txt.count (S l) ⟨#[c]⟩ = _
  rw [count_cnt]
  show cnt c l = _
  induction l with
  | nil => rfl
  | cons a r ih =>
    rw [List.count_cons, cnt_cons, ih]
    by_cases h : a = c
    · subst h
      simp
      (first | lia | omega)
    · simp [h]
theorem nl_lit : Str.ofString "\n" = S [10] := by decide
theorem q34 : Str.ofString "\"" = S [34] := by decide
theorem split_q {ws : List (List Nat)} (h1 : ws ≠ []) (h2 : ∀ w ∈ ws, 34 ∉ w) : Txt.split (S (glue [34] ws)) (Str.ofString "\"") = ws.map S := by
  rw [q34]
  exact split_glue (c := 34) (y' := []) h1 h2 (by decide +kernel)
theorem replace_q {ws : List (List Nat)} (h1 : ws ≠ []) (h2 : ∀ w ∈ ws, 34 ∉ w) : Txt.replace (S (glue [34] ws)) (Str.ofString "\"") (Str.ofString "\"\"") = S (glue [34, 34] ws) := by
  have e := split_q h1 h2
  rw [q34] at e ⊢
  rw [show Str.ofString "\"\"" = S [34, 34] from by decide]
  have := StrLaws.replace_one (S (glue [34] ws)) (S [34, 34]) 34
  show Txt.replace (S (glue [34] ws)) ⟨#[34]⟩ (S [34, 34]) = _
  rw [this]
  show Str.join (S [34, 34]) (Txt.split (S (glue [34] ws)) (S [34])) = _
  rw [e, join_S]
theorem flat_mem {ws : List (List Nat)} {c : Nat} (h1 : ws ≠ []) (h : c ∈ flat ws) : c = 34 ∨ c ∈ glue [34] ws := by
  induction ws with
  | nil => cases h
  | cons w r ih =>
    rcases List.mem_cons.mp (show c ∈ 34 :: (w ++ 34 :: flat r) from h) with ha | ha
    · exact .inl ha
    · rcases List.mem_append.mp ha with hb | hb
      · cases r with
        | nil => exact .inr hb
        | cons q t => exact .inr (by rw [glue_two]; simp [hb])
      · rcases List.mem_cons.mp hb with hd | hd
        · exact .inl hd
        · cases r with
          | nil => cases hd
          | cons q t =>
            rcases ih (by simp) hd with he | he
            · exact .inl he
            · exact .inr (by rw [glue_two]; simp [he])
theorem sum_glue : ∀ ws : List (List Nat), ws ≠ [] → (ws.map List.length).sum + ws.length = (glue [34] ws).length + 1
  | [w], _ => by simp [glue]
  | w :: q :: r, _ => by
    have ih := sum_glue (q :: r) (by simp)
    rw [glue_two]
    simp only [List.map_cons, List.sum_cons, List.length_cons, List.length_append, List.length_nil] at ih ⊢
    (first | lia | omega)
theorem tail_tok {ws : List (List Nat)} {tl tail : List Nat} (ht : TailOk tl tail) : ∃ a, tokOf ((rowOf ws tl).drop (plc ws ws.length)) = (tail, a) ∧ (rowOf ws tl).length ≤ plc ws ws.length + a := by
  have hl : (rowOf ws tl).length = plc ws ws.length + tl.length := by
    rw [plc_flat ws _ (Nat.le_refl _), List.take_length]; unfold rowOf; simp; (first | lia | omega)
  rw [row_drop (Nat.le_refl _), List.drop_length, hl]
  show ∃ a, tokOf tl = _ ∧ _
  rcases ht with ⟨rfl, rfl⟩ | ⟨rfl, rfl⟩
  · exact ⟨1, rfl, by simp⟩
  · exact ⟨6, by decide, by simp⟩
theorem fit_pos {name : List Nat} {ps : List (List Nat)} (hp : ∀ p ∈ ps, p ≠ []) : ∀ p ∈ fitOf name ps, p ≠ [] := fun p h => hp p (List.mem_of_mem_take h)
theorem parted_plain {ws ps : List (List Nat)} (h1 : ws ≠ []) (h2 : ∀ w ∈ ws, 34 ∉ w) (hp : ∀ p ∈ ps, p ≠ []) (j : Nat) (hj : j ≤ (fitOf (glue [34] ws) ps).length) :
    foundGo ((fitOf (glue [34] ws) ps).take j ++ [[34]] ++ (fitOf (glue [34] ws) ps).drop j) (glue [34] ws) 0 = (stopsTo (glue [34] ws) ps ws (ws.length - 1)).any fun p => decide (j ≤ p.1 ∧ (fitOf (glue [34] ws) ps).length - j ≤ p.2) := by
  have hfl : (fitOf (glue [34] ws) ps).length ≤ ps.length := by unfold fitOf; rw [List.length_take]; exact Nat.min_le_right _ _
  have htk : (fitOf (glue [34] ws) ps).take j = ps.take j := by
    unfold fitOf at hj ⊢
    rw [List.length_take] at hj
    rw [List.take_take, Nat.min_eq_left (Nat.le_trans hj (Nat.min_le_left _ _))]
  have main : ∀ q, q + 1 ≤ (glue [34] ws).length → ((Fits (glue [34] ws) ((fitOf (glue [34] ws) ps).take j) 0 q ∧ Fits (glue [34] ws) ((fitOf (glue [34] ws) ps).drop j) (q + 1) (glue [34] ws).length) ↔
      j ≤ (fronts (glue [34] ws) ps).getD q 0 ∧ (fitOf (glue [34] ws) ps).length - j ≤ (ends (glue [34] ws) (fitOf (glue [34] ws) ps)).getD ((glue [34] ws).length - (q + 1)) 0) := by
    intro q hq
    rw [htk, front_iff (fronts_front hp (Nat.le_of_succ_le hq)) (Nat.le_trans hj hfl)]
    have e := end_iff (ends_end (g := glue [34] ws) (fit_pos (name := glue [34] ws) hp) (k := (glue [34] ws).length - (q + 1)) (Nat.sub_le _ _)) (j := (fitOf (glue [34] ws) ps).length - j) (Nat.sub_le _ _)
    rw [Nat.sub_sub_self hj, Nat.sub_sub_self hq] at e
    rw [e]
  rw [Bool.eq_iff_iff, found_iff _ _ _ (Nat.zero_le _), List.any_eq_true]
  constructor
  · intro hf
    rw [List.append_assoc, fits_append] at hf
    obtain ⟨c, k1, q, k2, k3, k4⟩ := hf
    have hq34 := occ_quote.mp k3
    obtain ⟨k, m1, m2, m3⟩ := quote_pos h1 h2 hq34
    have hlt := (List.getElem?_eq_some_iff.mp hq34).1
    have k5 : Fits (glue [34] ws) ((fitOf (glue [34] ws) ps).drop j) (q + 1) (glue [34] ws).length := k4
    have := (main q hlt).mp ⟨fits_mono (Nat.le_refl _) k2 k1, k5⟩
    refine ⟨(aheadOf (glue [34] ws) ps ws k, behindOf (glue [34] ws) ps ws k), ?_, ?_⟩
    · unfold stopsTo
      refine List.mem_map.mpr ⟨k - 1, List.mem_range.mpr (Nat.sub_lt_sub_right m1 m2), ?_⟩
      rw [Nat.sub_add_cancel m1]
    · have hcut := congrArg List.length (name_cut m1 m2)
      simp only [List.length_append, List.length_cons] at hcut
      refine decide_eq_true ?_
      show j ≤ (fronts (glue [34] ws) ps).getD (dueOf ws k).length 0 ∧ _ ≤ (ends (glue [34] ws) (fitOf (glue [34] ws) ps)).getD (restOf ws k).length 0
      rw [← m3, show (restOf ws k).length = (glue [34] ws).length - (q + 1) by rw [hcut, m3, Nat.add_comm (restOf ws k).length 1, ← Nat.add_assoc, Nat.add_sub_cancel_left]]
      exact this
  · rintro ⟨p, hm, hd⟩
    unfold stopsTo at hm
    obtain ⟨i, hi, rfl⟩ := List.mem_map.mp hm
    have hi2 := List.mem_range.mp hi
    have m1 : 1 ≤ i + 1 := Nat.le_add_left 1 i
    have m2 : i + 1 < ws.length := Nat.add_lt_of_lt_sub hi2
    have hcut := name_cut m1 m2
    have hlen := congrArg List.length hcut
    simp only [List.length_append, List.length_cons] at hlen
    have hd2 : j ≤ (fronts (glue [34] ws) ps).getD (dueOf ws (i + 1)).length 0 ∧ (fitOf (glue [34] ws) ps).length - j ≤ (ends (glue [34] ws) (fitOf (glue [34] ws) ps)).getD (restOf ws (i + 1)).length 0 := of_decide_eq_true hd
    rw [show (restOf ws (i + 1)).length = (glue [34] ws).length - ((dueOf ws (i + 1)).length + 1) by rw [hlen, Nat.add_comm (restOf ws (i + 1)).length 1, ← Nat.add_assoc, Nat.add_sub_cancel_left]] at hd2
    obtain ⟨f1, f2⟩ := (main (dueOf ws (i + 1)).length (by rw [hlen]; exact Nat.add_le_add_left (Nat.le_add_left 1 _) _)).mpr hd2
    rw [List.append_assoc, fits_append]
    refine ⟨_, f1, (dueOf ws (i + 1)).length, Nat.le_refl _, occ_quote.mpr ?_, f2⟩
    rw [hcut, List.getElem?_append_right (Nat.le_refl _)]; simp
theorem plain_ok (name tl tail : List Nat) (ps : List (List Nat)) (hl : name.length ≤ 20) (hc : ∀ c ∈ name, c < 0x110000) (hb : 92 ∉ name) (hps : PB ps) (hps2 : (ps.map List.length).sum + ps.length * 3 < 890) (ht : TailOk tl tail) :
    ∃ ws, ws ≠ [] ∧ (∀ w ∈ ws, 34 ∉ w) ∧ glue [34] ws = name ∧ Plain (rowOf ws tl) name tail ps ws := by
  obtain ⟨ws, h1, h2, h3⟩ := words_of name
  refine ⟨ws, h1, h2, h3, ?_⟩
  subst h3
  have hp : ∀ p ∈ ps, p ≠ [] := fun p h => (hps.1 p h).2
  have hsum := sum_glue ws h1
  have hwl : 1 ≤ ws.length := List.length_pos_iff.mpr h1
  have htl : tl.length ≤ 5 ∧ tail.length ≤ 4 ∧ (∀ c ∈ tl, c < 0x110000 ∧ c ≠ 92) ∧ ∀ c ∈ tail, c < 0x110000 := by
    rcases ht with ⟨rfl, rfl⟩ | ⟨rfl, rfl⟩
    · exact ⟨by decide, by decide, by decide, by decide⟩
    · exact ⟨by decide, by decide, by decide, by decide⟩
  have hrl : (rowOf ws tl).length = 5 + ws.length + (glue [34] ws).length + tl.length := by
    unfold rowOf
    have := flat_len ws h1
    simp only [List.length_append, List.length_cons, List.length_nil]
    (first | lia | omega)
  have hrm : ∀ c ∈ rowOf ws tl, c < 0x110000 ∧ c ≠ 92 := by
    intro c hm
    unfold rowOf at hm
    rcases List.mem_append.mp hm with hm | hm
    · simp at hm
      rcases hm with rfl | rfl | rfl | rfl <;> decide
    · rcases List.mem_append.mp hm with hm | hm
      · rcases flat_mem h1 hm with rfl | hm
        · decide
        · exact ⟨hc c hm, fun e => hb (e ▸ hm)⟩
      · exact htl.2.2.1 c hm
  have hfr : ∀ k, 1 ≤ k → k ≤ ws.length → IsFront (glue [34] ws) ps (dueOf ws k).length (aheadOf (glue [34] ws) ps ws k) := fun k k1 k2 => fronts_front hp (due_take k1 k2).1
  have hen : ∀ k, 1 ≤ k → k ≤ ws.length → IsEnd (glue [34] ws) (fitOf (glue [34] ws) ps) (restOf ws k).length (behindOf (glue [34] ws) ps ws k) := fun k k1 k2 => ends_end (fit_pos hp) (rest_drop k1 k2).1
  exact {
    rowlen := by first | lia | omega
    namelen := by first | lia | omega
    taillen := by first | lia | omega
    pb := hps
    pb2 := hps2
    row3 := rfl
    chars := fun c h => (hrm c h).1
    tailchars := htl.2.2.2
    count := by rw [nl_lit]; exact count_S _ _
    noslash := fun h => (hrm 92 h).2 rfl
    split := split_q h1 h2
    wne := hwl
    wsum := by first | lia | omega
    wlen := by first | lia | omega
    tok0 := by
      obtain ⟨w, r, rfl⟩ : ∃ w r, ws = w :: r := by
        cases ws with
        | nil => exact absurd rfl h1
        | cons w r => exact ⟨w, r, rfl⟩
      unfold rowOf
      show tokOf (50 :: 53 :: 55 :: 32 :: _) = _
      rw [tok_p (by decide) (by decide)]
      rfl
    un0 := by
      have := unread_flat h2 ht
      exact this
    plcEq := fun k k1 k2 => by
      have hk : (ws.take k).length = k := by rw [List.length_take]; (first | lia | omega)
      rw [plc_flat ws k k2, flat_len _ (take_ne k1 k2), hk]
      show _ = 5 + k + (glue [34] (ws.take k)).length
      (first | lia | omega)
    plcLe := fun k k2 => by
      rw [plc_flat ws k k2, row_split ws tl k]
      simp only [List.length_append, List.length_cons, List.length_nil]
      (first | lia | omega)
    dueLe := fun k k2 => by
      rcases Nat.eq_zero_or_pos k with rfl | k1
      · exact Nat.zero_le _
      · exact (due_take k1 k2).1
    restLe := fun k k2 => by
      rcases Nat.eq_zero_or_pos k with rfl | k1
      · exact Nat.le_of_eq (by unfold restOf; rw [List.drop_zero])
      · exact (rest_drop k1 k2).1
    tok := fun k k2 => tok_ok h2 k2
    read1 := fun k k1 k2 => read1_ok h2 k1 k2
    read2 := fun k k1 k2 => read2_ok h2 k1 k2
    read3 := fun k k1 k2 => read3_ok h2 k1 k2
    un := fun k k1 k2 => by rw [row_drop k2]; exact unread_flat (drop_free h2 k) ht
    first0 := fun k k1 k2 => (hfr k k1 k2).1
    first1 := fun k k1 k2 => by
      have := (found_pre (ps := ps.take (aheadOf (glue [34] ws) ps ws k)) (due_take k1 k2).1).mpr (hfr k k1 k2).2.1
      rwa [(due_take k1 k2).2] at this
    first2 := fun k k1 k2 hne => by
      have hlt : aheadOf (glue [34] ws) ps ws k < ps.length := Nat.lt_of_le_of_ne (hfr k k1 k2).1 hne
      have h5 := (hfr k k1 k2).2.2 hlt
      have h6 := found_pre (ps := ps.take (aheadOf (glue [34] ws) ps ws k + 1)) (due_take k1 k2).1
      rw [(due_take k1 k2).2] at h6
      cases hf : foundGo (ps.take (aheadOf (glue [34] ws) ps ws k + 1)) (dueOf ws k) 0 with
      | false => rfl
      | true => exact absurd (h6.mp hf) h5
    last0 := fun k k1 k2 => (hen k k1 k2).1
    last1 := fun k k1 k2 => by
      have := (found_suf (ps := (fitOf (glue [34] ws) ps).drop ((fitOf (glue [34] ws) ps).length - behindOf (glue [34] ws) ps ws k)) (Nat.sub_le _ _)).mpr (hen k k1 k2).2.1
      rwa [(rest_drop k1 k2).2] at this
    last2 := fun k k1 k2 hne => by
      have hlt : behindOf (glue [34] ws) ps ws k < (fitOf (glue [34] ws) ps).length := Nat.lt_of_le_of_ne (hen k k1 k2).1 hne
      have h5 := (hen k k1 k2).2.2 hlt
      have h6 := found_suf (g := glue [34] ws) (d := (glue [34] ws).length - (restOf ws k).length) (ps := (fitOf (glue [34] ws) ps).drop ((fitOf (glue [34] ws) ps).length - (behindOf (glue [34] ws) ps ws k + 1))) (Nat.sub_le _ _)
      rw [(rest_drop k1 k2).2] at h6
      rw [show (fitOf (glue [34] ws) ps).length - behindOf (glue [34] ws) ps ws k - 1 = (fitOf (glue [34] ws) ps).length - (behindOf (glue [34] ws) ps ws k + 1) by first | lia | omega]
      cases hf : foundGo ((fitOf (glue [34] ws) ps).drop ((fitOf (glue [34] ws) ps).length - (behindOf (glue [34] ws) ps ws k + 1))) (restOf ws k) 0 with
      | false => rfl
      | true => exact absurd (h6.mp hf) h5
    parted := fun j hj => parted_plain h1 h2 hp j hj
    tailTok := tail_tok ht }
end
section
theorem sign_good (n : Int) : signN n ≠ 46 ∧ signN n ≠ 92 ∧ signN n < 0x110000 := by
  refine ⟨(signN_free n).1, (signN_free n).2.2, ?_⟩
  unfold signN
  split
  · decide
  · unfold signC
    have h := fm8 n
    have e : ∃ k : Nat, k < 8 ∧ (Int.fmod n 8).toNat = k := ⟨_, by first | lia | omega, rfl⟩
    obtain ⟨k, hk, e⟩ := e
    rw [e]
    have hm : Int.fmod (Int.fdiv n 8) 50000 < 50000 := by
      rw [Int.fmod_eq_emod_of_nonneg _ (by decide)]; (first | lia | omega)
    rcases (by first | lia | omega : k = 0 ∨ k = 1 ∨ k = 2 ∨ k = 3 ∨ k = 4 ∨ k = 5 ∨ k = 6 ∨ k = 7) with rfl | rfl | rfl | rfl | rfl | rfl | rfl | rfl
    all_goals first
      | (show (32 + Int.fmod (Int.fdiv n 8) 50000).toNat < 1114112; (first | lia | omega))
      | (show (97 : Nat) < 1114112; decide)
      | (show (98 : Nat) < 1114112; decide)
      | (show (32 : Nat) < 1114112; decide)
      | (show (10 : Nat) < 1114112; decide)
      | (show (35 : Nat) < 1114112; decide)
noncomputable def GoodC (c : Nat) : Prop := c ≠ 46 ∧ c ≠ 92 ∧ c < 0x110000
theorem drawSign_good (n : Int) : GoodC (drawSign n) := by
  unfold drawSign
  split
  · exact ⟨by decide, by decide, by decide⟩
  · exact sign_good _
noncomputable def DrawInv (k : Nat) (st : List Nat × List (List Nat) × List Nat) : Prop :=
  (∀ c ∈ st.1, GoodC c) ∧ (∀ p ∈ st.2.1, ∀ c ∈ p, GoodC c) ∧ (∀ c ∈ st.2.2, GoodC c) ∧ (st.2.1.map List.length).sum + st.2.2.length ≤ k ∧ st.2.1.length ≤ k ∧ st.1.length ≤ k
theorem draw_step_inv {k : Nat} {st : List Nat × List (List Nat) × List Nat} (n : Int) (h : DrawInv k st) : DrawInv (k + 1) (drawStep st n) := by
  obtain ⟨h1, h2, h3, h4, h5, h6⟩ := h
  have hg := drawSign_good n
  have app : ∀ l : List Nat, (∀ c ∈ l, GoodC c) → ∀ c ∈ l ++ [drawSign n], GoodC c := fun l hl c hc => by
    rcases List.mem_append.mp hc with hc | hc
    · exact hl c hc
    · rw [List.mem_singleton.mp hc]; exact hg
  unfold drawStep
  have hq : ∃ q : List (List Nat) × List Nat, q = (if Int.fmod n 8 = 1 ∨ Int.fmod n 8 = 3 ∨ Int.fmod n 8 = 6 then (st.2.1 ++ [st.2.2], []) else st.2) ∧ (∀ p ∈ q.1, ∀ c ∈ p, GoodC c) ∧ (∀ c ∈ q.2, GoodC c) ∧ (q.1.map List.length).sum + q.2.length ≤ k ∧ q.1.length ≤ k + 1 := by
    refine ⟨_, rfl, ?_⟩
    split
    · refine ⟨?_, by simp, ?_, by simp; (first | lia | omega)⟩
      · intro p hp
        rcases List.mem_append.mp hp with hp | hp
        · exact h2 p hp
        · rw [List.mem_singleton.mp hp]; exact h3
      · simp only [List.map_append, List.sum_append, List.map_cons, List.map_nil, List.sum_cons, List.sum_nil, List.length_nil]; (first | lia | omega)
    · exact ⟨h2, h3, h4, by first | lia | omega⟩
  obtain ⟨q, hq, q1, q2, q3, q4⟩ := hq
  rw [← hq]
  refine ⟨?_, q1, ?_, ?_, q4, ?_⟩
  · dsimp only; split
    · exact app _ h1
    · exact h1
  · dsimp only; split
    · exact app _ q2
    · exact q2
  · dsimp only; split
    · rw [List.length_append, List.length_singleton]; (first | lia | omega)
    · (first | lia | omega)
  · dsimp only; split
    · rw [List.length_append, List.length_singleton]; (first | lia | omega)
    · (first | lia | omega)
theorem draw_inv : ∀ (ns : List Int) {k : Nat} {st : List Nat × List (List Nat) × List Nat}, DrawInv k st → DrawInv (k + ns.length) (ns.foldl drawStep st)
  | [], _, _, h => h
  | n :: r, k, st, h => by
    have := draw_inv r (draw_step_inv n h)
    rw [List.foldl_cons, List.length_cons, show k + (r.length + 1) = k + 1 + r.length by first | lia | omega]
    exact this
theorem sum_filter (f : List Nat → Bool) : ∀ ps : List (List Nat), ((ps.filter f).map List.length).sum ≤ (ps.map List.length).sum
  | [] => Nat.le_refl _
  | p :: r => by
    have ih := sum_filter f r
    rw [List.filter_cons]
    split <;> simp only [List.map_cons, List.sum_cons] <;> (first | lia | omega)
theorem drawn_plain (ns : List Int) (hl : ns.length ≤ 10) : (drawAll ns).1.length ≤ 10 ∧ (∀ c ∈ (drawAll ns).1, c < 0x110000) ∧ 92 ∉ (drawAll ns).1 ∧
    PB (keepNE ((drawAll ns).2.1 ++ [(drawAll ns).2.2])) ∧ ((keepNE ((drawAll ns).2.1 ++ [(drawAll ns).2.2])).map List.length).sum + (keepNE ((drawAll ns).2.1 ++ [(drawAll ns).2.2])).length * 3 < 890 := by
  obtain ⟨h1, h2, h3, h4, h5, h6⟩ := draw_inv ns (k := 0) (st := ([], [], [])) ⟨by simp, by simp, by simp, by simp, by simp, by simp⟩
  change ∀ c ∈ (drawAll ns).1, GoodC c at h1
  change ∀ p ∈ (drawAll ns).2.1, ∀ c ∈ p, GoodC c at h2
  change ∀ c ∈ (drawAll ns).2.2, GoodC c at h3
  change ((drawAll ns).2.1.map List.length).sum + (drawAll ns).2.2.length ≤ _ at h4
  change (drawAll ns).2.1.length ≤ _ at h5
  change (drawAll ns).1.length ≤ _ at h6
  rw [keep_filter]
  have hs := sum_filter (fun q => decide (q ≠ [])) ((drawAll ns).2.1 ++ [(drawAll ns).2.2])
  have hfl := List.length_filter_le (fun q => decide (q ≠ [])) ((drawAll ns).2.1 ++ [(drawAll ns).2.2])
  rw [List.map_append, List.sum_append] at hs
  rw [List.length_append, List.length_singleton] at hfl
  simp only [List.map_cons, List.map_nil, List.sum_cons, List.sum_nil] at hs
  refine ⟨by first | lia | omega, fun c hc => (h1 c hc).2.2, fun hc => (h1 92 hc).2.1 rfl, ⟨?_, by first | lia | omega⟩, by first | lia | omega⟩
  intro p hp
  obtain ⟨hp1, hp2⟩ := List.mem_filter.mp hp
  refine ⟨fun hc => ?_, of_decide_eq_true hp2⟩
  rcases List.mem_append.mp hp1 with hp1 | hp1
  · exact (h2 p hp1 46 hc).1 rfl
  · rw [List.mem_singleton.mp hp1] at hc
    exact (h3 46 hc).1 rfl
/- the numbers of a script -/
noncomputable def numsOf (xs : List Int) : List Int := (xs.take 10).map (fun k => Int.fmod k 10000000) ++ ([1, 6, 8, 4, 18, 3, 10] : List Int).drop ((xs.take 10).map (fun k => Int.fmod k 10000000)).length
theorem nums_ok (xs : List Int) : (numsOf xs).length ≤ 10 ∧ ∀ n ∈ numsOf xs, 0 ≤ n ∧ n < 10000000 := by
  refine ⟨?_, ?_⟩
  · unfold numsOf
    simp only [List.length_append, List.length_drop, List.length_map, List.length_take, List.length_cons, List.length_nil]
    have hm := Nat.min_le_left 10 xs.length
    generalize min 10 xs.length = m at *
    (first | lia | omega)
  · intro n hn
    unfold numsOf at hn
    rcases List.mem_append.mp hn with hn | hn
    · obtain ⟨k, _, rfl⟩ := List.mem_map.mp hn
      rw [Int.fmod_eq_emod_of_nonneg _ (by decide)]
      (first | lia | omega)
    · have := List.mem_of_mem_drop hn
      simp only [List.mem_cons, List.not_mem_nil, or_false] at this
      rcases this with rfl | rfl | rfl | rfl | rfl | rfl | rfl <;> decide
theorem ints_drop : ∀ {vs : List Value} {ns : List Int} (k : Nat), IntsAre vs ns → IntsAre (vs.drop k) (ns.drop k)
  | _, _, 0, h => h
  | _, _, _ + 1, .nil => .nil
  | _, _, k + 1, .cons _ _ h => ints_drop k h
theorem ints_app {vs ws : List Value} {ns ms : List Int} (h : IntsAre vs ns) (h2 : IntsAre ws ms) : IntsAre (vs ++ ws) (ns ++ ms) := by
  induction h with
  | nil => exact h2
  | cons n t _ ih => exact .cons n t ih
theorem l257 : Str.ofString "257 \"" = S [50, 53, 55, 32, 34] := by decide
theorem row_text {ws : List (List Nat)} (h1 : ws ≠ []) (h2 : ∀ w ∈ ws, 34 ∉ w) : Str.ofString "257 \"" ++ Txt.replace (S (glue [34] ws)) (Str.ofString "\"") (Str.ofString "\"\"") ++ Str.ofString "\"" = S (rowOf ws []) := by
  rw [replace_q h1 h2, l257, q34, S_app, S_app]
  congr 1
  unfold rowOf
  rw [flat_glue ws h1]
  simp
theorem row_text2 {ws : List (List Nat)} (h1 : ws ≠ []) (h2 : ∀ w ∈ ws, 34 ∉ w) : Str.ofString "257 \"" ++ Txt.replace (S (glue [34] ws)) (Str.ofString "\"") (Str.ofString "\"\"") ++ Str.ofString "\"" ++ Str.ofString " " ++ Str.ofString "made" = S (rowOf ws [32, 109, 97, 100, 101]) := by
  rw [row_text h1 h2, show Str.ofString " " = S [32] from by decide, show Str.ofString "made" = S [109, 97, 100, 101] from by decide, S_app, S_app]
  congr 1
  unfold rowOf
  simp
theorem replace_len {name : List Nat} : (Txt.replace (S name) (Str.ofString "\"") (Str.ofString "\"\"")).length ≤ 2 * name.length := by
  obtain ⟨ws, h1, h2, rfl⟩ := words_of name
  rw [replace_q h1 h2, S_len]
  have a := flat_len ws h1
  rw [flat_glue ws h1] at a
  have b := sum_glue ws h1
  simp only [List.length_cons, List.length_append, List.length_nil] at a
  have : ∀ ws : List (List Nat), ws ≠ [] → ws.length ≤ (glue [34] ws).length + 1 := fun ws h => by have := sum_glue ws h; (first | lia | omega)
  have := this ws h1
  (first | lia | omega)
end
section
theorem name_0 {h₀ h : Heap} {L x : Addr} {o : Obj} {r : Led} (_N : News h₀ L h ((x, o) :: r)) : ∃ a : Addr, a = x := ⟨x, rfl⟩
theorem name_2 {h₀ h : Heap} {L x : Addr} {o : Obj} {p q : Addr × Obj} {r : Led} (_N : News h₀ L h (p :: q :: (x, o) :: r)) : ∃ a : Addr, a = x := ⟨x, rfl⟩
theorem name_vals {vs : List Value} {ys : List Str} (_h : StrsAre vs ys) : ∃ a : List Value, a = vs := ⟨vs, rfl⟩
theorem name_tk {h₀ h : Heap} {L x : Addr} {k : Int} {t : Tok} {n : Nat} {r : Led} (_N : News h₀ L h ((x, listOf #[.int k t] n) :: r)) : ∃ a : Tok, a = t := ⟨t, rfl⟩
section
variable {prog : Program} {w : World} {A : Around} {E : Value → Shared → Prop} {s : Shared} {h₀ : Heap} {L l : Addr} {news : Led} {wv : List Value} {ws : List (List Nat)} {nn j j' : Nat} {t : Tok} {Q : Value → Shared → Prop}
theorem tn1 (i : Nat) : Int.toNat (1 + (i : Int)) = i + 1 := by first | lia | omega
theorem join_q (ps : List (List Nat)) : Txt.join (Str.ofString "\"") (ps.map S) = S (glue [34] ps) := by
  unfold Txt.join; rw [StrLaws.glued_eq_join, q_lit, join_S]
theorem my_join {ps : List (List Nat)} {vs : List Value} (N : News h₀ L s.heap news) (hm : (l, listOf vs.toArray nn) ∈ news) (hs : StrsAre vs (ps.map S)) (hb : (ps.map List.length).sum + ps.length < 2000)
    (h : ∀ t' k, Q (.str (S (glue [34] ps)) t') { s with toks := k }) : wpAny (model prog w) A (call (.builtin "str.join") [.str (Str.ofString "\"") t, .ref l]) Q E s := by
  refine join_list (D := l) (items := vs.toArray) ⟨_, (N _ hm).1, rfl, nn, rfl⟩ hs (by rw [sum_S, List.length_map]; show _ + _ * 1 ≤ _; (first | lia | omega)) ?_
  intro t9 k9
  rw [join_q]
  exact h t9 k9
theorem my_single {value slice : PySem.Expr} {k : Int} {t u : Tok} (N : News h₀ L s.heap news) (hm : (l, listOf #[.int k t] nn) ∈ news) (h : Q (.int k t) s)
    (hs : subscripted slice false (.ref l) (.int 0 u) = operate [.ref l, .int 0 u] (getItem (.ref l) (.int 0 u))) (_hg : ∀ r, letTemporaryGo value (.ref l) r = pure ()) : wpAny (model prog w) A (subscriptTail value slice (.ref l) (.int 0 u)) Q E s :=
  have hl : s.heap.IsList l #[.int k t] := ⟨_, (N _ hm).1, rfl, nn, rfl⟩
  tail_any hl.typeIs slot_list_getitem.lookup (wpAny_getItem_list hl (by decide) (by decide) (by simp) h) hs
theorem my_join_take (N : News h₀ L s.heap news) (hm : (l, listOf (wv.take j).toArray nn) ∈ news) (hs : StrsAre wv (ws.map S)) (hb : (ws.map List.length).sum + ws.length < 2000) (hj : j = j')
    (h : ∀ t' k, Q (.str (S (dueOf ws j')) t') { s with toks := k }) : wpAny (model prog w) A (call (.builtin "str.join") [.str (Str.ofString "\"") t, .ref l]) Q E s := by
  subst hj
  refine my_join N hm (strs_take hs j) ?_ h
  rw [List.map_take, List.length_take]
  have := sum_take (ws.map List.length) j
  (first | lia | omega)
theorem my_join_drop (N : News h₀ L s.heap news) (hm : (l, listOf (wv.drop j).toArray nn) ∈ news) (hs : StrsAre wv (ws.map S)) (hb : (ws.map List.length).sum + ws.length < 2000) (hj : j = j')
    (h : ∀ t' k, Q (.str (S (restOf ws j')) t') { s with toks := k }) : wpAny (model prog w) A (call (.builtin "str.join") [.str (Str.ofString "\"") t, .ref l]) Q E s := by
  subst hj
  refine my_join N hm (strs_drop hs j) ?_ h
  rw [List.map_drop, List.length_drop]
  have := sum_drop (ws.map List.length) j
  (first | lia | omega)
end
theorem stops_snoc {tups : Led} {svs : List Value} {sl : List (Nat × Nat)} {T : Addr} {oT : Obj} {x y : Int} {a b : Nat} {t u : Tok} {nt : Nat} (h : Stops tups svs sl) (hc : oT.cls = .type "tuple") (hd : oT.data = .seq #[.int x t, .int y u] nt) (hx : x = (a : Int)) (hy : y = (b : Int)) : Stops ((T, oT) :: tups) (svs ++ [.ref T]) (sl ++ [(a, b)]) := by
  obtain ⟨h1, h2⟩ := h
  refine ⟨by simp [h1], ?_⟩
  intro i v hv
  by_cases hi : i < svs.length
  · rw [List.getElem?_append_left hi] at hv
    obtain ⟨T', oT', nt', t', u', e1, e2, e3, e4⟩ := h2 i v hv
    refine ⟨T', oT', nt', t', u', e1, .tail _ e2, e3, ?_⟩
    rw [e4, List.getD_eq_getElem?_getD, List.getD_eq_getElem?_getD, List.getElem?_append_left (by first | lia | omega)]
  · have hi2 : i = svs.length := by
      have := (List.getElem?_eq_some_iff.mp hv).1
      simp at this; (first | lia | omega)
    subst hi2
    rw [List.getElem?_append_right (Nat.le_refl _)] at hv
    simp at hv
    refine ⟨T, oT, nt, t, u, hv.symm, .head _, hc, ?_⟩
    rw [hd, h1, List.getD_eq_getElem?_getD, List.getElem?_append_right (Nat.le_refl _), hx, hy]
    simp
structure StC where
  g : Heap
  svs : List Value
  sn : Nat
  tups : Led
  pv : Nat
  pt : Tok
  pk : Nat
  o2 : Obj
theorem name_o {h₀ h : Heap} {L x : Addr} {o : Obj} {r : Led} (_N : News h₀ L h ((x, o) :: r)) : ∃ a : Obj, a = o := ⟨o, rfl⟩
theorem stops_mono {a b : Led} {svs : List Value} {sl : List (Nat × Nat)} (h : Stops a svs sl) (hs : ∀ q ∈ a, q ∈ b) : Stops b svs sl := by
  refine ⟨h.1, fun i v hv => ?_⟩
  obtain ⟨T', oT', nt', t', u', e1, e2, e3, e4⟩ := h.2 i v hv
  exact ⟨T', oT', nt', t', u', e1, hs _ e2, e3, e4⟩
theorem my_heard {prog : Program} {w : World} {A : Around} {E : Value → Shared → Prop} {s : Shared} {h₀ : Heap} {L a b : Addr} {news : Led} {x : List Nat} {k k2 : Int} {t1 t2 t3 u1 u2 u3 : Tok} {n1 n2 : Nat} {Q : Value → Shared → Prop}
    (N : News h₀ L s.heap news) (ha : (a, listOf #[.str (S x) t1, .str (S []) t2, .int k t3] n1) ∈ news) (hb : (b, listOf #[.str (S x) u1, .str (Str.ofString "") u2, .int k2 u3] n2) ∈ news) (hk : k = k2) (hx : PyData.strOk (S x) = true) (hu : A.units + 64 < cLine) (h : Q (.bool true) s) :
    wpAny (model prog w) A (compareOp .Eq (.ref a) (.ref b)) Q E s := by
  subst hk
  have e0 : Str.ofString "" = S [] := by decide
  rw [e0] at hb
  have ra : Reads s.heap (.ref a) (.list [.str (S x), .str (S []), .int k]) [a] := reads_list_at (N _ ha).1 rfl rfl (.cons (.str ..) (.cons (.str ..) (.cons (.int ..) .nil)))
  have rb : Reads s.heap (.ref b) (.list [.str (S x), .str (S []), .int k]) [b] := reads_list_at (N _ hb).1 rfl rfl (.cons (.str ..) (.cons (.str ..) (.cons (.int ..) .nil)))
  have h0 : PyData.strOk (S []) = true := by simp [PyData.strOk, S]
  refine eq_dataH ra rb ?_ ?_ hu ?_
  · simp [SeqAt.shaped, PyData.canLay0, PyData.canLayAll0, PyData.depth, PyData.depthAll, hx, h0]
  · simp [SeqAt.shaped, PyData.canLay0, PyData.canLayAll0, PyData.depth, PyData.depthAll, hx, h0]
  · rw [SeqAt.eqv_refl]
    · exact h
    · simp [PyData.canLay0, PyData.canLayAll0, hx, h0]
noncomputable def CStops (w : World) (k : Nat) (f : Addr) (vs : List Value) (P : Addr) (pre : Led → Prop) : Prop :=
  ∀ (p : Program) (loose : List Str) (mean : ExcName → Option Value) (mg mb : Str → Option Value) (dp un : Nat) (gd : Option (List Code)) (cn : Str) (cs : Scope) (a : Addr) (ccd : Value) (A₀ : Around) (base h₀ : Heap) (L : Addr) (m : Str → Option Value) (news : Led) (s : Shared)
    (Q E : Value → Shared → Prop),
    Below A₀ base [] h₀ → Fr h₀ L s.heap m → (Khp w.params).In h₀ → News h₀ L s.heap ((P, tabObj #[]) :: news) → Top p loose mean mg mb h₀ → (Khp w.params).In base → Top p loose mean mg mb base → CodeHd base 134 P → (∀ q ∈ news, q.1 ≠ P) → cs.kind = .function → dp + k < recursionLimit → un + 8 * k < cLine → pre news →
    (∀ r ps tl h' tk', Fr h₀ L h' m → News h₀ L h' (tl ++ ((P, tabObj ps) :: news)) → r = .bool true → Q r { s with heap := h', toks := tk' }) →
    wpAny (model PySem.Challenge.rw_sc0033_01.row.prog w) (ktrTop dp un gd cn cs L a ccd [] []) (call (.ref f) vs) Q E s
inductive A20 (p1 p2 p3 p4 p5 p6 p7 p8 p9 p10 p11 p12 p13 p14 p15 p16 p17 p18 p19 p20 : Prop) : Prop
  | mk (h1 : p1) (h2 : p2) (h3 : p3) (h4 : p4) (h5 : p5) (h6 : p6) (h7 : p7) (h8 : p8) (h9 : p9) (h10 : p10) (h11 : p11) (h12 : p12) (h13 : p13) (h14 : p14) (h15 : p15) (h16 : p16) (h17 : p17) (h18 : p18) (h19 : p19) (h20 : p20) : A20 p1 p2 p3 p4 p5 p6 p7 p8 p9 p10 p11 p12 p13 p14 p15 p16 p17 p18 p19 p20
theorem stops_ok (w : World) (row name tail : List Nat) (ps ws : List (List Nat)) (H : Plain row name tail ps ws) (t t1 t2 : Tok) (l P : Addr) (vs : List Value) (nn : Nat) (hs : StrsAre vs (ps.map S)) :
    CStops w 100 182 [.str (S row) t, .str (S name) t1, .ref l, .str (S tail) t2] P (fun news => (l, listOf vs.toArray nn) ∈ news) := by
  unfold CStops
  k_fill
  k_with_none
  w_top off
  intro p loose mean mg mb dp un gd cn cs a ccd A₀ base h₀ L m news s Q E B F X N T XB TB CP hPn hk hdp hun hpre hret
  have hrl := S_len row
  have hnl := S_len name
  have htl := S_len tail
  have hrl2 := H.rowlen
  have hnl2 := H.namelen
  have htl2 := H.taillen
  refine wpAny_call ?_
  k_dflt (refine' code_defS0 ?k1 ?k2 ?k3 ?k4 ?k5 ?kA ?k6 ?k7 ?k8 ?k9 ?kB ?_ ?cK ?c2 ?c3 ?c4 ?c5; (case kA => exact rfl); (case k2 => k_asm); (case k1 => k_asm); (case k3 => k_asm); (case k4 => k_asm); (case k5 => k_asm); (case k6 => k_is); (case k7 => k_is); (case k8 => first | exact enter_room (by assumption) | ktr_room); (case k9 => first | exact binds_K (by k_in) rfl (by k_is) rfl rfl rfl | exact BindsTo.of_eq rfl | fail "kts_go: no rule for these arguments"); (case kB => exact locs rfl); (case cK => first | assumption | exact rfl); (case c2 => exact rfl); (case c3 => exact rfl); (case c4 => exact rfl); (case c5 => decide); k_whole)
  intro g' L' h' FG' F' N' B' X' T' D'
  (try dsimp only)
  (try k_lift B')
  (try k_fold)
  have hPW : P < h'.objs.size := Heap.lt_size (N' _ (.head _)).1
  have hnW : ∀ q ∈ news, q.1 < h'.objs.size := fun q hq => Heap.lt_size (N' _ (.tail _ hq)).1
  (repeat' (first | ((with_reducible show wpAny _ _ (subscriptTail (Expr.Name _ _) (Expr.Constant _ _ _) (Value.ref _) (Value.int _ _)) _ _ _); (k_here; k_dflt (refine' my_single ?zzN ?zzhm ?_ ?zzhs ?zzhg; (case zzN => k_asm); (case zzhm => walk_at "my mem"); (case zzhs => with_unfolding_all rfl); (case zzhg => with_unfolding_all (intro _; rfl))))) | ((with_reducible show wpAny _ _ (call (Value.builtin "str.join") _ _) _ _ _); (k_here; k_dflt (first | (refine' my_join_take ?zzN ?zzhm ?zzhs ?zzhb ?zzhj ?_; (case zzN => k_asm); (case zzhm => walk_at "my mem"); (case zzhs => assumption); (case zzhb => assumption); (case zzhj => exact tn1 _)) | (refine' my_join_drop ?zzN ?zzhm ?zzhs ?zzhb ?zzhj ?_; (case zzN => k_asm); (case zzhm => walk_at "my mem"); (case zzhs => assumption); (case zzhb => assumption); (case zzhj => exact tn1 _))); intro zt zk)) | ((with_reducible show wpAny _ _ (call (Value.builtin "list.append") _ _) _ _ _); (k_here; refine Park.out ?_)) | ((with_reducible show wpAny _ _ (exec (Stmt.For (Expr.Name _ _) (Expr.Call _ _ _ _) _ _ _) _) _ _ _); (k_here; (with_unfolding_all refine wpAny_For ?_ (hs := fun _ => rfl)))) | ((with_reducible show @ite _ _ _ _ _); (k_here; first | (refine ite_pos (by with_reducible assumption) ?_) | (refine ite_neg (by with_reducible assumption) ?_) | (refine ite_isFalse (by with_reducible assumption) ?_) | (refine ite_pos (by (simp only [beq_iff_eq, bne_iff_ne, ne_eq, Classical.not_not, decide_eq_true_eq]; (first | lia | omega))) ?_) | (refine ite_neg (by (simp only [beq_iff_eq, bne_iff_ne, ne_eq, Classical.not_not, decide_eq_true_eq]; (first | lia | omega))) ?_))) | ((with_reducible show wpAny _ _ (getAttr (Value.ref _) _ _) _ _ _); (k_here; (with_reducible show wpAny _ _ (getAttr (Value.ref _) (Str.ofString "lineno") _) _ _ _); k_dflt (refine' lineno_get ?zzF ?zzX ?zzN ?zzhx ?zzhd2 ?zzhL ?_; (case zzF => k_asm); (case zzN => k_asm); (case zzX => k_asm); (case zzhL => assumption); (case zzhd2 => walk_at "my mem"); (case zzhx => walk_at "my mem"); k_whole); intro zt)) | ((with_reducible show wpAny _ _ (getMethod (Value.ref _) _ _) _ _ _); (k_here; (with_reducible show wpAny _ _ (getMethod (Value.ref _) (PySem.Str.ofString "append") _) _ _ _); k_dflt (refine' listMethod_K ?zzN ?zzm PySem.F.slot_list_append PySem.F.type_list_append ?_; (case zzN => k_asm); (case zzm => walk_at "my mem")))) | ((with_reducible show wpAny _ _ (getMethod (Value.ref _) _ _) _ _ _); (k_here; (with_reducible show wpAny _ _ (getMethod (Value.ref _) (Str.ofString "get_token") _) _ _ _); k_dflt (refine' gettok_method ?zzF ?zzX ?zzN ?zzhx ?zzhd2 ?zzhL ?_; (case zzF => k_asm); (case zzN => k_asm); (case zzX => k_asm); (case zzhL => assumption); (case zzhd2 => walk_at "my mem"); (case zzhx => walk_at "my mem"); k_whole))) | ((with_reducible show wpAny _ _ (eval (Expr.Name _ _) _) _ _ _); (k_here; k_dflt (refine' nameX_L ?zzF ?zzv ?_ ?zza ?zzb; (case zzF => k_asm); (case zza => rfl); (case zzb => rfl); (case zzv => with_unfolding_all assumption); k_whole))) | ((with_reducible show wpAny _ _ (call (Value.ref _) _ _) _ _ _); ((with_reducible show wpAny _ _ (call (Value.ref _) _ _) _ _ _); refine Park.out ?_)) | ((with_reducible show wpAny _ _ (call (Value.builtin "len") _ _) _ _ _); (k_here; (with_reducible show wpAny _ _ (call _ [Value.str (S (List.getD _ _ [])) _]) _ _ _); k_dflt (refine len_piece (by assumption) (by first | lia | omega) ?_); intro zlp1 zlp2 zlp3)) | ((with_reducible show wpAny _ _ (call (Value.builtin "list.append") _ _) _ _ _); (k_here; (with_reducible show wpAny _ _ (call _ [Value.ref _, _]) _ _ _); k_dflt (refine my_append (by k_asm) (by k_asm) (by assumption) (by first | lia | omega) ?_); intro zh zF zN; (try k_sweep))) | ((with_reducible show wpAny _ _ (subscriptTail _ _ (Value.ref _) (Value.int _ _)) _ _ _); ((k_here; (with_reducible show wpAny _ _ (subscriptTail _ _ (Value.ref _) (Value.int _ _)) _ _ _); k_dflt (first | refine my_item (by k_asm) (by walk_at "my mem") (by assumption) (by first | lia | omega) (by first | lia | omega) (by first | lia | omega) ?_ (by with_unfolding_all rfl) (by with_unfolding_all (intro _; rfl)) | refine my_nat (by k_asm) (by walk_at "my mem") (by assumption) (by first | lia | omega) (by first | lia | omega) (by first | lia | omega) ?_ (by with_unfolding_all rfl) (by with_unfolding_all (intro _; rfl))); intro zt))) | ((with_reducible show wpAny _ _ (subscriptTail (Expr.Name _ _) (Expr.Slice _ _ _ _) (Value.ref _) (Value.ref _)) _ _ _); (k_here; k_dflt (first | refine my_upto (by k_asm) (by k_asm) (by walk_at "my mem") (by first | lia | omega) (by first | lia | omega) ?_ (by with_unfolding_all rfl) (by kmk_pure) | refine my_from (by k_asm) (by k_asm) (by walk_at "my mem") (by first | lia | omega) (by first | lia | omega) ?_ (by with_unfolding_all rfl) (by kmk_pure)); intro zD zh zF zN zl1; (try k_lt zl1); (try k_sweep))) | ((with_reducible show wpAny _ _ (call (Value.builtin "len") _ _) _ _ _); (k_here; (with_reducible show wpAny _ _ (call _ [Value.ref _]) _ _ _); k_dflt (refine my_len (by k_asm) (by walk_at "my mem") (by assumption) (by first | lia | omega) ?_))) | ((with_reducible show wpAny _ _ (pyIter (Value.ref _)) _ _ _); (refine Park.out ?_)) | ((with_reducible show wpAny _ _ (exec (Stmt.For (Expr.Name _ _) (Expr.Call _ _ _ _) _ _ _) _) _ _ _); ((k_here; (rename Fr _ _ _ _ => zlF); (with_unfolding_all refine' For_invVF zlF ?zzk1 ?zzk2 ?_; (case zzk1 => exact rfl); (case zzk2 => exact rfl); k_whole)))) | (with_reducible refine nxR ?_) | (with_reducible refine nxN ?_) | (with_reducible refine nxB ?_) | (with_reducible refine nxK ?_) | (with_reducible refine exN ?_) | (with_reducible refine exA ?zzhs ?_; (case zzhs => k_dflt (exact (rfl : (pure false : Sem Bool) = pure false))); intro zqk) | (with_reducible refine exI ?_; intro zqk) | (with_reducible refine exR ?_) | (with_reducible refine exG ?_; intro zqk) | (with_reducible refine exC ?_; intro zqk) | ((with_reducible show wpAny _ _ (eval (Expr.Name _ _) _) _ _ _); k_dflt (refine' nmL ?zzF ?zzv (rfl : true = true) ?zzl ?_; (case zzF => k_asm); (case zzl => exact rfl); (case zzv => exact (rfl : some _ = some _)); k_whole)) | ((with_reducible show wpAny _ _ (storeName _ _ _) _ _ _); k_dflt (refine' stX ?zzF ?zzN (rfl : true = true) ?zzl ?_; (case zzF => k_asm); (case zzN => k_asm); (case zzl => exact rfl); k_whole); intro zm1 zh zt zF zN; (try k_sweep)) | k_unfold | walk1 | (dsimp only; walk1) | leave1))
  refine Park.mk ?_
  have hfl : (fronts name ps).length = name.length + 1 := frontsTo_len _ _ _
  have hfle : ∀ k, (fronts name ps).getD k 0 ≤ ps.length := frontsTo_le name ps _
  have hpsl := H.pb.len
  have hvl := strs_Slen hs rfl
  rename List.map _ _ = Txt.split _ _ => hsp
  rename StrsAre (strValues _) _ => hwv
  rw [hsp, H.split] at hwv
  clear hsp
  show let G9 : Prop := _; G9
  intro G9
  obtain ⟨wv, hwv0⟩ := name_vals hwv
  k_unfold
  rename News _ _ _ _ => N4
  rw [← hwv0] at hwv N4
  refine' CNew.use (fronts_ok w l vs nn ps name _ hs H.pb (by first | lia | omega)) ?k1 ?k2 ?k3 ?k4 ?k5 ?kK ?kd ?ku ?kp ?_
  ((case k1 => k_asm); (case k2 => k_asm); (case k3 => k_asm); (case k4 => k_asm); (case k5 => k_asm); (case kK => first | exact rfl | assumption); (case kd => first | exact room1 (by assumption) (by decide) | ktr_room); (case ku => first | exact units3 (by assumption) (by decide) | ktr_units))
  case kp => walk_at "my mem"
  rintro r tl h9 tk9 F9 N9 off9 ⟨D1, us1, n1, rfl, rfl, hu1⟩
  simp only [List.cons_append, List.nil_append] at N9
  (try dsimp only)
  (repeat' (first | ((with_reducible show wpAny _ _ (subscriptTail (Expr.Name _ _) (Expr.Constant _ _ _) (Value.ref _) (Value.int _ _)) _ _ _); (k_here; k_dflt (refine' my_single ?zzN ?zzhm ?_ ?zzhs ?zzhg; (case zzN => k_asm); (case zzhm => walk_at "my mem"); (case zzhs => with_unfolding_all rfl); (case zzhg => with_unfolding_all (intro _; rfl))))) | ((with_reducible show wpAny _ _ (call (Value.builtin "str.join") _ _) _ _ _); (k_here; k_dflt (first | (refine' my_join_take ?zzN ?zzhm ?zzhs ?zzhb ?zzhj ?_; (case zzN => k_asm); (case zzhm => walk_at "my mem"); (case zzhs => assumption); (case zzhb => assumption); (case zzhj => exact tn1 _)) | (refine' my_join_drop ?zzN ?zzhm ?zzhs ?zzhb ?zzhj ?_; (case zzN => k_asm); (case zzhm => walk_at "my mem"); (case zzhs => assumption); (case zzhb => assumption); (case zzhj => exact tn1 _))); intro zt zk)) | ((with_reducible show wpAny _ _ (call (Value.builtin "list.append") _ _) _ _ _); (k_here; refine Park.out ?_)) | ((with_reducible show wpAny _ _ (exec (Stmt.For (Expr.Name _ _) (Expr.Call _ _ _ _) _ _ _) _) _ _ _); (k_here; (with_unfolding_all refine wpAny_For ?_ (hs := fun _ => rfl)))) | ((with_reducible show @ite _ _ _ _ _); (k_here; first | (refine ite_pos (by with_reducible assumption) ?_) | (refine ite_neg (by with_reducible assumption) ?_) | (refine ite_isFalse (by with_reducible assumption) ?_) | (refine ite_pos (by (simp only [beq_iff_eq, bne_iff_ne, ne_eq, Classical.not_not, decide_eq_true_eq]; (first | lia | omega))) ?_) | (refine ite_neg (by (simp only [beq_iff_eq, bne_iff_ne, ne_eq, Classical.not_not, decide_eq_true_eq]; (first | lia | omega))) ?_))) | ((with_reducible show wpAny _ _ (getAttr (Value.ref _) _ _) _ _ _); (k_here; (with_reducible show wpAny _ _ (getAttr (Value.ref _) (Str.ofString "lineno") _) _ _ _); k_dflt (refine' lineno_get ?zzF ?zzX ?zzN ?zzhx ?zzhd2 ?zzhL ?_; (case zzF => k_asm); (case zzN => k_asm); (case zzX => k_asm); (case zzhL => assumption); (case zzhd2 => walk_at "my mem"); (case zzhx => walk_at "my mem"); k_whole); intro zt)) | ((with_reducible show wpAny _ _ (getMethod (Value.ref _) _ _) _ _ _); (k_here; (with_reducible show wpAny _ _ (getMethod (Value.ref _) (PySem.Str.ofString "append") _) _ _ _); k_dflt (refine' listMethod_K ?zzN ?zzm PySem.F.slot_list_append PySem.F.type_list_append ?_; (case zzN => k_asm); (case zzm => walk_at "my mem")))) | ((with_reducible show wpAny _ _ (getMethod (Value.ref _) _ _) _ _ _); (k_here; (with_reducible show wpAny _ _ (getMethod (Value.ref _) (Str.ofString "get_token") _) _ _ _); k_dflt (refine' gettok_method ?zzF ?zzX ?zzN ?zzhx ?zzhd2 ?zzhL ?_; (case zzF => k_asm); (case zzN => k_asm); (case zzX => k_asm); (case zzhL => assumption); (case zzhd2 => walk_at "my mem"); (case zzhx => walk_at "my mem"); k_whole))) | ((with_reducible show wpAny _ _ (eval (Expr.Name _ _) _) _ _ _); (k_here; k_dflt (refine' nameX_L ?zzF ?zzv ?_ ?zza ?zzb; (case zzF => k_asm); (case zza => rfl); (case zzb => rfl); (case zzv => with_unfolding_all assumption); k_whole))) | ((with_reducible show wpAny _ _ (call (Value.ref _) _ _) _ _ _); ((with_reducible show wpAny _ _ (call (Value.ref _) _ _) _ _ _); refine Park.out ?_)) | ((with_reducible show wpAny _ _ (call (Value.builtin "len") _ _) _ _ _); (k_here; (with_reducible show wpAny _ _ (call _ [Value.str (S (List.getD _ _ [])) _]) _ _ _); k_dflt (refine len_piece (by assumption) (by first | lia | omega) ?_); intro zlp1 zlp2 zlp3)) | ((with_reducible show wpAny _ _ (call (Value.builtin "list.append") _ _) _ _ _); (k_here; (with_reducible show wpAny _ _ (call _ [Value.ref _, _]) _ _ _); k_dflt (refine my_append (by k_asm) (by k_asm) (by assumption) (by first | lia | omega) ?_); intro zh zF zN; (try k_sweep))) | ((with_reducible show wpAny _ _ (subscriptTail _ _ (Value.ref _) (Value.int _ _)) _ _ _); ((k_here; (with_reducible show wpAny _ _ (subscriptTail _ _ (Value.ref _) (Value.int _ _)) _ _ _); k_dflt (first | refine my_item (by k_asm) (by walk_at "my mem") (by assumption) (by first | lia | omega) (by first | lia | omega) (by first | lia | omega) ?_ (by with_unfolding_all rfl) (by with_unfolding_all (intro _; rfl)) | refine my_nat (by k_asm) (by walk_at "my mem") (by assumption) (by first | lia | omega) (by first | lia | omega) (by first | lia | omega) ?_ (by with_unfolding_all rfl) (by with_unfolding_all (intro _; rfl))); intro zt))) | ((with_reducible show wpAny _ _ (subscriptTail (Expr.Name _ _) (Expr.Slice _ _ _ _) (Value.ref _) (Value.ref _)) _ _ _); (k_here; k_dflt (first | refine my_upto (by k_asm) (by k_asm) (by walk_at "my mem") (by first | lia | omega) (by first | lia | omega) ?_ (by with_unfolding_all rfl) (by kmk_pure) | refine my_from (by k_asm) (by k_asm) (by walk_at "my mem") (by first | lia | omega) (by first | lia | omega) ?_ (by with_unfolding_all rfl) (by kmk_pure)); intro zD zh zF zN zl1; (try k_lt zl1); (try k_sweep))) | ((with_reducible show wpAny _ _ (call (Value.builtin "len") _ _) _ _ _); (k_here; (with_reducible show wpAny _ _ (call _ [Value.ref _]) _ _ _); k_dflt (refine my_len (by k_asm) (by walk_at "my mem") (by assumption) (by first | lia | omega) ?_))) | ((with_reducible show wpAny _ _ (pyIter (Value.ref _)) _ _ _); (refine Park.out ?_)) | ((with_reducible show wpAny _ _ (exec (Stmt.For (Expr.Name _ _) (Expr.Call _ _ _ _) _ _ _) _) _ _ _); ((k_here; (rename Fr _ _ _ _ => zlF); (with_unfolding_all refine' For_invVF zlF ?zzk1 ?zzk2 ?_; (case zzk1 => exact rfl); (case zzk2 => exact rfl); k_whole)))) | (with_reducible refine nxR ?_) | (with_reducible refine nxN ?_) | (with_reducible refine nxB ?_) | (with_reducible refine nxK ?_) | (with_reducible refine exN ?_) | (with_reducible refine exA ?zzhs ?_; (case zzhs => k_dflt (exact (rfl : (pure false : Sem Bool) = pure false))); intro zqk) | (with_reducible refine exI ?_; intro zqk) | (with_reducible refine exR ?_) | (with_reducible refine exG ?_; intro zqk) | (with_reducible refine exC ?_; intro zqk) | ((with_reducible show wpAny _ _ (eval (Expr.Name _ _) _) _ _ _); k_dflt (refine' nmL ?zzF ?zzv (rfl : true = true) ?zzl ?_; (case zzF => k_asm); (case zzl => exact rfl); (case zzv => exact (rfl : some _ = some _)); k_whole)) | ((with_reducible show wpAny _ _ (storeName _ _ _) _ _ _); k_dflt (refine' stX ?zzF ?zzN (rfl : true = true) ?zzl ?_; (case zzF => k_asm); (case zzN => k_asm); (case zzl => exact rfl); k_whole); intro zm1 zh zt zF zN; (try k_sweep)) | k_unfold | walk1 | (dsimp only; walk1) | leave1))
  refine Park.mk ?_
  rename News _ _ _ _ => N5
  simp only [hnl, Int.toNat_natCast] at N5
  show let G9 : Prop := _; G9
  intro G9
  obtain ⟨fv, hfv⟩ : ∃ fv, fv = vs.take ((fronts name ps).getD name.length 0) := ⟨_, rfl⟩
  k_unfold
  rw [← hfv] at N5
  have hsf : StrsAre fv ((fitOf name ps).map S) := by rw [hfv]; exact strs_take hs _
  have hfvl := strs_Slen hsf rfl
  have hel : (ends name (fitOf name ps)).length = name.length + 1 := endsTo_len _ _ _
  have hele : ∀ k, (ends name (fitOf name ps)).getD k 0 ≤ (fitOf name ps).length := endsTo_le name _ _
  refine' CNew.use (ends_ok w _ fv 0 (fitOf name ps) name _ hsf (H.pb.take _) (by first | lia | omega)) ?k1 ?k2 ?k3 ?k4 ?k5 ?kK ?kd ?ku ?kp ?_
  ((case k1 => k_asm); (case k2 => k_asm); (case k3 => k_asm); (case k4 => k_asm); (case k5 => k_asm); (case kK => first | exact rfl | assumption); (case kd => first | exact room1 (by assumption) (by decide) | ktr_room); (case ku => first | exact units3 (by assumption) (by decide) | ktr_units))
  case kp => walk_at "my mem"
  rintro r tl h8 tk8 F8 N8 off8 ⟨D2, us2, n2, rfl, rfl, hu2⟩
  simp only [List.cons_append, List.nil_append] at N8
  (try dsimp only)
  (repeat' (first | ((with_reducible show wpAny _ _ (subscriptTail (Expr.Name _ _) (Expr.Constant _ _ _) (Value.ref _) (Value.int _ _)) _ _ _); (k_here; k_dflt (refine' my_single ?zzN ?zzhm ?_ ?zzhs ?zzhg; (case zzN => k_asm); (case zzhm => walk_at "my mem"); (case zzhs => with_unfolding_all rfl); (case zzhg => with_unfolding_all (intro _; rfl))))) | ((with_reducible show wpAny _ _ (call (Value.builtin "str.join") _ _) _ _ _); (k_here; k_dflt (first | (refine' my_join_take ?zzN ?zzhm ?zzhs ?zzhb ?zzhj ?_; (case zzN => k_asm); (case zzhm => walk_at "my mem"); (case zzhs => assumption); (case zzhb => assumption); (case zzhj => exact tn1 _)) | (refine' my_join_drop ?zzN ?zzhm ?zzhs ?zzhb ?zzhj ?_; (case zzN => k_asm); (case zzhm => walk_at "my mem"); (case zzhs => assumption); (case zzhb => assumption); (case zzhj => exact tn1 _))); intro zt zk)) | ((with_reducible show wpAny _ _ (call (Value.builtin "list.append") _ _) _ _ _); (k_here; refine Park.out ?_)) | ((with_reducible show wpAny _ _ (exec (Stmt.For (Expr.Name _ _) (Expr.Call _ _ _ _) _ _ _) _) _ _ _); (k_here; (with_unfolding_all refine wpAny_For ?_ (hs := fun _ => rfl)))) | ((with_reducible show @ite _ _ _ _ _); (k_here; first | (refine ite_pos (by with_reducible assumption) ?_) | (refine ite_neg (by with_reducible assumption) ?_) | (refine ite_isFalse (by with_reducible assumption) ?_) | (refine ite_pos (by (simp only [beq_iff_eq, bne_iff_ne, ne_eq, Classical.not_not, decide_eq_true_eq]; (first | lia | omega))) ?_) | (refine ite_neg (by (simp only [beq_iff_eq, bne_iff_ne, ne_eq, Classical.not_not, decide_eq_true_eq]; (first | lia | omega))) ?_))) | ((with_reducible show wpAny _ _ (getAttr (Value.ref _) _ _) _ _ _); (k_here; (with_reducible show wpAny _ _ (getAttr (Value.ref _) (Str.ofString "lineno") _) _ _ _); k_dflt (refine' lineno_get ?zzF ?zzX ?zzN ?zzhx ?zzhd2 ?zzhL ?_; (case zzF => k_asm); (case zzN => k_asm); (case zzX => k_asm); (case zzhL => assumption); (case zzhd2 => walk_at "my mem"); (case zzhx => walk_at "my mem"); k_whole); intro zt)) | ((with_reducible show wpAny _ _ (getMethod (Value.ref _) _ _) _ _ _); (k_here; (with_reducible show wpAny _ _ (getMethod (Value.ref _) (PySem.Str.ofString "append") _) _ _ _); k_dflt (refine' listMethod_K ?zzN ?zzm PySem.F.slot_list_append PySem.F.type_list_append ?_; (case zzN => k_asm); (case zzm => walk_at "my mem")))) | ((with_reducible show wpAny _ _ (getMethod (Value.ref _) _ _) _ _ _); (k_here; (with_reducible show wpAny _ _ (getMethod (Value.ref _) (Str.ofString "get_token") _) _ _ _); k_dflt (refine' gettok_method ?zzF ?zzX ?zzN ?zzhx ?zzhd2 ?zzhL ?_; (case zzF => k_asm); (case zzN => k_asm); (case zzX => k_asm); (case zzhL => assumption); (case zzhd2 => walk_at "my mem"); (case zzhx => walk_at "my mem"); k_whole))) | ((with_reducible show wpAny _ _ (eval (Expr.Name _ _) _) _ _ _); (k_here; k_dflt (refine' nameX_L ?zzF ?zzv ?_ ?zza ?zzb; (case zzF => k_asm); (case zza => rfl); (case zzb => rfl); (case zzv => with_unfolding_all assumption); k_whole))) | ((with_reducible show wpAny _ _ (call (Value.ref _) _ _) _ _ _); ((with_reducible show wpAny _ _ (call (Value.ref _) _ _) _ _ _); refine Park.out ?_)) | ((with_reducible show wpAny _ _ (call (Value.builtin "len") _ _) _ _ _); (k_here; (with_reducible show wpAny _ _ (call _ [Value.str (S (List.getD _ _ [])) _]) _ _ _); k_dflt (refine len_piece (by assumption) (by first | lia | omega) ?_); intro zlp1 zlp2 zlp3)) | ((with_reducible show wpAny _ _ (call (Value.builtin "list.append") _ _) _ _ _); (k_here; (with_reducible show wpAny _ _ (call _ [Value.ref _, _]) _ _ _); k_dflt (refine my_append (by k_asm) (by k_asm) (by assumption) (by first | lia | omega) ?_); intro zh zF zN; (try k_sweep))) | ((with_reducible show wpAny _ _ (subscriptTail _ _ (Value.ref _) (Value.int _ _)) _ _ _); ((k_here; (with_reducible show wpAny _ _ (subscriptTail _ _ (Value.ref _) (Value.int _ _)) _ _ _); k_dflt (first | refine my_item (by k_asm) (by walk_at "my mem") (by assumption) (by first | lia | omega) (by first | lia | omega) (by first | lia | omega) ?_ (by with_unfolding_all rfl) (by with_unfolding_all (intro _; rfl)) | refine my_nat (by k_asm) (by walk_at "my mem") (by assumption) (by first | lia | omega) (by first | lia | omega) (by first | lia | omega) ?_ (by with_unfolding_all rfl) (by with_unfolding_all (intro _; rfl))); intro zt))) | ((with_reducible show wpAny _ _ (subscriptTail (Expr.Name _ _) (Expr.Slice _ _ _ _) (Value.ref _) (Value.ref _)) _ _ _); (k_here; k_dflt (first | refine my_upto (by k_asm) (by k_asm) (by walk_at "my mem") (by first | lia | omega) (by first | lia | omega) ?_ (by with_unfolding_all rfl) (by kmk_pure) | refine my_from (by k_asm) (by k_asm) (by walk_at "my mem") (by first | lia | omega) (by first | lia | omega) ?_ (by with_unfolding_all rfl) (by kmk_pure)); intro zD zh zF zN zl1; (try k_lt zl1); (try k_sweep))) | ((with_reducible show wpAny _ _ (call (Value.builtin "len") _ _) _ _ _); (k_here; (with_reducible show wpAny _ _ (call _ [Value.ref _]) _ _ _); k_dflt (refine my_len (by k_asm) (by walk_at "my mem") (by assumption) (by first | lia | omega) ?_))) | ((with_reducible show wpAny _ _ (pyIter (Value.ref _)) _ _ _); (refine Park.out ?_)) | ((with_reducible show wpAny _ _ (exec (Stmt.For (Expr.Name _ _) (Expr.Call _ _ _ _) _ _ _) _) _ _ _); ((k_here; (rename Fr _ _ _ _ => zlF); (with_unfolding_all refine' For_invVF zlF ?zzk1 ?zzk2 ?_; (case zzk1 => exact rfl); (case zzk2 => exact rfl); k_whole)))) | (with_reducible refine nxR ?_) | (with_reducible refine nxN ?_) | (with_reducible refine nxB ?_) | (with_reducible refine nxK ?_) | (with_reducible refine exN ?_) | (with_reducible refine exA ?zzhs ?_; (case zzhs => k_dflt (exact (rfl : (pure false : Sem Bool) = pure false))); intro zqk) | (with_reducible refine exI ?_; intro zqk) | (with_reducible refine exR ?_) | (with_reducible refine exG ?_; intro zqk) | (with_reducible refine exC ?_; intro zqk) | ((with_reducible show wpAny _ _ (eval (Expr.Name _ _) _) _ _ _); k_dflt (refine' nmL ?zzF ?zzv (rfl : true = true) ?zzl ?_; (case zzF => k_asm); (case zzl => exact rfl); (case zzv => exact (rfl : some _ = some _)); k_whole)) | ((with_reducible show wpAny _ _ (storeName _ _ _) _ _ _); k_dflt (refine' stX ?zzF ?zzN (rfl : true = true) ?zzl ?_; (case zzF => k_asm); (case zzN => k_asm); (case zzl => exact rfl); k_whole); intro zm1 zh zt zF zN; (try k_sweep)) | k_unfold | walk1 | (dsimp only; walk1) | leave1))
  refine Park.mk ?_
  rename News _ _ _ _ => N5
  rename Fr _ _ _ _ => F5
  show let G9 : Prop := _; G9
  intro G9
  obtain ⟨pl, hx9⟩ := name_0 N5
  k_unfold
  subst hx9
  show let G9 : Prop := _; G9
  intro G9
  obtain ⟨fl, hx9⟩ := name_2 N5
  k_unfold
  subst hx9
  rename _ < pl ∧ _ => hlp
  show let G9 : Prop := _; G9
  intro G9
  obtain ⟨hp1, hp2, hp3, hp4, hp5, hp6⟩ := hlp
  k_unfold
  have hp6' := allLt_mem hp6
  rename _ < fl ∧ _ => hlf
  show let G9 : Prop := _; G9
  intro G9
  obtain ⟨hf1, hf2, hf3, hf4⟩ := hlf
  k_unfold
  have hD1W : h'.objs.size < D1 := off9 _ (.head _) _ (.head _)
  have hD2f : fl < D2 := off8 _ (.head _) _ (.head _)
  show let G9 : Prop := _; G9
  intro G9
  obtain ⟨t0, ht0⟩ := name_tk N5
  k_unfold
  rw [← ht0] at N5
  have hnP : ∀ q ∈ (pl, listOf #[.int 0 t0] 0) :: (D2, listOf us2.toArray n2) :: (fl, listOf fv.toArray 0) :: (D1, listOf us1.toArray n1) :: (h'.objs.size, listOf wv.toArray 0) :: news, q.1 ≠ P := by
    exact alC (Nat.ne_of_gt hp5) (alC (Nat.ne_of_gt (Nat.lt_trans hPW (Nat.lt_trans hD1W (Nat.lt_trans hf1 hD2f)))) (alC (Nat.ne_of_gt (Nat.lt_trans hPW (Nat.lt_trans hD1W hf1))) (alC (Nat.ne_of_gt (Nat.lt_trans hPW hD1W)) (alC (Nat.ne_of_gt hPW) hPn))))
  refine' CLex.use (lexer_ok w pl P 0 row t t0 (by first | lia | omega)) ?k1 ?k2 ?k3 (news_sub N5 ?sub) ?k5 CP hnP ?kK ?kd ?ku ?kp ?_
  case k1 => k_asm
  case k2 => k_asm
  case k3 => k_asm
  case sub =>
    (repeat' (first | exact sb0 | exact sbR | refine sbC ?_ ?_ | refine sbA ?_ ?_ | (walk_at "my mem") | refine sbT ?_ | (refine sbL ?_; (repeat (refine sbT ?_)); exact sbR) | refine sbr ?_))
  case k5 => k_asm
  case kK => first | exact rfl | assumption
  case kd => first | exact room1 (by assumption) (by decide) | ktr_room
  case ku => first | exact units3 (by assumption) (by decide) | ktr_units
  case kp => exact .head _
  rintro r tl7 ps7 h7 tk7 F7 N7 off7 ⟨x2, d2, l2, x1, o2, fix, rfl, rfl, hL, hF⟩
  have hxm := fix_mem hF
  clear N5 F5
  (try dsimp only)
  (repeat' (first | ((with_reducible show wpAny _ _ (subscriptTail (Expr.Name _ _) (Expr.Constant _ _ _) (Value.ref _) (Value.int _ _)) _ _ _); (k_here; k_dflt (refine' my_single ?zzN ?zzhm ?_ ?zzhs ?zzhg; (case zzN => k_asm); (case zzhm => walk_at "my mem"); (case zzhs => with_unfolding_all rfl); (case zzhg => with_unfolding_all (intro _; rfl))))) | ((with_reducible show wpAny _ _ (call (Value.builtin "str.join") _ _) _ _ _); (k_here; k_dflt (first | (refine' my_join_take ?zzN ?zzhm ?zzhs ?zzhb ?zzhj ?_; (case zzN => k_asm); (case zzhm => walk_at "my mem"); (case zzhs => assumption); (case zzhb => assumption); (case zzhj => exact tn1 _)) | (refine' my_join_drop ?zzN ?zzhm ?zzhs ?zzhb ?zzhj ?_; (case zzN => k_asm); (case zzhm => walk_at "my mem"); (case zzhs => assumption); (case zzhb => assumption); (case zzhj => exact tn1 _))); intro zt zk)) | ((with_reducible show wpAny _ _ (call (Value.builtin "list.append") _ _) _ _ _); (k_here; refine Park.out ?_)) | ((with_reducible show wpAny _ _ (exec (Stmt.For (Expr.Name _ _) (Expr.Call _ _ _ _) _ _ _) _) _ _ _); (k_here; (with_unfolding_all refine wpAny_For ?_ (hs := fun _ => rfl)))) | ((with_reducible show @ite _ _ _ _ _); (k_here; first | (refine ite_pos (by with_reducible assumption) ?_) | (refine ite_neg (by with_reducible assumption) ?_) | (refine ite_isFalse (by with_reducible assumption) ?_) | (refine ite_pos (by (simp only [beq_iff_eq, bne_iff_ne, ne_eq, Classical.not_not, decide_eq_true_eq]; (first | lia | omega))) ?_) | (refine ite_neg (by (simp only [beq_iff_eq, bne_iff_ne, ne_eq, Classical.not_not, decide_eq_true_eq]; (first | lia | omega))) ?_))) | ((with_reducible show wpAny _ _ (getAttr (Value.ref _) _ _) _ _ _); (k_here; (with_reducible show wpAny _ _ (getAttr (Value.ref _) (Str.ofString "lineno") _) _ _ _); k_dflt (refine' lineno_get ?zzF ?zzX ?zzN ?zzhx ?zzhd2 ?zzhL ?_; (case zzF => k_asm); (case zzN => k_asm); (case zzX => k_asm); (case zzhL => assumption); (case zzhd2 => walk_at "my mem"); (case zzhx => walk_at "my mem"); k_whole); intro zt)) | ((with_reducible show wpAny _ _ (getMethod (Value.ref _) _ _) _ _ _); (k_here; (with_reducible show wpAny _ _ (getMethod (Value.ref _) (PySem.Str.ofString "append") _) _ _ _); k_dflt (refine' listMethod_K ?zzN ?zzm PySem.F.slot_list_append PySem.F.type_list_append ?_; (case zzN => k_asm); (case zzm => walk_at "my mem")))) | ((with_reducible show wpAny _ _ (getMethod (Value.ref _) _ _) _ _ _); (k_here; (with_reducible show wpAny _ _ (getMethod (Value.ref _) (Str.ofString "get_token") _) _ _ _); k_dflt (refine' gettok_method ?zzF ?zzX ?zzN ?zzhx ?zzhd2 ?zzhL ?_; (case zzF => k_asm); (case zzN => k_asm); (case zzX => k_asm); (case zzhL => assumption); (case zzhd2 => walk_at "my mem"); (case zzhx => walk_at "my mem"); k_whole))) | ((with_reducible show wpAny _ _ (eval (Expr.Name _ _) _) _ _ _); (k_here; k_dflt (refine' nameX_L ?zzF ?zzv ?_ ?zza ?zzb; (case zzF => k_asm); (case zza => rfl); (case zzb => rfl); (case zzv => with_unfolding_all assumption); k_whole))) | ((with_reducible show wpAny _ _ (call (Value.ref _) _ _) _ _ _); ((with_reducible show wpAny _ _ (call (Value.ref _) _ _) _ _ _); refine Park.out ?_)) | ((with_reducible show wpAny _ _ (call (Value.builtin "len") _ _) _ _ _); (k_here; (with_reducible show wpAny _ _ (call _ [Value.str (S (List.getD _ _ [])) _]) _ _ _); k_dflt (refine len_piece (by assumption) (by first | lia | omega) ?_); intro zlp1 zlp2 zlp3)) | ((with_reducible show wpAny _ _ (call (Value.builtin "list.append") _ _) _ _ _); (k_here; (with_reducible show wpAny _ _ (call _ [Value.ref _, _]) _ _ _); k_dflt (refine my_append (by k_asm) (by k_asm) (by assumption) (by first | lia | omega) ?_); intro zh zF zN; (try k_sweep))) | ((with_reducible show wpAny _ _ (subscriptTail _ _ (Value.ref _) (Value.int _ _)) _ _ _); ((k_here; (with_reducible show wpAny _ _ (subscriptTail _ _ (Value.ref _) (Value.int _ _)) _ _ _); k_dflt (first | refine my_item (by k_asm) (by walk_at "my mem") (by assumption) (by first | lia | omega) (by first | lia | omega) (by first | lia | omega) ?_ (by with_unfolding_all rfl) (by with_unfolding_all (intro _; rfl)) | refine my_nat (by k_asm) (by walk_at "my mem") (by assumption) (by first | lia | omega) (by first | lia | omega) (by first | lia | omega) ?_ (by with_unfolding_all rfl) (by with_unfolding_all (intro _; rfl))); intro zt))) | ((with_reducible show wpAny _ _ (subscriptTail (Expr.Name _ _) (Expr.Slice _ _ _ _) (Value.ref _) (Value.ref _)) _ _ _); (k_here; k_dflt (first | refine my_upto (by k_asm) (by k_asm) (by walk_at "my mem") (by first | lia | omega) (by first | lia | omega) ?_ (by with_unfolding_all rfl) (by kmk_pure) | refine my_from (by k_asm) (by k_asm) (by walk_at "my mem") (by first | lia | omega) (by first | lia | omega) ?_ (by with_unfolding_all rfl) (by kmk_pure)); intro zD zh zF zN zl1; (try k_lt zl1); (try k_sweep))) | ((with_reducible show wpAny _ _ (call (Value.builtin "len") _ _) _ _ _); (k_here; (with_reducible show wpAny _ _ (call _ [Value.ref _]) _ _ _); k_dflt (refine my_len (by k_asm) (by walk_at "my mem") (by assumption) (by first | lia | omega) ?_))) | ((with_reducible show wpAny _ _ (pyIter (Value.ref _)) _ _ _); (refine Park.out ?_)) | ((with_reducible show wpAny _ _ (exec (Stmt.For (Expr.Name _ _) (Expr.Call _ _ _ _) _ _ _) _) _ _ _); ((k_here; (rename Fr _ _ _ _ => zlF); (with_unfolding_all refine' For_invVF zlF ?zzk1 ?zzk2 ?_; (case zzk1 => exact rfl); (case zzk2 => exact rfl); k_whole)))) | (with_reducible refine nxR ?_) | (with_reducible refine nxN ?_) | (with_reducible refine nxB ?_) | (with_reducible refine nxK ?_) | (with_reducible refine exN ?_) | (with_reducible refine exA ?zzhs ?_; (case zzhs => k_dflt (exact (rfl : (pure false : Sem Bool) = pure false))); intro zqk) | (with_reducible refine exI ?_; intro zqk) | (with_reducible refine exR ?_) | (with_reducible refine exG ?_; intro zqk) | (with_reducible refine exC ?_; intro zqk) | ((with_reducible show wpAny _ _ (eval (Expr.Name _ _) _) _ _ _); k_dflt (refine' nmL ?zzF ?zzv (rfl : true = true) ?zzl ?_; (case zzF => k_asm); (case zzl => exact rfl); (case zzv => exact (rfl : some _ = some _)); k_whole)) | ((with_reducible show wpAny _ _ (storeName _ _ _) _ _ _); k_dflt (refine' stX ?zzF ?zzN (rfl : true = true) ?zzl ?_; (case zzF => k_asm); (case zzN => k_asm); (case zzl => exact rfl); k_whole); intro zm1 zh zt zF zN; (try k_sweep)) | k_unfold | walk1 | (dsimp only; walk1) | leave1))
  refine Park.mk ?_
  rename News _ _ _ _ => N5
  show let G9 : Prop := _; G9
  intro G9
  obtain ⟨R, hR⟩ : ∃ R : Led, R = (P, tabObj ps7) :: (D2, listOf us2.toArray n2) :: (fl, listOf fv.toArray 0) :: (D1, listOf us1.toArray n1) :: (h'.objs.size, listOf wv.toArray 0) :: news := ⟨_, rfl⟩
  k_unfold
  have hRD2 : (D2, listOf us2.toArray n2) ∈ R := by rw [hR]; exact .tail _ (.head _)
  have hRfl : (fl, listOf fv.toArray 0) ∈ R := by rw [hR]; exact .tail _ (.tail _ (.head _))
  have hRD1 : (D1, listOf us1.toArray n1) ∈ R := by rw [hR]; exact .tail _ (.tail _ (.tail _ (.head _)))
  have hRW : (h'.objs.size, listOf wv.toArray 0) ∈ R := by rw [hR]; exact .tail _ (.tail _ (.tail _ (.tail _ (.head _))))
  have hRl : (l, listOf vs.toArray nn) ∈ R := by rw [hR]; exact .tail _ (.tail _ (.tail _ (.tail _ (.tail _ hpre))))
  have hRd2 : ∀ q ∈ R, @LT.lt Nat _ q.1 d2 := by
    rw [hR]
    intro q hq
    rcases List.mem_cons.mp hq with rfl | hq
    · exact off7 _ (.head _) _ (.head _)
    · exact off7 _ (.tail _ (.tail _ hq)) _ (.head _)
  have hRpl : ∀ q ∈ R, @LT.lt Nat _ q.1 pl := by
    rw [hR]
    exact alC hp5 (alC hp1 (alC hp2 (alC hp3 (alC hp4 hp6'))))
  have hpd : @LT.lt Nat _ pl d2 := off7 _ (.tail _ (.head _)) _ (.head _)
  have hRr : ∀ h₁ : Heap, (∃ ps tl', News h₀ L h₁ (tl' ++ ((P, tabObj ps) :: news))) → True := fun _ _ => trivial
  have N6 := news_sub (l' := (pl, listOf #[.int ((0 : Nat) : Int) t0] 0) :: (d2, o2) :: (fix ++ R)) N5 (by
    rw [hR]
    (repeat' (first | exact sb0 | exact sbR | refine sbC ?_ ?_ | refine sbA ?_ ?_ | (walk_at "my mem") | refine sbT ?_ | (refine sbL ?_; (repeat (refine sbT ?_)); exact sbR) | refine sbr ?_)))
  clear N5 hRr
  have hrd := H.rowlen
  refine' CTok.use (n := 0) (token_ok w) ?k1 ?k2 ?k3 ?k5 ?kK ?kd ?ku N6 hF hL (fun q hq => Nat.ne_of_lt (hRpl q hq)) (fun q hq => Nat.ne_of_lt (hRd2 q hq)) (by first | lia | omega) (by first | lia | omega) H.noslash (by decide) (by decide) ?_
  case k1 => k_asm
  case k2 => k_asm
  case k3 => k_asm
  case k5 => k_asm
  case kK => first | exact rfl | assumption
  case kd => first | exact room1 (by assumption) (by decide) | ktr_room
  case ku => first | exact units3 (by assumption) (by decide) | ktr_units
  intro t2a t3a k2a o2a h6 tk6 hLa F6 Na
  simp only [List.drop_zero, H.tok0, Nat.zero_add] at hLa Na ⊢
  clear N6
  have e257 : (S [50, 53, 55] != Str.ofString "257") = false := by decide
  (repeat' (first | ((with_reducible show wpAny _ _ (subscriptTail (Expr.Name _ _) (Expr.Constant _ _ _) (Value.ref _) (Value.int _ _)) _ _ _); (k_here; k_dflt (refine' my_single ?zzN ?zzhm ?_ ?zzhs ?zzhg; (case zzN => k_asm); (case zzhm => walk_at "my mem"); (case zzhs => with_unfolding_all rfl); (case zzhg => with_unfolding_all (intro _; rfl))))) | ((with_reducible show wpAny _ _ (call (Value.builtin "str.join") _ _) _ _ _); (k_here; k_dflt (first | (refine' my_join_take ?zzN ?zzhm ?zzhs ?zzhb ?zzhj ?_; (case zzN => k_asm); (case zzhm => walk_at "my mem"); (case zzhs => assumption); (case zzhb => assumption); (case zzhj => exact tn1 _)) | (refine' my_join_drop ?zzN ?zzhm ?zzhs ?zzhb ?zzhj ?_; (case zzN => k_asm); (case zzhm => walk_at "my mem"); (case zzhs => assumption); (case zzhb => assumption); (case zzhj => exact tn1 _))); intro zt zk)) | ((with_reducible show wpAny _ _ (call (Value.builtin "list.append") _ _) _ _ _); (k_here; refine Park.out ?_)) | ((with_reducible show wpAny _ _ (exec (Stmt.For (Expr.Name _ _) (Expr.Call _ _ _ _) _ _ _) _) _ _ _); (k_here; (with_unfolding_all refine wpAny_For ?_ (hs := fun _ => rfl)))) | ((with_reducible show @ite _ _ _ _ _); (k_here; first | (refine ite_pos (by with_reducible assumption) ?_) | (refine ite_neg (by with_reducible assumption) ?_) | (refine ite_isFalse (by with_reducible assumption) ?_) | (refine ite_pos (by (simp only [beq_iff_eq, bne_iff_ne, ne_eq, Classical.not_not, decide_eq_true_eq]; (first | lia | omega))) ?_) | (refine ite_neg (by (simp only [beq_iff_eq, bne_iff_ne, ne_eq, Classical.not_not, decide_eq_true_eq]; (first | lia | omega))) ?_))) | ((with_reducible show wpAny _ _ (getAttr (Value.ref _) _ _) _ _ _); (k_here; (with_reducible show wpAny _ _ (getAttr (Value.ref _) (Str.ofString "lineno") _) _ _ _); k_dflt (refine' lineno_get ?zzF ?zzX ?zzN ?zzhx ?zzhd2 ?zzhL ?_; (case zzF => k_asm); (case zzN => k_asm); (case zzX => k_asm); (case zzhL => assumption); (case zzhd2 => walk_at "my mem"); (case zzhx => walk_at "my mem"); k_whole); intro zt)) | ((with_reducible show wpAny _ _ (getMethod (Value.ref _) _ _) _ _ _); (k_here; (with_reducible show wpAny _ _ (getMethod (Value.ref _) (PySem.Str.ofString "append") _) _ _ _); k_dflt (refine' listMethod_K ?zzN ?zzm PySem.F.slot_list_append PySem.F.type_list_append ?_; (case zzN => k_asm); (case zzm => walk_at "my mem")))) | ((with_reducible show wpAny _ _ (getMethod (Value.ref _) _ _) _ _ _); (k_here; (with_reducible show wpAny _ _ (getMethod (Value.ref _) (Str.ofString "get_token") _) _ _ _); k_dflt (refine' gettok_method ?zzF ?zzX ?zzN ?zzhx ?zzhd2 ?zzhL ?_; (case zzF => k_asm); (case zzN => k_asm); (case zzX => k_asm); (case zzhL => assumption); (case zzhd2 => walk_at "my mem"); (case zzhx => walk_at "my mem"); k_whole))) | ((with_reducible show wpAny _ _ (eval (Expr.Name _ _) _) _ _ _); (k_here; k_dflt (refine' nameX_L ?zzF ?zzv ?_ ?zza ?zzb; (case zzF => k_asm); (case zza => rfl); (case zzb => rfl); (case zzv => with_unfolding_all assumption); k_whole))) | ((with_reducible show wpAny _ _ (call (Value.ref _) _ _) _ _ _); ((with_reducible show wpAny _ _ (call (Value.ref _) _ _) _ _ _); refine Park.out ?_)) | ((with_reducible show wpAny _ _ (call (Value.builtin "len") _ _) _ _ _); (k_here; (with_reducible show wpAny _ _ (call _ [Value.str (S (List.getD _ _ [])) _]) _ _ _); k_dflt (refine len_piece (by assumption) (by first | lia | omega) ?_); intro zlp1 zlp2 zlp3)) | ((with_reducible show wpAny _ _ (call (Value.builtin "list.append") _ _) _ _ _); (k_here; (with_reducible show wpAny _ _ (call _ [Value.ref _, _]) _ _ _); k_dflt (refine my_append (by k_asm) (by k_asm) (by assumption) (by first | lia | omega) ?_); intro zh zF zN; (try k_sweep))) | ((with_reducible show wpAny _ _ (subscriptTail _ _ (Value.ref _) (Value.int _ _)) _ _ _); ((k_here; (with_reducible show wpAny _ _ (subscriptTail _ _ (Value.ref _) (Value.int _ _)) _ _ _); k_dflt (first | refine my_item (by k_asm) (by walk_at "my mem") (by assumption) (by first | lia | omega) (by first | lia | omega) (by first | lia | omega) ?_ (by with_unfolding_all rfl) (by with_unfolding_all (intro _; rfl)) | refine my_nat (by k_asm) (by walk_at "my mem") (by assumption) (by first | lia | omega) (by first | lia | omega) (by first | lia | omega) ?_ (by with_unfolding_all rfl) (by with_unfolding_all (intro _; rfl))); intro zt))) | ((with_reducible show wpAny _ _ (subscriptTail (Expr.Name _ _) (Expr.Slice _ _ _ _) (Value.ref _) (Value.ref _)) _ _ _); (k_here; k_dflt (first | refine my_upto (by k_asm) (by k_asm) (by walk_at "my mem") (by first | lia | omega) (by first | lia | omega) ?_ (by with_unfolding_all rfl) (by kmk_pure) | refine my_from (by k_asm) (by k_asm) (by walk_at "my mem") (by first | lia | omega) (by first | lia | omega) ?_ (by with_unfolding_all rfl) (by kmk_pure)); intro zD zh zF zN zl1; (try k_lt zl1); (try k_sweep))) | ((with_reducible show wpAny _ _ (call (Value.builtin "len") _ _) _ _ _); (k_here; (with_reducible show wpAny _ _ (call _ [Value.ref _]) _ _ _); k_dflt (refine my_len (by k_asm) (by walk_at "my mem") (by assumption) (by first | lia | omega) ?_))) | ((with_reducible show wpAny _ _ (pyIter (Value.ref _)) _ _ _); (refine Park.out ?_)) | ((with_reducible show wpAny _ _ (exec (Stmt.For (Expr.Name _ _) (Expr.Call _ _ _ _) _ _ _) _) _ _ _); ((k_here; (rename Fr _ _ _ _ => zlF); (with_unfolding_all refine' For_invVF zlF ?zzk1 ?zzk2 ?_; (case zzk1 => exact rfl); (case zzk2 => exact rfl); k_whole)))) | (with_reducible refine nxR ?_) | (with_reducible refine nxN ?_) | (with_reducible refine nxB ?_) | (with_reducible refine nxK ?_) | (with_reducible refine exN ?_) | (with_reducible refine exA ?zzhs ?_; (case zzhs => k_dflt (exact (rfl : (pure false : Sem Bool) = pure false))); intro zqk) | (with_reducible refine exI ?_; intro zqk) | (with_reducible refine exR ?_) | (with_reducible refine exG ?_; intro zqk) | (with_reducible refine exC ?_; intro zqk) | ((with_reducible show wpAny _ _ (eval (Expr.Name _ _) _) _ _ _); k_dflt (refine' nmL ?zzF ?zzv (rfl : true = true) ?zzl ?_; (case zzF => k_asm); (case zzl => exact rfl); (case zzv => exact (rfl : some _ = some _)); k_whole)) | ((with_reducible show wpAny _ _ (storeName _ _ _) _ _ _); k_dflt (refine' stX ?zzF ?zzN (rfl : true = true) ?zzl ?_; (case zzF => k_asm); (case zzN => k_asm); (case zzl => exact rfl); k_whole); intro zm1 zh zt zF zN; (try k_sweep)) | k_unfold | walk1 | (dsimp only; walk1) | leave1))
  refine Park.mk ?_
  rw [slice_sn row (by first | lia | omega), show Int.toNat (4 : Int) = 4 from rfl]
  show let G9 : Prop := _; G9
  intro G9
  obtain ⟨un1, un2, un3⟩ := H.un0
  k_unfold
  refine' CUn.use (unread_ok w (row.drop 4) name _ _ (by simp; (first | lia | omega)) (fun c hc => H.chars c (List.mem_of_mem_drop hc)) un1 un2 un3) ?k1 ?k2 ?k3 ?k4 ?k5 ?XB ?TB ?D ?kK ?kd ?ku ?_
  case k1 => k_asm
  case k2 => k_asm
  case k3 => k_asm
  case k4 => k_asm
  case k5 => k_asm
  case XB => assumption
  case TB => assumption
  case D => assumption
  case kK => first | exact rfl | assumption
  case kd => first | exact room1 (by assumption) (by decide) | ktr_room
  case ku => first | exact units3 (by assumption) (by decide) | ktr_units
  clear un1 un2 un3
  intro r g2 h5 tk5 K5 F5 N5 B5 X5 T5 D5 hr5
  subst hr5
  have hwl : wv.length = ws.length := strs_Slen hwv rfl
  have hwn := H.wne
  have hwn2 := H.wlen
  (try dsimp only)
  (repeat' (first | ((with_reducible show wpAny _ _ (subscriptTail (Expr.Name _ _) (Expr.Constant _ _ _) (Value.ref _) (Value.int _ _)) _ _ _); (k_here; k_dflt (refine' my_single ?zzN ?zzhm ?_ ?zzhs ?zzhg; (case zzN => k_asm); (case zzhm => walk_at "my mem"); (case zzhs => with_unfolding_all rfl); (case zzhg => with_unfolding_all (intro _; rfl))))) | ((with_reducible show wpAny _ _ (call (Value.builtin "str.join") _ _) _ _ _); (k_here; k_dflt (first | (refine' my_join_take ?zzN ?zzhm ?zzhs ?zzhb ?zzhj ?_; (case zzN => k_asm); (case zzhm => walk_at "my mem"); (case zzhs => assumption); (case zzhb => assumption); (case zzhj => exact tn1 _)) | (refine' my_join_drop ?zzN ?zzhm ?zzhs ?zzhb ?zzhj ?_; (case zzN => k_asm); (case zzhm => walk_at "my mem"); (case zzhs => assumption); (case zzhb => assumption); (case zzhj => exact tn1 _))); intro zt zk)) | ((with_reducible show wpAny _ _ (call (Value.builtin "list.append") _ _) _ _ _); (k_here; refine Park.out ?_)) | ((with_reducible show wpAny _ _ (exec (Stmt.For (Expr.Name _ _) (Expr.Call _ _ _ _) _ _ _) _) _ _ _); (k_here; (with_unfolding_all refine wpAny_For ?_ (hs := fun _ => rfl)))) | ((with_reducible show @ite _ _ _ _ _); (k_here; first | (refine ite_pos (by with_reducible assumption) ?_) | (refine ite_neg (by with_reducible assumption) ?_) | (refine ite_isFalse (by with_reducible assumption) ?_) | (refine ite_pos (by (simp only [beq_iff_eq, bne_iff_ne, ne_eq, Classical.not_not, decide_eq_true_eq]; (first | lia | omega))) ?_) | (refine ite_neg (by (simp only [beq_iff_eq, bne_iff_ne, ne_eq, Classical.not_not, decide_eq_true_eq]; (first | lia | omega))) ?_))) | ((with_reducible show wpAny _ _ (getAttr (Value.ref _) _ _) _ _ _); (k_here; (with_reducible show wpAny _ _ (getAttr (Value.ref _) (Str.ofString "lineno") _) _ _ _); k_dflt (refine' lineno_get ?zzF ?zzX ?zzN ?zzhx ?zzhd2 ?zzhL ?_; (case zzF => k_asm); (case zzN => k_asm); (case zzX => k_asm); (case zzhL => assumption); (case zzhd2 => walk_at "my mem"); (case zzhx => walk_at "my mem"); k_whole); intro zt)) | ((with_reducible show wpAny _ _ (getMethod (Value.ref _) _ _) _ _ _); (k_here; (with_reducible show wpAny _ _ (getMethod (Value.ref _) (PySem.Str.ofString "append") _) _ _ _); k_dflt (refine' listMethod_K ?zzN ?zzm PySem.F.slot_list_append PySem.F.type_list_append ?_; (case zzN => k_asm); (case zzm => walk_at "my mem")))) | ((with_reducible show wpAny _ _ (getMethod (Value.ref _) _ _) _ _ _); (k_here; (with_reducible show wpAny _ _ (getMethod (Value.ref _) (Str.ofString "get_token") _) _ _ _); k_dflt (refine' gettok_method ?zzF ?zzX ?zzN ?zzhx ?zzhd2 ?zzhL ?_; (case zzF => k_asm); (case zzN => k_asm); (case zzX => k_asm); (case zzhL => assumption); (case zzhd2 => walk_at "my mem"); (case zzhx => walk_at "my mem"); k_whole))) | ((with_reducible show wpAny _ _ (eval (Expr.Name _ _) _) _ _ _); (k_here; k_dflt (refine' nameX_L ?zzF ?zzv ?_ ?zza ?zzb; (case zzF => k_asm); (case zza => rfl); (case zzb => rfl); (case zzv => with_unfolding_all assumption); k_whole))) | ((with_reducible show wpAny _ _ (call (Value.ref _) _ _) _ _ _); ((with_reducible show wpAny _ _ (call (Value.ref _) _ _) _ _ _); refine Park.out ?_)) | ((with_reducible show wpAny _ _ (call (Value.builtin "len") _ _) _ _ _); (k_here; (with_reducible show wpAny _ _ (call _ [Value.str (S (List.getD _ _ [])) _]) _ _ _); k_dflt (refine len_piece (by assumption) (by first | lia | omega) ?_); intro zlp1 zlp2 zlp3)) | ((with_reducible show wpAny _ _ (call (Value.builtin "list.append") _ _) _ _ _); (k_here; (with_reducible show wpAny _ _ (call _ [Value.ref _, _]) _ _ _); k_dflt (refine my_append (by k_asm) (by k_asm) (by assumption) (by first | lia | omega) ?_); intro zh zF zN; (try k_sweep))) | ((with_reducible show wpAny _ _ (subscriptTail _ _ (Value.ref _) (Value.int _ _)) _ _ _); ((k_here; (with_reducible show wpAny _ _ (subscriptTail _ _ (Value.ref _) (Value.int _ _)) _ _ _); k_dflt (first | refine my_item (by k_asm) (by walk_at "my mem") (by assumption) (by first | lia | omega) (by first | lia | omega) (by first | lia | omega) ?_ (by with_unfolding_all rfl) (by with_unfolding_all (intro _; rfl)) | refine my_nat (by k_asm) (by walk_at "my mem") (by assumption) (by first | lia | omega) (by first | lia | omega) (by first | lia | omega) ?_ (by with_unfolding_all rfl) (by with_unfolding_all (intro _; rfl))); intro zt))) | ((with_reducible show wpAny _ _ (subscriptTail (Expr.Name _ _) (Expr.Slice _ _ _ _) (Value.ref _) (Value.ref _)) _ _ _); (k_here; k_dflt (first | refine my_upto (by k_asm) (by k_asm) (by walk_at "my mem") (by first | lia | omega) (by first | lia | omega) ?_ (by with_unfolding_all rfl) (by kmk_pure) | refine my_from (by k_asm) (by k_asm) (by walk_at "my mem") (by first | lia | omega) (by first | lia | omega) ?_ (by with_unfolding_all rfl) (by kmk_pure)); intro zD zh zF zN zl1; (try k_lt zl1); (try k_sweep))) | ((with_reducible show wpAny _ _ (call (Value.builtin "len") _ _) _ _ _); (k_here; (with_reducible show wpAny _ _ (call _ [Value.ref _]) _ _ _); k_dflt (refine my_len (by k_asm) (by walk_at "my mem") (by assumption) (by first | lia | omega) ?_))) | ((with_reducible show wpAny _ _ (pyIter (Value.ref _)) _ _ _); (refine Park.out ?_)) | ((with_reducible show wpAny _ _ (exec (Stmt.For (Expr.Name _ _) (Expr.Call _ _ _ _) _ _ _) _) _ _ _); ((k_here; (rename Fr _ _ _ _ => zlF); (with_unfolding_all refine' For_invVF zlF ?zzk1 ?zzk2 ?_; (case zzk1 => exact rfl); (case zzk2 => exact rfl); k_whole)))) | (with_reducible refine nxR ?_) | (with_reducible refine nxN ?_) | (with_reducible refine nxB ?_) | (with_reducible refine nxK ?_) | (with_reducible refine exN ?_) | (with_reducible refine exA ?zzhs ?_; (case zzhs => k_dflt (exact (rfl : (pure false : Sem Bool) = pure false))); intro zqk) | (with_reducible refine exI ?_; intro zqk) | (with_reducible refine exR ?_) | (with_reducible refine exG ?_; intro zqk) | (with_reducible refine exC ?_; intro zqk) | ((with_reducible show wpAny _ _ (eval (Expr.Name _ _) _) _ _ _); k_dflt (refine' nmL ?zzF ?zzv (rfl : true = true) ?zzl ?_; (case zzF => k_asm); (case zzl => exact rfl); (case zzv => exact (rfl : some _ = some _)); k_whole)) | ((with_reducible show wpAny _ _ (storeName _ _ _) _ _ _); k_dflt (refine' stX ?zzF ?zzN (rfl : true = true) ?zzl ?_; (case zzF => k_asm); (case zzN => k_asm); (case zzl => exact rfl); k_whole); intro zm1 zh zt zF zN; (try k_sweep)) | k_unfold | walk1 | (dsimp only; walk1) | leave1))
  refine Park.mk ?_
  rename News _ _ _ _ => N4
  rename Fr _ _ _ _ => F4
  show let G9 : Prop := _; G9
  intro G9
  obtain ⟨stl, hx9⟩ := name_0 N4
  k_unfold
  subst hx9
  rename pl < stl ∧ _ => hls
  show let G9 : Prop := _; G9
  intro G9
  obtain ⟨hs1, hs2, hs3⟩ := hls
  k_unfold
  have hs3' := allLt_mem hs3
  have hws := H.wsum
  rename IsRange _ _ _ _ _ _ _ _ => rgX
  with_unfolding_all refine' raw_range (n := ws.length) (σ := StC) (fun c => c.g)
                              (fun c => (stl, listOf c.svs.toArray c.sn) :: (pl, listOf #[.int ((c.pv : Nat) : Int) c.pt] c.pk) :: (d2, c.o2) :: (fix ++ (c.tups ++ R)))
                              (fun i c m => A20 (c.pv = plc ws i) (IsLexD w (1 + nlc row (plc ws i)) x1 l2 c.o2) (Stops c.tups c.svs (stopsTo name ps ws (min i (ws.length - 1)))) (∀ q ∈ c.tups, @LT.lt Nat _ stl q.1) (KtsTurn ([envOf cn cs L a ccd].filterMap (·.frame)) g' c.g) (Below (ktrTop dp un gd cn cs L a ccd [] []) base [envOf cn cs L a ccd] c.g) ((Khp w.params).In c.g) (Top p loose mean mg mb c.g) (KtsDicts ([envOf cn cs L a ccd].filterMap (·.frame)) c.g) (m (Str.ofString "row") = some (.str (S row) t)) (m (Str.ofString "name") = some (.str (S name) t1)) (m (Str.ofString "pieces") = some (.ref l)) (m (Str.ofString "tail") = some (.str (S tail) t2)) (m (Str.ofString "words") = some (.ref h'.objs.size)) (m (Str.ofString "fronts") = some (.ref D1)) (m (Str.ofString "fitting") = some (.ref fl)) (m (Str.ofString "ends") = some (.ref D2)) (m (Str.ofString "place") = some (.ref pl)) (m (Str.ofString "lexer") = some (.ref x2)) (m (Str.ofString "stops") = some (.ref stl)))
                              ⟨g2, [], 0, [], 4, t2a, k2a, o2a⟩ (by rfl) rgX ?hsm ?hn F4 N4 ?hp ?turn ?done
  case hsm => exact small_one (by first | lia | omega) (by first | lia | omega) (by first | lia | omega) (by first | lia | omega)
  case hn => exact (rangeSize_nat _ _).trans (by first | lia | omega)
  case hp =>
    refine ⟨rfl, hLa, ⟨rfl, fun i v h => by simp at h⟩, fun q hq => (nomatch hq), K5, B5, X5, T5, D5, ?_, ?_, ?_, ?_, ?_, ?_, ?_, ?_, ?_, ?_, ?_⟩ <;> with_unfolding_all exact rfl
  case turn =>
    clear F4 N4 hLa K5 B5 X5 T5 D5 B' X' T' D'
    intro it i c m9 h9 tk9 t9 E9 hi hP F9 N9 off
    show let G9 : Prop := _; G9
    intro G9
    obtain ⟨cg, svs, sn, tups, pv, pt, pk, o2c⟩ := c
    k_unfold
    show let G9 : Prop := _; G9
    intro G9
    obtain ⟨hpv, hLc, hSt, htup, KT, BT, XT, TT, DT, m1, m2, m3, m4, m5, m6, m7, m8, m10, m11, m12⟩ := hP
    k_unfold
    dsimp only at hpv hLc hSt htup KT BT XT TT DT F9 N9 off
    subst hpv
    have htn : Int.toNat (1 + (i : Int)) = i + 1 := tn1 i
    have hdl := S_len (dueOf ws (i + 1))
    have hrl3 := S_len (restOf ws (i + 1))
    have hdle := H.dueLe (i + 1) (by first | lia | omega)
    have hrle := H.restLe (i + 1) (by first | lia | omega)
    have hple := H.plcLe (i + 1) (by first | lia | omega)
    have hpe := H.plcEq (i + 1) (by first | lia | omega) (by first | lia | omega)
    have hpli := H.plcLe i (by first | lia | omega)
    (repeat' (first | ((with_reducible show wpAny _ _ (subscriptTail (Expr.Name _ _) (Expr.Constant _ _ _) (Value.ref _) (Value.int _ _)) _ _ _); (k_here; k_dflt (refine' my_single ?zzN ?zzhm ?_ ?zzhs ?zzhg; (case zzN => k_asm); (case zzhm => walk_at "my mem"); (case zzhs => with_unfolding_all rfl); (case zzhg => with_unfolding_all (intro _; rfl))))) | ((with_reducible show wpAny _ _ (call (Value.builtin "str.join") _ _) _ _ _); (k_here; k_dflt (first | (refine' my_join_take ?zzN ?zzhm ?zzhs ?zzhb ?zzhj ?_; (case zzN => k_asm); (case zzhm => walk_at "my mem"); (case zzhs => assumption); (case zzhb => assumption); (case zzhj => exact tn1 _)) | (refine' my_join_drop ?zzN ?zzhm ?zzhs ?zzhb ?zzhj ?_; (case zzN => k_asm); (case zzhm => walk_at "my mem"); (case zzhs => assumption); (case zzhb => assumption); (case zzhj => exact tn1 _))); intro zt zk)) | ((with_reducible show wpAny _ _ (call (Value.builtin "list.append") _ _) _ _ _); (k_here; refine Park.out ?_)) | ((with_reducible show wpAny _ _ (exec (Stmt.For (Expr.Name _ _) (Expr.Call _ _ _ _) _ _ _) _) _ _ _); (k_here; (with_unfolding_all refine wpAny_For ?_ (hs := fun _ => rfl)))) | ((with_reducible show @ite _ _ _ _ _); (k_here; first | (refine ite_pos (by with_reducible assumption) ?_) | (refine ite_neg (by with_reducible assumption) ?_) | (refine ite_isFalse (by with_reducible assumption) ?_) | (refine ite_pos (by (simp only [beq_iff_eq, bne_iff_ne, ne_eq, Classical.not_not, decide_eq_true_eq]; (first | lia | omega))) ?_) | (refine ite_neg (by (simp only [beq_iff_eq, bne_iff_ne, ne_eq, Classical.not_not, decide_eq_true_eq]; (first | lia | omega))) ?_))) | ((with_reducible show wpAny _ _ (getAttr (Value.ref _) _ _) _ _ _); (k_here; (with_reducible show wpAny _ _ (getAttr (Value.ref _) (Str.ofString "lineno") _) _ _ _); k_dflt (refine' lineno_get ?zzF ?zzX ?zzN ?zzhx ?zzhd2 ?zzhL ?_; (case zzF => k_asm); (case zzN => k_asm); (case zzX => k_asm); (case zzhL => assumption); (case zzhd2 => walk_at "my mem"); (case zzhx => walk_at "my mem"); k_whole); intro zt)) | ((with_reducible show wpAny _ _ (getMethod (Value.ref _) _ _) _ _ _); (k_here; (with_reducible show wpAny _ _ (getMethod (Value.ref _) (PySem.Str.ofString "append") _) _ _ _); k_dflt (refine' listMethod_K ?zzN ?zzm PySem.F.slot_list_append PySem.F.type_list_append ?_; (case zzN => k_asm); (case zzm => walk_at "my mem")))) | ((with_reducible show wpAny _ _ (getMethod (Value.ref _) _ _) _ _ _); (k_here; (with_reducible show wpAny _ _ (getMethod (Value.ref _) (Str.ofString "get_token") _) _ _ _); k_dflt (refine' gettok_method ?zzF ?zzX ?zzN ?zzhx ?zzhd2 ?zzhL ?_; (case zzF => k_asm); (case zzN => k_asm); (case zzX => k_asm); (case zzhL => assumption); (case zzhd2 => walk_at "my mem"); (case zzhx => walk_at "my mem"); k_whole))) | ((with_reducible show wpAny _ _ (eval (Expr.Name _ _) _) _ _ _); (k_here; k_dflt (refine' nameX_L ?zzF ?zzv ?_ ?zza ?zzb; (case zzF => k_asm); (case zza => rfl); (case zzb => rfl); (case zzv => with_unfolding_all assumption); k_whole))) | ((with_reducible show wpAny _ _ (call (Value.ref _) _ _) _ _ _); ((with_reducible show wpAny _ _ (call (Value.ref _) _ _) _ _ _); refine Park.out ?_)) | ((with_reducible show wpAny _ _ (call (Value.builtin "len") _ _) _ _ _); (k_here; (with_reducible show wpAny _ _ (call _ [Value.str (S (List.getD _ _ [])) _]) _ _ _); k_dflt (refine len_piece (by assumption) (by first | lia | omega) ?_); intro zlp1 zlp2 zlp3)) | ((with_reducible show wpAny _ _ (call (Value.builtin "list.append") _ _) _ _ _); (k_here; (with_reducible show wpAny _ _ (call _ [Value.ref _, _]) _ _ _); k_dflt (refine my_append (by k_asm) (by k_asm) (by assumption) (by first | lia | omega) ?_); intro zh zF zN; (try k_sweep))) | ((with_reducible show wpAny _ _ (subscriptTail _ _ (Value.ref _) (Value.int _ _)) _ _ _); ((k_here; (with_reducible show wpAny _ _ (subscriptTail _ _ (Value.ref _) (Value.int _ _)) _ _ _); k_dflt (first | refine my_item (by k_asm) (by walk_at "my mem") (by assumption) (by first | lia | omega) (by first | lia | omega) (by first | lia | omega) ?_ (by with_unfolding_all rfl) (by with_unfolding_all (intro _; rfl)) | refine my_nat (by k_asm) (by walk_at "my mem") (by assumption) (by first | lia | omega) (by first | lia | omega) (by first | lia | omega) ?_ (by with_unfolding_all rfl) (by with_unfolding_all (intro _; rfl))); intro zt))) | ((with_reducible show wpAny _ _ (subscriptTail (Expr.Name _ _) (Expr.Slice _ _ _ _) (Value.ref _) (Value.ref _)) _ _ _); (k_here; k_dflt (first | refine my_upto (by k_asm) (by k_asm) (by walk_at "my mem") (by first | lia | omega) (by first | lia | omega) ?_ (by with_unfolding_all rfl) (by kmk_pure) | refine my_from (by k_asm) (by k_asm) (by walk_at "my mem") (by first | lia | omega) (by first | lia | omega) ?_ (by with_unfolding_all rfl) (by kmk_pure)); intro zD zh zF zN zl1; (try k_lt zl1); (try k_sweep))) | ((with_reducible show wpAny _ _ (call (Value.builtin "len") _ _) _ _ _); (k_here; (with_reducible show wpAny _ _ (call _ [Value.ref _]) _ _ _); k_dflt (refine my_len (by k_asm) (by walk_at "my mem") (by assumption) (by first | lia | omega) ?_))) | ((with_reducible show wpAny _ _ (pyIter (Value.ref _)) _ _ _); (refine Park.out ?_)) | ((with_reducible show wpAny _ _ (exec (Stmt.For (Expr.Name _ _) (Expr.Call _ _ _ _) _ _ _) _) _ _ _); ((k_here; (rename Fr _ _ _ _ => zlF); (with_unfolding_all refine' For_invVF zlF ?zzk1 ?zzk2 ?_; (case zzk1 => exact rfl); (case zzk2 => exact rfl); k_whole)))) | (with_reducible refine nxR ?_) | (with_reducible refine nxN ?_) | (with_reducible refine nxB ?_) | (with_reducible refine nxK ?_) | (with_reducible refine exN ?_) | (with_reducible refine exA ?zzhs ?_; (case zzhs => k_dflt (exact (rfl : (pure false : Sem Bool) = pure false))); intro zqk) | (with_reducible refine exI ?_; intro zqk) | (with_reducible refine exR ?_) | (with_reducible refine exG ?_; intro zqk) | (with_reducible refine exC ?_; intro zqk) | ((with_reducible show wpAny _ _ (eval (Expr.Name _ _) _) _ _ _); k_dflt (refine' nmL ?zzF ?zzv (rfl : true = true) ?zzl ?_; (case zzF => k_asm); (case zzl => exact rfl); (case zzv => exact (rfl : some _ = some _)); k_whole)) | ((with_reducible show wpAny _ _ (storeName _ _ _) _ _ _); k_dflt (refine' stX ?zzF ?zzN (rfl : true = true) ?zzl ?_; (case zzF => k_asm); (case zzN => k_asm); (case zzl => exact rfl); k_whole); intro zm1 zh zt zF zN; (try k_sweep)) | k_unfold | walk1 | (dsimp only; walk1) | leave1))
    refine Park.mk ?_
    rename News _ _ _ _ => N3
    have hoff9 : ∀ q ∈ (it, riObj (1 + ((i + 1 : Nat) : Int)) ((ws.length : Int) - ((i + 1 : Nat) : Int))) :: (stl, listOf svs.toArray sn) :: (tups ++ R), q.1 ≠ pl ∧ q.1 ≠ d2 := by
      exact alC (⟨fun e => off _ (.tail _ (.head _)) e.symm, fun e => off _ (.tail _ (.tail _ (.head _))) e.symm⟩) (alC (⟨Nat.ne_of_gt hs1, Nat.ne_of_gt hs2⟩) (alA (fun q hq => ⟨Nat.ne_of_gt (Nat.lt_trans hs1 (htup q hq)), Nat.ne_of_gt (Nat.lt_trans hs2 (htup q hq))⟩) (fun q hq => ⟨Nat.ne_of_lt (hRpl q hq), Nat.ne_of_lt (hRd2 q hq)⟩)))
    have N6 := news_sub (l' := (pl, listOf #[.int ((plc ws i : Nat) : Int) pt] pk) :: (d2, o2c) :: (fix ++ ((it, riObj (1 + ((i + 1 : Nat) : Int)) ((ws.length : Int) - ((i + 1 : Nat) : Int))) :: (stl, listOf svs.toArray sn) :: (tups ++ R)))) N3 (by
      (repeat' (first | exact sb0 | exact sbR | refine sbC ?_ ?_ | refine sbA ?_ ?_ | (walk_at "my mem") | refine sbT ?_ | (refine sbL ?_; (repeat (refine sbT ?_)); exact sbR) | refine sbr ?_)))
    clear N3
    have htk := H.tok i hi
    refine' CTok.use (n := plc ws i) (token_ok w) ?k1 ?k2 ?k3 ?k5 ?kK ?kd ?ku N6 hF hLc (fun q hq => (hoff9 q hq).1) (fun q hq => (hoff9 q hq).2) (by first | lia | omega) (by first | lia | omega) H.noslash ?kn ?kn2 ?_
    case k1 => k_asm
    case k2 => k_asm
    case k3 => k_asm
    case k5 => k_asm
    case kK => first | exact rfl | assumption
    case kd => first | exact room1 (by assumption) (by decide) | ktr_room
    case ku => first | exact units3 (by assumption) (by decide) | ktr_units
    case kn => have := nlc_nn row (plc ws i); (first | lia | omega)
    case kn2 => have := nlc_le row (plc ws i); (first | lia | omega)
    intro t2b t3b k2b o2b h4 tk4 hLb F4 Nb
    rw [htk] at hLb Nb ⊢
    clear N6
    have hpp2 : plc ws i + (ws.getD i [], (ws.getD i []).length + 2).2 = plc ws (i + 1) := rfl
    rw [hpp2] at Nb
    have hlb2 : 1 + nlc row (plc ws i) + nlc (row.drop (plc ws i)) (ws.getD i [], (ws.getD i []).length + 2).2 = 1 + nlc row (plc ws (i + 1)) := by
      rw [← hpp2, nlc_add row (plc ws i), Int.add_assoc]
    rw [hlb2] at hLb
    clear hpp2 hlb2
    have hcmp : (S (ws.getD i []) != S (ws.getD (Int.toNat (1 + (i : Int) - 1)) [])) = false := by
      rw [show Int.toNat (1 + (i : Int) - 1) = i by first | lia | omega]; simp
    (repeat' (first | ((with_reducible show wpAny _ _ (subscriptTail (Expr.Name _ _) (Expr.Constant _ _ _) (Value.ref _) (Value.int _ _)) _ _ _); (k_here; k_dflt (refine' my_single ?zzN ?zzhm ?_ ?zzhs ?zzhg; (case zzN => k_asm); (case zzhm => walk_at "my mem"); (case zzhs => with_unfolding_all rfl); (case zzhg => with_unfolding_all (intro _; rfl))))) | ((with_reducible show wpAny _ _ (call (Value.builtin "str.join") _ _) _ _ _); (k_here; k_dflt (first | (refine' my_join_take ?zzN ?zzhm ?zzhs ?zzhb ?zzhj ?_; (case zzN => k_asm); (case zzhm => walk_at "my mem"); (case zzhs => assumption); (case zzhb => assumption); (case zzhj => exact tn1 _)) | (refine' my_join_drop ?zzN ?zzhm ?zzhs ?zzhb ?zzhj ?_; (case zzN => k_asm); (case zzhm => walk_at "my mem"); (case zzhs => assumption); (case zzhb => assumption); (case zzhj => exact tn1 _))); intro zt zk)) | ((with_reducible show wpAny _ _ (call (Value.builtin "list.append") _ _) _ _ _); (k_here; refine Park.out ?_)) | ((with_reducible show wpAny _ _ (exec (Stmt.For (Expr.Name _ _) (Expr.Call _ _ _ _) _ _ _) _) _ _ _); (k_here; (with_unfolding_all refine wpAny_For ?_ (hs := fun _ => rfl)))) | ((with_reducible show @ite _ _ _ _ _); (k_here; first | (refine ite_pos (by with_reducible assumption) ?_) | (refine ite_neg (by with_reducible assumption) ?_) | (refine ite_isFalse (by with_reducible assumption) ?_) | (refine ite_pos (by (simp only [beq_iff_eq, bne_iff_ne, ne_eq, Classical.not_not, decide_eq_true_eq]; (first | lia | omega))) ?_) | (refine ite_neg (by (simp only [beq_iff_eq, bne_iff_ne, ne_eq, Classical.not_not, decide_eq_true_eq]; (first | lia | omega))) ?_))) | ((with_reducible show wpAny _ _ (getAttr (Value.ref _) _ _) _ _ _); (k_here; (with_reducible show wpAny _ _ (getAttr (Value.ref _) (Str.ofString "lineno") _) _ _ _); k_dflt (refine' lineno_get ?zzF ?zzX ?zzN ?zzhx ?zzhd2 ?zzhL ?_; (case zzF => k_asm); (case zzN => k_asm); (case zzX => k_asm); (case zzhL => assumption); (case zzhd2 => walk_at "my mem"); (case zzhx => walk_at "my mem"); k_whole); intro zt)) | ((with_reducible show wpAny _ _ (getMethod (Value.ref _) _ _) _ _ _); (k_here; (with_reducible show wpAny _ _ (getMethod (Value.ref _) (PySem.Str.ofString "append") _) _ _ _); k_dflt (refine' listMethod_K ?zzN ?zzm PySem.F.slot_list_append PySem.F.type_list_append ?_; (case zzN => k_asm); (case zzm => walk_at "my mem")))) | ((with_reducible show wpAny _ _ (getMethod (Value.ref _) _ _) _ _ _); (k_here; (with_reducible show wpAny _ _ (getMethod (Value.ref _) (Str.ofString "get_token") _) _ _ _); k_dflt (refine' gettok_method ?zzF ?zzX ?zzN ?zzhx ?zzhd2 ?zzhL ?_; (case zzF => k_asm); (case zzN => k_asm); (case zzX => k_asm); (case zzhL => assumption); (case zzhd2 => walk_at "my mem"); (case zzhx => walk_at "my mem"); k_whole))) | ((with_reducible show wpAny _ _ (eval (Expr.Name _ _) _) _ _ _); (k_here; k_dflt (refine' nameX_L ?zzF ?zzv ?_ ?zza ?zzb; (case zzF => k_asm); (case zza => rfl); (case zzb => rfl); (case zzv => with_unfolding_all assumption); k_whole))) | ((with_reducible show wpAny _ _ (call (Value.ref _) _ _) _ _ _); ((with_reducible show wpAny _ _ (call (Value.ref _) _ _) _ _ _); refine Park.out ?_)) | ((with_reducible show wpAny _ _ (call (Value.builtin "len") _ _) _ _ _); (k_here; (with_reducible show wpAny _ _ (call _ [Value.str (S (List.getD _ _ [])) _]) _ _ _); k_dflt (refine len_piece (by assumption) (by first | lia | omega) ?_); intro zlp1 zlp2 zlp3)) | ((with_reducible show wpAny _ _ (call (Value.builtin "list.append") _ _) _ _ _); (k_here; (with_reducible show wpAny _ _ (call _ [Value.ref _, _]) _ _ _); k_dflt (refine my_append (by k_asm) (by k_asm) (by assumption) (by first | lia | omega) ?_); intro zh zF zN; (try k_sweep))) | ((with_reducible show wpAny _ _ (subscriptTail _ _ (Value.ref _) (Value.int _ _)) _ _ _); ((k_here; (with_reducible show wpAny _ _ (subscriptTail _ _ (Value.ref _) (Value.int _ _)) _ _ _); k_dflt (first | refine my_item (by k_asm) (by walk_at "my mem") (by assumption) (by first | lia | omega) (by first | lia | omega) (by first | lia | omega) ?_ (by with_unfolding_all rfl) (by with_unfolding_all (intro _; rfl)) | refine my_nat (by k_asm) (by walk_at "my mem") (by assumption) (by first | lia | omega) (by first | lia | omega) (by first | lia | omega) ?_ (by with_unfolding_all rfl) (by with_unfolding_all (intro _; rfl))); intro zt))) | ((with_reducible show wpAny _ _ (subscriptTail (Expr.Name _ _) (Expr.Slice _ _ _ _) (Value.ref _) (Value.ref _)) _ _ _); (k_here; k_dflt (first | refine my_upto (by k_asm) (by k_asm) (by walk_at "my mem") (by first | lia | omega) (by first | lia | omega) ?_ (by with_unfolding_all rfl) (by kmk_pure) | refine my_from (by k_asm) (by k_asm) (by walk_at "my mem") (by first | lia | omega) (by first | lia | omega) ?_ (by with_unfolding_all rfl) (by kmk_pure)); intro zD zh zF zN zl1; (try k_lt zl1); (try k_sweep))) | ((with_reducible show wpAny _ _ (call (Value.builtin "len") _ _) _ _ _); (k_here; (with_reducible show wpAny _ _ (call _ [Value.ref _]) _ _ _); k_dflt (refine my_len (by k_asm) (by walk_at "my mem") (by assumption) (by first | lia | omega) ?_))) | ((with_reducible show wpAny _ _ (pyIter (Value.ref _)) _ _ _); (refine Park.out ?_)) | ((with_reducible show wpAny _ _ (exec (Stmt.For (Expr.Name _ _) (Expr.Call _ _ _ _) _ _ _) _) _ _ _); ((k_here; (rename Fr _ _ _ _ => zlF); (with_unfolding_all refine' For_invVF zlF ?zzk1 ?zzk2 ?_; (case zzk1 => exact rfl); (case zzk2 => exact rfl); k_whole)))) | (with_reducible refine nxR ?_) | (with_reducible refine nxN ?_) | (with_reducible refine nxB ?_) | (with_reducible refine nxK ?_) | (with_reducible refine exN ?_) | (with_reducible refine exA ?zzhs ?_; (case zzhs => k_dflt (exact (rfl : (pure false : Sem Bool) = pure false))); intro zqk) | (with_reducible refine exI ?_; intro zqk) | (with_reducible refine exR ?_) | (with_reducible refine exG ?_; intro zqk) | (with_reducible refine exC ?_; intro zqk) | ((with_reducible show wpAny _ _ (eval (Expr.Name _ _) _) _ _ _); k_dflt (refine' nmL ?zzF ?zzv (rfl : true = true) ?zzl ?_; (case zzF => k_asm); (case zzl => exact rfl); (case zzv => exact (rfl : some _ = some _)); k_whole)) | ((with_reducible show wpAny _ _ (storeName _ _ _) _ _ _); k_dflt (refine' stX ?zzF ?zzN (rfl : true = true) ?zzl ?_; (case zzF => k_asm); (case zzN => k_asm); (case zzl => exact rfl); k_whole); intro zm1 zh zt zF zN; (try k_sweep)) | k_unfold | walk1 | (dsimp only; walk1) | leave1))
    refine Park.mk ?_
    refine' CPure.use (read_ok w row (dueOf ws (i + 1)) (plc ws (i + 1)) (decide (1 + (i : Int) < (ws.length : Int))) _ _ _ (by first | lia | omega) (by first | lia | omega) (by first | lia | omega) H.row3 (H.read1 (i + 1) (by first | lia | omega) (by first | lia | omega)) (H.read2 (i + 1) (by first | lia | omega) (by first | lia | omega)) (fun hd => H.read3 (i + 1) (by first | lia | omega) (by have := of_decide_eq_true hd; (first | lia | omega)))) ?k1 ?k2 ?k3 ?k4 ?k5 ?kK ?kd ?ku ?kp ?_
    ((case k1 => k_asm); (case k2 => k_asm); (case k3 => k_asm); (case k4 => k_asm); (case k5 => k_asm); (case kK => first | exact rfl | assumption); (case kd => first | exact room1 (by assumption) (by decide) | ktr_room); (case ku => first | exact units3 (by assumption) (by decide) | ktr_units))
    case kp => trivial
    rintro r h3 tk3 F3 N3 hr3
    subst hr3
    (try dsimp only)
    (repeat' (first | ((with_reducible show wpAny _ _ (subscriptTail (Expr.Name _ _) (Expr.Constant _ _ _) (Value.ref _) (Value.int _ _)) _ _ _); (k_here; k_dflt (refine' my_single ?zzN ?zzhm ?_ ?zzhs ?zzhg; (case zzN => k_asm); (case zzhm => walk_at "my mem"); (case zzhs => with_unfolding_all rfl); (case zzhg => with_unfolding_all (intro _; rfl))))) | ((with_reducible show wpAny _ _ (call (Value.builtin "str.join") _ _) _ _ _); (k_here; k_dflt (first | (refine' my_join_take ?zzN ?zzhm ?zzhs ?zzhb ?zzhj ?_; (case zzN => k_asm); (case zzhm => walk_at "my mem"); (case zzhs => assumption); (case zzhb => assumption); (case zzhj => exact tn1 _)) | (refine' my_join_drop ?zzN ?zzhm ?zzhs ?zzhb ?zzhj ?_; (case zzN => k_asm); (case zzhm => walk_at "my mem"); (case zzhs => assumption); (case zzhb => assumption); (case zzhj => exact tn1 _))); intro zt zk)) | ((with_reducible show wpAny _ _ (call (Value.builtin "list.append") _ _) _ _ _); (k_here; refine Park.out ?_)) | ((with_reducible show wpAny _ _ (exec (Stmt.For (Expr.Name _ _) (Expr.Call _ _ _ _) _ _ _) _) _ _ _); (k_here; (with_unfolding_all refine wpAny_For ?_ (hs := fun _ => rfl)))) | ((with_reducible show @ite _ _ _ _ _); (k_here; first | (refine ite_pos (by with_reducible assumption) ?_) | (refine ite_neg (by with_reducible assumption) ?_) | (refine ite_isFalse (by with_reducible assumption) ?_) | (refine ite_pos (by (simp only [beq_iff_eq, bne_iff_ne, ne_eq, Classical.not_not, decide_eq_true_eq]; (first | lia | omega))) ?_) | (refine ite_neg (by (simp only [beq_iff_eq, bne_iff_ne, ne_eq, Classical.not_not, decide_eq_true_eq]; (first | lia | omega))) ?_))) | ((with_reducible show wpAny _ _ (getAttr (Value.ref _) _ _) _ _ _); (k_here; (with_reducible show wpAny _ _ (getAttr (Value.ref _) (Str.ofString "lineno") _) _ _ _); k_dflt (refine' lineno_get ?zzF ?zzX ?zzN ?zzhx ?zzhd2 ?zzhL ?_; (case zzF => k_asm); (case zzN => k_asm); (case zzX => k_asm); (case zzhL => assumption); (case zzhd2 => walk_at "my mem"); (case zzhx => walk_at "my mem"); k_whole); intro zt)) | ((with_reducible show wpAny _ _ (getMethod (Value.ref _) _ _) _ _ _); (k_here; (with_reducible show wpAny _ _ (getMethod (Value.ref _) (PySem.Str.ofString "append") _) _ _ _); k_dflt (refine' listMethod_K ?zzN ?zzm PySem.F.slot_list_append PySem.F.type_list_append ?_; (case zzN => k_asm); (case zzm => walk_at "my mem")))) | ((with_reducible show wpAny _ _ (getMethod (Value.ref _) _ _) _ _ _); (k_here; (with_reducible show wpAny _ _ (getMethod (Value.ref _) (Str.ofString "get_token") _) _ _ _); k_dflt (refine' gettok_method ?zzF ?zzX ?zzN ?zzhx ?zzhd2 ?zzhL ?_; (case zzF => k_asm); (case zzN => k_asm); (case zzX => k_asm); (case zzhL => assumption); (case zzhd2 => walk_at "my mem"); (case zzhx => walk_at "my mem"); k_whole))) | ((with_reducible show wpAny _ _ (eval (Expr.Name _ _) _) _ _ _); (k_here; k_dflt (refine' nameX_L ?zzF ?zzv ?_ ?zza ?zzb; (case zzF => k_asm); (case zza => rfl); (case zzb => rfl); (case zzv => with_unfolding_all assumption); k_whole))) | ((with_reducible show wpAny _ _ (call (Value.ref _) _ _) _ _ _); ((with_reducible show wpAny _ _ (call (Value.ref _) _ _) _ _ _); refine Park.out ?_)) | ((with_reducible show wpAny _ _ (call (Value.builtin "len") _ _) _ _ _); (k_here; (with_reducible show wpAny _ _ (call _ [Value.str (S (List.getD _ _ [])) _]) _ _ _); k_dflt (refine len_piece (by assumption) (by first | lia | omega) ?_); intro zlp1 zlp2 zlp3)) | ((with_reducible show wpAny _ _ (call (Value.builtin "list.append") _ _) _ _ _); (k_here; (with_reducible show wpAny _ _ (call _ [Value.ref _, _]) _ _ _); k_dflt (refine my_append (by k_asm) (by k_asm) (by assumption) (by first | lia | omega) ?_); intro zh zF zN; (try k_sweep))) | ((with_reducible show wpAny _ _ (subscriptTail _ _ (Value.ref _) (Value.int _ _)) _ _ _); ((k_here; (with_reducible show wpAny _ _ (subscriptTail _ _ (Value.ref _) (Value.int _ _)) _ _ _); k_dflt (first | refine my_item (by k_asm) (by walk_at "my mem") (by assumption) (by first | lia | omega) (by first | lia | omega) (by first | lia | omega) ?_ (by with_unfolding_all rfl) (by with_unfolding_all (intro _; rfl)) | refine my_nat (by k_asm) (by walk_at "my mem") (by assumption) (by first | lia | omega) (by first | lia | omega) (by first | lia | omega) ?_ (by with_unfolding_all rfl) (by with_unfolding_all (intro _; rfl))); intro zt))) | ((with_reducible show wpAny _ _ (subscriptTail (Expr.Name _ _) (Expr.Slice _ _ _ _) (Value.ref _) (Value.ref _)) _ _ _); (k_here; k_dflt (first | refine my_upto (by k_asm) (by k_asm) (by walk_at "my mem") (by first | lia | omega) (by first | lia | omega) ?_ (by with_unfolding_all rfl) (by kmk_pure) | refine my_from (by k_asm) (by k_asm) (by walk_at "my mem") (by first | lia | omega) (by first | lia | omega) ?_ (by with_unfolding_all rfl) (by kmk_pure)); intro zD zh zF zN zl1; (try k_lt zl1); (try k_sweep))) | ((with_reducible show wpAny _ _ (call (Value.builtin "len") _ _) _ _ _); (k_here; (with_reducible show wpAny _ _ (call _ [Value.ref _]) _ _ _); k_dflt (refine my_len (by k_asm) (by walk_at "my mem") (by assumption) (by first | lia | omega) ?_))) | ((with_reducible show wpAny _ _ (pyIter (Value.ref _)) _ _ _); (refine Park.out ?_)) | ((with_reducible show wpAny _ _ (exec (Stmt.For (Expr.Name _ _) (Expr.Call _ _ _ _) _ _ _) _) _ _ _); ((k_here; (rename Fr _ _ _ _ => zlF); (with_unfolding_all refine' For_invVF zlF ?zzk1 ?zzk2 ?_; (case zzk1 => exact rfl); (case zzk2 => exact rfl); k_whole)))) | (with_reducible refine nxR ?_) | (with_reducible refine nxN ?_) | (with_reducible refine nxB ?_) | (with_reducible refine nxK ?_) | (with_reducible refine exN ?_) | (with_reducible refine exA ?zzhs ?_; (case zzhs => k_dflt (exact (rfl : (pure false : Sem Bool) = pure false))); intro zqk) | (with_reducible refine exI ?_; intro zqk) | (with_reducible refine exR ?_) | (with_reducible refine exG ?_; intro zqk) | (with_reducible refine exC ?_; intro zqk) | ((with_reducible show wpAny _ _ (eval (Expr.Name _ _) _) _ _ _); k_dflt (refine' nmL ?zzF ?zzv (rfl : true = true) ?zzl ?_; (case zzF => k_asm); (case zzl => exact rfl); (case zzv => exact (rfl : some _ = some _)); k_whole)) | ((with_reducible show wpAny _ _ (storeName _ _ _) _ _ _); k_dflt (refine' stX ?zzF ?zzN (rfl : true = true) ?zzl ?_; (case zzF => k_asm); (case zzN => k_asm); (case zzl => exact rfl); k_whole); intro zm1 zh zt zF zN; (try k_sweep)) | k_unfold | walk1 | (dsimp only; walk1) | leave1))
    refine Park.mk ?_
    rw [slice_sn row (by first | lia | omega), Int.toNat_natCast]
    show let G9 : Prop := _; G9
    intro G9
    obtain ⟨un1, un2, un3⟩ := H.un (i + 1) (by first | lia | omega) (by first | lia | omega)
    k_unfold
    refine' CUn.use (unread_ok w (row.drop (plc ws (i + 1))) (restOf ws (i + 1)) _ _ (by simp; (first | lia | omega)) (fun c hc => H.chars c (List.mem_of_mem_drop hc)) un1 un2 un3) ?k1 ?k2 ?k3 ?k4 ?k5 ?XB ?TB ?D ?kK ?kd ?ku ?_
    case k1 => k_asm
    case k2 => k_asm
    case k3 => k_asm
    case k4 => k_asm
    case k5 => k_asm
    case XB => assumption
    case TB => assumption
    case D => assumption
    case kK => first | exact rfl | assumption
    case kd => first | exact room1 (by assumption) (by decide) | ktr_room
    case ku => first | exact units3 (by assumption) (by decide) | ktr_units
    clear un1 un2 un3
    (try clear N3)
    (try clear F3)
    intro r g3 h3 tk3 K3 F3 N3 B3 X3 T3 D3 hr3
    subst hr3
    have KT3 := KT.trans K3
    clear KT K3 BT XT TT DT
    (try clear F4)
    (try clear Nb)
    have hah : (fronts name ps).getD (Int.toNat ((S (dueOf ws (i + 1))).length : Int)) 0 = aheadOf name ps ws (i + 1) := by rw [hdl, Int.toNat_natCast]; rfl
    have hbh : (ends name (fitOf name ps)).getD (Int.toNat ((S (restOf ws (i + 1))).length : Int)) 0 = behindOf name ps ws (i + 1) := by rw [hrl3, Int.toNat_natCast]; rfl
    (try dsimp only)
    (repeat' (first | ((with_reducible show wpAny _ _ (subscriptTail (Expr.Name _ _) (Expr.Constant _ _ _) (Value.ref _) (Value.int _ _)) _ _ _); (k_here; k_dflt (refine' my_single ?zzN ?zzhm ?_ ?zzhs ?zzhg; (case zzN => k_asm); (case zzhm => walk_at "my mem"); (case zzhs => with_unfolding_all rfl); (case zzhg => with_unfolding_all (intro _; rfl))))) | ((with_reducible show wpAny _ _ (call (Value.builtin "str.join") _ _) _ _ _); (k_here; k_dflt (first | (refine' my_join_take ?zzN ?zzhm ?zzhs ?zzhb ?zzhj ?_; (case zzN => k_asm); (case zzhm => walk_at "my mem"); (case zzhs => assumption); (case zzhb => assumption); (case zzhj => exact tn1 _)) | (refine' my_join_drop ?zzN ?zzhm ?zzhs ?zzhb ?zzhj ?_; (case zzN => k_asm); (case zzhm => walk_at "my mem"); (case zzhs => assumption); (case zzhb => assumption); (case zzhj => exact tn1 _))); intro zt zk)) | ((with_reducible show wpAny _ _ (call (Value.builtin "list.append") _ _) _ _ _); (k_here; refine Park.out ?_)) | ((with_reducible show wpAny _ _ (exec (Stmt.For (Expr.Name _ _) (Expr.Call _ _ _ _) _ _ _) _) _ _ _); (k_here; (with_unfolding_all refine wpAny_For ?_ (hs := fun _ => rfl)))) | ((with_reducible show @ite _ _ _ _ _); (k_here; first | (refine ite_pos (by with_reducible assumption) ?_) | (refine ite_neg (by with_reducible assumption) ?_) | (refine ite_isFalse (by with_reducible assumption) ?_) | (refine ite_pos (by (simp only [beq_iff_eq, bne_iff_ne, ne_eq, Classical.not_not, decide_eq_true_eq]; (first | lia | omega))) ?_) | (refine ite_neg (by (simp only [beq_iff_eq, bne_iff_ne, ne_eq, Classical.not_not, decide_eq_true_eq]; (first | lia | omega))) ?_))) | ((with_reducible show wpAny _ _ (getAttr (Value.ref _) _ _) _ _ _); (k_here; (with_reducible show wpAny _ _ (getAttr (Value.ref _) (Str.ofString "lineno") _) _ _ _); k_dflt (refine' lineno_get ?zzF ?zzX ?zzN ?zzhx ?zzhd2 ?zzhL ?_; (case zzF => k_asm); (case zzN => k_asm); (case zzX => k_asm); (case zzhL => assumption); (case zzhd2 => walk_at "my mem"); (case zzhx => walk_at "my mem"); k_whole); intro zt)) | ((with_reducible show wpAny _ _ (getMethod (Value.ref _) _ _) _ _ _); (k_here; (with_reducible show wpAny _ _ (getMethod (Value.ref _) (PySem.Str.ofString "append") _) _ _ _); k_dflt (refine' listMethod_K ?zzN ?zzm PySem.F.slot_list_append PySem.F.type_list_append ?_; (case zzN => k_asm); (case zzm => walk_at "my mem")))) | ((with_reducible show wpAny _ _ (getMethod (Value.ref _) _ _) _ _ _); (k_here; (with_reducible show wpAny _ _ (getMethod (Value.ref _) (Str.ofString "get_token") _) _ _ _); k_dflt (refine' gettok_method ?zzF ?zzX ?zzN ?zzhx ?zzhd2 ?zzhL ?_; (case zzF => k_asm); (case zzN => k_asm); (case zzX => k_asm); (case zzhL => assumption); (case zzhd2 => walk_at "my mem"); (case zzhx => walk_at "my mem"); k_whole))) | ((with_reducible show wpAny _ _ (eval (Expr.Name _ _) _) _ _ _); (k_here; k_dflt (refine' nameX_L ?zzF ?zzv ?_ ?zza ?zzb; (case zzF => k_asm); (case zza => rfl); (case zzb => rfl); (case zzv => with_unfolding_all assumption); k_whole))) | ((with_reducible show wpAny _ _ (call (Value.ref _) _ _) _ _ _); ((with_reducible show wpAny _ _ (call (Value.ref _) _ _) _ _ _); refine Park.out ?_)) | ((with_reducible show wpAny _ _ (call (Value.builtin "len") _ _) _ _ _); (k_here; (with_reducible show wpAny _ _ (call _ [Value.str (S (List.getD _ _ [])) _]) _ _ _); k_dflt (refine len_piece (by assumption) (by first | lia | omega) ?_); intro zlp1 zlp2 zlp3)) | ((with_reducible show wpAny _ _ (call (Value.builtin "list.append") _ _) _ _ _); (k_here; (with_reducible show wpAny _ _ (call _ [Value.ref _, _]) _ _ _); k_dflt (refine my_append (by k_asm) (by k_asm) (by assumption) (by first | lia | omega) ?_); intro zh zF zN; (try k_sweep))) | ((with_reducible show wpAny _ _ (subscriptTail _ _ (Value.ref _) (Value.int _ _)) _ _ _); ((k_here; (with_reducible show wpAny _ _ (subscriptTail _ _ (Value.ref _) (Value.int _ _)) _ _ _); k_dflt (first | refine my_item (by k_asm) (by walk_at "my mem") (by assumption) (by first | lia | omega) (by first | lia | omega) (by first | lia | omega) ?_ (by with_unfolding_all rfl) (by with_unfolding_all (intro _; rfl)) | refine my_nat (by k_asm) (by walk_at "my mem") (by assumption) (by first | lia | omega) (by first | lia | omega) (by first | lia | omega) ?_ (by with_unfolding_all rfl) (by with_unfolding_all (intro _; rfl))); intro zt))) | ((with_reducible show wpAny _ _ (subscriptTail (Expr.Name _ _) (Expr.Slice _ _ _ _) (Value.ref _) (Value.ref _)) _ _ _); (k_here; k_dflt (first | refine my_upto (by k_asm) (by k_asm) (by walk_at "my mem") (by first | lia | omega) (by first | lia | omega) ?_ (by with_unfolding_all rfl) (by kmk_pure) | refine my_from (by k_asm) (by k_asm) (by walk_at "my mem") (by first | lia | omega) (by first | lia | omega) ?_ (by with_unfolding_all rfl) (by kmk_pure)); intro zD zh zF zN zl1; (try k_lt zl1); (try k_sweep))) | ((with_reducible show wpAny _ _ (call (Value.builtin "len") _ _) _ _ _); (k_here; (with_reducible show wpAny _ _ (call _ [Value.ref _]) _ _ _); k_dflt (refine my_len (by k_asm) (by walk_at "my mem") (by assumption) (by first | lia | omega) ?_))) | ((with_reducible show wpAny _ _ (pyIter (Value.ref _)) _ _ _); (refine Park.out ?_)) | ((with_reducible show wpAny _ _ (exec (Stmt.For (Expr.Name _ _) (Expr.Call _ _ _ _) _ _ _) _) _ _ _); ((k_here; (rename Fr _ _ _ _ => zlF); (with_unfolding_all refine' For_invVF zlF ?zzk1 ?zzk2 ?_; (case zzk1 => exact rfl); (case zzk2 => exact rfl); k_whole)))) | (with_reducible refine nxR ?_) | (with_reducible refine nxN ?_) | (with_reducible refine nxB ?_) | (with_reducible refine nxK ?_) | (with_reducible refine exN ?_) | (with_reducible refine exA ?zzhs ?_; (case zzhs => k_dflt (exact (rfl : (pure false : Sem Bool) = pure false))); intro zqk) | (with_reducible refine exI ?_; intro zqk) | (with_reducible refine exR ?_) | (with_reducible refine exG ?_; intro zqk) | (with_reducible refine exC ?_; intro zqk) | ((with_reducible show wpAny _ _ (eval (Expr.Name _ _) _) _ _ _); k_dflt (refine' nmL ?zzF ?zzv (rfl : true = true) ?zzl ?_; (case zzF => k_asm); (case zzl => exact rfl); (case zzv => exact (rfl : some _ = some _)); k_whole)) | ((with_reducible show wpAny _ _ (storeName _ _ _) _ _ _); k_dflt (refine' stX ?zzF ?zzN (rfl : true = true) ?zzl ?_; (case zzF => k_asm); (case zzN => k_asm); (case zzl => exact rfl); k_whole); intro zm1 zh zt zF zN; (try k_sweep)) | k_unfold | walk1 | (dsimp only; walk1) | leave1))
    refine Park.mk ?_
    refine' CPure.use (first_ones_ok w l vs nn ps (dueOf ws (i + 1)) _ _ _ hs H.pb (by first | lia | omega) (by rw [hah]; exact H.first0 _ (by first | lia | omega) (by first | lia | omega)) (by rw [hah]; exact H.first1 _ (by first | lia | omega) (by first | lia | omega)) (by rw [hah]; exact H.first2 _ (by first | lia | omega) (by first | lia | omega))) ?k1 ?k2 ?k3 ?k4 ?k5 ?kK ?kd ?ku ?kp ?_
    ((case k1 => k_asm); (case k2 => k_asm); (case k3 => k_asm); (case k4 => k_asm); (case k5 => k_asm); (case kK => first | exact rfl | assumption); (case kd => first | exact room1 (by assumption) (by decide) | ktr_room); (case ku => first | exact units3 (by assumption) (by decide) | ktr_units))
    case kp => walk_at "my mem"
    rintro r h1a tk1a F1a N1a hr3
    subst hr3
    (try dsimp only)
    (repeat' (first | ((with_reducible show wpAny _ _ (subscriptTail (Expr.Name _ _) (Expr.Constant _ _ _) (Value.ref _) (Value.int _ _)) _ _ _); (k_here; k_dflt (refine' my_single ?zzN ?zzhm ?_ ?zzhs ?zzhg; (case zzN => k_asm); (case zzhm => walk_at "my mem"); (case zzhs => with_unfolding_all rfl); (case zzhg => with_unfolding_all (intro _; rfl))))) | ((with_reducible show wpAny _ _ (call (Value.builtin "str.join") _ _) _ _ _); (k_here; k_dflt (first | (refine' my_join_take ?zzN ?zzhm ?zzhs ?zzhb ?zzhj ?_; (case zzN => k_asm); (case zzhm => walk_at "my mem"); (case zzhs => assumption); (case zzhb => assumption); (case zzhj => exact tn1 _)) | (refine' my_join_drop ?zzN ?zzhm ?zzhs ?zzhb ?zzhj ?_; (case zzN => k_asm); (case zzhm => walk_at "my mem"); (case zzhs => assumption); (case zzhb => assumption); (case zzhj => exact tn1 _))); intro zt zk)) | ((with_reducible show wpAny _ _ (call (Value.builtin "list.append") _ _) _ _ _); (k_here; refine Park.out ?_)) | ((with_reducible show wpAny _ _ (exec (Stmt.For (Expr.Name _ _) (Expr.Call _ _ _ _) _ _ _) _) _ _ _); (k_here; (with_unfolding_all refine wpAny_For ?_ (hs := fun _ => rfl)))) | ((with_reducible show @ite _ _ _ _ _); (k_here; first | (refine ite_pos (by with_reducible assumption) ?_) | (refine ite_neg (by with_reducible assumption) ?_) | (refine ite_isFalse (by with_reducible assumption) ?_) | (refine ite_pos (by (simp only [beq_iff_eq, bne_iff_ne, ne_eq, Classical.not_not, decide_eq_true_eq]; (first | lia | omega))) ?_) | (refine ite_neg (by (simp only [beq_iff_eq, bne_iff_ne, ne_eq, Classical.not_not, decide_eq_true_eq]; (first | lia | omega))) ?_))) | ((with_reducible show wpAny _ _ (getAttr (Value.ref _) _ _) _ _ _); (k_here; (with_reducible show wpAny _ _ (getAttr (Value.ref _) (Str.ofString "lineno") _) _ _ _); k_dflt (refine' lineno_get ?zzF ?zzX ?zzN ?zzhx ?zzhd2 ?zzhL ?_; (case zzF => k_asm); (case zzN => k_asm); (case zzX => k_asm); (case zzhL => assumption); (case zzhd2 => walk_at "my mem"); (case zzhx => walk_at "my mem"); k_whole); intro zt)) | ((with_reducible show wpAny _ _ (getMethod (Value.ref _) _ _) _ _ _); (k_here; (with_reducible show wpAny _ _ (getMethod (Value.ref _) (PySem.Str.ofString "append") _) _ _ _); k_dflt (refine' listMethod_K ?zzN ?zzm PySem.F.slot_list_append PySem.F.type_list_append ?_; (case zzN => k_asm); (case zzm => walk_at "my mem")))) | ((with_reducible show wpAny _ _ (getMethod (Value.ref _) _ _) _ _ _); (k_here; (with_reducible show wpAny _ _ (getMethod (Value.ref _) (Str.ofString "get_token") _) _ _ _); k_dflt (refine' gettok_method ?zzF ?zzX ?zzN ?zzhx ?zzhd2 ?zzhL ?_; (case zzF => k_asm); (case zzN => k_asm); (case zzX => k_asm); (case zzhL => assumption); (case zzhd2 => walk_at "my mem"); (case zzhx => walk_at "my mem"); k_whole))) | ((with_reducible show wpAny _ _ (eval (Expr.Name _ _) _) _ _ _); (k_here; k_dflt (refine' nameX_L ?zzF ?zzv ?_ ?zza ?zzb; (case zzF => k_asm); (case zza => rfl); (case zzb => rfl); (case zzv => with_unfolding_all assumption); k_whole))) | ((with_reducible show wpAny _ _ (call (Value.ref _) _ _) _ _ _); ((with_reducible show wpAny _ _ (call (Value.ref _) _ _) _ _ _); refine Park.out ?_)) | ((with_reducible show wpAny _ _ (call (Value.builtin "len") _ _) _ _ _); (k_here; (with_reducible show wpAny _ _ (call _ [Value.str (S (List.getD _ _ [])) _]) _ _ _); k_dflt (refine len_piece (by assumption) (by first | lia | omega) ?_); intro zlp1 zlp2 zlp3)) | ((with_reducible show wpAny _ _ (call (Value.builtin "list.append") _ _) _ _ _); (k_here; (with_reducible show wpAny _ _ (call _ [Value.ref _, _]) _ _ _); k_dflt (refine my_append (by k_asm) (by k_asm) (by assumption) (by first | lia | omega) ?_); intro zh zF zN; (try k_sweep))) | ((with_reducible show wpAny _ _ (subscriptTail _ _ (Value.ref _) (Value.int _ _)) _ _ _); ((k_here; (with_reducible show wpAny _ _ (subscriptTail _ _ (Value.ref _) (Value.int _ _)) _ _ _); k_dflt (first | refine my_item (by k_asm) (by walk_at "my mem") (by assumption) (by first | lia | omega) (by first | lia | omega) (by first | lia | omega) ?_ (by with_unfolding_all rfl) (by with_unfolding_all (intro _; rfl)) | refine my_nat (by k_asm) (by walk_at "my mem") (by assumption) (by first | lia | omega) (by first | lia | omega) (by first | lia | omega) ?_ (by with_unfolding_all rfl) (by with_unfolding_all (intro _; rfl))); intro zt))) | ((with_reducible show wpAny _ _ (subscriptTail (Expr.Name _ _) (Expr.Slice _ _ _ _) (Value.ref _) (Value.ref _)) _ _ _); (k_here; k_dflt (first | refine my_upto (by k_asm) (by k_asm) (by walk_at "my mem") (by first | lia | omega) (by first | lia | omega) ?_ (by with_unfolding_all rfl) (by kmk_pure) | refine my_from (by k_asm) (by k_asm) (by walk_at "my mem") (by first | lia | omega) (by first | lia | omega) ?_ (by with_unfolding_all rfl) (by kmk_pure)); intro zD zh zF zN zl1; (try k_lt zl1); (try k_sweep))) | ((with_reducible show wpAny _ _ (call (Value.builtin "len") _ _) _ _ _); (k_here; (with_reducible show wpAny _ _ (call _ [Value.ref _]) _ _ _); k_dflt (refine my_len (by k_asm) (by walk_at "my mem") (by assumption) (by first | lia | omega) ?_))) | ((with_reducible show wpAny _ _ (pyIter (Value.ref _)) _ _ _); (refine Park.out ?_)) | ((with_reducible show wpAny _ _ (exec (Stmt.For (Expr.Name _ _) (Expr.Call _ _ _ _) _ _ _) _) _ _ _); ((k_here; (rename Fr _ _ _ _ => zlF); (with_unfolding_all refine' For_invVF zlF ?zzk1 ?zzk2 ?_; (case zzk1 => exact rfl); (case zzk2 => exact rfl); k_whole)))) | (with_reducible refine nxR ?_) | (with_reducible refine nxN ?_) | (with_reducible refine nxB ?_) | (with_reducible refine nxK ?_) | (with_reducible refine exN ?_) | (with_reducible refine exA ?zzhs ?_; (case zzhs => k_dflt (exact (rfl : (pure false : Sem Bool) = pure false))); intro zqk) | (with_reducible refine exI ?_; intro zqk) | (with_reducible refine exR ?_) | (with_reducible refine exG ?_; intro zqk) | (with_reducible refine exC ?_; intro zqk) | ((with_reducible show wpAny _ _ (eval (Expr.Name _ _) _) _ _ _); k_dflt (refine' nmL ?zzF ?zzv (rfl : true = true) ?zzl ?_; (case zzF => k_asm); (case zzl => exact rfl); (case zzv => exact (rfl : some _ = some _)); k_whole)) | ((with_reducible show wpAny _ _ (storeName _ _ _) _ _ _); k_dflt (refine' stX ?zzF ?zzN (rfl : true = true) ?zzl ?_; (case zzF => k_asm); (case zzN => k_asm); (case zzl => exact rfl); k_whole); intro zm1 zh zt zF zN; (try k_sweep)) | k_unfold | walk1 | (dsimp only; walk1) | leave1))
    refine Park.mk ?_
    refine' CPure.use (last_ones_ok w fl fv 0 (fitOf name ps) (restOf ws (i + 1)) _ _ _ hsf (H.pb.take _) (by first | lia | omega) (by rw [hbh]; exact H.last0 _ (by first | lia | omega) (by first | lia | omega)) (by rw [hbh]; exact H.last1 _ (by first | lia | omega) (by first | lia | omega)) (by rw [hbh]; exact H.last2 _ (by first | lia | omega) (by first | lia | omega))) ?k1 ?k2 ?k3 ?k4 ?k5 ?kK ?kd ?ku ?kp ?_
    ((case k1 => k_asm); (case k2 => k_asm); (case k3 => k_asm); (case k4 => k_asm); (case k5 => k_asm); (case kK => first | exact rfl | assumption); (case kd => first | exact room1 (by assumption) (by decide) | ktr_room); (case ku => first | exact units3 (by assumption) (by decide) | ktr_units))
    case kp => walk_at "my mem"
    rintro r h2a tk2a F2a N2a hr3
    subst hr3
    (try dsimp only)
    (repeat' (first | ((with_reducible show wpAny _ _ (subscriptTail (Expr.Name _ _) (Expr.Constant _ _ _) (Value.ref _) (Value.int _ _)) _ _ _); (k_here; k_dflt (refine' my_single ?zzN ?zzhm ?_ ?zzhs ?zzhg; (case zzN => k_asm); (case zzhm => walk_at "my mem"); (case zzhs => with_unfolding_all rfl); (case zzhg => with_unfolding_all (intro _; rfl))))) | ((with_reducible show wpAny _ _ (call (Value.builtin "str.join") _ _) _ _ _); (k_here; k_dflt (first | (refine' my_join_take ?zzN ?zzhm ?zzhs ?zzhb ?zzhj ?_; (case zzN => k_asm); (case zzhm => walk_at "my mem"); (case zzhs => assumption); (case zzhb => assumption); (case zzhj => exact tn1 _)) | (refine' my_join_drop ?zzN ?zzhm ?zzhs ?zzhb ?zzhj ?_; (case zzN => k_asm); (case zzhm => walk_at "my mem"); (case zzhs => assumption); (case zzhb => assumption); (case zzhj => exact tn1 _))); intro zt zk)) | ((with_reducible show wpAny _ _ (call (Value.builtin "list.append") _ _) _ _ _); (k_here; refine Park.out ?_)) | ((with_reducible show wpAny _ _ (exec (Stmt.For (Expr.Name _ _) (Expr.Call _ _ _ _) _ _ _) _) _ _ _); (k_here; (with_unfolding_all refine wpAny_For ?_ (hs := fun _ => rfl)))) | ((with_reducible show @ite _ _ _ _ _); (k_here; first | (refine ite_pos (by with_reducible assumption) ?_) | (refine ite_neg (by with_reducible assumption) ?_) | (refine ite_isFalse (by with_reducible assumption) ?_) | (refine ite_pos (by (simp only [beq_iff_eq, bne_iff_ne, ne_eq, Classical.not_not, decide_eq_true_eq]; (first | lia | omega))) ?_) | (refine ite_neg (by (simp only [beq_iff_eq, bne_iff_ne, ne_eq, Classical.not_not, decide_eq_true_eq]; (first | lia | omega))) ?_))) | ((with_reducible show wpAny _ _ (getAttr (Value.ref _) _ _) _ _ _); (k_here; (with_reducible show wpAny _ _ (getAttr (Value.ref _) (Str.ofString "lineno") _) _ _ _); k_dflt (refine' lineno_get ?zzF ?zzX ?zzN ?zzhx ?zzhd2 ?zzhL ?_; (case zzF => k_asm); (case zzN => k_asm); (case zzX => k_asm); (case zzhL => assumption); (case zzhd2 => walk_at "my mem"); (case zzhx => walk_at "my mem"); k_whole); intro zt)) | ((with_reducible show wpAny _ _ (getMethod (Value.ref _) _ _) _ _ _); (k_here; (with_reducible show wpAny _ _ (getMethod (Value.ref _) (PySem.Str.ofString "append") _) _ _ _); k_dflt (refine' listMethod_K ?zzN ?zzm PySem.F.slot_list_append PySem.F.type_list_append ?_; (case zzN => k_asm); (case zzm => walk_at "my mem")))) | ((with_reducible show wpAny _ _ (getMethod (Value.ref _) _ _) _ _ _); (k_here; (with_reducible show wpAny _ _ (getMethod (Value.ref _) (Str.ofString "get_token") _) _ _ _); k_dflt (refine' gettok_method ?zzF ?zzX ?zzN ?zzhx ?zzhd2 ?zzhL ?_; (case zzF => k_asm); (case zzN => k_asm); (case zzX => k_asm); (case zzhL => assumption); (case zzhd2 => walk_at "my mem"); (case zzhx => walk_at "my mem"); k_whole))) | ((with_reducible show wpAny _ _ (eval (Expr.Name _ _) _) _ _ _); (k_here; k_dflt (refine' nameX_L ?zzF ?zzv ?_ ?zza ?zzb; (case zzF => k_asm); (case zza => rfl); (case zzb => rfl); (case zzv => with_unfolding_all assumption); k_whole))) | ((with_reducible show wpAny _ _ (call (Value.ref _) _ _) _ _ _); ((with_reducible show wpAny _ _ (call (Value.ref _) _ _) _ _ _); refine Park.out ?_)) | ((with_reducible show wpAny _ _ (call (Value.builtin "len") _ _) _ _ _); (k_here; (with_reducible show wpAny _ _ (call _ [Value.str (S (List.getD _ _ [])) _]) _ _ _); k_dflt (refine len_piece (by assumption) (by first | lia | omega) ?_); intro zlp1 zlp2 zlp3)) | ((with_reducible show wpAny _ _ (call (Value.builtin "list.append") _ _) _ _ _); (k_here; (with_reducible show wpAny _ _ (call _ [Value.ref _, _]) _ _ _); k_dflt (refine my_append (by k_asm) (by k_asm) (by assumption) (by first | lia | omega) ?_); intro zh zF zN; (try k_sweep))) | ((with_reducible show wpAny _ _ (subscriptTail _ _ (Value.ref _) (Value.int _ _)) _ _ _); ((k_here; (with_reducible show wpAny _ _ (subscriptTail _ _ (Value.ref _) (Value.int _ _)) _ _ _); k_dflt (first | refine my_item (by k_asm) (by walk_at "my mem") (by assumption) (by first | lia | omega) (by first | lia | omega) (by first | lia | omega) ?_ (by with_unfolding_all rfl) (by with_unfolding_all (intro _; rfl)) | refine my_nat (by k_asm) (by walk_at "my mem") (by assumption) (by first | lia | omega) (by first | lia | omega) (by first | lia | omega) ?_ (by with_unfolding_all rfl) (by with_unfolding_all (intro _; rfl))); intro zt))) | ((with_reducible show wpAny _ _ (subscriptTail (Expr.Name _ _) (Expr.Slice _ _ _ _) (Value.ref _) (Value.ref _)) _ _ _); (k_here; k_dflt (first | refine my_upto (by k_asm) (by k_asm) (by walk_at "my mem") (by first | lia | omega) (by first | lia | omega) ?_ (by with_unfolding_all rfl) (by kmk_pure) | refine my_from (by k_asm) (by k_asm) (by walk_at "my mem") (by first | lia | omega) (by first | lia | omega) ?_ (by with_unfolding_all rfl) (by kmk_pure)); intro zD zh zF zN zl1; (try k_lt zl1); (try k_sweep))) | ((with_reducible show wpAny _ _ (call (Value.builtin "len") _ _) _ _ _); (k_here; (with_reducible show wpAny _ _ (call _ [Value.ref _]) _ _ _); k_dflt (refine my_len (by k_asm) (by walk_at "my mem") (by assumption) (by first | lia | omega) ?_))) | ((with_reducible show wpAny _ _ (pyIter (Value.ref _)) _ _ _); (refine Park.out ?_)) | ((with_reducible show wpAny _ _ (exec (Stmt.For (Expr.Name _ _) (Expr.Call _ _ _ _) _ _ _) _) _ _ _); ((k_here; (rename Fr _ _ _ _ => zlF); (with_unfolding_all refine' For_invVF zlF ?zzk1 ?zzk2 ?_; (case zzk1 => exact rfl); (case zzk2 => exact rfl); k_whole)))) | (with_reducible refine nxR ?_) | (with_reducible refine nxN ?_) | (with_reducible refine nxB ?_) | (with_reducible refine nxK ?_) | (with_reducible refine exN ?_) | (with_reducible refine exA ?zzhs ?_; (case zzhs => k_dflt (exact (rfl : (pure false : Sem Bool) = pure false))); intro zqk) | (with_reducible refine exI ?_; intro zqk) | (with_reducible refine exR ?_) | (with_reducible refine exG ?_; intro zqk) | (with_reducible refine exC ?_; intro zqk) | ((with_reducible show wpAny _ _ (eval (Expr.Name _ _) _) _ _ _); k_dflt (refine' nmL ?zzF ?zzv (rfl : true = true) ?zzl ?_; (case zzF => k_asm); (case zzl => exact rfl); (case zzv => exact (rfl : some _ = some _)); k_whole)) | ((with_reducible show wpAny _ _ (storeName _ _ _) _ _ _); k_dflt (refine' stX ?zzF ?zzN (rfl : true = true) ?zzl ?_; (case zzF => k_asm); (case zzN => k_asm); (case zzl => exact rfl); k_whole); intro zm1 zh zt zF zN; (try k_sweep)) | k_unfold | walk1 | (dsimp only; walk1) | leave1))
    · refine Park.mk ?_
      rename News _ _ _ _ => N7
      show let G9 : Prop := _; G9
      intro G9
      obtain ⟨T, hx9⟩ := name_0 N7
      k_unfold
      subst hx9
      show let G9 : Prop := _; G9
      intro G9
      obtain ⟨oT, hoT⟩ := name_o N7
      k_unfold
      rw [← hoT] at N7
      rename pl < T ∧ _ => hlT
      have hlT2 := allLt_mem hlT.2.2
      have hsT : @LT.lt Nat _ stl T := hlT2 (stl, listOf svs.toArray sn) (by simp)
      have hiT : @LT.lt Nat _ it T := hlT2 (it, _) (List.mem_append.mpr (Or.inr (.head _)))
      have N8 := news_sub (l' := (stl, listOf svs.toArray sn) :: (T, oT) :: (it, riObj (1 + ((i + 1 : Nat) : Int)) ((ws.length : Int) - ((i + 1 : Nat) : Int))) :: (pl, listOf #[.int ((plc ws (i + 1) : Nat) : Int) t2b] k2b) :: (d2, o2b) :: (fix ++ (tups ++ R))) N7 (by
        (repeat' (first | exact sb0 | exact sbR | refine sbC ?_ ?_ | refine sbA ?_ ?_ | (walk_at "my mem") | refine sbT ?_ | (refine sbL ?_; (repeat (refine sbT ?_)); exact sbR) | refine sbr ?_)))
      clear N7
      k_dflt (refine' my_append ?F N8 ?hne ?hz ?_)
      case F => k_asm
      case hne =>
        exact alC (Nat.ne_of_gt hsT) (alC (fun e => off _ (.head _) e.symm) (alC (Nat.ne_of_lt hs1) (alC (Nat.ne_of_lt hs2) (alA (fun q hq => Nat.ne_of_lt (hs3' q (List.mem_append.mpr (Or.inl hq)))) (alA (fun q hq => Nat.ne_of_gt (htup q hq)) (fun q hq => Nat.ne_of_lt (hs3' q (List.mem_append.mpr (Or.inr hq)))))))))
      case hz => rw [hSt.1, stopsTo_len]; (first | lia | omega)
      intro h8a F8a N8a
      (repeat' (first | ((with_reducible show wpAny _ _ (subscriptTail (Expr.Name _ _) (Expr.Constant _ _ _) (Value.ref _) (Value.int _ _)) _ _ _); (k_here; k_dflt (refine' my_single ?zzN ?zzhm ?_ ?zzhs ?zzhg; (case zzN => k_asm); (case zzhm => walk_at "my mem"); (case zzhs => with_unfolding_all rfl); (case zzhg => with_unfolding_all (intro _; rfl))))) | ((with_reducible show wpAny _ _ (call (Value.builtin "str.join") _ _) _ _ _); (k_here; k_dflt (first | (refine' my_join_take ?zzN ?zzhm ?zzhs ?zzhb ?zzhj ?_; (case zzN => k_asm); (case zzhm => walk_at "my mem"); (case zzhs => assumption); (case zzhb => assumption); (case zzhj => exact tn1 _)) | (refine' my_join_drop ?zzN ?zzhm ?zzhs ?zzhb ?zzhj ?_; (case zzN => k_asm); (case zzhm => walk_at "my mem"); (case zzhs => assumption); (case zzhb => assumption); (case zzhj => exact tn1 _))); intro zt zk)) | ((with_reducible show wpAny _ _ (call (Value.builtin "list.append") _ _) _ _ _); (k_here; refine Park.out ?_)) | ((with_reducible show wpAny _ _ (exec (Stmt.For (Expr.Name _ _) (Expr.Call _ _ _ _) _ _ _) _) _ _ _); (k_here; (with_unfolding_all refine wpAny_For ?_ (hs := fun _ => rfl)))) | ((with_reducible show @ite _ _ _ _ _); (k_here; first | (refine ite_pos (by with_reducible assumption) ?_) | (refine ite_neg (by with_reducible assumption) ?_) | (refine ite_isFalse (by with_reducible assumption) ?_) | (refine ite_pos (by (simp only [beq_iff_eq, bne_iff_ne, ne_eq, Classical.not_not, decide_eq_true_eq]; (first | lia | omega))) ?_) | (refine ite_neg (by (simp only [beq_iff_eq, bne_iff_ne, ne_eq, Classical.not_not, decide_eq_true_eq]; (first | lia | omega))) ?_))) | ((with_reducible show wpAny _ _ (getAttr (Value.ref _) _ _) _ _ _); (k_here; (with_reducible show wpAny _ _ (getAttr (Value.ref _) (Str.ofString "lineno") _) _ _ _); k_dflt (refine' lineno_get ?zzF ?zzX ?zzN ?zzhx ?zzhd2 ?zzhL ?_; (case zzF => k_asm); (case zzN => k_asm); (case zzX => k_asm); (case zzhL => assumption); (case zzhd2 => walk_at "my mem"); (case zzhx => walk_at "my mem"); k_whole); intro zt)) | ((with_reducible show wpAny _ _ (getMethod (Value.ref _) _ _) _ _ _); (k_here; (with_reducible show wpAny _ _ (getMethod (Value.ref _) (PySem.Str.ofString "append") _) _ _ _); k_dflt (refine' listMethod_K ?zzN ?zzm PySem.F.slot_list_append PySem.F.type_list_append ?_; (case zzN => k_asm); (case zzm => walk_at "my mem")))) | ((with_reducible show wpAny _ _ (getMethod (Value.ref _) _ _) _ _ _); (k_here; (with_reducible show wpAny _ _ (getMethod (Value.ref _) (Str.ofString "get_token") _) _ _ _); k_dflt (refine' gettok_method ?zzF ?zzX ?zzN ?zzhx ?zzhd2 ?zzhL ?_; (case zzF => k_asm); (case zzN => k_asm); (case zzX => k_asm); (case zzhL => assumption); (case zzhd2 => walk_at "my mem"); (case zzhx => walk_at "my mem"); k_whole))) | ((with_reducible show wpAny _ _ (eval (Expr.Name _ _) _) _ _ _); (k_here; k_dflt (refine' nameX_L ?zzF ?zzv ?_ ?zza ?zzb; (case zzF => k_asm); (case zza => rfl); (case zzb => rfl); (case zzv => with_unfolding_all assumption); k_whole))) | ((with_reducible show wpAny _ _ (call (Value.ref _) _ _) _ _ _); ((with_reducible show wpAny _ _ (call (Value.ref _) _ _) _ _ _); refine Park.out ?_)) | ((with_reducible show wpAny _ _ (call (Value.builtin "len") _ _) _ _ _); (k_here; (with_reducible show wpAny _ _ (call _ [Value.str (S (List.getD _ _ [])) _]) _ _ _); k_dflt (refine len_piece (by assumption) (by first | lia | omega) ?_); intro zlp1 zlp2 zlp3)) | ((with_reducible show wpAny _ _ (call (Value.builtin "list.append") _ _) _ _ _); (k_here; (with_reducible show wpAny _ _ (call _ [Value.ref _, _]) _ _ _); k_dflt (refine my_append (by k_asm) (by k_asm) (by assumption) (by first | lia | omega) ?_); intro zh zF zN; (try k_sweep))) | ((with_reducible show wpAny _ _ (subscriptTail _ _ (Value.ref _) (Value.int _ _)) _ _ _); ((k_here; (with_reducible show wpAny _ _ (subscriptTail _ _ (Value.ref _) (Value.int _ _)) _ _ _); k_dflt (first | refine my_item (by k_asm) (by walk_at "my mem") (by assumption) (by first | lia | omega) (by first | lia | omega) (by first | lia | omega) ?_ (by with_unfolding_all rfl) (by with_unfolding_all (intro _; rfl)) | refine my_nat (by k_asm) (by walk_at "my mem") (by assumption) (by first | lia | omega) (by first | lia | omega) (by first | lia | omega) ?_ (by with_unfolding_all rfl) (by with_unfolding_all (intro _; rfl))); intro zt))) | ((with_reducible show wpAny _ _ (subscriptTail (Expr.Name _ _) (Expr.Slice _ _ _ _) (Value.ref _) (Value.ref _)) _ _ _); (k_here; k_dflt (first | refine my_upto (by k_asm) (by k_asm) (by walk_at "my mem") (by first | lia | omega) (by first | lia | omega) ?_ (by with_unfolding_all rfl) (by kmk_pure) | refine my_from (by k_asm) (by k_asm) (by walk_at "my mem") (by first | lia | omega) (by first | lia | omega) ?_ (by with_unfolding_all rfl) (by kmk_pure)); intro zD zh zF zN zl1; (try k_lt zl1); (try k_sweep))) | ((with_reducible show wpAny _ _ (call (Value.builtin "len") _ _) _ _ _); (k_here; (with_reducible show wpAny _ _ (call _ [Value.ref _]) _ _ _); k_dflt (refine my_len (by k_asm) (by walk_at "my mem") (by assumption) (by first | lia | omega) ?_))) | ((with_reducible show wpAny _ _ (pyIter (Value.ref _)) _ _ _); (refine Park.out ?_)) | ((with_reducible show wpAny _ _ (exec (Stmt.For (Expr.Name _ _) (Expr.Call _ _ _ _) _ _ _) _) _ _ _); ((k_here; (rename Fr _ _ _ _ => zlF); (with_unfolding_all refine' For_invVF zlF ?zzk1 ?zzk2 ?_; (case zzk1 => exact rfl); (case zzk2 => exact rfl); k_whole)))) | (with_reducible refine nxR ?_) | (with_reducible refine nxN ?_) | (with_reducible refine nxB ?_) | (with_reducible refine nxK ?_) | (with_reducible refine exN ?_) | (with_reducible refine exA ?zzhs ?_; (case zzhs => k_dflt (exact (rfl : (pure false : Sem Bool) = pure false))); intro zqk) | (with_reducible refine exI ?_; intro zqk) | (with_reducible refine exR ?_) | (with_reducible refine exG ?_; intro zqk) | (with_reducible refine exC ?_; intro zqk) | ((with_reducible show wpAny _ _ (eval (Expr.Name _ _) _) _ _ _); k_dflt (refine' nmL ?zzF ?zzv (rfl : true = true) ?zzl ?_; (case zzF => k_asm); (case zzl => exact rfl); (case zzv => exact (rfl : some _ = some _)); k_whole)) | ((with_reducible show wpAny _ _ (storeName _ _ _) _ _ _); k_dflt (refine' stX ?zzF ?zzN (rfl : true = true) ?zzl ?_; (case zzF => k_asm); (case zzN => k_asm); (case zzl => exact rfl); k_whole); intro zm1 zh zt zF zN; (try k_sweep)) | k_unfold | walk1 | (dsimp only; walk1) | leave1))
      have e1 : min i (ws.length - 1) = i := by first | lia | omega
      have e2 : min (i + 1) (ws.length - 1) = i + 1 := by first | lia | omega
      refine RTurn.mk ⟨⟨g3, svs ++ [.ref T], sn + 1, (T, oT) :: tups, plc ws (i + 1), t2b, k2b, o2b⟩, _, _, _, rfl, by assumption, news_sub N8a ?sub, ?off, rfl, hLb, ?st, ?tp, KT3, B3, X3, T3, D3, by with_unfolding_all exact m1, by with_unfolding_all exact m2, by with_unfolding_all exact m3, by with_unfolding_all exact m4, by with_unfolding_all exact m5, by with_unfolding_all exact m6, by with_unfolding_all exact m7, by with_unfolding_all exact m8, by with_unfolding_all exact m10, by with_unfolding_all exact m11, by with_unfolding_all exact m12⟩
      case sub =>
        (repeat' (first | exact sb0 | exact sbR | refine sbC ?_ ?_ | refine sbA ?_ ?_ | (walk_at "my mem") | refine sbT ?_ | (refine sbL ?_; (repeat (refine sbT ?_)); exact sbR) | refine sbr ?_))
      case off =>
        exact alC (off (stl, listOf svs.toArray sn) (.head _)) (alC (off (pl, listOf #[.int ((plc ws i : Nat) : Int) pt] pk) (.tail _ (.head _))) (alC (off (d2, o2c) (.tail _ (.tail _ (.head _)))) (alA (alS off (by (repeat' (first | exact sb0 | exact sbR | refine sbC ?_ ?_ | refine sbA ?_ ?_ | (walk_at "my mem") | refine sbT ?_ | (refine sbL ?_; (repeat (refine sbT ?_)); exact sbR) | refine sbr ?_)))) (alA (alC (Nat.ne_of_gt hiT) (alS off (by (repeat' (first | exact sb0 | exact sbR | refine sbC ?_ ?_ | refine sbA ?_ ?_ | (walk_at "my mem") | refine sbT ?_ | (refine sbL ?_; (repeat (refine sbT ?_)); exact sbR) | refine sbr ?_))))) (alS off (by (repeat' (first | exact sb0 | exact sbR | refine sbC ?_ ?_ | refine sbA ?_ ?_ | (walk_at "my mem") | refine sbT ?_ | (refine sbL ?_; (repeat (refine sbT ?_)); exact sbR) | refine sbr ?_))))))))
      case st =>
        dsimp only
        rw [e2, stopsTo_succ]
        rw [e1] at hSt
        refine' stops_snoc hSt ?sa ?sb (congrArg Int.ofNat hah) (congrArg Int.ofNat hbh)
        case sa => rw [hoT]
        case sb => rw [hoT]; exact rfl
      case tp =>
        intro q hq
        rcases List.mem_cons.mp hq with rfl | hq
        · exact hsT
        · exact htup q hq
    · have e1 : min (i + 1) (ws.length - 1) = min i (ws.length - 1) := by first | lia | omega
      refine RTurn.mk ⟨⟨g3, svs, sn, tups, plc ws (i + 1), t2b, k2b, o2b⟩, _, _, _, rfl, by assumption, news_sub N2a ?sub, ?off, rfl, hLb, ?st, htup, KT3, B3, X3, T3, D3, by with_unfolding_all exact m1, by with_unfolding_all exact m2, by with_unfolding_all exact m3, by with_unfolding_all exact m4, by with_unfolding_all exact m5, by with_unfolding_all exact m6, by with_unfolding_all exact m7, by with_unfolding_all exact m8, by with_unfolding_all exact m10, by with_unfolding_all exact m11, by with_unfolding_all exact m12⟩
      case sub =>
        (repeat' (first | exact sb0 | exact sbR | refine sbC ?_ ?_ | refine sbA ?_ ?_ | (walk_at "my mem") | refine sbT ?_ | (refine sbL ?_; (repeat (refine sbT ?_)); exact sbR) | refine sbr ?_))
      case off =>
        exact alC (off (stl, listOf svs.toArray sn) (.head _)) (alC (off (pl, listOf #[.int ((plc ws i : Nat) : Int) pt] pk) (.tail _ (.head _))) (alC (off (d2, o2c) (.tail _ (.tail _ (.head _)))) (alA (alS off (by (repeat' (first | exact sb0 | exact sbR | refine sbC ?_ ?_ | refine sbA ?_ ?_ | (walk_at "my mem") | refine sbT ?_ | (refine sbL ?_; (repeat (refine sbT ?_)); exact sbR) | refine sbr ?_)))) (alA (alS off (by (repeat' (first | exact sb0 | exact sbR | refine sbC ?_ ?_ | refine sbA ?_ ?_ | (walk_at "my mem") | refine sbT ?_ | (refine sbL ?_; (repeat (refine sbT ?_)); exact sbR) | refine sbr ?_)))) (alS off (by (repeat' (first | exact sb0 | exact sbR | refine sbC ?_ ?_ | refine sbA ?_ ?_ | (walk_at "my mem") | refine sbT ?_ | (refine sbL ?_; (repeat (refine sbT ?_)); exact sbR) | refine sbr ?_))))))))
      case st =>
        dsimp only
        rw [e1]; exact hSt
  case done =>
    clear F4 N4 hLa K5 B5 X5 T5 D5 B' X' T' D'
    intro c m9 h9 tk9 hP F9 N9
    show let G9 : Prop := _; G9
    intro G9
    obtain ⟨cg, svs, sn, tups, pv, pt, pk, o2c⟩ := c
    k_unfold
    show let G9 : Prop := _; G9
    intro G9
    obtain ⟨hpv, hLc, hSt, htup, KT, BT, XT, TT, DT, m1, m2, m3, m4, m5, m6, m7, m8, m10, m11, m12⟩ := hP
    k_unfold
    dsimp only at hpv hLc hSt htup KT BT XT TT DT F9 N9
    subst hpv
    have hplm := H.plcLe ws.length (Nat.le_refl _)
    show let G9 : Prop := _; G9
    intro G9
    obtain ⟨ta, hta, hta2⟩ := H.tailTok
    k_unfold
    have hnews : ∀ q ∈ (stl, listOf svs.toArray sn) :: (tups ++ R), q.1 ≠ pl ∧ q.1 ≠ d2 := by
      exact alC (⟨Nat.ne_of_gt hs1, Nat.ne_of_gt hs2⟩) (alA (fun q hq => ⟨Nat.ne_of_gt (Nat.lt_trans hs1 (htup q hq)), Nat.ne_of_gt (Nat.lt_trans hs2 (htup q hq))⟩) (fun q hq => ⟨Nat.ne_of_lt (hRpl q hq), Nat.ne_of_lt (hRd2 q hq)⟩))
    (repeat' (first | ((with_reducible show wpAny _ _ (subscriptTail (Expr.Name _ _) (Expr.Constant _ _ _) (Value.ref _) (Value.int _ _)) _ _ _); (k_here; k_dflt (refine' my_single ?zzN ?zzhm ?_ ?zzhs ?zzhg; (case zzN => k_asm); (case zzhm => walk_at "my mem"); (case zzhs => with_unfolding_all rfl); (case zzhg => with_unfolding_all (intro _; rfl))))) | ((with_reducible show wpAny _ _ (call (Value.builtin "str.join") _ _) _ _ _); (k_here; k_dflt (first | (refine' my_join_take ?zzN ?zzhm ?zzhs ?zzhb ?zzhj ?_; (case zzN => k_asm); (case zzhm => walk_at "my mem"); (case zzhs => assumption); (case zzhb => assumption); (case zzhj => exact tn1 _)) | (refine' my_join_drop ?zzN ?zzhm ?zzhs ?zzhb ?zzhj ?_; (case zzN => k_asm); (case zzhm => walk_at "my mem"); (case zzhs => assumption); (case zzhb => assumption); (case zzhj => exact tn1 _))); intro zt zk)) | ((with_reducible show wpAny _ _ (call (Value.builtin "list.append") _ _) _ _ _); (k_here; refine Park.out ?_)) | ((with_reducible show wpAny _ _ (exec (Stmt.For (Expr.Name _ _) (Expr.Call _ _ _ _) _ _ _) _) _ _ _); (k_here; (with_unfolding_all refine wpAny_For ?_ (hs := fun _ => rfl)))) | ((with_reducible show @ite _ _ _ _ _); (k_here; first | (refine ite_pos (by with_reducible assumption) ?_) | (refine ite_neg (by with_reducible assumption) ?_) | (refine ite_isFalse (by with_reducible assumption) ?_) | (refine ite_pos (by (simp only [beq_iff_eq, bne_iff_ne, ne_eq, Classical.not_not, decide_eq_true_eq]; (first | lia | omega))) ?_) | (refine ite_neg (by (simp only [beq_iff_eq, bne_iff_ne, ne_eq, Classical.not_not, decide_eq_true_eq]; (first | lia | omega))) ?_))) | ((with_reducible show wpAny _ _ (getAttr (Value.ref _) _ _) _ _ _); (k_here; (with_reducible show wpAny _ _ (getAttr (Value.ref _) (Str.ofString "lineno") _) _ _ _); k_dflt (refine' lineno_get ?zzF ?zzX ?zzN ?zzhx ?zzhd2 ?zzhL ?_; (case zzF => k_asm); (case zzN => k_asm); (case zzX => k_asm); (case zzhL => assumption); (case zzhd2 => walk_at "my mem"); (case zzhx => walk_at "my mem"); k_whole); intro zt)) | ((with_reducible show wpAny _ _ (getMethod (Value.ref _) _ _) _ _ _); (k_here; (with_reducible show wpAny _ _ (getMethod (Value.ref _) (PySem.Str.ofString "append") _) _ _ _); k_dflt (refine' listMethod_K ?zzN ?zzm PySem.F.slot_list_append PySem.F.type_list_append ?_; (case zzN => k_asm); (case zzm => walk_at "my mem")))) | ((with_reducible show wpAny _ _ (getMethod (Value.ref _) _ _) _ _ _); (k_here; (with_reducible show wpAny _ _ (getMethod (Value.ref _) (Str.ofString "get_token") _) _ _ _); k_dflt (refine' gettok_method ?zzF ?zzX ?zzN ?zzhx ?zzhd2 ?zzhL ?_; (case zzF => k_asm); (case zzN => k_asm); (case zzX => k_asm); (case zzhL => assumption); (case zzhd2 => walk_at "my mem"); (case zzhx => walk_at "my mem"); k_whole))) | ((with_reducible show wpAny _ _ (eval (Expr.Name _ _) _) _ _ _); (k_here; k_dflt (refine' nameX_L ?zzF ?zzv ?_ ?zza ?zzb; (case zzF => k_asm); (case zza => rfl); (case zzb => rfl); (case zzv => with_unfolding_all assumption); k_whole))) | ((with_reducible show wpAny _ _ (call (Value.ref _) _ _) _ _ _); ((with_reducible show wpAny _ _ (call (Value.ref _) _ _) _ _ _); refine Park.out ?_)) | ((with_reducible show wpAny _ _ (call (Value.builtin "len") _ _) _ _ _); (k_here; (with_reducible show wpAny _ _ (call _ [Value.str (S (List.getD _ _ [])) _]) _ _ _); k_dflt (refine len_piece (by assumption) (by first | lia | omega) ?_); intro zlp1 zlp2 zlp3)) | ((with_reducible show wpAny _ _ (call (Value.builtin "list.append") _ _) _ _ _); (k_here; (with_reducible show wpAny _ _ (call _ [Value.ref _, _]) _ _ _); k_dflt (refine my_append (by k_asm) (by k_asm) (by assumption) (by first | lia | omega) ?_); intro zh zF zN; (try k_sweep))) | ((with_reducible show wpAny _ _ (subscriptTail _ _ (Value.ref _) (Value.int _ _)) _ _ _); ((k_here; (with_reducible show wpAny _ _ (subscriptTail _ _ (Value.ref _) (Value.int _ _)) _ _ _); k_dflt (first | refine my_item (by k_asm) (by walk_at "my mem") (by assumption) (by first | lia | omega) (by first | lia | omega) (by first | lia | omega) ?_ (by with_unfolding_all rfl) (by with_unfolding_all (intro _; rfl)) | refine my_nat (by k_asm) (by walk_at "my mem") (by assumption) (by first | lia | omega) (by first | lia | omega) (by first | lia | omega) ?_ (by with_unfolding_all rfl) (by with_unfolding_all (intro _; rfl))); intro zt))) | ((with_reducible show wpAny _ _ (subscriptTail (Expr.Name _ _) (Expr.Slice _ _ _ _) (Value.ref _) (Value.ref _)) _ _ _); (k_here; k_dflt (first | refine my_upto (by k_asm) (by k_asm) (by walk_at "my mem") (by first | lia | omega) (by first | lia | omega) ?_ (by with_unfolding_all rfl) (by kmk_pure) | refine my_from (by k_asm) (by k_asm) (by walk_at "my mem") (by first | lia | omega) (by first | lia | omega) ?_ (by with_unfolding_all rfl) (by kmk_pure)); intro zD zh zF zN zl1; (try k_lt zl1); (try k_sweep))) | ((with_reducible show wpAny _ _ (call (Value.builtin "len") _ _) _ _ _); (k_here; (with_reducible show wpAny _ _ (call _ [Value.ref _]) _ _ _); k_dflt (refine my_len (by k_asm) (by walk_at "my mem") (by assumption) (by first | lia | omega) ?_))) | ((with_reducible show wpAny _ _ (pyIter (Value.ref _)) _ _ _); (refine Park.out ?_)) | ((with_reducible show wpAny _ _ (exec (Stmt.For (Expr.Name _ _) (Expr.Call _ _ _ _) _ _ _) _) _ _ _); ((k_here; (rename Fr _ _ _ _ => zlF); (with_unfolding_all refine' For_invVF zlF ?zzk1 ?zzk2 ?_; (case zzk1 => exact rfl); (case zzk2 => exact rfl); k_whole)))) | (with_reducible refine nxR ?_) | (with_reducible refine nxN ?_) | (with_reducible refine nxB ?_) | (with_reducible refine nxK ?_) | (with_reducible refine exN ?_) | (with_reducible refine exA ?zzhs ?_; (case zzhs => k_dflt (exact (rfl : (pure false : Sem Bool) = pure false))); intro zqk) | (with_reducible refine exI ?_; intro zqk) | (with_reducible refine exR ?_) | (with_reducible refine exG ?_; intro zqk) | (with_reducible refine exC ?_; intro zqk) | ((with_reducible show wpAny _ _ (eval (Expr.Name _ _) _) _ _ _); k_dflt (refine' nmL ?zzF ?zzv (rfl : true = true) ?zzl ?_; (case zzF => k_asm); (case zzl => exact rfl); (case zzv => exact (rfl : some _ = some _)); k_whole)) | ((with_reducible show wpAny _ _ (storeName _ _ _) _ _ _); k_dflt (refine' stX ?zzF ?zzN (rfl : true = true) ?zzl ?_; (case zzF => k_asm); (case zzN => k_asm); (case zzl => exact rfl); k_whole); intro zm1 zh zt zF zN; (try k_sweep)) | k_unfold | walk1 | (dsimp only; walk1) | leave1))
    refine Park.mk ?_
    rename News _ _ _ _ => N3
    have N6 := news_sub (l' := (pl, listOf #[.int ((plc ws ws.length : Nat) : Int) pt] pk) :: (d2, o2c) :: (fix ++ ((stl, listOf svs.toArray sn) :: (tups ++ R)))) N3 (by
      (repeat' (first | exact sb0 | exact sbR | refine sbC ?_ ?_ | refine sbA ?_ ?_ | (walk_at "my mem") | refine sbT ?_ | (refine sbL ?_; (repeat (refine sbT ?_)); exact sbR) | refine sbr ?_)))
    clear N3
    have hal := tok_le (row.drop (plc ws ws.length))
    rw [hta, List.length_drop] at hal
    dsimp only at hal
    refine' CTok.use (n := plc ws ws.length) (token_ok w) ?k1 ?k2 ?k3 ?k5 ?kK ?kd ?ku N6 hF hLc (fun q hq => (hnews q hq).1) (fun q hq => (hnews q hq).2) (by first | lia | omega) (by first | lia | omega) H.noslash ?kn ?kn2 ?_
    case k1 => k_asm
    case k2 => k_asm
    case k3 => k_asm
    case k5 => k_asm
    case kK => first | exact rfl | assumption
    case kd => first | exact room1 (by assumption) (by decide) | ktr_room
    case ku => first | exact units3 (by assumption) (by decide) | ktr_units
    case kn => have := nlc_nn row (plc ws ws.length); (first | lia | omega)
    case kn2 => have := nlc_le row (plc ws ws.length); (first | lia | omega)
    intro t2b t3b k2b o2b h4 tk4 hLb F4 Nb
    rw [hta] at hLb Nb ⊢
    clear N6
    dsimp only at hLb Nb
    (repeat' (first | ((with_reducible show wpAny _ _ (subscriptTail (Expr.Name _ _) (Expr.Constant _ _ _) (Value.ref _) (Value.int _ _)) _ _ _); (k_here; k_dflt (refine' my_single ?zzN ?zzhm ?_ ?zzhs ?zzhg; (case zzN => k_asm); (case zzhm => walk_at "my mem"); (case zzhs => with_unfolding_all rfl); (case zzhg => with_unfolding_all (intro _; rfl))))) | ((with_reducible show wpAny _ _ (call (Value.builtin "str.join") _ _) _ _ _); (k_here; k_dflt (first | (refine' my_join_take ?zzN ?zzhm ?zzhs ?zzhb ?zzhj ?_; (case zzN => k_asm); (case zzhm => walk_at "my mem"); (case zzhs => assumption); (case zzhb => assumption); (case zzhj => exact tn1 _)) | (refine' my_join_drop ?zzN ?zzhm ?zzhs ?zzhb ?zzhj ?_; (case zzN => k_asm); (case zzhm => walk_at "my mem"); (case zzhs => assumption); (case zzhb => assumption); (case zzhj => exact tn1 _))); intro zt zk)) | ((with_reducible show wpAny _ _ (call (Value.builtin "list.append") _ _) _ _ _); (k_here; refine Park.out ?_)) | ((with_reducible show wpAny _ _ (exec (Stmt.For (Expr.Name _ _) (Expr.Call _ _ _ _) _ _ _) _) _ _ _); (k_here; (with_unfolding_all refine wpAny_For ?_ (hs := fun _ => rfl)))) | ((with_reducible show @ite _ _ _ _ _); (k_here; first | (refine ite_pos (by with_reducible assumption) ?_) | (refine ite_neg (by with_reducible assumption) ?_) | (refine ite_isFalse (by with_reducible assumption) ?_) | (refine ite_pos (by (simp only [beq_iff_eq, bne_iff_ne, ne_eq, Classical.not_not, decide_eq_true_eq]; (first | lia | omega))) ?_) | (refine ite_neg (by (simp only [beq_iff_eq, bne_iff_ne, ne_eq, Classical.not_not, decide_eq_true_eq]; (first | lia | omega))) ?_))) | ((with_reducible show wpAny _ _ (getAttr (Value.ref _) _ _) _ _ _); (k_here; (with_reducible show wpAny _ _ (getAttr (Value.ref _) (Str.ofString "lineno") _) _ _ _); k_dflt (refine' lineno_get ?zzF ?zzX ?zzN ?zzhx ?zzhd2 ?zzhL ?_; (case zzF => k_asm); (case zzN => k_asm); (case zzX => k_asm); (case zzhL => assumption); (case zzhd2 => walk_at "my mem"); (case zzhx => walk_at "my mem"); k_whole); intro zt)) | ((with_reducible show wpAny _ _ (getMethod (Value.ref _) _ _) _ _ _); (k_here; (with_reducible show wpAny _ _ (getMethod (Value.ref _) (PySem.Str.ofString "append") _) _ _ _); k_dflt (refine' listMethod_K ?zzN ?zzm PySem.F.slot_list_append PySem.F.type_list_append ?_; (case zzN => k_asm); (case zzm => walk_at "my mem")))) | ((with_reducible show wpAny _ _ (getMethod (Value.ref _) _ _) _ _ _); (k_here; (with_reducible show wpAny _ _ (getMethod (Value.ref _) (Str.ofString "get_token") _) _ _ _); k_dflt (refine' gettok_method ?zzF ?zzX ?zzN ?zzhx ?zzhd2 ?zzhL ?_; (case zzF => k_asm); (case zzN => k_asm); (case zzX => k_asm); (case zzhL => assumption); (case zzhd2 => walk_at "my mem"); (case zzhx => walk_at "my mem"); k_whole))) | ((with_reducible show wpAny _ _ (eval (Expr.Name _ _) _) _ _ _); (k_here; k_dflt (refine' nameX_L ?zzF ?zzv ?_ ?zza ?zzb; (case zzF => k_asm); (case zza => rfl); (case zzb => rfl); (case zzv => with_unfolding_all assumption); k_whole))) | ((with_reducible show wpAny _ _ (call (Value.ref _) _ _) _ _ _); ((with_reducible show wpAny _ _ (call (Value.ref _) _ _) _ _ _); refine Park.out ?_)) | ((with_reducible show wpAny _ _ (call (Value.builtin "len") _ _) _ _ _); (k_here; (with_reducible show wpAny _ _ (call _ [Value.str (S (List.getD _ _ [])) _]) _ _ _); k_dflt (refine len_piece (by assumption) (by first | lia | omega) ?_); intro zlp1 zlp2 zlp3)) | ((with_reducible show wpAny _ _ (call (Value.builtin "list.append") _ _) _ _ _); (k_here; (with_reducible show wpAny _ _ (call _ [Value.ref _, _]) _ _ _); k_dflt (refine my_append (by k_asm) (by k_asm) (by assumption) (by first | lia | omega) ?_); intro zh zF zN; (try k_sweep))) | ((with_reducible show wpAny _ _ (subscriptTail _ _ (Value.ref _) (Value.int _ _)) _ _ _); ((k_here; (with_reducible show wpAny _ _ (subscriptTail _ _ (Value.ref _) (Value.int _ _)) _ _ _); k_dflt (first | refine my_item (by k_asm) (by walk_at "my mem") (by assumption) (by first | lia | omega) (by first | lia | omega) (by first | lia | omega) ?_ (by with_unfolding_all rfl) (by with_unfolding_all (intro _; rfl)) | refine my_nat (by k_asm) (by walk_at "my mem") (by assumption) (by first | lia | omega) (by first | lia | omega) (by first | lia | omega) ?_ (by with_unfolding_all rfl) (by with_unfolding_all (intro _; rfl))); intro zt))) | ((with_reducible show wpAny _ _ (subscriptTail (Expr.Name _ _) (Expr.Slice _ _ _ _) (Value.ref _) (Value.ref _)) _ _ _); (k_here; k_dflt (first | refine my_upto (by k_asm) (by k_asm) (by walk_at "my mem") (by first | lia | omega) (by first | lia | omega) ?_ (by with_unfolding_all rfl) (by kmk_pure) | refine my_from (by k_asm) (by k_asm) (by walk_at "my mem") (by first | lia | omega) (by first | lia | omega) ?_ (by with_unfolding_all rfl) (by kmk_pure)); intro zD zh zF zN zl1; (try k_lt zl1); (try k_sweep))) | ((with_reducible show wpAny _ _ (call (Value.builtin "len") _ _) _ _ _); (k_here; (with_reducible show wpAny _ _ (call _ [Value.ref _]) _ _ _); k_dflt (refine my_len (by k_asm) (by walk_at "my mem") (by assumption) (by first | lia | omega) ?_))) | ((with_reducible show wpAny _ _ (pyIter (Value.ref _)) _ _ _); (refine Park.out ?_)) | ((with_reducible show wpAny _ _ (exec (Stmt.For (Expr.Name _ _) (Expr.Call _ _ _ _) _ _ _) _) _ _ _); ((k_here; (rename Fr _ _ _ _ => zlF); (with_unfolding_all refine' For_invVF zlF ?zzk1 ?zzk2 ?_; (case zzk1 => exact rfl); (case zzk2 => exact rfl); k_whole)))) | (with_reducible refine nxR ?_) | (with_reducible refine nxN ?_) | (with_reducible refine nxB ?_) | (with_reducible refine nxK ?_) | (with_reducible refine exN ?_) | (with_reducible refine exA ?zzhs ?_; (case zzhs => k_dflt (exact (rfl : (pure false : Sem Bool) = pure false))); intro zqk) | (with_reducible refine exI ?_; intro zqk) | (with_reducible refine exR ?_) | (with_reducible refine exG ?_; intro zqk) | (with_reducible refine exC ?_; intro zqk) | ((with_reducible show wpAny _ _ (eval (Expr.Name _ _) _) _ _ _); k_dflt (refine' nmL ?zzF ?zzv (rfl : true = true) ?zzl ?_; (case zzF => k_asm); (case zzl => exact rfl); (case zzv => exact (rfl : some _ = some _)); k_whole)) | ((with_reducible show wpAny _ _ (storeName _ _ _) _ _ _); k_dflt (refine' stX ?zzF ?zzN (rfl : true = true) ?zzl ?_; (case zzF => k_asm); (case zzN => k_asm); (case zzl => exact rfl); k_whole); intro zm1 zh zt zF zN; (try k_sweep)) | k_unfold | walk1 | (dsimp only; walk1) | leave1))
    refine Park.mk ?_
    refine' CTok.use (n := plc ws ws.length + ta) (token_ok w) ?k1 ?k2 ?k3 ?k5 ?kK ?kd ?ku Nb hF hLb (fun q hq => (hnews q hq).1) (fun q hq => (hnews q hq).2) (by first | lia | omega) (by first | lia | omega) H.noslash ?kn ?kn2 ?_
    case k1 => k_asm
    case k2 => k_asm
    case k3 => k_asm
    case k5 => k_asm
    case kK => first | exact rfl | assumption
    case kd => first | exact room1 (by assumption) (by decide) | ktr_room
    case ku => first | exact units3 (by assumption) (by decide) | ktr_units
    case kn => have h1 := nlc_nn row (plc ws ws.length); have h2 := nlc_nn (row.drop (plc ws ws.length)) ta; (first | lia | omega)
    case kn2 => have h1 := nlc_le row (plc ws ws.length + ta); rw [nlc_add] at h1; (first | lia | omega)
    intro t2c t3c k2c o2d h5c tk5c hLd F5c Nc
    rw [List.drop_eq_nil_of_le hta2] at hLd Nc ⊢
    rw [nlc_nil] at hLd
    dsimp only [tokOf] at Nc ⊢
    clear Nb
    (repeat' (first | ((with_reducible show wpAny _ _ (subscriptTail (Expr.Name _ _) (Expr.Constant _ _ _) (Value.ref _) (Value.int _ _)) _ _ _); (k_here; k_dflt (refine' my_single ?zzN ?zzhm ?_ ?zzhs ?zzhg; (case zzN => k_asm); (case zzhm => walk_at "my mem"); (case zzhs => with_unfolding_all rfl); (case zzhg => with_unfolding_all (intro _; rfl))))) | ((with_reducible show wpAny _ _ (call (Value.builtin "str.join") _ _) _ _ _); (k_here; k_dflt (first | (refine' my_join_take ?zzN ?zzhm ?zzhs ?zzhb ?zzhj ?_; (case zzN => k_asm); (case zzhm => walk_at "my mem"); (case zzhs => assumption); (case zzhb => assumption); (case zzhj => exact tn1 _)) | (refine' my_join_drop ?zzN ?zzhm ?zzhs ?zzhb ?zzhj ?_; (case zzN => k_asm); (case zzhm => walk_at "my mem"); (case zzhs => assumption); (case zzhb => assumption); (case zzhj => exact tn1 _))); intro zt zk)) | ((with_reducible show wpAny _ _ (call (Value.builtin "list.append") _ _) _ _ _); (k_here; refine Park.out ?_)) | ((with_reducible show wpAny _ _ (exec (Stmt.For (Expr.Name _ _) (Expr.Call _ _ _ _) _ _ _) _) _ _ _); (k_here; (with_unfolding_all refine wpAny_For ?_ (hs := fun _ => rfl)))) | ((with_reducible show @ite _ _ _ _ _); (k_here; first | (refine ite_pos (by with_reducible assumption) ?_) | (refine ite_neg (by with_reducible assumption) ?_) | (refine ite_isFalse (by with_reducible assumption) ?_) | (refine ite_pos (by (simp only [beq_iff_eq, bne_iff_ne, ne_eq, Classical.not_not, decide_eq_true_eq]; (first | lia | omega))) ?_) | (refine ite_neg (by (simp only [beq_iff_eq, bne_iff_ne, ne_eq, Classical.not_not, decide_eq_true_eq]; (first | lia | omega))) ?_))) | ((with_reducible show wpAny _ _ (getAttr (Value.ref _) _ _) _ _ _); (k_here; (with_reducible show wpAny _ _ (getAttr (Value.ref _) (Str.ofString "lineno") _) _ _ _); k_dflt (refine' lineno_get ?zzF ?zzX ?zzN ?zzhx ?zzhd2 ?zzhL ?_; (case zzF => k_asm); (case zzN => k_asm); (case zzX => k_asm); (case zzhL => assumption); (case zzhd2 => walk_at "my mem"); (case zzhx => walk_at "my mem"); k_whole); intro zt)) | ((with_reducible show wpAny _ _ (getMethod (Value.ref _) _ _) _ _ _); (k_here; (with_reducible show wpAny _ _ (getMethod (Value.ref _) (PySem.Str.ofString "append") _) _ _ _); k_dflt (refine' listMethod_K ?zzN ?zzm PySem.F.slot_list_append PySem.F.type_list_append ?_; (case zzN => k_asm); (case zzm => walk_at "my mem")))) | ((with_reducible show wpAny _ _ (getMethod (Value.ref _) _ _) _ _ _); (k_here; (with_reducible show wpAny _ _ (getMethod (Value.ref _) (Str.ofString "get_token") _) _ _ _); k_dflt (refine' gettok_method ?zzF ?zzX ?zzN ?zzhx ?zzhd2 ?zzhL ?_; (case zzF => k_asm); (case zzN => k_asm); (case zzX => k_asm); (case zzhL => assumption); (case zzhd2 => walk_at "my mem"); (case zzhx => walk_at "my mem"); k_whole))) | ((with_reducible show wpAny _ _ (eval (Expr.Name _ _) _) _ _ _); (k_here; k_dflt (refine' nameX_L ?zzF ?zzv ?_ ?zza ?zzb; (case zzF => k_asm); (case zza => rfl); (case zzb => rfl); (case zzv => with_unfolding_all assumption); k_whole))) | ((with_reducible show wpAny _ _ (call (Value.ref _) _ _) _ _ _); ((with_reducible show wpAny _ _ (call (Value.ref _) _ _) _ _ _); refine Park.out ?_)) | ((with_reducible show wpAny _ _ (call (Value.builtin "len") _ _) _ _ _); (k_here; (with_reducible show wpAny _ _ (call _ [Value.str (S (List.getD _ _ [])) _]) _ _ _); k_dflt (refine len_piece (by assumption) (by first | lia | omega) ?_); intro zlp1 zlp2 zlp3)) | ((with_reducible show wpAny _ _ (call (Value.builtin "list.append") _ _) _ _ _); (k_here; (with_reducible show wpAny _ _ (call _ [Value.ref _, _]) _ _ _); k_dflt (refine my_append (by k_asm) (by k_asm) (by assumption) (by first | lia | omega) ?_); intro zh zF zN; (try k_sweep))) | ((with_reducible show wpAny _ _ (subscriptTail _ _ (Value.ref _) (Value.int _ _)) _ _ _); ((k_here; (with_reducible show wpAny _ _ (subscriptTail _ _ (Value.ref _) (Value.int _ _)) _ _ _); k_dflt (first | refine my_item (by k_asm) (by walk_at "my mem") (by assumption) (by first | lia | omega) (by first | lia | omega) (by first | lia | omega) ?_ (by with_unfolding_all rfl) (by with_unfolding_all (intro _; rfl)) | refine my_nat (by k_asm) (by walk_at "my mem") (by assumption) (by first | lia | omega) (by first | lia | omega) (by first | lia | omega) ?_ (by with_unfolding_all rfl) (by with_unfolding_all (intro _; rfl))); intro zt))) | ((with_reducible show wpAny _ _ (subscriptTail (Expr.Name _ _) (Expr.Slice _ _ _ _) (Value.ref _) (Value.ref _)) _ _ _); (k_here; k_dflt (first | refine my_upto (by k_asm) (by k_asm) (by walk_at "my mem") (by first | lia | omega) (by first | lia | omega) ?_ (by with_unfolding_all rfl) (by kmk_pure) | refine my_from (by k_asm) (by k_asm) (by walk_at "my mem") (by first | lia | omega) (by first | lia | omega) ?_ (by with_unfolding_all rfl) (by kmk_pure)); intro zD zh zF zN zl1; (try k_lt zl1); (try k_sweep))) | ((with_reducible show wpAny _ _ (call (Value.builtin "len") _ _) _ _ _); (k_here; (with_reducible show wpAny _ _ (call _ [Value.ref _]) _ _ _); k_dflt (refine my_len (by k_asm) (by walk_at "my mem") (by assumption) (by first | lia | omega) ?_))) | ((with_reducible show wpAny _ _ (pyIter (Value.ref _)) _ _ _); (refine Park.out ?_)) | ((with_reducible show wpAny _ _ (exec (Stmt.For (Expr.Name _ _) (Expr.Call _ _ _ _) _ _ _) _) _ _ _); ((k_here; (rename Fr _ _ _ _ => zlF); (with_unfolding_all refine' For_invVF zlF ?zzk1 ?zzk2 ?_; (case zzk1 => exact rfl); (case zzk2 => exact rfl); k_whole)))) | (with_reducible refine nxR ?_) | (with_reducible refine nxN ?_) | (with_reducible refine nxB ?_) | (with_reducible refine nxK ?_) | (with_reducible refine exN ?_) | (with_reducible refine exA ?zzhs ?_; (case zzhs => k_dflt (exact (rfl : (pure false : Sem Bool) = pure false))); intro zqk) | (with_reducible refine exI ?_; intro zqk) | (with_reducible refine exR ?_) | (with_reducible refine exG ?_; intro zqk) | (with_reducible refine exC ?_; intro zqk) | ((with_reducible show wpAny _ _ (eval (Expr.Name _ _) _) _ _ _); k_dflt (refine' nmL ?zzF ?zzv (rfl : true = true) ?zzl ?_; (case zzF => k_asm); (case zzl => exact rfl); (case zzv => exact (rfl : some _ = some _)); k_whole)) | ((with_reducible show wpAny _ _ (storeName _ _ _) _ _ _); k_dflt (refine' stX ?zzF ?zzN (rfl : true = true) ?zzl ?_; (case zzF => k_asm); (case zzN => k_asm); (case zzl => exact rfl); k_whole); intro zm1 zh zt zF zN; (try k_sweep)) | k_unfold | walk1 | (dsimp only; walk1) | leave1))
    have hcount : 1 + nlc row (plc ws ws.length) + nlc (row.drop (plc ws ws.length)) ta + 0 = 1 + Txt.count (S row) (Str.ofString "\n") := by
      rw [Int.add_zero, Int.add_assoc, ← nlc_add, H.count]
      unfold nlc
      rw [List.take_of_length_le hta2]
    have htok9 : PyData.strOk (S tail) = true := by simpa [PyData.strOk, S] using H.tailchars
    k_dflt (refine' my_heard ?N ?ha ?hb hcount htok9 ?hu ?_)
    case N => k_asm
    case ha => walk_at "my mem"
    case hb => walk_at "my mem"
    case hu => ktr_units
    (repeat' (first | ((with_reducible show wpAny _ _ (subscriptTail (Expr.Name _ _) (Expr.Constant _ _ _) (Value.ref _) (Value.int _ _)) _ _ _); (k_here; k_dflt (refine' my_single ?zzN ?zzhm ?_ ?zzhs ?zzhg; (case zzN => k_asm); (case zzhm => walk_at "my mem"); (case zzhs => with_unfolding_all rfl); (case zzhg => with_unfolding_all (intro _; rfl))))) | ((with_reducible show wpAny _ _ (call (Value.builtin "str.join") _ _) _ _ _); (k_here; k_dflt (first | (refine' my_join_take ?zzN ?zzhm ?zzhs ?zzhb ?zzhj ?_; (case zzN => k_asm); (case zzhm => walk_at "my mem"); (case zzhs => assumption); (case zzhb => assumption); (case zzhj => exact tn1 _)) | (refine' my_join_drop ?zzN ?zzhm ?zzhs ?zzhb ?zzhj ?_; (case zzN => k_asm); (case zzhm => walk_at "my mem"); (case zzhs => assumption); (case zzhb => assumption); (case zzhj => exact tn1 _))); intro zt zk)) | ((with_reducible show wpAny _ _ (call (Value.builtin "list.append") _ _) _ _ _); (k_here; refine Park.out ?_)) | ((with_reducible show wpAny _ _ (exec (Stmt.For (Expr.Name _ _) (Expr.Call _ _ _ _) _ _ _) _) _ _ _); (k_here; (with_unfolding_all refine wpAny_For ?_ (hs := fun _ => rfl)))) | ((with_reducible show @ite _ _ _ _ _); (k_here; first | (refine ite_pos (by with_reducible assumption) ?_) | (refine ite_neg (by with_reducible assumption) ?_) | (refine ite_isFalse (by with_reducible assumption) ?_) | (refine ite_pos (by (simp only [beq_iff_eq, bne_iff_ne, ne_eq, Classical.not_not, decide_eq_true_eq]; (first | lia | omega))) ?_) | (refine ite_neg (by (simp only [beq_iff_eq, bne_iff_ne, ne_eq, Classical.not_not, decide_eq_true_eq]; (first | lia | omega))) ?_))) | ((with_reducible show wpAny _ _ (getAttr (Value.ref _) _ _) _ _ _); (k_here; (with_reducible show wpAny _ _ (getAttr (Value.ref _) (Str.ofString "lineno") _) _ _ _); k_dflt (refine' lineno_get ?zzF ?zzX ?zzN ?zzhx ?zzhd2 ?zzhL ?_; (case zzF => k_asm); (case zzN => k_asm); (case zzX => k_asm); (case zzhL => assumption); (case zzhd2 => walk_at "my mem"); (case zzhx => walk_at "my mem"); k_whole); intro zt)) | ((with_reducible show wpAny _ _ (getMethod (Value.ref _) _ _) _ _ _); (k_here; (with_reducible show wpAny _ _ (getMethod (Value.ref _) (PySem.Str.ofString "append") _) _ _ _); k_dflt (refine' listMethod_K ?zzN ?zzm PySem.F.slot_list_append PySem.F.type_list_append ?_; (case zzN => k_asm); (case zzm => walk_at "my mem")))) | ((with_reducible show wpAny _ _ (getMethod (Value.ref _) _ _) _ _ _); (k_here; (with_reducible show wpAny _ _ (getMethod (Value.ref _) (Str.ofString "get_token") _) _ _ _); k_dflt (refine' gettok_method ?zzF ?zzX ?zzN ?zzhx ?zzhd2 ?zzhL ?_; (case zzF => k_asm); (case zzN => k_asm); (case zzX => k_asm); (case zzhL => assumption); (case zzhd2 => walk_at "my mem"); (case zzhx => walk_at "my mem"); k_whole))) | ((with_reducible show wpAny _ _ (eval (Expr.Name _ _) _) _ _ _); (k_here; k_dflt (refine' nameX_L ?zzF ?zzv ?_ ?zza ?zzb; (case zzF => k_asm); (case zza => rfl); (case zzb => rfl); (case zzv => with_unfolding_all assumption); k_whole))) | ((with_reducible show wpAny _ _ (call (Value.ref _) _ _) _ _ _); ((with_reducible show wpAny _ _ (call (Value.ref _) _ _) _ _ _); refine Park.out ?_)) | ((with_reducible show wpAny _ _ (call (Value.builtin "len") _ _) _ _ _); (k_here; (with_reducible show wpAny _ _ (call _ [Value.str (S (List.getD _ _ [])) _]) _ _ _); k_dflt (refine len_piece (by assumption) (by first | lia | omega) ?_); intro zlp1 zlp2 zlp3)) | ((with_reducible show wpAny _ _ (call (Value.builtin "list.append") _ _) _ _ _); (k_here; (with_reducible show wpAny _ _ (call _ [Value.ref _, _]) _ _ _); k_dflt (refine my_append (by k_asm) (by k_asm) (by assumption) (by first | lia | omega) ?_); intro zh zF zN; (try k_sweep))) | ((with_reducible show wpAny _ _ (subscriptTail _ _ (Value.ref _) (Value.int _ _)) _ _ _); ((k_here; (with_reducible show wpAny _ _ (subscriptTail _ _ (Value.ref _) (Value.int _ _)) _ _ _); k_dflt (first | refine my_item (by k_asm) (by walk_at "my mem") (by assumption) (by first | lia | omega) (by first | lia | omega) (by first | lia | omega) ?_ (by with_unfolding_all rfl) (by with_unfolding_all (intro _; rfl)) | refine my_nat (by k_asm) (by walk_at "my mem") (by assumption) (by first | lia | omega) (by first | lia | omega) (by first | lia | omega) ?_ (by with_unfolding_all rfl) (by with_unfolding_all (intro _; rfl))); intro zt))) | ((with_reducible show wpAny _ _ (subscriptTail (Expr.Name _ _) (Expr.Slice _ _ _ _) (Value.ref _) (Value.ref _)) _ _ _); (k_here; k_dflt (first | refine my_upto (by k_asm) (by k_asm) (by walk_at "my mem") (by first | lia | omega) (by first | lia | omega) ?_ (by with_unfolding_all rfl) (by kmk_pure) | refine my_from (by k_asm) (by k_asm) (by walk_at "my mem") (by first | lia | omega) (by first | lia | omega) ?_ (by with_unfolding_all rfl) (by kmk_pure)); intro zD zh zF zN zl1; (try k_lt zl1); (try k_sweep))) | ((with_reducible show wpAny _ _ (call (Value.builtin "len") _ _) _ _ _); (k_here; (with_reducible show wpAny _ _ (call _ [Value.ref _]) _ _ _); k_dflt (refine my_len (by k_asm) (by walk_at "my mem") (by assumption) (by first | lia | omega) ?_))) | ((with_reducible show wpAny _ _ (pyIter (Value.ref _)) _ _ _); (refine Park.out ?_)) | ((with_reducible show wpAny _ _ (exec (Stmt.For (Expr.Name _ _) (Expr.Call _ _ _ _) _ _ _) _) _ _ _); ((k_here; (rename Fr _ _ _ _ => zlF); (with_unfolding_all refine' For_invVF zlF ?zzk1 ?zzk2 ?_; (case zzk1 => exact rfl); (case zzk2 => exact rfl); k_whole)))) | (with_reducible refine nxR ?_) | (with_reducible refine nxN ?_) | (with_reducible refine nxB ?_) | (with_reducible refine nxK ?_) | (with_reducible refine exN ?_) | (with_reducible refine exA ?zzhs ?_; (case zzhs => k_dflt (exact (rfl : (pure false : Sem Bool) = pure false))); intro zqk) | (with_reducible refine exI ?_; intro zqk) | (with_reducible refine exR ?_) | (with_reducible refine exG ?_; intro zqk) | (with_reducible refine exC ?_; intro zqk) | ((with_reducible show wpAny _ _ (eval (Expr.Name _ _) _) _ _ _); k_dflt (refine' nmL ?zzF ?zzv (rfl : true = true) ?zzl ?_; (case zzF => k_asm); (case zzl => exact rfl); (case zzv => exact (rfl : some _ = some _)); k_whole)) | ((with_reducible show wpAny _ _ (storeName _ _ _) _ _ _); k_dflt (refine' stX ?zzF ?zzN (rfl : true = true) ?zzl ?_; (case zzF => k_asm); (case zzN => k_asm); (case zzl => exact rfl); k_whole); intro zm1 zh zt zF zN; (try k_sweep)) | k_unfold | walk1 | (dsimp only; walk1) | leave1))
    refine Park.mk ?_
    rw [show min ws.length (ws.length - 1) = ws.length - 1 by first | lia | omega] at hSt
    have hfit2 : (fitOf name ps).length ≤ ps.length := by unfold fitOf; rw [List.length_take]; (first | lia | omega)
    refine' CPure.use (parted_ok w fl stl fv svs 0 sn (fitOf name ps) (stopsTo name ps ws (ws.length - 1)) name _ hsf (H.pb.take _) (by first | lia | omega) ?hb2 (by rw [stopsTo_len]; (first | lia | omega)) ?hsm H.parted) ?k1 ?k2 ?k3 ?k4 ?k5 ?kK ?kd ?ku ?kp ?_
    ((case k1 => k_asm); (case k2 => k_asm); (case k3 => k_asm); (case k4 => k_asm); (case k5 => k_asm); (case kK => first | exact rfl | assumption); (case kd => first | exact room1 (by assumption) (by decide) | ktr_room); (case ku => first | exact units3 (by assumption) (by decide) | ktr_units))
    case hb2 =>
      have h1 := H.pb2
      have h2 := sum_take (ps.map List.length) ((fronts name ps).getD name.length 0)
      unfold fitOf at hfit2 ⊢
      rw [List.map_take]
      (first | lia | omega)
    case hsm =>
      intro q hq
      show let G9 : Prop := _; G9
      intro G9
      obtain ⟨j, _, rfl⟩ := List.mem_map.mp hq
      k_unfold
      have h1 := hfle (dueOf ws (j + 1)).length
      have h2 := hele (restOf ws (j + 1)).length
      exact ⟨by show aheadOf name ps ws (j + 1) < 1000; unfold aheadOf; (first | lia | omega), by show behindOf name ps ws (j + 1) < 1000; unfold behindOf; (first | lia | omega)⟩
    case kp => exact ⟨by walk_at "my mem", by walk_at "my mem", stops_mono hSt (by (repeat' (first | exact sb0 | exact sbR | refine sbC ?_ ?_ | refine sbA ?_ ?_ | (walk_at "my mem") | refine sbT ?_ | (refine sbL ?_; (repeat (refine sbT ?_)); exact sbR) | refine sbr ?_)))⟩
    rintro r h3 tk3 F3 N3 hr3
    subst hr3
    (try dsimp only)
    (repeat' (first | ((with_reducible show wpAny _ _ (subscriptTail (Expr.Name _ _) (Expr.Constant _ _ _) (Value.ref _) (Value.int _ _)) _ _ _); (k_here; k_dflt (refine' my_single ?zzN ?zzhm ?_ ?zzhs ?zzhg; (case zzN => k_asm); (case zzhm => walk_at "my mem"); (case zzhs => with_unfolding_all rfl); (case zzhg => with_unfolding_all (intro _; rfl))))) | ((with_reducible show wpAny _ _ (call (Value.builtin "str.join") _ _) _ _ _); (k_here; k_dflt (first | (refine' my_join_take ?zzN ?zzhm ?zzhs ?zzhb ?zzhj ?_; (case zzN => k_asm); (case zzhm => walk_at "my mem"); (case zzhs => assumption); (case zzhb => assumption); (case zzhj => exact tn1 _)) | (refine' my_join_drop ?zzN ?zzhm ?zzhs ?zzhb ?zzhj ?_; (case zzN => k_asm); (case zzhm => walk_at "my mem"); (case zzhs => assumption); (case zzhb => assumption); (case zzhj => exact tn1 _))); intro zt zk)) | ((with_reducible show wpAny _ _ (call (Value.builtin "list.append") _ _) _ _ _); (k_here; refine Park.out ?_)) | ((with_reducible show wpAny _ _ (exec (Stmt.For (Expr.Name _ _) (Expr.Call _ _ _ _) _ _ _) _) _ _ _); (k_here; (with_unfolding_all refine wpAny_For ?_ (hs := fun _ => rfl)))) | ((with_reducible show @ite _ _ _ _ _); (k_here; first | (refine ite_pos (by with_reducible assumption) ?_) | (refine ite_neg (by with_reducible assumption) ?_) | (refine ite_isFalse (by with_reducible assumption) ?_) | (refine ite_pos (by (simp only [beq_iff_eq, bne_iff_ne, ne_eq, Classical.not_not, decide_eq_true_eq]; (first | lia | omega))) ?_) | (refine ite_neg (by (simp only [beq_iff_eq, bne_iff_ne, ne_eq, Classical.not_not, decide_eq_true_eq]; (first | lia | omega))) ?_))) | ((with_reducible show wpAny _ _ (getAttr (Value.ref _) _ _) _ _ _); (k_here; (with_reducible show wpAny _ _ (getAttr (Value.ref _) (Str.ofString "lineno") _) _ _ _); k_dflt (refine' lineno_get ?zzF ?zzX ?zzN ?zzhx ?zzhd2 ?zzhL ?_; (case zzF => k_asm); (case zzN => k_asm); (case zzX => k_asm); (case zzhL => assumption); (case zzhd2 => walk_at "my mem"); (case zzhx => walk_at "my mem"); k_whole); intro zt)) | ((with_reducible show wpAny _ _ (getMethod (Value.ref _) _ _) _ _ _); (k_here; (with_reducible show wpAny _ _ (getMethod (Value.ref _) (PySem.Str.ofString "append") _) _ _ _); k_dflt (refine' listMethod_K ?zzN ?zzm PySem.F.slot_list_append PySem.F.type_list_append ?_; (case zzN => k_asm); (case zzm => walk_at "my mem")))) | ((with_reducible show wpAny _ _ (getMethod (Value.ref _) _ _) _ _ _); (k_here; (with_reducible show wpAny _ _ (getMethod (Value.ref _) (Str.ofString "get_token") _) _ _ _); k_dflt (refine' gettok_method ?zzF ?zzX ?zzN ?zzhx ?zzhd2 ?zzhL ?_; (case zzF => k_asm); (case zzN => k_asm); (case zzX => k_asm); (case zzhL => assumption); (case zzhd2 => walk_at "my mem"); (case zzhx => walk_at "my mem"); k_whole))) | ((with_reducible show wpAny _ _ (eval (Expr.Name _ _) _) _ _ _); (k_here; k_dflt (refine' nameX_L ?zzF ?zzv ?_ ?zza ?zzb; (case zzF => k_asm); (case zza => rfl); (case zzb => rfl); (case zzv => with_unfolding_all assumption); k_whole))) | ((with_reducible show wpAny _ _ (call (Value.ref _) _ _) _ _ _); ((with_reducible show wpAny _ _ (call (Value.ref _) _ _) _ _ _); refine Park.out ?_)) | ((with_reducible show wpAny _ _ (call (Value.builtin "len") _ _) _ _ _); (k_here; (with_reducible show wpAny _ _ (call _ [Value.str (S (List.getD _ _ [])) _]) _ _ _); k_dflt (refine len_piece (by assumption) (by first | lia | omega) ?_); intro zlp1 zlp2 zlp3)) | ((with_reducible show wpAny _ _ (call (Value.builtin "list.append") _ _) _ _ _); (k_here; (with_reducible show wpAny _ _ (call _ [Value.ref _, _]) _ _ _); k_dflt (refine my_append (by k_asm) (by k_asm) (by assumption) (by first | lia | omega) ?_); intro zh zF zN; (try k_sweep))) | ((with_reducible show wpAny _ _ (subscriptTail _ _ (Value.ref _) (Value.int _ _)) _ _ _); ((k_here; (with_reducible show wpAny _ _ (subscriptTail _ _ (Value.ref _) (Value.int _ _)) _ _ _); k_dflt (first | refine my_item (by k_asm) (by walk_at "my mem") (by assumption) (by first | lia | omega) (by first | lia | omega) (by first | lia | omega) ?_ (by with_unfolding_all rfl) (by with_unfolding_all (intro _; rfl)) | refine my_nat (by k_asm) (by walk_at "my mem") (by assumption) (by first | lia | omega) (by first | lia | omega) (by first | lia | omega) ?_ (by with_unfolding_all rfl) (by with_unfolding_all (intro _; rfl))); intro zt))) | ((with_reducible show wpAny _ _ (subscriptTail (Expr.Name _ _) (Expr.Slice _ _ _ _) (Value.ref _) (Value.ref _)) _ _ _); (k_here; k_dflt (first | refine my_upto (by k_asm) (by k_asm) (by walk_at "my mem") (by first | lia | omega) (by first | lia | omega) ?_ (by with_unfolding_all rfl) (by kmk_pure) | refine my_from (by k_asm) (by k_asm) (by walk_at "my mem") (by first | lia | omega) (by first | lia | omega) ?_ (by with_unfolding_all rfl) (by kmk_pure)); intro zD zh zF zN zl1; (try k_lt zl1); (try k_sweep))) | ((with_reducible show wpAny _ _ (call (Value.builtin "len") _ _) _ _ _); (k_here; (with_reducible show wpAny _ _ (call _ [Value.ref _]) _ _ _); k_dflt (refine my_len (by k_asm) (by walk_at "my mem") (by assumption) (by first | lia | omega) ?_))) | ((with_reducible show wpAny _ _ (pyIter (Value.ref _)) _ _ _); (refine Park.out ?_)) | ((with_reducible show wpAny _ _ (exec (Stmt.For (Expr.Name _ _) (Expr.Call _ _ _ _) _ _ _) _) _ _ _); ((k_here; (rename Fr _ _ _ _ => zlF); (with_unfolding_all refine' For_invVF zlF ?zzk1 ?zzk2 ?_; (case zzk1 => exact rfl); (case zzk2 => exact rfl); k_whole)))) | (with_reducible refine nxR ?_) | (with_reducible refine nxN ?_) | (with_reducible refine nxB ?_) | (with_reducible refine nxK ?_) | (with_reducible refine exN ?_) | (with_reducible refine exA ?zzhs ?_; (case zzhs => k_dflt (exact (rfl : (pure false : Sem Bool) = pure false))); intro zqk) | (with_reducible refine exI ?_; intro zqk) | (with_reducible refine exR ?_) | (with_reducible refine exG ?_; intro zqk) | (with_reducible refine exC ?_; intro zqk) | ((with_reducible show wpAny _ _ (eval (Expr.Name _ _) _) _ _ _); k_dflt (refine' nmL ?zzF ?zzv (rfl : true = true) ?zzl ?_; (case zzF => k_asm); (case zzl => exact rfl); (case zzv => exact (rfl : some _ = some _)); k_whole)) | ((with_reducible show wpAny _ _ (storeName _ _ _) _ _ _); k_dflt (refine' stX ?zzF ?zzN (rfl : true = true) ?zzl ?_; (case zzF => k_asm); (case zzN => k_asm); (case zzl => exact rfl); k_whole); intro zm1 zh zt zF zN; (try k_sweep)) | k_unfold | walk1 | (dsimp only; walk1) | leave1))
    rename News _ _ _ _ => N9z
    exact hret _ ps7 [] _ _ (by assumption) (news_sub N9z (by rw [hR]; (repeat' (first | exact sb0 | exact sbR | refine sbC ?_ ?_ | refine sbA ?_ ?_ | (walk_at "my mem") | refine sbT ?_ | (refine sbL ?_; (repeat (refine sbT ?_)); exact sbR) | refine sbr ?_)))) rfl
end
section
theorem name_ints {vs : List Value} {ns : List Int} (_h : IntsAre vs (ns.take 10)) : ∃ a : List Int, a = ns := ⟨ns, rfl⟩
theorem nums_news {h₀ h : Heap} {L D : Addr} {ys : List Value} {xs : List Int} {n : Nat} {r : Led} {t1 t2 t3 t4 t5 t6 t7 : Tok} (hI : IntsAre ys (List.map (fun k => Int.fmod k 10000000) (List.take 10 xs)))
    (_N : News h₀ L h ((D, listOf (ys ++ List.drop (Int.toNat ((List.map (fun k => Int.fmod k 10000000) (List.take 10 xs)).length : Int)) [Value.int 1 t1, .int 6 t2, .int 8 t3, .int 4 t4, .int 18 t5, .int 3 t6, .int 10 t7]).toArray n) :: r)) :
    ∃ nv : List Value, nv = ys ++ List.drop (Int.toNat ((List.map (fun k => Int.fmod k 10000000) (List.take 10 xs)).length : Int)) [Value.int 1 t1, .int 6 t2, .int 8 t3, .int 4 t4, .int 18 t5, .int 3 t6, .int 10 t7] ∧ IntsAre nv (numsOf xs) := by
  refine ⟨_, rfl, ?_⟩
  rw [Int.toNat_natCast]
  exact ints_app hI (ints_drop _ (.cons 1 _ (.cons 6 _ (.cons 8 _ (.cons 4 _ (.cons 18 _ (.cons 3 _ (.cons 10 _ .nil))))))))
theorem CStops.use {w : World} {k : Nat} {f : Addr} {vs : List Value} {P : Addr} {pre : Led → Prop} {p : Program} {loose : List Str} {mean : ExcName → Option Value} {mg mb : Str → Option Value} {dp un : Nat} {gd : Option (List Code)} {cn : Str} {cs : Scope} {a : Addr} {ccd : Value} {A₀ : Around} {base h₀ : Heap} {L : Addr} {m : Str → Option Value} {news : Led} {s : Shared}
    {Q E : Value → Shared → Prop} (C : CStops w k f vs P pre) (B : Below A₀ base [] h₀) (F : Fr h₀ L s.heap m) (X : (Khp w.params).In h₀) (N : News h₀ L s.heap ((P, tabObj #[]) :: news)) (T : Top p loose mean mg mb h₀) (XB : (Khp w.params).In base) (TB : Top p loose mean mg mb base) (CP : CodeHd base 134 P) (hP : ∀ q ∈ news, q.1 ≠ P) (hk : cs.kind = .function) (hdq : dp + k < recursionLimit) (hu : un + 8 * k < cLine) (hp : pre news)
    (ret : ∀ r ps tl h' tk', Fr h₀ L h' m → News h₀ L h' (tl ++ ((P, tabObj ps) :: news)) → r = .bool true → Q r { s with heap := h', toks := tk' }) :
    wpAny (model PySem.Challenge.rw_sc0033_01.row.prog w) (ktrTop dp un gd cn cs L a ccd [] []) (call (.ref f) vs) Q E s := C _ _ _ _ _ _ _ _ _ _ _ _ _ _ _ _ _ _ _ _ _ B F X N T XB TB CP hP hk hdq hu hp ret
theorem law_holds : PySem.Challenge.rw_sc0033_01.Holds := by
  w_on
  o_law
  o_head (kmHook Khq (2 :: 3 :: 22 :: 30 :: 31 :: 32 :: 35 :: 43 :: 44 :: 52 :: 53 :: 59 :: 60 :: 73 :: 74 :: 80 :: 81 :: 87 :: 88 :: 96 :: 97 :: 98 :: 99 :: 100 :: 108 :: 109 :: 113 :: 114 :: 120 :: 121 :: 127 :: 128 :: 134 :: 135 :: 141 :: 142 :: 148 :: 149 :: 155 :: 156 :: 162 :: 163 :: 169 :: 170 :: 174 :: 175 :: 181 :: 182 :: 186 :: 187 :: []) (fun _ => by kernel_rfl) [130])
  case hw => w_witness2
  refine km_swap (fun y => WalkO _ _ _ y _ _ _ _) khp_khq fun _ => ?_
  k_go0
  (all_goals try k_fold)
  (repeat' (first | ((with_reducible show wpAny _ _ (subscriptTail (Expr.List _ _) (Expr.Slice _ _ _ _) (Value.ref _) (Value.ref _)) _ _ _); refine Park.out ?_) | ((with_reducible show wpAny _ _ (binaryOp _ (Value.ref _) (Value.ref _)) _ _ _); ((with_reducible show wpAny _ _ (binaryOp _ (Value.ref _) (Value.ref _)) _ _ _); refine Park.out ?_)) | ((with_reducible show wpAny _ _ (call (Value.ref _) _ _) _ _ _); ((with_reducible show wpAny _ _ (call (Value.ref _) _ _) _ _ _); refine Park.out ?_)) | ((with_reducible show wpAny _ _ (call (Value.builtin "len") _ _) _ _ _); (k_here; (with_reducible show wpAny _ _ (call _ [Value.str (S (List.getD _ _ [])) _]) _ _ _); k_dflt (refine len_piece (by assumption) (by first | lia | omega) ?_); intro zlp1 zlp2 zlp3)) | ((with_reducible show wpAny _ _ (subscriptTail (Expr.Name _ _) (Expr.Slice _ _ _ _) (Value.ref _) (Value.ref _)) _ _ _); (k_here; k_dflt (first | refine my_upto (by k_asm) (by k_asm) (by walk_at "my mem") (by first | lia | omega) (by first | lia | omega) ?_ (by with_unfolding_all rfl) (by kmk_pure) | refine my_from (by k_asm) (by k_asm) (by walk_at "my mem") (by first | lia | omega) (by first | lia | omega) ?_ (by with_unfolding_all rfl) (by kmk_pure)); intro zD zh zF zN zl1; (try k_lt zl1); (try k_sweep))) | ((with_reducible show wpAny _ _ (call (Value.builtin "len") _ _) _ _ _); (k_here; (with_reducible show wpAny _ _ (call _ [Value.ref _]) _ _ _); k_dflt (refine my_len (by k_asm) (by walk_at "my mem") (by assumption) (by first | lia | omega) ?_))) | (with_reducible refine nxR ?_) | (with_reducible refine nxN ?_) | (with_reducible refine nxB ?_) | (with_reducible refine nxK ?_) | (with_reducible refine exN ?_) | (with_reducible refine exA ?zzhs ?_; (case zzhs => k_dflt (exact (rfl : (pure false : Sem Bool) = pure false))); intro zqk) | (with_reducible refine exI ?_; intro zqk) | (with_reducible refine exR ?_) | (with_reducible refine exG ?_; intro zqk) | (with_reducible refine exC ?_; intro zqk) | ((with_reducible show wpAny _ _ (eval (Expr.Name _ _) _) _ _ _); k_dflt (refine' nmL ?zzF ?zzv (rfl : true = true) ?zzl ?_; (case zzF => k_asm); (case zzl => exact rfl); (case zzv => exact (rfl : some _ = some _)); k_whole)) | ((with_reducible show wpAny _ _ (storeName _ _ _) _ _ _); k_dflt (refine' stX ?zzF ?zzN (rfl : true = true) ?zzl ?_; (case zzF => k_asm); (case zzN => k_asm); (case zzl => exact rfl); k_whole); intro zm1 zh zt zF zN; (try k_sweep)) | walk1 | (dsimp only; walk1)))
  refine Park.mk ?_
  skip
  k_here
  k_dflt (refine' kba_turn (value' := PySem.Expr.Name (PySem.Str.ofString "_") ⟨0, 0, 0, 0⟩) (fun _ => rfl) (my_from ?k1 ?k2 ?k3 ?k4 ?k5 ?_ ?k6 (fun _ => rfl)))
  case k1 => k_asm
  case k2 => k_asm
  case k3 => exact List.Mem.head _
  case k4 => (first | lia | omega)
  case k5 => show 7 < 10000; decide
  case k6 => with_unfolding_all rfl
  intro D' h' F' N' l1
  (try k_lt l1)
  (try k_sweep)
  (repeat' (first | ((with_reducible show wpAny _ _ (binaryOp _ (Value.ref _) (Value.ref _)) _ _ _); ((with_reducible show wpAny _ _ (binaryOp _ (Value.ref _) (Value.ref _)) _ _ _); refine Park.out ?_)) | ((with_reducible show wpAny _ _ (call (Value.ref _) _ _) _ _ _); ((with_reducible show wpAny _ _ (call (Value.ref _) _ _) _ _ _); refine Park.out ?_)) | ((with_reducible show wpAny _ _ (call (Value.builtin "len") _ _) _ _ _); (k_here; (with_reducible show wpAny _ _ (call _ [Value.str (S (List.getD _ _ [])) _]) _ _ _); k_dflt (refine len_piece (by assumption) (by first | lia | omega) ?_); intro zlp1 zlp2 zlp3)) | ((with_reducible show wpAny _ _ (subscriptTail (Expr.Name _ _) (Expr.Slice _ _ _ _) (Value.ref _) (Value.ref _)) _ _ _); (k_here; k_dflt (first | refine my_upto (by k_asm) (by k_asm) (by walk_at "my mem") (by first | lia | omega) (by first | lia | omega) ?_ (by with_unfolding_all rfl) (by kmk_pure) | refine my_from (by k_asm) (by k_asm) (by walk_at "my mem") (by first | lia | omega) (by first | lia | omega) ?_ (by with_unfolding_all rfl) (by kmk_pure)); intro zD zh zF zN zl1; (try k_lt zl1); (try k_sweep))) | ((with_reducible show wpAny _ _ (call (Value.builtin "len") _ _) _ _ _); (k_here; (with_reducible show wpAny _ _ (call _ [Value.ref _]) _ _ _); k_dflt (refine my_len (by k_asm) (by walk_at "my mem") (by assumption) (by first | lia | omega) ?_))) | (with_reducible refine nxR ?_) | (with_reducible refine nxN ?_) | (with_reducible refine nxB ?_) | (with_reducible refine nxK ?_) | (with_reducible refine exN ?_) | (with_reducible refine exA ?zzhs ?_; (case zzhs => k_dflt (exact (rfl : (pure false : Sem Bool) = pure false))); intro zqk) | (with_reducible refine exI ?_; intro zqk) | (with_reducible refine exR ?_) | (with_reducible refine exG ?_; intro zqk) | (with_reducible refine exC ?_; intro zqk) | ((with_reducible show wpAny _ _ (eval (Expr.Name _ _) _) _ _ _); k_dflt (refine' nmL ?zzF ?zzv (rfl : true = true) ?zzl ?_; (case zzF => k_asm); (case zzl => exact rfl); (case zzv => exact (rfl : some _ = some _)); k_whole)) | ((with_reducible show wpAny _ _ (storeName _ _ _) _ _ _); k_dflt (refine' stX ?zzF ?zzN (rfl : true = true) ?zzl ?_; (case zzF => k_asm); (case zzN => k_asm); (case zzl => exact rfl); k_whole); intro zm1 zh zt zF zN; (try k_sweep)) | k_unfold | walk1 | (dsimp only; walk1) | leave1))
  refine Park.mk ?_
  rename IntsAre _ (List.map _ _) => hI8
  rename List.length _ = List.length (List.map _ _) => hL8
  rename IntsAre _ (List.take _ _) => hI7
  have hnn := name_ints hI7
  clear hI7
  show let G9 : Prop := _; G9
  intro G9
  obtain ⟨xs, hxs⟩ := hnn
  k_unfold
  rw [← hxs] at hI8 hL8
  show let G9 : Prop := _; G9
  intro G9
  obtain ⟨hN1, hN2⟩ := nums_ok xs
  k_unfold
  rename News _ _ _ _ => N5
  rw [← hxs] at N5
  k_dflt (refine' my_add ?F N5 ?ha ?hb ?hz ?_)
  case F => k_asm
  case ha => exact .tail _ (.tail _ (.head _))
  case hb => exact .head _
  case hz => rw [List.length_drop, hL8, List.length_map, List.length_take]; simp only [List.length_cons, List.length_nil]; (first | lia | omega)
  intro D9 h9 F9 N9 l9
  show let G9 : Prop := _; G9
  intro G9
  obtain ⟨nv, hnv, hI9⟩ := nums_news hI8 N9
  k_unfold
  rw [← hnv] at N9
  clear N5 hI8 hL8 l9 hnv
  (repeat' (first | ((with_reducible show wpAny _ _ (binaryOp _ (Value.ref _) (Value.ref _)) _ _ _); ((with_reducible show wpAny _ _ (binaryOp _ (Value.ref _) (Value.ref _)) _ _ _); refine Park.out ?_)) | ((with_reducible show wpAny _ _ (call (Value.ref _) _ _) _ _ _); ((with_reducible show wpAny _ _ (call (Value.ref _) _ _) _ _ _); refine Park.out ?_)) | ((with_reducible show wpAny _ _ (call (Value.builtin "len") _ _) _ _ _); (k_here; (with_reducible show wpAny _ _ (call _ [Value.str (S (List.getD _ _ [])) _]) _ _ _); k_dflt (refine len_piece (by assumption) (by first | lia | omega) ?_); intro zlp1 zlp2 zlp3)) | ((with_reducible show wpAny _ _ (subscriptTail (Expr.Name _ _) (Expr.Slice _ _ _ _) (Value.ref _) (Value.ref _)) _ _ _); (k_here; k_dflt (first | refine my_upto (by k_asm) (by k_asm) (by walk_at "my mem") (by first | lia | omega) (by first | lia | omega) ?_ (by with_unfolding_all rfl) (by kmk_pure) | refine my_from (by k_asm) (by k_asm) (by walk_at "my mem") (by first | lia | omega) (by first | lia | omega) ?_ (by with_unfolding_all rfl) (by kmk_pure)); intro zD zh zF zN zl1; (try k_lt zl1); (try k_sweep))) | ((with_reducible show wpAny _ _ (call (Value.builtin "len") _ _) _ _ _); (k_here; (with_reducible show wpAny _ _ (call _ [Value.ref _]) _ _ _); k_dflt (refine my_len (by k_asm) (by walk_at "my mem") (by assumption) (by first | lia | omega) ?_))) | (with_reducible refine nxR ?_) | (with_reducible refine nxN ?_) | (with_reducible refine nxB ?_) | (with_reducible refine nxK ?_) | (with_reducible refine exN ?_) | (with_reducible refine exA ?zzhs ?_; (case zzhs => k_dflt (exact (rfl : (pure false : Sem Bool) = pure false))); intro zqk) | (with_reducible refine exI ?_; intro zqk) | (with_reducible refine exR ?_) | (with_reducible refine exG ?_; intro zqk) | (with_reducible refine exC ?_; intro zqk) | ((with_reducible show wpAny _ _ (eval (Expr.Name _ _) _) _ _ _); k_dflt (refine' nmL ?zzF ?zzv (rfl : true = true) ?zzl ?_; (case zzF => k_asm); (case zzl => exact rfl); (case zzv => exact (rfl : some _ = some _)); k_whole)) | ((with_reducible show wpAny _ _ (storeName _ _ _) _ _ _); k_dflt (refine' stX ?zzF ?zzN (rfl : true = true) ?zzl ?_; (case zzF => k_asm); (case zzN => k_asm); (case zzl => exact rfl); k_whole); intro zm1 zh zt zF zN; (try k_sweep)) | k_unfold | walk1 | (dsimp only; walk1) | leave1))
  refine Park.mk ?_
  rename News _ _ _ _ => N5
  have N6 := news_sub (l' := [(D9, listOf nv.toArray 0), (130, tabObj #[])]) N5 (by (repeat' (first | exact sb0 | exact sbR | refine sbC ?_ ?_ | refine sbA ?_ ?_ | (walk_at "my mem") | refine sbT ?_ | (refine sbL ?_; (repeat (refine sbT ?_)); exact sbR) | refine sbr ?_)))
  clear N5
  show let G9 : Prop := _; G9
  intro G9
  obtain ⟨hD1, hD2, hD3, hD4, hD5⟩ := drawn_plain (numsOf xs) hN1
  k_unfold
  refine' CNewD.use (drawn_ok _ D9 nv 0 (numsOf xs) hI9 hN1 hN2) ?k1 ?k2 ?k3 N6 ?k5 ?kK ?kd ?ku ?kp ?_
  case k1 => k_asm
  case k2 => k_asm
  case k3 => k_asm
  case k5 => k_asm
  case kK => exact rfl
  case kd => first | decide | k_room | ktr_room
  case ku => first | decide | ktr_units
  case kp => exact .head _
  rintro r tl h8 tk8 F8 N8 off8 ⟨D1, D2, l1', t1, ys, zs, n1, n2, n3, rfl, rfl, hys⟩
  generalize hname : (drawAll (numsOf xs)).1 = name at *
  generalize hps : keepNE ((drawAll (numsOf xs)).2.1 ++ [(drawAll (numsOf xs)).2.2]) = ps at *
  have hD2P : D2 ≠ 130 := off8 (130, tabObj #[]) (.tail _ (.head _)) (D2, listOf ys.toArray n2) (.tail _ (.head _))
  have N7 := news_sub (l' := [(D1, { cls := .type "tuple", data := .seq #[.str (S name) t1, .ref D2] n1 }), (D2, listOf ys.toArray n2), (130, tabObj #[])]) N8 (by (repeat' (first | exact sb0 | exact sbR | refine sbC ?_ ?_ | refine sbA ?_ ?_ | (walk_at "my mem") | refine sbT ?_ | (refine sbL ?_; (repeat (refine sbT ?_)); exact sbR) | refine sbr ?_)))
  clear N6 N8 off8 hI9
  (try dsimp only)
  have hnl := S_len name
  have hrep := replace_len (name := name)
  clear hname hps hN1 hN2
  (repeat' (first | ((with_reducible show wpAny _ _ (binaryOp _ (Value.ref _) (Value.ref _)) _ _ _); ((with_reducible show wpAny _ _ (binaryOp _ (Value.ref _) (Value.ref _)) _ _ _); refine Park.out ?_)) | ((with_reducible show wpAny _ _ (call (Value.ref _) _ _) _ _ _); ((with_reducible show wpAny _ _ (call (Value.ref _) _ _) _ _ _); refine Park.out ?_)) | ((with_reducible show wpAny _ _ (call (Value.builtin "len") _ _) _ _ _); (k_here; (with_reducible show wpAny _ _ (call _ [Value.str (S (List.getD _ _ [])) _]) _ _ _); k_dflt (refine len_piece (by assumption) (by first | lia | omega) ?_); intro zlp1 zlp2 zlp3)) | ((with_reducible show wpAny _ _ (subscriptTail (Expr.Name _ _) (Expr.Slice _ _ _ _) (Value.ref _) (Value.ref _)) _ _ _); (k_here; k_dflt (first | refine my_upto (by k_asm) (by k_asm) (by walk_at "my mem") (by first | lia | omega) (by first | lia | omega) ?_ (by with_unfolding_all rfl) (by kmk_pure) | refine my_from (by k_asm) (by k_asm) (by walk_at "my mem") (by first | lia | omega) (by first | lia | omega) ?_ (by with_unfolding_all rfl) (by kmk_pure)); intro zD zh zF zN zl1; (try k_lt zl1); (try k_sweep))) | ((with_reducible show wpAny _ _ (call (Value.builtin "len") _ _) _ _ _); (k_here; (with_reducible show wpAny _ _ (call _ [Value.ref _]) _ _ _); k_dflt (refine my_len (by k_asm) (by walk_at "my mem") (by assumption) (by first | lia | omega) ?_))) | (with_reducible refine nxR ?_) | (with_reducible refine nxN ?_) | (with_reducible refine nxB ?_) | (with_reducible refine nxK ?_) | (with_reducible refine exN ?_) | (with_reducible refine exA ?zzhs ?_; (case zzhs => k_dflt (exact (rfl : (pure false : Sem Bool) = pure false))); intro zqk) | (with_reducible refine exI ?_; intro zqk) | (with_reducible refine exR ?_) | (with_reducible refine exG ?_; intro zqk) | (with_reducible refine exC ?_; intro zqk) | ((with_reducible show wpAny _ _ (eval (Expr.Name _ _) _) _ _ _); k_dflt (refine' nmL ?zzF ?zzv (rfl : true = true) ?zzl ?_; (case zzF => k_asm); (case zzl => exact rfl); (case zzv => exact (rfl : some _ = some _)); k_whole)) | ((with_reducible show wpAny _ _ (storeName _ _ _) _ _ _); k_dflt (refine' stX ?zzF ?zzN (rfl : true = true) ?zzl ?_; (case zzF => k_asm); (case zzN => k_asm); (case zzl => exact rfl); k_whole); intro zm1 zh zt zF zN; (try k_sweep)) | k_unfold | walk1 | (dsimp only; walk1) | leave1))
  · refine Park.mk ?_
    show let G9 : Prop := _; G9
    intro G9
    obtain ⟨ws, w1, w2, w3, H⟩ := plain_ok name [32, 109, 97, 100, 101] [109, 97, 100, 101] ps (by first | lia | omega) hD2 hD3 hD4 hD5 (.inr ⟨rfl, rfl⟩)
    k_unfold
    have e1 := row_text2 w1 w2
    rw [w3] at e1
    rw [e1, show Str.ofString "made" = S [109, 97, 100, 101] from by decide]
    rename News _ _ _ _ => N5
    have N6 := news_sub (l' := [(130, tabObj #[]), (D2, listOf ys.toArray n2)]) N5 (by (repeat' (first | exact sb0 | exact sbR | refine sbC ?_ ?_ | refine sbA ?_ ?_ | (walk_at "my mem") | refine sbT ?_ | (refine sbL ?_; (repeat (refine sbT ?_)); exact sbR) | refine sbr ?_)))
    clear N5
    rename CodeHd _ _ _ => hcp9
    refine' CStops.use (stops_ok _ (rowOf ws [32, 109, 97, 100, 101]) name [109, 97, 100, 101] ps ws H _ _ _ D2 130 ys n2 hys) ?k1 ?k2 ?k3 N6 ?k5 ?k6 ?k7 hcp9 ?k8 ?kK ?kd ?ku ?kp ?_
    case k1 => k_asm
    case k2 => k_asm
    case k3 => k_asm
    case k5 => k_asm
    case k6 => k_asm
    case k7 => k_asm
    case k8 => intro q hq; rw [List.mem_singleton.mp hq]; exact hD2P
    case kK => exact rfl
    case kd => first | decide | k_room | ktr_room
    case ku => first | decide | ktr_units
    case kp => exact .head _
    intro r ps9 tl9 h9 tk9 F9 N9 hr
    subst hr
    have N10 := news_sub (l' := [(130, tabObj ps9)]) N9 (by
      intro q hq
      rw [List.mem_singleton.mp hq]
      exact List.mem_append.mpr (Or.inr (.head _)))
    clear N6 N9
    (try dsimp only)
    (repeat' (first | ((with_reducible show wpAny _ _ (binaryOp _ (Value.ref _) (Value.ref _)) _ _ _); ((with_reducible show wpAny _ _ (binaryOp _ (Value.ref _) (Value.ref _)) _ _ _); refine Park.out ?_)) | ((with_reducible show wpAny _ _ (call (Value.ref _) _ _) _ _ _); ((with_reducible show wpAny _ _ (call (Value.ref _) _ _) _ _ _); refine Park.out ?_)) | ((with_reducible show wpAny _ _ (call (Value.builtin "len") _ _) _ _ _); (k_here; (with_reducible show wpAny _ _ (call _ [Value.str (S (List.getD _ _ [])) _]) _ _ _); k_dflt (refine len_piece (by assumption) (by first | lia | omega) ?_); intro zlp1 zlp2 zlp3)) | ((with_reducible show wpAny _ _ (subscriptTail (Expr.Name _ _) (Expr.Slice _ _ _ _) (Value.ref _) (Value.ref _)) _ _ _); (k_here; k_dflt (first | refine my_upto (by k_asm) (by k_asm) (by walk_at "my mem") (by first | lia | omega) (by first | lia | omega) ?_ (by with_unfolding_all rfl) (by kmk_pure) | refine my_from (by k_asm) (by k_asm) (by walk_at "my mem") (by first | lia | omega) (by first | lia | omega) ?_ (by with_unfolding_all rfl) (by kmk_pure)); intro zD zh zF zN zl1; (try k_lt zl1); (try k_sweep))) | ((with_reducible show wpAny _ _ (call (Value.builtin "len") _ _) _ _ _); (k_here; (with_reducible show wpAny _ _ (call _ [Value.ref _]) _ _ _); k_dflt (refine my_len (by k_asm) (by walk_at "my mem") (by assumption) (by first | lia | omega) ?_))) | (with_reducible refine nxR ?_) | (with_reducible refine nxN ?_) | (with_reducible refine nxB ?_) | (with_reducible refine nxK ?_) | (with_reducible refine exN ?_) | (with_reducible refine exA ?zzhs ?_; (case zzhs => k_dflt (exact (rfl : (pure false : Sem Bool) = pure false))); intro zqk) | (with_reducible refine exI ?_; intro zqk) | (with_reducible refine exR ?_) | (with_reducible refine exG ?_; intro zqk) | (with_reducible refine exC ?_; intro zqk) | ((with_reducible show wpAny _ _ (eval (Expr.Name _ _) _) _ _ _); k_dflt (refine' nmL ?zzF ?zzv (rfl : true = true) ?zzl ?_; (case zzF => k_asm); (case zzl => exact rfl); (case zzv => exact (rfl : some _ = some _)); k_whole)) | ((with_reducible show wpAny _ _ (storeName _ _ _) _ _ _); k_dflt (refine' stX ?zzF ?zzN (rfl : true = true) ?zzl ?_; (case zzF => k_asm); (case zzN => k_asm); (case zzl => exact rfl); k_whole); intro zm1 zh zt zF zN; (try k_sweep)) | (k_unfold; (try dsimp only)) | (k_end; wrow_close) | walk1 | (dsimp only; walk1) | (leave1; (try dsimp only)) | fail "no step"))
  · refine Park.mk ?_
    show let G9 : Prop := _; G9
    intro G9
    obtain ⟨ws, w1, w2, w3, H⟩ := plain_ok name [] [] ps (by first | lia | omega) hD2 hD3 hD4 hD5 (.inl ⟨rfl, rfl⟩)
    k_unfold
    have e1 := row_text w1 w2
    rw [w3] at e1
    rw [e1, show Str.ofString "" = S [] from by decide]
    rename News _ _ _ _ => N5
    have N6 := news_sub (l' := [(130, tabObj #[]), (D2, listOf ys.toArray n2)]) N5 (by (repeat' (first | exact sb0 | exact sbR | refine sbC ?_ ?_ | refine sbA ?_ ?_ | (walk_at "my mem") | refine sbT ?_ | (refine sbL ?_; (repeat (refine sbT ?_)); exact sbR) | refine sbr ?_)))
    clear N5
    rename CodeHd _ _ _ => hcp9
    refine' CStops.use (stops_ok _ (rowOf ws []) name [] ps ws H _ _ _ D2 130 ys n2 hys) ?k1 ?k2 ?k3 N6 ?k5 ?k6 ?k7 hcp9 ?k8 ?kK ?kd ?ku ?kp ?_
    case k1 => k_asm
    case k2 => k_asm
    case k3 => k_asm
    case k5 => k_asm
    case k6 => k_asm
    case k7 => k_asm
    case k8 => intro q hq; rw [List.mem_singleton.mp hq]; exact hD2P
    case kK => exact rfl
    case kd => first | decide | k_room | ktr_room
    case ku => first | decide | ktr_units
    case kp => exact .head _
    intro r ps9 tl9 h9 tk9 F9 N9 hr
    subst hr
    have N10 := news_sub (l' := [(130, tabObj ps9)]) N9 (by
      intro q hq
      rw [List.mem_singleton.mp hq]
      exact List.mem_append.mpr (Or.inr (.head _)))
    clear N6 N9
    (try dsimp only)
    (repeat' (first | ((with_reducible show wpAny _ _ (binaryOp _ (Value.ref _) (Value.ref _)) _ _ _); ((with_reducible show wpAny _ _ (binaryOp _ (Value.ref _) (Value.ref _)) _ _ _); refine Park.out ?_)) | ((with_reducible show wpAny _ _ (call (Value.ref _) _ _) _ _ _); ((with_reducible show wpAny _ _ (call (Value.ref _) _ _) _ _ _); refine Park.out ?_)) | ((with_reducible show wpAny _ _ (call (Value.builtin "len") _ _) _ _ _); (k_here; (with_reducible show wpAny _ _ (call _ [Value.str (S (List.getD _ _ [])) _]) _ _ _); k_dflt (refine len_piece (by assumption) (by first | lia | omega) ?_); intro zlp1 zlp2 zlp3)) | ((with_reducible show wpAny _ _ (subscriptTail (Expr.Name _ _) (Expr.Slice _ _ _ _) (Value.ref _) (Value.ref _)) _ _ _); (k_here; k_dflt (first | refine my_upto (by k_asm) (by k_asm) (by walk_at "my mem") (by first | lia | omega) (by first | lia | omega) ?_ (by with_unfolding_all rfl) (by kmk_pure) | refine my_from (by k_asm) (by k_asm) (by walk_at "my mem") (by first | lia | omega) (by first | lia | omega) ?_ (by with_unfolding_all rfl) (by kmk_pure)); intro zD zh zF zN zl1; (try k_lt zl1); (try k_sweep))) | ((with_reducible show wpAny _ _ (call (Value.builtin "len") _ _) _ _ _); (k_here; (with_reducible show wpAny _ _ (call _ [Value.ref _]) _ _ _); k_dflt (refine my_len (by k_asm) (by walk_at "my mem") (by assumption) (by first | lia | omega) ?_))) | (with_reducible refine nxR ?_) | (with_reducible refine nxN ?_) | (with_reducible refine nxB ?_) | (with_reducible refine nxK ?_) | (with_reducible refine exN ?_) | (with_reducible refine exA ?zzhs ?_; (case zzhs => k_dflt (exact (rfl : (pure false : Sem Bool) = pure false))); intro zqk) | (with_reducible refine exI ?_; intro zqk) | (with_reducible refine exR ?_) | (with_reducible refine exG ?_; intro zqk) | (with_reducible refine exC ?_; intro zqk) | ((with_reducible show wpAny _ _ (eval (Expr.Name _ _) _) _ _ _); k_dflt (refine' nmL ?zzF ?zzv (rfl : true = true) ?zzl ?_; (case zzF => k_asm); (case zzl => exact rfl); (case zzv => exact (rfl : some _ = some _)); k_whole)) | ((with_reducible show wpAny _ _ (storeName _ _ _) _ _ _); k_dflt (refine' stX ?zzF ?zzN (rfl : true = true) ?zzl ?_; (case zzF => k_asm); (case zzN => k_asm); (case zzl => exact rfl); k_whole); intro zm1 zh zt zF zN; (try k_sweep)) | (k_unfold; (try dsimp only)) | (k_end; wrow_close) | walk1 | (dsimp only; walk1) | (leave1; (try dsimp only)) | fail "no step"))
end
end Mine
theorem PySem.Challenge.cw_sc0033_01_holds : PySem.Challenge.rw_sc0033_01.Holds := by
  exact Mine.law_holds
