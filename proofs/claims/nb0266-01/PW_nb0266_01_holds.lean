import PyProof.Rows.All
import Wide.All
import OpenK.AllK
import Wide.FinOn
import PySem.Challenge.RW_nb0266_01
open PySem PySem.W PyProof.Rows
set_option Elab.async false
set_option maxRecDepth 100000
set_option maxHeartbeats 8000000
set_option linter.unusedVariables false
namespace Mine
section
/-- a def's parameters, body, scope, as the row's own term bears them -/
def fp : Stmt → Arguments × List Stmt × Scope
  | .FunctionDef _ a b _ _ _ sc _ _ _ => (a, b, sc)
  | _ => (⟨[], [], none, [], [], none, []⟩, [], ⟨.function, [], false, false, []⟩)
def nth : List Stmt → Nat → Stmt
  | s :: _, 0 => s
  | _ :: r, n + 1 => nth r n
  | [], _ => .Pass ⟨0, 0, 0, 0⟩
def inCls : Stmt → List Stmt
  | .ClassDef _ _ _ b _ _ _ _ _ _ _ => b
  | _ => []
def top (i : Nat) : Arguments × List Stmt × Scope := fp (nth Challenge.pw_nb0266_01.main.body i)
def meth (i : Nat) : Arguments × List Stmt × Scope := fp (nth (inCls (nth Challenge.pw_nb0266_01.main.body 13)) i)
@[reducible] def fo (name qual : Str) (x : Arguments × List Stmt × Scope) (a : Arguments) (b : List Stmt) (c : Scope) (_ : x = (a, b, c)) (dV pm cdv : Value) : Obj :=
  ⟨.type "function", none, .func ⟨name, qual, a, .stmts b, c, 3, [], dV, .none, .none, pm, none, cdv, .none, 0⟩, #[]⟩
noncomputable def kf : Params → Frag := fun P =>
  Prod.mk (nat_lit 3) ({ cls := Value.type "dict", data := Data.dict #[{ hash := PyData.keyHash P (Str.ofString "__name__"), key := Value.str (Str.ofString "__name__") 165, val := Value.str (Str.ofString "law_nb0266_01") 619 }, { hash := PyData.keyHash P (Str.ofString "__doc__"), key := Value.str (Str.ofString "__doc__") 166, val := Value.none }, { hash := PyData.keyHash P (Str.ofString "__package__"), key := Value.str (Str.ofString "__package__") 167, val := Value.none }, { hash := PyData.keyHash P (Str.ofString "__loader__"), key := Value.str (Str.ofString "__loader__") 168, val := Value.builtin "__main__.__loader__#opaque" }, { hash := PyData.keyHash P (Str.ofString "__spec__"), key := Value.str (Str.ofString "__spec__") 169, val := Value.none }, { hash := PyData.keyHash P (Str.ofString "__annotations__"), key := Value.str (Str.ofString "__annotations__") 170, val := Value.ref 6 }, { hash := PyData.keyHash P (Str.ofString "__builtins__"), key := Value.str (Str.ofString "__builtins__") 171, val := Value.ref 4 }, { hash := PyData.keyHash P (Str.ofString "__file__"), key := Value.str (Str.ofString "__file__") 173, val := Value.str (Str.ofString "/claim/cut.py") 172 }, { hash := PyData.keyHash P (Str.ofString "__cached__"), key := Value.str (Str.ofString "__cached__") 174, val := Value.none }, { hash := PyData.keyHash P (Str.ofString "_sre"), key := Value.str (Str.ofString "_sre") 275, val := Value.ref 12 }, { hash := PyData.keyHash P (Str.ofString "IPV4_RE"), key := Value.str (Str.ofString "IPV4_RE") 313, val := Value.ref 36 }, { hash := PyData.keyHash P (Str.ofString "is_HDN"), key := Value.str (Str.ofString "is_HDN") 320, val := Value.ref 43 }, { hash := PyData.keyHash P (Str.ofString "domain_match"), key := Value.str (Str.ofString "domain_match") 329, val := Value.ref 50 }, { hash := PyData.keyHash P (Str.ofString "liberal_is_HDN"), key := Value.str (Str.ofString "liberal_is_HDN") 336, val := Value.ref 57 }, { hash := PyData.keyHash P (Str.ofString "user_domain_match"), key := Value.str (Str.ofString "user_domain_match") 345, val := Value.ref 64 }, { hash := PyData.keyHash P (Str.ofString "reach"), key := Value.str (Str.ofString "reach") 354, val := Value.ref 71 }, { hash := PyData.keyHash P (Str.ofString "tspecials"), key := Value.str (Str.ofString "tspecials") 390, val := Value.ref 76 }, { hash := PyData.keyHash P (Str.ofString "_name_disallowed_re"), key := Value.str (Str.ofString "_name_disallowed_re") 416, val := Value.ref 81 }, { hash := PyData.keyHash P (Str.ofString "_value_disallowed_re"), key := Value.str (Str.ofString "_value_disallowed_re") 450, val := Value.ref 86 }, { hash := PyData.keyHash P (Str.ofString "_formatparam"), key := Value.str (Str.ofString "_formatparam") 460, val := Value.ref 94 }, { hash := PyData.keyHash P (Str.ofString "Headers"), key := Value.str (Str.ofString "Headers") 618, val := Value.ref 215 }, { hash := PyData.keyHash P (Str.ofString "_law_labels"), key := Value.str (Str.ofString "_law_labels") 626, val := Value.ref 224 }, { hash := PyData.keyHash P (Str.ofString "_law_host"), key := Value.str (Str.ofString "_law_host") 633, val := Value.ref 231 }, { hash := PyData.keyHash P (Str.ofString "_law_rule"), key := Value.str (Str.ofString "_law_rule") 642, val := Value.ref 238 }, { hash := PyData.keyHash P (Str.ofString "_law_tables"), key := Value.str (Str.ofString "_law_tables") 654, val := Value.ref 245 }, { hash := PyData.keyHash P (Str.ofString "_law_kept"), key := Value.str (Str.ofString "_law_kept") 660, val := Value.ref 250 }, { hash := PyData.keyHash P (Str.ofString "_law_way"), key := Value.str (Str.ofString "_law_way") 670, val := Value.ref 257 }, { hash := PyData.keyHash P (Str.ofString "_law_found"), key := Value.str (Str.ofString "_law_found") 676, val := Value.ref 262 }, { hash := PyData.keyHash P (Str.ofString "_law_closest"), key := Value.str (Str.ofString "_law_closest") 689, val := Value.ref 269 }, { hash := PyData.keyHash P (Str.ofString "_law_host_right"), key := Value.str (Str.ofString "_law_host_right") 700, val := Value.ref 276 }, { hash := PyData.keyHash P (Str.ofString "_law_numbers"), key := Value.str (Str.ofString "_law_numbers") 706, val := Value.ref 281 }, { hash := PyData.keyHash P (Str.ofString "law"), key := Value.str (Str.ofString "law") 712, val := Value.ref 286 }] 32 } : Obj) ::
  Prod.mk (nat_lit 35) ({ cls := Value.type "tuple", data := Data.seq #[Value.int 14 0, Value.int 8 0, Value.int 1 0, Value.int 2 0, Value.int 4294967295 0, Value.int 1 0, Value.int 1 0, Value.int 46 0, Value.int 0 0, Value.int 16 0, Value.int 46 0, Value.int 24 0, Value.int 9 0, Value.int 1 0, Value.int 4294967295 0, Value.int 13 0, Value.int 4 0, Value.int 8 0, Value.int 0 0, Value.int 0 0, Value.int 1 0, Value.int 6 0, Value.int 5 0, Value.int 1 0] } : Obj) ::
  Prod.mk (nat_lit 36) ({ cls := Value.type "re.Pattern", data := Data.fields #[Value.str (Str.ofString "\\.\\d+$") 285, Value.int 256 312, Value.int 0 0, Value.none, Value.none, Value.ref 35, Value.int 0 0] } : Obj) ::
  Prod.mk (nat_lit 42) ({ cls := Value.type "code", data := Data.fields #[Value.str (Str.ofString "is_HDN") 314, Value.str (Str.ofString "is_HDN") 315, Value.str (Str.ofString "/claim/cut.py") 316, Value.int 4 0, Value.int 1 0, Value.int 0 0, Value.int 0 0, Value.int 3 0, Value.ref 37, Value.bool true, Value.int 276 0, Value.ref 38, Value.none, Value.ref 39, Value.ref 40, Value.ref 41, Value.int 318 0, Value.int 4 0, Value.str (Str.ofString "/claim/cut.py") 319] } : Obj) ::
  Prod.mk (nat_lit 43) (fo (Str.ofString "is_HDN") (Str.ofString "is_HDN") (top 3) _ _ _ rfl (Value.none) (Value.str (Str.ofString "cpy313.http.cookiejar") 282) (Value.ref 42) : Obj) ::
  Prod.mk (nat_lit 49) ({ cls := Value.type "code", data := Data.fields #[Value.str (Str.ofString "domain_match") 321, Value.str (Str.ofString "domain_match") 322, Value.str (Str.ofString "/claim/cut.py") 323, Value.int 12 0, Value.int 2 0, Value.int 0 0, Value.int 0 0, Value.int 3 0, Value.ref 44, Value.bool true, Value.int 276 0, Value.ref 45, Value.none, Value.ref 46, Value.ref 47, Value.ref 48, Value.int 327 0, Value.int 12 0, Value.str (Str.ofString "/claim/cut.py") 328] } : Obj) ::
  Prod.mk (nat_lit 50) (fo (Str.ofString "domain_match") (Str.ofString "domain_match") (top 4) _ _ _ rfl (Value.none) (Value.str (Str.ofString "cpy313.http.cookiejar") 282) (Value.ref 49) : Obj) ::
  Prod.mk (nat_lit 56) ({ cls := Value.type "code", data := Data.fields #[Value.str (Str.ofString "liberal_is_HDN") 330, Value.str (Str.ofString "liberal_is_HDN") 331, Value.str (Str.ofString "/claim/cut.py") 332, Value.int 27 0, Value.int 1 0, Value.int 0 0, Value.int 0 0, Value.int 3 0, Value.ref 51, Value.bool true, Value.int 276 0, Value.ref 52, Value.none, Value.ref 53, Value.ref 54, Value.ref 55, Value.int 334 0, Value.int 27 0, Value.str (Str.ofString "/claim/cut.py") 335] } : Obj) ::
  Prod.mk (nat_lit 57) (fo (Str.ofString "liberal_is_HDN") (Str.ofString "liberal_is_HDN") (top 5) _ _ _ rfl (Value.none) (Value.str (Str.ofString "cpy313.http.cookiejar") 282) (Value.ref 56) : Obj) ::
  Prod.mk (nat_lit 63) ({ cls := Value.type "code", data := Data.fields #[Value.str (Str.ofString "user_domain_match") 337, Value.str (Str.ofString "user_domain_match") 338, Value.str (Str.ofString "/claim/cut.py") 339, Value.int 31 0, Value.int 2 0, Value.int 0 0, Value.int 0 0, Value.int 3 0, Value.ref 58, Value.bool true, Value.int 276 0, Value.ref 59, Value.none, Value.ref 60, Value.ref 61, Value.ref 62, Value.int 343 0, Value.int 31 0, Value.str (Str.ofString "/claim/cut.py") 344] } : Obj) ::
  Prod.mk (nat_lit 64) (fo (Str.ofString "user_domain_match") (Str.ofString "user_domain_match") (top 6) _ _ _ rfl (Value.none) (Value.str (Str.ofString "cpy313.http.cookiejar") 282) (Value.ref 63) : Obj) ::
  Prod.mk (nat_lit 70) ({ cls := Value.type "code", data := Data.fields #[Value.str (Str.ofString "reach") 346, Value.str (Str.ofString "reach") 347, Value.str (Str.ofString "/claim/cut.py") 348, Value.int 44 0, Value.int 1 0, Value.int 0 0, Value.int 0 0, Value.int 3 0, Value.ref 65, Value.bool true, Value.int 276 0, Value.ref 66, Value.none, Value.ref 67, Value.ref 68, Value.ref 69, Value.int 352 0, Value.int 44 0, Value.str (Str.ofString "/claim/cut.py") 353] } : Obj) ::
  Prod.mk (nat_lit 71) (fo (Str.ofString "reach") (Str.ofString "reach") (top 7) _ _ _ rfl (Value.none) (Value.str (Str.ofString "cpy313.http.cookiejar") 282) (Value.ref 70) : Obj) ::
  Prod.mk (nat_lit 80) ({ cls := Value.type "tuple", data := Data.seq #[Value.int 14 0, Value.int 10 0, Value.int 4 0, Value.int 1 0, Value.int 1 0, Value.int 22 0, Value.int 0 0, Value.int 31 0, Value.int 16 0, Value.int 127 0, Value.int 0 0, Value.int 13 0, Value.int 7 0, Value.int 22 0, Value.int 0 0, Value.int 31 0, Value.int 16 0, Value.int 127 0, Value.int 0 0, Value.int 1 0] } : Obj) ::
  Prod.mk (nat_lit 81) ({ cls := Value.type "re.Pattern", data := Data.fields #[Value.str (Str.ofString "[\\x00-\\x1F\\x7F]") 392, Value.int 32 415, Value.int 0 0, Value.none, Value.none, Value.ref 80, Value.int 0 0] } : Obj) ::
  Prod.mk (nat_lit 85) ({ cls := Value.type "tuple", data := Data.seq #[Value.int 14 0, Value.int 14 0, Value.int 4 0, Value.int 1 0, Value.int 1 0, Value.int 9 0, Value.int 4294966783 0, Value.int 0 0, Value.int 0 0, Value.int 2147483648 0, Value.int 0 0, Value.int 0 0, Value.int 0 0, Value.int 0 0, Value.int 0 0, Value.int 13 0, Value.int 11 0, Value.int 9 0, Value.int 4294966783 0, Value.int 0 0, Value.int 0 0, Value.int 2147483648 0, Value.int 0 0, Value.int 0 0, Value.int 0 0, Value.int 0 0, Value.int 0 0, Value.int 1 0] } : Obj) ::
  Prod.mk (nat_lit 86) ({ cls := Value.type "re.Pattern", data := Data.fields #[Value.str (Str.ofString "[\\x00-\\x08\\x0A-\\x1F\\x7F]") 418, Value.int 32 449, Value.int 0 0, Value.none, Value.none, Value.ref 85, Value.int 0 0] } : Obj) ::
  Prod.mk (nat_lit 102) ({ cls := Value.type "tuple", data := Data.seq #[Value.none] } : Obj) ::
  Prod.mk (nat_lit 108) ({ cls := Value.type "code", data := Data.fields #[Value.str (Str.ofString "__init__") 473, Value.str (Str.ofString "Headers.__init__") 474, Value.str (Str.ofString "/claim/cut.py") 475, Value.int 67 0, Value.int 2 0, Value.int 0 0, Value.int 0 0, Value.int 3 0, Value.ref 103, Value.bool true, Value.int 276 0, Value.ref 104, Value.none, Value.ref 105, Value.ref 106, Value.ref 107, Value.int 480 0, Value.int 67 0, Value.str (Str.ofString "/claim/cut.py") 481] } : Obj) ::
  Prod.mk (nat_lit 109) (fo (Str.ofString "__init__") (Str.ofString "Headers.__init__") (meth 0) _ _ _ rfl (Value.ref 102) (Value.str (Str.ofString "cpy313.wsgiref.headers") 355) (Value.ref 108) : Obj) ::
  Prod.mk (nat_lit 115) ({ cls := Value.type "code", data := Data.fields #[Value.str (Str.ofString "_convert_string_type") 483, Value.str (Str.ofString "Headers._convert_string_type") 484, Value.str (Str.ofString "/claim/cut.py") 485, Value.int 77 0, Value.int 2 0, Value.int 0 0, Value.int 1 0, Value.int 3 0, Value.ref 110, Value.bool true, Value.int 276 0, Value.ref 111, Value.none, Value.ref 112, Value.ref 113, Value.ref 114, Value.int 490 0, Value.int 77 0, Value.str (Str.ofString "/claim/cut.py") 491] } : Obj) ::
  Prod.mk (nat_lit 116) (fo (Str.ofString "_convert_string_type") (Str.ofString "Headers._convert_string_type") (meth 1) _ _ _ rfl (Value.none) (Value.str (Str.ofString "cpy313.wsgiref.headers") 355) (Value.ref 115) : Obj) ::
  Prod.mk (nat_lit 129) ({ cls := Value.type "code", data := Data.fields #[Value.str (Str.ofString "__setitem__") 500, Value.str (Str.ofString "Headers.__setitem__") 501, Value.str (Str.ofString "/claim/cut.py") 502, Value.int 88 0, Value.int 3 0, Value.int 0 0, Value.int 0 0, Value.int 3 0, Value.ref 124, Value.bool true, Value.int 276 0, Value.ref 125, Value.none, Value.ref 126, Value.ref 127, Value.ref 128, Value.int 506 0, Value.int 88 0, Value.str (Str.ofString "/claim/cut.py") 507] } : Obj) ::
  Prod.mk (nat_lit 130) (fo (Str.ofString "__setitem__") (Str.ofString "Headers.__setitem__") (meth 3) _ _ _ rfl (Value.none) (Value.str (Str.ofString "cpy313.wsgiref.headers") 355) (Value.ref 129) : Obj) ::
  Prod.mk (nat_lit 134) ({ cls := Value.type "code", data := Data.fields #[Value.str (Str.ofString "__delitem__") 509, Value.str (Str.ofString "Headers.__delitem__") 510, Value.str (Str.ofString "/claim/cut.py") 511, Value.int 92 0, Value.int 2 0, Value.int 0 0, Value.int 0 0, Value.int 3 0, Value.ref 131, Value.bool true, Value.int 276 0, Value.ref 132, Value.none, Value.none, Value.none, Value.ref 133, Value.int 512 0, Value.int 92 0, Value.str (Str.ofString "/claim/cut.py") 513] } : Obj) ::
  Prod.mk (nat_lit 135) (fo (Str.ofString "__delitem__") (Str.ofString "Headers.__delitem__") (meth 4) _ _ _ rfl (Value.none) (Value.str (Str.ofString "cpy313.wsgiref.headers") 355) (Value.ref 134) : Obj) ::
  Prod.mk (nat_lit 141) ({ cls := Value.type "code", data := Data.fields #[Value.str (Str.ofString "__getitem__") 515, Value.str (Str.ofString "Headers.__getitem__") 516, Value.str (Str.ofString "/claim/cut.py") 517, Value.int 96 0, Value.int 2 0, Value.int 0 0, Value.int 0 0, Value.int 3 0, Value.ref 136, Value.bool true, Value.int 276 0, Value.ref 137, Value.none, Value.ref 138, Value.ref 139, Value.ref 140, Value.int 520 0, Value.int 96 0, Value.str (Str.ofString "/claim/cut.py") 521] } : Obj) ::
  Prod.mk (nat_lit 142) (fo (Str.ofString "__getitem__") (Str.ofString "Headers.__getitem__") (meth 5) _ _ _ rfl (Value.none) (Value.str (Str.ofString "cpy313.wsgiref.headers") 355) (Value.ref 141) : Obj) ::
  Prod.mk (nat_lit 148) ({ cls := Value.type "code", data := Data.fields #[Value.str (Str.ofString "__contains__") 523, Value.str (Str.ofString "Headers.__contains__") 524, Value.str (Str.ofString "/claim/cut.py") 525, Value.int 99 0, Value.int 2 0, Value.int 0 0, Value.int 0 0, Value.int 3 0, Value.ref 143, Value.bool true, Value.int 276 0, Value.ref 144, Value.none, Value.ref 145, Value.ref 146, Value.ref 147, Value.int 528 0, Value.int 99 0, Value.str (Str.ofString "/claim/cut.py") 529] } : Obj) ::
  Prod.mk (nat_lit 149) (fo (Str.ofString "__contains__") (Str.ofString "Headers.__contains__") (meth 6) _ _ _ rfl (Value.none) (Value.str (Str.ofString "cpy313.wsgiref.headers") 355) (Value.ref 148) : Obj) ::
  Prod.mk (nat_lit 153) ({ cls := Value.type "code", data := Data.fields #[Value.str (Str.ofString "get_all") 531, Value.str (Str.ofString "Headers.get_all") 532, Value.str (Str.ofString "/claim/cut.py") 533, Value.int 102 0, Value.int 2 0, Value.int 0 0, Value.int 0 0, Value.int 3 0, Value.ref 150, Value.bool true, Value.int 276 0, Value.ref 151, Value.none, Value.none, Value.none, Value.ref 152, Value.int 534 0, Value.int 102 0, Value.str (Str.ofString "/claim/cut.py") 535] } : Obj) ::
  Prod.mk (nat_lit 154) (fo (Str.ofString "get_all") (Str.ofString "Headers.get_all") (meth 7) _ _ _ rfl (Value.none) (Value.str (Str.ofString "cpy313.wsgiref.headers") 355) (Value.ref 153) : Obj) ::
  Prod.mk (nat_lit 155) ({ cls := Value.type "tuple", data := Data.seq #[Value.none] } : Obj) ::
  Prod.mk (nat_lit 161) ({ cls := Value.type "code", data := Data.fields #[Value.str (Str.ofString "get") 537, Value.str (Str.ofString "Headers.get") 538, Value.str (Str.ofString "/claim/cut.py") 539, Value.int 106 0, Value.int 3 0, Value.int 0 0, Value.int 0 0, Value.int 3 0, Value.ref 156, Value.bool true, Value.int 276 0, Value.ref 157, Value.none, Value.ref 158, Value.ref 159, Value.ref 160, Value.int 545 0, Value.int 106 0, Value.str (Str.ofString "/claim/cut.py") 546] } : Obj) ::
  Prod.mk (nat_lit 162) (fo (Str.ofString "get") (Str.ofString "Headers.get") (meth 8) _ _ _ rfl (Value.ref 155) (Value.str (Str.ofString "cpy313.wsgiref.headers") 355) (Value.ref 161) : Obj) ::
  Prod.mk (nat_lit 178) ({ cls := Value.type "code", data := Data.fields #[Value.str (Str.ofString "items") 560, Value.str (Str.ofString "Headers.items") 561, Value.str (Str.ofString "/claim/cut.py") 562, Value.int 119 0, Value.int 1 0, Value.int 0 0, Value.int 0 0, Value.int 3 0, Value.ref 173, Value.bool true, Value.int 276 0, Value.ref 174, Value.none, Value.ref 175, Value.ref 176, Value.ref 177, Value.int 564 0, Value.int 119 0, Value.str (Str.ofString "/claim/cut.py") 565] } : Obj) ::
  Prod.mk (nat_lit 179) (fo (Str.ofString "items") (Str.ofString "Headers.items") (meth 11) _ _ _ rfl (Value.none) (Value.str (Str.ofString "cpy313.wsgiref.headers") 355) (Value.ref 178) : Obj) ::
  Prod.mk (nat_lit 204) ({ cls := Value.type "code", data := Data.fields #[Value.str (Str.ofString "setdefault") 587, Value.str (Str.ofString "Headers.setdefault") 588, Value.str (Str.ofString "/claim/cut.py") 589, Value.int 131 0, Value.int 3 0, Value.int 0 0, Value.int 0 0, Value.int 3 0, Value.ref 199, Value.bool true, Value.int 276 0, Value.ref 200, Value.none, Value.ref 201, Value.ref 202, Value.ref 203, Value.int 594 0, Value.int 131 0, Value.str (Str.ofString "/claim/cut.py") 595] } : Obj) ::
  Prod.mk (nat_lit 205) (fo (Str.ofString "setdefault") (Str.ofString "Headers.setdefault") (meth 15) _ _ _ rfl (Value.none) (Value.str (Str.ofString "cpy313.wsgiref.headers") 355) (Value.ref 204) : Obj) ::
  Prod.mk (nat_lit 211) ({ cls := Value.type "code", data := Data.fields #[Value.str (Str.ofString "add_header") 597, Value.str (Str.ofString "Headers.add_header") 598, Value.str (Str.ofString "/claim/cut.py") 599, Value.int 139 0, Value.int 3 0, Value.int 0 0, Value.int 0 0, Value.int 11 0, Value.ref 206, Value.bool true, Value.int 276 0, Value.ref 207, Value.none, Value.ref 208, Value.ref 209, Value.ref 210, Value.int 607 0, Value.int 139 0, Value.str (Str.ofString "/claim/cut.py") 608] } : Obj) ::
  Prod.mk (nat_lit 212) (fo (Str.ofString "add_header") (Str.ofString "Headers.add_header") (meth 16) _ _ _ rfl (Value.none) (Value.str (Str.ofString "cpy313.wsgiref.headers") 355) (Value.ref 211) : Obj) ::
  Prod.mk (nat_lit 214) ({ cls := Value.type "dict", data := Data.dict #[{ hash := PyData.keyHash P (Str.ofString "__module__"), key := Value.str (Str.ofString "__module__") 468, val := Value.str (Str.ofString "cpy313.wsgiref.headers") 355 }, { hash := PyData.keyHash P (Str.ofString "__firstlineno__"), key := Value.str (Str.ofString "__firstlineno__") 472, val := Value.int 65 471 }, { hash := PyData.keyHash P (Str.ofString "__init__"), key := Value.str (Str.ofString "__init__") 482, val := Value.ref 109 }, { hash := PyData.keyHash P (Str.ofString "_convert_string_type"), key := Value.str (Str.ofString "_convert_string_type") 492, val := Value.ref 116 }, { hash := PyData.keyHash P (Str.ofString "__len__"), key := Value.str (Str.ofString "__len__") 499, val := Value.ref 123 }, { hash := PyData.keyHash P (Str.ofString "__setitem__"), key := Value.str (Str.ofString "__setitem__") 508, val := Value.ref 130 }, { hash := PyData.keyHash P (Str.ofString "__delitem__"), key := Value.str (Str.ofString "__delitem__") 514, val := Value.ref 135 }, { hash := PyData.keyHash P (Str.ofString "__getitem__"), key := Value.str (Str.ofString "__getitem__") 522, val := Value.ref 142 }, { hash := PyData.keyHash P (Str.ofString "__contains__"), key := Value.str (Str.ofString "__contains__") 530, val := Value.ref 149 }, { hash := PyData.keyHash P (Str.ofString "get_all"), key := Value.str (Str.ofString "get_all") 536, val := Value.ref 154 }, { hash := PyData.keyHash P (Str.ofString "get"), key := Value.str (Str.ofString "get") 547, val := Value.ref 162 }, { hash := PyData.keyHash P (Str.ofString "keys"), key := Value.str (Str.ofString "keys") 553, val := Value.ref 167 }, { hash := PyData.keyHash P (Str.ofString "values"), key := Value.str (Str.ofString "values") 559, val := Value.ref 172 }, { hash := PyData.keyHash P (Str.ofString "items"), key := Value.str (Str.ofString "items") 566, val := Value.ref 179 }, { hash := PyData.keyHash P (Str.ofString "__repr__"), key := Value.str (Str.ofString "__repr__") 573, val := Value.ref 186 }, { hash := PyData.keyHash P (Str.ofString "__str__"), key := Value.str (Str.ofString "__str__") 579, val := Value.ref 191 }, { hash := PyData.keyHash P (Str.ofString "__bytes__"), key := Value.str (Str.ofString "__bytes__") 586, val := Value.ref 198 }, { hash := PyData.keyHash P (Str.ofString "setdefault"), key := Value.str (Str.ofString "setdefault") 596, val := Value.ref 205 }, { hash := PyData.keyHash P (Str.ofString "add_header"), key := Value.str (Str.ofString "add_header") 609, val := Value.ref 212 }, { hash := PyData.keyHash P (Str.ofString "__static_attributes__"), key := Value.str (Str.ofString "__static_attributes__") 611, val := Value.ref 213 }, { hash := PyData.keyHash P (Str.ofString "__dict__"), key := Value.str (Str.ofString "__dict__") 613, val := Value.ref 216 }, { hash := PyData.keyHash P (Str.ofString "__weakref__"), key := Value.str (Str.ofString "__weakref__") 615, val := Value.ref 217 }, { hash := PyData.keyHash P (Str.ofString "__doc__"), key := Value.str (Str.ofString "__doc__") 616, val := Value.none }] 4 } : Obj) ::
  Prod.mk (nat_lit 215) ({ cls := Value.type "type", data := Data.cls { name := Str.ofString "Headers", bases := [Value.type "object"], mro := [Value.ref 215, Value.type "object"], ns := 214, qualname := Str.ofString "Headers" }, slots := #[none, none, some (Value.str (Str.ofString "Headers") 461), some (Value.str (Str.ofString "Headers") 469), some (Value.builtin "object.__new__"), some (Value.bool true)] } : Obj) ::
  Prod.mk (nat_lit 216) ({ cls := Value.type "getset_descriptor", data := Data.fields #[Value.str (Str.ofString "__dict__") 612, Value.ref 215, Value.builtin "function.__dict__", Value.builtin "function.__dict__#set"] } : Obj) ::
  Prod.mk (nat_lit 217) ({ cls := Value.type "getset_descriptor", data := Data.fields #[Value.str (Str.ofString "__weakref__") 614, Value.ref 215, Value.builtin "ExceptionGroup.__weakref__", Value.none] } : Obj) ::
  Prod.mk (nat_lit 223) ({ cls := Value.type "code", data := Data.fields #[Value.str (Str.ofString "_law_labels") 621, Value.str (Str.ofString "_law_labels") 622, Value.str (Str.ofString "/claim/cut.py") 623, Value.int 153 0, Value.int 1 0, Value.int 0 0, Value.int 0 0, Value.int 3 0, Value.ref 220, Value.bool true, Value.int 276 0, Value.ref 221, Value.none, Value.none, Value.none, Value.ref 222, Value.int 624 0, Value.int 153 0, Value.str (Str.ofString "/claim/cut.py") 625] } : Obj) ::
  Prod.mk (nat_lit 224) (fo (Str.ofString "_law_labels") (Str.ofString "_law_labels") (top 15) _ _ _ rfl (Value.none) (Value.str (Str.ofString "law_nb0266_01") 619) (Value.ref 223) : Obj) ::
  Prod.mk (nat_lit 230) ({ cls := Value.type "code", data := Data.fields #[Value.str (Str.ofString "_law_host") 627, Value.str (Str.ofString "_law_host") 628, Value.str (Str.ofString "/claim/cut.py") 629, Value.int 156 0, Value.int 1 0, Value.int 0 0, Value.int 0 0, Value.int 3 0, Value.ref 225, Value.bool true, Value.int 276 0, Value.ref 226, Value.none, Value.ref 227, Value.ref 228, Value.ref 229, Value.int 631 0, Value.int 156 0, Value.str (Str.ofString "/claim/cut.py") 632] } : Obj) ::
  Prod.mk (nat_lit 231) (fo (Str.ofString "_law_host") (Str.ofString "_law_host") (top 16) _ _ _ rfl (Value.none) (Value.str (Str.ofString "law_nb0266_01") 619) (Value.ref 230) : Obj) ::
  Prod.mk (nat_lit 237) ({ cls := Value.type "code", data := Data.fields #[Value.str (Str.ofString "_law_rule") 634, Value.str (Str.ofString "_law_rule") 635, Value.str (Str.ofString "/claim/cut.py") 636, Value.int 158 0, Value.int 1 0, Value.int 0 0, Value.int 0 0, Value.int 3 0, Value.ref 232, Value.bool true, Value.int 276 0, Value.ref 233, Value.none, Value.ref 234, Value.ref 235, Value.ref 236, Value.int 640 0, Value.int 158 0, Value.str (Str.ofString "/claim/cut.py") 641] } : Obj) ::
  Prod.mk (nat_lit 238) (fo (Str.ofString "_law_rule") (Str.ofString "_law_rule") (top 17) _ _ _ rfl (Value.none) (Value.str (Str.ofString "law_nb0266_01") 619) (Value.ref 237) : Obj) ::
  Prod.mk (nat_lit 244) ({ cls := Value.type "code", data := Data.fields #[Value.str (Str.ofString "_law_tables") 643, Value.str (Str.ofString "_law_tables") 644, Value.str (Str.ofString "/claim/cut.py") 645, Value.int 166 0, Value.int 1 0, Value.int 0 0, Value.int 0 0, Value.int 3 0, Value.ref 239, Value.bool true, Value.int 276 0, Value.ref 240, Value.none, Value.ref 241, Value.ref 242, Value.ref 243, Value.int 652 0, Value.int 166 0, Value.str (Str.ofString "/claim/cut.py") 653] } : Obj) ::
  Prod.mk (nat_lit 245) (fo (Str.ofString "_law_tables") (Str.ofString "_law_tables") (top 18) _ _ _ rfl (Value.none) (Value.str (Str.ofString "law_nb0266_01") 619) (Value.ref 244) : Obj) ::
  Prod.mk (nat_lit 249) ({ cls := Value.type "code", data := Data.fields #[Value.str (Str.ofString "_law_kept") 655, Value.str (Str.ofString "_law_kept") 656, Value.str (Str.ofString "/claim/cut.py") 657, Value.int 175 0, Value.int 2 0, Value.int 0 0, Value.int 0 0, Value.int 3 0, Value.ref 246, Value.bool true, Value.int 276 0, Value.ref 247, Value.none, Value.none, Value.none, Value.ref 248, Value.int 658 0, Value.int 175 0, Value.str (Str.ofString "/claim/cut.py") 659] } : Obj) ::
  Prod.mk (nat_lit 250) (fo (Str.ofString "_law_kept") (Str.ofString "_law_kept") (top 19) _ _ _ rfl (Value.none) (Value.str (Str.ofString "law_nb0266_01") 619) (Value.ref 249) : Obj) ::
  Prod.mk (nat_lit 256) ({ cls := Value.type "code", data := Data.fields #[Value.str (Str.ofString "_law_way") 661, Value.str (Str.ofString "_law_way") 662, Value.str (Str.ofString "/claim/cut.py") 663, Value.int 182 0, Value.int 1 0, Value.int 0 0, Value.int 0 0, Value.int 3 0, Value.ref 251, Value.bool true, Value.int 276 0, Value.ref 252, Value.none, Value.ref 253, Value.ref 254, Value.ref 255, Value.int 668 0, Value.int 182 0, Value.str (Str.ofString "/claim/cut.py") 669] } : Obj) ::
  Prod.mk (nat_lit 257) (fo (Str.ofString "_law_way") (Str.ofString "_law_way") (top 20) _ _ _ rfl (Value.none) (Value.str (Str.ofString "law_nb0266_01") 619) (Value.ref 256) : Obj) ::
  Prod.mk (nat_lit 261) ({ cls := Value.type "code", data := Data.fields #[Value.str (Str.ofString "_law_found") 671, Value.str (Str.ofString "_law_found") 672, Value.str (Str.ofString "/claim/cut.py") 673, Value.int 192 0, Value.int 2 0, Value.int 0 0, Value.int 0 0, Value.int 3 0, Value.ref 258, Value.bool true, Value.int 276 0, Value.ref 259, Value.none, Value.none, Value.none, Value.ref 260, Value.int 674 0, Value.int 192 0, Value.str (Str.ofString "/claim/cut.py") 675] } : Obj) ::
  Prod.mk (nat_lit 262) (fo (Str.ofString "_law_found") (Str.ofString "_law_found") (top 21) _ _ _ rfl (Value.none) (Value.str (Str.ofString "law_nb0266_01") 619) (Value.ref 261) : Obj) ::
  Prod.mk (nat_lit 268) ({ cls := Value.type "code", data := Data.fields #[Value.str (Str.ofString "_law_closest") 677, Value.str (Str.ofString "_law_closest") 678, Value.str (Str.ofString "/claim/cut.py") 679, Value.int 201 0, Value.int 2 0, Value.int 0 0, Value.int 0 0, Value.int 3 0, Value.ref 263, Value.bool true, Value.int 276 0, Value.ref 264, Value.none, Value.ref 265, Value.ref 266, Value.ref 267, Value.int 687 0, Value.int 201 0, Value.str (Str.ofString "/claim/cut.py") 688] } : Obj) ::
  Prod.mk (nat_lit 269) (fo (Str.ofString "_law_closest") (Str.ofString "_law_closest") (top 22) _ _ _ rfl (Value.none) (Value.str (Str.ofString "law_nb0266_01") 619) (Value.ref 268) : Obj) ::
  Prod.mk (nat_lit 275) ({ cls := Value.type "code", data := Data.fields #[Value.str (Str.ofString "_law_host_right") 690, Value.str (Str.ofString "_law_host_right") 691, Value.str (Str.ofString "/claim/cut.py") 692, Value.int 215 0, Value.int 3 0, Value.int 0 0, Value.int 0 0, Value.int 3 0, Value.ref 270, Value.bool true, Value.int 276 0, Value.ref 271, Value.none, Value.ref 272, Value.ref 273, Value.ref 274, Value.int 698 0, Value.int 215 0, Value.str (Str.ofString "/claim/cut.py") 699] } : Obj) ::
  Prod.mk (nat_lit 276) (fo (Str.ofString "_law_host_right") (Str.ofString "_law_host_right") (top 23) _ _ _ rfl (Value.none) (Value.str (Str.ofString "law_nb0266_01") 619) (Value.ref 275) : Obj) ::
  Prod.mk (nat_lit 280) ({ cls := Value.type "code", data := Data.fields #[Value.str (Str.ofString "_law_numbers") 701, Value.str (Str.ofString "_law_numbers") 702, Value.str (Str.ofString "/claim/cut.py") 703, Value.int 221 0, Value.int 1 0, Value.int 0 0, Value.int 0 0, Value.int 3 0, Value.ref 277, Value.bool true, Value.int 276 0, Value.ref 278, Value.none, Value.none, Value.none, Value.ref 279, Value.int 704 0, Value.int 221 0, Value.str (Str.ofString "/claim/cut.py") 705] } : Obj) ::
  Prod.mk (nat_lit 281) (fo (Str.ofString "_law_numbers") (Str.ofString "_law_numbers") (top 24) _ _ _ rfl (Value.none) (Value.str (Str.ofString "law_nb0266_01") 619) (Value.ref 280) : Obj) ::
  Prod.mk (nat_lit 285) ({ cls := Value.type "code", data := Data.fields #[Value.str (Str.ofString "law") 707, Value.str (Str.ofString "law") 708, Value.str (Str.ofString "/claim/cut.py") 709, Value.int 225 0, Value.int 1 0, Value.int 0 0, Value.int 0 0, Value.int 3 0, Value.ref 282, Value.bool true, Value.int 276 0, Value.ref 283, Value.none, Value.none, Value.none, Value.ref 284, Value.int 710 0, Value.int 225 0, Value.str (Str.ofString "/claim/cut.py") 711] } : Obj) ::
  Prod.mk (nat_lit 286) (fo (Str.ofString "law") (Str.ofString "law") (top 25) _ _ _ rfl (Value.none) (Value.str (Str.ofString "law_nb0266_01") 619) (Value.ref 285) : Obj)
  :: []
def kas : List Addr := [3, 35, 36, 42, 43, 49, 50, 56, 57, 63, 64, 70, 71, 80, 81, 85, 86, 102, 108, 109, 115, 116, 129, 130, 134, 135, 141, 142, 148, 149, 153, 154, 155, 161, 162, 178, 179, 204, 205, 211, 212, 214, 215, 216, 217, 223, 224, 230, 231, 237, 238, 244, 245, 249, 250, 256, 257, 261, 262, 268, 269, 275, 276, 280, 281, 285, 286]
/-- the law's view of the text: its names' assignments and one def of no weight left out -/
def keepAt : Nat → List Stmt → List Stmt
  | _, [] => []
  | i, s :: r => if i == 1 || i == 8 || i == 12 || i == 14 then keepAt (i + 1) r else s :: keepAt (i + 1) r
noncomputable def vw : Program := { Challenge.pw_nb0266_01 with main := { Challenge.pw_nb0266_01.main with body := keepAt 0 Challenge.pw_nb0266_01.main.body } }
noncomputable abbrev lo5 : List Str := [Str.ofString "IPV4_RE", Str.ofString "tspecials", Str.ofString "_name_disallowed_re", Str.ofString "_value_disallowed_re", Str.ofString "_formatparam"]
theorem kf_as : ∀ P, kas = (kf P).map (·.1) := fun _ => by kernel_rfl
noncomputable abbrev hk : Hook := kHook kf kas kf_as
noncomputable abbrev rw0 : RowW := Challenge.rw_nb0266_01.row.toRowW
/-- topRun over a tree in the heap's place, by a step and a look of one's own -/
def runTr (st : SharedT → Thread → Option (SharedT × Thread)) (ok : Thread → Bool) : Nat → SharedT → Thread → Option SharedT
  | 0, _, _ => none
  | n + 1, s, t => match through t with
    | true => some s
    | false => match ok t with
      | false => none
      | true => match st s t with
        | some x => runTr st ok n x.1 x.2
        | none => none
theorem runTr_of {tb : String → Option Builtin} {p : Program} {w : World} {n₀ : Nat} {ann : Option Value} : ∀ (n : Nat) (s r : SharedT) (t : Thread), runTr (stepT (denote tb) p w) (stepOk n₀ ann) n s t = some r → topRun tb p w n₀ ann n s.abs t = some r.abs := by
  intro n
  induction n with
  | zero => intro s r t h; simp [runTr] at h
  | succ n ih =>
    intro s r t h
    rw [runTr] at h
    rw [topRun]
    split at h
    · rename_i e; rw [e]; cases h; rfl
    · rename_i e; rw [e]
      split at h
      · cases h
      · rename_i e2; rw [e2]
        split at h
        · rename_i x e3; obtain ⟨s2, t2⟩ := x; rw [stepT_spec e3]; exact ih _ _ _ h
        · cases h
/-- importEnds over a tree -/
def endsTr (st : SharedT → Thread → Option (SharedT × Thread)) : Nat → SharedT → Thread → Option SharedT
  | 0, _, _ => none
  | n + 1, s, t => match t.atExitBegin with
    | some [] => some s
    | some (_ :: _) => none
    | none => match st s t with
      | some x => endsTr st n x.1 x.2
      | none => none
theorem endsTr_of {tb : String → Option Builtin} {p : Program} {w : World} : ∀ (n : Nat) (s r : SharedT) (t : Thread), endsTr (stepT (denote tb) p w) n s t = some r → importEnds tb p w n s.abs t = some r.abs := by
  intro n
  induction n with
  | zero => intro s r t h; simp [endsTr] at h
  | succ n ih =>
    intro s r t h
    rw [endsTr] at h
    rw [importEnds]
    split at h
    · rename_i e; rw [e]; cases h; rfl
    · cases h
    · rename_i e; rw [e]
      split at h
      · rename_i x e3; obtain ⟨s2, t2⟩ := x; rw [stepT_spec e3]; exact ih _ _ _ h
      · cases h
/-- a heap's objects laid into a tree -/
def lay : List Obj → BT → Nat → Option BT
  | [], t, _ => some t
  | o :: r, t, n => match (t.ins n o).get n with
    | some _ => lay r (t.ins n o) (n + 1)
    | none => none
theorem lay_of : ∀ (l : List Obj) (t t' : BT) (n : Nat) (life : Life), lay l t n = some t' → absHeap t' (n + l.length) life = ⟨(absHeap t n life).objs ++ l.toArray, life⟩
  | [], t, t', n, life, h => by
    simp only [lay, Option.some.injEq] at h
    subst h
    simp [absHeap]
  | o :: r, t, t', n, life, h => by
    rw [lay] at h
    split at h
    · rename_i e
      have ih := lay_of r _ _ _ life h
      rw [List.length_cons, show n + (r.length + 1) = n + 1 + r.length by omega, ih, absHeap_ins (by rw [e]; rfl)]
      simp [Heap.push]
    · cases h
def toTr (s : Shared) : Option SharedT := (lay s.heap.objs.toList .nil 0).map fun t => ⟨t, s.heap.objs.size, s.heap.life, s.gens, s.drawn, s.toks, s.os⟩
theorem toTr_of {s : Shared} {r : SharedT} (h : toTr s = some r) : r.abs = s := by
  obtain ⟨t, h1, rfl⟩ := Option.map_eq_some_iff.mp h
  obtain ⟨⟨objs, life⟩, gens, drawn, toks, os⟩ := s
  have e := lay_of _ _ _ _ life h1
  rw [Nat.zero_add, Array.length_toList] at e
  show (⟨absHeap t objs.size life, gens, drawn, toks, os⟩ : Shared) = _
  rw [e]
  simp [absHeap, BT.list]
def leftTr (st : Program → World → SharedT → Thread → Option (SharedT × Thread)) (ok : Nat → Option Value → Thread → Bool) (fm : Program → Shared → Option Shared) (nm : Heap → Addr → Str → Option Value) (begin_ : Program → Shared × Thread) {β : Type} (see : Shared → β)
    (p : Program) {α : Type} (Yf : Shared → α) (N : Nat) (w : World) : Option (β × α) :=
  (toTr (begin_ (opening p)).1).bind fun a => (endsTr (st (opening p) w) N a (begin_ (opening p)).2).bind fun b => (fm p b.abs).bind fun s₀ =>
    match s₀.heap.isNs mainGlobals && s₀.gens.size == 0 with
    | true => (toTr s₀).bind fun c => (runTr (st p w) (ok s₀.heap.objs.size (nm s₀.heap mainGlobals "__annotations__")) N c (topStub p)).bind fun r =>
      match staticsOk (importedModules p.main.body) s₀.heap r.abs.heap && namesBound p r.abs.heap && gensDone r.abs && laidKept s₀.heap r.abs.heap with
      | true => some (see r.abs, Yf r.abs)
      | false => none
    | false => none
theorem left_of {p q : Program} {loose : List Str} {Xt : Shared → Bool} {α : Type} {Yf : Shared → α} {Ya : World → α} {N : Nat} {g0 : Bool} {st : Program → World → SharedT → Thread → Option (SharedT × Thread)} {ok : Nat → Option Value → Thread → Bool} {fm : Program → Shared → Option Shared} {nm : Heap → Addr → Str → Option Value} {begin_ : Program → Shared × Thread}
    {see : Program → List Str → List Str → (Shared → Bool) → Bool → Shared → _} (e1 : st = stepT (denote treeTable)) (e2 : ok = stepOk) (e3 : fm = fenceModules?) (e4 : nm = Heap.nsMap) (e5 : begin_ = start) (e6 : see = openSeen)
    (h : ∀ w, leftTr st ok fm nm begin_ (see q loose (importedModules p.main.body) Xt g0) p Yf N w = some (openGood q loose, Ya w)) : LeftO p q loose Xt Yf Ya N g0 := fun w => by
  have h := h w
  subst e1 e2 e3 e4 e5 e6
  unfold leftTr at h
  obtain ⟨a, h1, h⟩ := Option.bind_eq_some_iff.mp h
  obtain ⟨b, h2, h⟩ := Option.bind_eq_some_iff.mp h
  obtain ⟨s₀, h3, h⟩ := Option.bind_eq_some_iff.mp h
  have e2 := endsTr_of _ _ _ _ h2
  rw [toTr_of h1] at e2
  have ef : fencedOpening treeTable p w N = some s₀ := by
    unfold fencedOpening
    rw [e2]
    exact h3
  split at h
  · rename_i hz
    obtain ⟨c, h4, h⟩ := Option.bind_eq_some_iff.mp h
    obtain ⟨r, h5, h⟩ := Option.bind_eq_some_iff.mp h
    have e5 := runTr_of _ _ _ _ h5
    rw [toTr_of h4] at e5
    split at h
    · rename_i hy
      unfold openEnds
      rw [ef]
      show (topFrom treeTable p w N s₀).map _ = _
      unfold topFrom
      rw [hz]
      dsimp only
      rw [e5]
      show (match staticsOk (importedModules p.main.body) s₀.heap r.abs.heap && namesBound p r.abs.heap && gensDone r.abs && laidKept s₀.heap r.abs.heap with | true => _ | false => _ : Option Shared).map _ = _
      rw [hy]
      exact h
    · cases h
  · cases h
theorem left : LeftO Challenge.rw_nb0266_01.row.prog vw lo5 (fun s => xlAt vw [] s && recOk (RowW.records rw0) s) (Hook.obs hk) (Hook.val hk) 3242 true :=
  left_of (st := @PySem.W.Fast.tw10156331382660048174 (@PySem.W.Fast.tw11892475500146522536 @PySem.W.Fast.tw14364793385576792824)) (ok := @PySem.W.Fast.tw6613529449190102663) (fm := @PySem.W.Fast.tw14289696077712309145) (nm := @PySem.W.Fast.tw8920871248978507458) (begin_ := @PySem.W.Fast.tw1435165496053646825) (see := @PySem.W.Fast.tw4187177175401517315)
    (by rw [← PySem.W.Fast.te10156331382660048174, ← PySem.W.Fast.te11892475500146522536, ← PySem.W.Fast.te14364793385576792824]) PySem.W.Fast.te6613529449190102663.symm PySem.W.Fast.te14289696077712309145.symm PySem.W.Fast.te8920871248978507458.symm PySem.W.Fast.te1435165496053646825.symm PySem.W.Fast.te4187177175401517315.symm fun w => by kernel_rfl
end

section
open PySem.F

theorem plainAttrs_rp : PlainAttrs "re.Pattern" :=
  ⟨⟨"object.__getattribute__", by rw [typeLookup_type, builtinLookup_eq_fast]; kernel_rfl, by decide +kernel⟩, by rw [typeLookup_type, builtinLookup_eq_fast]; kernel_rfl⟩
theorem slot_rp_search : Slot "re.Pattern" "search" "re.Pattern.search" :=
  .of (owner := "re.Pattern") (n := "search") (by rw [typeLookup_type, builtinLookup_eq_fast]; kernel_rfl) (by decide +kernel) (by decide +kernel) (by decide +kernel)
    (by first | exact .inl (by decide +kernel) | exact .inr (by decide +kernel)) (by rw [isSubtype_type]; kernel_rfl)
theorem type_rp_search : typeOf (.builtin "re.Pattern.search") = pure (.type "method_descriptor") := by show builtinType _ = _; rw [builtinType_eq_fast]; kernel_rfl
theorem entry_rp_search : entryFor table "re.Pattern.search" = some Builtin.«re.Pattern.search» := entryFor_of_tree (by kernel_rfl)
theorem owner_rp : Manifest.owners.lookup (String.ofList ['n', 'r', 'e', 't', 't', 'a', 'P', '.', 'e', 'r'].reverse) = some Manifest.sig_re_Pattern := by kernel_rfl
theorem args_rp_search (a b : Value) : argsOk "re.Pattern.search" ⟨[a, b], []⟩ := by
  unfold argsOk; rw [signature?_of (id := "re.Pattern.search") (n := ['h', 'c', 'r', 'a', 'e', 's']) (o := ['n', 'r', 'e', 't', 't', 'a', 'P', '.', 'e', 'r']) (by kernel_rfl) owner_rp]; kernel_rfl
theorem nobool_rm : typeLookup (.type "re.Match") "__bool__" = pure none := by rw [typeLookup_type, builtinLookup_eq_fast]; kernel_rfl
theorem nolen_rm : typeLookup (.type "re.Match") "__len__" = pure none := by rw [typeLookup_type, builtinLookup_eq_fast]; kernel_rfl
end

section
open PySem.Sre hiding Seen
abbrev Sn := PySem.Sre.Seen

abbrev cIp : Array Nat := #[14, 8, 1, 2, 4294967295, 1, 1, 46, 0, 16, 46, 24, 9, 1, 4294967295, 13, 4, 8, 0, 0, 1, 6, 5, 1]
abbrev cNm : Array Nat := #[14, 10, 4, 1, 1, 22, 0, 31, 16, 127, 0, 13, 7, 22, 0, 31, 16, 127, 0, 1]
abbrev cVl : Array Nat := #[14, 14, 4, 1, 1, 9, 4294966783, 0, 0, 2147483648, 0, 0, 0, 0, 0, 13, 11, 9, 4294966783, 0, 0, 2147483648, 0, 0, 0, 0, 0, 1]

theorem say_false_ends (m : M) (hf : m.frames = []) (ho : m.outcome = none) : ((m.say false).runFor 4).outcome = some .failed := by
  simp [M.runFor, M.say, M.step, hf, ho]

theorem admitted_none (m : M) (hn : ∀ i, i < m.lim → ∀ seen, ∃ seen', inSet m.code (m.text.getD i 0) m.code.size 5 true seen = .ok (false, seen')) :
    ∀ (fuel s : Nat) (seen : Sn), m.lim < s + fuel → ∃ seen', m.admitted fuel s seen = .ok (none, seen') := by
  intro fuel
  induction fuel with
  | zero => intro s seen _; exact ⟨seen, rfl⟩
  | succ n ih =>
    intro s seen h
    unfold M.admitted
    by_cases hs : s ≥ m.lim
    · rw [if_pos hs]; exact ⟨seen, rfl⟩
    · rw [if_neg hs]
      obtain ⟨seen', e⟩ := hn s (by omega) seen
      rw [e]
      exact ih (s + 1) seen' (by omega)

theorem inSet_nm (c : Nat) (h1 : 32 ≤ c) (h2 : c < 127) (seen : Sn) : ∃ seen', inSet cNm c 20 5 true seen = .ok (false, seen') := by
  have e : inSet cNm c 20 5 true seen = (if (0 ≤ c && c ≤ 31) = true then .ok (true, seen.add 22) else if (c == 127) = true then .ok (true, (seen.add 22).add 16) else .ok (!true, ((seen.add 22).add 16).add 0)) := rfl
  have a1 : (decide (0 ≤ c) && decide (c ≤ 31)) = false := by simp; omega
  have a2 : (c == 127) = false := by simp; omega
  rw [e, a1, a2]
  exact ⟨_, rfl⟩

theorem bits_vl : ∀ c : Fin 127, 32 ≤ c.val → (cVl.getD (5 + (1 + c.val / 32)) 0).testBit (c.val % 32) = false := by decide +kernel
theorem inSet_vl (c : Nat) (h1 : 32 ≤ c) (h2 : c < 127) (seen : Sn) : ∃ seen', inSet cVl c 28 5 true seen = .ok (false, seen') := by
  have e : inSet cVl c 28 5 true seen = (if (decide (c < 256) && (cVl.getD (5 + (1 + c / 32)) 0).testBit (c % 32)) = true then .ok (true, seen.add 9) else .ok (!true, (seen.add 9).add 0)) := rfl
  have a := bits_vl ⟨c, h2⟩ h1
  simp only at a
  rw [e, a, Bool.and_false]
  exact ⟨_, rfl⟩

def mI (code text : Array Nat) (pc ls : Nat) : M := { code, text, lim := text.size, start := 0, lastStart := ls, pc, pos := 0, handed := 0, marks := Array.replicate (2 * 0) none, mustAdvance := false, seen := ({} : Sn).add 14 }

theorem set_fails (code text : Array Nat) (pc : Nat) (e : forSearch code text 0 0 text.size false = if (decide (0 > text.size) || decide (text.size - 0 < 1)) = true then (mI code text pc 0).say false else (mI code text pc text.size).attemptFrom 0 true)
    (hf : (mI code text pc text.size).hasFirstSet = true) (hn : ∀ c ∈ text, ∀ seen, ∃ seen', inSet code c code.size 5 true seen = .ok (false, seen')) :
    ((forSearch code text 0 0 text.size false).runFor 4).outcome = some .failed := by
  rw [e]
  split
  · exact say_false_ends _ rfl rfl
  · unfold M.attemptFrom
    rw [hf]
    obtain ⟨seen', ea⟩ := admitted_none (mI code text pc text.size) (fun i hi seen => hn _ (by
      have hi' : i < text.size := hi
      have : (mI code text pc text.size).text.getD i 0 = text[i] := by simp [mI, hi']
      rw [this]; exact Array.getElem_mem hi') seen) ((mI code text pc text.size).lim + 1 - 0) 0 (mI code text pc text.size).seen (by omega)
    simp only [Bool.not_true, Bool.false_eq_true, if_false]
    rw [ea]
    exact say_false_ends _ rfl rfl
theorem nm_fails (text : Array Nat) (h : ∀ c ∈ text, 32 ≤ c ∧ c < 127) : ((forSearch cNm text 0 0 text.size false).runFor 4).outcome = some .failed :=
  set_fails cNm text 11 rfl rfl fun c hc seen => inSet_nm c (h c hc).1 (h c hc).2 seen
theorem vl_fails (text : Array Nat) (h : ∀ c ∈ text, 32 ≤ c ∧ c < 127) : ((forSearch cVl text 0 0 text.size false).runFor 4).outcome = some .failed :=
  set_fails cVl text 15 rfl rfl fun c hc seen => inSet_vl c (h c hc).1 (h c hc).2 seen
end

section
open PySem.Sre hiding Seen

theorem runFor_some (m : M) (h : m.outcome.isSome = true) : ∀ n, m.runFor n = m
  | 0 => rfl
  | n + 1 => by show (if m.outcome.isSome then m else _) = m; rw [if_pos h]
theorem runFor_add (a b : Nat) (m : M) : m.runFor (a + b) = (m.runFor a).runFor b := by
  induction a generalizing m with
  | zero => rw [Nat.zero_add]; rfl
  | succ a ih =>
    rw [Nat.add_right_comm]
    show (if m.outcome.isSome then m else M.runFor (a + b) m.step) = M.runFor b (if m.outcome.isSome then m else M.runFor a m.step)
    by_cases h : m.outcome.isSome = true
    · rw [if_pos h, if_pos h, runFor_some m h]
    · rw [if_neg h, if_neg h, ih]

def mS (text : Array Nat) (start pos pc handed : Nat) (om : Bool) (fr : List PySem.Sre.Frame) (wt : Nat) (an : Option Bool) (seen : Sn) : M :=
  { code := cIp, text, lim := text.size, start, lastStart := text.size, pc, pos, handed, outermost := om, marks := #[], lastmark := -1, lastindex := -1, frames := fr, weight := wt, answer := an, seen }

/-- from m in at most n steps to m' -/
def To (m m' : M) (n : Nat) : Prop := ∃ k, k ≤ n ∧ m.runFor k = m'
theorem To.refl (m : M) : To m m 0 := ⟨0, Nat.le_refl _, rfl⟩
theorem To.trans {a b c : M} {n k : Nat} (h : To a b n) (g : To b c k) : To a c (n + k) := by
  obtain ⟨x, hx, e⟩ := h
  obtain ⟨y, hy, f⟩ := g
  exact ⟨x + y, by omega, by rw [runFor_add, e, f]⟩
theorem To.step {m m' : M} {n : Nat} (ho : m.outcome = none) (h : To m.step m' n) : To m m' (n + 1) := by
  obtain ⟨k, hk, e⟩ := h
  refine ⟨k + 1, by omega, ?_⟩
  show (if m.outcome.isSome then m else M.runFor k m.step) = m'
  rw [ho]; exact e
theorem To.one {m m' : M} (ho : m.outcome = none) (h : m.step = m') : To m m' 1 := .step ho (h ▸ .refl _)
theorem To.mono {m m' : M} {n k : Nat} (h : To m m' n) (hk : n ≤ k) : To m m' k := by
  obtain ⟨x, hx, e⟩ := h
  exact ⟨x, by omega, e⟩

section
variable {text : Array Nat} {st pos hd : Nat} {om : Bool} {fr : List PySem.Sre.Frame} {wt : Nat} {seen : Sn}
theorem s9no (h : text.size ≤ pos ∨ text.getD pos 0 ≠ 46) : (mS text st pos 9 hd om fr wt none seen).step = mS text st pos 9 hd om fr wt (some false) (seen.add 16) := by
  have e : (mS text st pos 9 hd om fr wt none seen).step = (if pos ≥ text.size then mS text st pos 9 hd om fr wt (some false) (seen.add 16) else
    match (Except.ok (text.getD pos 0 == 46, seen.add 16) : Except String (Bool × Sn)) with
    | .error why => (mS text st pos 9 hd om fr wt none (seen.add 16)).stick why
    | .ok (false, sn) => mS text st pos 9 hd om fr wt (some false) sn
    | .ok (true, sn) => mS text st (pos + 1) 11 hd om fr wt none sn) := rfl
  rw [e]
  by_cases hp : pos ≥ text.size
  · rw [if_pos hp]
  · rw [if_neg hp]
    have h' : (text.getD pos 0 == 46) = false := by simpa using h.resolve_left hp
    rw [h']
theorem s9yes (h1 : pos < text.size) (h : text.getD pos 0 = 46) : (mS text st pos 9 hd om fr wt none seen).step = mS text st (pos + 1) 11 hd om fr wt none (seen.add 16) := by
  have e : (mS text st pos 9 hd om fr wt none seen).step = (if pos ≥ text.size then mS text st pos 9 hd om fr wt (some false) (seen.add 16) else
    match (Except.ok (text.getD pos 0 == 46, seen.add 16) : Except String (Bool × Sn)) with
    | .error why => (mS text st pos 9 hd om fr wt none (seen.add 16)).stick why
    | .ok (false, sn) => mS text st pos 9 hd om fr wt (some false) sn
    | .ok (true, sn) => mS text st (pos + 1) 11 hd om fr wt none sn) := rfl
  rw [e, if_neg (by omega), h]
  rfl
theorem acc15 (c : Nat) (seen : Sn) : ∃ sn, accepts cIp 15 c seen = .ok (isDigit c, sn) := by
  have e : accepts cIp 15 c seen = (do if ← (Except.ok (isDigit c != false) : Except String Bool) then pure (true, (seen.add 8).add (55 + 0)) else .ok (!true, ((seen.add 8).add (55 + 0)).add 0)) := rfl
  rw [e]
  cases h : isDigit c with
  | true => exact ⟨_, rfl⟩
  | false => exact ⟨_, rfl⟩
/-- how many digits stand from p on, k looked at -/
def dg (text : Array Nat) : Nat → Nat → Nat
  | 0, _ => 0
  | k + 1, p => if isDigit (text.getD p 0) then dg text k (p + 1) + 1 else 0
theorem run15 (text : Array Nat) : ∀ (k p found : Nat) (seen : Sn), ∃ sn, Sre.run cIp text 15 k p found seen = .ok (found + dg text k p, sn)
  | 0, p, found, seen => ⟨seen, rfl⟩
  | k + 1, p, found, seen => by
    obtain ⟨sn, e⟩ := acc15 (text.getD p 0) seen
    unfold Sre.run
    rw [e]
    show ∃ sn', (if isDigit (text.getD p 0) = true then Sre.run cIp text 15 k (p + 1) (found + 1) sn else pure (found, sn)) = .ok (found + dg text (k + 1) p, sn')
    unfold dg
    by_cases h : isDigit (text.getD p 0) = true
    · rw [if_pos h, if_pos h]
      obtain ⟨sn', e'⟩ := run15 text k (p + 1) (found + 1) sn
      exact ⟨sn', by rw [e']; congr 2; omega⟩
    · rw [if_neg h, if_neg h]
      exact ⟨sn, rfl⟩
def fG (pos count : Nat) (om : Bool) : PySem.Sre.Frame := { wait := .giveBack, pc := 11, pos, outermost := om, count := (count : Int), kept := { lastmark := -1, lastindex := -1, whole := false, marks := #[] } }
def fS (pos : Nat) (first : Bool) : PySem.Sre.Frame := { wait := .nextStart, pc := 9, pos, outermost := first }
theorem s11 (hp : pos ≤ text.size) (hs : text.size < 4294967295) (hw : wt < 100) : ∃ sn, (mS text st pos 11 hd om fr wt none seen).step =
    if dg text (text.size - pos) pos = 0 then mS text st pos 11 hd om fr wt (some false) sn
    else mS text st (pos + dg text (text.size - pos) pos) 21 (pos + dg text (text.size - pos) pos) om (fG (pos + dg text (text.size - pos) pos) (dg text (text.size - pos) pos) om :: fr) (wt + 1 + 0) none sn := by
  have e : (mS text st pos 11 hd om fr wt none seen).step = (if ((1 : Nat) : Int) > ((text.size : Int) - (pos : Int)) then mS text st pos 11 hd om fr wt (some false) (seen.add 24) else
    match Sre.run cIp text 15 (min 4294967295 ((text.size : Int) - (pos : Int)).toNat) pos 0 ((seen.add 24).add 13) with
    | .error why => (mS text st pos 11 hd om fr wt none (seen.add 24)).stick why
    | .ok (n, sn) => if n < 1 then mS text st pos 11 hd om fr wt (some false) sn else
        if wt + 1 + 0 > 16777216 then (mS text st (pos + n) 11 hd om fr wt none sn).stick "frames:memory" else
        mS text st (pos + n) 21 (pos + n) om (fG (pos + n) n om :: fr) (wt + 1 + 0) none sn) := rfl
  rw [e]
  by_cases h0 : pos = text.size
  · subst h0
    rw [if_pos (by omega)]
    refine ⟨seen.add 24, ?_⟩
    rw [Nat.sub_self]
    rfl
  · rw [if_neg (by omega)]
    have hm : min 4294967295 ((text.size : Int) - (pos : Int)).toNat = text.size - pos := by omega
    rw [hm]
    obtain ⟨sn, er⟩ := run15 text (text.size - pos) pos 0 ((seen.add 24).add 13)
    rw [er]
    refine ⟨sn, ?_⟩
    simp only [Nat.zero_add]
    by_cases hd0 : dg text (text.size - pos) pos = 0
    · rw [if_pos hd0, if_pos (by omega)]
    · rw [if_neg hd0, if_neg (by omega), if_neg (by omega)]
theorem s21yes (h : pos = text.size) : (mS text st pos 21 hd om fr wt none seen).step = mS text st pos 23 hd om fr wt none ((seen.add 6).add (43 + 5)) := by
  have e : (mS text st pos 21 hd om fr wt none seen).step = (if (pos == text.size || (pos + 1 == text.size && text.getD pos 0 == 10)) = true then mS text st pos 23 hd om fr wt none ((seen.add 6).add (43 + 5)) else mS text st pos 21 hd om fr wt (some false) ((seen.add 6).add (43 + 5))) := rfl
  rw [e, if_pos (by simp [h])]
theorem s21no (h : pos ≠ text.size) (h2 : text.getD pos 0 ≠ 10) : (mS text st pos 21 hd om fr wt none seen).step = mS text st pos 21 hd om fr wt (some false) ((seen.add 6).add (43 + 5)) := by
  have e : (mS text st pos 21 hd om fr wt none seen).step = (if (pos == text.size || (pos + 1 == text.size && text.getD pos 0 == 10)) = true then mS text st pos 23 hd om fr wt none ((seen.add 6).add (43 + 5)) else mS text st pos 21 hd om fr wt (some false) ((seen.add 6).add (43 + 5))) := rfl
  have : (pos == text.size || (pos + 1 == text.size && text.getD pos 0 == 10)) = false := by simp [h]; intro _; simpa using h2
  rw [e, this]
  rfl
theorem s23 : (mS text st pos 23 hd om fr wt none seen).step = mS text st pos 23 pos om fr wt (some true) (seen.add 1) := by
  have e : (mS text st pos 23 hd om fr wt none seen).step = (if (om && ((false && pos != text.size) || (false && pos == st))) = true then mS text st pos 23 hd om fr wt (some false) (seen.add 1) else mS text st pos 23 pos om fr wt (some true) (seen.add 1)) := rfl
  rw [e]; simp
theorem sGyes {q c : Nat} {o2 : Bool} {pc : Nat} : (mS text st pos pc hd om (fG q c o2 :: fr) (wt + 1 + 0) (some true) seen).step = mS text st q 11 hd o2 fr (wt + 1 + 0 - (1 + 0)) (some true) seen := rfl
theorem sGno {q c : Nat} {o2 : Bool} {pc : Nat} (hw : wt < 100) : (mS text st pos pc hd om (fG q c o2 :: fr) (wt + 1 + 0) (some false) seen).step =
    if ((c : Int) - 1 < ((1 : Nat) : Int)) then mS text st q 11 hd o2 fr wt (some false) seen
    else mS text st (q - 1) 21 (q - 1) o2 (fG (q - 1) (c - 1) o2 :: fr) (wt + 1 + 0) none seen := by
  have hm : ∀ x : M, (x.weight = wt + 1 + 0 - (1 + 0)) → x.weight = wt := fun x h => by omega
  have e : (mS text st pos pc hd om (fG q c o2 :: fr) (wt + 1 + 0) (some false) seen).step =
    if ((c : Int) - 1 < ((1 : Nat) : Int)) then mS text st q 11 hd o2 fr (wt + 1 + 0 - (1 + 0)) (some false) seen
    else if (wt + 1 + 0 - (1 + 0)) + 1 + 0 > 16777216 then ({ mS text st (q - 1) 11 hd o2 fr (wt + 1 + 0 - (1 + 0)) none seen with }).stick "frames:memory" else
      { mS text st (q - 1) 21 (q - 1) o2 [] (wt + 1 + 0 - (1 + 0) + 1 + 0) none seen with frames := { wait := .giveBack, pc := 11, pos := q - 1, outermost := o2, count := (c : Int) - 1, kept := { lastmark := -1, lastindex := -1, whole := false, marks := #[] } } :: fr } := rfl
  rw [e]
  by_cases hc : (c : Int) - 1 < ((1 : Nat) : Int)
  · rw [if_pos hc, if_pos hc, show wt + 1 + 0 - (1 + 0) = wt by omega]
  · rw [if_neg hc, if_neg hc, if_neg (by omega), show wt + 1 + 0 - (1 + 0) = wt by omega]
    have : ((c : Int) - 1) = ((c - 1 : Nat) : Int) := by omega
    simp only [mS, fG, this]
theorem sSyes {q : Nat} {o2 : Bool} {pc : Nat} : (mS text st pos pc hd om (fS q o2 :: fr) (wt + 1 + 0) (some true) seen).step = mS text st q 9 hd o2 fr (wt + 1 + 0 - (1 + 0)) (some true) seen := rfl
theorem sSno {q : Nat} {o2 : Bool} {pc : Nat} (hw : wt < 100) : (mS text st pos pc hd om (fS q o2 :: fr) (wt + 1 + 0) (some false) seen).step =
    if q < text.size then mS text (q + 1) (q + 1) 9 (q + 1) false (fS (q + 1) false :: fr) (wt + 1 + 0) none seen else mS text st q 9 hd o2 fr wt (some false) seen := by
  have e : (mS text st pos pc hd om (fS q o2 :: fr) (wt + 1 + 0) (some false) seen).step =
    if q < text.size then (if (wt + 1 + 0 - (1 + 0)) + 1 + 0 > 16777216 then (mS text (q + 1) (q + 1) 9 hd o2 fr (wt + 1 + 0 - (1 + 0)) none seen).stick "frames:memory" else
       mS text (q + 1) (q + 1) 9 (q + 1) false (fS (q + 1) false :: fr) (wt + 1 + 0 - (1 + 0) + 1 + 0) none seen) else mS text st q 9 hd o2 fr (wt + 1 + 0 - (1 + 0)) (some false) seen := rfl
  rw [e]
  by_cases hc : q < text.size
  · rw [if_pos hc, if_pos hc, if_neg (by omega), show wt + 1 + 0 - (1 + 0) = wt by omega]
  · rw [if_neg hc, if_neg hc, show wt + 1 + 0 - (1 + 0) = wt by omega]
theorem sEnd {b : Bool} {pc : Nat} : (mS text st pos pc hd om [] wt (some b) seen).step.outcome = some (if b then .matched else .failed) := rfl
end
end

section
open PySem.Sre hiding Seen

section
variable {text : Array Nat}
theorem dg_digit : ∀ (k p i : Nat), i < dg text k p → isDigit (text.getD (p + i) 0) = true
  | 0, p, i, h => absurd h (Nat.not_lt_zero _)
  | k + 1, p, i, h => by
    unfold dg at h
    by_cases hd : isDigit (text.getD p 0) = true
    · rw [if_pos hd] at h
      cases i with
      | zero => exact hd
      | succ i => have := dg_digit k (p + 1) i (by omega); rw [show p + (i + 1) = p + 1 + i by omega]; exact this
    · rw [if_neg hd] at h; exact absurd h (Nat.not_lt_zero _)
theorem dg_le : ∀ (k p : Nat), dg text k p ≤ k
  | 0, p => Nat.le_refl _
  | k + 1, p => by
    unfold dg
    split
    · have := dg_le k (p + 1); omega
    · omega

theorem giveback {st hd : Nat} {fr : List PySem.Sre.Frame} {wt : Nat} {o2 : Bool} (hw : wt < 100) : ∀ (c q pos pc hd : Nat) (om : Bool) (seen : Sn), 1 ≤ c → c ≤ q → q ≤ text.size → (∀ i, q - c ≤ i → i < q → text.getD i 0 ≠ 10) →
    ∃ q' hd' sn, To (mS text st pos pc hd om (fG q c o2 :: fr) (wt + 1 + 0) (some false) seen) (mS text st q' 11 hd' o2 fr wt (some false) sn) (3 * c)
  | 0, q, pos, pc, hd, om, seen, h1, _, _, _ => absurd h1 (by omega)
  | 1, q, pos, pc, hd, om, seen, _, _, _, _ => ⟨q, hd, seen, (To.one rfl (by rw [sGno hw]; rfl)).mono (by omega)⟩
  | c + 2, q, pos, pc, hd, om, seen, _, hq, hs, hn => by
    have h1 : (mS text st pos pc hd om (fG q (c + 2) o2 :: fr) (wt + 1 + 0) (some false) seen).step = mS text st (q - 1) 21 (q - 1) o2 (fG (q - 1) (c + 1) o2 :: fr) (wt + 1 + 0) none seen := by
      rw [sGno hw, if_neg (by omega)]; rfl
    have h2 : (mS text st (q - 1) 21 (q - 1) o2 (fG (q - 1) (c + 1) o2 :: fr) (wt + 1 + 0) none seen).step = mS text st (q - 1) 21 (q - 1) o2 (fG (q - 1) (c + 1) o2 :: fr) (wt + 1 + 0) (some false) ((seen.add 6).add (43 + 5)) :=
      s21no (by omega) (hn (q - 1) (by omega) (by omega))
    obtain ⟨q', hd', sn, r⟩ := giveback (st := st) (hd := hd) (fr := fr) (o2 := o2) hw (c + 1) (q - 1) (q - 1) 21 (q - 1) o2 ((seen.add 6).add (43 + 5)) (by omega) (by omega) (by omega) (fun i a b => hn i (by omega) (by omega))
    exact ⟨q', hd', sn, (((To.one rfl h1).trans (To.one rfl h2)).trans r).mono (by omega)⟩

def hereB (text : Array Nat) (s : Nat) : Bool := text.getD s 0 == 46 && decide (s + 1 < text.size) && dg text (text.size - (s + 1)) (s + 1) == text.size - (s + 1)

theorem attempt_at {fr : List PySem.Sre.Frame} {wt : Nat} (hw : wt < 100) (hsz : text.size < 4294967295) (hn : ∀ i : Nat, text.getD i 0 ≠ 10) (s : Nat) (hs : s ≤ text.size) (om : Bool) (seen : Sn) :
    ∃ pos pc hd o2 sn, To (mS text s s 9 s om fr wt none seen) (mS text s pos pc hd o2 fr wt (some (hereB text s)) sn) (3 * text.size + 8) := by
  by_cases h46 : s < text.size ∧ text.getD s 0 = 46
  · obtain ⟨hlt, h46⟩ := h46
    have t1 := To.one (m := mS text s s 9 s om fr wt none seen) rfl (s9yes hlt h46)
    obtain ⟨sn, e11⟩ := s11 (text := text) (st := s) (pos := s + 1) (hd := s) (om := om) (fr := fr) (wt := wt) (seen := seen.add 16) (by omega) hsz hw
    by_cases h0 : dg text (text.size - (s + 1)) (s + 1) = 0
    · rw [if_pos h0] at e11
      have hb : hereB text s = false := by
        unfold hereB
        rw [h0]
        by_cases hz : s + 1 < text.size
        · have : ((0 : Nat) == text.size - (s + 1)) = false := by simp; omega
          rw [this, Bool.and_false]
        · simp [hz]
      rw [hb]
      exact ⟨_, _, _, _, _, (t1.trans (To.one rfl e11)).mono (by omega)⟩
    · rw [if_neg h0] at e11
      have t2 := t1.trans (To.one rfl e11)
      have hle := dg_le (text := text) (text.size - (s + 1)) (s + 1)
      generalize hn' : dg text (text.size - (s + 1)) (s + 1) = n at *
      by_cases hfull : n = text.size - (s + 1)
      · have hb : hereB text s = true := by unfold hereB; rw [hn']; simp [h46, hfull]; omega
        have hend : s + 1 + n = text.size := by omega
        have t3 := t2.trans (To.one rfl (s21yes hend))
        have t4 := t3.trans (To.one rfl s23)
        have t5 := t4.trans (To.one rfl sGyes)
        rw [hb]
        rw [show wt + 1 + 0 - (1 + 0) = wt by omega] at t5
        exact ⟨_, _, _, _, _, t5.mono (by omega)⟩
      · have hb : hereB text s = false := by unfold hereB; rw [hn']; simp [h46]; omega
        have t3 := t2.trans (To.one rfl (s21no (by omega) (hn _)))
        obtain ⟨q', hd', sn', r⟩ := giveback (text := text) (st := s) (hd := 0) (fr := fr) (o2 := om) hw n (s + 1 + n) (s + 1 + n) 21 (s + 1 + n) om ((sn.add 6).add (43 + 5)) (by omega) (by omega) (by omega) (fun i _ _ => hn i)
        rw [hb]
        exact ⟨_, _, _, _, _, (t3.trans r).mono (by omega)⟩
  · have hb : hereB text s = false := by
      unfold hereB
      by_cases q : text.getD s 0 = 46
      · have : ¬ s + 1 < text.size := by intro h; exact h46 ⟨by omega, q⟩
        simp [this]
      · simp [show (text.getD s 0 == 46) = false by simpa using q]; intro h; exact absurd (by simpa using h) q
    rw [hb]
    refine ⟨_, _, _, _, _, (To.one rfl (s9no ?_)).mono (by omega)⟩
    by_cases hlt : s < text.size
    · exact .inr fun q => h46 ⟨hlt, q⟩
    · exact .inl (by omega)

def ipFrom (text : Array Nat) : Nat → Nat → Bool
  | 0, s => hereB text s
  | k + 1, s => hereB text s || ipFrom text k (s + 1)

theorem search_from (hsz : text.size < 4294967295) (hn : ∀ i : Nat, text.getD i 0 ≠ 10) : ∀ (k s : Nat) (om : Bool) (seen : Sn), s + k = text.size →
    ∃ m', To (mS text s s 9 s om [fS s om] (0 + 1 + 0) none seen) m' ((k + 1) * (3 * text.size + 10) + 2) ∧ m'.outcome = some (if ipFrom text k s then .matched else .failed)
  | k, s, om, seen, h => by
    obtain ⟨pos, pc, hd, o2, sn, t⟩ := attempt_at (text := text) (fr := [fS s om]) (wt := 0 + 1 + 0) (by omega) hsz hn s (by omega) om seen
    cases hb : hereB text s with
    | true =>
      rw [hb] at t
      have t2 := t.trans (To.one rfl sSyes)
      refine ⟨_, (t2.trans (To.one rfl rfl)).mono ?_, ?_⟩
      · have : 1 * (3 * text.size + 10) ≤ (k + 1) * (3 * text.size + 10) := Nat.mul_le_mul_right _ (by omega)
        omega
      · rw [sEnd]
        have : ipFrom text k s = true := by cases k <;> simp [ipFrom, hb]
        rw [this]
    | false =>
      rw [hb] at t
      have e := sSno (text := text) (st := s) (pos := pos) (hd := hd) (om := o2) (fr := []) (wt := 0) (seen := sn) (q := s) (o2 := om) (pc := pc) (by omega)
      have t2 := t.trans (To.one rfl e)
      cases k with
      | zero =>
        rw [if_neg (by omega)] at t2
        refine ⟨_, (t2.trans (To.one rfl rfl)).mono (by omega), ?_⟩
        rw [sEnd]
        simp [ipFrom, hb]
      | succ k =>
        rw [if_pos (by omega)] at t2
        obtain ⟨m', t3, ho⟩ := search_from hsz hn k (s + 1) false sn (by omega)
        refine ⟨m', (t2.trans t3).mono ?_, ?_⟩
        · have : (k + 1 + 1) * (3 * text.size + 10) = (k + 1) * (3 * text.size + 10) + (3 * text.size + 10) := by rw [Nat.add_mul (k + 1) 1, Nat.one_mul]
          omega
        · rw [ho]; simp [ipFrom, hb]

theorem ip_search (hsz : text.size < 1000) (hn : ∀ i : Nat, text.getD i 0 ≠ 10) :
    ∃ k m', k ≤ 4000000 ∧ (forSearch cIp text 0 0 text.size false).runFor k = m' ∧ m'.outcome = some (if ipFrom text text.size 0 then .matched else .failed) := by
  have e : forSearch cIp text 0 0 text.size false = (if (decide (0 > text.size) || decide (text.size - 0 < 2)) = true then (mI cIp text 9 0).say false else
    if 0 + 1 + 0 > 16777216 then (mS text 0 0 9 0 true [] 0 none (({} : Sn).add 14)).stick "frames:memory" else mS text 0 0 9 0 true [fS 0 true] (0 + 1 + 0) none (({} : Sn).add 14)) := rfl
  rw [e]
  by_cases h2 : text.size < 2
  · rw [if_pos (by simp; omega)]
    refine ⟨4, _, by omega, rfl, ?_⟩
    rw [say_false_ends _ rfl rfl]
    have hf : ∀ (k s : Nat), s + k = text.size → ipFrom text k s = false := by
      intro k
      induction k with
      | zero => intro s hs; simp [ipFrom, hereB]; omega
      | succ k ih => intro s hs; unfold ipFrom; rw [ih (s + 1) (by omega)]; simp [hereB]; omega
    rw [hf text.size 0 (by omega)]
    rfl
  · rw [if_neg (by simp; omega), if_neg (by omega)]
    obtain ⟨m', ⟨k, hk, e'⟩, ho⟩ := search_from (text := text) (by omega) hn text.size 0 true (({} : Sn).add 14) (by omega)
    refine ⟨k, m', ?_, e', ho⟩
    have : (text.size + 1) * (3 * text.size + 10) ≤ 1000 * 3010 := Nat.mul_le_mul (by omega) (by omega)
    omega
end
end

section
open PySem.Sre hiding Seen
open PySem.Builtin.Re

section
variable {M : Model} {A : Around} {E : Value → Shared → Prop} {s : Shared}
theorem reDrive_to {Q : Sre.M → Shared → Prop} : ∀ (turns k : Nat) (m : Sre.M), k ≤ 4 * turns → 1 ≤ turns → (m.runFor k).outcome.isSome = true → Q (m.runFor k) s → wpAny M A (reDrive turns m) Q E s
  | 0, _, _, _, h, _, _ => absurd h (by omega)
  | t + 1, k, m, hk, _, ho, hq => by
    show wpAny M A (if (m.runFor reTurnSteps).outcome.isSome then pure (m.runFor reTurnSteps) else do rule "sre.turn"; reDrive t (m.runFor reTurnSteps)) Q E s
    have h4 : reTurnSteps = 4 := rfl
    rw [h4]
    by_cases h : (m.runFor 4).outcome.isSome = true
    · rw [if_pos h]
      have e : m.runFor 4 = m.runFor k := by
        rcases Nat.le_total k 4 with hle | hle
        · have := runFor_add k (4 - k) m
          rw [show k + (4 - k) = 4 by omega, runFor_some _ ho] at this
          exact this
        · have := runFor_add 4 (k - 4) m
          rw [show 4 + (k - 4) = k by omega, runFor_some _ h] at this
          exact this.symm
      rw [e]
      exact wpAny_pure hq
    · rw [if_neg h]
      have hk4 : 4 < k := by
        rcases Nat.lt_or_ge 4 k with g | g
        · exact g
        · have := runFor_add k (4 - k) m
          rw [show k + (4 - k) = 4 by omega, runFor_some _ ho] at this
          rw [this] at h
          exact absurd ho h
      have e : m.runFor k = (m.runFor 4).runFor (k - 4) := by rw [← runFor_add]; congr 1; omega
      rw [e] at ho hq
      exact wpAny_bind (wpAny_rule (reDrive_to t (k - 4) _ (by omega) (by omega) ho hq))
theorem rules_loop {Q : PUnit → Shared → Prop} (c : Nat → Bool) (t : Nat → String) (h : Q ⟨⟩ s) : ∀ l : List Nat,
    wpAny M A (forIn l PUnit.unit fun i _ => (if c i = true then do rule (t i); pure (ForInStep.yield PUnit.unit) else pure (ForInStep.yield PUnit.unit) : Sem (ForInStep PUnit))) Q E s
  | [] => wpAny_pure h
  | i :: l => by
    rw [List.forIn_cons]
    refine wpAny_bind ?_
    split
    · exact wpAny_bind (wpAny_rule (wpAny_pure (rules_loop c t h l)))
    · exact wpAny_pure (rules_loop c t h l)
theorem run_end {Q : Option Sre.M → Shared → Prop} {m : Sre.M} {k : Nat} {b : Bool} (hk : k ≤ 4000000) (ho : (m.runFor k).outcome = some (if b then .matched else .failed)) (hq : Q (if b then some (m.runFor k) else none) s) :
    wpAny M A (reRunToEnd m) Q E s := by
  unfold reRunToEnd
  refine wpAny_bind (reDrive_to (2 ^ 64) k m (by omega) (by omega) (by rw [ho]; rfl) ?_)
  refine wpAny_bind ?_
  refine rules_loop (fun i => (m.runFor k).seen.has i) (fun i => Sre.names.getD i "") ?_ _
  rw [ho]
  cases b with
  | true => exact wpAny_pure hq
  | false => exact wpAny_pure hq

theorem named_eq (v : Value) : reNamed "re.Pattern.search" "search" ["string", "pos", "endpos"] 1 [v] [] = pure [some v, none, none] := rfl
theorem search_call {prog : Program} {w : World} {p c : Addr} {op oc : Obj} {fs items : Array Value} {n : Nat} {code : Array Nat} {x : Str} {tk : Tok} {b : Bool} {k : Nat} {Q : Value → Shared → Prop}
    (hp : s.heap.get? p = some op) (hpd : op.data = .fields fs) (hpc : op.cls = .type "re.Pattern") (h5 : fs.getD 5 .none = .ref c) (h6 : reRawNat (fs.getD 6 .none) = 0) (h2 : reRawNat (fs.getD 2 .none) = 0)
    (hc : s.heap.get? c = some oc) (hcd : oc.data = .seq items n) (hcode : (items.map reRawOf).map (·.toNat) = code) (hx : x.cps.size < 2 ^ 62) (hk : k ≤ 4000000)
    (ho : ((forSearch code x.cps 0 0 x.cps.size false).runFor k).outcome = some (if b then .matched else .failed))
    (h0 : b = false → Q .none s)
    (h1 : b = true → ∀ o1 vs, Q (.ref (s.heap.objs.size + 1)) { s with heap := (s.heap.push { cls := .type "tuple", data := .seq o1 }).push { cls := .type "re.Match", data := .fields vs } }) :
    wpAny (model prog w) A (call (.builtin "re.Pattern.search") [.ref p, .str x tk]) Q E s := by
  refine wpAny_call_entry slot_rp_search (by exact ⟨_, hp, hpc⟩) entry_rp_search ?_ (args_rp_search _ _)
  unfold Builtin.«re.Pattern.search» reTarget
  simp only [named_eq]
  refine wpAny_bind (wpAny_bind (wpAny_pure ?_))
  refine wpAny_bind (wpAny_pure ?_)
  refine wpAny_bind (wpAny_pure ?_)
  refine wpAny_bind (m := fieldsOf (.ref p)) ?_
  unfold fieldsOf
  refine wpAny_bind (wpAny_load hp ?_)
  rw [hpd]
  refine wpAny_pure ?_
  refine wpAny_bind (m := reTextOf (.str x tk)) ?_
  refine wpAny_pure ?_
  simp only [h6, h5, h2]
  refine wpAny_bind (m := reNoCollectionInside (.str x tk) 0) (wpAny_pure ?_)
  refine wpAny_bind (m := reRawItems (.ref c)) ?_
  unfold reRawItems seqItems?
  refine wpAny_bind (wpAny_bind (wpAny_load hc ?_))
  rw [hcd]
  refine wpAny_pure (wpAny_pure (wpAny_pure ?_))
  simp only [Option.getD_some, hcode]
  have hmin : ∀ q : Nat, 4611686018427387904 ≤ q → min q x.cps.size = x.cps.size := fun q h => Nat.min_eq_right (by omega)
  rw [show min (Int.toNat 0) x.cps.size = 0 from by simp, hmin _ (by decide)]
  unfold reAnswer
  refine wpAny_bind (run_end hk ho ?_)
  cases b with
  | false => exact wpAny_pure ⟨_, rfl, h0 rfl⟩
  | true =>
    simp only [if_true]
    refine wpAny_bind ?_
    unfold reNewMatch
    refine wpAny_bind (wpAny_newObj_type ?_ ?_)
    · refine wpAny_newObj_type ?_ ?_
      · refine wpAny_pure ⟨_, rfl, ?_⟩
        rw [show (s.heap.push _).objs.size = s.heap.objs.size + 1 from Heap.size_push ..]
        exact h1 rfl _ _
      · exact Nat.le_of_ble_eq_true rfl
    · exact Nat.le_of_ble_eq_true rfl
end
end

section
open PySem.Builtin.Re

noncomputable abbrev Pg : Program := Challenge.rw_nb0266_01.row.prog
noncomputable abbrev Vw : Program := vw
noncomputable abbrev Ls : List Str := looseW vw lo5
noncomputable abbrev Kh (w : World) : Frag := kf w.params

def okc (c : Nat) : Bool := c == 46 || (48 ≤ c && c ≤ 57) || (65 ≤ c && c ≤ 90) || (97 ≤ c && c ≤ 122)
/-- a text of the law's: dots, figures, letters, no more than sixty signs -/
structure Good (x : Str) : Prop where
  len : x.cps.size ≤ 60
  all : ∀ c ∈ x.cps, okc c = true
theorem okc_ascii {c : Nat} (h : okc c = true) : 32 ≤ c ∧ c < 127 ∧ c ≠ 10 := by
  simp only [okc, Bool.or_eq_true, Bool.and_eq_true, beq_iff_eq, decide_eq_true_eq] at h
  omega
/-- does the text end in a dot and figures -/
def ip (x : Str) : Bool := ipFrom x.cps x.cps.size 0

def o36 : Obj := { cls := .type "re.Pattern", data := .fields #[.str ⟨#[92, 46, 92, 100, 43, 36]⟩ 285, .int 256 312, .int 0 0, .none, .none, .ref 35, .int 0 0] }
theorem k36 (w : World) : (Kh w).lookup 36 = some o36 := by kernel_rfl
def oCode (code : Array Nat) : Obj := { cls := .type "tuple", data := .seq ⟨code.toList.map fun n => Value.int (Int.ofNat n) 0⟩ }
theorem k35 (w : World) : (Kh w).lookup 35 = some (oCode cIp) := by kernel_rfl
def o81 : Obj := { cls := .type "re.Pattern", data := .fields #[.str ⟨#[91, 92, 120, 48, 48, 45, 92, 120, 49, 70, 92, 120, 55, 70, 93]⟩ 392, .int 32 415, .int 0 0, .none, .none, .ref 80, .int 0 0] }
theorem k81 (w : World) : (Kh w).lookup 81 = some o81 := by kernel_rfl
theorem k80 (w : World) : (Kh w).lookup 80 = some (oCode cNm) := by kernel_rfl
def o86 : Obj := { cls := .type "re.Pattern", data := .fields #[.str ⟨#[91, 92, 120, 48, 48, 45, 92, 120, 48, 56, 92, 120, 48, 65, 45, 92, 120, 49, 70, 92, 120, 55, 70, 93]⟩ 418, .int 32 449, .int 0 0, .none, .none, .ref 85, .int 0 0] }
theorem k86 (w : World) : (Kh w).lookup 86 = some o86 := by kernel_rfl
theorem k85 (w : World) : (Kh w).lookup 85 = some (oCode cVl) := by kernel_rfl

section
variable {w : World} {A : Around} {E : Value → Shared → Prop} {s : Shared} {L : Addr} {h₀ : Heap} {m : Str → Option Value} {news : List (Addr × Obj)}
theorem code_back (code : Array Nat) : (((⟨code.toList.map fun n => Value.int (Int.ofNat n) 0⟩ : Array Value).map reRawOf).map (·.toNat)) = code := by
  apply Array.ext'
  simp only [Array.toList_map, List.map_map]
  conv => rhs; rw [← List.map_id code.toList]
  rfl
def oMatch (vs : Array Value) : Obj := { cls := .type "re.Match", data := .fields vs }
theorem search_ip {x : Str} {tk : Tok} {Q : Value → Shared → Prop} (F : Fr h₀ L s.heap m) (X : (Kh w).In h₀) (N : News h₀ L s.heap news) (G : Good x)
    (h0 : ip x = false → Q .none s) (h1 : ip x = true → ∀ a h' vs, Fr h₀ L h' m → News h₀ L h' ((a, oMatch vs) :: news) → Q (.ref a) { s with heap := h' }) :
    wpAny (model Pg w) A (call (.builtin "re.Pattern.search") [.ref 36, .str x tk]) Q E s := by
  have X' := X.keeps F.keep
  have hlen := G.len
  obtain ⟨k, m', hk, e, ho⟩ := ip_search (text := x.cps) (by omega) (fun i => by
    by_cases hi : i < x.cps.size
    · have : x.cps.getD i 0 = x.cps[i] := by simp [hi]
      rw [this]; exact (okc_ascii (G.all _ (Array.getElem_mem hi))).2.2
    · have : x.cps.getD i 0 = 0 := by simp [hi]
      rw [this]; decide)
  subst e
  refine search_call (X' _ _ (k36 w)) rfl rfl rfl rfl rfl (X' _ _ (k35 w)) rfl (code_back _) (by omega) hk ho h0 (fun hb o1 vs => ?_)
  have F1 := F.push { cls := .type "tuple", data := .seq o1 }
  have N1 := N.push F { cls := .type "tuple", data := .seq o1 }
  have F2 := F1.push (oMatch vs)
  have N2 := N1.push F1 (oMatch vs)
  have e : (s.heap.push { cls := .type "tuple", data := .seq o1 }).objs.size = s.heap.objs.size + 1 := Heap.size_push ..
  rw [e] at N2
  exact h1 hb _ _ vs F2 (fun p hp => N2 p (by
    rcases List.mem_cons.mp hp with q | q
    · exact q ▸ .head _
    · exact .tail _ (.tail _ q)))
theorem search_nm {x : Str} {tk : Tok} {Q : Value → Shared → Prop} (F : Fr h₀ L s.heap m) (X : (Kh w).In h₀) (G : Good x) (h0 : Q .none s) :
    wpAny (model Pg w) A (call (.builtin "re.Pattern.search") [.ref 81, .str x tk]) Q E s := by
  have X' := X.keeps F.keep
  have hlen := G.len
  exact search_call (b := false) (k := 4) (X' _ _ (k81 w)) rfl rfl rfl rfl rfl (X' _ _ (k80 w)) rfl (code_back _) (by omega) (by omega) (nm_fails _ fun c hc => ⟨(okc_ascii (G.all c hc)).1, (okc_ascii (G.all c hc)).2.1⟩) (fun _ => h0) (fun hb => by cases hb)
theorem search_vl {x : Str} {tk : Tok} {Q : Value → Shared → Prop} (F : Fr h₀ L s.heap m) (X : (Kh w).In h₀) (G : Good x) (h0 : Q .none s) :
    wpAny (model Pg w) A (call (.builtin "re.Pattern.search") [.ref 86, .str x tk]) Q E s := by
  have X' := X.keeps F.keep
  have hlen := G.len
  exact search_call (b := false) (k := 4) (X' _ _ (k86 w)) rfl rfl rfl rfl rfl (X' _ _ (k85 w)) rfl (code_back _) (by omega) (by omega) (vl_fails _ fun c hc => ⟨(okc_ascii (G.all c hc)).1, (okc_ascii (G.all c hc)).2.1⟩) (fun _ => h0) (fun hb => by cases hb)
theorem getMethod_search {p : Addr} {o : Obj} {pl : Sem Bool} {Q : Value × List Value → Shared → Prop} (F : Fr h₀ L s.heap m) (X : (Kh w).In h₀) (hp : (Kh w).lookup p = some o) (hc : o.cls = .type "re.Pattern") (hd : o.dict = none)
    (h : Q (.builtin "re.Pattern.search", [.ref p]) s) : wpAny (model Pg w) A (getMethod (.ref p) "search" pl) Q E s :=
  have e := (X.keeps F.keep) _ _ hp
  getMethod_builtin ⟨o, e, hc⟩ plainAttrs_rp slot_rp_search type_rp_search (fun a ha => by cases ha; exact ⟨o, e, hd⟩) h
theorem truthy_match {a : Addr} {vs : Array Value} {Q : Bool → Shared → Prop} (N : News h₀ L s.heap news) (hm : (a, oMatch vs) ∈ news) (h : Q true s) : wpAny (model Pg w) A (truthy (.ref a)) Q E s := by
  have T : s.TypeIs (.ref a) "re.Match" := ⟨_, (N _ hm).1, rfl⟩
  unfold truthy
  refine wpAny_bind ?_
  unfold callSpecial?
  refine wpAny_bind (wpAny_specialOf T nobool_rm (wpAny_pure ?_))
  exact wpAny_bind (wpAny_specialOf T nolen_rm (wpAny_pure h))
end
end

section
theorem Good.le {x : Str} (G : Good x) : x.length ≤ 60 := G.len
theorem Good.ascii {x : Str} (G : Good x) : ∀ c ∈ x.cps.toList, c < 128 := fun c hc => by
  have := okc_ascii (G.all c (by simpa using hc)); omega
/-- small letters -/
def low (x : Str) : Str := ⟨x.cps.map lo1⟩
def sw1 (c : Nat) : Nat := if 65 ≤ c ∧ c ≤ 90 then c + 32 else if 97 ≤ c ∧ c ≤ 122 then c - 32 else c
/-- letters turned -/
def swp (x : Str) : Str := ⟨x.cps.map sw1⟩
theorem Good.lower {x : Str} (G : Good x) : Txt.lower x = low x := lower_ascii G.ascii
theorem isUpper_ascii : ∀ c, c < 128 → Unicode.isUpper c = decide (65 ≤ c ∧ c ≤ 90) := by decide +kernel
theorem isLower_ascii : ∀ c, c < 128 → Unicode.isLower c = decide (97 ≤ c ∧ c ≤ 122) := by decide +kernel
theorem Good.swapcase {x : Str} (G : Good x) : Txt.swapcase x = swp x := by
  unfold Txt.swapcase swp
  rw [placed_single x _ sw1 fun i c hc => by
    have hc' : x.cps[i]? = some c := by simpa using hc
    have hlt := G.ascii c (List.mem_of_getElem? hc)
    rw [isUpper_ascii c hlt, isLower_ascii c hlt]
    unfold Unicode.lowerAt sw1
    rw [hc']
    have hne : (c == 0x3A3) = false := by rw [beq_eq_false_iff_ne]; omega
    simp only [hne, Bool.false_and, Bool.false_eq_true, if_false, lowerOf_ascii c hlt, upperOf_ascii c hlt, lo1, up1, decide_eq_true_eq]
    split
    · rfl
    · split <;> rfl]
theorem okc_iff (c : Nat) : okc c = true ↔ (c = 46 ∨ (48 ≤ c ∧ c ≤ 57) ∨ (65 ≤ c ∧ c ≤ 90) ∨ (97 ≤ c ∧ c ≤ 122)) := by
  simp only [okc, Bool.or_eq_true, Bool.and_eq_true, beq_iff_eq, decide_eq_true_eq]
  omega
theorem okc_lo1 {c : Nat} (h : okc c = true) : okc (lo1 c) = true := by
  rw [okc_iff] at h ⊢
  unfold lo1
  split <;> omega
theorem okc_sw1 {c : Nat} (h : okc c = true) : okc (sw1 c) = true := by
  rw [okc_iff] at h ⊢
  unfold sw1
  split
  · omega
  · split <;> omega
theorem Good.low {x : Str} (G : Good x) : Good (low x) := ⟨by simp [Mine.low, G.len], fun c hc => by
  obtain ⟨b, hb, rfl⟩ := Array.mem_map.mp hc
  exact okc_lo1 (G.all b hb)⟩
theorem Good.swp {x : Str} (G : Good x) : Good (swp x) := ⟨by simp [Mine.swp, G.len], fun c hc => by
  obtain ⟨b, hb, rfl⟩ := Array.mem_map.mp hc
  exact okc_sw1 (G.all b hb)⟩
theorem low_length (x : Str) : (low x).length = x.length := by simp [low, Str.length]
theorem swp_length (x : Str) : (swp x).length = x.length := by simp [swp, Str.length]
theorem lo1_sw1 (c : Nat) : lo1 (sw1 c) = lo1 c := by unfold lo1 sw1; split <;> (try split) <;> (try split) <;> omega
theorem lo1_lo1 (c : Nat) : lo1 (lo1 c) = lo1 c := by unfold lo1; split <;> (try split) <;> omega
theorem low_swp (x : Str) : low (swp x) = low x := by
  simp only [low, swp, Array.map_map]
  congr 2
  funext c; exact lo1_sw1 c
theorem low_low (x : Str) : low (low x) = low x := by
  simp only [low, Array.map_map]
  congr 2
  funext c; exact lo1_lo1 c
theorem Good.slice {x : Str} (G : Good x) (l u : Option Int) : Good (Txt.slice x l u) := by
  refine ⟨Nat.le_trans (Txt.slice_le x l u) G.len, fun c hc => ?_⟩
  unfold Txt.slice at hc
  split at hc
  · exact G.all c hc
  · simp only [List.mem_toArray, List.mem_filterMap] at hc
    obtain ⟨i, _, hi⟩ := hc
    exact G.all c (Array.mem_of_getElem? hi)
section
variable {prog : Program} {w : World} {A : Around} {E : Value → Shared → Prop} {s : Shared} {L : Addr} {h₀ : Heap} {m : Str → Option Value} {news : List (Addr × Obj)} {x : Str} {t : Tok} {Q : Value → Shared → Prop}
theorem lower_g (G : Good x) (h : Good (low x) → (low x).length ≤ 60 → Q (.str (low x) s.toks) { s with toks := s.toks + 1 }) : wpAny (model prog w) A (call (.builtin "str.lower") [.str x t]) Q E s :=
  SCL.lower (Nat.le_trans G.le (by decide)) (fun _ => by rw [G.lower]; exact h G.low G.low.le)
theorem swap_g (G : Good x) (h : Good (swp x) → (swp x).length ≤ 60 → Q (.str (swp x) s.toks) { s with toks := s.toks + 1 }) : wpAny (model prog w) A (call (.builtin "str.swapcase") [.str x t]) Q E s :=
  SCL.swapcase (Nat.le_trans G.le (by decide)) (fun _ => by rw [G.swapcase]; exact h G.swp G.swp.le)
theorem slice_g_sn {value slice : Expr} {i : Int} {ui : Tok} (G : Good x) (hF : Fr h₀ L s.heap m) (hN : News h₀ L s.heap news) (h : ∀ h' t' k, Fr h₀ L h' m → News h₀ L h' news → Good (Txt.slice x (some i) none) → (Txt.slice x (some i) none).length ≤ 60 → Q (.str (Txt.slice x (some i) none) t') { s with heap := h', toks := k })
    (hs : subscripted slice false (.str x t) (.ref s.heap.objs.size) = operate [.ref s.heap.objs.size, .str x t] (getItem (.str x t) (.ref s.heap.objs.size)) := by with_unfolding_all rfl)
    (ht : ∀ r, letTemporaryGo value (.str x t) r = pure () := by intro _; with_unfolding_all rfl) :
    wpAny (model prog w) A (subscriptTail value slice (.str x t) (.ref s.heap.objs.size)) Q E { s with heap := s.heap.push { cls := .type "slice", data := .fields #[.int i ui, .none, .none] } } :=
  slice_strN_sn_len hF hN (fun h' t' k a b _ => h h' t' k a b (G.slice _ _) (G.slice _ _).le) hs ht (Nat.le_trans G.le (by decide))
end
end

section
section
variable {prog : Program} {w : World} {A : Around} {E : Value → Shared → Prop} {s : Shared} {env : Env} {h₀ : Heap} {target : Expr} {body : List Stmt} {Q : Flow → Shared → Prop}
theorem unrPost_mono {L : Addr} {s₁ s₂ : Shared} {its : List (Addr × Obj)} {r r' : (Str → Option Value) → List (Addr × Obj) → Prop} {f : Flow} (h : ∀ m n, r m n → r' m n) (x : UnrPostW h₀ L s₁ its r Q f s₂) : UnrPostW h₀ L s₁ its r' Q f s₂ := by
  cases f with
  | ret v => exact x
  | brk => exact x
  | next => obtain ⟨h', tk, m', n', e, F, N, o, q⟩ := x; exact ⟨h', tk, m', n', e, F, N, o, h _ _ q⟩
  | cont => obtain ⟨h', tk, m', n', e, F, N, o, q⟩ := x; exact ⟨h', tk, m', n', e, F, N, o, h _ _ q⟩
theorem allObj_mono : ∀ {ws : List (Addr × String)} {k k' : List (Addr × Obj) → Prop}, (∀ its, k its → k' its) → AllObj ws k → AllObj ws k'
  | [], _, _, h, x => h _ x
  | _ :: _, _, _, h, x => fun o ho => allObj_mono (fun its => h _) (x o ho)
/-- a loop by what holds of the items that are left, the frame's map and the ledger -/
theorem items_all {ws : List (Addr × String)} {keep : List (Addr × Obj)} (J : List Itm → (Str → Option Value) → List (Addr × Obj) → Prop)
    (step : ∀ a r m news, J (a :: r) m news → ∀ v h tk, a.Is v h → Fr h₀ env.locals h m → AllObj ws (fun its => News h₀ env.locals h (its ++ news) →
      wpAny (model prog w) A (assign target env v) (fun _ s₂ => wpAny (model prog w) A (execs body env) (UnrPostW h₀ env.locals { s with heap := h, toks := tk } its (fun m' n' => SubL keep n' ∧ J r m' n') Q) E s₂) E { s with heap := h, toks := tk }))
    (done : ∀ m news, J [] m news → ∀ h tk, Fr h₀ env.locals h m → News h₀ env.locals h news → Q .next { s with heap := h, toks := tk }) :
    ∀ xs m news, J xs m news → ItemsRest prog w A E h₀ env target body Q s ws keep xs m news
  | [], m, news, hj => done m news hj
  | a :: r, m, news, hj => fun v h tk hv F => allObj_mono (fun its x N => wpAny_mono (x N) (fun _ _ y => wpAny_mono y (fun _ _ z => unrPost_mono (fun m' n' q => ⟨q.1, items_all J step done r m' n' q.2⟩) z) fun _ _ e => e) fun _ _ e => e) (step a r m news hj v h tk hv F)
end
/-- a map that differs from another at two names alone -/
abbrev m1 (a : Str) (u m₀ : Str → Option Value) : Str → Option Value := fun z => if z = a then u z else m₀ z
abbrev m2 (a b : Str) (u m₀ : Str → Option Value) : Str → Option Value := fun z => if z = a then u z else if z = b then u z else m₀ z
abbrev m3 (a b c : Str) (u m₀ : Str → Option Value) : Str → Option Value := fun z => if z = a then u z else if z = b then u z else if z = c then u z else m₀ z
theorem m2_of {a b : Str} {m m₀ : Str → Option Value} (h : ∀ z, z ≠ a → z ≠ b → m z = m₀ z) : ∃ u, m = m2 a b u m₀ := ⟨m, by
  funext z
  by_cases h1 : z = a
  · simp [m2, h1]
  · by_cases h2 : z = b
    · simp [m2, h2]
    · simp [m2, h1, h2, h z h1 h2]⟩
theorem m1_of {a : Str} {m m₀ : Str → Option Value} (h : ∀ z, z ≠ a → m z = m₀ z) : ∃ u, m = m1 a u m₀ := ⟨m, by
  funext z
  by_cases h1 : z = a
  · simp [m1, h1]
  · simp [m1, h1, h z h1]⟩
theorem m3_of {a b c : Str} {m m₀ : Str → Option Value} (h : ∀ z, z ≠ a → z ≠ b → z ≠ c → m z = m₀ z) : ∃ u, m = m3 a b c u m₀ := ⟨m, by
  funext z
  by_cases h1 : z = a
  · simp [m3, h1]
  · by_cases h2 : z = b
    · simp [m3, h2]
    · by_cases h3 : z = c
      · simp [m3, h3]
      · simp [m3, h1, h2, h3, h z h1 h2 h3]⟩

section
variable {prog : Program} {w : World} {A : Around} {E : Value → Shared → Prop} {s : Shared} {env : Env} {h₀ : Heap} {target : Expr} {body : List Stmt} {Q : Flow → Shared → Prop}
/-- a loop that stores two names alone and changes nothing of the ledger -/
theorem items_ro2 (ka kb : Str) {ws : List (Addr × String)} {keep : List (Addr × Obj)} {m₀ : Str → Option Value} {news : List (Addr × Obj)} (J : List Itm → Prop) {xs : List Itm} (h0 : J xs)
    (step : ∀ a r u, J (a :: r) → ∀ v h tk, a.Is v h → Fr h₀ env.locals h (m2 ka kb u m₀) → AllObj ws (fun its => News h₀ env.locals h (its ++ news) →
      wpAny (model prog w) A (assign target env v) (fun _ s₂ => wpAny (model prog w) A (execs body env) (UnrPostW h₀ env.locals { s with heap := h, toks := tk } its (fun m' n' => SubL keep n' ∧ n' = news ∧ (∀ z, z ≠ ka → z ≠ kb → m' z = m₀ z) ∧ J r) Q) E s₂) E { s with heap := h, toks := tk }))
    (done : ∀ u, J [] → ∀ h tk, Fr h₀ env.locals h (m2 ka kb u m₀) → News h₀ env.locals h news → Q .next { s with heap := h, toks := tk }) :
    ItemsRest prog w A E h₀ env target body Q s ws keep xs m₀ news := by
  refine items_all (fun rest mm nn => nn = news ∧ (∃ u, mm = m2 ka kb u m₀) ∧ J rest) ?_ ?_ xs m₀ news ⟨rfl, m2_of fun _ _ _ => rfl, h0⟩
  · rintro a r mm nn ⟨rfl, ⟨u, rfl⟩, hj⟩ v h tk hv F
    refine allObj_mono (fun its x N => wpAny_mono (x N) (fun _ _ y => wpAny_mono y (fun _ _ z => unrPost_mono (fun m' n' q => ⟨q.1, q.2.1, m2_of q.2.2.1, q.2.2.2⟩) z) fun _ _ e => e) fun _ _ e => e) (step a r u hj v h tk hv F)
  · rintro mm nn ⟨rfl, ⟨u, rfl⟩, hj⟩ h tk F N
    exact done u hj h tk F N
theorem unrEnd_ro {L : Addr} {s₁ : Shared} {i : Addr} {o : Obj} {h' : Heap} {tk : Nat} {m' : Str → Option Value} {news keep : List (Addr × Obj)} {R : (Str → Option Value) → List (Addr × Obj) → Prop} (F : Fr h₀ L h' m') (N : News h₀ L h' ((i, o) :: news)) (hi : ∀ p ∈ news, p.1 < i) (r : R m' news) :
    UnrEndW h₀ L s₁ [(i, o)] R { s₁ with heap := h', toks := tk } :=
  ⟨h', tk, m', news, rfl, F, N, fun p hp q hq => by rw [List.mem_singleton.mp hq]; exact Nat.ne_of_lt (hi p hp), r⟩
end

section
open LCg LCt
variable {prog : Program} {w : World} {A : Around} {h₀ : Heap} {L : Addr} {m : Str → Option Value} {env : Env} {ct elt : Expr} {x : Str} {scope : Scope} {cl : List (Str × Addr)} {s : Shared} {S : List (Addr × Obj) → Prop} {P : Nat → Value → Prop} {Fin : List Value → List (Addr × Obj) → Prop}
theorem compEnd_mono {s₁ s₂ : Shared} {I C D : Addr} {oI oC oD : Obj} {r r' : Value → List (Addr × Obj) → Prop} {y : Value} (h : ∀ y n, r y n → r' y n) (q : CompEnd h₀ L m s₁ I oI C oC D oD S r y s₂) : CompEnd h₀ L m s₁ I oI C oC D oD S r' y s₂ := by
  obtain ⟨h', tk, n', e, F, N, o, hS, z⟩ := q
  exact ⟨h', tk, n', e, F, N, o, hS, h _ _ z⟩
theorem compT_all {n : Nat} (J : Nat → List Value → List (Addr × Obj) → Prop)
    (step : ∀ i ys news, i < n → J i ys news → ∀ v I oI C oC D m₂ h tk (E' : Value → Shared → Prop), P i v → NsObj oC m₂ → m₂ x = some v → Fr h₀ L h m → News h₀ L h ((I, oI) :: (C, oC) :: (D, lst ys) :: news) → Off3 I C D news → ((@Ne Nat I C) ∧ (@Ne Nat I D) ∧ (@Ne Nat C D)) →
      wpAny (model prog w) A (isTrue ct (compEnvC scope cl C env) (eval ct (compEnvC scope cl C env))) (fun ok s' => if ok = true then
        wpAny (model prog w) A (eval elt (compEnvC scope cl C env)) (CompEnd h₀ L m { s with heap := h, toks := tk } I oI C oC D (lst ys) S (fun y news' => J (i + 1) (ys ++ [y]) news')) E' s'
        else CompEnd h₀ L m { s with heap := h, toks := tk } I oI C oC D (lst ys) S (fun _ news' => J (i + 1) ys news') Value.none s') E' { s with heap := h, toks := tk })
    (fin : ∀ ys news, J n ys news → Fin ys news) : ∀ k i ys news, i + k = n → J i ys news → CompRestT prog w A h₀ L m env ct elt x scope cl s S P Fin k i ys news
  | 0, i, ys, news, e, hj => by
    have e' : i = n := e
    subst e'
    exact CompRestT.zero (fin ys news hj)
  | k + 1, i, ys, news, e, hj => by
    refine CompRestT.succ fun v I oI C oC D m₂ h tk E' hP hC hx F N off ne => ?_
    refine wpAny_mono (step i ys news (by omega) hj v I oI C oC D m₂ h tk E' hP hC hx F N off ne) (fun b s₂ q => ?_) fun _ _ e => e
    cases b with
    | true =>
      simp only [if_true] at q ⊢
      exact wpAny_mono q (fun y s₃ z => compEnd_mono (fun y' n' hj' => compT_all J step fin k (i + 1) _ n' (by omega) hj') z) fun _ _ e => e
    | false =>
      simp only [Bool.false_eq_true, if_false] at q ⊢
      exact compEnd_mono (fun y' n' hj' => compT_all J step fin k (i + 1) _ n' (by omega) hj') q
theorem compU_all {n : Nat} (J : Nat → List Value → List (Addr × Obj) → Prop)
    (step : ∀ i ys news, i < n → J i ys news → ∀ v I oI C oC D m₂ h tk (E' : Value → Shared → Prop), P i v → NsObj oC m₂ → m₂ x = some v → Fr h₀ L h m → News h₀ L h ((I, oI) :: (C, oC) :: (D, lst ys) :: news) → Off3 I C D news → ((@Ne Nat I C) ∧ (@Ne Nat I D) ∧ (@Ne Nat C D)) →
      wpAny (model prog w) A (eval elt (compEnvC scope cl C env)) (CompEnd h₀ L m { s with heap := h, toks := tk } I oI C oC D (lst ys) S (fun y news' => J (i + 1) (ys ++ [y]) news')) E' { s with heap := h, toks := tk })
    (fin : ∀ ys news, J n ys news → Fin ys news) : ∀ k i ys news, i + k = n → J i ys news → CompRest prog w A h₀ L m env elt x scope cl s S P Fin k i ys news
  | 0, i, ys, news, e, hj => by
    have e' : i = n := e
    subst e'
    exact CompRest.zero (fin ys news hj)
  | k + 1, i, ys, news, e, hj => by
    refine CompRest.succ fun v I oI C oC D m₂ h tk E' hP hC hx F N off ne => ?_
    exact wpAny_mono (step i ys news (by omega) hj v I oI C oC D m₂ h tk E' hP hC hx F N off ne) (fun b s₂ q => compEnd_mono (fun y' n' hj' => compU_all J step fin k (i + 1) _ n' (by omega) hj') q) fun _ _ e => e
end

theorem lt_of_all {news : List (Addr × Obj)} {d : Addr} {p : Addr × Obj} (h : ∀ p ∈ news, p.1 < d) (hp : p ∈ news) : @LT.lt Nat _ p.1 d := h p hp
theorem ne_of_off {news : List (Addr × Obj)} {I C D : Addr} {p : Addr × Obj} (h : LCg.Off3 I C D news) (hp : p ∈ news) : (@Ne Nat p.1 I) ∧ (@Ne Nat p.1 C) ∧ (@Ne Nat p.1 D) := h.mem p hp
theorem off3_of {I C D : Addr} : ∀ {news : List (Addr × Obj)}, (∀ p ∈ news, (@Ne Nat p.1 I) ∧ (@Ne Nat p.1 C) ∧ (@Ne Nat p.1 D)) → LCg.Off3 I C D news
  | [], _ => trivial
  | p :: _, h => ⟨h p (.head _), off3_of fun q hq => h q (.tail _ hq)⟩
theorem allLt_mem {d : Addr} : ∀ {l : List (Addr × Obj)}, AllLt d l → ∀ {p}, p ∈ l → @LT.lt Nat _ p.1 d
  | [], _, _, h => nomatch h
  | q :: _, x, p, h => by
    rcases List.mem_cons.mp h with rfl | h
    · exact x.1
    · exact allLt_mem x.2 h

section
open LCg LCt
variable {prog : Program} {w : World} {A : Around} {h₀ : Heap} {L : Addr} {m : Str → Option Value} {env : Env} {ct elt : Expr} {x : Str} {scope : Scope} {cl : List (Str × Addr)} {s : Shared} {S : List (Addr × Obj) → Prop} {P : Nat → Value → Prop} {Fin : List Value → List (Addr × Obj) → Prop}
theorem compT_ro {n : Nat} {news : List (Addr × Obj)} (J : Nat → List Value → Prop) (h0 : J 0 [])
    (step : ∀ i ys, i < n → J i ys → ∀ v I oI C oC D m₂ h tk (E' : Value → Shared → Prop), P i v → NsObj oC m₂ → m₂ x = some v → Fr h₀ L h m → News h₀ L h ((I, oI) :: (C, oC) :: (D, lst ys) :: news) → Off3 I C D news → ((@Ne Nat I C) ∧ (@Ne Nat I D) ∧ (@Ne Nat C D)) →
      wpAny (model prog w) A (isTrue ct (compEnvC scope cl C env) (eval ct (compEnvC scope cl C env))) (fun ok s' => if ok = true then
        wpAny (model prog w) A (eval elt (compEnvC scope cl C env)) (CompEnd h₀ L m { s with heap := h, toks := tk } I oI C oC D (lst ys) S (fun y news' => news' = news ∧ J (i + 1) (ys ++ [y]))) E' s'
        else CompEnd h₀ L m { s with heap := h, toks := tk } I oI C oC D (lst ys) S (fun _ news' => news' = news ∧ J (i + 1) ys) Value.none s') E' { s with heap := h, toks := tk })
    (fin : ∀ ys, J n ys → Fin ys news) : CompRestT prog w A h₀ L m env ct elt x scope cl s S P Fin n 0 [] news := by
  refine compT_all (n := n) (fun i ys nn => nn = news ∧ J i ys) ?_ ?_ n 0 [] news (by omega) ⟨rfl, h0⟩
  · rintro i ys nn hi ⟨rfl, hj⟩
    exact step i ys hi hj
  · rintro ys nn ⟨rfl, hj⟩
    exact fin ys hj
theorem compU_ro {n : Nat} {news : List (Addr × Obj)} (J : Nat → List Value → Prop) (h0 : J 0 [])
    (step : ∀ i ys, i < n → J i ys → ∀ v I oI C oC D m₂ h tk (E' : Value → Shared → Prop), P i v → NsObj oC m₂ → m₂ x = some v → Fr h₀ L h m → News h₀ L h ((I, oI) :: (C, oC) :: (D, lst ys) :: news) → Off3 I C D news → ((@Ne Nat I C) ∧ (@Ne Nat I D) ∧ (@Ne Nat C D)) →
      wpAny (model prog w) A (eval elt (compEnvC scope cl C env)) (CompEnd h₀ L m { s with heap := h, toks := tk } I oI C oC D (lst ys) S (fun y news' => news' = news ∧ J (i + 1) (ys ++ [y]))) E' { s with heap := h, toks := tk })
    (fin : ∀ ys, J n ys → Fin ys news) : CompRest prog w A h₀ L m env elt x scope cl s S P Fin n 0 [] news := by
  refine compU_all (n := n) (fun i ys nn => nn = news ∧ J i ys) ?_ ?_ n 0 [] news (by omega) ⟨rfl, h0⟩
  · rintro i ys nn hi ⟨rfl, hj⟩
    exact step i ys hi hj
  · rintro ys nn ⟨rfl, hj⟩
    exact fin ys hj
theorem compEnd_ro {s₁ : Shared} {I C D : Addr} {oI oC oD : Obj} {news : List (Addr × Obj)} {y : Value} {h' : Heap} {tk : Nat} {R : Value → Prop} (F : Fr h₀ L h' m) (N : News h₀ L h' ((I, oI) :: (C, oC) :: (D, oD) :: news)) (off : Off3 I C D news) (hS : S news) (hr : R y) :
    CompEnd h₀ L m s₁ I oI C oC D oD S (fun y news' => news' = news ∧ R y) y { s₁ with heap := h', toks := tk } := ⟨h', tk, news, rfl, F, N, off, hS, rfl, hr⟩
end
end

section
open PySem.Builtin.List
section
variable {prog : Program} {w : World} {A : Around} {E : Value → Shared → Prop} {s : Shared}
theorem setAll {l D S : Addr} {its ys : Array Value} {n n' : Nat} {Q : Unit → Shared → Prop} (hl : s.heap.get? l = some (listOf its n)) (hD : s.heap.get? D = some (listOf ys n'))
    (hS : s.heap.get? S = some { cls := .type "slice", data := .fields #[.none, .none, .none] }) (hne : l ≠ D) (hi : its.size ≤ 1000) (hy : ys.size ≤ 1000)
    (hQ : ∀ h' n2, h'.get? l = some (listOf ys n2) → Heap.SameBut l s.heap h' → Q () { s with heap := h' }) :
    wpAny (model prog w) A (setItem (.ref l) (.ref S) (.ref D)) Q E s := by
  have hlt : s.TypeIs (.ref l) "list" := ⟨_, hl, rfl⟩
  have hST : s.TypeIs (.ref S) "slice" := ⟨_, hS, rfl⟩
  have hDT : s.TypeIs (.ref D) "list" := ⟨_, hD, rfl⟩
  unfold setItem
  try with_reducible refine wpAny_holding ?_
  first | refine wpAny_bind (wpAny_pure ?_) | skip
  refine wpAny_bind (wpAny_sequenceKey hlt (by decide) ?_)
  refine wpAny_bind (wpAny_callSpecial?_slot (name := Str.ofString "__setitem__") hlt slot_list_setitem
    (wpAny_call_entry slot_list_setitem hlt entry_list_setitem ?_ (args_list_setitem _ _ _)))
  show wpAny _ _ (listSubscript? (.ref S) >>= _) _ _ s
  refine wpAny_bind ?_
  unfold listSubscript?
  refine wpAny_bind (wpAny_specialOf hST slice_no_index ?_)
  refine wpAny_pure ?_
  refine wpAny_bind (wpAny_typeOf hST ?_)
  show wpAny _ _ (listSliceParts (.ref S) >>= _) _ _ s
  refine wpAny_bind ?_
  have fieldS : ∀ (i : Nat) (Q' : Value → Shared → Prop), i < 3 → Q' .none s → wpAny (model prog w) A.in1 (field (.ref S) i) Q' E s := by
    intro i Q' hi hq
    unfold field fieldsOf
    refine wpAny_bind (wpAny_bind (wpAny_load hS (wpAny_pure ?_)))
    rcases i with _ | _ | _ | i
    · exact wpAny_pure hq
    · exact wpAny_pure hq
    · exact wpAny_pure hq
    · omega
  unfold listSliceParts
  refine wpAny_bind (fieldS 2 _ (by omega) ?_)
  refine wpAny_bind (wpAny_pure ?_)
  refine wpAny_bind (fieldS 0 _ (by omega) ?_)
  refine wpAny_bind (wpAny_pure ?_)
  refine wpAny_bind (fieldS 1 _ (by omega) ?_)
  refine wpAny_bind (wpAny_pure ?_)
  refine wpAny_pure ?_
  have hsame : listSameRef (.ref l) (.ref D) = false := by simp [listSameRef, hne]
  simp only [hsame, Bool.false_eq_true, if_false]
  refine wpAny_bind ?_
  unfold listAllItems
  refine wpAny_bind (wpAny_typeOf hDT ?_)
  show wpAny _ _ (listItems (.ref D)) _ _ s
  have itemsAt : ∀ (b : Addr) (xs : Array Value) (k : Nat) (Q' : Array Value → Shared → Prop), s.heap.get? b = some (listOf xs k) → Q' xs s → wpAny (model prog w) A.in1 (listItems (.ref b)) Q' E s := by
    intro b xs k Q' hb hq
    unfold listItems seqItems?
    exact wpAny_bind (wpAny_bind (wpAny_load hb (wpAny_pure (wpAny_pure hq))))
  refine itemsAt D ys n' _ hD ?_
  refine wpAny_bind (itemsAt l its n _ hl ?_)
  refine wpAny_bind (m := sliceIndices .none .none .none its.size) (wpAny_pure ?_)
  show wpAny _ _ (rule "list.__setitem__.slice" >>= _) _ _ s
  refine wpAny_bind (wpAny_rule ?_)
  have hshort : listTooLong (its.size + ys.size) = false := by simp only [listTooLong, PySem.sizeLine_eq]; exact decide_eq_false (by omega)
  simp only [hshort, Bool.false_eq_true, if_false]
  have hf : its.extract 0 (0 : Int).toNat ++ ys ++ its.extract (max (0 : Int) (its.size : Int)).toNat its.size = ys := by
    have e : (max (0 : Int) (its.size : Int)).toNat = its.size := by omega
    rw [e]
    simp
  refine wpAny_bind (m := listUpdate (.ref l) fun xs => xs.extract 0 (0 : Int).toNat ++ ys ++ xs.extract (max (0 : Int) (its.size : Int)).toNat xs.size) ?_
  refine wpAny_updateSeq hl rfl ?_ ?_ ?_
  · refine wpAny_bind (wpAny_letGo ?_)
    refine wpAny_pure ⟨.none, rfl, wpAny_pure ?_⟩
    refine hQ _ (if ys.size == its.size then n else n + 1) ?_ (Heap.SameBut.update ..)
    rw [Heap.get?_update_self _ hl rfl]
    have key : ∀ z : Array Value, z = ys → (some ({ cls := .type "list", data := .seq z (if z.size == its.size then n else n + 1) } : Obj)) = some (listOf ys (if ys.size == its.size then n else n + 1)) := by
      rintro z rfl; rfl
    exact key _ hf
  · rw [PySem.sizeLine_eq]; omega
  · show (its.extract 0 (0 : Int).toNat ++ ys ++ its.extract (max (0 : Int) (its.size : Int)).toNat its.size).size ≤ _
    rw [hf, PySem.sizeLine_eq]; omega
end
end

section
section
open LCg LCt
variable {prog : Program} {w : World} {A : Around} {E : Value → Shared → Prop} {s : Shared} {h₀ : Heap} {L : Addr} {m : Str → Option Value} {env : Env}
/-- a tuple of the ledger as a comprehension's source -/
def SrcTup (ax : Addr) (its : Array Value) (news : List (Addr × Obj)) : Prop := ∃ o, (ax, o) ∈ news ∧ o.cls = .type "tuple" ∧ ∃ n, o.data = .seq its n
theorem SrcTup.tuple {h : Heap} {ax : Addr} {its : Array Value} {news : List (Addr × Obj)} (x : SrcTup ax its news) (N : News h₀ L h news) : h.IsTuple ax its :=
  let ⟨o, hm, r⟩ := x; ⟨o, (N _ hm).1, r⟩
theorem tup_st {ax I : Addr} {its : Array Value} : ∀ i (h h' : Heap) (o : Obj) (nw : List (Addr × Obj)), (h.IsTupleIter I ax i ∧ h.IsTuple ax its) → h.get? I = some o → h'.get? I = some o → (∀ b o, h₀.get? b = some o → h'.get? b = some o) → News h₀ L h' nw → SrcTup ax its nw → (h'.IsTupleIter I ax i ∧ h'.IsTuple ax its) :=
  fun i h h' o nw st e e' _ N S => ⟨by obtain ⟨o', q, r⟩ := st.1; rw [e] at q; cases q; exact ⟨o, e', r⟩, S.tuple N⟩
def TupSrcT (prog : Program) (w : World) (A : Around) (h₀ : Heap) (L : Addr) (m : Str → Option Value) (env : Env) (ct elt : Expr) (x : Str) (scope : Scope) (cl : List (Str × Addr)) (Fin : Shared → List Value → List (Addr × Obj) → Prop) (xv : Value) (s₁ : Shared) : Prop :=
  ∃ ax its news, xv = .ref ax ∧ A.handled = none ∧ Fr h₀ L s₁.heap m ∧ News h₀ L s₁.heap news ∧ SrcTup ax its news ∧ its.size ≤ sizeLine ∧
    ∀ g, CompRestT prog w A h₀ L m env ct elt x scope cl { s₁ with heap := g } (SrcTup ax its) (fun i v => its[i]? = some v) (Fin { s₁ with heap := g }) its.size 0 [] news
def TupSrcU (prog : Program) (w : World) (A : Around) (h₀ : Heap) (L : Addr) (m : Str → Option Value) (env : Env) (elt : Expr) (x : Str) (scope : Scope) (cl : List (Str × Addr)) (Fin : Shared → List Value → List (Addr × Obj) → Prop) (xv : Value) (s₁ : Shared) : Prop :=
  ∃ ax its news, xv = .ref ax ∧ A.handled = none ∧ Fr h₀ L s₁.heap m ∧ News h₀ L s₁.heap news ∧ SrcTup ax its news ∧ its.size ≤ sizeLine ∧
    ∀ g, CompRest prog w A h₀ L m env elt x scope cl { s₁ with heap := g } (SrcTup ax its) (fun i v => its[i]? = some v) (Fin { s₁ with heap := g }) its.size 0 [] news
theorem TupSrcT.intro {ct elt : Expr} {x : Str} {scope : Scope} {cl : List (Str × Addr)} {Fin : Shared → List Value → List (Addr × Obj) → Prop} {ax : Addr} {its : Array Value} {k : Nat} {news : List (Addr × Obj)} {s₁ : Shared}
    (hh : A.handled = none) (F : Fr h₀ L s₁.heap m) (N : News h₀ L s₁.heap news) (hm : (ax, ({ cls := .type "tuple", data := .seq its k } : Obj)) ∈ news) (hsz : its.size ≤ sizeLine)
    (h : ∀ g, CompRestT prog w A h₀ L m env ct elt x scope cl { s₁ with heap := g } (SrcTup ax its) (fun i v => its[i]? = some v) (Fin { s₁ with heap := g }) its.size 0 [] news) :
    TupSrcT prog w A h₀ L m env ct elt x scope cl Fin (.ref ax) s₁ := ⟨ax, its, news, rfl, hh, F, N, ⟨_, hm, rfl, _, rfl⟩, hsz, h⟩
theorem TupSrcU.intro {elt : Expr} {x : Str} {scope : Scope} {cl : List (Str × Addr)} {Fin : Shared → List Value → List (Addr × Obj) → Prop} {ax : Addr} {its : Array Value} {k : Nat} {news : List (Addr × Obj)} {s₁ : Shared}
    (hh : A.handled = none) (F : Fr h₀ L s₁.heap m) (N : News h₀ L s₁.heap news) (hm : (ax, ({ cls := .type "tuple", data := .seq its k } : Obj)) ∈ news) (hsz : its.size ≤ sizeLine)
    (h : ∀ g, CompRest prog w A h₀ L m env elt x scope cl { s₁ with heap := g } (SrcTup ax its) (fun i v => its[i]? = some v) (Fin { s₁ with heap := g }) its.size 0 [] news) :
    TupSrcU prog w A h₀ L m env elt x scope cl Fin (.ref ax) s₁ := ⟨ax, its, news, rfl, hh, F, N, ⟨_, hm, rfl, _, rfl⟩, hsz, h⟩
theorem comp_TupT {ct elt iter : Expr} {x : Str} {px : Pos} {scope : Scope} {cl : List (Str × Addr)} {pos : Pos} {Q : Value → Shared → Prop} (_F₀ : Fr h₀ L s.heap m)
    (hclos : closureFor scope env = pure cl) (hcell : ∀ y ∈ scope.names, y.2 ≠ .cell) (hkind : scope.kind = .function)
    (hnames : ∀ y ∈ scope.names, y.2 = .local → scope.names.lookup y.1 = some .local) (hx : scope.names.lookup x = some .local)
    (h : wpAny (model prog w) A (eval iter env) (TupSrcT prog w A h₀ L m env ct elt x scope cl (fun s₂ => FinE h₀ L m s₂ Q)) E s)
    (hs : ∀ x, foldedSetIterable iter env x = pure x := by intro _; rfl) :
    wpAny (model prog w) A (eval (.ListComp elt [⟨.Name x px, iter, [ct], 0⟩] scope pos) env) Q E s := by
  rw [eval_ListComp]
  refine wpAny_comprehension_free (use := none) rfl hs hclos hkind hnames (wpAny_mono h (fun xv s₁ h₁ => ?_) fun _ _ e => e)
  obtain ⟨ax, its, news, rfl, hh, F, N, S, hsz, R⟩ := h₁
  have hl := S.tuple N
  have hlt : ax < s₁.heap.objs.size := by obtain ⟨_, e, _⟩ := hl; exact Heap.lt_size e
  refine wpAny_pyIter_tuple hl ?_
  have up : ∀ b o, s₁.heap.get? b = some o → (s₁.heap.push { cls := .type "tuple_iterator", data := .fields #[.ref ax, .int 0 0] }).get? b = some o := fun b o e => Heap.get?_push_of_some _ e
  refine block_T (Walks.tuple hh s₁.heap.objs.size ax (Nat.ne_of_lt hlt) its) hsz (fun i h st => by obtain ⟨o, e, _⟩ := st.1; exact ⟨o, e⟩) tup_st hcell hkind hx ⟨⟨_, Heap.get?_push_size _ rfl, rfl, rfl⟩, hl.at fun o e => up _ _ e⟩ (fun b hb => ?_)
    (F.keeps up) (N.grown up) (Nat.ne_of_lt F.ns.lt) (next_is_new F) (fun p hp => Nat.ne_of_lt (Heap.lt_size (N p hp).1)) S (R _) ?_
  · show b < (s₁.heap.push _).objs.size
    rw [Heap.size_push]
    rcases List.mem_cons.mp hb with rfl | hb
    · exact Nat.lt_succ_self _
    · rw [List.mem_singleton.mp hb]; exact Nat.lt_succ_of_lt hlt
  · intro D C h tk m' ys news' F' N' o1 hn hC₀ hD₀ hCL hDL hCD offC fin
    refine ⟨m', hn, fun h'' hs'' => fin D h'' tk (F'.change hs'' hCL hC₀) (fun p hp => ?_) o1⟩
    refine ⟨hs''.extBut _ _ ?_ (N' p hp).1, (N' p hp).2⟩
    rcases List.mem_cons.mp hp with rfl | hp
    · exact Ne.symm hCD
    · exact offC p hp
theorem comp_TupU {elt iter : Expr} {x : Str} {px : Pos} {scope : Scope} {cl : List (Str × Addr)} {pos : Pos} {Q : Value → Shared → Prop} (_F₀ : Fr h₀ L s.heap m)
    (hclos : closureFor scope env = pure cl) (hcell : ∀ y ∈ scope.names, y.2 ≠ .cell) (hkind : scope.kind = .function)
    (hnames : ∀ y ∈ scope.names, y.2 = .local → scope.names.lookup y.1 = some .local) (hx : scope.names.lookup x = some .local)
    (h : wpAny (model prog w) A (eval iter env) (TupSrcU prog w A h₀ L m env elt x scope cl (fun s₂ => FinE h₀ L m s₂ Q)) E s)
    (hs : ∀ x, foldedSetIterable iter env x = pure x := by intro _; rfl) :
    wpAny (model prog w) A (eval (.ListComp elt [⟨.Name x px, iter, [], 0⟩] scope pos) env) Q E s := by
  rw [eval_ListComp]
  refine wpAny_comprehension_free (use := none) rfl hs hclos hkind hnames (wpAny_mono h (fun xv s₁ h₁ => ?_) fun _ _ e => e)
  obtain ⟨ax, its, news, rfl, hh, F, N, S, hsz, R⟩ := h₁
  have hl := S.tuple N
  have hlt : ax < s₁.heap.objs.size := by obtain ⟨_, e, _⟩ := hl; exact Heap.lt_size e
  refine wpAny_pyIter_tuple hl ?_
  have up : ∀ b o, s₁.heap.get? b = some o → (s₁.heap.push { cls := .type "tuple_iterator", data := .fields #[.ref ax, .int 0 0] }).get? b = some o := fun b o e => Heap.get?_push_of_some _ e
  refine block_U (Walks.tuple hh s₁.heap.objs.size ax (Nat.ne_of_lt hlt) its) hsz (fun i h st => by obtain ⟨o, e, _⟩ := st.1; exact ⟨o, e⟩) tup_st hcell hkind hx ⟨⟨_, Heap.get?_push_size _ rfl, rfl, rfl⟩, hl.at fun o e => up _ _ e⟩ (fun b hb => ?_)
    (F.keeps up) (N.grown up) (Nat.ne_of_lt F.ns.lt) (next_is_new F) (fun p hp => Nat.ne_of_lt (Heap.lt_size (N p hp).1)) S (R _) ?_
  · show b < (s₁.heap.push _).objs.size
    rw [Heap.size_push]
    rcases List.mem_cons.mp hb with rfl | hb
    · exact Nat.lt_succ_self _
    · rw [List.mem_singleton.mp hb]; exact Nat.lt_succ_of_lt hlt
  · intro D C h tk m' ys news' F' N' o1 hn hC₀ hD₀ hCL hDL hCD offC fin
    refine ⟨m', hn, fun h'' hs'' => fin D h'' tk (F'.change hs'' hCL hC₀) (fun p hp => ?_) o1⟩
    refine ⟨hs''.extBut _ _ ?_ (N' p hp).1, (N' p hp).2⟩
    rcases List.mem_cons.mp hp with rfl | hp
    · exact Ne.symm hCD
    · exact offC p hp
end
end

section
section
open LCg LCt
variable {prog : Program} {w : World} {A : Around} {E : Value → Shared → Prop} {s : Shared} {h₀ : Heap} {L : Addr} {m : Str → Option Value} {env : Env}
/-- a name bound to a comprehension over a tuple of the ledger -/
theorem assign_TupU {elt iter : Expr} {x y : Str} {px py : Pos} {scope : Scope} {cl : List (Str × Addr)} {pos spos : Pos} {Q : Flow → Shared → Prop} (_F₀ : Fr h₀ L s.heap m) (hLe : env.locals = L)
    (hsw : swapsWith (.ListComp elt [⟨.Name x px, iter, [], 0⟩] scope pos) (some (.Name y py)) spos.line env = pure true)
    (hclos : closureFor scope env = pure cl) (hcell : ∀ z ∈ scope.names, z.2 ≠ .cell) (hkind : scope.kind = .function)
    (hnames : ∀ z ∈ scope.names, z.2 = .local → scope.names.lookup z.1 = some .local) (hx : scope.names.lookup x = some .local)
    (hy : env.kindOf y = some .local) (hp : (env.scope.kind == .class || (env.scope.kind == .module && env.locals != env.globals)) = false)
    (h : wpAny (model prog w) A (eval iter env) (TupSrcU prog w A h₀ L m env elt x scope cl (fun s₂ => FinA h₀ L m s₂ y Q)) E s)
    (hs : ∀ x, foldedSetIterable iter env x = pure x := by intro _; rfl) :
    wpAny (model prog w) A (exec (.Assign [.Name y py] (.ListComp elt [⟨.Name x px, iter, [], 0⟩] scope pos) spos) env) Q E s := by
  subst hLe
  rw [exec_Assign_Name_used _ _ _ _ hsw]
  refine wpAny_bind (wpAny_standAt (wpAny_bind ?_))
  show wpAny _ A (do let _ ← comprehension (.ListComp elt [⟨.Name x px, iter, [], 0⟩] scope pos) scope env _ (newList []) false (eval iter env) (some (assign (.Name y py) env))) _ _ s
  refine wpAny_bind (wpAny_mono (wpAny_comprehension_free (use := some (assign (.Name y py) env)) (Q := fun _ s' => Q .next s') rfl hs hclos hkind hnames
    (wpAny_mono h (fun xv s₁ h₁ => ?_) fun _ _ e => e)) (fun _ s' hq => wpAny_pure (wpAny_pure hq)) fun _ _ e => e)
  obtain ⟨ax, its, news, rfl, hh, F, N, S, hsz, R⟩ := h₁
  have hl := S.tuple N
  have hlt : ax < s₁.heap.objs.size := by obtain ⟨_, e, _⟩ := hl; exact Heap.lt_size e
  refine wpAny_pyIter_tuple hl ?_
  have up : ∀ b o, s₁.heap.get? b = some o → (s₁.heap.push { cls := .type "tuple_iterator", data := .fields #[.ref ax, .int 0 0] }).get? b = some o := fun b o e => Heap.get?_push_of_some _ e
  refine block_U (Walks.tuple hh s₁.heap.objs.size ax (Nat.ne_of_lt hlt) its) hsz (fun i h st => by obtain ⟨o, e, _⟩ := st.1; exact ⟨o, e⟩) tup_st hcell hkind hx ⟨⟨_, Heap.get?_push_size _ rfl, rfl, rfl⟩, hl.at fun o e => up _ _ e⟩ (fun b hb => ?_)
    (F.keeps up) (N.grown up) (Nat.ne_of_lt F.ns.lt) (next_is_new F) (fun p hp => Nat.ne_of_lt (Heap.lt_size (N p hp).1)) S (R _) ?_
  · show b < (s₁.heap.push _).objs.size
    rw [Heap.size_push]
    rcases List.mem_cons.mp hb with rfl | hb
    · exact Nat.lt_succ_self _
    · rw [List.mem_singleton.mp hb]; exact Nat.lt_succ_of_lt hlt
  · intro D C h' tk m' ys news' F' N' o1 hn hC₀ hD₀ hCL hDL hCD offC fin
    show wpAny _ A (assign (.Name y py) env (.ref D)) _ _ _
    refine wpAny_assign_Name (wpAny_storeName_local hy F'.ns (fun h₂ hn₂ hs₂ => ?_) hp)
    have hL₀ : h₀.get? env.locals = none := Heap.get?_none_of_le F'.above
    have F₂ : Fr h₀ env.locals h₂ (fun z => if z = y then some (.ref D) else m z) := ⟨hn₂, fun b o e => hs₂.extBut b o (fun q => by rw [q, hL₀] at e; cases e) (F'.keep b o e), F'.above⟩
    refine ⟨m', hn.sameBut hs₂ hCL, fun h'' hs'' => fin D h'' _ (F₂.change hs'' hCL hC₀) (fun p hp => ?_) o1⟩
    have z : h₂.get? p.1 = some p.2 := hs₂.extBut _ _ (N' p hp).2.1 (N' p hp).1
    refine ⟨hs''.extBut _ _ ?_ z, (N' p hp).2⟩
    rcases List.mem_cons.mp hp with rfl | hp
    · exact Ne.symm hCD
    · exact offC p hp
end
theorem compEnd_same {h₀ : Heap} {L I C D : Addr} {m : Str → Option Value} {s₁ : Shared} {oI oC oD : Obj} {S : List (Addr × Obj) → Prop} {rest : Value → List (Addr × Obj) → Prop} {y : Value} {h' : Heap} {tk : Nat} {news' : List (Addr × Obj)}
    (F : Fr h₀ L h' m) (N : News h₀ L h' ((I, oI) :: (C, oC) :: (D, oD) :: news')) (off : LCg.Off3 I C D news') (hS : S news') (r : rest y news') :
    LCg.CompEnd h₀ L m s₁ I oI C oC D oD S rest y { s₁ with heap := h', toks := tk } := ⟨h', tk, news', rfl, F, N, off, hS, r⟩
end

section

open PySem.Builtin.Re
local macro_rules | `(tactic| walk_at "good") => `(tactic| assumption)
local macro_rules | `(tactic| walk_at "getMethod ref") => `(tactic| (k_here; (with_reducible show wpAny _ _ (getMethod (Value.ref 36) _ _) _ _ _); k_dflt (refine' getMethod_search ?k1 ?k2 (k36 _) rfl rfl ?_; (case k1 => k_asm); (case k2 => k_asm); k_whole)))
local macro_rules | `(tactic| walk_at "getMethod ref") => `(tactic| (k_here; (with_reducible show wpAny _ _ (getMethod (Value.ref 81) _ _) _ _ _); k_dflt (refine' getMethod_search ?k1 ?k2 (k81 _) rfl rfl ?_; (case k1 => k_asm); (case k2 => k_asm); k_whole)))
local macro_rules | `(tactic| walk_at "getMethod ref") => `(tactic| (k_here; (with_reducible show wpAny _ _ (getMethod (Value.ref 86) _ _) _ _ _); k_dflt (refine' getMethod_search ?k1 ?k2 (k86 _) rfl rfl ?_; (case k1 => k_asm); (case k2 => k_asm); k_whole)))
local macro_rules | `(tactic| walk_at "call builtin:re.Pattern.search") => `(tactic| (k_here; (with_reducible show wpAny _ _ (call (Value.builtin _) [Value.ref 36, Value.str _ _]) _ _ _); k_dflt (refine' search_ip ?k1 ?k2 ?k3 ?k4 ?_ ?_; (case k1 => k_asm); (case k2 => k_asm); (case k3 => k_asm); (case k4 => walk_at "good"); all_goals (first | ((with_reducible show ip _ = true → _); intro hip' a' h' vs' F' N'; (try k_sweep)) | ((with_reducible show ip _ = false → _); intro hip')))))
local macro_rules | `(tactic| walk_at "call builtin:re.Pattern.search") => `(tactic| (k_here; (with_reducible show wpAny _ _ (call (Value.builtin _) [Value.ref 81, Value.str _ _]) _ _ _); k_dflt (refine' search_nm ?k1 ?k2 ?k4 ?_; (case k1 => k_asm); (case k2 => k_asm); (case k4 => walk_at "good"); k_whole)))
local macro_rules | `(tactic| walk_at "call builtin:re.Pattern.search") => `(tactic| (k_here; (with_reducible show wpAny _ _ (call (Value.builtin _) [Value.ref 86, Value.str _ _]) _ _ _); k_dflt (refine' search_vl ?k1 ?k2 ?k4 ?_; (case k1 => k_asm); (case k2 => k_asm); (case k4 => walk_at "good"); k_whole)))
local macro_rules | `(tactic| walk_at "truthy ref") => `(tactic| (k_here; (with_reducible show wpAny _ _ (truthy (Value.ref _)) _ _ _); k_dflt (refine' truthy_match ?k1 ?k2 ?_; (case k1 => k_asm); (case k2 => k_mem); k_whole)))
local macro_rules | `(tactic| k_room) => `(tactic| ktr_room)
local macro_rules | `(tactic| walk_at "enter") => `(tactic| (refine' code_def ?k1 ?k2 ?k3 ?k4 ?k5 ?kA ?kF ?kK ?k6 ?k7 ?k8 ?k9 ?kB ?_ ?c2 ?c3 ?c4 ?c5; (case kA => exact rfl); (case kF => exact rfl); (case kK => first | exact rfl | assumption); (case k1 => k_asm); (case k2 => k_asm); (case k3 => k_asm); (case k4 => k_asm); (case k5 => k_asm); (case k6 => k_is); (case k7 => k_is); (case k8 => ktr_room); (case k9 => first | exact BindsTo.of_eq rfl | exact binds_K (by k_in) rfl (by k_is) rfl rfl rfl); (case c5 => decide); (case kB => exact locs rfl); (case c2 => exact rfl); (case c3 => exact rfl); (case c4 => exact rfl); k_whole; intro g' L' h' FG' F' N' B' X' T'; (try dsimp only); (try k_lift B'); (try k_fold)))
local macro_rules | `(tactic| walk_at "enterC") => `(tactic| (refine' code_defC ?k1 ?k2 ?k3 ?k4 ?k5 ?kA ?kF ?kK ?k6 ?k7 ?k8 ?k9 ?kB ?kD ?_ ?c2 ?c3 ?c4; (case kA => exact rfl); (case kF => exact rfl); (case kK => first | exact rfl | assumption); (case k1 => k_asm); (case k2 => k_asm); (case k3 => k_asm); (case k4 => k_asm); (case k5 => k_asm); (case k6 => k_is); (case k7 => k_is); (case k8 => ktr_room); (case k9 => first | exact BindsTo.of_eq rfl | exact binds_K (by k_in) rfl (by k_is) rfl rfl rfl); (case kB => exact rfl); (case kD => decide +kernel); (case c2 => exact rfl); (case c3 => exact rfl); (case c4 => exact rfl); k_whole; intro g' L' h' tk' cells' FG' F' N' Y' B' X' T' l1; (try k_lt l1); k_cells Y'; (try simp only [List.cons_append, List.nil_append] at N'); (try dsimp only); (try k_lift B'); (try k_fold)))
local macro_rules | `(tactic| k_mem) => `(tactic| assumption)
local macro_rules | `(tactic| walk_at "enterM") => `(tactic| (refine' kp_more ?k1 ?k2 ?k3 ?k4 ?k5 ?kA ?kF ?kK ?k6 ?k7 ?k8 ?kX ?kM ?kN ?kD ?kR ?kP ?kT ?kB ?_ ?c2 ?c3 ?c4 ?c5; (case kA => exact rfl); (case kF => exact rfl); (case kK => first | exact rfl | assumption); (case k1 => k_asm); (case k2 => k_asm); (case k3 => k_asm); (case k4 => k_asm); (case k5 => k_asm); (case k6 => k_is); (case k7 => k_is); (case k8 => k_room); (case kX => kp_lit); (case kM => exact rfl); (case kN => exact rfl); (case kD => kp_flats); (case kR => exact rfl); (case kP => exact rfl); (case kT => exact fun _ => rfl); (case kB => exact fun _ => locs rfl); (case c5 => decide); (case c2 => exact rfl); (case c3 => exact rfl); (case c4 => exact rfl); k_whole; intro D' o' g' L' h' tk' l1 lo' hs' fs' FG' F' N' B' X' T'; (try dsimp only); (try k_lift B'); (try k_fold)))

local macro_rules | `(tactic| walk_at "sub") => `(tactic| first | exact fun _ h => h | exact fun _ h => .tail _ h | exact fun _ h => .tail _ (.tail _ h) | exact fun _ h => .tail _ (.tail _ (.tail _ h)) | exact fun _ h => .tail _ (.tail _ (.tail _ (.tail _ h))) | exact fun p hp => (List.mem_cons.mp hp).elim (fun e => e ▸ .head _) (fun h => .tail _ (.tail _ h)) | (intro p hp; simp only [List.mem_cons] at hp ⊢; grind))
local macro_rules | `(tactic| walk_at "endF") => `(tactic| k_asm)
local macro_rules | `(tactic| walk_at "endN") => `(tactic| first | k_asm | (refine' cb_drop ?cn ?cs; (case cn => assumption); (case cs => walk_at "sub")))
local macro_rules | `(tactic| walk_at "hes") => `(tactic| first | assumption | omega)

section
variable {w : World} {mean : ExcName → Option Value} {mg mb : Str → Option Value} {dp un : Nat} {gd : Option (List Code)} {cn : Str} {cs : Scope} {a : Addr} {ccd : Value} {cl : List (Str × Addr)} {outer : List Env} {A₀ : Around} {base h₀ : Heap} {L : Addr} {m : Str → Option Value} {s : Shared} {Q E : Value → Shared → Prop} {news : List (Addr × Obj)} {x y : Str} {tk tk2 : Tok}
theorem c_liberal (B : Below A₀ base outer h₀) (F : Fr h₀ L s.heap m) (X : (Kh w).In h₀) (N : News h₀ L s.heap news) (T : Top Vw Ls mean mg mb h₀) (hk : cs.kind = .function) (G : Good x) (hd : dp + 2 < recursionLimit) (hu : un + 20 < cLine)
    (ret : ∀ (t : Tok) h' tk', Fr h₀ L h' m → News h₀ L h' news → Q (.bool (!ip x)) { s with heap := h', toks := tk' }) : wpAny (model Pg w) (ktrTop dp un gd cn cs L a ccd cl outer) (call (.ref 57) [.str x tk]) Q E s := by
  dsimp only [Pg, Vw, Ls, Kh] at *
  revert X; k_fill; intro X
  refine wpAny_call ?_
  k_dflt cell_enter
  k_steps
  all_goals (refine' cb_retB ret ?e ?F ?N; (case F => walk_at "endF"); (case N => walk_at "endN"); (case e => simp_all))
end

local macro_rules | `(tactic| walk_at "call builtin:str.lower") => `(tactic| (k_here; (with_reducible show wpAny _ _ (call (Value.builtin "str.lower") [Value.str _ _]) _ _ _); (refine lower_g (by walk_at "good") ?_); intro G' hl'))
local macro_rules | `(tactic| walk_at "call builtin:str.swapcase") => `(tactic| (k_here; (with_reducible show wpAny _ _ (call (Value.builtin "str.swapcase") [Value.str _ _]) _ _ _); (refine swap_g (by walk_at "good") ?_); intro G' hl'))
local macro_rules | `(tactic| walk_at "subscriptTail Name Slice str ref") => `(tactic| (k_here; (with_reducible show wpAny _ _ (subscriptTail _ (Expr.Slice (some _) none none _) _ _) _ _ _); (with_reducible rename Fr _ _ _ _ => F'); (with_reducible rename News _ _ _ _ => N'); (refine slice_g_sn (s := ⟨_, _, _, _, _⟩) (by walk_at "good") F' N' ?_); intro h' t' k' F' N' G' hl'; (try k_sweep)))
local macro_rules | `(tactic| walk_at "call ref") => `(tactic| (k_here; (with_reducible show wpAny _ _ (call (Value.ref 57) [Value.str _ _]) _ _ _); k_dflt (refine c_liberal (by k_asm) (by k_asm) (by k_asm) (by k_asm) (by k_asm) (by first | exact rfl | assumption) (by walk_at "good") (by ktr_room) (by ktr_units) ?_; k_whole; intro t' h' tk' F' N'; (try k_sweep); (try dsimp only))))

section
variable {w : World} {mean : ExcName → Option Value} {mg mb : Str → Option Value} {dp un : Nat} {gd : Option (List Code)} {cn : Str} {cs : Scope} {a : Addr} {ccd : Value} {cl : List (Str × Addr)} {outer : List Env} {A₀ : Around} {base h₀ : Heap} {L : Addr} {m : Str → Option Value} {s : Shared} {Q E : Value → Shared → Prop} {news : List (Addr × Obj)} {x y : Str} {tk tk2 : Tok}
/-- is_HDN's answer -/
def hdn (x : Str) : Bool := !ip x && !(x == Str.ofString "") && !(Txt.item x 0 == Str.ofString ".") && !(Txt.item x (-1) == Str.ofString ".")
theorem c_ishdn (B : Below A₀ base outer h₀) (F : Fr h₀ L s.heap m) (X : (Kh w).In h₀) (N : News h₀ L s.heap news) (T : Top Vw Ls mean mg mb h₀) (hk : cs.kind = .function) (G : Good x) (hd : dp + 2 < recursionLimit) (hu : un + 20 < cLine)
    (ret : ∀ (t : Tok) h' tk', Fr h₀ L h' m → News h₀ L h' news → Q (.bool (hdn x)) { s with heap := h', toks := tk' }) : wpAny (model Pg w) (ktrTop dp un gd cn cs L a ccd cl outer) (call (.ref 43) [.str x tk]) Q E s := by
  dsimp only [Pg, Vw, Ls, Kh] at *
  revert X; k_fill; intro X
  have hlx := G.le
  refine wpAny_call ?_
  k_dflt cell_enter
  k_steps
  all_goals (refine' cb_retB ret ?e ?F ?N; (case F => walk_at "endF"); (case N => walk_at "endN"); (case e => simp_all [hdn]))
/-- user_domain_match's answer -/
def udm (x y : Str) : Bool := if ip (low x) || ip (low y) then low x == low y else if Txt.startswith (low y) (Str.ofString ".") then Txt.endswith (low x) (low y) else low x == low y
theorem c_udm (B : Below A₀ base outer h₀) (F : Fr h₀ L s.heap m) (X : (Kh w).In h₀) (N : News h₀ L s.heap news) (T : Top Vw Ls mean mg mb h₀) (hk : cs.kind = .function) (G : Good x) (G2 : Good y) (hd : dp + 5 < recursionLimit) (hu : un + 40 < cLine)
    (ret : ∀ (t : Tok) h' tk', Fr h₀ L h' m → News h₀ L h' news → Q (.bool (udm x y)) { s with heap := h', toks := tk' }) : wpAny (model Pg w) (ktrTop dp un gd cn cs L a ccd cl outer) (call (.ref 64) [.str x tk, .str y tk2]) Q E s := by
  dsimp only [Pg, Vw, Ls, Kh] at *
  revert X; k_fill; intro X
  have hlx := G.le
  have hly := G2.le
  refine wpAny_call ?_
  k_dflt cell_enter
  k_steps
  all_goals (refine' cb_retB ret ?e ?F ?N; (case F => walk_at "endF"); (case N => walk_at "endN"); (case e => simp_all [udm]))
end

local macro_rules | `(tactic| walk_at "call ref") => `(tactic| (k_here; (with_reducible show wpAny _ _ (call (Value.ref 43) [Value.str _ _]) _ _ _); k_dflt (refine c_ishdn (by k_asm) (by k_asm) (by k_asm) (by k_asm) (by k_asm) (by first | exact rfl | assumption) (by walk_at "good") (by ktr_room) (by ktr_units) ?_; k_whole; intro t' h' tk' F' N'; (try k_sweep); (try dsimp only))))

section
variable {w : World} {mean : ExcName → Option Value} {mg mb : Str → Option Value} {dp un : Nat} {gd : Option (List Code)} {cn : Str} {cs : Scope} {a : Addr} {ccd : Value} {cl : List (Str × Addr)} {outer : List Env} {A₀ : Around} {base h₀ : Heap} {L : Addr} {m : Str → Option Value} {s : Shared} {Q E : Value → Shared → Prop} {news : List (Addr × Obj)} {x y : Str} {tk tk2 : Tok}
/-- reach's answer -/
def rch (x : Str) : Str := if 0 ≤ Txt.find x (Str.ofString ".") then (if hdn x && (decide (0 ≤ Txt.find (Txt.slice x (some (Txt.find x (Str.ofString ".") + 1)) none) (Str.ofString ".")) || Txt.slice x (some (Txt.find x (Str.ofString ".") + 1)) none == Str.ofString "local") then Str.ofString "." ++ Txt.slice x (some (Txt.find x (Str.ofString ".") + 1)) none else x) else x
theorem c_reach (B : Below A₀ base outer h₀) (F : Fr h₀ L s.heap m) (X : (Kh w).In h₀) (N : News h₀ L s.heap news) (T : Top Vw Ls mean mg mb h₀) (hk : cs.kind = .function) (G : Good x) (hd : dp + 5 < recursionLimit) (hu : un + 40 < cLine)
    (ret : ∀ (t : Tok) h' tk', Fr h₀ L h' m → News h₀ L h' news → Q (.str (rch x) t) { s with heap := h', toks := tk' }) : wpAny (model Pg w) (ktrTop dp un gd cn cs L a ccd cl outer) (call (.ref 71) [.str x tk]) Q E s := by
  dsimp only [Pg, Vw, Ls, Kh] at *
  revert X; k_fill; intro X
  have hlx := G.le
  refine wpAny_call ?_
  k_dflt cell_enter
  k_steps
  all_goals (refine' cb_retS ret ?e ?F ?N; (case F => walk_at "endF"); (case N => walk_at "endN"); (case e => first | (simp_all [rch]; done) | (simp_all [rch]; intros; omega)))
/-- domain_match's answer -/
def dmt (x y : Str) : Bool := if low x == low y then true else if !hdn (low x) then false else if Txt.rfind (low x) (low y) = -1 ∨ Txt.rfind (low x) (low y) = 0 then false else if !Txt.startswith (low y) (Str.ofString ".") then false else hdn (Txt.slice (low y) (some 1) none)
theorem c_dm (B : Below A₀ base outer h₀) (F : Fr h₀ L s.heap m) (X : (Kh w).In h₀) (N : News h₀ L s.heap news) (T : Top Vw Ls mean mg mb h₀) (hk : cs.kind = .function) (G : Good x) (G2 : Good y) (hd : dp + 5 < recursionLimit) (hu : un + 40 < cLine)
    (ret : ∀ (t : Tok) h' tk', Fr h₀ L h' m → News h₀ L h' news → Q (.bool (dmt x y)) { s with heap := h', toks := tk' }) : wpAny (model Pg w) (ktrTop dp un gd cn cs L a ccd cl outer) (call (.ref 50) [.str x tk, .str y tk2]) Q E s := by
  dsimp only [Pg, Vw, Ls, Kh] at *
  revert X; k_fill; intro X
  have hlx := G.le
  have hly := G2.le
  refine wpAny_call ?_
  k_dflt cell_enter
  k_steps
  all_goals (refine' cb_retB ret ?e ?F ?N; (case F => walk_at "endF"); (case N => walk_at "endN"); (case e => simp_all [dmt]))
end

section
variable {w : World} {mean : ExcName → Option Value} {mg mb : Str → Option Value} {dp un : Nat} {gd : Option (List Code)} {cn : Str} {cs : Scope} {a : Addr} {ccd : Value} {cl : List (Str × Addr)} {outer : List Env} {A₀ : Around} {base h₀ : Heap} {L : Addr} {m : Str → Option Value} {s : Shared} {Q E : Value → Shared → Prop} {news : List (Addr × Obj)} {x y : Str} {tk tk2 : Tok}
theorem c_conv (B : Below A₀ base outer h₀) (F : Fr h₀ L s.heap m) (X : (Kh w).In h₀) (N : News h₀ L s.heap news) (T : Top Vw Ls mean mg mb h₀) (hk : cs.kind = .function) (G : Good x) {sf : Value} {b : Bool} (hd : dp + 2 < recursionLimit) (hu : un + 20 < cLine)
    (ret : ∀ h' tk', Fr h₀ L h' m → News h₀ L h' news → Q (.str x tk) { s with heap := h', toks := tk' }) : wpAny (model Pg w) (ktrTop dp un gd cn cs L a ccd cl outer) (call (.ref 116) [sf, .str x tk] [(Str.ofString "name", .bool b)]) Q E s := by
  dsimp only [Pg, Vw, Ls, Kh] at *
  revert X; k_fill; intro X
  have hlx := G.le
  cases b
  all_goals (
    refine wpAny_call ?_
    k_dflt (walk_at "enter")
    k_steps)
  all_goals exact ret _ _ (by k_asm) (by k_asm)
end
/-- the rows of a table, as the ledger bears them -/
def RowsIn (news : List (Addr × Obj)) : List Value → List (Str × Str) → Prop
  | [], [] => True
  | v :: vs, e :: es => (∃ (a : Addr) (t1 t2 : Tok) (n : Nat), v = .ref a ∧ (a, ({ cls := .type "tuple", data := .seq #[.str e.1 t1, .str e.2 t2] n } : Obj)) ∈ news ∧ Good e.1) ∧ RowsIn news vs es
  | _, _ => False
/-- a Headers object, its dict, its list, its rows -/
structure Tab (news : List (Addr × Obj)) (t l : Addr) (es : List (Str × Str)) : Prop where
  inst : ∃ (d : Addr) (h : Int) (k : Tok) (n : Nat), (t, instObj 215 d) ∈ news ∧ (d, dictOf [⟨h, .str (Str.ofString "_headers") k, .ref l⟩] n) ∈ news
  list : ∃ (vs : List Value) (n : Nat), (l, listOf vs.toArray n) ∈ news ∧ RowsIn news vs es

local macro_rules | `(tactic| walk_at "exec For Tuple Name cons nil") => `(tactic| (k_here; (rename Fr _ _ _ _ => lF'); (with_unfolding_all refine' For_turns lF' ?_; k_whole)))
local macro_rules | `(tactic| walk_at "exec For Tuple Attribute cons nil") => `(tactic| (k_here; (rename Fr _ _ _ _ => lF'); (with_unfolding_all refine' For_turns lF' ?_; k_whole)))
local macro_rules | `(tactic| walk_at "exec For Name Name cons nil") => `(tactic| (k_here; (rename Fr _ _ _ _ => lF'); (with_unfolding_all refine' For_turns lF' ?_; k_whole)))
local macro_rules | `(tactic| walk_at "exec For Tuple Call cons nil") => `(tactic| (k_here; (with_reducible show wpAny _ _ (exec (Stmt.For (Expr.Tuple _ _ _) (Expr.Call (Expr.Name (Str.ofString "enumerate") _) _ _ _) _ _ _) _) _ _ _); (rename Fr _ _ _ _ => lF'); (with_unfolding_all refine' For_turns lF' ?_; k_whole)))
local macro_rules | `(tactic| walk_at "pyIter ref") => `(tactic| (k_here; (with_reducible show wpAny _ _ (pyIter (Value.ref _)) (fun it s₂ => TurnsAt _ _ _ _ _ _ _ _ _ it s₂) _ _); (with_unfolding_all refine' iter_listTurns ?k1 ?k2 ?k3 ?k4 ?k5 ?k6 ?_; (case k1 => exact rfl); (case k2 => k_asm); (case k3 => k_asm); (case k4 => k_mem); (case k5 => exact rfl); (case k6 => exact rfl)); intro i' l1))
local macro_rules | `(tactic| k_all) => `(tactic| (intro p' hp'; first | ((have q9 := lt_of_all (by assumption) hp'); refine neN ?_; omega) | ((have q9 := ne_of_off (by assumption) hp'); refine neN ?_; omega) | ((have q9 := lt_of_all (by assumption) hp'); (have q8 := ne_of_off (by assumption) hp'); refine neN ?_; omega)))
local macro_rules | `(tactic| walk_at "call ref") => `(tactic| (k_here; (with_reducible show wpAny _ _ (call (Value.ref 116) [_, Value.str _ _] _) _ _ _); k_dflt (refine c_conv (by k_asm) (by k_asm) (by k_asm) (by k_asm) (by k_asm) (by first | exact rfl | assumption) (by walk_at "good") (by ktr_room) (by ktr_units) ?_; k_whole; intro h' tk' F' N'; (try k_sweep); (try dsimp only))))

section
variable {w : World} {mean : ExcName → Option Value} {mg mb : Str → Option Value} {dp un : Nat} {gd : Option (List Code)} {cn : Str} {cs : Scope} {a : Addr} {ccd : Value} {cl : List (Str × Addr)} {outer : List Env} {A₀ : Around} {base h₀ : Heap} {L : Addr} {m : Str → Option Value} {s : Shared} {Q E : Value → Shared → Prop} {news : List (Addr × Obj)} {x y : Str} {tk tk2 : Tok}
/-- the first row under a key in small letters -/
def look (es : List (Str × Str)) (k : Str) : Option Str := (es.find? fun e => low e.1 == k).map (·.2)
theorem RowsIn.mono {news news' : List (Addr × Obj)} (h : ∀ p ∈ news, p ∈ news') : ∀ {vs : List Value} {es : List (Str × Str)}, RowsIn news vs es → RowsIn news' vs es
  | [], [], _ => trivial
  | _ :: _, _ :: _, ⟨⟨a, t1, t2, n, e, hm, G⟩, r⟩ => ⟨⟨a, t1, t2, n, e, h _ hm, G⟩, r.mono h⟩
  | [], _ :: _, x => x.elim
  | _ :: _, [], x => x.elim
theorem Tab.mono {news news' : List (Addr × Obj)} {t l : Addr} {es : List (Str × Str)} (x : Tab news t l es) (h : ∀ p ∈ news, p ∈ news') : Tab news' t l es := by
  obtain ⟨⟨d, hh, kk, n1, hm1, hm2⟩, ⟨vs, n2, hm3, hrows⟩⟩ := x
  exact ⟨⟨d, hh, kk, n1, h _ hm1, h _ hm2⟩, ⟨vs, n2, h _ hm3, hrows.mono h⟩⟩
theorem c_get (B : Below A₀ base outer h₀) (F : Fr h₀ L s.heap m) (X : (Kh w).In h₀) (N : News h₀ L s.heap news) (T : Top Vw Ls mean mg mb h₀) (hk : cs.kind = .function) (G : Good x) {t l : Addr} {es : List (Str × Str)} (hT : Tab news t l es) (hd : dp + 5 < recursionLimit) (hu : un + 40 < cLine)
    (r1 : ∀ v t h' tk', look es (low x) = some v → Fr h₀ L h' m → News h₀ L h' news → Q (.str v t) { s with heap := h', toks := tk' }) (r0 : ∀ h' tk', look es (low x) = none → Fr h₀ L h' m → News h₀ L h' news → Q .none { s with heap := h', toks := tk' }) : wpAny (model Pg w) (ktrTop dp un gd cn cs L a ccd cl outer) (call (.ref 162) [.ref t, .str x tk]) Q E s := by
  dsimp only [Pg, Vw, Ls, Kh] at *
  revert X; k_fill; intro X
  have hlx := G.le
  obtain ⟨⟨d, hh, kk, n1, hm1, hm2⟩, ⟨vs, n2, hm3, hrows⟩⟩ := hT
  refine wpAny_call ?_
  k_dflt (walk_at "enter")
  k_steps
  refine items_ro2 (Str.ofString "k") (Str.ofString "v") (fun rest => ∃ vs' es', rest = vs'.map Itm.val ∧ RowsIn news vs' es' ∧ look es' (low x) = look es (low x)) ⟨vs, es, rfl, hrows, rfl⟩ ?_ ?_
  · rintro aa r u ⟨vs', es', hr, hrw, hl⟩ v h tk hv F1
    cases vs' with
    | nil => cases hr
    | cons v0 vs' => cases es' with
      | nil => exact hrw.elim
      | cons e es' =>
        obtain ⟨⟨ad, t1, t2, n, rfl, hmem, Gk⟩, hrw⟩ := hrw
        simp only [List.map_cons, List.cons.injEq] at hr
        obtain ⟨rfl, rfl⟩ := hr
        have hv' : v = .ref ad := hv
        subst hv'
        have hGk := Gk.le
        refine AllObj.cons (fun o' hc' => AllObj.nil (fun N1 => ?_))
        simp only [List.cons_append, List.nil_append] at N1
        dsimp only [envOf] at F1 N1
        k_steps
        · have e1 : look es (low x) = some e.2 := by rw [← hl]; simp_all [look]
          exact r1 _ _ _ _ e1 (by walk_at "endF") (by walk_at "endN")
        · refine unrEnd_ro (keep := []) (by k_asm) (by k_asm) (by assumption) ⟨⟨hm3, trivial⟩, rfl, fun z hz1 hz2 => by simp only [m2, if_neg hz1, if_neg hz2], vs', es', rfl, hrw, ?_⟩
          rw [← hl]; simp_all [look]
  · rintro u ⟨vs', es', hr, hrw, hl⟩ h tk F1 N1
    have hv' : vs' = [] := by simpa using hr.symm
    subst hv'
    cases es' with
    | cons e es' => exact hrw.elim
    | nil =>
      have hnone : look es (low x) = none := hl.symm
      dsimp only
      k_steps
      exact r0 _ _ hnone (by walk_at "endF") (by walk_at "endN")
end

local macro_rules | `(tactic| walk_at "tab") => `(tactic| first | assumption | exact Tab.mono (by assumption) (by walk_at "sub"))

local macro_rules | `(tactic| walk_at "call ref") => `(tactic| (k_here; (with_reducible show wpAny _ _ (call (Value.ref 162) _) _ _ _); k_dflt (refine c_get (by k_asm) (by k_asm) (by k_asm) (by k_asm) (by k_asm) (by first | exact rfl | assumption) (by walk_at "good") (by walk_at "tab") (by ktr_room) (by ktr_units) ?_ ?_; all_goals (first | (k_whole; intro v' t' h' tk' hq' F' N'; (have hz' : ∃ z, look _ _ = some z := ⟨_, hq'⟩); clear hz'; (try k_sweep); (try dsimp only)) | (k_whole; intro h' tk' hq' F' N'; (try k_sweep); (try dsimp only))))))

section
variable {w : World} {mean : ExcName → Option Value} {mg mb : Str → Option Value} {dp un : Nat} {gd : Option (List Code)} {cn : Str} {cs : Scope} {a : Addr} {ccd : Value} {cl : List (Str × Addr)} {outer : List Env} {A₀ : Around} {base h₀ : Heap} {L : Addr} {m : Str → Option Value} {s : Shared} {Q E : Value → Shared → Prop} {news : List (Addr × Obj)} {x y : Str} {tk tk2 : Tok}
theorem c_has (B : Below A₀ base outer h₀) (F : Fr h₀ L s.heap m) (X : (Kh w).In h₀) (N : News h₀ L s.heap news) (T : Top Vw Ls mean mg mb h₀) (hk : cs.kind = .function) (G : Good x) {t l : Addr} {es : List (Str × Str)} (hT : Tab news t l es) (hd : dp + 8 < recursionLimit) (hu : un + 60 < cLine)
    (ret : ∀ (t : Tok) h' tk', Fr h₀ L h' m → News h₀ L h' news → Q (.bool (look es (low x)).isSome) { s with heap := h', toks := tk' }) : wpAny (model Pg w) (ktrTop dp un gd cn cs L a ccd cl outer) (call (.ref 149) [.ref t, .str x tk]) Q E s := by
  dsimp only [Pg, Vw, Ls, Kh] at *
  revert X; k_fill; intro X
  have hlx := G.le
  have hT' := hT
  obtain ⟨⟨d, hh, kk, n1, hm1, hm2⟩, -⟩ := hT
  refine wpAny_call ?_
  k_dflt (walk_at "enter")
  k_steps
  all_goals (refine' cb_retB ret ?e ?F ?N; (case F => walk_at "endF"); (case N => walk_at "endN"); (case e => simp_all))
theorem c_item (B : Below A₀ base outer h₀) (F : Fr h₀ L s.heap m) (X : (Kh w).In h₀) (N : News h₀ L s.heap news) (T : Top Vw Ls mean mg mb h₀) (hk : cs.kind = .function) (G : Good x) {t l : Addr} {es : List (Str × Str)} (hT : Tab news t l es) (hd : dp + 8 < recursionLimit) (hu : un + 60 < cLine)
    (r1 : ∀ v t h' tk', look es (low x) = some v → Fr h₀ L h' m → News h₀ L h' news → Q (.str v t) { s with heap := h', toks := tk' }) (r0 : ∀ h' tk', look es (low x) = none → Fr h₀ L h' m → News h₀ L h' news → Q .none { s with heap := h', toks := tk' }) : wpAny (model Pg w) (ktrTop dp un gd cn cs L a ccd cl outer) (call (.ref 142) [.ref t, .str x tk]) Q E s := by
  dsimp only [Pg, Vw, Ls, Kh] at *
  revert X; k_fill; intro X
  have hlx := G.le
  have hT' := hT
  obtain ⟨⟨d, hh, kk, n1, hm1, hm2⟩, -⟩ := hT
  refine wpAny_call ?_
  k_dflt (walk_at "enter")
  k_steps
  all_goals first | exact r0 _ _ (by assumption) (by walk_at "endF") (by walk_at "endN") | exact r1 _ _ _ _ (by assumption) (by walk_at "endF") (by walk_at "endN")
end

local macro_rules | `(tactic| walk_at "len") => `(tactic| first | (simp only [List.size_toArray, List.length_map, PySem.sizeLine_eq]; omega) | size_fits)
local macro_rules | `(tactic| walk_at "eval ListComp") => `(tactic| (k_here; (with_reducible show wpAny _ _ (eval (Expr.ListComp _ [⟨_, _, [], _⟩] _ _) _) _ _ _); k_dflt (refine LCg.ListComp_U (F₀ := by k_asm) (by with_unfolding_all rfl) (by decide) (by rfl) (by decide) (by rfl) ?_)))
local macro_rules | `(tactic| walk_at "eval ListComp") => `(tactic| (k_here; (with_reducible show wpAny _ _ (eval (Expr.ListComp _ [⟨_, _, [_], _⟩] _ _) _) _ _ _); k_dflt (refine LCt.ListComp_T (F₀ := by k_asm) (by with_unfolding_all rfl) (by decide) (by rfl) (by decide) (by rfl) ?_)))
local macro_rules | `(tactic| walk_at "exec Assign cons ListComp") => `(tactic| (k_here; (with_reducible show wpAny _ _ (exec (Stmt.Assign _ (Expr.ListComp _ [⟨_, _, [], _⟩] _ _) _) _) _ _ _); k_dflt (refine LCg.Assign_ListComp_U (F₀ := by k_asm) (by rfl) (by with_unfolding_all rfl) (by with_unfolding_all rfl) (by decide) (by rfl) (by decide) (by rfl) (by rfl) (by rfl) ?_)))
local macro_rules | `(tactic| walk_at "exec Assign cons ListComp") => `(tactic| (k_here; (with_reducible show wpAny _ _ (exec (Stmt.Assign _ (Expr.ListComp _ [⟨_, _, [_], _⟩] _ _) _) _) _ _ _); k_dflt (refine LCt.Assign_ListComp_T (F₀ := by k_asm) (by rfl) (by with_unfolding_all rfl) (by with_unfolding_all rfl) (by decide) (by rfl) (by decide) (by rfl) (by rfl) (by rfl) ?_)))
local macro_rules | `(tactic| walk_at "CompSrcT") => `(tactic| (k_here; k_dflt (refine' LCt.CompSrcT.ledger ?k1 ?k2 ?k3 ?k4 ?k5 ?_; (case k1 => exact rfl); (case k2 => k_asm); (case k3 => k_asm); (case k4 => k_mem); (case k5 => walk_at "len")); intro g'))
local macro_rules | `(tactic| walk_at "CompSrc") => `(tactic| (k_here; k_dflt (refine' LCg.CompSrc.ledger ?k1 ?k2 ?k3 ?k4 ?k5 ?_; (case k1 => exact rfl); (case k2 => k_asm); (case k3 => k_asm); (case k4 => k_mem); (case k5 => walk_at "len")); intro g'))

section
variable {w : World} {mean : ExcName → Option Value} {mg mb : Str → Option Value} {dp un : Nat} {gd : Option (List Code)} {cn : Str} {cs : Scope} {a : Addr} {ccd : Value} {cl : List (Str × Addr)} {outer : List Env} {A₀ : Around} {base h₀ : Heap} {L : Addr} {m : Str → Option Value} {s : Shared} {Q E : Value → Shared → Prop} {news : List (Addr × Obj)} {x y : Str} {tk tk2 : Tok}
/-- texts with their marks -/
def TxtsAre : List Value → List Str → Prop
  | [], [] => True
  | v :: vs, x :: xs => (∃ t, v = .str x t) ∧ TxtsAre vs xs
  | _, _ => False
theorem TxtsAre.strs : ∀ {vs : List Value} {xs : List Str}, TxtsAre vs xs → StrsAre vs xs
  | [], [], _ => .nil
  | _ :: _, _ :: _, ⟨⟨t, e⟩, r⟩ => by subst e; exact .cons _ _ r.strs
  | [], _ :: _, h => h.elim
  | _ :: _, [], h => h.elim
theorem RowsIn.length {news : List (Addr × Obj)} : ∀ {vs : List Value} {es : List (Str × Str)}, RowsIn news vs es → vs.length = es.length
  | [], [], _ => rfl
  | _ :: _, _ :: _, ⟨_, r⟩ => congrArg (· + 1) r.length
  | [], _ :: _, x => x.elim
  | _ :: _, [], x => x.elim
theorem RowsIn.at {news : List (Addr × Obj)} : ∀ {vs : List Value} {es : List (Str × Str)}, RowsIn news vs es → ∀ {i : Nat} {v : Value}, vs[i]? = some v → ∃ e, es[i]? = some e ∧ ∃ (a : Addr) (t1 t2 : Tok) (n : Nat), v = .ref a ∧ (a, ({ cls := .type "tuple", data := .seq #[.str e.1 t1, .str e.2 t2] n } : Obj)) ∈ news ∧ Good e.1
  | [], [], _, _, _, h => by simp at h
  | _ :: _, e :: _, ⟨q, _⟩, 0, v, h => by
    simp at h
    subst h
    exact ⟨e, rfl, q⟩
  | _ :: _, _ :: _, ⟨_, r⟩, i + 1, v, h => by
    obtain ⟨e, he, q⟩ := r.at (i := i) (v := v) (by simpa using h)
    exact ⟨e, by simpa using he, q⟩
  | [], _ :: _, x, _, _, _ => x.elim
  | _ :: _, [], x, _, _, _ => x.elim
/-- all rows under a key in small letters -/
def lookAll (es : List (Str × Str)) (k : Str) : List Str := (es.filter fun e => low e.1 == k).map (·.2)
theorem TxtsAre.snoc : ∀ {vs : List Value} {xs : List Str}, TxtsAre vs xs → ∀ (x : Str) (t : Tok), TxtsAre (vs ++ [.str x t]) (xs ++ [x])
  | [], [], _, x, t => ⟨⟨t, rfl⟩, trivial⟩
  | _ :: _, _ :: _, ⟨q, r⟩, x, t => ⟨q, r.snoc x t⟩
  | [], _ :: _, h, _, _ => h.elim
  | _ :: _, [], h, _, _ => h.elim
theorem lookAll_yes {es : List (Str × Str)} {i : Nat} {e : Str × Str} {k : Str} (he : es[i]? = some e) (hk : (low e.1 == k) = true) : lookAll (es.take (i + 1)) k = lookAll (es.take i) k ++ [e.2] := by
  simp [lookAll, List.take_add_one, he, List.filter_append, hk]
theorem lookAll_no {es : List (Str × Str)} {i : Nat} {e : Str × Str} {k : Str} (he : es[i]? = some e) (hk : (low e.1 == k) = false) : lookAll (es.take (i + 1)) k = lookAll (es.take i) k := by
  simp [lookAll, List.take_add_one, he, List.filter_append, hk]
theorem ne_of_off1 {D : Addr} : ∀ {news : List (Addr × Obj)}, LCg.Off1 D news → ∀ p ∈ news, p.1 ≠ D
  | [], _, _, h => nomatch h
  | _ :: _, x, p, h => by
    rcases List.mem_cons.mp h with rfl | h
    · exact x.1
    · exact ne_of_off1 x.2 p h
theorem c_all (B : Below A₀ base outer h₀) (F : Fr h₀ L s.heap m) (X : (Kh w).In h₀) (N : News h₀ L s.heap news) (T : Top Vw Ls mean mg mb h₀) (hk : cs.kind = .function) (G : Good x) {t l : Addr} {es : List (Str × Str)} (hT : Tab news t l es) (hes : es.length ≤ 100) (hd : dp + 8 < recursionLimit) (hu : un + 60 < cLine)
    (ret : ∀ (r : Addr) (vs : List Value) (n : Nat) h' tk', TxtsAre vs (lookAll es (low x)) → Fr h₀ L h' m → News h₀ L h' ((r, listOf vs.toArray n) :: news) → (∀ p ∈ news, p.1 ≠ r) → Q (.ref r) { s with heap := h', toks := tk' }) : wpAny (model Pg w) (ktrTop dp un gd cn cs L a ccd cl outer) (call (.ref 154) [.ref t, .str x tk]) Q E s := by
  dsimp only [Pg, Vw, Ls, Kh] at *
  revert X; k_fill; intro X
  have hlx := G.le
  obtain ⟨⟨d, hh, kk, n1, hm1, hm2⟩, ⟨vs, n2, hm3, hrows⟩⟩ := hT
  have hvl := hrows.length
  refine wpAny_call ?_
  k_dflt (walk_at "enterC")
  k_steps
  refine compT_ro (fun i ys => TxtsAre ys (lookAll (es.take i) (low x))) trivial ?_ ?_
  · intro i ys hi hj v I oI C oC D m₂ h tk E' hP hC hx F1 N1 off ne
    obtain ⟨e, he, ad, t1, t2, n, rfl, hmem, Gk⟩ := hrows.at (i := i) (v := v) (by simpa using hP)
    have hGk := Gk.le
    k_steps
    · refine ⟨_, _, _, rfl, by k_asm, by k_asm, off, .inr ⟨_, .tail _ hm3, rfl, _, rfl⟩, rfl, ?_⟩
      rw [lookAll_yes he (by assumption)]
      exact hj.snoc _ _
    · refine ⟨_, _, _, rfl, by k_asm, by k_asm, off, .inr ⟨_, .tail _ hm3, rfl, _, rfl⟩, rfl, ?_⟩
      rw [lookAll_no he (by assumption)]
      exact hj
  · intro ys hj D h tk F1 N1 off
    dsimp only
    k_steps
    rw [List.take_of_length_le (by simp; omega)] at hj
    exact ret _ _ _ _ _ hj (by walk_at "endF") (by walk_at "endN") (fun p hp => ne_of_off1 off p (.tail _ hp))
end

section
/-- the ledger with another object at one place -/
def setAt (l : Addr) (o : Obj) (led : List (Addr × Obj)) : List (Addr × Obj) := led.map fun p => if p.1 = l then (l, o) else p
theorem mem_setAt_ne {l : Addr} {o : Obj} {led : List (Addr × Obj)} {p : Addr × Obj} (hp : p ∈ led) (hne : p.1 ≠ l) : p ∈ setAt l o led :=
  List.mem_map.mpr ⟨p, hp, by rw [if_neg hne]⟩
theorem mem_setAt_self {l : Addr} {o o₀ : Obj} {led : List (Addr × Obj)} (hp : (l, o₀) ∈ led) : (l, o) ∈ setAt l o led :=
  List.mem_map.mpr ⟨(l, o₀), hp, by simp⟩
theorem mem_of_setAt {l : Addr} {o : Obj} {led : List (Addr × Obj)} {p : Addr × Obj} (hp : p ∈ setAt l o led) : (p = (l, o) ∧ ∃ o₀, (l, o₀) ∈ led) ∨ (p ∈ led ∧ p.1 ≠ l) := by
  obtain ⟨q, hq, e⟩ := List.mem_map.mp hp
  by_cases h : q.1 = l
  · rw [if_pos h] at e
    exact .inl ⟨e.symm, q.2, by obtain ⟨a, b⟩ := q; simp only at h; subst h; exact hq⟩
  · rw [if_neg h] at e
    exact .inr (e ▸ ⟨hq, h⟩)
theorem setAt_sub {l : Addr} {o : Obj} {led led' : List (Addr × Obj)} (h : ∀ p ∈ led, p ∈ led') : ∀ p ∈ setAt l o led, p ∈ setAt l o led' := fun p hp => by
  rcases mem_of_setAt hp with ⟨rfl, o₀, h₀⟩ | ⟨hq, hne⟩
  · exact mem_setAt_self (h _ h₀)
  · exact mem_setAt_ne (h _ hq) hne
theorem news_same {h₀ h : Heap} {L a : Addr} {o o' : Obj} {led : List (Addr × Obj)} (N : News h₀ L h led) (h1 : (a, o) ∈ led) (h2 : (a, o') ∈ led) : o = o' :=
  Option.some.inj ((N _ h1).1.symm.trans (N _ h2).1)
theorem news_setAt {h₀ h h' : Heap} {L l : Addr} {o o₀ : Obj} {led : List (Addr × Obj)} (N : News h₀ L h led) (hl : (l, o₀) ∈ led) (hg : h'.get? l = some o) (hs : Heap.SameBut l h h') : News h₀ L h' (setAt l o led) := fun p hp => by
  rcases mem_of_setAt hp with ⟨rfl, _, _⟩ | ⟨hq, hne⟩
  · exact ⟨hg, (N _ hl).2⟩
  · exact ⟨(hs.2 _ hne).trans (N _ hq).1, (N _ hq).2⟩
theorem fr_other {h₀ h h' : Heap} {L l : Addr} {m : Str → Option Value} {o₀ : Obj} {led : List (Addr × Obj)} (F : Fr h₀ L h m) (N : News h₀ L h led) (hl : (l, o₀) ∈ led) (hs : Heap.SameBut l h h') : Fr h₀ L h' m := by
  obtain ⟨_, hL, h0⟩ := N _ hl
  refine ⟨F.ns.at' fun o e => (hs.2 L (Ne.symm hL)).trans e, fun b o e => (hs.2 b fun q => ?_).trans (F.keep b o e), F.above⟩
  subst q
  rw [h0] at e; cases e
section
variable {prog : Program} {w : World} {A : Around} {E : Value → Shared → Prop} {s : Shared} {h₀ : Heap} {L : Addr} {m : Str → Option Value} {led : List (Addr × Obj)}
theorem set_allK {l D : Addr} {its ys : Array Value} {n n' : Nat} {Q : Unit → Shared → Prop} (F : Fr h₀ L s.heap m) (N : News h₀ L s.heap led) (hl : (l, listOf its n) ∈ led) (hD : (D, listOf ys n') ∈ led) (hne : l ≠ D) (hi : its.size ≤ 1000) (hy : ys.size ≤ 1000)
    (h : ∀ h' n2, Fr h₀ L h' m → News h₀ L h' (setAt l (listOf ys n2) led) → Q () { s with heap := h' }) :
    wpAny (model prog w) A (setItem (.ref l) (.ref s.heap.objs.size) (.ref D)) Q E { s with heap := s.heap.push { cls := .type "slice", data := .fields #[.none, .none, .none] } } := by
  have N' : News h₀ L (s.heap.push { cls := .type "slice", data := .fields #[.none, .none, .none] }) led := fun p hp => ⟨Heap.get?_push_of_some _ (N p hp).1, (N p hp).2⟩
  refine setAll (s := { s with heap := s.heap.push _ }) (N' _ hl).1 (N' _ hD).1 (Heap.get?_push_size _ rfl) hne hi hy fun h' n2 hg hs => ?_
  exact h h' n2 (fr_other (F.push _) N' hl hs) (news_setAt N' hl hg hs)
end
/-- another table, where one list has been changed -/
theorem Tab.keep {h₀ h : Heap} {L : Addr} {led led' : List (Addr × Obj)} {t l l2 : Addr} {its : Array Value} {n : Nat} {es : List (Str × Str)} (N : News h₀ L h led) (hl : (l, listOf its n) ∈ led) (T : Tab led t l2 es) (hne : l2 ≠ l) (hk : ∀ p ∈ led, p.1 ≠ l → p ∈ led') : Tab led' t l2 es := by
  obtain ⟨⟨d, hh, kk, n1, hm1, hm2⟩, ⟨vs, n2, hm3, hrows⟩⟩ := T
  refine ⟨⟨d, hh, kk, n1, hk _ hm1 ?_, hk _ hm2 ?_⟩, ⟨vs, n2, hk _ hm3 hne, ?_⟩⟩
  · intro e; simp only at e; subst e; exact absurd (congrArg Obj.cls (news_same N hm1 hl)) (by simp)
  · intro e; simp only at e; subst e; exact absurd (congrArg Obj.cls (news_same N hm2 hl)) (by simp)
  · clear hm3
    induction vs generalizing es with
    | nil => cases es with
      | nil => trivial
      | cons e es => exact hrows.elim
    | cons v vs ih => cases es with
      | nil => exact hrows.elim
      | cons e es =>
        obtain ⟨⟨a, t1, t2, k, e1, hm, G⟩, r⟩ := hrows
        exact ⟨⟨a, t1, t2, k, e1, hk _ hm (by intro q; simp only at q; subst q; exact absurd (congrArg Obj.cls (news_same N hm hl)) (by simp)), G⟩, ih r⟩
theorem RowsIn.keep {h₀ h : Heap} {L : Addr} {led led' : List (Addr × Obj)} {l : Addr} {its : Array Value} {n : Nat} (N : News h₀ L h led) (hl : (l, listOf its n) ∈ led) (hk : ∀ p ∈ led, p.1 ≠ l → p ∈ led') : ∀ {vs : List Value} {es : List (Str × Str)}, RowsIn led vs es → RowsIn led' vs es
  | [], [], _ => trivial
  | _ :: _, _ :: _, ⟨⟨a, t1, t2, k, e1, hm, G⟩, r⟩ => ⟨⟨a, t1, t2, k, e1, hk _ hm (by intro q; simp only at q; subst q; exact absurd (congrArg Obj.cls (news_same N hm hl)) (by simp)), G⟩, RowsIn.keep N hl hk r⟩
  | [], _ :: _, h => h.elim
  | _ :: _, [], h => h.elim
end

section
section
variable {prog : Program} {w : World} {A : Around} {E : Value → Shared → Prop} {s : Shared} {h₀ : Heap} {L : Addr} {m : Str → Option Value} {led : List (Addr × Obj)}
theorem append_set {l : Addr} {its : Array Value} {n : Nat} {v : Value} {Q : Value → Shared → Prop} (F : Fr h₀ L s.heap m) (N : News h₀ L s.heap led) (hl : (l, listOf its n) ∈ led) (hsz : its.size ≤ sizeLine)
    (h : ∀ h', Fr h₀ L h' m → News h₀ L h' (setAt l (listOf (its.push v) (n + 1)) led) → Q .none { s with heap := h' }) : wpAny (model prog w) A (call (.builtin "list.append") [.ref l, v]) Q E s :=
  append_at (hsz := hsz) (N _ hl).1 fun h' hs ho' => h h' (fr_other F N hl hs) (news_setAt N hl ho' hs)
end
section
variable {M : Model} {A : Around} {E : Value → Shared → Prop} {s : Shared} {K : Frag} {x C L f : Addr} {h₀ : Heap} {m : Str → Option Value} {ox : Obj} {od : Option Obj} {i v : Value}
theorem del_own {Q : Unit → Shared → Prop} (F : Fr h₀ L s.heap m) (X₀ : K.In h₀) (I : InstAt s.heap x ox C od) (hq : noSeq K C = true) (hs : findIn K (.ref C) "__delitem__" = some (some (.ref f))) (hf : isFn K (.ref f) = true)
    (h : wpAny M A (call (.ref f) [.ref x, i]) (fun _ s' => Q () s') E s) : wpAny M A (delItem (.ref x) i) Q E s := by
  have X := X₀.keeps F.keep
  unfold delItem sequenceKey
  refine wpAny_holding (wpAny_bind (wpAny_bind (I.type.here ?_)))
  refine wpAny_bind ((anyM_none X hq).here ?_)
  rw [if_pos (show (!false) = true from rfl)]
  exact wpAny_pure (wpAny_bind (special_fn X I hs (beq_iff_eq.mp hf) (wpAny_mono h (fun _ _ z => wpAny_pure z) fun _ _ z => z)))
end

/-- one object a place -/
def Cons (led : List (Addr × Obj)) : Prop := ∀ a o o', (a, o) ∈ led → (a, o') ∈ led → o = o'
theorem cons_of {h₀ h : Heap} {L : Addr} {led : List (Addr × Obj)} (N : News h₀ L h led) : Cons led := fun _ _ _ h1 h2 => news_same N h1 h2
theorem Cons.ne {led : List (Addr × Obj)} (hc : Cons led) {a b : Addr} {o o' : Obj} (h1 : (a, o) ∈ led) (h2 : (b, o') ∈ led) (hn : o.cls ≠ o'.cls) : a ≠ b := fun e => by
  subst e
  exact hn (congrArg Obj.cls (hc _ _ _ h1 h2))
theorem RowsIn.keepC {led led' : List (Addr × Obj)} {l : Addr} {its : Array Value} {n : Nat} (hc : Cons led) (hl : (l, listOf its n) ∈ led) (hk : ∀ p ∈ led, p.1 ≠ l → p ∈ led') : ∀ {vs : List Value} {es : List (Str × Str)}, RowsIn led vs es → RowsIn led' vs es
  | [], [], _ => trivial
  | _ :: _, _ :: _, ⟨⟨a, t1, t2, k, e1, hm, G⟩, r⟩ => ⟨⟨a, t1, t2, k, e1, hk _ hm (hc.ne hm hl (by simp)), G⟩, RowsIn.keepC hc hl hk r⟩
  | [], _ :: _, h => h.elim
  | _ :: _, [], h => h.elim
abbrev tupObj (x y : Str) (t1 t2 : Tok) (n : Nat) : Obj := { cls := .type "tuple", data := .seq #[.str x t1, .str y t2] n }
theorem RowsIn.snoc' {news : List (Addr × Obj)} : ∀ {vs : List Value} {es : List (Str × Str)}, RowsIn news vs es → ∀ {x y : Str} {a : Addr} {t1 t2 : Tok} {n : Nat}, (a, tupObj x y t1 t2 n) ∈ news → Good x → RowsIn news (vs ++ [.ref a]) (es ++ [(x, y)])
  | [], [], _, x, y, a, t1, t2, n, hm, G => ⟨⟨a, t1, t2, n, rfl, hm, G⟩, trivial⟩
  | _ :: _, _ :: _, ⟨q, r⟩, x, y, a, t1, t2, n, hm, G => ⟨q, r.snoc' hm G⟩
  | [], _ :: _, h, _, _, _, _, _, _, _, _ => h.elim
  | _ :: _, [], h, _, _, _, _, _, _, _, _ => h.elim
/-- a row more -/
theorem tab_app {led : List (Addr × Obj)} {t d l D : Addr} {hh : Int} {kk t1 t2 : Tok} {n1 n2 n3 n4 : Nat} {vs : List Value} {es : List (Str × Str)} {x y : Str} (hc : Cons led) (hm1 : (t, instObj 215 d) ∈ led) (hm2 : (d, dictOf [⟨hh, .str (Str.ofString "_headers") kk, .ref l⟩] n1) ∈ led) (hm3 : (l, listOf vs.toArray n2) ∈ led) (hrows : RowsIn led vs es)
    (hD : ∀ p ∈ led, p.1 < D) (G : Good x) : Tab (setAt l (listOf (vs.toArray.push (.ref D)) n4) ((D, tupObj x y t1 t2 n3) :: led)) t l (es ++ [(x, y)]) := by
  have hlD : D ≠ l := Ne.symm (Nat.ne_of_lt (hD _ hm3))
  have keep : ∀ p ∈ led, p.1 ≠ l → p ∈ setAt l (listOf (vs.toArray.push (.ref D)) n4) ((D, tupObj x y t1 t2 n3) :: led) := fun p hp hne => mem_setAt_ne (.tail _ hp) hne
  refine ⟨⟨d, hh, kk, n1, keep _ hm1 (hc.ne hm1 hm3 (by simp)), keep _ hm2 (hc.ne hm2 hm3 (by simp))⟩, ⟨vs ++ [.ref D], n4, ?_, ?_⟩⟩
  · have := mem_setAt_self (o := listOf (vs.toArray.push (.ref D)) n4) (led := (D, tupObj x y t1 t2 n3) :: led) (.tail _ hm3)
    rw [List.push_toArray] at this ⊢
    exact this
  · exact (RowsIn.keepC hc hm3 keep hrows).snoc' (mem_setAt_ne (.head _) hlD) G
end

local macro_rules | `(tactic| walk_at "setItem ref ref") => `(tactic| (k_here; (with_reducible show wpAny _ _ (setItem (Value.ref _) (Value.ref _) (Value.ref _)) _ _ _); (with_reducible rename Fr _ _ _ _ => F'); (with_reducible rename News _ _ _ _ => N'); (refine' set_allK (s := ⟨_, _, _, _, _⟩) F' N' ?k3 ?k4 ?k5 ?k6 ?k7 ?_; (case k3 => k_mem); (case k4 => k_mem); (case k5 => walk_at "ne"); (case k6 => walk_at "len2"); (case k7 => walk_at "len2")); intro h' n' F' N'; (try k_sweep)))
local macro_rules | `(tactic| walk_at "len2") => `(tactic| (simp only [List.size_toArray, List.length_map]; omega))
local macro_rules | `(tactic| walk_at "ne") => `(tactic| assumption)

section
variable {w : World} {mean : ExcName → Option Value} {mg mb : Str → Option Value} {dp un : Nat} {gd : Option (List Code)} {cn : Str} {cs : Scope} {a : Addr} {ccd : Value} {cl : List (Str × Addr)} {outer : List Env} {A₀ : Around} {base h₀ : Heap} {L : Addr} {m : Str → Option Value} {s : Shared} {Q E : Value → Shared → Prop} {news : List (Addr × Obj)} {x y : Str} {tk tk2 : Tok}
/-- the rows but those under a key -/
def without (es : List (Str × Str)) (k : Str) : List (Str × Str) := es.filter fun e => low e.1 != k
theorem RowsIn.snoc {news : List (Addr × Obj)} : ∀ {vs : List Value} {es : List (Str × Str)}, RowsIn news vs es → ∀ {e : Str × Str} {a : Addr} {t1 t2 : Tok} {n : Nat}, (a, ({ cls := .type "tuple", data := .seq #[.str e.1 t1, .str e.2 t2] n } : Obj)) ∈ news → Good e.1 → RowsIn news (vs ++ [.ref a]) (es ++ [e])
  | [], [], _, e, a, t1, t2, n, hm, G => ⟨⟨a, t1, t2, n, rfl, hm, G⟩, trivial⟩
  | _ :: _, _ :: _, ⟨q, r⟩, e, a, t1, t2, n, hm, G => ⟨q, r.snoc hm G⟩
  | [], _ :: _, h, _, _, _, _, _, _, _ => h.elim
  | _ :: _, [], h, _, _, _, _, _, _, _ => h.elim
theorem without_no {es : List (Str × Str)} {i : Nat} {e : Str × Str} {k : Str} (he : es[i]? = some e) (hk : (low e.1 != k) = true) : without (es.take (i + 1)) k = without (es.take i) k ++ [e] := by
  simp [without, List.take_add_one, he, List.filter_append, List.filter_cons, hk]
theorem without_yes {es : List (Str × Str)} {i : Nat} {e : Str × Str} {k : Str} (he : es[i]? = some e) (hk : (low e.1 != k) = false) : without (es.take (i + 1)) k = without (es.take i) k := by
  simp [without, List.take_add_one, he, List.filter_append, List.filter_cons, hk]
theorem without_len (es : List (Str × Str)) (k : Str) : (without es k).length ≤ es.length := List.length_filter_le _ _
theorem c_del (B : Below A₀ base outer h₀) (F : Fr h₀ L s.heap m) (X : (Kh w).In h₀) (N : News h₀ L s.heap news) (T : Top Vw Ls mean mg mb h₀) (hk : cs.kind = .function) (G : Good x) {t l : Addr} {es : List (Str × Str)} (hT : Tab news t l es) (hes : es.length ≤ 100) (hd : dp + 8 < recursionLimit) (hu : un + 60 < cLine)
    (ret : ∀ news' h' tk', Fr h₀ L h' m → News h₀ L h' news' → Tab news' t l (without es (low x)) → (∀ p ∈ news, p.1 ≠ l → p ∈ news') → (without es (low x)).length ≤ es.length → Q .none { s with heap := h', toks := tk' }) : wpAny (model Pg w) (ktrTop dp un gd cn cs L a ccd cl outer) (call (.ref 135) [.ref t, .str x tk]) Q E s := by
  dsimp only [Pg, Vw, Ls, Kh] at *
  revert X; k_fill; intro X
  have hlx := G.le
  obtain ⟨⟨d, hh, kk, n1, hm1, hm2⟩, ⟨vs, n2, hm3, hrows⟩⟩ := hT
  have hvl := hrows.length
  refine wpAny_call ?_
  k_dflt (walk_at "enterC")
  k_steps
  refine compT_ro (fun i ys => RowsIn news ys (without (es.take i) (low x))) trivial ?_ ?_
  · intro i ys hi hj v I oI C oC D m₂ h tk E' hP hC hx F1 N1 off ne
    obtain ⟨e, he, ad, t1, t2, n, rfl, hmem, Gk⟩ := hrows.at (i := i) (v := v) (by simpa using hP)
    have hGk := Gk.le
    k_steps
    · refine ⟨_, _, _, rfl, by k_asm, by k_asm, off, .inr ⟨_, .tail _ hm3, rfl, _, rfl⟩, rfl, ?_⟩
      rw [without_no he (by assumption)]
      exact hj.snoc hmem Gk
    · refine ⟨_, _, _, rfl, by k_asm, by k_asm, off, .inr ⟨_, .tail _ hm3, rfl, _, rfl⟩, rfl, ?_⟩
      rw [without_yes he (by assumption)]
      exact hj
  · intro ys hj D h tk F1 N1 off
    rw [List.take_of_length_le (by simp; omega)] at hj
    have hyl := hj.length
    have hwl := without_len es (low x)
    have hDl : l ≠ D := (ne_of_off1 off (l, _) (.tail _ hm3))
    dsimp only
    k_steps
    refine ret (setAt l (listOf ys.toArray _) news) _ _ (by walk_at "endF") (cb_drop (by assumption) (setAt_sub fun p hp => .tail _ (.tail _ hp))) ⟨⟨d, hh, kk, n1, mem_setAt_ne hm1 ?_, mem_setAt_ne hm2 ?_⟩, ⟨ys, _, mem_setAt_self hm3, RowsIn.keep N hm3 (fun p hp hne => mem_setAt_ne hp hne) hj⟩⟩ (fun p hp hne => mem_setAt_ne hp hne) hwl
    · intro e; simp only at e; subst e; exact absurd (congrArg Obj.cls (news_same N hm1 hm3)) (by simp)
    · intro e; simp only at e; subst e; exact absurd (congrArg Obj.cls (news_same N hm2 hm3)) (by simp)
end

local macro_rules | `(tactic| walk_at "len3") => `(tactic| first | (simp only [List.size_toArray, List.length_map, Array.size_push, PySem.sizeLine_eq]; omega) | size_fits)
local macro_rules | `(tactic| walk_at "call builtin:list.append") => `(tactic| (k_here; (with_reducible show wpAny _ _ (call (Value.builtin _) [Value.ref _, _]) _ _ _); k_dflt (first | (refine' append_K ?k1 ?k2 ?k3 ?_ ?z; (case k1 => k_asm); (case k2 => k_asm); (case k3 => k_upd); (case z => walk_at "len3"); k_whole) | (refine' append_set ?k1 ?k2 ?k3 ?k4 ?_; (case k1 => k_asm); (case k2 => k_asm); (case k3 => k_mem); (case k4 => walk_at "len3"); k_whole)); intro h' F' N'; (try k_sweep)))
local macro_rules | `(tactic| walk_at "delItem ref str") => `(tactic| (k_here; (with_reducible show wpAny _ _ (delItem (Value.ref _) _) _ _ _); k_dflt (refine' del_own ?F ?X ?I ?hQ ?hS ?hF ?_; (case F => k_asm); (case X => k_asm); (case I => k_inst); (case hS => k_is); (case hF => k_is); (case hQ => k_is); k_whole)))
local macro_rules | `(tactic| walk_at "call ref") => `(tactic| (k_here; (with_reducible show wpAny _ _ (call (Value.ref 135) [Value.ref _, Value.str _ _]) _ _ _); k_dflt (refine c_del (by k_asm) (by k_asm) (by k_asm) (by k_asm) (by k_asm) (by first | exact rfl | assumption) (by walk_at "good") (by walk_at "tab") (by walk_at "hes") (by ktr_room) (by ktr_units) ?_; k_whole; intro news' h' tk' F' N' hT' hk' hwl'; (have hc' := cons_of N'); (have hT9 := hT'); obtain ⟨⟨d', hh', kk', n1', hm1', hm2'⟩, ⟨vs', n2', hm3', hrows'⟩⟩ := hT9; (have hvl' := hrows'.length); (try k_sweep); (try dsimp only))))

section
variable {w : World} {mean : ExcName → Option Value} {mg mb : Str → Option Value} {dp un : Nat} {gd : Option (List Code)} {cn : Str} {cs : Scope} {a : Addr} {ccd : Value} {cl : List (Str × Addr)} {outer : List Env} {A₀ : Around} {base h₀ : Heap} {L : Addr} {m : Str → Option Value} {s : Shared} {Q E : Value → Shared → Prop} {news : List (Addr × Obj)} {x y : Str} {tk tk2 : Tok}
theorem c_set (B : Below A₀ base outer h₀) (F : Fr h₀ L s.heap m) (X : (Kh w).In h₀) (N : News h₀ L s.heap news) (T : Top Vw Ls mean mg mb h₀) (hk : cs.kind = .function) (G : Good x) (G2 : Good y) {t l : Addr} {es : List (Str × Str)} (hT : Tab news t l es) (hes : es.length ≤ 90) (hd : dp + 12 < recursionLimit) (hu : un + 90 < cLine)
    (ret : ∀ news' h' tk', Fr h₀ L h' m → News h₀ L h' news' → Tab news' t l (without es (low x) ++ [(x, y)]) → (∀ p ∈ news, p.1 ≠ l → p ∈ news') → Q .none { s with heap := h', toks := tk' }) : wpAny (model Pg w) (ktrTop dp un gd cn cs L a ccd cl outer) (call (.ref 130) [.ref t, .str x tk, .str y tk2]) Q E s := by
  dsimp only [Pg, Vw, Ls, Kh] at *
  revert X; k_fill; intro X
  have hlx := G.le
  have hly := G2.le
  have hT0 := hT
  obtain ⟨⟨d, hh, kk, n1, hm1, hm2⟩, ⟨vs, n2, hm3, hrows⟩⟩ := hT
  have hvl := hrows.length
  refine wpAny_call ?_
  k_dflt (walk_at "enter")
  k_steps
  exact ret _ _ _ (by walk_at "endF") (by walk_at "endN") (tab_app (by assumption) (by assumption) (by assumption) (by assumption) (by assumption) (by assumption) G) (fun p hp hne => mem_setAt_ne (.tail _ ((by assumption : ∀ p ∈ news, p.1 ≠ l → p ∈ _) p hp hne)) hne)
end

section
variable {w : World} {mean : ExcName → Option Value} {mg mb : Str → Option Value} {dp un : Nat} {gd : Option (List Code)} {cn : Str} {cs : Scope} {a : Addr} {ccd : Value} {cl : List (Str × Addr)} {outer : List Env} {A₀ : Around} {base h₀ : Heap} {L : Addr} {m : Str → Option Value} {s : Shared} {Q E : Value → Shared → Prop} {news : List (Addr × Obj)} {x y : Str} {tk tk2 : Tok}
/-- setdefault's table -/
def addNew (es : List (Str × Str)) (x y : Str) : List (Str × Str) := if (look es (low x)).isNone then es ++ [(x, y)] else es
theorem c_setdef (B : Below A₀ base outer h₀) (F : Fr h₀ L s.heap m) (X : (Kh w).In h₀) (N : News h₀ L s.heap news) (T : Top Vw Ls mean mg mb h₀) (hk : cs.kind = .function) (G : Good x) (G2 : Good y) {t l : Addr} {es : List (Str × Str)} (hT : Tab news t l es) (hes : es.length ≤ 90) (hd : dp + 12 < recursionLimit) (hu : un + 90 < cLine)
    (ret : ∀ val news' h' tk', Fr h₀ L h' m → News h₀ L h' news' → Tab news' t l (addNew es x y) → (∀ p ∈ news, p.1 ≠ l → p ∈ news') → Q val { s with heap := h', toks := tk' }) : wpAny (model Pg w) (ktrTop dp un gd cn cs L a ccd cl outer) (call (.ref 205) [.ref t, .str x tk, .str y tk2]) Q E s := by
  dsimp only [Pg, Vw, Ls, Kh] at *
  revert X; k_fill; intro X
  have hlx := G.le
  have hly := G2.le
  have hT0 := hT
  have hc := cons_of N
  obtain ⟨⟨d, hh, kk, n1, hm1, hm2⟩, ⟨vs, n2, hm3, hrows⟩⟩ := hT
  have hvl := hrows.length
  refine wpAny_call ?_
  k_dflt (walk_at "enter")
  k_steps
  all_goals (first
    | (have e : addNew es x y = es ++ [(x, y)] := by simp_all [addNew]
       rw [e] at ret
       exact ret _ _ _ _ (by walk_at "endF") (by walk_at "endN") (tab_app hc hm1 hm2 hm3 hrows (by assumption) G) (fun p hp hne => mem_setAt_ne (.tail _ hp) hne))
    | (have e : addNew es x y = es := by simp_all [addNew]
       rw [e] at ret
       exact ret _ _ _ _ (by walk_at "endF") (by walk_at "endN") hT0 (fun p hp _ => hp)))
end

section
variable {w : World} {mean : ExcName → Option Value} {mg mb : Str → Option Value} {dp un : Nat} {gd : Option (List Code)} {cn : Str} {cs : Scope} {a : Addr} {ccd : Value} {cl : List (Str × Addr)} {outer : List Env} {A₀ : Around} {base h₀ : Heap} {L : Addr} {m : Str → Option Value} {s : Shared} {Q E : Value → Shared → Prop} {news : List (Addr × Obj)} {x y : Str} {tk tk2 : Tok}
theorem join_one (sep y : Str) : Txt.join sep [y] = y := by
  simp [Txt.join, PySem.Builtin.Str.glued, Str.empty, Str.append]
theorem c_add (B : Below A₀ base outer h₀) (F : Fr h₀ L s.heap m) (X : (Kh w).In h₀) (N : News h₀ L s.heap news) (T : Top Vw Ls mean mg mb h₀) (hk : cs.kind = .function) (G : Good x) (G2 : Good y) {t l : Addr} {es : List (Str × Str)} (hT : Tab news t l es) (hes : es.length ≤ 90) (hd : dp + 12 < recursionLimit) (hu : un + 90 < cLine)
    (ret : ∀ news' h' tk', Fr h₀ L h' m → News h₀ L h' news' → Tab news' t l (es ++ [(x, y)]) → (∀ p ∈ news, p.1 ≠ l → p ∈ news') → Q .none { s with heap := h', toks := tk' }) : wpAny (model Pg w) (ktrTop dp un gd cn cs L a ccd cl outer) (call (.ref 212) [.ref t, .str x tk, .str y tk2]) Q E s := by
  dsimp only [Pg, Vw, Ls, Kh] at *
  revert X; k_fill; intro X
  have hlx := G.le
  have hly := G2.le
  have hT0 := hT
  have hc := cons_of N
  obtain ⟨⟨d, hh, kk, n1, hm1, hm2⟩, ⟨vs, n2, hm3, hrows⟩⟩ := hT
  have hvl := hrows.length
  refine wpAny_call ?_
  k_dflt (walk_at "enterM")
  k_steps
  rename_i hall _ _ _ kF kN _ _
  rw [join_one] at kN
  have hall' := hall.2.2.2
  exact ret _ _ _ kF (cb_drop kN (setAt_sub (led := (_, tupObj x y _ _ 0) :: news) (fun p hp => (List.mem_cons.mp hp).elim (fun e => e ▸ .head _) (fun h => .tail _ (.tail _ (.tail _ (.tail _ h))))))) (tab_app hc hm1 hm2 hm3 hrows (fun p hp => allLt_mem hall' hp) G) (fun p hp hne => mem_setAt_ne (.tail _ hp) hne)
end

local macro_rules | `(tactic| walk_at "subscriptTail Name Slice ref ref") => `(tactic| (k_here; (with_reducible show wpAny _ _ (subscriptTail _ (PySem.Expr.Slice _ _ none _) (Value.ref _) (Value.ref _)) _ _ _); k_dflt (refine' kms_slice_lit ?F ?N ?l ?p ?q ?e ?_ ?s ?t ?z; (case F => k_asm); (case N => k_asm); (case l => first | exact News.isList (by k_asm) (by k_mem) | kmk_list); (case p => kmk_part); (case q => kmk_part); (case e => exact rfl); (case s => with_unfolding_all rfl); (case t => kmk_pure); (case z => walk_at "len")); intro D' h' F' N' l1; (try k_sweep)))
local macro_rules | `(tactic| walk_at "len") => `(tactic| first | (simp only [List.size_toArray, List.length_map, strValues, PySem.sizeLine_eq]; omega) | size_fits)

section
variable {w : World} {mean : ExcName → Option Value} {mg mb : Str → Option Value} {dp un : Nat} {gd : Option (List Code)} {cn : Str} {cs : Scope} {a : Addr} {ccd : Value} {cl : List (Str × Addr)} {outer : List Env} {A₀ : Around} {base h₀ : Heap} {L : Addr} {m : Str → Option Value} {s : Shared} {Q E : Value → Shared → Prop} {news : List (Addr × Obj)} {x y : Str} {tk tk2 : Tok}
theorem c_new (B : Below A₀ base outer h₀) (F : Fr h₀ L s.heap m) (X : (Kh w).In h₀) (N : News h₀ L s.heap news) (T : Top Vw Ls mean mg mb h₀) (hk : cs.kind = .function) (hd : dp + 12 < recursionLimit) (hu : un + 90 < cLine)
    (ret : ∀ t l news' h' tk', Fr h₀ L h' m → News h₀ L h' news' → Tab news' t l [] → (∀ p ∈ news, p ∈ news') → (∀ p ∈ news, p.1 < l) → Q (.ref t) { s with heap := h', toks := tk' }) : wpAny (model Pg w) (ktrTop dp un gd cn cs L a ccd cl outer) (call (.ref 215) []) Q E s := by
  dsimp only [Pg, Vw, Ls, Kh] at *
  revert X; k_fill; intro X
  k_dflt (refine' call_cls ?k1 ?k2 ?k3 ?k4 ?k5 ?k6 ?_; (case k1 => k_asm); (case k2 => k_asm); (case k3 => k_asm); (case k4 => k_is); (case k5 => k_is); (case k6 => k_is); k_whole)
  intro x' d' h' F' N' l1 l2
  k_lt2 l2
  k_dflt (walk_at "enter")
  k_steps
  rename_i hall _ _ _ _ _ _ _ _ _ _ _ kF kN _ _
  exact ret x' _ _ _ _ kF kN ⟨⟨d', _, _, _, .tail _ (.head _), .tail _ (.tail _ (.head _))⟩, ⟨[], 0, .head _, trivial⟩⟩ (fun p hp => .tail _ (.tail _ (.tail _ hp))) (fun p hp => allLt_mem hall.2.2 hp)
theorem c_items (B : Below A₀ base outer h₀) (F : Fr h₀ L s.heap m) (X : (Kh w).In h₀) (N : News h₀ L s.heap news) (T : Top Vw Ls mean mg mb h₀) (hk : cs.kind = .function) {t l : Addr} {es : List (Str × Str)} {nw : List (Addr × Obj)} (hT : Tab nw t l es) (hsb : ∀ p ∈ nw, p ∈ news) (hes : es.length ≤ 90) (hd : dp + 12 < recursionLimit) (hu : un + 90 < cLine)
    (ret : ∀ r vs n h' tk', RowsIn nw vs es → Fr h₀ L h' m → News h₀ L h' ((r, listOf vs.toArray n) :: news) → (∀ p ∈ news, p.1 ≠ r) → Q (.ref r) { s with heap := h', toks := tk' }) : wpAny (model Pg w) (ktrTop dp un gd cn cs L a ccd cl outer) (call (.ref 179) [.ref t]) Q E s := by
  dsimp only [Pg, Vw, Ls, Kh] at *
  revert X; k_fill; intro X
  have hc := cons_of N
  obtain ⟨⟨d, hh, kk, n1, hm1, hm2⟩, ⟨vs, n2, hm3, hrows⟩⟩ := hT
  have hvl := hrows.length
  replace hm1 := hsb _ hm1
  replace hm2 := hsb _ hm2
  replace hm3 := hsb _ hm3
  refine wpAny_call ?_
  k_dflt (walk_at "enter")
  k_steps
  rename_i hlt kF kN _ _
  have e : kms_pick vs.toArray.toList none none = vs := by simp [kms_pick, kms_lo, kms_hi]
  rw [e] at kN
  exact ret _ _ _ _ _ hrows kF kN (fun p hp => Nat.ne_of_lt (hlt p hp))
end

section
local macro_rules | `(tactic| walk_at "len") => `(tactic| first | (simp only [List.size_toArray, List.length_map, PySem.sizeLine_eq]; omega) | size_fits)
local macro_rules | `(tactic| walk_at "eval ListComp") => `(tactic| (k_here; k_dflt (first | refine comp_TupT (by k_asm) (by with_unfolding_all rfl) (by decide) (by rfl) (by decide) (by rfl) ?_ | refine comp_TupU (by k_asm) (by with_unfolding_all rfl) (by decide) (by rfl) (by decide) (by rfl) ?_)))
local macro_rules | `(tactic| walk_at "TupSrcT") => `(tactic| (k_here; k_dflt (refine' TupSrcT.intro ?k1 ?k2 ?k3 ?k4 ?k5 ?_; (case k1 => exact rfl); (case k2 => k_asm); (case k3 => k_asm); (case k4 => k_mem); (case k5 => walk_at "len")); intro g'))
local macro_rules | `(tactic| walk_at "TupSrcU") => `(tactic| (k_here; k_dflt (refine' TupSrcU.intro ?k1 ?k2 ?k3 ?k4 ?k5 ?_; (case k1 => exact rfl); (case k2 => k_asm); (case k3 => k_asm); (case k4 => k_mem); (case k5 => walk_at "len")); intro g'))
local macro_rules | `(tactic| walk_at "call builtin:str.join") => `(tactic| (k_here; (with_reducible show wpAny _ _ (call (Value.builtin "str.join") [Value.str _ _, Value.ref _]) _ _ _); k_dflt (refine' join_listC (News.isList (by k_asm) (by k_mem)) ?k1 (by decide) ?k2 ?_; (case k1 => exact TxtsAre.strs (by assumption)); (case k2 => assumption); intro t' k')))
section
variable {w : World} {mean : ExcName → Option Value} {mg mb : Str → Option Value} {dp un : Nat} {gd : Option (List Code)} {cn : Str} {cs : Scope} {a : Addr} {ccd : Value} {cl : List (Str × Addr)} {outer : List Env} {A₀ : Around} {base h₀ : Heap} {L : Addr} {m : Str → Option Value} {s : Shared} {Q E : Value → Shared → Prop} {news : List (Addr × Obj)} {x y : Str} {tk tk2 : Tok}
theorem fig_rng (a k : Int) (hk : 0 < k) (h6 : k ≤ 6) : 0 ≤ Int.fmod a k ∧ Int.fmod a k < 6 :=
  ⟨Int.fmod_nonneg_of_pos a hk, Int.lt_of_lt_of_le (Int.fmod_lt_of_pos a hk) h6⟩
theorem figs4 (a1 a2 a3 a4 k1 k2 k3 k4 : Int) (p1 : 0 < k1) (q1 : k1 ≤ 6) (p2 : 0 < k2) (q2 : k2 ≤ 6) (p3 : 0 < k3) (q3 : k3 ≤ 6) (p4 : 0 < k4) (q4 : k4 ≤ 6) : ∀ i ∈ [Int.fmod a1 k1, Int.fmod a2 k2, Int.fmod a3 k3, Int.fmod a4 k4], 0 ≤ i ∧ i < 6 := by
  intro i hi
  simp only [List.mem_cons, List.not_mem_nil, or_false] at hi
  rcases hi with rfl | rfl | rfl | rfl
  · exact fig_rng _ _ p1 q1
  · exact fig_rng _ _ p2 q2
  · exact fig_rng _ _ p3 q3
  · exact fig_rng _ _ p4 q4
theorem figs3 (a1 a2 a3 k1 k2 k3 : Int) (p1 : 0 < k1) (q1 : k1 ≤ 6) (p2 : 0 < k2) (q2 : k2 ≤ 6) (p3 : 0 < k3) (q3 : k3 ≤ 6) : ∀ i ∈ [Int.fmod a1 k1, Int.fmod a2 k2, Int.fmod a3 k3], 0 ≤ i ∧ i < 6 := by
  intro i hi
  simp only [List.mem_cons, List.not_mem_nil, or_false] at hi
  rcases hi with rfl | rfl | rfl
  · exact fig_rng _ _ p1 q1
  · exact fig_rng _ _ p2 q2
  · exact fig_rng _ _ p3 q3
/-- the five labels -/
def lab (i : Int) : Str := if i = 0 then Str.ofString "a" else if i = 1 then Str.ofString "B" else if i = 2 then Str.ofString "com" else if i = 3 then Str.ofString "local" else Str.ofString "77"
def labs (is : List Int) : List Str := (is.filter fun i => decide (i < 5)).map lab
theorem labs_yes {is : List Int} {k : Nat} {i : Int} (he : is[k]? = some i) (hk : i < 5) : labs (is.take (k + 1)) = labs (is.take k) ++ [lab i] := by
  simp [labs, List.take_add_one, he, List.filter_append, hk]
theorem labs_no {is : List Int} {k : Nat} {i : Int} (he : is[k]? = some i) (hk : ¬ i < 5) : labs (is.take (k + 1)) = labs (is.take k) := by
  simp [labs, List.take_add_one, he, List.filter_append, hk]
theorem lab_len (i : Int) : (lab i).length ≤ 5 := by
  unfold lab
  split
  · decide
  · split
    · decide
    · split
      · decide
      · split <;> decide
theorem labs_sum : ∀ is : List Int, ((labs is).map (·.length)).sum + (labs is).length * 64 ≤ is.length * 69
  | [] => by simp [labs]
  | i :: is => by
    have ih := labs_sum is
    have hl := lab_len i
    by_cases h : i < 5
    · have e : labs (i :: is) = lab i :: labs is := by simp [labs, h]
      rw [e]
      simp only [List.map_cons, List.sum_cons, List.length_cons]
      omega
    · have e : labs (i :: is) = labs is := by simp [labs, h]
      rw [e]
      simp only [List.length_cons]
      omega
theorem lab_ok (i : Int) : ∀ c ∈ (lab i).cps, okc c = true := by
  unfold lab
  split
  · decide
  · split
    · decide
    · split
      · decide
      · split <;> decide
theorem labs_ok (is : List Int) : ∀ x ∈ labs is, x.cps.size ≤ 5 ∧ ∀ c ∈ x.cps, okc c = true := fun x hx => by
  obtain ⟨i, _, rfl⟩ := List.mem_map.mp hx
  exact ⟨lab_len i, lab_ok i⟩
theorem labs_len (is : List Int) : (labs is).length ≤ is.length := by
  simp only [labs, List.length_map]; exact List.length_filter_le _ _
theorem glue_ok (sep : Array Nat) (hs : sep.size ≤ 1) (ho : ∀ c ∈ sep, okc c = true) : ∀ (xs : List Str) (acc : Array Nat), (∀ x ∈ xs, x.cps.size ≤ 5 ∧ ∀ c ∈ x.cps, okc c = true) → (∀ c ∈ acc, okc c = true) →
    (xs.foldl (fun acc p => acc ++ sep ++ p.cps) acc).size ≤ acc.size + 6 * xs.length ∧ ∀ c ∈ xs.foldl (fun acc p => acc ++ sep ++ p.cps) acc, okc c = true
  | [], acc, _, ha => ⟨by simp, by simpa using ha⟩
  | x :: xs, acc, hx, ha => by
    have h1 := hx x (.head _)
    have ih := glue_ok sep hs ho xs (acc ++ sep ++ x.cps) (fun y hy => hx y (.tail _ hy)) (fun c hc => by
      simp only [Array.mem_append] at hc
      rcases hc with (hc | hc) | hc
      · exact ha c hc
      · exact ho c hc
      · exact h1.2 c hc)
    refine ⟨?_, ih.2⟩
    have := ih.1
    simp only [Array.size_append] at this
    simp only [List.foldl_cons, List.length_cons]
    omega
theorem join_good (xs : List Str) (hn : xs.length ≤ 8) (hx : ∀ x ∈ xs, x.cps.size ≤ 5 ∧ ∀ c ∈ x.cps, okc c = true) : Good (Txt.join (Str.ofString ".") xs) := by
  cases xs with
  | nil => exact ⟨by decide, by decide⟩
  | cons x r =>
    have h := glue_ok (Str.ofString ".").cps (by decide) (by decide) r x.cps (fun y hy => hx y (.tail _ hy)) (hx x (.head _)).2
    have hs := (hx x (.head _)).1
    have hl : r.length ≤ 7 := by simp only [List.length_cons] at hn; omega
    exact ⟨Nat.le_trans h.1 (by omega), h.2⟩
theorem labs_short (is : List Int) (hn : is.length ≤ 8) : (Txt.join (Str.ofString ".") (labs is)).length ≤ 50 := by
  have hl := labs_len is
  have hx := labs_ok is
  generalize labs is = xs at hl hx
  cases xs with
  | nil => decide
  | cons x r =>
    have h := glue_ok (Str.ofString ".").cps (by decide) (by decide) r x.cps (fun y hy => hx y (.tail _ hy)) (hx x (.head _)).2
    have hs := (hx x (.head _)).1
    have hl' : r.length ≤ 7 := by simp only [List.length_cons] at hl; omega
    exact Nat.le_trans h.1 (by omega)
theorem labs_good (is : List Int) (hn : is.length ≤ 8) : Good (Txt.join (Str.ofString ".") (labs is)) := join_good _ (Nat.le_trans (labs_len is) hn) (labs_ok is)
theorem c_labels (B : Below A₀ base outer h₀) (F : Fr h₀ L s.heap m) (X : (Kh w).In h₀) (N : News h₀ L s.heap news) (T : Top Vw Ls mean mg mb h₀) (hk : cs.kind = .function) {f : Addr} {is : List Int} {vs : List Value} {n : Nat} (hf : (f, ({ cls := .type "tuple", data := .seq vs.toArray n } : Obj)) ∈ news) (hv : IntsAre vs is) (hb : ∀ i ∈ is, 0 ≤ i ∧ i < 6) (hn : is.length ≤ 8) (hd : dp + 12 < recursionLimit) (hu : un + 90 < cLine)
    (ret : ∀ (t : Tok) h' tk', Good (Txt.join (Str.ofString ".") (labs is)) → (Txt.join (Str.ofString ".") (labs is)).length ≤ 50 → Fr h₀ L h' m → News h₀ L h' news → Q (.str (Txt.join (Str.ofString ".") (labs is)) t) { s with heap := h', toks := tk' }) : wpAny (model Pg w) (ktrTop dp un gd cn cs L a ccd cl outer) (call (.ref 224) [.ref f]) Q E s := by
  dsimp only [Pg, Vw, Ls, Kh] at *
  revert X; k_fill; intro X
  have hvl := hv.length
  refine wpAny_call ?_
  k_dflt (walk_at "enterC")
  k_steps
  refine compT_ro (fun i ys => TxtsAre ys (labs (is.take i))) trivial ?_ ?_
  · intro k ys hi hj v I oI C oC D m₂ h tk E' hP hC hx F1 N1 off ne
    obtain ⟨i, t, rfl, hk'⟩ := hv.at k v (by simpa using hP)
    have hbi := hb i (List.mem_of_getElem? hk')
    have h6 : i = 0 ∨ i = 1 ∨ i = 2 ∨ i = 3 ∨ i = 4 ∨ i = 5 := by omega
    rcases h6 with rfl | rfl | rfl | rfl | rfl | rfl
    all_goals k_steps
    all_goals refine ⟨_, _, _, rfl, by k_asm, by k_asm, off, ⟨_, .tail _ (.tail _ hf), rfl, _, rfl⟩, rfl, ?_⟩
    · rw [labs_yes hk' (by omega)]; exact hj.snoc _ _
    · rw [labs_yes hk' (by omega)]; exact hj.snoc _ _
    · rw [labs_yes hk' (by omega)]; exact hj.snoc _ _
    · rw [labs_yes hk' (by omega)]; exact hj.snoc _ _
    · rw [labs_yes hk' (by omega)]; exact hj.snoc _ _
    · rw [labs_no hk' (by omega)]; exact hj
  · intro ys hj D h tk F1 N1 off
    rw [List.take_of_length_le (by simp; omega)] at hj
    have hsum : ((labs is).map (·.length)).sum + (labs is).length * 64 ≤ 16777216 := Nat.le_trans (labs_sum is) (by omega)
    dsimp only
    k_steps
    exact ret _ _ _ (labs_good is hn) (labs_short is hn) (by walk_at "endF") (by walk_at "endN")
end
end

local macro_rules | `(tactic| walk_at "figs") => `(tactic| first | exact figs4 _ _ _ _ _ _ _ _ (by decide) (by decide) (by decide) (by decide) (by decide) (by decide) (by decide) (by decide) | exact figs3 _ _ _ _ _ _ (by decide) (by decide) (by decide) (by decide) (by decide) (by decide))

local macro_rules | `(tactic| walk_at "call ref") => `(tactic| (k_here; (with_reducible show wpAny _ _ (call (Value.ref 224) [Value.ref _]) _ _ _); k_dflt (refine c_labels (by k_asm) (by k_asm) (by k_asm) (by k_asm) (by k_asm) (by first | exact rfl | assumption) (by k_mem) (by first | exact IntsAre.cons _ _ (IntsAre.cons _ _ (IntsAre.cons _ _ (IntsAre.cons _ _ IntsAre.nil))) | exact IntsAre.cons _ _ (IntsAre.cons _ _ (IntsAre.cons _ _ IntsAre.nil))) (by walk_at "figs") (by exact Nat.le_of_ble_eq_true rfl) (by ktr_room) (by ktr_units) ?_; k_whole; intro t' h' tk' G' hl' F' N'; (try k_sweep); (try dsimp only))))

section
variable {w : World} {mean : ExcName → Option Value} {mg mb : Str → Option Value} {dp un : Nat} {gd : Option (List Code)} {cn : Str} {cs : Scope} {a : Addr} {ccd : Value} {cl : List (Str × Addr)} {outer : List Env} {A₀ : Around} {base h₀ : Heap} {L : Addr} {m : Str → Option Value} {s : Shared} {Q E : Value → Shared → Prop} {news : List (Addr × Obj)} {x y : Str} {tk tk2 : Tok}
/-- the figures of a host -/
def hostFigs (n : Int) : List Int := [Int.fmod n 6, Int.fmod (Int.fdiv n 6) 6, Int.fmod (Int.fdiv n 36) 6, Int.fmod (Int.fdiv n 216) 5]
def hostT (is : List Int) : Str := Txt.join (Str.ofString ".") (labs is)
theorem host_good (is : List Int) (hn : is.length ≤ 8) : Good (hostT is) := labs_good is hn
theorem c_host (B : Below A₀ base outer h₀) (F : Fr h₀ L s.heap m) (X : (Kh w).In h₀) (N : News h₀ L s.heap news) (T : Top Vw Ls mean mg mb h₀) (hk : cs.kind = .function) {n : Int} (h0 : 0 ≤ n) (h1 : n < 777600) (hd : dp + 15 < recursionLimit) (hu : un + 130 < cLine)
    (ret : ∀ (t : Tok) h' tk', Good (hostT (hostFigs n)) → (hostT (hostFigs n)).length ≤ 50 → Fr h₀ L h' m → News h₀ L h' news → Q (.str (hostT (hostFigs n)) t) { s with heap := h', toks := tk' }) : wpAny (model Pg w) (ktrTop dp un gd cn cs L a ccd cl outer) (call (.ref 231) [.int n tk]) Q E s := by
  dsimp only [Pg, Vw, Ls, Kh] at *
  revert X; k_fill; intro X
  refine wpAny_call ?_
  k_dflt (walk_at "enter")
  k_steps
  exact ret _ _ _ (by assumption) (by assumption) (by walk_at "endF") (by walk_at "endN")
end

section
theorem tjoin_eq (sep : Str) (xs : List Str) : Txt.join sep xs = Str.join sep xs := by
  unfold Txt.join
  cases xs with
  | nil => rfl
  | cons x r => exact StrLaws.glued_cons sep r x
theorem sjoin_cons (sep x y : Str) (r : List Str) : Str.join sep (x :: y :: r) = x ++ sep ++ Str.join sep (y :: r) := rfl
theorem good_app_right {a b : Str} (G : Good (a ++ b)) : Good b := by
  refine ⟨?_, fun c hc => G.all c ?_⟩
  · have h := G.len
    have e : (a ++ b).cps.size = a.cps.size + b.cps.size := by show (a.cps ++ b.cps).size = _; simp
    omega
  · show c ∈ a.cps ++ b.cps
    simp [hc]
theorem good_join_tail {sep x : Str} {r : List Str} (hr : r ≠ []) (G : Good (Str.join sep (x :: r))) : Good (Str.join sep r) := by
  cases r with
  | nil => exact absurd rfl hr
  | cons y r =>
    rw [sjoin_cons] at G
    exact good_app_right G
theorem good_join_drop {sep : Str} : ∀ (xs : List Str) (k : Nat), Good (Str.join sep xs) → Good (Str.join sep (xs.drop k))
  | xs, 0, G => G
  | [], k + 1, G => by simpa using G
  | x :: r, k + 1, G => by
    by_cases hr : r = []
    · subst hr
      rw [List.drop_succ_cons, List.drop_nil]
      show Good Str.empty
      exact ⟨by decide, by decide⟩
    · rw [List.drop_succ_cons]
      exact good_join_drop r k (good_join_tail hr G)
theorem good_app {a b : Str} (ha : a.length ≤ 1) (hao : ∀ c ∈ a.cps, okc c = true) (G : Good b) (hb : b.length ≤ 59) : Good (a ++ b) := by
  refine ⟨?_, fun c hc => ?_⟩
  · show (a.cps ++ b.cps).size ≤ 60
    rw [Array.size_append]
    have h1 : a.cps.size ≤ 1 := ha
    have h2 : b.cps.size ≤ 59 := hb
    omega
  · have hc' : c ∈ a.cps ++ b.cps := hc
    rw [Array.mem_append] at hc'
    rcases hc' with h | h
    · exact hao c h
    · exact G.all c h
theorem strsAre_drop : ∀ {vs : List Value} {xs : List Str}, StrsAre vs xs → ∀ k, StrsAre (vs.drop k) (xs.drop k)
  | _, _, h, 0 => h
  | _, _, .nil, k + 1 => by simpa using StrsAre.nil
  | _, _, .cons y t r, k + 1 => by simpa using strsAre_drop r k
theorem pick_drop (vs : List Value) (lo : Option Int) : kms_pick vs lo none = vs.drop (kms_lo lo vs.length) := by
  unfold kms_pick kms_hi
  apply List.take_of_length_le
  simp
/-- a join's length from its parts -/
theorem join_length_ge (sep : Str) (xs : List Str) : (xs.map (·.length)).sum ≤ (Str.join sep xs).length := by
  match xs with
  | [] => simp
  | [x] => simp [Str.join]
  | x :: y :: r =>
    have ih := join_length_ge sep (y :: r)
    rw [sjoin_cons]
    have e : (x ++ sep ++ Str.join sep (y :: r)).length = x.length + sep.length + (Str.join sep (y :: r)).length := by
      rw [Str.length_append, Str.length_append]
    rw [e]
    simp only [List.map_cons, List.sum_cons] at ih ⊢
    omega
theorem join_count (sep : Str) (hs : 1 ≤ sep.length) (xs : List Str) : xs.length ≤ (Str.join sep xs).length + 1 := by
  match xs with
  | [] => simp
  | [x] => simp
  | x :: y :: r =>
    have ih := join_count sep hs (y :: r)
    rw [sjoin_cons]
    have e : (x ++ sep ++ Str.join sep (y :: r)).length = x.length + sep.length + (Str.join sep (y :: r)).length := by
      rw [Str.length_append, Str.length_append]
    rw [e]
    simp only [List.length_cons] at ih ⊢
    omega
theorem sum_drop_le (xs : List Nat) (k : Nat) : (xs.drop k).sum ≤ xs.sum := by
  induction xs generalizing k with
  | nil => simp
  | cons x r ih =>
    cases k with
    | zero => simp
    | succ k => rw [List.drop_succ_cons, List.sum_cons]; have := ih k; omega
/-- what a split text's end, joined, asks for and gives -/
theorem split_end {x : Str} (G : Good x) (k : Nat) : (((Txt.split x (Str.ofString ".")).drop k).map (·.length)).sum + ((Txt.split x (Str.ofString ".")).drop k).length * 64 ≤ 16777216 ∧ Good (Txt.join (Str.ofString ".") ((Txt.split x (Str.ofString ".")).drop k)) := by
  have hj := StrLaws.join_split x (Str.ofString ".")
  have h1 := join_length_ge (Str.ofString ".") (Txt.split x (Str.ofString "."))
  have h2 := join_count (Str.ofString ".") (by decide) (Txt.split x (Str.ofString "."))
  rw [hj] at h1 h2
  have hl := G.le
  constructor
  · rw [List.map_drop]
    have := sum_drop_le ((Txt.split x (Str.ofString ".")).map (·.length)) k
    have h3 : ((Txt.split x (Str.ofString ".")).drop k).length ≤ (Txt.split x (Str.ofString ".")).length := by simp
    omega
  · rw [tjoin_eq]
    exact good_join_drop _ _ (by rw [hj]; exact G)
theorem split_count {x : Str} (G : Good x) : (Txt.split x (Str.ofString ".")).length ≤ 61 := by
  have hj := StrLaws.join_split x (Str.ofString ".")
  have h2 := join_count (Str.ofString ".") (by decide) (Txt.split x (Str.ofString "."))
  rw [hj] at h2
  have hl := G.le
  omega

theorem join_drop_le (sep : Str) : ∀ (xs : List Str) (k : Nat), (Str.join sep (xs.drop k)).length ≤ (Str.join sep xs).length
  | xs, 0 => Nat.le_refl _
  | [], k + 1 => by simp
  | [x], k + 1 => by simp [Str.join, Str.empty, Str.length]
  | x :: y :: r, k + 1 => by
    rw [List.drop_succ_cons, sjoin_cons]
    have ih := join_drop_le sep (y :: r) k
    have e : (x ++ sep ++ Str.join sep (y :: r)).length = x.length + sep.length + (Str.join sep (y :: r)).length := by
      rw [Str.length_append, Str.length_append]
    rw [e]
    omega
section
variable {prog : Program} {w : World} {A : Around} {E : Value → Shared → Prop} {s : Shared} {h₀ : Heap} {L : Addr} {led : List (Addr × Obj)} {Q : Value → Shared → Prop}
theorem join_pick {D : Addr} {l : List (Str × Tok)} {x : Str} {lo : Option Int} {t : Tok} (N : News h₀ L s.heap led) (hl : (D, listOf (kms_pick (strValues l).toArray.toList lo none).toArray 0) ∈ led) (a : StrsAre (strValues l) (l.map (·.1))) (e : l.map (·.1) = Txt.split x (Str.ofString ".")) (G : Good x) (hx : x.length ≤ 50)
    (h : ∀ r t' k, Good r → r.length ≤ 50 → Q (.str r t') { s with toks := k }) : wpAny (model prog w) A (call (.builtin "str.join") [.str (Str.ofString ".") t, .ref D]) Q E s := by
  have q := split_end G (kms_lo lo (strValues l).length)
  refine join_listC (News.isList N hl) (ys := (l.map (·.1)).drop (kms_lo lo (strValues l).length)) ?_ (by decide) ?_ (fun t' k => h _ t' k ?_ ?_)
  · show StrsAre (kms_pick (strValues l) lo none) _
    rw [pick_drop]
    exact strsAre_drop a _
  · rw [e]; exact q.1
  · rw [e]; exact q.2
  · rw [e, tjoin_eq]
    refine Nat.le_trans (join_drop_le _ _ _) ?_
    rw [StrLaws.join_split]
    exact hx
end
end

section
local macro_rules | `(tactic| walk_at "call builtin:str.split") => `(tactic| (k_here; (with_reducible show wpAny _ _ (call (Value.builtin "str.split") [Value.str _ _, Value.str _ _]) _ _ _); k_dflt (refine' KSpl.split1 ?k1 ?k2 (by decide) ?_ ?z; (case k1 => k_asm); (case k2 => k_asm); (case z => (rw [PySem.sizeLine_eq]; omega))); intro D' l' h' k' e' a' F' N' l1; (have hcnt' := split_count (by walk_at "good")); (have hll' := congrArg List.length e'); (simp only [List.length_map] at hll'); (try k_sweep)))
local macro_rules | `(tactic| walk_at "call builtin:str.join") => `(tactic| (k_here; (with_reducible show wpAny _ _ (call (Value.builtin "str.join") [Value.str _ _, Value.ref _]) _ _ _); k_dflt (refine' join_pick ?k1 ?k2 ?k3 ?k4 ?k5 ?k6 ?_; (case k1 => k_asm); (case k2 => k_mem); (case k3 => assumption); (case k4 => assumption); (case k5 => walk_at "good"); (case k6 => assumption)); intro r' t' k' G' hl'))
local macro_rules | `(tactic| walk_at "good") => `(tactic| first | assumption | exact good_app (by decide) (by decide) (by assumption) (by omega))
local macro_rules | `(tactic| walk_at "call ref") => `(tactic| (k_here; (with_reducible show wpAny _ _ (call (Value.ref 231) [Value.int _ _]) _ _ _); k_dflt (refine c_host (by k_asm) (by k_asm) (by k_asm) (by k_asm) (by k_asm) (by first | exact rfl | assumption) (by assumption) (by assumption) (by ktr_room) (by ktr_units) ?_; k_whole; intro t' h' tk' G' hl' F' N'; (try k_sweep); (try dsimp only))))
section
variable {w : World} {mean : ExcName → Option Value} {mg mb : Str → Option Value} {dp un : Nat} {gd : Option (List Code)} {cn : Str} {cs : Scope} {a : Addr} {ccd : Value} {cl : List (Str × Addr)} {outer : List Env} {A₀ : Around} {base h₀ : Heap} {L : Addr} {m : Str → Option Value} {s : Shared} {Q E : Value → Shared → Prop} {news : List (Addr × Obj)} {x y : Str} {tk tk2 : Tok}
theorem c_rule (B : Below A₀ base outer h₀) (F : Fr h₀ L s.heap m) (X : (Kh w).In h₀) (N : News h₀ L s.heap news) (T : Top Vw Ls mean mg mb h₀) (hk : cs.kind = .function) {n : Int} (h0 : 0 ≤ n) (h1 : n < 777600) (hd : dp + 20 < recursionLimit) (hu : un + 170 < cLine)
    (ret : ∀ (r : Str) (t : Tok) h' tk', Good r → Fr h₀ L h' m → News h₀ L h' news → Q (.str r t) { s with heap := h', toks := tk' }) : wpAny (model Pg w) (ktrTop dp un gd cn cs L a ccd cl outer) (call (.ref 238) [.int n tk]) Q E s := by
  dsimp only [Pg, Vw, Ls, Kh] at *
  revert X; k_fill; intro X
  refine wpAny_call ?_
  k_dflt (walk_at "enter")
  k_steps
  all_goals first | exact ret _ _ _ _ (by walk_at "good") (by walk_at "endF") (by walk_at "endN") | trace_state
end
end

section
/-- a mark at which the walk rests -/
def Stop (P : Prop) : Prop := P
theorem stop_here {P : Prop} (h : Stop P) : P := h
theorem stop_go {P : Prop} (h : P) : Stop P := h
theorem Tab.keepC {led led' : List (Addr × Obj)} {t l l2 : Addr} {its : Array Value} {n : Nat} {es : List (Str × Str)} (hc : Cons led) (hl : (l, listOf its n) ∈ led) (T : Tab led t l2 es) (hne : l2 ≠ l) (hk : ∀ p ∈ led, p.1 ≠ l → p ∈ led') : Tab led' t l2 es := by
  obtain ⟨⟨d, hh, kk, n1, hm1, hm2⟩, ⟨vs, n2, hm3, hrows⟩⟩ := T
  exact ⟨⟨d, hh, kk, n1, hk _ hm1 (hc.ne hm1 hl (by simp)), hk _ hm2 (hc.ne hm2 hl (by simp))⟩, ⟨vs, n2, hk _ hm3 hne, RowsIn.keepC hc hl hk hrows⟩⟩
theorem Tab.at {led : List (Addr × Obj)} {t l : Addr} {es : List (Str × Str)} (T : Tab led t l es) : ∃ its n, (l, listOf its n) ∈ led :=
  let ⟨vs, n, h, _⟩ := T.list; ⟨_, n, h⟩
theorem Tab.keepT {led led' : List (Addr × Obj)} {t l t2 l2 : Addr} {es es2 : List (Str × Str)} (hc : Cons led) (T : Tab led t l es) (T2 : Tab led t2 l2 es2) (hne : l2 ≠ l) (hk : ∀ p ∈ led, p.1 ≠ l → p ∈ led') : Tab led' t2 l2 es2 :=
  let ⟨_, _, h⟩ := T.at; T2.keepC hc h hne hk
/-- what is no iterator -/
def plainC (o : Obj) : Prop := o.cls ≠ .type "enumerate" ∧ o.cls ≠ .type "list_iterator"
/-- the ledger less two places -/
def less (a b : Addr) (led : List (Addr × Obj)) : List (Addr × Obj) := led.filter fun p => decide (p.1 ≠ a) && decide (p.1 ≠ b)
theorem mem_less {a b : Addr} {led : List (Addr × Obj)} {p : Addr × Obj} (h : p ∈ led) (ha : p.1 ≠ a) (hb : p.1 ≠ b) : p ∈ less a b led := by
  simp [less, h, ha, hb]
theorem less_mem {a b : Addr} {led : List (Addr × Obj)} {p : Addr × Obj} (h : p ∈ less a b led) : p ∈ led ∧ p.1 ≠ a ∧ p.1 ≠ b := by
  simpa [less] using h
theorem Tab.less {a b : Addr} {oa ob : Obj} {led : List (Addr × Obj)} {t l : Addr} {es : List (Str × Str)} (hc : Cons led) (ha : (a, oa) ∈ led) (hb : (b, ob) ∈ led) (ca : oa.cls = .type "enumerate") (cb : ob.cls = .type "list_iterator") (T : Tab led t l es) : Tab (Mine.less a b led) t l es := by
  have ok : ∀ {p : Addr} {o : Obj}, (p, o) ∈ led → o.cls ≠ .type "enumerate" → o.cls ≠ .type "list_iterator" → (p, o) ∈ Mine.less a b led := fun h h1 h2 =>
    mem_less h (hc.ne h ha (by rw [ca]; exact h1)) (hc.ne h hb (by rw [cb]; exact h2))
  obtain ⟨⟨d, hh, kk, n1, hm1, hm2⟩, ⟨vs, n2, hm3, hrows⟩⟩ := T
  refine ⟨⟨d, hh, kk, n1, ok hm1 (by simp) (by simp), ok hm2 (by simp) (by simp)⟩, ⟨vs, n2, ok hm3 (by simp) (by simp), ?_⟩⟩
  clear hm3
  induction vs generalizing es with
  | nil => cases es with
    | nil => trivial
    | cons e es => exact hrows.elim
  | cons v vs ih => cases es with
    | nil => exact hrows.elim
    | cons e es =>
      obtain ⟨⟨x, t1, t2, k, e1, hm, G⟩, r⟩ := hrows
      exact ⟨⟨x, t1, t2, k, e1, ok hm (by simp) (by simp), G⟩, ih r⟩
/-- an index as text -/
def numT (i : Nat) : Str := Str.ofString (toString (i : Int))
theorem numT_good : ∀ i, i < 9 → Good (numT i) := by
  intro i hi
  have : i = 0 ∨ i = 1 ∨ i = 2 ∨ i = 3 ∨ i = 4 ∨ i = 5 ∨ i = 6 ∨ i = 7 ∨ i = 8 := by omega
  rcases this with rfl | rfl | rfl | rfl | rfl | rfl | rfl | rfl | rfl <;> exact ⟨by decide, by decide⟩

section
variable {prog : Program} {w : World} {A : Around} {E : Value → Shared → Prop} {s : Shared} {env : Env} {h₀ : Heap} {target : Expr} {body : List Stmt} {Q : Flow → Shared → Prop}
/-- a loop that stores two names and may change the ledger -/
theorem items_mut2 (ka kb : Str) {ws : List (Addr × String)} {keep : List (Addr × Obj)} {m₀ : Str → Option Value} {news : List (Addr × Obj)} (J : List Itm → List (Addr × Obj) → Prop) {xs : List Itm} (h0 : J xs news)
    (step : ∀ a r u nn, J (a :: r) nn → ∀ v h tk, a.Is v h → Fr h₀ env.locals h (m2 ka kb u m₀) → AllObj ws (fun its => News h₀ env.locals h (its ++ nn) →
      wpAny (model prog w) A (assign target env v) (fun _ s₂ => wpAny (model prog w) A (execs body env) (UnrPostW h₀ env.locals { s with heap := h, toks := tk } its (fun m' n' => SubL keep n' ∧ (∀ z, z ≠ ka → z ≠ kb → m' z = m₀ z) ∧ J r n') Q) E s₂) E { s with heap := h, toks := tk }))
    (done : ∀ u nn, J [] nn → ∀ h tk, Fr h₀ env.locals h (m2 ka kb u m₀) → News h₀ env.locals h nn → Q .next { s with heap := h, toks := tk }) :
    ItemsRest prog w A E h₀ env target body Q s ws keep xs m₀ news := by
  refine items_all (fun rest mm nn => (∃ u, mm = m2 ka kb u m₀) ∧ J rest nn) ?_ ?_ xs m₀ news ⟨m2_of fun _ _ _ => rfl, h0⟩
  · rintro a r mm nn ⟨⟨u, rfl⟩, hj⟩ v h tk hv F
    refine allObj_mono (fun its x N => wpAny_mono (x N) (fun _ _ y => wpAny_mono y (fun _ _ z => unrPost_mono (fun m' n' q => ⟨q.1, m2_of q.2.1, q.2.2⟩) z) fun _ _ e => e) fun _ _ e => e) (step a r u nn hj v h tk hv F)
  · rintro mm nn ⟨⟨u, rfl⟩, hj⟩ h tk F N
    exact done u nn hj h tk F N
end
end

local macro_rules | `(tactic| walk_at "call type:enumerate") => `(tactic| (k_here; (with_reducible show wpAny _ _ (call (Value.type _) [Value.ref _]) (fun xv s₁ => wpAny _ _ (pyIter xv) (fun it s₂ => TurnsAt _ _ _ _ _ _ _ _ _ it s₂) _ s₁) _ _); (with_unfolding_all refine' ktu_enum ?k1 ?k2 ?k3 ?k4 ?k5 ?k6 ?k7 ?_; (case k1 => exact rfl); (case k2 => k_asm); (case k3 => k_asm); (case k4 => k_mem); (case k5 => exact rfl); (case k6 => exact rfl); (case k7 => exact rfl)); intro i' l1))

section
local macro_rules | `(tactic| walk_at "call ref") => `(tactic| (k_here; (with_reducible show wpAny _ _ (call (Value.ref 215) _) _ _ _); k_dflt (refine c_new (by k_asm) (by k_asm) (by k_asm) (by k_asm) (by k_asm) (by first | exact rfl | assumption) (by ktr_room) (by ktr_units) ?_; k_whole; intro t' l' news' h' tk' F' N' hT' hs' hlt'; (have hc' := cons_of N'); (try k_sweep); (try dsimp only))))
local macro_rules | `(tactic| walk_at "call ref") => `(tactic| (k_here; (with_reducible show wpAny _ _ (call (Value.ref 130) _) _ _ _); refine stop_here ?_))
local macro_rules | `(tactic| walk_at "call ref") => `(tactic| (k_here; (with_reducible show wpAny _ _ (call (Value.ref 205) _) _ _ _); refine stop_here ?_))
local macro_rules | `(tactic| walk_at "call ref") => `(tactic| (k_here; (with_reducible show wpAny _ _ (call (Value.ref 212) _) _ _ _); refine stop_here ?_))
section
variable {w : World} {mean : ExcName → Option Value} {mg mb : Str → Option Value} {dp un : Nat} {gd : Option (List Code)} {cn : Str} {cs : Scope} {a : Addr} {ccd : Value} {cl : List (Str × Addr)} {outer : List Env} {A₀ : Around} {base h₀ : Heap} {L : Addr} {m : Str → Option Value} {s : Shared} {Q E : Value → Shared → Prop} {news : List (Addr × Obj)} {x y : Str} {tk tk2 : Tok}
/-- the three tables' rows -/
def storedT : List (Str × Str) → Nat → List Str → List (Str × Str)
  | es, _, [] => es
  | es, i, x :: xs => storedT (without es (low x) ++ [(x, numT i)]) (i + 1) xs
def offeredT : List (Str × Str) → Nat → List Str → List (Str × Str)
  | es, _, [] => es
  | es, i, x :: xs => offeredT (addNew es x (numT i)) (i + 1) xs
def addedT : List (Str × Str) → Nat → List Str → List (Str × Str)
  | es, _, [] => es
  | es, i, x :: xs => addedT (es ++ [(x, numT i)]) (i + 1) xs
theorem Tab.eqv {led : List (Addr × Obj)} {t l : Addr} {es es' : List (Str × Str)} (T : Tab led t l es) (h : es = es') : Tab led t l es' := h ▸ T
theorem addNew_len (es : List (Str × Str)) (x y : Str) : (addNew es x y).length ≤ es.length + 1 := by
  unfold addNew
  split <;> simp
theorem c_tables (B : Below A₀ base outer h₀) (F : Fr h₀ L s.heap m) (X : (Kh w).In h₀) (N : News h₀ L s.heap news) (T : Top Vw Ls mean mg mb h₀) (hk : cs.kind = .function) {r : Addr} {vs : List Value} {n : Nat} {xs : List Str} (hr : (r, listOf vs.toArray n) ∈ news) (hx : TxtsAre vs xs) (hG : ∀ x ∈ xs, Good x) (hn : xs.length ≤ 6) (hd : dp + 20 < recursionLimit) (hu : un + 150 < cLine)
    (ret : ∀ tp ts lo1 la ls to' ta news' n' h' tk', Fr h₀ L h' m → News h₀ L h' news' → (∀ p ∈ news, p ∈ news') → (tp, ({ cls := .type "tuple", data := .seq #[.ref ts, .ref to', .ref ta] n' } : Obj)) ∈ news' → Tab news' ts ls (storedT [] 0 xs) → Tab news' to' lo1 (offeredT [] 0 xs) → Tab news' ta la (addedT [] 0 xs) → Q (.ref tp) { s with heap := h', toks := tk' }) : wpAny (model Pg w) (ktrTop dp un gd cn cs L a ccd cl outer) (call (.ref 245) [.ref r]) Q E s := by
  dsimp only [Pg, Vw, Ls, Kh] at *
  revert X; k_fill; intro X
  refine wpAny_call ?_
  k_dflt (walk_at "enter")
  k_steps
  rename_i t1 l1 n1 _ _ hT1 hs1 hlt1 hc1 _ _ t2 l2 n2 _ _ hT2 hs2 hlt2 hc2 _ _ t3 l3 n3 _ _ hT3 hs3 hlt3 hc3 _ lF N3
  have hr3 := hs3 _ (hs2 _ (hs1 _ hr))
  have T1 := (hT1.mono hs2).mono hs3
  have T2 := hT2.mono hs3
  have d1 : r ≠ l1 := Nat.ne_of_lt (hlt1 _ hr)
  have d2 : r ≠ l2 := Nat.ne_of_lt (hlt2 _ (hs1 _ hr))
  have d3 : r ≠ l3 := Nat.ne_of_lt (hlt3 _ (hs2 _ (hs1 _ hr)))
  have e12 : l1 ≠ l2 := let ⟨_, _, h⟩ := hT1.at; Nat.ne_of_lt (hlt2 _ h)
  have e13 : l1 ≠ l3 := let ⟨_, _, h⟩ := hT1.at; Nat.ne_of_lt (hlt3 _ (hs2 _ h))
  have e23 : l2 ≠ l3 := let ⟨_, _, h⟩ := hT2.at; Nat.ne_of_lt (hlt3 _ h)
  have hsub : ∀ p ∈ news, p ∈ n3 := fun p hp => hs3 _ (hs2 _ (hs1 _ hp))
  have hold : ∀ p ∈ news, p.1 ≠ l1 ∧ p.1 ≠ l2 ∧ p.1 ≠ l3 := fun p hp => ⟨Nat.ne_of_lt (hlt1 _ hp), Nat.ne_of_lt (hlt2 _ (hs1 _ hp)), Nat.ne_of_lt (hlt3 _ (hs2 _ (hs1 _ hp)))⟩
  clear hT1 hT2 hs1 hs2 hs3 hlt1 hlt2 hlt3 hc1 hc2
  k_steps
  rename_i I hI
  have b1 : l1 < I := let ⟨_, _, h⟩ := T1.at; hI _ h
  have b2 : l2 < I := let ⟨_, _, h⟩ := T2.at; hI _ h
  have b3 : l3 < I := let ⟨_, _, h⟩ := hT3.at; hI _ h
  have br : r < I := hI _ hr3
  have bn : ∀ p ∈ news, p.1 < I := fun p hp => hI _ (hsub _ hp)
  refine items_mut2 (Str.ofString "place") (Str.ofString "rule") (fun rest nn => ∃ vs' xs' i es1 es2 es3, rest = enumItems i vs' ∧ TxtsAre vs' xs' ∧ (∀ x ∈ xs', Good x) ∧ i + xs'.length ≤ 6 ∧ Tab nn t1 l1 es1 ∧ Tab nn t2 l2 es2 ∧ Tab nn t3 l3 es3 ∧ es1.length ≤ i ∧ es2.length ≤ i ∧ es3.length ≤ i ∧
    storedT es1 i xs' = storedT [] 0 xs ∧ offeredT es2 i xs' = offeredT [] 0 xs ∧ addedT es3 i xs' = addedT [] 0 xs ∧ (r, listOf vs.toArray n) ∈ nn ∧ (∀ p ∈ news, p ∈ nn)) ⟨vs, xs, 0, [], [], [], rfl, hx, hG, by omega, T1, T2, hT3, by simp, by simp, by simp, rfl, rfl, rfl, hr3, hsub⟩ ?_ ?_
  · rintro aa rr u nn ⟨vs', xs', i, es1, es2, es3, hrest, hx', hG', hi6, S1, S2, S3, q1, q2, q3, w1, w2, w3, hrn, hsn⟩ v h tk hv F1
    cases vs' with
    | nil => cases hrest
    | cons v0 vs' => cases xs' with
      | nil => exact hx'.elim
      | cons x xs' =>
        obtain ⟨⟨t0, rfl⟩, hx'⟩ := hx'
        simp only [enumItems, List.cons.injEq] at hrest
        obtain ⟨rfl, rfl⟩ := hrest
        obtain ⟨TT, tt, rfl, hTT⟩ := hv
        have Gx := hG' x (.head _)
        have hlx := Gx.le
        simp only [List.length_cons] at hi6
        obtain ⟨⟨dd1, ha1, ka1, na1, hma1, hmb1⟩, -⟩ := id S1
        obtain ⟨⟨dd2, ha2, ka2, na2, hma2, hmb2⟩, -⟩ := id S2
        obtain ⟨⟨dd3, ha3, ka3, na3, hma3, hmb3⟩, -⟩ := id S3
        refine AllObj.cons (fun oE hcE => AllObj.cons (fun oL hcL => AllObj.nil (fun N1 => ?_)))
        simp only [List.cons_append, List.nil_append] at N1
        dsimp only [envOf] at F1 N1
        have hcl := cons_of N1
        have sub2 : ∀ p ∈ nn, p ∈ (I + 1, oE) :: (I, oL) :: nn := fun _ h => .tail _ (.tail _ h)
        have iE1 : I + 1 ≠ l1 := Nat.ne_of_gt (Nat.lt_succ_of_lt b1)
        have iL1 : I ≠ l1 := Nat.ne_of_gt b1
        have iE2 : I + 1 ≠ l2 := Nat.ne_of_gt (Nat.lt_succ_of_lt b2)
        have iL2 : I ≠ l2 := Nat.ne_of_gt b2
        have iE3 : I + 1 ≠ l3 := Nat.ne_of_gt (Nat.lt_succ_of_lt b3)
        have iL3 : I ≠ l3 := Nat.ne_of_gt b3
        k_steps
        refine stop_go ?_
        k_dflt (refine' c_set (y := numT i) ?B ?F ?X ?N ?T ?hk Gx (numT_good i (by omega)) (S1.mono sub2) (by omega) ?hd ?hu ?_; (case B => k_asm); (case F => k_asm); (case X => k_asm); (case N => k_asm); (case T => k_asm); (case hk => first | exact rfl | assumption); (case hd => ktr_room); (case hu => ktr_units))
        intro nw hh' tk' F' N' P1 hkn
        have P2 : Tab nw t2 l2 es2 := Tab.keepT hcl (S1.mono sub2) (S2.mono sub2) (Ne.symm e12) hkn
        have P3 : Tab nw t3 l3 es3 := Tab.keepT hcl (S1.mono sub2) (S3.mono sub2) (Ne.symm e13) hkn
        have hEn : (I + 1, oE) ∈ nw := hkn _ (.head _) iE1
        have hLn : (I, oL) ∈ nw := hkn _ (.tail _ (.head _)) iL1
        have hrn1 : (r, listOf vs.toArray n) ∈ nw := hkn _ (.tail _ (.tail _ hrn)) d1
        have hsn1 : ∀ p ∈ news, p ∈ nw := fun p hp => hkn _ (.tail _ (.tail _ (hsn p hp))) (hold p hp).1
        have hcl1 := cons_of N'
        obtain ⟨⟨db2, hb2, kb2, nb2, hmc2, hmd2⟩, -⟩ := id P2
        dsimp only
        k_steps
        refine stop_go ?_
        k_dflt (refine' c_setdef (y := numT i) ?B ?F ?X ?N ?T ?hk Gx (numT_good i (by omega)) P2 (by omega) ?hd ?hu ?_; (case B => k_asm); (case F => k_asm); (case X => k_asm); (case N => k_asm); (case T => k_asm); (case hk => first | exact rfl | assumption); (case hd => ktr_room); (case hu => ktr_units))
        intro val nw2 hh2 tk2' F2 N2 R2 hkn2
        have R1 := Tab.keepT hcl1 P2 P1 e12 hkn2
        have R3 : Tab nw2 t3 l3 es3 := Tab.keepT hcl1 P2 P3 (Ne.symm e23) hkn2
        have hEn2 : (I + 1, oE) ∈ nw2 := hkn2 _ hEn iE2
        have hLn2 : (I, oL) ∈ nw2 := hkn2 _ hLn iL2
        have hrn2 : (r, listOf vs.toArray n) ∈ nw2 := hkn2 _ hrn1 d2
        have hsn2 : ∀ p ∈ news, p ∈ nw2 := fun p hp => hkn2 _ (hsn1 p hp) (hold p hp).2.1
        have hcl2 := cons_of N2
        obtain ⟨⟨db3, hb3, kb3, nb3, hmc3, hmd3⟩, -⟩ := id R3
        dsimp only
        k_steps
        refine stop_go ?_
        k_dflt (refine' c_add (y := numT i) ?B ?F ?X ?N ?T ?hk Gx (numT_good i (by omega)) R3 (by omega) ?hd ?hu ?_; (case B => k_asm); (case F => k_asm); (case X => k_asm); (case N => k_asm); (case T => k_asm); (case hk => first | exact rfl | assumption); (case hd => ktr_room); (case hu => ktr_units))
        intro nw3 hh3 tk3' F3 N3 U3 hkn3
        have U1 := Tab.keepT hcl2 R3 R1 e13 hkn3
        have U2 := Tab.keepT hcl2 R3 R2 e23 hkn3
        have hEn3 : (I + 1, oE) ∈ nw3 := hkn3 _ hEn2 iE3
        have hLn3 : (I, oL) ∈ nw3 := hkn3 _ hLn2 iL3
        have hrn3 : (r, listOf vs.toArray n) ∈ nw3 := hkn3 _ hrn2 d3
        have hsn3 : ∀ p ∈ news, p ∈ nw3 := fun p hp => hkn3 _ (hsn2 p hp) (hold p hp).2.2
        have hcl3 := cons_of N3
        dsimp only
        k_steps
        have ne1 : ∀ p ∈ news, p.1 ≠ I + 1 ∧ p.1 ≠ I := fun p hp => ⟨Nat.ne_of_lt (Nat.lt_succ_of_lt (bn p hp)), Nat.ne_of_lt (bn p hp)⟩
        have hrl : (r, listOf vs.toArray n) ∈ less (I + 1) I nw3 := mem_less hrn3 (Nat.ne_of_lt (Nat.lt_succ_of_lt br)) (Nat.ne_of_lt br)
        refine ⟨hh3, tk3', _, less (I + 1) I nw3, rfl, F3, N3.perm ?_, ?_, ?_, ?_, vs', xs', i + 1, _, _, _, rfl, hx', fun z hz => hG' z (.tail _ hz), by omega, U1.less hcl3 hEn3 hLn3 hcE hcL, U2.less hcl3 hEn3 hLn3 hcE hcL, U3.less hcl3 hEn3 hLn3 hcE hcL, ?_, ?_, ?_, w1, w2, w3, hrl, fun p hp => mem_less (hsn3 p hp) (ne1 p hp).1 (ne1 p hp).2⟩
        · intro p hp
          rcases List.mem_cons.mp hp with rfl | hp
          · exact hEn3
          rcases List.mem_cons.mp hp with rfl | hp
          · exact hLn3
          exact (less_mem hp).1
        · intro p hp q hq
          rcases List.mem_cons.mp hq with rfl | hq
          · exact (less_mem hp).2.1
          rcases List.mem_singleton.mp hq with rfl
          exact (less_mem hp).2.2
        · exact ⟨hrl, trivial⟩
        · intro z hz1 hz2
          simp only [m2, if_neg hz1, if_neg hz2]
        · have := without_len es1 (low x)
          simp only [List.length_append, List.length_singleton]; omega
        · have := addNew_len es2 x (numT i)
          omega
        · simp only [List.length_append, List.length_singleton]; omega
  · rintro u nn ⟨vs', xs', i, es1, es2, es3, hrest, hx', hG', hi6, S1, S2, S3, q1, q2, q3, w1, w2, w3, hrn, hsn⟩ h tk F1 N1
    have hv' : vs' = [] := by cases vs' with | nil => rfl | cons v vs' => cases hrest
    subst hv'
    have hxx : xs' = [] := by cases xs' with | nil => rfl | cons x xs' => exact hx'.elim
    subst hxx
    dsimp only
    k_steps
    exact ret _ _ _ _ _ _ _ _ _ _ _ (by walk_at "endF") (by walk_at "endN") (fun p hp => .tail _ (hsn p hp)) (.head _) (Tab.mono (Tab.eqv S1 w1) fun _ h => .tail _ h) (Tab.mono (Tab.eqv S2 w2) fun _ h => .tail _ h) (Tab.mono (Tab.eqv S3 w3) fun _ h => .tail _ h)
end
end

section
theorem idx_clip {i : Int} (n : Nat) (hi : 0 ≤ i) : PySem.Builtin.Str.strSliceIndices (some i) none 1 n = PySem.Builtin.Str.strSliceIndices (some (min i n)) none 1 n := by
  have a : ¬ (i < 0) := by omega
  have b : ¬ (min i (n : Int) < 0) := by omega
  have c : min (min i (n : Int)) (n : Int) = min i (n : Int) := by omega
  have d : (1 : Int) > 0 := by decide
  simp only [PySem.Builtin.Str.strSliceIndices, if_neg a, if_neg b, c, if_pos d]
theorem slice_cps {x : Str} {i : Int} (hi : 0 ≤ i) : (Txt.slice x (some i) none).cps.toList = x.cps.toList.drop i.toNat := by
  have e : Txt.slice x (some i) none = Txt.slice x (some (min i x.length)) none := by
    unfold Txt.slice
    rw [idx_clip _ hi]
  have hl : x.length = x.cps.toList.length := by simp [Str.length]
  rw [e, show Txt.slice x (some (min i x.length)) none = StrLaws.sliceText x (some (min i x.length)) none from rfl, StrLaws.sliceText_from ⟨by omega, by omega⟩]
  show (List.take _ (List.drop _ _)) = _
  rw [hl, List.take_of_length_le (by rw [List.length_drop]; omega)]
  by_cases h : i ≤ (x.cps.toList.length : Int)
  · rw [Int.min_eq_left h]
  · rw [Int.min_eq_right (by omega), List.drop_of_length_le (by omega), List.drop_of_length_le (by omega)]
theorem TxtsAre.length : ∀ {vs : List Value} {xs : List Str}, TxtsAre vs xs → vs.length = xs.length
  | [], [], _ => rfl
  | _ :: _, _ :: _, ⟨_, r⟩ => congrArg (· + 1) r.length
  | [], _ :: _, h => h.elim
  | _ :: _, [], h => h.elim
theorem slice_from {x : Str} {i : Int} (hi : 1 ≤ i) (hx : x.length ≤ 60) : (Txt.slice x (some i) none).length ≤ 59 := by
  have := congrArg List.length (slice_cps (x := x) (i := i) (by omega))
  rw [List.length_drop] at this
  have h1 : (Txt.slice x (some i) none).length = (Txt.slice x (some i) none).cps.toList.length := by simp [Str.length]
  have h2 : x.length = x.cps.toList.length := by simp [Str.length]
  omega
theorem rch_good {x : Str} (G : Good x) : Good (rch x) := by
  unfold rch
  split
  · rename_i h
    split
    · exact good_app (by decide) (by decide) (G.slice _ _) (slice_from (by omega) G.le)
    · exact G
  · exact G
/-- _law_way's names, fuel turns at most -/
def wayL : Nat → Str → List Str → List Str
  | 0, _, ns => ns
  | k + 1, here, ns => if rch here = here then ns else wayL k (Txt.slice (rch here) (some 1) none) (ns ++ [rch here])
def way (h : Str) : List Str := wayL 8 h [h]

section
open PyProof.Rows
variable {prog : Program} {w : World} {A : Around} {E : Value → Shared → Prop} {Q : Flow → Shared → Prop} {s : Shared} {env : Env} {h₀ : Heap} {L : Addr}
/-- a while that stores two names, the second a text it looks at -/
theorem while_here (ka kb : Str) {test : Expr} {body : List Stmt} {pos : Pos} {m₀ : Str → Option Value} {news : List (Addr × Obj)} (J : Nat → Value → List (Addr × Obj) → Prop) {n₀ : Nat} {v₀ : Value}
    (F : Fr h₀ L s.heap m₀) (N : News h₀ L s.heap news) (hv : m₀ kb = some v₀) (hJ : J n₀ v₀ news)
    (turn : ∀ n v u nn h₁ tk₁, Fr h₀ L h₁ (fun y => if y = kb then some v else m2 ka kb u m₀ y) → News h₀ L h₁ nn → J n v nn →
      wpAny (model prog w) A (isTrue test env (eval test env)) (fun b s₂ =>
        if b = true then wpAny (model prog w) A (execs body env) (WhileStep2 h₀ L s (fun n' m' n'' => (∃ z, m' kb = some z ∧ J n' z n'') ∧ ∀ z, z ≠ ka → z ≠ kb → m' z = m₀ z) Q n) E s₂ else Q .next s₂) E { s with heap := h₁, toks := tk₁ })
    (hE : PassesOwn (model prog w) A env E) :
    wpAny (model prog w) A (exec (.While test body [] pos) env) Q E s := by
  refine While_inv2 (n₀ := n₀) (fun n' m' n'' => (∃ z, m' kb = some z ∧ J n' z n'') ∧ ∀ z, z ≠ ka → z ≠ kb → m' z = m₀ z) F N ⟨⟨v₀, hv, hJ⟩, fun _ _ _ => rfl⟩ ?_ hE
  rintro n m₁ nn h₁ tk₁ F₁ N₁ ⟨⟨v, hv, hj⟩, hz⟩
  obtain ⟨u, rfl⟩ := m2_of hz
  refine turn n v u nn h₁ tk₁ ?_ N₁ hj
  have e : (fun y => if y = kb then some v else m2 ka kb u m₀ y) = m2 ka kb u m₀ := by
    funext y
    split
    · rename_i h; rw [h, hv]
    · rfl
  rw [e]; exact F₁
end
section
variable {prog : Program} {w : World} {A : Around} {E : Value → Shared → Prop} {s : Shared} {L : Addr} {h₀ : Heap} {news : List (Addr × Obj)} {Q : Value → Shared → Prop}
theorem len_l {D : Addr} {vs : List Value} {c : Nat} (N : News h₀ L s.heap news) (hm : (D, listOf vs.toArray c) ∈ news) (hf : vs.length ≤ 1000) (h : Q (.int (vs.length : Nat) (s.toks + 1)) { s with toks := s.toks + 1 + 1 }) :
    wpAny (model prog w) A (call (.builtin "len") [.ref D]) Q E s :=
  KM.len_K N hm (by simp) (by omega) h
end
theorem led_push {D : Addr} {vs : List Value} {v : Value} {k : Nat} {news : List (Addr × Obj)} : (D, listOf (vs.toArray.push v) k) :: news = (D, listOf (vs ++ [v]).toArray k) :: news := by
  rw [List.push_toArray]
section
variable {prog : Program} {w : World} {A : Around} {E : Value → Shared → Prop} {s : Shared} {L : Addr} {h₀ : Heap} {news : List (Addr × Obj)}
theorem truthy_l {D : Addr} {vs : List Value} {c : Nat} {Q : Bool → Shared → Prop} (N : News h₀ L s.heap news) (hm : (D, listOf vs.toArray c) ∈ news) (hf : vs.length ≤ 1000) (h : Q (!vs.isEmpty) { s with toks := s.toks + 1 + 1 }) :
    wpAny (model prog w) A (truthy (.ref D)) Q E s :=
  wpAny_truthy_list (News.isList N hm) (by simp; omega) (by simpa using h)
end
section
variable {prog : Program} {w : World} {A : Around} {E : Value → Shared → Prop} {s : Shared} {L : Addr} {h₀ : Heap} {news : List (Addr × Obj)} {value slice : PySem.Expr} {u : Tok} {Q : Value → Shared → Prop}
theorem item_first {D : Addr} {v : Value} {vs : List Value} {c : Nat} (N : News h₀ L s.heap news) (hm : (D, listOf (v :: vs).toArray c) ∈ news) (h : Q v s)
    (hs : subscripted slice false (.ref D) (.int 0 u) = operate [.ref D, .int 0 u] (getItem (.ref D) (.int 0 u)) := by with_unfolding_all rfl) : wpAny (model prog w) A (subscriptTail value slice (.ref D) (.int 0 u)) Q E s :=
  have hl := News.isList N hm
  tail_any hl.typeIs slot_list_getitem.lookup (wpAny_getItem_list hl (by decide) (by decide) (x := v) (by simp) h) hs
theorem item_last {D : Addr} {v : Value} {vs : List Value} {c : Nat} (N : News h₀ L s.heap news) (hm : (D, listOf (v :: vs).toArray c) ∈ news) (h : Q ((v :: vs).getLast (List.cons_ne_nil _ _)) s)
    (hs : subscripted slice false (.ref D) (.int (-1) u) = operate [.ref D, .int (-1) u] (getItem (.ref D) (.int (-1) u)) := by with_unfolding_all rfl) : wpAny (model prog w) A (subscriptTail value slice (.ref D) (.int (-1) u)) Q E s :=
  kde_neg (j := vs.length) (News.isList N hm) (by decide) (by decide) (by rw [StrLaws.seqIndex_neg (by decide) (by simp; omega)]; simp; omega) (by rw [List.getLast_eq_getElem]; simp) h hs
theorem TxtsAre.last : ∀ {vs : List Value} {xs : List Str} {v : Value} {x : Str}, TxtsAre (v :: vs) (x :: xs) → ∃ t, (v :: vs).getLast (List.cons_ne_nil _ _) = .str ((x :: xs).getLast (List.cons_ne_nil _ _)) t
  | [], [], _, _, ⟨h, _⟩ => h
  | _ :: _, _ :: _, _, _, ⟨_, r⟩ => by simpa [List.getLast_cons] using r.last
  | [], _ :: _, _, _, ⟨_, h⟩ => h.elim
  | _ :: _, [], _, _, ⟨_, h⟩ => h.elim
end
end

local macro_rules | `(tactic| walk_at "pad 1") => `(tactic| skip)

local macro_rules | `(tactic| walk_at "call builtin:len") => `(tactic| (k_here; (with_reducible show wpAny _ _ (call (Value.builtin "len") [Value.ref _]) _ _ _); k_dflt (refine' len_l ?k1 ?k2 ?k3 ?_; (case k1 => k_asm); (case k2 => k_mem); (case k3 => omega); k_whole)))
local macro_rules | `(tactic| walk_at "truthy ref") => `(tactic| (k_here; (with_reducible show wpAny _ _ (truthy (Value.ref _)) _ _ _); k_dflt (refine' truthy_l ?k1 ?k2 ?k3 ?_; (case k1 => k_asm); (case k2 => k_mem); (case k3 => omega); k_whole)))

section
local macro_rules | `(tactic| walk_at "exec While Compare") => `(tactic| (k_here; refine stop_here ?_))
local macro_rules | `(tactic| walk_at "call ref") => `(tactic| (k_here; (with_reducible show wpAny _ _ (call (Value.ref 71) [Value.str _ _]) _ _ _); k_dflt (refine c_reach (by k_asm) (by k_asm) (by k_asm) (by k_asm) (by k_asm) (by first | exact rfl | assumption) (by walk_at "good") (by ktr_room) (by ktr_units) ?_; k_whole; intro t' h' tk' F' N'; (try k_sweep); (try dsimp only))))
section
variable {w : World} {mean : ExcName → Option Value} {mg mb : Str → Option Value} {dp un : Nat} {gd : Option (List Code)} {cn : Str} {cs : Scope} {a : Addr} {ccd : Value} {cl : List (Str × Addr)} {outer : List Env} {A₀ : Around} {base h₀ : Heap} {L : Addr} {m : Str → Option Value} {s : Shared} {Q E : Value → Shared → Prop} {news : List (Addr × Obj)} {x y : Str} {tk tk2 : Tok}
theorem c_way (B : Below A₀ base outer h₀) (F : Fr h₀ L s.heap m) (X : (Kh w).In h₀) (N : News h₀ L s.heap news) (T : Top Vw Ls mean mg mb h₀) (hk : cs.kind = .function) (G : Good x) (hd : dp + 10 < recursionLimit) (hu : un + 80 < cLine)
    (ret : ∀ D vs n h' tk', Fr h₀ L h' m → News h₀ L h' ((D, listOf vs.toArray n) :: news) → (∀ p ∈ news, p.1 < D) → TxtsAre vs (way x) → (∀ y ∈ way x, Good y) → Q (.ref D) { s with heap := h', toks := tk' }) : wpAny (model Pg w) (ktrTop dp un gd cn cs L a ccd cl outer) (call (.ref 257) [.str x tk]) Q E s := by
  dsimp only [Pg, Vw, Ls, Kh] at *
  revert X; k_fill; intro X
  have hlx := G.le
  refine wpAny_call ?_
  k_dflt (walk_at "enter")
  k_steps
  rename_i D _ lD _ _ FD ND
  refine stop_go ?_
  refine while_here (n₀ := 8) (Str.ofString "above") (Str.ofString "here") (fun n v nn => ∃ here t vs k ns, v = .str here t ∧ nn = (D, listOf vs.toArray k) :: news ∧ Good here ∧ TxtsAre vs ns ∧ (∀ y ∈ ns, Good y) ∧ ns.length + n = 9 ∧ wayL n here ns = way x) FD ND rfl ⟨x, _, [.str x _], _, [x], rfl, rfl, G, ⟨⟨_, rfl⟩, trivial⟩, fun y hy => (List.mem_singleton.mp hy) ▸ G, rfl, rfl⟩ ?_ (by first | passes_own | with_unfolding_all passes_own)
  rintro n v u nn h₁ tk₁ F₁ N₁ ⟨here, t, vs, k, ns, rfl, rfl, Gh, hvs, hGs, hn, hw⟩
  have hvl := hvs.length
  have hlh := Gh.le
  have Gr := rch_good Gh
  have hlr := Gr.le
  dsimp only
  k_steps
  · rename_i h1 h2
    dsimp only [WhileStep2]
    k_steps
    have e2 := eq_of_beq h2
    have e : ns = way x := by
      rw [← hw]
      cases n with
      | zero => rfl
      | succ n => rw [wayL, if_pos e2]
    exact ret D vs _ _ _ (by walk_at "endF") (by walk_at "endN") lD (e ▸ hvs) (e ▸ hGs)
  · rename ((vs.length : Int) < 9) => h1
    rename ((rch here == here) = false) => h2
    rename Good (Txt.slice (rch here) (some 1) none) => G2
    have e2 : rch here ≠ here := fun e => by rw [e] at h2; simp at h2
    cases n with
    | zero => exact absurd h1 (by omega)
    | succ n =>
      refine ⟨_, _, _, _, n, rfl, by walk_at "endF", by walk_at "endN", Nat.lt_succ_self n, ?_⟩
      refine ⟨⟨_, rfl, ?_⟩, ?_⟩
      · refine ⟨_, _, _, _, ns ++ [rch here], rfl, led_push, G2, hvs.snoc _ _, ?_, ?_, ?_⟩
        · intro y hy
          rcases List.mem_append.mp hy with hy | hy
          · exact hGs y hy
          · rw [List.mem_singleton.mp hy]; exact Gr
        · simp only [List.length_append, List.length_singleton]; omega
        · rw [wayL, if_neg e2] at hw; exact hw
      · intro z hz1 hz2
        simp only [m2, if_neg hz1, if_neg hz2]
  · rename_i h1
    have e : ns = way x := by
      rw [← hw]
      cases n with
      | zero => rfl
      | succ n => exact absurd hn (by omega)
    exact ret D vs _ _ _ (by walk_at "endF") (by walk_at "endN") lD (e ▸ hvs) (e ▸ hGs)
end
end

section
def wide (r : Str) : Bool := !Txt.startswith r (Str.ofString ".") || Txt.contains (Txt.slice r (some 1) none) (Str.ofString ".") || low r == Str.ofString ".local"
/-- one turn of _law_closest -/
def cloS (h r : Str) (i : Nat) (st : Int × List Str) : Int × List Str :=
  if wide r && udm h r then (if st.1 < (r.length : Int) then ((r.length : Int), [numT i]) else if (r.length : Int) = st.1 then (st.1, st.2 ++ [numT i]) else st) else st
def cloL (h : Str) : Int × List Str → Nat → List Str → Int × List Str
  | st, _, [] => st
  | st, i, r :: rs => cloL h (cloS h r i st) (i + 1) rs
def OptIs (v : Value) : Option Str → Prop
  | none => v = .none
  | some x => ∃ t, v = .str x t
/-- a triple of two marks and a list of texts -/
def Ans (led : List (Addr × Obj)) (A : Addr) (o1 o2 : Option Str) (ps : List Str) : Prop :=
  ∃ v1 v2 D vs k n, (A, ({ cls := .type "tuple", data := .seq #[v1, v2, .ref D] n } : Obj)) ∈ led ∧ OptIs v1 o1 ∧ OptIs v2 o2 ∧ (D, listOf (List.toArray vs) k) ∈ led ∧ TxtsAre vs ps
section
variable {prog : Program} {w : World} {A : Around} {E : Value → Shared → Prop} {s : Shared} {env : Env} {h₀ : Heap} {target : Expr} {body : List Stmt} {Q : Flow → Shared → Prop}
/-- a loop that stores five names, two of which are looked at -/
theorem items_five (k1 k2 k3 ka kb : Str) {ws : List (Addr × String)} {keep : List (Addr × Obj)} {m₀ : Str → Option Value} {news : List (Addr × Obj)} (J : Value → Value → List Itm → List (Addr × Obj) → Prop) {xs : List Itm} {va vb : Value} (h1 : m₀ ka = some va) (h2 : m₀ kb = some vb) (h0 : J va vb xs news)
    (step : ∀ a r va vb u nn, J va vb (a :: r) nn → ∀ v h tk, a.Is v h → Fr h₀ env.locals h (fun y => if y = ka then some va else if y = kb then some vb else m3 k1 k2 k3 u m₀ y) → AllObj ws (fun its => News h₀ env.locals h (its ++ nn) →
      wpAny (model prog w) A (assign target env v) (fun _ s₂ => wpAny (model prog w) A (execs body env) (UnrPostW h₀ env.locals { s with heap := h, toks := tk } its (fun m' n' => SubL keep n' ∧ (∃ va vb, m' ka = some va ∧ m' kb = some vb ∧ J va vb r n') ∧ ∀ z, z ≠ ka → z ≠ kb → z ≠ k1 → z ≠ k2 → z ≠ k3 → m' z = m₀ z) Q) E s₂) E { s with heap := h, toks := tk }))
    (done : ∀ va vb u nn, J va vb [] nn → ∀ h tk, Fr h₀ env.locals h (fun y => if y = ka then some va else if y = kb then some vb else m3 k1 k2 k3 u m₀ y) → News h₀ env.locals h nn → Q .next { s with heap := h, toks := tk }) :
    ItemsRest prog w A E h₀ env target body Q s ws keep xs m₀ news := by
  have key : ∀ (mm : Str → Option Value) va vb, mm ka = some va → mm kb = some vb → (∀ z, z ≠ ka → z ≠ kb → z ≠ k1 → z ≠ k2 → z ≠ k3 → mm z = m₀ z) → ∃ u, mm = (fun y => if y = ka then some va else if y = kb then some vb else m3 k1 k2 k3 u m₀ y) := by
    intro mm va vb e1 e2 e3
    refine ⟨mm, ?_⟩
    funext y
    by_cases a1 : y = ka
    · rw [if_pos a1, a1, e1]
    · rw [if_neg a1]
      by_cases a2 : y = kb
      · rw [if_pos a2, a2, e2]
      · rw [if_neg a2]
        unfold m3
        by_cases a3 : y = k1
        · rw [if_pos a3]
        · rw [if_neg a3]
          by_cases a4 : y = k2
          · rw [if_pos a4]
          · rw [if_neg a4]
            by_cases a5 : y = k3
            · rw [if_pos a5]
            · rw [if_neg a5, e3 y a1 a2 a3 a4 a5]
  refine items_all (fun rest mm nn => (∃ va vb, mm ka = some va ∧ mm kb = some vb ∧ J va vb rest nn) ∧ ∀ z, z ≠ ka → z ≠ kb → z ≠ k1 → z ≠ k2 → z ≠ k3 → mm z = m₀ z) ?_ ?_ xs m₀ news ⟨⟨va, vb, h1, h2, h0⟩, fun _ _ _ _ _ _ => rfl⟩
  · rintro a r mm nn ⟨⟨va, vb, e1, e2, hj⟩, e3⟩ v h tk hv F
    obtain ⟨u, rfl⟩ := key mm va vb e1 e2 e3
    exact step a r va vb u nn hj v h tk hv F
  · rintro mm nn ⟨⟨va, vb, e1, e2, hj⟩, e3⟩ h tk F N
    obtain ⟨u, rfl⟩ := key mm va vb e1 e2 e3
    exact done va vb u nn hj h tk F N
end
theorem cl_end {g h' : Heap} {L : Addr} {s₁ : Shared} {I : Addr} {oE oL : Obj} {led : List (Addr × Obj)} {m' : Str → Option Value} {tk : Nat} {R : (Str → Option Value) → List (Addr × Obj) → Prop} (F : Fr g L h' m') (N : News g L h' led) (hE : (I + 1, oE) ∈ led) (hL : (I, oL) ∈ led) (r : R m' (less (I + 1) I led)) :
    UnrEndW g L s₁ [(I + 1, oE), (I, oL)] R { s₁ with heap := h', toks := tk } := by
  refine ⟨h', tk, m', less (I + 1) I led, rfl, F, N.perm ?_, ?_, r⟩
  · intro p hp
    rcases List.mem_cons.mp hp with rfl | hp
    · exact hE
    rcases List.mem_cons.mp hp with rfl | hp
    · exact hL
    exact (less_mem hp).1
  · intro p hp q hq
    rcases List.mem_cons.mp hq with rfl | hq
    · exact (less_mem hp).2.1
    rcases List.mem_singleton.mp hq with rfl
    exact (less_mem hp).2.2
/-- what holds between the turns of _law_closest -/
def ClJ (hh : Str) (xs : List Str) (news : List (Addr × Obj)) (va vb : Value) (rest : List Itm) (nn : List (Addr × Obj)) : Prop :=
  ∃ lg t D vs' k ps rs ws i, va = .int lg t ∧ vb = .ref D ∧ rest = enumItems i ws ∧ TxtsAre ws rs ∧ (∀ x ∈ rs, Good x) ∧ i + rs.length ≤ 6 ∧ (D, listOf (List.toArray vs') k) ∈ nn ∧ TxtsAre vs' ps ∧ ps.length ≤ i ∧ (∀ p ∈ news, p ∈ nn) ∧ (∀ p ∈ news, p.1 ≠ D) ∧ cloL hh (lg, ps) i rs = cloL hh (0, []) 0 xs
section
variable {g h' : Heap} {L : Addr} {hh x : Str} {xs ps rs : List Str} {news nn led : List (Addr × Obj)} {I D : Addr} {oE oL : Obj} {vs' ws : List Value} {k i : Nat} {lg : Int}
theorem less_list (hc : Cons led) (hE : (I + 1, oE) ∈ led) (hL : (I, oL) ∈ led) (cE : oE.cls = .type "enumerate") (cL : oL.cls = .type "list_iterator") {its : Array Value} (h : (D, listOf its k) ∈ led) : (D, listOf its k) ∈ less (I + 1) I led :=
  mem_less h (hc.ne h hE (by rw [cE]; simp [W.listOf])) (hc.ne h hL (by rw [cL]; simp [W.listOf]))
theorem less_news (bn : ∀ p ∈ news, p.1 < I) (h : ∀ p ∈ news, p ∈ led) : ∀ p ∈ news, p ∈ less (I + 1) I led := fun p hp =>
  mem_less (h p hp) (Nat.ne_of_lt (Nat.lt_succ_of_lt (bn p hp))) (Nat.ne_of_lt (bn p hp))
theorem cl_same {t : Tok} (N : News g L h' ((I + 1, oE) :: (I, oL) :: nn)) (cE : oE.cls = .type "enumerate") (cL : oL.cls = .type "list_iterator") (bn : ∀ p ∈ news, p.1 < I) (hx' : TxtsAre ws rs) (hG' : ∀ y ∈ x :: rs, Good y) (hi6 : i + (rs.length + 1) ≤ 6) (hD1 : (D, listOf (List.toArray vs') k) ∈ nn) (hps : TxtsAre vs' ps) (hpl : ps.length ≤ i) (hsn : ∀ p ∈ news, p ∈ nn) (hnD : ∀ p ∈ news, p.1 ≠ D)
    (hcl : cloL hh (lg, ps) i (x :: rs) = cloL hh (0, []) 0 xs) (hs : cloS hh x i (lg, ps) = (lg, ps)) : ClJ hh xs news (.int lg t) (.ref D) (enumItems (i + 1) ws) (less (I + 1) I ((I + 1, oE) :: (I, oL) :: nn)) :=
  ⟨lg, t, D, vs', k, ps, rs, ws, i + 1, rfl, rfl, rfl, hx', fun y hy => hG' y (.tail _ hy), by omega, less_list (cons_of N) (.head _) (.tail _ (.head _)) cE cL (.tail _ (.tail _ hD1)), hps, by omega, less_news bn fun p hp => .tail _ (.tail _ (hsn p hp)), hnD, by rw [← hcl, cloL, hs]⟩
theorem cl_app {t u : Tok} {k' : Nat} (N : News g L h' (setAt D (listOf ((List.toArray vs').push (.str (numT i) u)) k') ((I + 1, oE) :: (I, oL) :: nn))) (hcons : Cons ((I + 1, oE) :: (I, oL) :: nn)) (cE : oE.cls = .type "enumerate") (cL : oL.cls = .type "list_iterator") (bn : ∀ p ∈ news, p.1 < I) (hx' : TxtsAre ws rs) (hG' : ∀ y ∈ x :: rs, Good y) (hi6 : i + (rs.length + 1) ≤ 6) (hD1 : (D, listOf (List.toArray vs') k) ∈ nn) (hps : TxtsAre vs' ps) (hpl : ps.length ≤ i) (hsn : ∀ p ∈ news, p ∈ nn) (hnD : ∀ p ∈ news, p.1 ≠ D)
    (hcl : cloL hh (lg, ps) i (x :: rs) = cloL hh (0, []) 0 xs) (hs : cloS hh x i (lg, ps) = (lg, ps ++ [numT i])) : ClJ hh xs news (.int lg t) (.ref D) (enumItems (i + 1) ws) (less (I + 1) I (setAt D (listOf ((List.toArray vs').push (.str (numT i) u)) k') ((I + 1, oE) :: (I, oL) :: nn))) := by
  have hD2 : (D, listOf (List.toArray vs') k) ∈ (I + 1, oE) :: (I, oL) :: nn := .tail _ (.tail _ hD1)
  have e1 : I + 1 ≠ D := (hcons.ne hD2 (.head _) (by rw [cE]; simp [W.listOf])).symm
  have e2 : I ≠ D := (hcons.ne hD2 (.tail _ (.head _)) (by rw [cL]; simp [W.listOf])).symm
  refine ⟨lg, t, D, vs' ++ [.str (numT i) u], k', ps ++ [numT i], rs, ws, i + 1, rfl, rfl, rfl, hx', fun y hy => hG' y (.tail _ hy), by omega, ?_, hps.snoc _ _, by simp; omega, less_news bn fun p hp => mem_setAt_ne (.tail _ (.tail _ (hsn p hp))) (hnD p hp), hnD, by rw [← hcl, cloL, hs]⟩
  rw [← List.push_toArray]
  exact less_list (cons_of N) (mem_setAt_ne (.head _) e1) (mem_setAt_ne (.tail _ (.head _)) e2) cE cL (mem_setAt_self hD2)
theorem cl_new {t u : Tok} {k' : Nat} {l' : Addr} {its : Array Value} (e : its = [Value.str (numT i) u].toArray) (N : News g L h' ((l', listOf its k') :: (I + 1, oE) :: (I, oL) :: nn)) (hl : @LT.lt Nat _ I l') (cE : oE.cls = .type "enumerate") (cL : oL.cls = .type "list_iterator") (bn : ∀ p ∈ news, p.1 < I) (hx' : TxtsAre ws rs) (hG' : ∀ y ∈ x :: rs, Good y) (hi6 : i + (rs.length + 1) ≤ 6) (hsn : ∀ p ∈ news, p ∈ nn)
    (hcl : cloL hh (lg, ps) i (x :: rs) = cloL hh (0, []) 0 xs) (hs : cloS hh x i (lg, ps) = ((x.length : Int), [numT i])) : ClJ hh xs news (.int (x.length : Int) t) (.ref l') (enumItems (i + 1) ws) (less (I + 1) I ((l', listOf its k') :: (I + 1, oE) :: (I, oL) :: nn)) := by
  subst e
  exact ⟨_, t, l', [.str (numT i) u], k', [numT i], rs, ws, i + 1, rfl, rfl, rfl, hx', fun y hy => hG' y (.tail _ hy), by omega, less_list (cons_of N) (.tail _ (.head _)) (.tail _ (.tail _ (.head _))) cE cL (.head _), ⟨⟨_, rfl⟩, trivial⟩, by simp, less_news bn fun p hp => .tail _ (.tail _ (.tail _ (hsn p hp))), fun p hp => Nat.ne_of_lt (Nat.lt_trans (bn p hp) hl), by rw [← hcl, cloL, hs]⟩
end
theorem wide_1 {x : Str} (h : Txt.startswith x (Str.ofString ".") = false) : wide x = true := by simp [wide, h]
theorem wide_2 {x : Str} (h : (PySem.Builtin.Str.occurrences (Txt.slice x (some 1) none) (Str.ofString ".") 0 (Txt.slice x (some 1) none).length 1).isEmpty = false) : wide x = true := by simp [wide, Txt.contains, h]
theorem wide_3 {x : Str} (h : (low x == Str.ofString ".local") = true) : wide x = true := by simp only [wide, h, Bool.or_true]
theorem wide_0 {x : Str} (h1 : Txt.startswith x (Str.ofString ".") = true) (h2 : (PySem.Builtin.Str.occurrences (Txt.slice x (some 1) none) (Str.ofString ".") 0 (Txt.slice x (some 1) none).length 1).isEmpty = true) (h3 : (low x == Str.ofString ".local") = false) : wide x = false := by simp only [wide, Txt.contains, h1, h2, h3]; rfl
section
variable {hh x : Str} {i : Nat} {lg : Int} {ps : List Str}
theorem cloS_n (hw : wide x = false) : cloS hh x i (lg, ps) = (lg, ps) := by simp [cloS, hw]
theorem cloS_u (hu : udm hh x = false) : cloS hh x i (lg, ps) = (lg, ps) := by simp [cloS, hu]
theorem cloS_lt (hw : wide x = true) (hu : udm hh x = true) (h : lg < (x.length : Int)) : cloS hh x i (lg, ps) = ((x.length : Int), [numT i]) := by simp [cloS, hw, hu, h]
theorem cloS_eq (hw : wide x = true) (hu : udm hh x = true) (h : ¬ lg < (x.length : Int)) (h2 : (x.length : Int) = lg) : cloS hh x i (lg, ps) = (lg, ps ++ [numT i]) := by simp [cloS, hw, hu, h, h2]
theorem cloS_ne (hw : wide x = true) (hu : udm hh x = true) (h : ¬ lg < (x.length : Int)) (h2 : (x.length : Int) ≠ lg) : cloS hh x i (lg, ps) = (lg, ps) := by simp [cloS, hw, hu, h, h2]
end
end

section
local macro_rules | `(tactic| walk_at "subscriptTail Name UnaryOp ref int") => `(tactic| (k_here; (with_reducible show wpAny _ _ (subscriptTail _ _ (Value.ref _) (Value.int _ _)) _ _ _); k_dflt (refine' item_last ?k1 ?k2 ?_; (case k1 => k_asm); (case k2 => k_mem))))
local macro_rules | `(tactic| walk_at "subscriptTail Name Constant ref int") => `(tactic| (k_here; (with_reducible show wpAny _ _ (subscriptTail _ _ (Value.ref _) (Value.int _ _)) _ _ _); k_dflt (refine' item_first ?k1 ?k2 ?_; (case k1 => k_asm); (case k2 => k_mem))))
local macro_rules | `(tactic| walk_at "call ref") => `(tactic| (k_here; (with_reducible show wpAny _ _ (call (Value.ref 64) [Value.str _ _, Value.str _ _]) _ _ _); k_dflt (refine c_udm (by k_asm) (by k_asm) (by k_asm) (by k_asm) (by k_asm) (by first | exact rfl | assumption) (by walk_at "good") (by walk_at "good") (by ktr_room) (by ktr_units) ?_; k_whole; intro t' h' tk' F' N'; (try k_sweep); (try dsimp only))))
section
variable {w : World} {mean : ExcName → Option Value} {mg mb : Str → Option Value} {dp un : Nat} {gd : Option (List Code)} {cn : Str} {cs : Scope} {a : Addr} {ccd : Value} {cl : List (Str × Addr)} {outer : List Env} {A₀ : Around} {base h₀ : Heap} {L : Addr} {m : Str → Option Value} {s : Shared} {Q E : Value → Shared → Prop} {news : List (Addr × Obj)} {x y : Str} {tk tk2 : Tok}
theorem c_closest (B : Below A₀ base outer h₀) (F : Fr h₀ L s.heap m) (X : (Kh w).In h₀) (N : News h₀ L s.heap news) (T : Top Vw Ls mean mg mb h₀) (hk : cs.kind = .function) {r : Addr} {vs : List Value} {n : Nat} {xs : List Str} (hr : (r, listOf vs.toArray n) ∈ news) (hx : TxtsAre vs xs) (hG : ∀ x ∈ xs, Good x) (hn : xs.length ≤ 6) {hh : Str} (Gh : Good hh) (hd : dp + 10 < recursionLimit) (hu : un + 80 < cLine)
    (ret : ∀ D news' h' tk', Fr h₀ L h' m → News h₀ L h' news' → (∀ p ∈ news, p ∈ news') → Ans news' D (cloL hh (0, []) 0 xs).2.getLast? (cloL hh (0, []) 0 xs).2.head? (cloL hh (0, []) 0 xs).2 → Q (.ref D) { s with heap := h', toks := tk' }) : wpAny (model Pg w) (ktrTop dp un gd cn cs L a ccd cl outer) (call (.ref 269) [.ref r, .str hh tk]) Q E s := by
  dsimp only [Pg, Vw, Ls, Kh] at *
  revert X; k_fill; intro X
  have hlh := Gh.le
  refine wpAny_call ?_
  k_dflt (walk_at "enter")
  k_steps
  rename_i I hI
  rename (∀ p ∈ news, p.1 < _) => lD
  refine items_five (Str.ofString "place") (Str.ofString "rule") (Str.ofString "wide") (Str.ofString "longest") (Str.ofString "places") (ClJ hh xs news) rfl rfl ⟨0, _, _, [], 0, [], xs, vs, 0, rfl, rfl, rfl, hx, hG, by omega, .head _, trivial, Nat.le_refl 0, fun p hp => .tail _ hp, fun p hp => Nat.ne_of_lt (lD p hp), rfl⟩ ?_ ?_
  · rintro aa rr va vb u nn ⟨lg, tt, D1, vs', k, ps, rs, ws, i, rfl, rfl, hrest, hx', hG', hi6, hD1, hps, hpl, hsn, hnD, hcl⟩ v h tk hv F1
    cases ws with
    | nil => cases hrest
    | cons v0 ws => cases rs with
      | nil => exact hx'.elim
      | cons x rs =>
        obtain ⟨⟨t0, rfl⟩, hx'⟩ := hx'
        simp only [enumItems, List.cons.injEq] at hrest
        obtain ⟨rfl, rfl⟩ := hrest
        obtain ⟨TT, tt2, rfl, hTT⟩ := hv
        have Gx := hG' x (.head _)
        have hlx := Gx.le
        have hpv := hps.length
        simp only [List.length_cons] at hi6
        refine AllObj.cons (fun oE hcE => AllObj.cons (fun oL hcL => AllObj.nil (fun N1 => ?_)))
        simp only [List.cons_append, List.nil_append] at N1
        dsimp only [envOf] at F1 N1
        have hcons := cons_of N1
        have bn : ∀ p ∈ news, p.1 < I := fun p hp => hI p (.tail _ hp)
        have hrn := hsn _ hr
        k_steps
        all_goals (first | (exact absurd rfl (by assumption)) | skip)
        all_goals (rename Fr _ _ _ _ => FF; rename News _ _ _ _ => NN)
        all_goals (first
          | (refine cl_end FF NN (.head _) (.tail _ (.head _)) ⟨⟨less_news bn (fun p hp => .tail _ (.tail _ (hsn p hp))) _ hr, trivial⟩, ⟨_, _, rfl, rfl, cl_same (cL := hcL) (cE := hcE) NN bn hx' hG' hi6 hD1 hps hpl hsn hnD hcl ?_⟩, ?_⟩)
          | (refine cl_end FF NN (.tail _ (.head _)) (.tail _ (.tail _ (.head _))) ⟨⟨less_news bn (fun p hp => .tail _ (.tail _ (.tail _ (hsn p hp)))) _ hr, trivial⟩, ⟨_, _, rfl, rfl, cl_new rfl NN (by omega) hcE hcL bn hx' hG' hi6 hsn hcl ?_⟩, ?_⟩)
          | (refine cl_end FF NN (mem_setAt_ne (.head _) (hcons.ne (.tail _ (.tail _ hD1)) (.head _) (by rw [hcE]; simp [W.listOf])).symm) (mem_setAt_ne (.tail _ (.head _)) (hcons.ne (.tail _ (.tail _ hD1)) (.tail _ (.head _)) (by rw [hcL]; simp [W.listOf])).symm) ⟨⟨less_news bn (fun p hp => mem_setAt_ne (.tail _ (.tail _ (hsn p hp))) (hnD p hp)) _ hr, trivial⟩, ⟨_, _, rfl, rfl, cl_app NN hcons hcE hcL bn hx' hG' hi6 hD1 hps hpl hsn hnD hcl ?_⟩, ?_⟩)
          | skip)
        all_goals (first
          | (intro z z1 z2 z3 z4 z5; simp only [m3, if_neg z1, if_neg z2, if_neg z3, if_neg z4, if_neg z5]; done)
          | exact cloS_lt (by first | exact wide_1 (by assumption) | exact wide_2 (by assumption) | exact wide_3 (by assumption)) (by assumption) (by assumption)
          | exact cloS_eq (by first | exact wide_1 (by assumption) | exact wide_2 (by assumption) | exact wide_3 (by assumption)) (by assumption) (by assumption) (by assumption)
          | exact cloS_ne (by first | exact wide_1 (by assumption) | exact wide_2 (by assumption) | exact wide_3 (by assumption)) (by assumption) (by assumption) (by assumption)
          | exact cloS_u (by assumption)
          | exact cloS_n (wide_0 (by assumption) (by assumption) (by assumption)))
  · rintro va vb u nn ⟨lg, tt, D1, vs', k, ps, rs, ws, i, rfl, rfl, hrest, hx', hG', hi6, hD1, hps, hpl, hsn, hnD, hcl⟩ h tk F1 N1
    have hws : ws = [] := by cases ws with | nil => rfl | cons v ws => cases hrest
    subst hws
    have hrs : rs = [] := by cases rs with | nil => rfl | cons v ws => exact hx'.elim
    subst hrs
    have hpv := hps.length
    have e : (lg, ps) = cloL hh (0, []) 0 xs := hcl
    cases ps with
    | nil =>
      have hvv : vs' = [] := by cases vs' with | nil => rfl | cons v vs' => exact hps.elim
      subst hvv
      simp only [List.length_nil] at hpv
      dsimp only
      k_steps
      rw [← e] at ret
      exact ret _ _ _ _ (by walk_at "endF") (by walk_at "endN") (fun p hp => .tail _ (.tail _ (hsn p hp))) ⟨_, _, _, [], _, _, .head _, rfl, rfl, .tail _ (.head _), trivial⟩
    | cons y ps =>
      cases vs' with
      | nil => exact hps.elim
      | cons v vs' =>
        simp only [List.length_cons] at hpv hpl
        have hpv2 : (v :: vs').length = ps.length + 1 := by simpa using hpv
        dsimp only
        k_steps
        · exact absurd (by assumption : (v :: vs').isEmpty = true) (by simp)
        · rw [← e] at ret
          exact ret _ _ _ _ (by walk_at "endF") (by walk_at "endN") (fun p hp => .tail _ (hsn p hp)) ⟨_, _, _, _, _, _, .head _, hps.last, hps.1, .tail _ hD1, hps⟩
end
end

local macro_rules | `(tactic| walk_at "tab") => `(tactic| first | assumption | exact Tab.mono (by assumption) (by intro p' hp'; repeat (first | exact hp' | refine List.Mem.tail _ ?_)))

section
local macro_rules | `(tactic| walk_at "TupSrcU") => `(tactic| (k_here; k_dflt (refine' TupSrcU.intro ?k1 ?k2 ?k3 ?k4 ?k5 ?_; (case k1 => exact rfl); (case k2 => k_asm); (case k3 => k_asm); (case k4 => k_mem); (case k5 => walk_at "len")); intro g'))
local macro_rules | `(tactic| walk_at "exec Assign cons ListComp") => `(tactic| (k_here; k_dflt (refine assign_TupU (by k_asm) (by rfl) (by with_unfolding_all rfl) (by with_unfolding_all rfl) (by decide) (by rfl) (by decide) (by rfl) (by rfl) (by rfl) ?_)))
local macro_rules | `(tactic| walk_at "call ref") => `(tactic| (k_here; (with_reducible show wpAny _ _ (call (Value.ref 149) _) _ _ _); k_dflt (refine c_has (by k_asm) (by k_asm) (by k_asm) (by k_asm) (by k_asm) (by first | exact rfl | assumption) (by walk_at "good") (by walk_at "tab") (by ktr_room) (by ktr_units) ?_; k_whole; intro t' h' tk' F' N'; (try k_sweep); (try dsimp only))))
local macro_rules | `(tactic| walk_at "call ref") => `(tactic| (k_here; (with_reducible show wpAny _ _ (call (Value.ref 142) _) _ _ _); k_dflt (refine c_item (by k_asm) (by k_asm) (by k_asm) (by k_asm) (by k_asm) (by first | exact rfl | assumption) (by walk_at "good") (by walk_at "tab") (by ktr_room) (by ktr_units) ?_ ?_; all_goals (first | (k_whole; intro v' t' h' tk' hq' F' N'; (have hz' : ∃ z, look _ _ = some z := ⟨_, hq'⟩); clear hz'; (try k_sweep); (try dsimp only)) | (k_whole; intro h' tk' hq' F' N'; (try k_sweep); (try dsimp only))))))
local macro_rules | `(tactic| walk_at "call ref") => `(tactic| (k_here; (with_reducible show wpAny _ _ (call (Value.ref 154) _) _ _ _); k_dflt (refine c_all (by k_asm) (by k_asm) (by k_asm) (by k_asm) (by k_asm) (by first | exact rfl | assumption) (by walk_at "good") (by walk_at "tab") (by walk_at "hes") (by ktr_room) (by ktr_units) ?_; k_whole; intro r' vs' n' h' tk' hq' F' N' l1; (try k_sweep); (try dsimp only))))
local macro_rules | `(tactic| walk_at "CompEnd") => `(tactic| (k_dflt (refine' compEnd_same ?F ?N ?off ?S ?_; (case F => k_asm); (case N => k_asm); (case off => with_unfolding_all assumption); (case S => exact ⟨_, (by k_mem), rfl, _, rfl⟩))))
section
variable {w : World} {mean : ExcName → Option Value} {mg mb : Str → Option Value} {dp un : Nat} {gd : Option (List Code)} {cn : Str} {cs : Scope} {a : Addr} {ccd : Value} {cl : List (Str × Addr)} {outer : List Env} {A₀ : Around} {base h₀ : Heap} {L : Addr} {m : Str → Option Value} {s : Shared} {Q E : Value → Shared → Prop} {news : List (Addr × Obj)} {x y : Str} {tk tk2 : Tok}
/-- _law_found's answer -/
def foundL (es1 es2 es3 : List (Str × Str)) : List Str → Option Str × Option Str × List Str
  | [] => (none, none, [])
  | x :: xs => if (look es1 (low x)).isSome then (look es1 (low x), look es2 (low x), lookAll es3 (low x)) else foundL es1 es2 es3 xs
theorem found_hit {es1 es2 es3 : List (Str × Str)} {x : Str} {xs xs' : List Str} {led : List (Addr × Obj)} {D r : Addr} {v1 v2 : Str} {t1 t2 : Tok} {vs : List Value} {k n : Nat} (hfo : foundL es1 es2 es3 (x :: xs') = foundL es1 es2 es3 xs) (h1 : look es1 (low (swp x)) = some v1) (h2 : look es2 (low (swp x)) = some v2) (h3 : TxtsAre vs (lookAll es3 (low (swp x))))
    (hD : (D, ({ cls := .type "tuple", data := .seq #[.str v1 t1, .str v2 t2, .ref r] n } : Obj)) ∈ led) (hr : (r, listOf vs.toArray k) ∈ led) : Ans led D (foundL es1 es2 es3 xs).1 (foundL es1 es2 es3 xs).2.1 (foundL es1 es2 es3 xs).2.2 := by
  rw [low_swp] at h1 h2 h3
  rw [← hfo, foundL, h1]
  simp only [Option.isSome_some, if_true]
  exact ⟨_, _, _, _, _, _, hD, ⟨_, rfl⟩, by rw [h2]; exact ⟨_, rfl⟩, hr, h3⟩
theorem found_miss {es1 es2 es3 : List (Str × Str)} {x : Str} {xs xs' : List Str} {b2 b3 : Bool} (hfo : foundL es1 es2 es3 (x :: xs') = foundL es1 es2 es3 xs) (h : ((look es1 (low (swp x))).isSome == false && (b2 == false && b3 == false)) = true) : foundL es1 es2 es3 xs' = foundL es1 es2 es3 xs := by
  rw [low_swp] at h
  simp only [Bool.and_eq_true, beq_iff_eq] at h
  rw [← hfo, foundL, h.1]
  simp
theorem found_mixed {a b c : Bool} (h1 : (a == true && (b == true && c == true)) = false) (h2 : (a == false && (b == false && c == false)) = false) (hb : b = a) (hc : c = a) : False := by
  cases a <;> cases b <;> cases c <;> simp_all
theorem found_lost {a b c : Bool} (h1 : (a == true && (b == true && c == true)) = true) (h2 : a = false ∨ b = false) : False := by
  cases a <;> cases b <;> simp_all
theorem c_found (B : Below A₀ base outer h₀) (F : Fr h₀ L s.heap m) (X : (Kh w).In h₀) (N : News h₀ L s.heap news) (T : Top Vw Ls mean mg mb h₀) (hk : cs.kind = .function) {r tp t1 t2 t3 l1 l2 l3 : Addr} {vs : List Value} {n n' : Nat} {xs : List Str} {es1 es2 es3 : List (Str × Str)} (hr : (r, listOf vs.toArray n) ∈ news) (hx : TxtsAre vs xs) (hG : ∀ x ∈ xs, Good x) (hn : xs.length ≤ 9)
    (ht : (tp, ({ cls := .type "tuple", data := .seq #[.ref t1, .ref t2, .ref t3] n' } : Obj)) ∈ news) (T1 : Tab news t1 l1 es1) (T2 : Tab news t2 l2 es2) (T3 : Tab news t3 l3 es3) (q1 : es1.length ≤ 90) (q2 : es2.length ≤ 90) (q3 : es3.length ≤ 90) (hu2 : ∀ k, (look es2 k).isSome = (look es1 k).isSome) (hu3 : ∀ k, (look es3 k).isSome = (look es1 k).isSome) (hd : dp + 20 < recursionLimit) (hu : un + 150 < cLine)
    (ret : ∀ D news' h' tk', Fr h₀ L h' m → News h₀ L h' news' → (∀ p ∈ news, p ∈ news') → Ans news' D (foundL es1 es2 es3 xs).1 (foundL es1 es2 es3 xs).2.1 (foundL es1 es2 es3 xs).2.2 → Q (.ref D) { s with heap := h', toks := tk' }) : wpAny (model Pg w) (ktrTop dp un gd cn cs L a ccd cl outer) (call (.ref 262) [.ref tp, .ref r]) Q E s := by
  dsimp only [Pg, Vw, Ls, Kh] at *
  revert X; k_fill; intro X
  obtain ⟨⟨dd1, ha1, ka1, na1, hma1, hmb1⟩, -⟩ := id T1
  obtain ⟨⟨dd2, ha2, ka2, na2, hma2, hmb2⟩, -⟩ := id T2
  obtain ⟨⟨dd3, ha3, ka3, na3, hma3, hmb3⟩, -⟩ := id T3
  refine wpAny_call ?_
  k_dflt (first | walk_at "enter" | walk_at "enterC")
  k_steps
  rename (∀ p ∈ _ :: news, p.1 < _) => hI
  have b0 := hI _ (.head _)
  dsimp only at b0
  have b1 := neN (Nat.ne_of_lt b0)
  have b2 := neN (Nat.ne_of_gt b0)
  refine items_mut2 (Str.ofString "name") (Str.ofString "marks") (fun rest nn => ∃ vs' xs' oc v, rest = List.map Itm.val vs' ∧ TxtsAre vs' xs' ∧ (∀ x ∈ xs', Good x) ∧ nn = (_, oc) :: news ∧ oc.data = .cell v ∧ foundL es1 es2 es3 xs' = foundL es1 es2 es3 xs) ⟨vs, xs, _, _, rfl, hx, hG, rfl, by assumption, rfl⟩ ?_ ?_
  · rintro aa rr u nn ⟨vs', xs', oc, v, hrest, hx', hG', rfl, hoc, hfo⟩ v h tk hv F1
    cases vs' with
    | nil => cases hrest
    | cons v0 vs' => cases xs' with
      | nil => exact hx'.elim
      | cons x xs' =>
        obtain ⟨⟨t0, rfl⟩, hx'⟩ := hx'
        simp only [List.map_cons, List.cons.injEq] at hrest
        obtain ⟨rfl, rfl⟩ := hrest
        cases hv
        have Gx := hG' x (.head _)
        have hlx := Gx.le
        refine AllObj.cons (fun oL hcL => AllObj.nil (fun N1 => ?_))
        simp only [List.cons_append, List.nil_append] at N1
        dsimp only [envOfC] at F1 N1
        k_steps
        all_goals (first
          | (rename look es2 (low (swp x)) = none => hz
             rename (_ == true && (_ == true && _ == true)) = true => ha
             exact (found_lost ha (.inr (by rw [hz]; rfl))).elim)
          | (rename look es1 (low (swp x)) = none => hz
             rename (_ == true && (_ == true && _ == true)) = true => ha
             exact (found_lost ha (.inl (by rw [hz]; rfl))).elim)
          | (rename Fr _ _ _ _ => FF
             rename News _ _ _ _ => NN
             exact ret _ _ _ _ FF NN (fun p hp => .tail _ (.tail _ (.tail _ (.tail _ (.tail _ (.tail _ hp)))))) (found_hit hfo (by assumption) (by assumption) (by assumption) (.head _) (.tail _ (.head _))))
          | (rename (_ == true && (_ == true && _ == true)) = false => ha
             rename (_ == false && (_ == false && _ == false)) = false => hb
             exact (found_mixed ha hb (hu2 _) (hu3 _)).elim)
          | skip)
        rename Fr _ _ _ _ => FF
        rename News _ _ _ _ => NN
        rename (_ == false && (_ == false && _ == false)) = true => ha
        refine unrEnd_ro (keep := []) FF (cb_drop NN (fun p hp => .tail _ (.tail _ (.tail _ hp)))) (fun p hp => ?_) ⟨⟨.tail _ hr, trivial⟩, fun z z1 z2 => ?_, vs', xs', _, _, rfl, hx', fun y hy => hG' y (.tail _ hy), rfl, (by assumption), found_miss hfo ha⟩
        · rcases List.mem_cons.mp hp with rfl | hp
          · exact b0
          · exact hI _ (.tail _ hp)
        · simp only [m2, if_neg z1, if_neg z2]; rfl
  · rintro u nn ⟨vs', xs', oc, v, hrest, hx', hG', rfl, hoc, hfo⟩ h tk F1 N1
    have hv' : vs' = [] := by simpa using hrest.symm
    subst hv'
    have hxx : xs' = [] := by cases xs' with | nil => rfl | cons x xs' => exact hx'.elim
    subst hxx
    rw [← hfo] at ret
    dsimp only
    k_steps
    rename Fr _ _ _ _ => FF
    rename News _ _ _ _ => NN
    exact ret _ _ _ _ FF NN (fun p hp => .tail _ (.tail _ (.tail _ hp))) ⟨_, _, _, [], _, _, .head _, rfl, rfl, .tail _ (.head _), trivial⟩
end
end

section
open PyProof.V PySem.Spec in
theorem dat_eq {prog : Program} {w : World} {A : Around} {E : Value → Shared → Prop} {s : Shared} {h₀ : Heap} {L : Addr} {led : List (Addr × Obj)} {a b : Value} {d : Dat} {Q : Value → Shared → Prop} (N : News h₀ L s.heap led) (Da : DatIn led a d) (Db : DatIn led b d) (ok : kqdOk 8 d = true) (hu : A.units + 64 < cLine) (h : Q (.bool true) s) : wpAny (model prog w) A (compareOp .Eq a b) Q E s := by
  obtain ⟨as, ra⟩ := kqd_in N 8 Da ok
  obtain ⟨bs, rb⟩ := kqd_in N 8 Db ok
  have l := kqd_lay 8 d ok
  have e : PyData.eqv (kqdP d) (kqdP d) = true := (kqd_eqv 8 d d 8 ok ok).mpr rfl
  have hs : SeqAt.shaped (kqdP d) = true := by
    unfold SeqAt.shaped; rw [l.1, Bool.true_and]; exact decide_eq_true (Nat.le_trans l.2 (by decide))
  exact eq_dataH ra rb hs hs hu (by rw [e]; exact h)
theorem Good.strOk {x : Str} (G : Good x) : PyData.strOk x = true := by
  unfold PyData.strOk
  rw [Array.all_eq_true_iff_forall_mem]
  intro c hc
  have := okc_ascii (G.all c hc)
  simp only [decide_eq_true_eq]
  omega
/-- texts as data -/
def strsD (xs : List Str) : List Dat := xs.map Dat.str
theorem TxtsAre.dat {led : List (Addr × Obj)} : ∀ {vs : List Value} {xs : List Str}, TxtsAre vs xs → DatAll led vs (strsD xs)
  | [], [], _ => .nil
  | _ :: _, _ :: _, ⟨⟨t, e⟩, r⟩ => by subst e; exact .cons (.str _ t) r.dat
  | [], _ :: _, h => h.elim
  | _ :: _, [], h => h.elim
def optD : Option Str → Dat
  | none => .none
  | some x => .str x
theorem OptIs.dat {led : List (Addr × Obj)} {v : Value} {o : Option Str} (h : OptIs v o) : DatIn led v (optD o) := by
  cases o with
  | none => cases h; exact .none
  | some x => obtain ⟨t, e⟩ := h; subst e; exact .str _ t
theorem Ans.dat {led : List (Addr × Obj)} {A : Addr} {o1 o2 : Option Str} {ps : List Str} (h : Ans led A o1 o2 ps) : DatIn led (.ref A) (.tuple [optD o1, optD o2, .list (strsD ps)]) := by
  obtain ⟨v1, v2, D, vs, k, n, h1, h2, h3, h4, h5⟩ := h
  exact .tuple (vs := [v1, v2, .ref D]) h1 (.cons h2.dat (.cons h3.dat (.cons (.list h4 h5.dat) .nil)))
theorem optD_ok {o : Option Str} (h : ∀ x, o = some x → PyData.strOk x = true) : ∀ n, kqdOk n (optD o) = true := fun n => by
  cases o with
  | none => cases n <;> rfl
  | some x => cases n <;> exact h x rfl
theorem strsD_ok {xs : List Str} (h : ∀ x ∈ xs, PyData.strOk x = true) (n : Nat) : (strsD xs).all (kqdOk n) = true := by
  rw [List.all_eq_true]
  intro d hd
  obtain ⟨x, hx, rfl⟩ := List.mem_map.mp hd
  cases n <;> exact h x hx
theorem Ans.mono {led led' : List (Addr × Obj)} {A : Addr} {o1 o2 : Option Str} {ps : List Str} (h : Ans led A o1 o2 ps) (hs : ∀ p ∈ led, p ∈ led') : Ans led' A o1 o2 ps := by
  obtain ⟨v1, v2, D, vs, k, n, h1, h2, h3, h4, h5⟩ := h
  exact ⟨v1, v2, D, vs, k, n, hs _ h1, h2, h3, hs _ h4, h5⟩
theorem ans_ok {ps : List Str} {o1 o2 : Option Str} (h : ∀ x ∈ ps, PyData.strOk x = true) (h1 : o1 = ps.getLast?) (h2 : o2 = ps.head?) : kqdOk 8 (.tuple [optD o1, optD o2, .list (strsD ps)]) = true := by
  show ([optD o1, optD o2, .list (strsD ps)].all (kqdOk 7)) = true
  simp only [List.all_cons, List.all_nil, Bool.and_true, Bool.and_eq_true]
  refine ⟨optD_ok (fun x e => h x ?_) 7, optD_ok (fun x e => h x ?_) 7, strsD_ok h 6⟩
  · rw [h1] at e; exact List.mem_of_getLast? e
  · rw [h2] at e; exact List.mem_of_head? e
/-- the places that _law_closest gives are small numbers -/
theorem cloL_mem (h : Str) : ∀ (rs : List Str) (st : Int × List Str) (i : Nat), ∀ y ∈ (cloL h st i rs).2, y ∈ st.2 ∨ ∃ j, j < i + rs.length ∧ y = numT j
  | [], st, i, y, hy => .inl hy
  | r :: rs, st, i, y, hy => by
    rcases cloL_mem h rs _ _ y hy with hy | ⟨j, hj, e⟩
    · have hs : y ∈ st.2 ∨ y = numT i := by
        unfold cloS at hy
        split at hy
        · split at hy
          · right; simpa using hy
          · split at hy
            · rcases List.mem_append.mp hy with hy | hy
              · exact .inl hy
              · right; simpa using hy
            · exact .inl hy
        · exact .inl hy
      rcases hs with hs | hs
      · exact .inl hs
      · exact .inr ⟨i, by simp, hs⟩
    · exact .inr ⟨j, by simp only [List.length_cons]; omega, e⟩
theorem clo_ok (h : Str) (rs : List Str) (hn : rs.length ≤ 6) : ∀ y ∈ (cloL h (0, []) 0 rs).2, PyData.strOk y = true := fun y hy => by
  rcases cloL_mem h rs _ _ y hy with hy | ⟨j, hj, rfl⟩
  · cases hy
  · exact (numT_good j (by omega)).strOk
theorem TxtsAre.drop : ∀ {vs : List Value} {xs : List Str}, TxtsAre vs xs → ∀ k, TxtsAre (vs.drop k) (xs.drop k)
  | _, _, h, 0 => h
  | [], [], _, _ + 1 => trivial
  | _ :: _, _ :: _, ⟨_, r⟩, k + 1 => r.drop k
  | [], _ :: _, h, _ + 1 => h.elim
  | _ :: _, [], h, _ + 1 => h.elim
end

local macro_rules | `(tactic| walk_at "pad 2") => `(tactic| skip)

section
local macro_rules | `(tactic| walk_at "call ref") => `(tactic| (k_here; (with_reducible show wpAny _ _ (call (Value.ref 257) _) _ _ _); k_dflt (refine c_way (by k_asm) (by k_asm) (by k_asm) (by k_asm) (by k_asm) (by first | exact rfl | assumption) (by walk_at "good") (by ktr_room) (by ktr_units) ?_; k_whole; intro D' vs' n' h' tk' F' N' l1 hV' hGV'; (have hvl' := hV'.length); (try k_sweep); (try dsimp only))))
local macro_rules | `(tactic| walk_at "call ref") => `(tactic| (k_here; (with_reducible show wpAny _ _ (call (Value.ref 50) [Value.str _ _, Value.str _ _]) _ _ _); k_dflt (refine c_dm (by k_asm) (by k_asm) (by k_asm) (by k_asm) (by k_asm) (by first | exact rfl | assumption) (by walk_at "good") (by walk_at "good") (by ktr_room) (by ktr_units) ?_; k_whole; intro t' h' tk' F' N'; (try k_sweep); (try dsimp only))))
local macro_rules | `(tactic| walk_at "exec For Name Subscript cons nil") => `(tactic| (k_here; (rename Fr _ _ _ _ => lF'); (with_unfolding_all refine' For_turns lF' ?_; k_whole)))
local macro_rules | `(tactic| walk_at "call ref") => `(tactic| (k_here; (with_reducible show wpAny _ _ (call (Value.ref 262) _) _ _ _); refine stop_here ?_))
local macro_rules | `(tactic| walk_at "call ref") => `(tactic| (k_here; (with_reducible show wpAny _ _ (call (Value.ref 269) _) _ _ _); refine stop_here ?_))
local macro_rules | `(tactic| walk_at "compareOp Eq ref ref") => `(tactic| (k_here; refine stop_here ?_))
section
variable {w : World} {mean : ExcName → Option Value} {mg mb : Str → Option Value} {dp un : Nat} {gd : Option (List Code)} {cn : Str} {cs : Scope} {a : Addr} {ccd : Value} {cl : List (Str × Addr)} {outer : List Env} {A₀ : Around} {base h₀ : Heap} {L : Addr} {m : Str → Option Value} {s : Shared} {Q E : Value → Shared → Prop} {news : List (Addr × Obj)} {x y : Str} {tk tk2 : Tok}
theorem pick_tail {vs : List Value} {xs : List Str} (h : TxtsAre vs xs) : TxtsAre (kms_pick vs.toArray.toList (some 1) none) xs.tail := by
  rw [pick_drop]
  have e : vs.toArray.toList.drop (kms_lo (some 1) vs.toArray.toList.length) = vs.drop 1 := by
    cases vs with
    | nil => simp
    | cons v vs =>
      have : kms_lo (some 1) (v :: vs).toArray.toList.length = 1 := by simp [kms_lo]
      rw [this]
  rw [e, ← List.drop_one]
  exact h.drop 1
theorem c_right (B : Below A₀ base outer h₀) (F : Fr h₀ L s.heap m) (X : (Kh w).In h₀) (N : News h₀ L s.heap news) (T : Top Vw Ls mean mg mb h₀) (hk : cs.kind = .function) {r tp t1 t2 t3 l1 l2 l3 : Addr} {vs : List Value} {n n' : Nat} {xs : List Str} {es1 es2 es3 : List (Str × Str)} {hh : Str} (Gh : Good hh) (hr : (r, listOf vs.toArray n) ∈ news) (hx : TxtsAre vs xs) (hG : ∀ x ∈ xs, Good x) (hn : xs.length ≤ 6)
    (ht : (tp, ({ cls := .type "tuple", data := .seq #[.ref t1, .ref t2, .ref t3] n' } : Obj)) ∈ news) (T1 : Tab news t1 l1 es1) (T2 : Tab news t2 l2 es2) (T3 : Tab news t3 l3 es3) (q1 : es1.length ≤ 90) (q2 : es2.length ≤ 90) (q3 : es3.length ≤ 90) (hu2 : ∀ k, (look es2 k).isSome = (look es1 k).isSome) (hu3 : ∀ k, (look es3 k).isSome = (look es1 k).isSome)
    (hw9 : (way hh).length ≤ 9) (hdm : ∀ y ∈ (way hh).tail, dmt (swp hh) y = true) (heq : foundL es1 es2 es3 (way hh) = ((cloL hh (0, []) 0 xs).2.getLast?, (cloL hh (0, []) 0 xs).2.head?, (cloL hh (0, []) 0 xs).2)) (hd : dp + 25 < recursionLimit) (hu : un + 200 < cLine)
    (ret : ∀ (t : Tok) h' tk', Fr h₀ L h' m → News h₀ L h' news → Q (.bool true) { s with heap := h', toks := tk' }) : wpAny (model Pg w) (ktrTop dp un gd cn cs L a ccd cl outer) (call (.ref 276) [.ref tp, .ref r, .str hh tk]) Q E s := by
  dsimp only [Pg, Vw, Ls, Kh] at *
  revert X; k_fill; intro X
  have hlh := Gh.le
  refine wpAny_call ?_
  k_dflt (walk_at "enter")
  k_steps
  rename TxtsAre _ (way hh) => hV
  rename (∀ y ∈ way hh, Good y) => hGV
  rename (∀ p ∈ _ :: _ :: news, p.1 < _) => hI
  rename (∀ p ∈ _ :: news, p.1 < _) => hD2
  rename (∀ p ∈ news, p.1 < _) => hD1
  refine items_ro2 (Str.ofString "name") (Str.ofString "name") (fun rest => ∃ vs' xs', rest = List.map Itm.val vs' ∧ TxtsAre vs' xs' ∧ (∀ y ∈ xs', Good y) ∧ ∀ y ∈ xs', dmt (swp hh) y = true) ⟨_, _, rfl, pick_tail hV, fun y hy => hGV y (List.mem_of_mem_tail hy), hdm⟩ ?_ ?_
  · rintro aa rr u ⟨vs', xs', hrest, hx', hG', hd'⟩ v h tk hv F1
    cases vs' with
    | nil => cases hrest
    | cons v0 vs' => cases xs' with
      | nil => exact hx'.elim
      | cons x xs' =>
        obtain ⟨⟨t0, rfl⟩, hx'⟩ := hx'
        simp only [List.map_cons, List.cons.injEq] at hrest
        obtain ⟨rfl, rfl⟩ := hrest
        cases hv
        have Gx := hG' x (.head _)
        have hlx := Gx.le
        have hdx := hd' x (.head _)
        refine AllObj.cons (fun oL hcL => AllObj.nil (fun N1 => ?_))
        simp only [List.cons_append, List.nil_append] at N1
        dsimp only [envOf] at F1 N1
        k_steps
        · rename (dmt (swp hh) x != true) = true => hz
          rw [hdx] at hz; cases hz
        · rename Fr _ _ _ _ => FF
          rename News _ _ _ _ => NN
          exact unrEnd_ro (keep := []) FF NN hI ⟨⟨.head _, trivial⟩, rfl, fun z z1 z2 => by simp only [m2, if_neg z1], vs', xs', rfl, hx', fun y hy => hG' y (.tail _ hy), fun y hy => hd' y (.tail _ hy)⟩
  · rintro u ⟨vs', xs', hrest, hx', hG', hd'⟩ h tk F1 N1
    dsimp only
    k_steps
    refine stop_go ?_
    k_dflt (refine' c_found ?B ?F ?X ?N ?T ?hk (.tail _ (.head _)) hV hGV hw9 (.tail _ (.tail _ ht)) (T1.mono fun _ h => .tail _ (.tail _ h)) (T2.mono fun _ h => .tail _ (.tail _ h)) (T3.mono fun _ h => .tail _ (.tail _ h)) q1 q2 q3 hu2 hu3 ?hd ?hu ?_; (case B => k_asm); (case F => k_asm); (case X => k_asm); (case N => k_asm); (case T => k_asm); (case hk => first | exact rfl | assumption); (case hd => ktr_room); (case hu => ktr_units))
    intro D3 nw3 h3 tk3 F3 N3 s3 A3
    have sn3 : ∀ p ∈ news, p ∈ nw3 := fun p hp => s3 _ (.tail _ (.tail _ hp))
    dsimp only
    k_steps
    refine stop_go ?_
    k_dflt (refine' c_closest ?B ?F ?X ?N ?T ?hk (sn3 _ hr) hx hG hn Gh ?hd ?hu ?_; (case B => k_asm); (case F => k_asm); (case X => k_asm); (case N => k_asm); (case T => k_asm); (case hk => first | exact rfl | assumption); (case hd => ktr_room); (case hu => ktr_units))
    intro D4 nw4 h4 tk4 F4 N4 s4 A4
    have A3' := A3.mono s4
    rw [heq] at A3'
    dsimp only
    k_steps
    refine stop_go ?_
    k_dflt (refine' dat_eq ?N A3'.dat A4.dat (ans_ok (clo_ok hh xs hn) rfl rfl) ?hu ?_; (case N => k_asm); (case hu => ktr_units))
    (try dsimp only)
    k_steps
    all_goals (refine' cb_retB ret ?e ?F ?N; (case F => walk_at "endF"); (case N => exact cb_drop (by assumption) (fun p hp => s4 _ (sn3 _ hp))); (case e => rfl))
end
end

section
variable {w : World} {mean : ExcName → Option Value} {mg mb : Str → Option Value} {dp un : Nat} {gd : Option (List Code)} {cn : Str} {cs : Scope} {a : Addr} {ccd : Value} {cl : List (Str × Addr)} {outer : List Env} {A₀ : Around} {base h₀ : Heap} {L : Addr} {m : Str → Option Value} {s : Shared} {Q E : Value → Shared → Prop} {news : List (Addr × Obj)} {x y : Str} {tk tk2 : Tok}
theorem ints_snoc : ∀ {vs : List Value} {ns : List Int}, IntsAre vs ns → ∀ (i : Int) (t : Tok), IntsAre (vs ++ [.int i t]) (ns ++ [i])
  | _, _, .nil, i, t => .cons i t .nil
  | _, _, .cons j u r, i, t => .cons j u (ints_snoc r i t)
theorem ints_take : ∀ {vs : List Value} {ns : List Int}, IntsAre vs ns → ∀ k, IntsAre (vs.take k) (ns.take k)
  | _, _, _, 0 => by simpa using IntsAre.nil
  | _, _, .nil, _ + 1 => by simpa using IntsAre.nil
  | _, _, .cons j u r, k + 1 => by simpa using IntsAre.cons j u (ints_take r k)
theorem pick_six (vs : List Value) : kms_pick vs.toArray.toList none (some 6) = vs.take 6 := by
  unfold kms_pick kms_lo kms_hi
  simp only [List.drop_zero, Nat.sub_zero]
  rw [if_neg (by decide)]
  show List.take (min 6 vs.length) vs = _
  rcases Nat.le_total 6 vs.length with h | h
  · rw [Nat.min_eq_left h]
  · rw [Nat.min_eq_right h, List.take_length, List.take_of_length_le h]
/-- the numbers of a script -/
def nums (ns : List Int) : List Int := ns.map fun i => Int.fmod i 777600
theorem nums_rng (ns : List Int) : ∀ i ∈ nums ns, 0 ≤ i ∧ i < 777600 := fun i hi => by
  obtain ⟨j, _, rfl⟩ := List.mem_map.mp hi
  exact ⟨Int.fmod_nonneg_of_pos j (by decide), Int.fmod_lt_of_pos j (by decide)⟩
theorem nums_snoc {ns : List Int} {k : Nat} {i : Int} (h : ns[k]? = some i) : nums (ns.take (k + 1)) = nums (ns.take k) ++ [Int.fmod i 777600] := by
  simp [nums, List.take_add_one, h]
theorem c_numbers (B : Below A₀ base outer h₀) (F : Fr h₀ L s.heap m) (X : (Kh w).In h₀) (N : News h₀ L s.heap news) (T : Top Vw Ls mean mg mb h₀) (hk : cs.kind = .function) {sa : Addr} {vs : List Value} {ns : List Int} (hl : h₀.IsList sa vs.toArray) (hi : IntsAre vs ns) (hn : ns.length ≤ 63) (hd : dp + 5 < recursionLimit) (hu : un + 60 < cLine)
    (ret : ∀ D us ms k h' tk', Fr h₀ L h' m → News h₀ L h' ((D, listOf us.toArray k) :: news) → (∀ p ∈ news, p.1 ≠ D) → IntsAre us ms → ms.length ≤ 6 → (∀ i ∈ ms, 0 ≤ i ∧ i < 777600) → Q (.ref D) { s with heap := h', toks := tk' }) : wpAny (model Pg w) (ktrTop dp un gd cn cs L a ccd cl outer) (call (.ref 281) [.ref sa]) Q E s := by
  dsimp only [Pg, Vw, Ls, Kh] at *
  revert X; k_fill; intro X
  have hvl := hi.length
  refine wpAny_call ?_
  k_dflt (first | walk_at "enter" | walk_at "enterC")
  rename Fr h₀ L _ m => FG
  have hlg := hl.at fun o e => FG.keep _ _ e
  k_steps
  · have hin := ints_take hi 6
    rename (∀ p ∈ news, p.1 < _) => lD
    rename News _ _ _ _ => NN
    rw [pick_six] at NN
    have hlen : (vs.take 6).length ≤ 6 := by rw [List.length_take]; omega
    k_dflt (refine' LCg.CompSrc.ledger ?k1 ?k2 ?k3 ?k4 ?k5 ?_; (case k1 => exact rfl); (case k2 => k_asm); (case k3 => exact NN); (case k4 => exact .head _); (case k5 => (simp only [List.size_toArray, PySem.sizeLine_eq]; omega)))
    intro g2
    refine compU_ro (fun i ys => IntsAre ys (nums ((ns.take 6).take i))) .nil ?_ ?_
    · intro k ys hi' hj v I oI C oC D m₂ h tk E' hP hC hx F1 N1 off ne
      obtain ⟨i, t, rfl, hk'⟩ := hin.at k v (by simpa using hP)
      k_steps
      refine ⟨_, _, _, rfl, by k_asm, by k_asm, off, .inr ⟨_, .head _, rfl, _, rfl⟩, rfl, ?_⟩
      rw [nums_snoc hk']
      exact ints_snoc hj _ _
    · intro ys hj D h tk F1 N1 off
      dsimp only
      k_steps
      rename Fr h₀ L _ m => FF
      rename News h₀ L _ _ => NN2
      rw [List.take_of_length_le (by simp; omega)] at hj
      exact ret D ys _ ys.length _ _ FF (cb_drop NN2 (fun p hp => (List.mem_cons.mp hp).elim (fun e => e ▸ .head _) (fun h => .tail _ (.tail _ h)))) (fun p hp => ne_of_off1 off p (.tail _ hp)) hj (by simp [nums]; omega) (nums_rng _)
  · rename News h₀ L _ _ => NN
    rename Fr h₀ L _ m => FF
    rename (∀ p ∈ news, p.1 < _) => lD
    exact ret _ _ [284513, 738305, 673739, 161423] _ _ _ FF NN (fun p hp => Nat.ne_of_lt (lD p hp)) (.cons _ _ (.cons _ _ (.cons _ _ (.cons _ _ .nil)))) (by decide) (by decide)
end

section
theorem TxtsAre.at : ∀ {vs : List Value} {xs : List Str}, TxtsAre vs xs → ∀ {i : Nat} {v : Value}, vs[i]? = some v → ∃ x t, v = .str x t ∧ xs[i]? = some x
  | [], [], _, _, _, h => by simp at h
  | _ :: _, x :: _, ⟨⟨t, e⟩, _⟩, 0, v, h => by
    simp at h
    subst h
    exact ⟨x, t, e, rfl⟩
  | _ :: _, _ :: _, ⟨_, r⟩, i + 1, v, h => by
    obtain ⟨x, t, e, q⟩ := r.at (i := i) (v := v) (by simpa using h)
    exact ⟨x, t, e, by simpa using q⟩
  | [], _ :: _, x, _, _, _ => x.elim
  | _ :: _, [], x, _, _, _ => x.elim
theorem lows_snoc {xs : List Str} {k : Nat} {x : Str} (h : xs[k]? = some x) : (xs.take (k + 1)).map low = (xs.take k).map low ++ [low x] := by
  simp [List.take_add_one, h]
section
variable {prog : Program} {w : World} {A : Around} {E : Value → Shared → Prop} {s : Shared} {L : Addr} {h₀ : Heap} {news : List (Addr × Obj)} {value slice : PySem.Expr} {u : Tok} {Q : Value → Shared → Prop}
theorem item_k {D : Addr} {v : Value} {vs : List Value} {c k : Nat} (N : News h₀ L s.heap news) (hm : (D, listOf vs.toArray c) ∈ news) (hk : vs[k]? = some v ∧ k < 1000) (h : Q v s)
    (hs : subscripted slice false (.ref D) (.int (k : Int) u) = operate [.ref D, .int (k : Int) u] (getItem (.ref D) (.int (k : Int) u)) := by with_unfolding_all rfl) (hg : ∀ r, letTemporaryGo value (.ref D) r = pure () := by intro _; with_unfolding_all rfl) : wpAny (model prog w) A (subscriptTail value slice (.ref D) (.int (k : Int) u)) Q E s :=
  item_listL (News.isList N hm) (by omega) (by omega) (by simpa using hk.1) h hs hg
end
/-- the rows of the places that pass a test -/
def rowsP (p : Nat → Str → Bool) (xs : List Str) : Nat → List (Str × Str)
  | 0 => []
  | i + 1 => rowsP p xs i ++ (match xs[i]? with | some x => if p i x then [(x, numT i)] else [] | none => [])
theorem rowsP_yes {p : Nat → Str → Bool} {xs : List Str} {i : Nat} {x : Str} (h : xs[i]? = some x) (hp : p i x = true) : rowsP p xs (i + 1) = rowsP p xs i ++ [(x, numT i)] := by
  simp [rowsP, h, hp]
theorem rowsP_no {p : Nat → Str → Bool} {xs : List Str} {i : Nat} {x : Str} (h : xs[i]? = some x) (hp : p i x = false) : rowsP p xs (i + 1) = rowsP p xs i := by
  simp [rowsP, h, hp]
def lastP (xs : List Str) (i : Nat) (x : Str) : Bool := !((xs.map low).drop (i + 1)).contains (low x)
def firstP (xs : List Str) (i : Nat) (x : Str) : Bool := !((xs.map low).take i).contains (low x)
theorem range_at {vs : List Value} {n k : Nat} {v : Value} (h : IntsAre vs (rangeKs 0 n)) (hv : vs[k]? = some v) : ∃ t, v = .int (k : Int) t := by
  obtain ⟨i, t, rfl, hk⟩ := h.at k v hv
  simp only [rangeKs, List.getElem?_map, Option.map_eq_some_iff, Int.zero_add] at hk
  obtain ⟨j, hj, rfl⟩ := hk
  rw [List.getElem?_eq_some_iff] at hj
  obtain ⟨hl, rfl⟩ := hj
  exact ⟨t, by rw [List.getElem_range]⟩
theorem mem_strsD {x : Str} {xs : List Str} : Dat.str x ∈ strsD xs ↔ x ∈ xs := by
  simp [strsD]
theorem pick_from {vs : List Value} {xs : List Str} {k : Nat} (h : TxtsAre vs xs) : TxtsAre (kms_pick vs.toArray.toList (some ((k : Int) + 1)) none) (xs.drop (k + 1)) := by
  rw [pick_drop]
  have e : vs.toArray.toList.drop (kms_lo (some ((k : Int) + 1)) vs.toArray.toList.length) = vs.drop (k + 1) := by
    have e2 : kms_lo (some ((k : Int) + 1)) vs.toArray.toList.length = min (k + 1) vs.length := by
      simp only [kms_lo]
      rw [if_neg (by omega)]
      simp
    rw [e2]
    rcases Nat.le_total (k + 1) vs.length with h | h
    · rw [Nat.min_eq_left h]
    · rw [Nat.min_eq_right h, List.drop_of_length_le (by simp), List.drop_of_length_le h]
  rw [e]
  exact h.drop (k + 1)
theorem TxtsAre.take : ∀ {vs : List Value} {xs : List Str}, TxtsAre vs xs → ∀ k, TxtsAre (vs.take k) (xs.take k)
  | [], [], _, _ => by simp; trivial
  | _ :: _, _ :: _, _, 0 => trivial
  | _ :: _, _ :: _, ⟨q, r⟩, k + 1 => ⟨q, r.take k⟩
  | [], _ :: _, h, _ => h.elim
  | _ :: _, [], h, _ => h.elim
theorem pick_to {vs : List Value} {xs : List Str} {k : Nat} (h : TxtsAre vs xs) : TxtsAre (kms_pick vs.toArray.toList none (some (k : Int))) (xs.take k) := by
  have e : kms_pick vs.toArray.toList none (some (k : Int)) = vs.take k := by
    unfold kms_pick kms_lo kms_hi
    simp only [List.drop_zero, Nat.sub_zero]
    rw [if_neg (by omega)]
    show List.take (min (k : Int).toNat vs.length) vs = _
    rw [Int.toNat_natCast]
    rcases Nat.le_total k vs.length with h | h
    · rw [Nat.min_eq_left h]
    · rw [Nat.min_eq_right h, List.take_length, List.take_of_length_le h]
  rw [e]
  exact h.take k
theorem TxtsAre.get : ∀ {vs : List Value} {xs : List Str}, TxtsAre vs xs → ∀ {i : Nat} {x : Str}, xs[i]? = some x → ∃ t, vs[i]? = some (.str x t)
  | [], [], _, _, _, h => by simp at h
  | _ :: _, x :: _, ⟨⟨t, e⟩, _⟩, 0, v, h => by
    simp at h
    subst h e
    exact ⟨t, rfl⟩
  | _ :: _, _ :: _, ⟨_, r⟩, i + 1, v, h => by
    obtain ⟨t, q⟩ := r.get (i := i) (x := v) (by simpa using h)
    exact ⟨t, by simpa using q⟩
  | [], _ :: _, x, _, _, _ => x.elim
  | _ :: _, [], x, _, _, _ => x.elim
open Classical in
theorem notin_txt {prog : Program} {w : World} {A : Around} {E : Value → Shared → Prop} {s : Shared} {h₀ : Heap} {L D : Addr} {led : List (Addr × Obj)} {y : Str} {t : Tok} {vs : List Value} {k : Nat} {zs : List Str} {Q : Value → Shared → Prop} (N : News h₀ L s.heap led) (hm : (D, listOf vs.toArray k) ∈ led) (hz : TxtsAre vs zs) (hG : ∀ z ∈ zs, PyData.strOk z = true) (hy : PyData.strOk y = true) (hu : A.units + 64 < cLine)
    (h : Q (.bool (!zs.contains y)) s) : wpAny (model prog w) A (compareOp .NotIn (.str y t) (.ref D)) Q E s := by
  refine kqd_notIn (n₁ := led) (n₂ := led) N hm rfl rfl hz.dat (fun _ h => h) (.str y t) (fun _ h => h) (fun d hd => ?_) hy hu ?_
  · obtain ⟨z, hz', rfl⟩ := List.mem_map.mp hd
    exact hG z hz'
  · have e : decide (Dat.str y ∈ strsD zs) = zs.contains y := by
      by_cases hq : y ∈ zs
      · rw [decide_eq_true (mem_strsD.mpr hq)]; simp [hq]
      · rw [decide_eq_false (fun z => hq (mem_strsD.mp z))]; simp [hq]
    rw [e]; exact h
theorem lows_ok {xs : List Str} (hG : ∀ x ∈ xs, Good x) : ∀ z ∈ xs.map low, PyData.strOk z = true := fun z hz => by
  obtain ⟨x, hx, rfl⟩ := List.mem_map.mp hz
  exact (hG x hx).low.strOk
theorem led_turn {a b c d e : Addr × Obj} {nn : List (Addr × Obj)} : ∀ p ∈ c :: d :: e :: a :: nn, p ∈ a :: b :: c :: d :: e :: nn := fun p hp => by
  rcases List.mem_cons.mp hp with rfl | hp
  · exact .tail _ (.tail _ (.head _))
  rcases List.mem_cons.mp hp with rfl | hp
  · exact .tail _ (.tail _ (.tail _ (.head _)))
  rcases List.mem_cons.mp hp with rfl | hp
  · exact .tail _ (.tail _ (.tail _ (.tail _ (.head _))))
  rcases List.mem_cons.mp hp with rfl | hp
  · exact .head _
  · exact .tail _ (.tail _ (.tail _ (.tail _ (.tail _ hp))))
theorem led_turn0 {a c d e : Addr × Obj} {nn : List (Addr × Obj)} : ∀ p ∈ c :: d :: e :: a :: nn, p ∈ a :: c :: d :: e :: nn := fun p hp => by
  rcases List.mem_cons.mp hp with rfl | hp
  · exact .tail _ (.head _)
  rcases List.mem_cons.mp hp with rfl | hp
  · exact .tail _ (.tail _ (.head _))
  rcases List.mem_cons.mp hp with rfl | hp
  · exact .tail _ (.tail _ (.tail _ (.head _)))
  rcases List.mem_cons.mp hp with rfl | hp
  · exact .head _
  · exact .tail _ (.tail _ (.tail _ (.tail _ hp)))
/-- rows as data -/
def rowsD (es : List (Str × Str)) : List Dat := es.map fun e => Dat.tuple [.str e.1, .str e.2]
theorem RowsIn.dat {led : List (Addr × Obj)} : ∀ {vs : List Value} {es : List (Str × Str)}, RowsIn led vs es → DatAll led vs (rowsD es)
  | [], [], _ => .nil
  | _ :: _, _ :: _, ⟨⟨a, t1, t2, n, e, hm, _⟩, r⟩ => by
    subst e
    exact .cons (.tuple (vs := [.str _ t1, .str _ t2]) hm (.cons (.str _ t1) (.cons (.str _ t2) .nil))) r.dat
  | [], _ :: _, h => h.elim
  | _ :: _, [], h => h.elim
theorem rowsP_ok {p : Nat → Str → Bool} {xs : List Str} (hG : ∀ x ∈ xs, Good x) : ∀ n, n ≤ 9 → ∀ e ∈ rowsP p xs n, PyData.strOk e.1 = true ∧ PyData.strOk e.2 = true
  | 0, _, e, he => by cases he
  | n + 1, hn, e, he => by
    rw [rowsP] at he
    rcases List.mem_append.mp he with he | he
    · exact rowsP_ok hG n (by omega) e he
    · split at he
      · rename_i x hx
        split at he
        · rw [List.mem_singleton.mp he]
          exact ⟨(hG x (List.mem_of_getElem? hx)).strOk, (numT_good n (by omega)).strOk⟩
        · cases he
      · cases he
theorem rowsD_ok {es : List (Str × Str)} (h : ∀ e ∈ es, PyData.strOk e.1 = true ∧ PyData.strOk e.2 = true) : kqdOk 7 (.list (rowsD es)) = true := by
  show (rowsD es).all (kqdOk 6) = true
  rw [List.all_eq_true]
  intro d hd
  obtain ⟨e, he, rfl⟩ := List.mem_map.mp hd
  show ([Dat.str e.1, Dat.str e.2].all (kqdOk 5)) = true
  simp only [List.all_cons, List.all_nil, Bool.and_true, Bool.and_eq_true]
  exact h e he
theorem three_ok {a b c : List (Str × Str)} (ha : kqdOk 7 (.list (rowsD a)) = true) (hb : kqdOk 7 (.list (rowsD b)) = true) (hc : kqdOk 7 (.list (rowsD c)) = true) : kqdOk 8 (.list [.list (rowsD a), .list (rowsD b), .list (rowsD c)]) = true := by
  show ([Dat.list (rowsD a), .list (rowsD b), .list (rowsD c)].all (kqdOk 7)) = true
  simp only [List.all_cons, List.all_nil, Bool.and_true, Bool.and_eq_true]
  exact ⟨ha, hb, hc⟩
end

section
local macro_rules | `(tactic| walk_at "subscriptTail Name Name ref int") => `(tactic| (k_here; (with_reducible show wpAny _ _ (subscriptTail _ _ (Value.ref _) (Value.int _ _)) _ _ _); k_dflt (refine' item_k ?k1 ?k2 ?k3 ?_; (case k1 => k_asm); (case k2 => k_mem); (case k3 => assumption))))
local macro_rules | `(tactic| walk_at "compareOp NotIn") => `(tactic| (k_here; refine stop_here ?_))
local macro_rules | `(tactic| walk_at "eval ListComp") => `(tactic| (k_here; (with_reducible show wpAny _ _ (eval (Expr.ListComp _ [⟨_, Expr.Name (Str.ofString "tables") _, [], _⟩] _ _) _) _ _ _); k_dflt (refine comp_TupU (by k_asm) (by with_unfolding_all rfl) (by decide) (by rfl) (by decide) (by rfl) ?_)))
local macro_rules | `(tactic| walk_at "TupSrcU") => `(tactic| (k_here; k_dflt (refine' TupSrcU.intro ?k1 ?k2 ?k3 ?k4 ?k5 ?_; (case k1 => exact rfl); (case k2 => k_asm); (case k3 => k_asm); (case k4 => k_mem); (case k5 => walk_at "len")); intro g'))
local macro_rules | `(tactic| walk_at "call ref") => `(tactic| (k_here; (with_reducible show wpAny _ _ (call (Value.ref 179) _) _ _ _); k_dflt (refine c_items (by k_asm) (by k_asm) (by k_asm) (by k_asm) (by k_asm) (by first | exact rfl | assumption) (by assumption) (by (intro p' hp'; repeat (first | exact hp' | refine List.Mem.tail _ ?_))) (by walk_at "hes") (by ktr_room) (by ktr_units) ?_; k_whole; intro r' vs' n' h' tk' hrw' F' N' l1; (try k_sweep); (try dsimp only))))
local macro_rules | `(tactic| walk_at "CompEnd") => `(tactic| (k_dflt (refine' compEnd_same ?F ?N ?off ?S ?_; (case F => k_asm); (case N => k_asm); (case off => with_unfolding_all assumption); (case S => exact ⟨_, (by k_mem), rfl, _, rfl⟩))))
local macro_rules | `(tactic| walk_at "compareOp Eq ref ref") => `(tactic| (k_here; refine stop_here ?_))
section
variable {w : World} {mean : ExcName → Option Value} {mg mb : Str → Option Value} {dp un : Nat} {gd : Option (List Code)} {cn : Str} {cs : Scope} {a : Addr} {ccd : Value} {cl : List (Str × Addr)} {outer : List Env} {A₀ : Around} {base h₀ : Heap} {L : Addr} {m : Str → Option Value} {s : Shared} {Q E : Value → Shared → Prop} {news : List (Addr × Obj)} {x y : Str} {tk tk2 : Tok}
theorem c_kept (B : Below A₀ base outer h₀) (F : Fr h₀ L s.heap m) (X : (Kh w).In h₀) (N : News h₀ L s.heap news) (T : Top Vw Ls mean mg mb h₀) (hk : cs.kind = .function) {r tp t1 t2 t3 l1 l2 l3 : Addr} {vs : List Value} {n n' : Nat} {xs : List Str} {es1 es2 es3 : List (Str × Str)} (hr : (r, listOf vs.toArray n) ∈ news) (hx : TxtsAre vs xs) (hG : ∀ x ∈ xs, Good x) (hn : xs.length ≤ 6)
    (ht : (tp, ({ cls := .type "tuple", data := .seq #[.ref t1, .ref t2, .ref t3] n' } : Obj)) ∈ news) (T1 : Tab news t1 l1 es1) (T2 : Tab news t2 l2 es2) (T3 : Tab news t3 l3 es3) (q1 : es1.length ≤ 90) (q2 : es2.length ≤ 90) (q3 : es3.length ≤ 90) (e1 : es1 = rowsP (lastP xs) xs xs.length) (e2 : es2 = rowsP (firstP xs) xs xs.length) (e3 : es3 = rowsP (fun _ _ => true) xs xs.length)
    (hd : dp + 25 < recursionLimit) (hu : un + 200 < cLine)
    (ret : ∀ (t : Tok) h' tk', Fr h₀ L h' m → News h₀ L h' news → Q (.bool true) { s with heap := h', toks := tk' }) : wpAny (model Pg w) (ktrTop dp un gd cn cs L a ccd cl outer) (call (.ref 250) [.ref tp, .ref r]) Q E s := by
  dsimp only [Pg, Vw, Ls, Kh] at *
  revert X; k_fill; intro X
  have hvl := hx.length
  refine wpAny_call ?_
  k_dflt (walk_at "enterC")
  k_steps
  refine compU_ro (fun i ys => TxtsAre ys ((xs.take i).map low)) trivial ?_ ?_
  · intro k ys hi' hj v I oI C oC D m₂ h tk E' hP hC hx2 F1 N1 off ne
    obtain ⟨x, t, rfl, hk'⟩ := hx.at (i := k) (v := v) (by simpa using hP)
    have Gx := hG x (List.mem_of_getElem? hk')
    have hlx := Gx.le
    k_steps
    refine ⟨_, _, _, rfl, by k_asm, by k_asm, off, .inr ⟨_, .tail _ (.tail _ hr), rfl, _, rfl⟩, rfl, ?_⟩
    rw [lows_snoc hk']
    exact hj.snoc _ _
  · intro ys hj D h tk F1 N1 off
    rw [List.take_of_length_le (by simp; omega)] at hj
    have hyl := hj.length
    rw [List.length_map] at hyl
    have o1 := neN off.1
    have o2 := neN off.2.1
    have o3 := neN (Ne.symm off.1)
    have o4 := neN (Ne.symm off.2.1)
    have offn := off.2.2
    dsimp only
    k_steps
    rename IntsAre _ (rangeKs 0 _) => hR
    have hRl := hR.length
    have hok := lows_ok hG
    refine compT_all (fun i rows nn => (∀ p ∈ _ :: _ :: _ :: _ :: news, p ∈ nn) ∧ RowsIn nn rows (rowsP (lastP xs) xs i)) ?_ ?_ _ 0 [] _ (Nat.zero_add _) ⟨fun _ h => h, trivial⟩
    · rintro k rows nn hkn ⟨hsb, hrw⟩ v I oI C oC Dl m₂ h tk E' hP hC hx2 F1 N1 off2 ne
      obtain ⟨tq, rfl⟩ := range_at hR (k := k) (v := v) (by simpa using hP)
      have hkx : k < xs.length := by simp [rangeKs] at hRl hkn; omega
      obtain ⟨x, hxk⟩ : ∃ x, xs[k]? = some x := ⟨xs[k], by simp [hkx]⟩
      obtain ⟨tx, hvk⟩ := hx.get hxk
      obtain ⟨ty, hyk⟩ := hj.get (i := k) (x := low x) (by simp [hxk])
      have Gx := hG x (List.mem_of_getElem? hxk)
      have hlx := Gx.le
      have m1 := hsb _ (.head _)
      have m2 := hsb _ (.tail _ (.head _))
      have m3 := hsb _ (.tail _ (.tail _ (.head _)))
      have m4 := hsb _ (.tail _ (.tail _ (.tail _ (.head _))))
      have m5 := hsb _ (.tail _ (.tail _ (.tail _ (.tail _ hr))))
      have a1 : vs[k]? = some (Value.str x tx) ∧ k < 1000 := ⟨hvk, by omega⟩
      have a2 : ys[k]? = some (Value.str (low x) ty) ∧ k < 1000 := ⟨hyk, by omega⟩
      k_steps
      refine stop_go ?_
      k_dflt (refine' notin_txt ?N (.head _) (pick_from hj) (fun z hz => hok z (List.mem_of_mem_drop hz)) Gx.low.strOk ?hu ?_; (case N => k_asm); (case hu => ktr_units))
      rw [show (!((xs.map low).drop (k + 1)).contains (low x)) = lastP xs k x from rfl]
      (try dsimp only)
      k_steps
      · rename Fr _ _ _ _ => FF
        rename News _ _ _ _ => NN
        rename lastP xs k x = true => ha
        rename (_ ∧ _ ∧ _ ∧ _ ∧ AllLt _ nn) => hlt
        exact compEnd_same FF (cb_drop NN led_turn) ⟨⟨Nat.ne_of_gt hlt.2.1, Nat.ne_of_gt hlt.2.2.1, Nat.ne_of_gt hlt.2.2.2.1⟩, off2⟩ (.inr ⟨_, .tail _ m1, rfl, _, rfl⟩) ⟨fun p hp => .tail _ (hsb p hp), by rw [rowsP_yes hxk ha]; exact (hrw.mono fun _ h => .tail _ h).snoc' (.head _) Gx⟩
      · rename Fr _ _ _ _ => FF
        rename News _ _ _ _ => NN
        rename lastP xs k x = false => ha
        exact compEnd_same FF (cb_drop NN fun _ h => .tail _ h) off2 (.inr ⟨_, m1, rfl, _, rfl⟩) ⟨hsb, by rw [rowsP_no hxk ha]; exact hrw⟩
    · rintro rows1 nn1 ⟨hsb1, hrw1⟩ D1 h tk F1 N1 off1
      have n1 := hsb1 _ (.head _)
      have n2 := hsb1 _ (.tail _ (.head _))
      have n3 := hsb1 _ (.tail _ (.tail _ (.head _)))
      have n4 := hsb1 _ (.tail _ (.tail _ (.tail _ (.head _))))
      have n5 := hsb1 _ (.tail _ (.tail _ (.tail _ (.tail _ hr))))
      dsimp only
      k_steps
      refine compT_all (fun i rows nn => (∀ p ∈ _ :: nn1, p ∈ nn) ∧ RowsIn nn rows (rowsP (firstP xs) xs i)) ?_ ?_ _ 0 [] _ (Nat.zero_add _) ⟨fun _ h => h, trivial⟩
      · rintro k rows nn hkn ⟨hsb, hrw⟩ v I oI C oC Dl m₂ h tk E' hP hC hx2 F1 N1 off2 ne
        obtain ⟨tq, rfl⟩ := range_at hR (k := k) (v := v) (by simpa using hP)
        have hkx : k < xs.length := by simp [rangeKs] at hRl hkn; omega
        obtain ⟨x, hxk⟩ : ∃ x, xs[k]? = some x := ⟨xs[k], by simp [hkx]⟩
        obtain ⟨tx, hvk⟩ := hx.get hxk
        obtain ⟨ty, hyk⟩ := hj.get (i := k) (x := low x) (by simp [hxk])
        have Gx := hG x (List.mem_of_getElem? hxk)
        have hlx := Gx.le
        have m1 := hsb _ (.tail _ n1)
        have m2 := hsb _ (.tail _ n2)
        have m3 := hsb _ (.tail _ n3)
        have m4 := hsb _ (.tail _ n4)
        have m5 := hsb _ (.tail _ n5)
        have a1 : vs[k]? = some (Value.str x tx) ∧ k < 1000 := ⟨hvk, by omega⟩
        have a2 : ys[k]? = some (Value.str (low x) ty) ∧ k < 1000 := ⟨hyk, by omega⟩
        k_steps
        refine stop_go ?_
        k_dflt (refine' notin_txt ?N (.head _) (pick_to hj) (fun z hz => hok z (List.mem_of_mem_take hz)) Gx.low.strOk ?hu ?_; (case N => k_asm); (case hu => ktr_units))
        rw [show (!((xs.map low).take k).contains (low x)) = firstP xs k x from rfl]
        (try dsimp only)
        k_steps
        · rename Fr _ _ _ _ => FF
          rename News _ _ _ _ => NN
          rename firstP xs k x = true => ha
          rename (_ ∧ _ ∧ _ ∧ _ ∧ AllLt _ nn) => hlt
          exact compEnd_same FF (cb_drop NN led_turn) ⟨⟨Nat.ne_of_gt hlt.2.1, Nat.ne_of_gt hlt.2.2.1, Nat.ne_of_gt hlt.2.2.2.1⟩, off2⟩ (.inr ⟨_, .tail _ m1, rfl, _, rfl⟩) ⟨fun p hp => .tail _ (hsb p hp), by rw [rowsP_yes hxk ha]; exact (hrw.mono fun _ h => .tail _ h).snoc' (.head _) Gx⟩
        · rename Fr _ _ _ _ => FF
          rename News _ _ _ _ => NN
          rename firstP xs k x = false => ha
          exact compEnd_same FF (cb_drop NN fun _ h => .tail _ h) off2 (.inr ⟨_, m1, rfl, _, rfl⟩) ⟨hsb, by rw [rowsP_no hxk ha]; exact hrw⟩
      · rintro rows2 nn2 ⟨hsb2, hrw2⟩ D2 h tk F2 N2 off2
        have n6 := hsb2 _ (.head _)
        have n1 := hsb2 _ (.tail _ n1)
        have n2 := hsb2 _ (.tail _ n2)
        have n3 := hsb2 _ (.tail _ n3)
        have n4 := hsb2 _ (.tail _ n4)
        have n5 := hsb2 _ (.tail _ n5)
        dsimp only
        k_steps
        refine compU_all (fun i rows nn => (∀ p ∈ _ :: nn2, p ∈ nn) ∧ RowsIn nn rows (rowsP (fun _ _ => true) xs i)) ?_ ?_ _ 0 [] _ (Nat.zero_add _) ⟨fun _ h => h, trivial⟩
        · rintro k rows nn hkn ⟨hsb, hrw⟩ v I oI C oC Dl m₂ h tk E' hP hC hx2 F1 N1 off2 ne
          obtain ⟨tq, rfl⟩ := range_at hR (k := k) (v := v) (by simpa using hP)
          have hkx : k < xs.length := by simp [rangeKs] at hRl hkn; omega
          obtain ⟨x, hxk⟩ : ∃ x, xs[k]? = some x := ⟨xs[k], by simp [hkx]⟩
          obtain ⟨tx, hvk⟩ := hx.get hxk
          obtain ⟨ty, hyk⟩ := hj.get (i := k) (x := low x) (by simp [hxk])
          have Gx := hG x (List.mem_of_getElem? hxk)
          have hlx := Gx.le
          have m1 := hsb _ (.tail _ n1)
          have m2 := hsb _ (.tail _ n2)
          have m3 := hsb _ (.tail _ n3)
          have m4 := hsb _ (.tail _ n4)
          have m5 := hsb _ (.tail _ n5)
          have a1 : vs[k]? = some (Value.str x tx) ∧ k < 1000 := ⟨hvk, by omega⟩
          have a2 : ys[k]? = some (Value.str (low x) ty) ∧ k < 1000 := ⟨hyk, by omega⟩
          k_steps
          rename Fr _ _ _ _ => FF
          rename News _ _ _ _ => NN
          rename (_ ∧ _ ∧ _ ∧ AllLt _ nn) => hlt
          exact compEnd_same FF (cb_drop NN led_turn0) ⟨⟨Nat.ne_of_gt hlt.1, Nat.ne_of_gt hlt.2.1, Nat.ne_of_gt hlt.2.2.1⟩, off2⟩ (.inr ⟨_, .tail _ m1, rfl, _, rfl⟩) ⟨fun p hp => .tail _ (hsb p hp), by rw [rowsP_yes hxk rfl]; exact (hrw.mono fun _ h => .tail _ h).snoc' (.head _) Gx⟩
        · rintro rows3 nn3 ⟨hsb3, hrw3⟩ D3 h tk F3 N3 off3
          have sn : ∀ p ∈ news, p ∈ nn3 := fun p hp => hsb3 _ (.tail _ (hsb2 _ (.tail _ (hsb1 _ (.tail _ (.tail _ (.tail _ (.tail _ hp))))))))
          have T1' := T1.mono sn
          have T2' := T2.mono sn
          have T3' := T3.mono sn
          have ht' := sn _ ht
          have n7 := hsb3 _ (.head _)
          have n8 := hsb3 _ (.tail _ n6)
          obtain ⟨⟨dd1, ha1, ka1, na1, hma1, hmb1⟩, -⟩ := id T1'
          obtain ⟨⟨dd2, ha2, ka2, na2, hma2, hmb2⟩, -⟩ := id T2'
          obtain ⟨⟨dd3, ha3, ka3, na3, hma3, hmb3⟩, -⟩ := id T3'
          dsimp only
          k_steps
          rename_i lr
          rename Fr _ _ _ _ => FF
          rename News _ _ _ _ => NN
          rename RowsIn nn3 _ es1 => R1
          refine compEnd_same FF (cb_drop NN led_turn0) ⟨⟨Ne.symm (lr _ (.head _)), Ne.symm (lr _ (.tail _ (.head _))), Ne.symm (lr _ (.tail _ (.tail _ (.head _))))⟩, by with_unfolding_all assumption⟩ ⟨_, (by k_mem), rfl, _, rfl⟩ ?_
          clear lr
          k_steps
          rename_i lr
          rename Fr _ _ _ _ => FF
          rename News _ _ _ _ => NN
          rename RowsIn nn3 _ es2 => R2
          refine compEnd_same FF (cb_drop NN led_turn0) ⟨⟨Ne.symm (lr _ (.head _)), Ne.symm (lr _ (.tail _ (.head _))), Ne.symm (lr _ (.tail _ (.tail _ (.head _))))⟩, by with_unfolding_all assumption⟩ ⟨_, (by k_mem), rfl, _, rfl⟩ ?_
          clear lr
          k_steps
          rename_i lr
          rename Fr _ _ _ _ => FF
          rename News _ _ _ _ => NN
          rename RowsIn nn3 _ es3 => R3
          refine compEnd_same FF (cb_drop NN led_turn0) ⟨⟨Ne.symm (lr _ (.head _)), Ne.symm (lr _ (.tail _ (.head _))), Ne.symm (lr _ (.tail _ (.tail _ (.head _))))⟩, by with_unfolding_all assumption⟩ ⟨_, (by k_mem), rfl, _, rfl⟩ ?_
          clear lr
          k_steps
          refine stop_go ?_
          simp only [rangeKs, List.length_map, List.length_range] at hRl
          have hRx : _ = xs.length := hRl.trans (by omega)
          rw [List.size_toArray, hRx] at hrw1 hrw2 hrw3
          rw [← e1] at hrw1
          rw [← e2] at hrw2
          rw [← e3] at hrw3
          have s13 : ∀ p ∈ nn1, p ∈ nn3 := fun p hp => hsb3 _ (.tail _ (hsb2 _ (.tail _ hp)))
          have s23 : ∀ p ∈ nn2, p ∈ nn3 := fun p hp => hsb3 _ (.tail _ hp)
          have up : ∀ {a b c d e f : Addr × Obj}, ∀ p ∈ nn3, p ∈ a :: b :: c :: d :: e :: f :: nn3 := fun p hp => .tail _ (.tail _ (.tail _ (.tail _ (.tail _ (.tail _ hp)))))
          have k1 : kqdOk 7 (.list (rowsD es1)) = true := rowsD_ok (e1 ▸ rowsP_ok hG _ (by omega))
          have k2 : kqdOk 7 (.list (rowsD es2)) = true := rowsD_ok (e2 ▸ rowsP_ok hG _ (by omega))
          have k3 : kqdOk 7 (.list (rowsD es3)) = true := rowsD_ok (e3 ▸ rowsP_ok hG _ (by omega))
          rename News _ _ _ _ => NN
          k_dflt (refine' dat_eq (d := .list [.list (rowsD es1), .list (rowsD es2), .list (rowsD es3)]) NN (.list (vs := [.ref _, .ref _, .ref _]) (.tail _ (.head _)) (.cons (.list (.tail _ (.tail _ (.tail _ (.tail _ (.head _))))) (R1.mono up).dat) (.cons (.list (.tail _ (.tail _ (.tail _ (.head _)))) (R2.mono up).dat) (.cons (.list (.tail _ (.tail _ (.head _))) (R3.mono up).dat) .nil)))) (.list (vs := [.ref _, .ref _, .ref _]) (.head _) (.cons (.list (up _ n8) (hrw1.mono fun p hp => up _ (s13 p hp)).dat) (.cons (.list (up _ n7) (hrw2.mono fun p hp => up _ (s23 p hp)).dat) (.cons (.list (.tail _ (.tail _ (.tail _ (.tail _ (.tail _ (.head _)))))) (hrw3.mono up).dat) .nil)))) (three_ok k1 k2 k3) ?hu ?_; (case hu => ktr_units))
          (try dsimp only)
          k_steps
          all_goals (refine' cb_retB ret ?e ?F ?N; (case F => walk_at "endF"); (case N => exact cb_drop (by assumption) (fun p hp => up _ (sn p hp))); (case e => rfl))
end
end

section
open PyProof.V PySem.Spec
/-- so many Trues -/
def trues (n : Nat) : List Value := List.replicate n (.bool true)
def truesP (n : Nat) : List PyData := List.replicate n (.bool true)
theorem trues_snoc (n : Nat) : trues n ++ [Value.bool true] = trues (n + 1) := by
  simp [trues, List.replicate_succ']
theorem trues_reads (h : Heap) : ∀ n, ∃ as, ReadsAll h (trues n) (truesP n) as
  | 0 => ⟨_, ReadsAll.nil⟩
  | n + 1 => by
    obtain ⟨as, r⟩ := trues_reads h n
    exact ⟨_, ReadsAll.cons (Reads.bool true) r⟩
theorem trues_lay : ∀ n, PyData.canLayAll0 (truesP n) = true ∧ PyData.depthAll (truesP n) = 0
  | 0 => by simp [truesP, PyData.canLayAll0, PyData.depthAll]
  | n + 1 => by
    have ih := trues_lay n
    unfold truesP at ih ⊢
    rw [List.replicate_succ]
    simp only [PyData.canLayAll0, PyData.depthAll, PyData.canLay0, PyData.depth, ih.1, ih.2]
    simp
theorem trues_eqv : ∀ n, PyData.eqvAll (truesP n) (truesP n) = true
  | 0 => by simp [truesP, PyData.eqvAll]
  | n + 1 => by
    have ih := trues_eqv n
    unfold truesP at ih ⊢
    rw [List.replicate_succ]
    simp only [PyData.eqvAll, PyData.eqv, ih]
    simp
theorem trues_eq {prog : Program} {w : World} {A : Around} {E : Value → Shared → Prop} {s : Shared} {h₀ : Heap} {L a b : Addr} {led : List (Addr × Obj)} {n ka kb : Nat} {Q : Value → Shared → Prop} (N : News h₀ L s.heap led) (ma : (a, listOf (trues n).toArray ka) ∈ led) (mb : (b, listOf (trues n).toArray kb) ∈ led) (hu : A.units + 64 < cLine) (h : Q (.bool true) s) : wpAny (model prog w) A (compareOp .Eq (.ref a) (.ref b)) Q E s := by
  obtain ⟨as, ra⟩ := trues_reads s.heap n
  have l := trues_lay n
  have hs : SeqAt.shaped (.list (truesP n)) = true := by
    unfold SeqAt.shaped
    simp only [PyData.canLay0, PyData.depth, l.1, l.2]
    decide
  have e : PyData.eqv (.list (truesP n)) (.list (truesP n)) = true := by
    simp only [PyData.eqv]; exact trues_eqv n
  exact eq_dataH (reads_list_at (N.get ma) rfl rfl (by simpa using ra)) (reads_list_at (N.get mb) rfl rfl (by simpa using ra)) hs hs hu (by rw [e]; exact h)
theorem Tab.offcell {a : Addr} {oc : Obj} {v : Option Value} {led : List (Addr × Obj)} {t l : Addr} {es : List (Str × Str)} (hc : Cons led) (ha : (a, oc) ∈ led) (hv : oc.data = .cell v) (T : Tab led t l es) : Tab (Mine.less a a led) t l es := by
  have ok : ∀ {p : Addr} {o : Obj}, (p, o) ∈ led → (∀ v, o.data ≠ .cell v) → (p, o) ∈ Mine.less a a led := fun {p o} h h1 => by
    have hne : p ≠ a := fun e => by
      subst e
      exact h1 v (by rw [hc _ _ _ h ha]; exact hv)
    exact mem_less h hne hne
  obtain ⟨⟨d, hh, kk, n1, hm1, hm2⟩, ⟨vs, n2, hm3, hrows⟩⟩ := T
  refine ⟨⟨d, hh, kk, n1, ok hm1 (by intro v; simp), ok hm2 (by intro v; simp)⟩, ⟨vs, n2, ok hm3 (by intro v; simp), ?_⟩⟩
  clear hm3
  induction vs generalizing es with
  | nil => cases es with
    | nil => trivial
    | cons e es => exact hrows.elim
  | cons v vs ih => cases es with
    | nil => exact hrows.elim
    | cons e es =>
      obtain ⟨⟨x, t1, t2, k, e1, hm, G⟩, r⟩ := hrows
      exact ⟨⟨x, t1, t2, k, e1, ok hm (by intro v; simp), G⟩, ih r⟩
theorem off_less (a : Addr) (led : List (Addr × Obj)) : LCg.Off3 a a a (less a a led) := off3_of fun p hp => ⟨(less_mem hp).2.1, (less_mem hp).2.1, (less_mem hp).2.1⟩
theorem mem_offcell {a p : Addr} {oc o : Obj} {v : Option Value} {led : List (Addr × Obj)} (hc : Cons led) (ha : (a, oc) ∈ led) (hv : oc.data = .cell v) (h : (p, o) ∈ led) (h1 : ∀ v, o.data ≠ .cell v) : (p, o) ∈ Mine.less a a led := by
  have hne : p ≠ a := fun e => by
    subst e
    exact h1 v (by rw [hc _ _ _ h ha]; exact hv)
  exact mem_less h hne hne
theorem news_off {h₀ h : Heap} {L a : Addr} {oc : Obj} {led : List (Addr × Obj)} (N : News h₀ L h led) (ha : (a, oc) ∈ led) : News h₀ L h ((a, oc) :: Mine.less a a led) := fun p hp => by
  rcases List.mem_cons.mp hp with rfl | hp
  · exact N _ ha
  · exact N _ (less_mem hp).1
theorem mem_off1 {a p : Addr} {oc o : Obj} {led : List (Addr × Obj)} (_ : (a, oc) ∈ led) (h : (p, o) ∈ led) (hne : p < a) : (p, o) ∈ Mine.less a a led := mem_less h (Nat.ne_of_lt hne) (Nat.ne_of_lt hne)
theorem off_of {a : Addr} {oc : Obj} {led : List (Addr × Obj)} (_ : (a, oc) ∈ led) : LCg.Off3 a a a (Mine.less a a led) := off_less a led
end

section
/-- the places of a key -/
def plac (k : Str) : Nat → List Str → List Str
  | _, [] => []
  | i, x :: xs => if low x == k then numT i :: plac k (i + 1) xs else plac k (i + 1) xs
theorem look_all (es : List (Str × Str)) (k : Str) : look es k = (lookAll es k).head? := by
  unfold look lookAll
  induction es with
  | nil => rfl
  | cons e es ih =>
    by_cases h : (low e.1 == k) = true
    · simp [List.find?_cons, List.filter_cons, h]
    · simp only [Bool.not_eq_true] at h
      simp only [List.find?_cons, List.filter_cons, h]
      exact ih
theorem lookAll_app (a b : List (Str × Str)) (k : Str) : lookAll (a ++ b) k = lookAll a k ++ lookAll b k := by simp [lookAll]
theorem lookAll_one (x y k : Str) : lookAll [(x, y)] k = if low x == k then [y] else [] := by
  by_cases h : (low x == k) = true
  · simp [lookAll, h]
  · simp only [Bool.not_eq_true] at h; simp [lookAll, h]
theorem added_all : ∀ (xs : List Str) (es : List (Str × Str)) (i : Nat) (k : Str), lookAll (addedT es i xs) k = lookAll es k ++ plac k i xs
  | [], es, i, k => by simp [addedT, plac]
  | x :: xs, es, i, k => by
    rw [addedT, added_all xs, lookAll_app, lookAll_one, plac]
    by_cases h : (low x == k) = true
    · simp [h]
    · simp only [Bool.not_eq_true] at h; simp [h]
theorem offered_look : ∀ (xs : List Str) (es : List (Str × Str)) (i : Nat) (k : Str), look (offeredT es i xs) k = (look es k).or (plac k i xs).head?
  | [], es, i, k => by simp [offeredT, plac]
  | x :: xs, es, i, k => by
    rw [offeredT, offered_look xs, plac]
    unfold addNew
    by_cases h : (low x == k) = true
    · have hk := eq_of_beq h
      subst hk
      cases hl : look es (low x) with
      | none =>
        have e : look (es ++ [(x, numT i)]) (low x) = some (numT i) := by
          rw [look_all] at hl ⊢
          rw [lookAll_app, lookAll_one]
          have hz : lookAll es (low x) = [] := List.head?_eq_none_iff.mp hl
          simp [hz]
        simp [e]
      | some v => simp [hl]
    · simp only [Bool.not_eq_true] at h
      simp only [h]
      split
      · rw [look_all, lookAll_app, lookAll_one, h, look_all]
        simp
      · rfl
theorem stored_look : ∀ (xs : List Str) (es : List (Str × Str)) (i : Nat) (k : Str), (∀ k, (lookAll es k).length ≤ 1) → look (storedT es i xs) k = (plac k i xs).getLast?.or (look es k)
  | [], es, i, k, _ => by simp [storedT, plac]
  | x :: xs, es, i, k, hu => by
    have hw : ∀ q, lookAll (without es (low x)) q = if q == low x then [] else lookAll es q := fun q => by
      unfold lookAll without
      rw [List.filter_filter]
      by_cases h : (q == low x) = true
      · have hq := eq_of_beq h
        subst hq
        simp only [beq_self_eq_true, if_true]
        rw [List.map_eq_nil_iff, List.filter_eq_nil_iff]
        intro e _
        by_cases h2 : low e.1 = low x <;> simp [h2]
      · simp only [h, Bool.false_eq_true, if_false]
        congr 1
        apply List.filter_congr
        intro e _
        by_cases h2 : low e.1 = q
        · have : q ≠ low x := fun e => h (by rw [e]; simp)
          simp [h2, this]
        · simp [h2]
    have h1 : ∀ q, lookAll (without es (low x) ++ [(x, numT i)]) q = if q == low x then [numT i] else lookAll es q := fun q => by
      rw [lookAll_app, lookAll_one, hw]
      by_cases h : (q == low x) = true
      · have hq := eq_of_beq h
        subst hq
        simp
      · have h' : (low x == q) = false := by
          rw [Bool.eq_false_iff]; intro e; exact h (by rw [eq_of_beq e]; simp)
        simp [h, h']
    rw [storedT, stored_look xs _ _ _ (fun q => by
      rw [h1]; split
      · simp
      · exact hu q), plac, look_all, h1]
    by_cases h : (low x == k) = true
    · have hk := eq_of_beq h
      subst hk
      simp only [beq_self_eq_true, if_true, List.head?_cons]
      rw [List.getLast?_cons]
      cases (plac (low x) (i + 1) xs).getLast? <;> simp
    · have h' : (k == low x) = false := by
        rw [Bool.eq_false_iff]; intro e; exact h (by rw [eq_of_beq e]; simp)
      simp [h, h', look_all]
theorem stored0 (xs : List Str) (k : Str) : look (storedT [] 0 xs) k = (plac k 0 xs).getLast? := by
  rw [stored_look xs [] 0 k (by intro k; simp [lookAll])]
  simp [look]
theorem offered0 (xs : List Str) (k : Str) : look (offeredT [] 0 xs) k = (plac k 0 xs).head? := by
  rw [offered_look]; simp [look]
theorem added0 (xs : List Str) (k : Str) : lookAll (addedT [] 0 xs) k = plac k 0 xs := by
  rw [added_all]; simp [lookAll]
theorem pl_same2 (xs : List Str) : ∀ k, (look (offeredT [] 0 xs) k).isSome = (look (storedT [] 0 xs) k).isSome := fun k => by
  rw [stored0, offered0]
  cases plac k 0 xs <;> simp
theorem pl_same3 (xs : List Str) : ∀ k, (look (addedT [] 0 xs) k).isSome = (look (storedT [] 0 xs) k).isSome := fun k => by
  rw [stored0, look_all, added0]
  cases plac k 0 xs <;> simp
/-- the first name's places that are not empty -/
def firstPl (xs : List Str) : List Str → List Str
  | [] => []
  | n :: ns => if (plac (low n) 0 xs).isEmpty then firstPl xs ns else plac (low n) 0 xs
theorem found_trip (xs : List Str) : ∀ ns, foundL (storedT [] 0 xs) (offeredT [] 0 xs) (addedT [] 0 xs) ns = ((firstPl xs ns).getLast?, (firstPl xs ns).head?, firstPl xs ns)
  | [] => rfl
  | n :: ns => by
    rw [foundL, stored0, offered0, added0, firstPl]
    cases h : plac (low n) 0 xs with
    | nil => simp [found_trip xs ns]
    | cons a r => simp
theorem kept3_go : ∀ (xs pre : List Str), addedT (rowsP (fun _ _ => true) (pre ++ xs) pre.length) pre.length xs = rowsP (fun _ _ => true) (pre ++ xs) (pre ++ xs).length
  | [], pre => by simp [addedT]
  | x :: xs, pre => by
    have hx : (pre ++ x :: xs)[pre.length]? = some x := by simp
    rw [addedT, ← rowsP_yes (p := fun _ _ => true) hx rfl]
    have := kept3_go xs (pre ++ [x])
    simpa using this
theorem pl_kept3 (xs : List Str) : addedT [] 0 xs = rowsP (fun _ _ => true) xs xs.length := kept3_go xs []
theorem first_has (all : List Str) (k : Str) : ∀ i, i ≤ all.length → (look (rowsP (firstP all) all i) k).isSome = ((all.map low).take i).contains k
  | 0, _ => by simp [rowsP, look]
  | i + 1, hi => by
    have ih := first_has all k i (by omega)
    have hx : all[i]? = some all[i] := by simp
    have ht : (all.map low).take (i + 1) = (all.map low).take i ++ [low all[i]] := by
      rw [List.take_add_one, List.getElem?_map, hx]; rfl
    rw [ht]
    cases hp : firstP all i all[i] with
    | true =>
      rw [rowsP_yes hx hp]
      rw [look_all] at ih ⊢
      rw [lookAll_app, lookAll_one, List.contains_append, ← ih]
      by_cases h : (low all[i] == k) = true
      · have hk := eq_of_beq h
        subst hk
        cases lookAll (rowsP (firstP all) all i) (low all[i]) <;> simp
      · have h' : (k == low all[i]) = false := by
          rw [Bool.eq_false_iff]; intro e; exact h (by rw [eq_of_beq e]; simp)
        have h2 : k ≠ low all[i] := fun e => by rw [e] at h'; simp at h'
        simp only [Bool.not_eq_true] at h
        cases lookAll (rowsP (firstP all) all i) k <;> simp [h, h2]
    | false =>
      rw [rowsP_no hx hp, ih, List.contains_append]
      unfold firstP at hp
      simp only [Bool.not_eq_false'] at hp
      by_cases h : (k == low all[i]) = true
      · rw [eq_of_beq h, hp]; simp
      · have h2 : k ≠ low all[i] := fun e => h (by rw [e]; simp)
        simp [h2]
theorem kept2_go : ∀ (xs pre : List Str), offeredT (rowsP (firstP (pre ++ xs)) (pre ++ xs) pre.length) pre.length xs = rowsP (firstP (pre ++ xs)) (pre ++ xs) (pre ++ xs).length
  | [], pre => by simp [offeredT]
  | x :: xs, pre => by
    have hx : (pre ++ x :: xs)[pre.length]? = some x := by simp
    have hs := first_has (pre ++ x :: xs) (low x) pre.length (by simp)
    have e : addNew (rowsP (firstP (pre ++ x :: xs)) (pre ++ x :: xs) pre.length) x (numT pre.length) = rowsP (firstP (pre ++ x :: xs)) (pre ++ x :: xs) (pre.length + 1) := by
      unfold addNew
      cases hp : firstP (pre ++ x :: xs) pre.length x with
      | true =>
        rw [rowsP_yes hx hp]
        unfold firstP at hp
        simp only [Bool.not_eq_true'] at hp
        rw [hp] at hs
        rw [if_pos (by rw [Option.isNone_iff_eq_none]; exact Option.not_isSome_iff_eq_none.mp (by rw [hs]; simp))]
      | false =>
        rw [rowsP_no hx hp]
        unfold firstP at hp
        simp only [Bool.not_eq_false'] at hp
        rw [hp] at hs
        rw [if_neg (by rw [Option.isNone_iff_eq_none]; intro hz; rw [hz] at hs; simp at hs)]
    rw [offeredT, e]
    have := kept2_go xs (pre ++ [x])
    simpa using this
theorem pl_kept2 (xs : List Str) : offeredT [] 0 xs = rowsP (firstP xs) xs xs.length := kept2_go xs []
theorem last_step (pre : List Str) (x : Str) : ∀ j, j ≤ pre.length → rowsP (lastP (pre ++ [x])) (pre ++ [x]) j = without (rowsP (lastP pre) pre j) (low x)
  | 0, _ => by simp [rowsP, without]
  | j + 1, hj => by
    have ih := last_step pre x j (by omega)
    have hx1 : (pre ++ [x])[j]? = some pre[j] := by rw [List.getElem?_append_left (by omega)]; simp
    have hx2 : pre[j]? = some pre[j] := by simp
    have hl : lastP (pre ++ [x]) j pre[j] = (lastP pre j pre[j] && (low pre[j] != low x)) := by
      unfold lastP
      rw [List.map_append, List.drop_append_of_le_length (by simp; omega), List.contains_append]
      cases ((pre.map low).drop (j + 1)).contains (low pre[j]) <;> simp [bne] <;> rfl
    cases h1 : lastP pre j pre[j] with
    | true =>
      rw [rowsP_yes hx2 h1]
      cases h2 : (low pre[j] != low x) with
      | true =>
        rw [rowsP_yes hx1 (by rw [hl, h1, h2]; rfl), ih]
        simp [without, List.filter_append, List.filter_cons, h2]
      | false =>
        rw [rowsP_no hx1 (by rw [hl, h1, h2]; rfl), ih]
        simp [without, List.filter_append, List.filter_cons, h2]
    | false =>
      rw [rowsP_no hx2 h1, rowsP_no hx1 (by rw [hl, h1]; rfl), ih]
theorem kept1_go : ∀ (xs pre : List Str), storedT (rowsP (lastP pre) pre pre.length) pre.length xs = rowsP (lastP (pre ++ xs)) (pre ++ xs) (pre ++ xs).length
  | [], pre => by simp [storedT]
  | x :: xs, pre => by
    have hx : (pre ++ [x])[pre.length]? = some x := by simp
    have hp : lastP (pre ++ [x]) pre.length x = true := by
      unfold lastP
      rw [List.drop_of_length_le (by simp)]
      rfl
    have e : without (rowsP (lastP pre) pre pre.length) (low x) ++ [(x, numT pre.length)] = rowsP (lastP (pre ++ [x])) (pre ++ [x]) (pre ++ [x]).length := by
      rw [List.length_append, List.length_singleton, rowsP_yes hx hp, last_step pre x pre.length (Nat.le_refl _)]
    rw [storedT, e]
    have := kept1_go xs (pre ++ [x])
    simpa using this
theorem pl_kept1 (xs : List Str) : storedT [] 0 xs = rowsP (lastP xs) xs xs.length := kept1_go xs []
end

section
theorem plac_app (k r : Str) : ∀ (pre : List Str) (i : Nat), plac k i (pre ++ [r]) = plac k i pre ++ (if low r == k then [numT (i + pre.length)] else [])
  | [], i => by simp [plac]
  | x :: pre, i => by
    rw [List.cons_append, plac, plac, plac_app k r pre (i + 1)]
    have e : i + 1 + pre.length = i + (x :: pre).length := by simp only [List.length_cons]; omega
    rw [e]
    split <;> simp
/-- what _law_closest has behind a run of rules -/
def stOf (pre : List Str) : List Str → Int × List Str
  | [] => (0, [])
  | n :: ns => if (plac (low n) 0 pre).isEmpty then stOf pre ns else ((n.length : Int), plac (low n) 0 pre)
theorem stOf_snd (pre : List Str) : ∀ ns, (stOf pre ns).2 = firstPl pre ns
  | [] => rfl
  | n :: ns => by
    rw [stOf, firstPl]
    split
    · exact stOf_snd pre ns
    · rfl
theorem stOf_fst (pre : List Str) (b : Nat) : ∀ ns : List Str, (∀ n ∈ ns, n.length < b) → 0 < b → (stOf pre ns).1 < (b : Int)
  | [], _, hb => by simp only [stOf]; omega
  | n :: ns, h, hb => by
    rw [stOf]
    split
    · exact stOf_fst pre b ns (fun m hm => h m (.tail _ hm)) hb
    · have := h n (.head _)
      simp only; omega
theorem low_len {a b : Str} (h : low a = low b) : a.length = b.length := by
  rw [← low_length a, ← low_length b, h]
theorem st_no (pre : List Str) (r : Str) : ∀ ns : List Str, (∀ n ∈ ns, low r ≠ low n) → stOf (pre ++ [r]) ns = stOf pre ns
  | [], _ => rfl
  | n :: ns, h => by
    have e : (low r == low n) = false := by rw [beq_eq_false_iff_ne]; exact h n (.head _)
    rw [stOf, stOf, plac_app, e, st_no pre r ns fun m hm => h m (.tail _ hm)]
    simp
/-- a turn where the rule finds the host -/
def cloT (r : Str) (i : Nat) (st : Int × List Str) : Int × List Str :=
  if st.1 < (r.length : Int) then ((r.length : Int), [numT i]) else if (r.length : Int) = st.1 then (st.1, st.2 ++ [numT i]) else st
theorem st_yes (pre : List Str) (r : Str) : ∀ ns : List Str, ns.Pairwise (fun a b => b.length < a.length) → (∀ n ∈ ns, 0 < n.length) → low r ∈ ns.map low → cloT r pre.length (stOf pre ns) = stOf (pre ++ [r]) ns
  | [], _, _, h => by simp at h
  | n :: ns, hp, h0, hm => by
    rw [List.pairwise_cons] at hp
    rw [stOf, stOf, plac_app, Nat.zero_add]
    by_cases hr : low r = low n
    · have hl := low_len hr
      have e : (low r == low n) = true := by rw [hr]; simp
      rw [e]
      cases hq : plac (low n) 0 pre with
      | nil =>
        have hlt := stOf_fst pre n.length ns hp.1 (h0 n (.head _))
        simp only [List.isEmpty_nil, if_true, List.nil_append, List.isEmpty_cons, Bool.false_eq_true, if_false]
        unfold cloT
        rw [hl, if_pos hlt]
      | cons a q =>
        simp only [List.isEmpty_cons, Bool.false_eq_true, if_false, if_true, List.cons_append]
        unfold cloT
        rw [hl, if_neg (by simp), if_pos rfl]
        rfl
    · have e : (low r == low n) = false := by rw [beq_eq_false_iff_ne]; exact hr
      have hm' : low r ∈ ns.map low := by
        rw [List.map_cons, List.mem_cons] at hm
        rcases hm with h | h
        · exact absurd h hr
        · exact h
      rw [e]
      simp only [Bool.false_eq_true, if_false, List.append_nil]
      split
      · exact st_yes pre r ns hp.2 (fun m hm => h0 m (.tail _ hm)) hm'
      · obtain ⟨m, hmm, hml⟩ := List.mem_map.mp hm'
        have hl := low_len hml
        have hlt := hp.1 m hmm
        unfold cloT
        simp only
        rw [if_neg (by omega), if_neg (by omega)]
theorem clo_go (h : Str) (ns : List Str) (hp : ns.Pairwise (fun a b => b.length < a.length)) (h0 : ∀ n ∈ ns, 0 < n.length) (hm : ∀ r, Good r → ((wide r && udm h r) = true ↔ low r ∈ ns.map low)) : ∀ (xs pre : List Str), (∀ x ∈ xs, Good x) → cloL h (stOf pre ns) pre.length xs = stOf (pre ++ xs) ns
  | [], pre, _ => by simp [cloL]
  | x :: xs, pre, hG => by
    have e : cloS h x pre.length (stOf pre ns) = stOf (pre ++ [x]) ns := by
      unfold cloS
      by_cases hw : (wide x && udm h x) = true
      · rw [if_pos hw]
        exact st_yes pre x ns hp h0 ((hm x (hG x (.head _))).mp hw)
      · rw [if_neg hw]
        exact (st_no pre x ns fun n hn q => hw ((hm x (hG x (.head _))).mpr (List.mem_map.mpr ⟨n, hn, q.symm⟩))).symm
    rw [cloL, e]
    have := clo_go h ns hp h0 hm xs (pre ++ [x]) fun z hz => hG z (.tail _ hz)
    simpa using this
theorem clo_all {h : Str} {ns : List Str} (hp : ns.Pairwise (fun a b => b.length < a.length)) (h0 : ∀ n ∈ ns, 0 < n.length) (hm : ∀ r, Good r → ((wide r && udm h r) = true ↔ low r ∈ ns.map low)) {xs : List Str} (hG : ∀ x ∈ xs, Good x) : (cloL h (0, []) 0 xs).2 = firstPl xs ns := by
  have e : stOf [] ns = (0, []) := by
    clear hp h0 hm
    induction ns with
    | nil => rfl
    | cons n ns ih => rw [stOf]; simp [plac, ih]
  have := clo_go h ns hp h0 hm xs [] hG
  rw [e] at this
  simp only [List.length_nil, List.nil_append] at this
  rw [this, stOf_snd]
end

section
/-- a text's signs -/
abbrev sg (x : Str) : List Nat := x.cps.toList
theorem sg_inj {x y : Str} (h : sg x = sg y) : x = y := Str.ext' (Array.toList_inj.mp h)
theorem sg_len (x : Str) : (sg x).length = x.length := by simp [sg, Str.length]
theorem sg_app (x y : Str) : sg (x ++ y) = sg x ++ sg y := by simp [sg, Str.cps_append]
theorem sg_low (x : Str) : sg (low x) = (sg x).map lo1 := by simp [sg, low]
theorem dot_eq : Str.ofString "." = ⟨#[46]⟩ := by decide +kernel
theorem dot_one (x : Str) (i : Nat) : (i + (Str.ofString ".").length ≤ x.length ∧ PySem.Builtin.Str.subAt x (Str.ofString ".") i = true) ↔ (sg x)[i]? = some 46 := by
  rw [dot_eq]; exact StrLaws.subAt_one x 46 i
theorem starts_dot (x : Str) : Txt.startswith x (Str.ofString ".") = true ↔ (sg x).head? = some 46 := by
  unfold Txt.startswith
  rw [Bool.and_eq_true, decide_eq_true_eq, dot_one x 0, List.head?_eq_getElem?]
theorem contains_dot (x : Str) : Txt.contains x (Str.ofString ".") = true ↔ 46 ∈ sg x := by
  unfold Txt.contains
  rw [dot_eq, StrLaws.found_one, decide_eq_true_eq]
theorem at_iff (x y : Str) (i : Nat) : StrLaws.At x y x.length i ↔ i + y.length ≤ x.length ∧ ((sg x).drop i).take y.length = sg y := by
  unfold StrLaws.At
  rw [StrLaws.subAt_eq, beq_iff_eq]
theorem ends_iff (x y : Str) : Txt.endswith x y = true ↔ sg y <:+ sg x := by
  unfold Txt.endswith
  rw [Bool.and_eq_true, decide_eq_true_eq, StrLaws.subAt_eq, beq_iff_eq, List.suffix_iff_eq_drop, sg_len, sg_len]
  constructor
  · rintro ⟨h1, h2⟩
    have h2' : List.take y.length (List.drop (x.length - y.length) (sg x)) = sg y := h2
    rw [← h2', List.take_of_length_le (by rw [List.length_drop, sg_len]; omega)]
  · intro h
    have hl := congrArg List.length h
    rw [List.length_drop, sg_len, sg_len] at hl
    refine ⟨by omega, ?_⟩
    show List.take y.length (List.drop (x.length - y.length) (sg x)) = sg y
    rw [← h, List.take_of_length_le (by rw [sg_len]; omega)]
theorem find_none {x : Str} (h : 46 ∉ sg x) : Txt.find x (Str.ofString ".") = -1 := by
  rcases find_whole x (Str.ofString ".") with h1 | ⟨i, h1, h2, _⟩
  · exact h1.1
  · exact absurd (List.mem_of_getElem? ((dot_one x i).mp h2)) h
theorem find_at {x : Str} {a b : List Nat} (h : sg x = a ++ 46 :: b) (ha : 46 ∉ a) : Txt.find x (Str.ofString ".") = (a.length : Int) := by
  rcases find_whole x (Str.ofString ".") with h1 | ⟨i, h1, h2, h3⟩
  · exact absurd ((dot_one x a.length).mpr (by rw [h]; simp)) (h1.2 a.length)
  · rw [h1]
    have e2 := (dot_one x i).mp h2
    rcases Nat.lt_trichotomy i a.length with q | q | q
    · rw [h, List.getElem?_append_left q] at e2
      exact absurd (List.mem_of_getElem? e2) ha
    · rw [q]
    · exact absurd ((dot_one x a.length).mpr (by rw [h]; simp)) (h3 a.length q)
theorem sg_slice {x : Str} {i : Nat} : sg (Txt.slice x (some (i : Int)) none) = (sg x).drop i := by
  have := slice_cps (x := x) (i := (i : Int)) (by omega)
  rw [Int.toNat_natCast] at this
  exact this
theorem item0 (x : Str) : (Txt.item x 0 == Str.ofString ".") = true ↔ (sg x).head? = some 46 := by
  rw [beq_iff_eq, dot_eq]
  unfold Txt.item Txt.charAt
  cases h : sg x with
  | nil =>
    have hl : x.length = 0 := by rw [← sg_len, h]; rfl
    rw [hl, PySem.MeetsSeq.seqIndex_none_hi (by omega)]
    simp
  | cons c r =>
    have hl : x.length = r.length + 1 := by rw [← sg_len, h]; rfl
    rw [hl, StrLaws.seqIndex_nonneg (by omega) (by omega)]
    have e : x.cps[0]? = some c := by rw [← Array.getElem?_toList]; show (sg x)[0]? = _; rw [h]; rfl
    simp [e]
theorem itemL (x : Str) : (Txt.item x (-1) == Str.ofString ".") = true ↔ (sg x).getLast? = some 46 := by
  rw [beq_iff_eq, dot_eq]
  unfold Txt.item Txt.charAt
  rw [List.getLast?_eq_getElem?, sg_len]
  by_cases h : x.length = 0
  · rw [h, PySem.MeetsSeq.seqIndex_none_lo (by omega)]
    have : sg x = [] := List.length_eq_zero_iff.mp (by rw [sg_len, h])
    rw [this]; simp
  · rw [StrLaws.seqIndex_neg (by omega) (by omega)]
    have e : ((-1 : Int) + (x.length : Int)).toNat = x.length - 1 := by omega
    rw [e]
    have e2 : x.cps[x.length - 1]? = (sg x)[x.length - 1]? := by rw [← Array.getElem?_toList]
    show (⟨#[(x.cps[x.length - 1]?).getD 0]⟩ : Str) = _ ↔ _
    rw [e2]
    cases (sg x)[x.length - 1]? <;> simp
theorem empty_iff (x : Str) : (x == Str.ofString "") = true ↔ sg x = [] := by
  rw [beq_iff_eq]
  constructor
  · rintro rfl; decide
  · intro h; exact sg_inj (by rw [h]; decide)
theorem hdn_true {x : Str} (h1 : ip x = false) (h2 : sg x ≠ []) (h3 : (sg x).head? ≠ some 46) (h4 : (sg x).getLast? ≠ some 46) : hdn x = true := by
  unfold hdn
  have a : (x == Str.ofString "") = false := by rw [Bool.eq_false_iff]; exact fun e => h2 ((empty_iff x).mp e)
  have b : (Txt.item x 0 == Str.ofString ".") = false := by rw [Bool.eq_false_iff]; exact fun e => h3 ((item0 x).mp e)
  have d : (Txt.item x (-1) == Str.ofString ".") = false := by rw [Bool.eq_false_iff]; exact fun e => h4 ((itemL x).mp e)
  rw [h1, a, b, d]; rfl
theorem dg_full (text : Array Nat) : ∀ (k p : Nat), dg text k p = k → ∀ j, j < k → PySem.Sre.isDigit (text.getD (p + j) 0) = true
  | 0, _, _, j, hj => by omega
  | k + 1, p, h, j, hj => by
    unfold dg at h
    split at h
    · rename_i hd
      cases j with
      | zero => exact hd
      | succ j =>
        have := dg_full text k (p + 1) (by omega) j (by omega)
        rw [show p + (j + 1) = p + 1 + j by omega]; exact this
    · omega
theorem ipFrom_at (text : Array Nat) : ∀ (k s : Nat), ipFrom text k s = true → ∃ j, hereB text j = true
  | 0, s, h => ⟨s, h⟩
  | k + 1, s, h => by
    unfold ipFrom at h
    rw [Bool.or_eq_true] at h
    rcases h with h | h
    · exact ⟨s, h⟩
    · exact ipFrom_at text k (s + 1) h
/-- a text that ends in a dot and figures has a dot and a last figure -/
theorem ip_last {x : Str} (h : ip x = true) : 46 ∈ sg x ∧ ∃ c, (sg x).getLast? = some c ∧ PySem.Sre.isDigit c = true := by
  obtain ⟨j, hj⟩ := ipFrom_at _ _ _ h
  unfold hereB at hj
  simp only [Bool.and_eq_true, beq_iff_eq, decide_eq_true_eq] at hj
  obtain ⟨⟨h1, h2⟩, h3⟩ := hj
  have hd := dg_full _ _ _ h3 (x.cps.size - (j + 1) - 1) (by omega)
  have e : j + 1 + (x.cps.size - (j + 1) - 1) = x.cps.size - 1 := by omega
  rw [e] at hd
  constructor
  · have : x.cps[j]? = some 46 := by
      rw [Array.getD_eq_getD_getElem?] at h1
      cases hq : x.cps[j]? with
      | none => rw [hq] at h1; simp at h1
      | some c => rw [hq] at h1; simp at h1; rw [h1]
    rw [← Array.getElem?_toList] at this
    exact List.mem_of_getElem? this
  · have hlt : x.cps.size - 1 < x.cps.size := by omega
    refine ⟨x.cps[x.cps.size - 1], ?_, ?_⟩
    · rw [List.getLast?_eq_getElem?]
      simp [sg, hlt]
    · rw [Array.getD_eq_getD_getElem?] at hd
      simpa [hlt] using hd
end

section
/-- labels, dots between -/
def J : List (List Nat) → List Nat
  | [] => []
  | l :: r => if r.isEmpty then l else l ++ 46 :: J r
theorem J_one (l : List Nat) : J [l] = l := rfl
theorem J_cons (l m : List Nat) (r : List (List Nat)) : J (l :: m :: r) = l ++ 46 :: J (m :: r) := rfl
def Lab (l : List Nat) : Prop := l ≠ [] ∧ 46 ∉ l
def Labs (ls : List (List Nat)) : Prop := ∀ l ∈ ls, Lab l
theorem J_ne : ∀ {ls : List (List Nat)}, ls ≠ [] → Labs ls → J ls ≠ []
  | [], h, _ => absurd rfl h
  | [l], _, hl => (hl l (.head _)).1
  | l :: m :: r, _, hl => by rw [J_cons]; simp
theorem J_head : ∀ {ls : List (List Nat)}, Labs ls → (J ls).head? ≠ some 46
  | [], _ => by simp [J]
  | l :: r, hl => by
    have h1 := hl l (.head _)
    have e : ∃ t, J (l :: r) = l ++ t := by
      cases r with
      | nil => exact ⟨[], by simp [J]⟩
      | cons m r => exact ⟨_, J_cons l m r⟩
    obtain ⟨t, e⟩ := e
    rw [e]
    cases l with
    | nil => exact absurd rfl h1.1
    | cons c l =>
      simp only [List.cons_append, List.head?_cons, ne_eq, Option.some.injEq]
      rintro rfl
      exact h1.2 (.head _)
theorem J_last : ∀ {ls : List (List Nat)}, Labs ls → (J ls).getLast? ≠ some 46
  | [], _ => by simp [J]
  | [l], hl => fun e => (hl l (.head _)).2 (List.mem_of_getLast? e)
  | l :: m :: r, hl => by
    have ih := J_last (ls := m :: r) fun x hx => hl x (.tail _ hx)
    have hne := J_ne (ls := m :: r) (by simp) fun x hx => hl x (.tail _ hx)
    rw [J_cons]
    rw [List.getLast?_append, List.getLast?_cons]
    cases h : (J (m :: r)).getLast? with
    | none => rw [List.getLast?_eq_none_iff] at h; exact absurd h hne
    | some c => rw [h] at ih; simpa using ih
theorem J_tail_last {l m : List Nat} {r : List (List Nat)} (hl : Labs (m :: r)) : (J (l :: m :: r)).getLast? = (J (m :: r)).getLast? := by
  have hne := J_ne (ls := m :: r) (by simp) hl
  rw [J_cons, List.getLast?_append, List.getLast?_cons]
  cases h : (J (m :: r)).getLast? with
  | none => rw [List.getLast?_eq_none_iff] at h; exact absurd h hne
  | some c => simp
theorem J_dot : ∀ {ls : List (List Nat)}, Labs ls → (46 ∈ J ls ↔ 2 ≤ ls.length)
  | [], _ => by simp [J]
  | [l], hl => by
    constructor
    · intro h; exact absurd h (hl l (.head _)).2
    · intro h; simp at h
  | l :: m :: r, hl => by
    rw [J_cons]
    simp
/-- the last sign is no figure, or there is no dot -/
def Ni (ls : List (List Nat)) : Prop := ls.length = 1 ∨ ∃ c, (J ls).getLast? = some c ∧ PySem.Sre.isDigit c = false
theorem Ni.tail {l m : List Nat} {r : List (List Nat)} (hl : Labs (m :: r)) (h : Ni (l :: m :: r)) : ∃ c, (J (m :: r)).getLast? = some c ∧ PySem.Sre.isDigit c = false := by
  rcases h with h | ⟨c, h, hd⟩
  · simp at h
  · rw [J_tail_last hl] at h; exact ⟨c, h, hd⟩
theorem no_ip {x : Str} {ls : List (List Nat)} (hx : sg x = J ls) (hl : Labs ls) (hn : Ni ls) : ip x = false := by
  rw [Bool.eq_false_iff]
  intro h
  obtain ⟨h1, c, h2, h3⟩ := ip_last h
  rw [hx] at h1 h2
  rcases hn with hn | ⟨d, hd, hdd⟩
  · have := (J_dot hl).mp h1
    omega
  · rw [hd] at h2
    cases h2
    rw [hdd] at h3; cases h3
theorem no_ip_dot {x : Str} {ls : List (List Nat)} (hx : sg x = 46 :: J ls) (hn : ∃ c, (J ls).getLast? = some c ∧ PySem.Sre.isDigit c = false) : ip x = false := by
  rw [Bool.eq_false_iff]
  intro h
  obtain ⟨_, c, h2, h3⟩ := ip_last h
  obtain ⟨d, hd, hdd⟩ := hn
  rw [hx, List.getLast?_cons, hd] at h2
  simp at h2
  subst h2
  rw [hdd] at h3; cases h3
def loc : List Nat := [108, 111, 99, 97, 108]
def cond (r : List (List Nat)) : Bool := decide (2 ≤ r.length) || r == [loc]
/-- the names above, as signs -/
def upsC : List (List Nat) → List (List Nat)
  | [] => []
  | _ :: r => if cond r then (46 :: J r) :: upsC r else []
theorem cond_ne {r : List (List Nat)} (h : cond r = true) : r ≠ [] := by
  rintro rfl
  exact absurd h (by decide)
theorem mem_upsC {y : List Nat} : ∀ {ls : List (List Nat)}, y ∈ upsC ls ↔ ∃ p r, p ≠ [] ∧ ls = p ++ r ∧ cond r = true ∧ y = 46 :: J r
  | [] => by
    constructor
    · intro h; cases h
    · rintro ⟨p, r, h1, h2, _⟩
      have : p = [] := (List.append_eq_nil_iff.mp h2.symm).1
      exact absurd this h1
  | l :: t => by
    rw [upsC]
    constructor
    · intro h
      split at h
      · rename_i hc
        rcases List.mem_cons.mp h with rfl | h
        · exact ⟨[l], t, by simp, rfl, hc, rfl⟩
        · obtain ⟨p, r, h1, h2, h3, h4⟩ := (mem_upsC (ls := t)).mp h
          exact ⟨l :: p, r, by simp, by rw [h2]; rfl, h3, h4⟩
      · cases h
    · rintro ⟨p, r, h1, h2, h3, h4⟩
      cases p with
      | nil => exact absurd rfl h1
      | cons a p =>
        simp only [List.cons_append, List.cons.injEq] at h2
        obtain ⟨rfl, rfl⟩ := h2
        cases p with
        | nil =>
          rw [List.nil_append] at *
          rw [if_pos h3]
          rw [h4]; exact .head _
        | cons b p =>
          have hr := cond_ne h3
          have hc : cond (b :: p ++ r) = true := by
            unfold cond
            have : 2 ≤ (b :: p ++ r).length := by
              have := List.length_pos_iff.mpr hr
              simp only [List.cons_append, List.length_cons, List.length_append]; omega
            rw [Bool.or_eq_true]; exact .inl (decide_eq_true this)
          rw [if_pos hc]
          exact .tail _ ((mem_upsC (ls := b :: p ++ r)).mpr ⟨b :: p, r, by simp, rfl, h3, h4⟩)
theorem suffix_dot {y : List Nat} (hy : y.head? = some 46) : ∀ {ls : List (List Nat)}, Labs ls → y <:+ J ls → ∃ p r, p ≠ [] ∧ r ≠ [] ∧ ls = p ++ r ∧ y = 46 :: J r
  | [], _, h => by
    have : y = [] := by simpa [J] using h
    rw [this] at hy; cases hy
  | [l], hl, h => by
    have hm : 46 ∈ y := List.mem_of_head? hy
    exact absurd (h.subset hm) (hl l (.head _)).2
  | l :: m :: r, hl, h => by
    rw [J_cons] at h
    obtain ⟨t, ht⟩ := h
    rcases List.append_eq_append_iff.mp ht with ⟨a, h1, h2⟩ | ⟨c, h1, h2⟩
    · cases a with
      | nil => exact ⟨[l], m :: r, by simp, by simp, rfl, by rw [h2]; rfl⟩
      | cons b a =>
        rw [h2] at hy
        simp only [List.cons_append, List.head?_cons, Option.some.injEq] at hy
        subst hy
        exact absurd (by rw [h1]; simp) (hl l (.head _)).2
    · cases c with
      | nil => exact ⟨[l], m :: r, by simp, by simp, rfl, by rw [List.nil_append] at h2; exact h2.symm⟩
      | cons b c =>
        simp only [List.cons_append, List.cons.injEq] at h2
        obtain ⟨p, q, g1, g2, g3, g4⟩ := suffix_dot hy (ls := m :: r) (fun x hx => hl x (.tail _ hx)) ⟨c, h2.2.symm⟩
        exact ⟨l :: p, q, by simp, g2, by rw [g3]; rfl, g4⟩
theorem J_suffix : ∀ (p r : List (List Nat)), p ≠ [] → r ≠ [] → (46 :: J r) <:+ J (p ++ r)
  | [], _, h, _ => absurd rfl h
  | [a], r, _, hr => by
    cases r with
    | nil => exact absurd rfl hr
    | cons m r => rw [List.singleton_append, J_cons]; exact List.suffix_append _ _
  | a :: b :: p, r, _, hr => by
    have ih := J_suffix (b :: p) r (by simp) hr
    rw [List.cons_append]
    show _ <:+ J (a :: b :: (p ++ r))
    rw [J_cons]
    exact ih.trans (by
      have : J (b :: (p ++ r)) <:+ 46 :: J (b :: (p ++ r)) := List.suffix_cons _ _
      exact this.trans (List.suffix_append _ _))
theorem upsC_lt {ls : List (List Nat)} (hl : Labs ls) {y : List Nat} (hy : y ∈ upsC ls) : y.length < (J ls).length := by
  obtain ⟨p, r, h1, h2, h3, rfl⟩ := mem_upsC.mp hy
  have hs := J_suffix p r h1 (cond_ne h3)
  rw [← h2] at hs
  have hle := hs.length_le
  rcases Nat.lt_or_ge (46 :: J r).length (J ls).length with h | h
  · exact h
  · have := hs.eq_of_length (by omega)
    have hh := J_head hl
    rw [← this] at hh
    exact absurd rfl hh
theorem ups_pair : ∀ {ls : List (List Nat)}, Labs ls → (upsC ls).Pairwise (fun a b => b.length < a.length)
  | [], _ => by simp [upsC]
  | l :: r, hl => by
    rw [upsC]
    split
    · rw [List.pairwise_cons]
      refine ⟨fun y hy => ?_, ups_pair fun x hx => hl x (.tail _ hx)⟩
      have := upsC_lt (fun x hx => hl x (.tail _ hx)) hy
      simp only [List.length_cons]; omega
    · simp
theorem ups_len : ∀ (ls : List (List Nat)), (upsC ls).length ≤ ls.length
  | [] => by simp [upsC]
  | l :: r => by
    have := ups_len r
    rw [upsC]
    split
    · simp only [List.length_cons]; omega
    · simp
end

section
theorem loc_eq {x : Str} : (x == Str.ofString "local") = true ↔ sg x = loc := by
  rw [beq_iff_eq]
  constructor
  · rintro rfl; decide
  · intro h; exact sg_inj (by rw [h]; decide)
theorem sg_dot : sg (Str.ofString ".") = [46] := by decide
/-- reach, where the text is no number with dots -/
theorem rch_up {x : Str} {l m : List Nat} {r : List (List Nat)} (hx : sg x = J (l :: m :: r)) (hl : Labs (l :: m :: r)) (hn : Ni (l :: m :: r)) : (cond (m :: r) = true → sg (rch x) = 46 :: J (m :: r)) ∧ (cond (m :: r) = false → rch x = x) := by
  have hlm : Labs (m :: r) := fun z hz => hl z (.tail _ hz)
  have hf : Txt.find x (Str.ofString ".") = (l.length : Int) := find_at (by rw [hx, J_cons]) (hl l (.head _)).2
  have hs : sg (Txt.slice x (some ((l.length : Int) + 1)) none) = J (m :: r) := by
    have := sg_slice (x := x) (i := l.length + 1)
    rw [show ((l.length + 1 : Nat) : Int) = (l.length : Int) + 1 by omega] at this
    rw [this, hx, J_cons]
    simp
  have hh : hdn x = true := hdn_true (no_ip hx hl hn) (by rw [hx]; exact J_ne (by simp) hl) (by rw [hx]; exact J_head hl) (by rw [hx]; exact J_last hl)
  have hc : (decide (0 ≤ Txt.find (Txt.slice x (some ((l.length : Int) + 1)) none) (Str.ofString ".")) || Txt.slice x (some ((l.length : Int) + 1)) none == Str.ofString "local") = cond (m :: r) := by
    unfold cond
    congr 1
    · by_cases hd : 2 ≤ (m :: r).length
      · rw [decide_eq_true hd, decide_eq_true_eq]
        have hm := (J_dot hlm).mpr hd
        rcases find_whole (Txt.slice x (some ((l.length : Int) + 1)) none) (Str.ofString ".") with h1 | ⟨i, h1, _⟩
        · obtain ⟨i, hi⟩ := List.getElem?_of_mem (by rw [← hs] at hm; exact hm)
          exact absurd ((dot_one _ i).mpr hi) (h1.2 i)
        · rw [h1]; omega
      · rw [decide_eq_false hd, decide_eq_false_iff_not, find_none (by rw [hs]; exact fun q => hd ((J_dot hlm).mp q))]
        omega
    · rw [Bool.eq_iff_iff, loc_eq, hs, beq_iff_eq]
      constructor
      · intro h
        cases r with
        | nil => rw [J_one] at h; rw [h]
        | cons q r =>
          have : 46 ∈ J (m :: q :: r) := (J_dot hlm).mpr (by simp)
          rw [h] at this
          exact absurd this (by decide)
      · intro h; rw [h]; rfl
  unfold rch
  rw [hf, if_pos (by omega), hh, Bool.true_and, hc]
  constructor
  · intro h
    rw [if_pos h, sg_app, hs, sg_dot]; rfl
  · intro h
    rw [if_neg (by rw [h]; simp)]
theorem rch_one {x : Str} {l : List Nat} (hx : sg x = l) (hl : Lab l) : rch x = x := by
  unfold rch
  rw [find_none (by rw [hx]; exact hl.2), if_neg (by omega)]
theorem rch_ip {x : Str} (h : ip x = true) : rch x = x := by
  unfold rch
  have : hdn x = false := by unfold hdn; rw [h]; rfl
  rw [this]
  simp
theorem way_go : ∀ (ls : List (List Nat)) (k : Nat) (here : Str) (ns : List Str), ls ≠ [] → sg here = J ls → Labs ls → Ni ls → ls.length ≤ k → (wayL k here ns).map sg = ns.map sg ++ upsC ls
  | [], _, _, _, h, _, _, _, _ => absurd rfl h
  | [l], 0, _, _, _, _, _, _, hk => by simp at hk
  | [l], k + 1, here, ns, _, hx, hl, _, _ => by
    rw [wayL, if_pos (rch_one hx (hl l (.head _)))]
    have : upsC [l] = [] := by simp [upsC, cond]
    rw [this]; simp
  | l :: m :: r, 0, _, _, _, _, _, _, hk => by simp at hk
  | l :: m :: r, k + 1, here, ns, _, hx, hl, hn, hk => by
    have hlm : Labs (m :: r) := fun z hz => hl z (.tail _ hz)
    have hu := rch_up hx hl hn
    rw [wayL, upsC]
    cases hc : cond (m :: r) with
    | false =>
      rw [if_pos (hu.2 hc)]
      simp
    | true =>
      have hr := hu.1 hc
      have hne : rch here ≠ here := fun e => by
        rw [e, hx] at hr
        have := J_head hl
        rw [hr] at this
        exact this rfl
      rw [if_neg hne, if_pos rfl]
      have hs : sg (Txt.slice (rch here) (some 1) none) = J (m :: r) := by
        have := sg_slice (x := rch here) (i := 1)
        rw [show ((1 : Nat) : Int) = 1 by rfl] at this
        rw [this, hr]; rfl
      rw [way_go (m :: r) k _ _ (by simp) hs hlm (.inr (hn.tail hlm)) (by simp only [List.length_cons] at hk ⊢; omega)]
      rw [List.map_append, List.map_cons, hr]
      simp
theorem lo1_dot (c : Nat) : lo1 c = 46 ↔ c = 46 := by unfold lo1; split <;> omega
theorem J_low : ∀ ls : List (List Nat), (J ls).map lo1 = J (ls.map (·.map lo1))
  | [] => rfl
  | [l] => rfl
  | l :: m :: r => by
    have ih := J_low (m :: r)
    rw [J_cons, List.map_append, List.map_cons, ih]
    show _ = J (l.map lo1 :: m.map lo1 :: r.map (·.map lo1))
    rw [J_cons]
    rfl
theorem labs_low {ls : List (List Nat)} (h : Labs ls) : Labs (ls.map (·.map lo1)) := fun l hl => by
  obtain ⟨m, hm, rfl⟩ := List.mem_map.mp hl
  have := h m hm
  refine ⟨by simpa using this.1, fun q => ?_⟩
  obtain ⟨c, hc, e⟩ := List.mem_map.mp q
  rw [lo1_dot] at e
  subst e
  exact this.2 hc
theorem cond_low {r : List (List Nat)} (h : ∀ l ∈ r, l.map lo1 = loc → l = loc) : cond (r.map (·.map lo1)) = cond r := by
  unfold cond
  rw [List.length_map]
  congr 1
  rw [Bool.eq_iff_iff, beq_iff_eq, beq_iff_eq]
  constructor
  · intro e
    cases r with
    | nil => simp at e
    | cons a r =>
      cases r with
      | nil =>
        simp only [List.map_cons, List.map_nil, List.cons.injEq, and_true] at e
        rw [h a (.head _) e]
      | cons b r => simp at e
  · rintro rfl; decide
theorem ups_low : ∀ {ls : List (List Nat)}, (∀ l ∈ ls, l.map lo1 = loc → l = loc) → (upsC ls).map (·.map lo1) = upsC (ls.map (·.map lo1))
  | [], _ => rfl
  | l :: r, h => by
    have hr : ∀ l ∈ r, l.map lo1 = loc → l = loc := fun z hz => h z (.tail _ hz)
    rw [upsC, List.map_cons, upsC, cond_low hr]
    cases cond r with
    | true =>
      simp only [if_true, List.map_cons, ups_low hr, J_low]
      rfl
    | false => rfl
theorem lo1_dig (c : Nat) : PySem.Sre.isDigit (lo1 c) = PySem.Sre.isDigit c := by
  unfold PySem.Sre.isDigit lo1
  split
  · rw [Bool.eq_iff_iff]; simp only [Bool.and_eq_true, decide_eq_true_eq]; omega
  · rfl
theorem ni_low {ls : List (List Nat)} (h : Ni ls) : Ni (ls.map (·.map lo1)) := by
  rcases h with h | ⟨c, h, hd⟩
  · exact .inl (by simpa using h)
  · refine .inr ⟨lo1 c, ?_, by rw [lo1_dig]; exact hd⟩
    rw [← J_low, List.getLast?_map, h]; rfl
end

section
theorem head_low (x : Str) : (sg (low x)).head? = some 46 ↔ (sg x).head? = some 46 := by
  rw [sg_low, List.head?_map, Option.map_eq_some_iff]
  constructor
  · rintro ⟨c, h, e⟩; rw [lo1_dot] at e; rw [h, e]
  · intro h; exact ⟨46, h, rfl⟩
theorem wide_iff (r : Str) : wide r = true ↔ ((sg (low r)).head? ≠ some 46 ∨ 46 ∈ (sg (low r)).drop 1 ∨ sg (low r) = 46 :: loc) := by
  have h1 : Txt.contains (Txt.slice r (some 1) none) (Str.ofString ".") = true ↔ 46 ∈ (sg (low r)).drop 1 := by
    have := sg_slice (x := r) (i := 1)
    rw [show ((1 : Nat) : Int) = 1 by rfl] at this
    rw [contains_dot, this, sg_low, ← List.map_drop, List.mem_map]
    constructor
    · intro h; exact ⟨46, h, rfl⟩
    · rintro ⟨c, h, e⟩; rw [lo1_dot] at e; rw [e] at h; exact h
  have h2 : (low r == Str.ofString ".local") = true ↔ sg (low r) = 46 :: loc := by
    rw [beq_iff_eq]
    constructor
    · intro h; rw [h]; decide
    · intro h; exact sg_inj (by rw [h]; decide)
  unfold wide
  rw [Bool.or_eq_true, Bool.or_eq_true, Bool.not_eq_true', Bool.eq_false_iff, ne_eq, starts_dot, ← head_low, h1, h2, or_assoc]
theorem J_loc {q : List (List Nat)} (hl : Labs q) (h : J q = loc) : q = [loc] := by
  cases q with
  | nil => exact absurd h (by decide)
  | cons a q =>
    cases q with
    | nil => rw [J_one] at h; rw [h]
    | cons b q =>
      have : 46 ∈ J (a :: b :: q) := (J_dot hl).mpr (by simp)
      rw [h] at this
      exact absurd this (by decide)
theorem suffix_last {a b : List Nat} (h : a <:+ b) (ha : a ≠ []) : b.getLast? = a.getLast? := by
  obtain ⟨t, rfl⟩ := h
  rw [List.getLast?_append]
  cases h : a.getLast? with
  | none => rw [List.getLast?_eq_none_iff] at h; exact absurd h ha
  | some c => rfl
theorem udm_iff {h r : Str} {lls : List (List Nat)} (hh : sg (low h) = J lls) (hne : lls ≠ []) (hl : Labs lls) (hn : Ni lls) : (wide r && udm h r) = true ↔ (sg (low r) = J lls ∨ sg (low r) ∈ upsC lls) := by
  have hip := no_ip hh hl hn
  rw [Bool.and_eq_true, wide_iff]
  constructor
  · rintro ⟨hw, hu⟩
    unfold udm at hu
    rw [hip, Bool.false_or] at hu
    split at hu
    · left; rw [← hh, eq_of_beq hu]
    · split at hu
      · rename_i hd
        rw [starts_dot] at hd
        rw [ends_iff, hh] at hu
        obtain ⟨p, q, h1, h2, h3, h4⟩ := suffix_dot hd hl hu
        have hlq : Labs q := fun z hz => hl z (by rw [h3]; exact List.mem_append_right _ hz)
        right
        refine mem_upsC.mpr ⟨p, q, h1, h3, ?_, h4⟩
        unfold cond
        rw [Bool.or_eq_true]
        rcases hw with hw | hw | hw
        · exact absurd hd hw
        · rw [h4, List.drop_succ_cons, List.drop_zero] at hw
          exact .inl (decide_eq_true ((J_dot hlq).mp hw))
        · rw [h4] at hw
          have := J_loc hlq (List.cons.inj hw).2
          exact .inr (by rw [this]; simp)
      · left; rw [← hh, eq_of_beq hu]
  · rintro (h1 | h1)
    · have e : low h = low r := sg_inj (by rw [hh, h1])
      have hd : (sg (low r)).head? ≠ some 46 := by rw [h1]; exact J_head hl
      refine ⟨.inl hd, ?_⟩
      unfold udm
      rw [e]
      have : Txt.startswith (low r) (Str.ofString ".") = false := by rw [Bool.eq_false_iff, ne_eq, starts_dot]; exact hd
      rw [this]
      simp
    · obtain ⟨p, q, g1, g2, g3, g4⟩ := mem_upsC.mp h1
      have hq := cond_ne g3
      have hlq : Labs q := fun z hz => hl z (by rw [g2]; exact List.mem_append_right _ hz)
      have hs := J_suffix p q g1 hq
      rw [← g2] at hs
      have hlast : (J lls).getLast? = (J q).getLast? := by
        rw [suffix_last hs (by simp)]
        exact suffix_last (List.suffix_cons _ _) (J_ne hq hlq) 
      have hnd : ∃ c, (J q).getLast? = some c ∧ PySem.Sre.isDigit c = false := by
        rcases hn with hn | ⟨c, hc, hd⟩
        · rw [g2, List.length_append] at hn
          have := List.length_pos_iff.mpr g1
          have := List.length_pos_iff.mpr hq
          omega
        · rw [hlast] at hc; exact ⟨c, hc, hd⟩
      have hip2 := no_ip_dot g4 hnd
      refine ⟨?_, ?_⟩
      · unfold cond at g3
        rw [Bool.or_eq_true, decide_eq_true_eq, beq_iff_eq] at g3
        rcases g3 with g3 | g3
        · right; left
          rw [g4, List.drop_succ_cons, List.drop_zero]
          exact (J_dot hlq).mpr g3
        · right; right
          rw [g4, g3]; rfl
      · unfold udm
        have hst : Txt.startswith (low r) (Str.ofString ".") = true := by rw [starts_dot, g4]; rfl
        rw [hip, hip2, hst]
        simp only [Bool.or_false, Bool.false_eq_true, if_false, if_true]
        rw [ends_iff, hh, g4]
        exact hs
theorem dmt_up {h y : Str} {lls : List (List Nat)} (hh : sg (low h) = J lls) (hne : lls ≠ []) (hl : Labs lls) (hn : Ni lls) (hy : sg (low y) ∈ upsC lls) : dmt (swp h) y = true := by
  obtain ⟨p, q, g1, g2, g3, g4⟩ := mem_upsC.mp hy
  have hq := cond_ne g3
  have hlq : Labs q := fun z hz => hl z (by rw [g2]; exact List.mem_append_right _ hz)
  have hs := J_suffix p q g1 hq
  rw [← g2] at hs
  have hlast : (J lls).getLast? = (J q).getLast? := by
    rw [suffix_last hs (by simp)]
    exact suffix_last (List.suffix_cons _ _) (J_ne hq hlq)
  have hnd : ∃ c, (J q).getLast? = some c ∧ PySem.Sre.isDigit c = false := by
    rcases hn with hn | ⟨c, hc, hd⟩
    · rw [g2, List.length_append] at hn
      have := List.length_pos_iff.mpr g1
      have := List.length_pos_iff.mpr hq
      omega
    · rw [hlast] at hc; exact ⟨c, hc, hd⟩
  have hhd := J_head hl
  unfold dmt
  rw [low_swp]
  have h1 : hdn (low h) = true := hdn_true (no_ip hh hl hn) (by rw [hh]; exact J_ne hne hl) (by rw [hh]; exact hhd) (by rw [hh]; exact J_last hl)
  have h2 : ¬ (Txt.rfind (low h) (low y) = -1 ∨ Txt.rfind (low h) (low y) = 0) := by
    rcases rfind_whole (low h) (low y) with ⟨_, hno⟩ | ⟨i, hi, ha, _⟩
    · refine absurd ((at_iff _ _ ((low h).length - (low y).length)).mpr ?_) (hno _)
      rw [← g4, ← hh, List.suffix_iff_eq_drop, sg_len, sg_len] at hs
      have hlen := congrArg List.length hs
      rw [List.length_drop, sg_len, sg_len] at hlen
      refine ⟨by omega, ?_⟩
      rw [← hs, List.take_of_length_le (by rw [sg_len]; omega)]
    · rw [hi]
      have hi0 : i ≠ 0 := by
        rintro rfl
        have := ((at_iff _ _ 0).mp ha).2
        rw [List.drop_zero, hh, g4] at this
        cases hj : J lls with
        | nil => exact J_ne hne hl hj
        | cons c t =>
          rw [hj] at this hhd
          have hlen : (low y).length = (J q).length + 1 := by rw [← sg_len, g4]; rfl
          rw [hlen, List.take_succ_cons] at this
          rw [(List.cons.inj this).1] at hhd
          exact hhd rfl
      omega
  have h3 : Txt.startswith (low y) (Str.ofString ".") = true := by rw [starts_dot, g4]; rfl
  have h4 : sg (Txt.slice (low y) (some 1) none) = J q := by
    have := sg_slice (x := low y) (i := 1)
    rw [show ((1 : Nat) : Int) = 1 by rfl] at this
    rw [this, g4]; rfl
  have h5 : hdn (Txt.slice (low y) (some 1) none) = true := hdn_true (no_ip h4 hlq (.inr hnd)) (by rw [h4]; exact J_ne hq hlq) (by rw [h4]; exact J_head hlq) (by rw [h4]; exact J_last hlq)
  rw [h1, if_neg h2, h3, h5]
  simp
theorem dg_two (text : Array Nat) (p : Nat) (h1 : text.getD p 0 = 55) (h2 : text.getD (p + 1) 0 = 55) : dg text 2 p = 2 := by
  unfold dg
  rw [h1]
  unfold dg
  rw [h2]
  rfl
theorem ipFrom_of (text : Array Nat) : ∀ (k s j : Nat), s ≤ j → j ≤ s + k → hereB text j = true → ipFrom text k s = true
  | 0, s, j, h1, h2, h => by
    have : j = s := by omega
    subst this; exact h
  | k + 1, s, j, h1, h2, h => by
    unfold ipFrom
    rw [Bool.or_eq_true]
    by_cases e : s = j
    · subst e; exact .inl h
    · exact .inr (ipFrom_of text k (s + 1) j (by omega) (by omega) h)
theorem ip_yes {x : Str} {t : List Nat} (h : sg x = t ++ [46, 55, 55]) : ip x = true := by
  have hsz : x.cps.size = t.length + 3 := by
    have := congrArg List.length h
    simpa [sg] using this
  have hg : ∀ i, x.cps.getD i 0 = (t ++ [46, 55, 55])[i]?.getD 0 := fun i => by
    rw [Array.getD_eq_getD_getElem?, ← Array.getElem?_toList]; show ((sg x)[i]?).getD 0 = _; rw [h]
  unfold ip
  refine ipFrom_of _ _ 0 t.length (by omega) (by omega) ?_
  unfold hereB
  have e1 : x.cps.getD t.length 0 = 46 := by rw [hg]; simp
  have e2 : x.cps.getD (t.length + 1) 0 = 55 := by rw [hg]; simp
  have e3 : x.cps.getD (t.length + 1 + 1) 0 = 55 := by rw [hg, List.getElem?_append_right (by omega), show t.length + 1 + 1 - t.length = 2 by omega]; rfl
  rw [e1, hsz, show t.length + 3 - (t.length + 1) = 2 by omega, dg_two _ _ e2 e3]
  simp
end

section
theorem join_sg : ∀ xs : List Str, sg (Str.join (Str.ofString ".") xs) = J (xs.map sg)
  | [] => rfl
  | [x] => rfl
  | x :: y :: r => by
    have ih := join_sg (y :: r)
    rw [sjoin_cons, sg_app, sg_app, sg_dot, ih]
    show _ = J (sg x :: sg y :: r.map sg)
    rw [J_cons]
    simp
/-- what is known of one of the five labels -/
structure Five (l : List Nat) : Prop where
  lab : Lab l
  loc : l.map lo1 = loc → l = loc
  last : l = [55, 55] ∨ ∃ c, l.getLast? = some c ∧ PySem.Sre.isDigit c = false
theorem lab_five (i : Int) : Five (sg (Mine.lab i)) := by
  unfold Mine.lab
  split
  · exact ⟨⟨by decide, by decide⟩, by decide, .inr ⟨97, by decide, by decide⟩⟩
  split
  · exact ⟨⟨by decide, by decide⟩, by decide, .inr ⟨66, by decide, by decide⟩⟩
  split
  · exact ⟨⟨by decide, by decide⟩, by decide, .inr ⟨109, by decide, by decide⟩⟩
  split
  · exact ⟨⟨by decide, by decide⟩, by decide, .inr ⟨108, by decide, by decide⟩⟩
  · exact ⟨⟨by decide, by decide⟩, by decide, .inl (by decide)⟩
def hostLs (is : List Int) : List (List Nat) := (labs is).map sg
theorem host_sg (is : List Int) : sg (hostT is) = J (hostLs is) := by
  unfold hostT hostLs
  rw [tjoin_eq, join_sg]
theorem host_five (is : List Int) : ∀ l ∈ hostLs is, Five l := fun l hl => by
  obtain ⟨x, hx, rfl⟩ := List.mem_map.mp hl
  obtain ⟨i, _, rfl⟩ := List.mem_map.mp hx
  exact lab_five i
theorem five_end : ∀ {ls : List (List Nat)}, ls ≠ [] → (∀ l ∈ ls, Five l) → (∃ c, (J ls).getLast? = some c ∧ PySem.Sre.isDigit c = false) ∨ J ls = [55, 55] ∨ ∃ t, J ls = t ++ [46, 55, 55]
  | [], h, _ => absurd rfl h
  | [l], _, hf => by
    rw [J_one]
    rcases (hf l (.head _)).last with h | h
    · exact .inr (.inl h)
    · exact .inl h
  | l :: m :: r, _, hf => by
    have hm : ∀ z ∈ m :: r, Five z := fun z hz => hf z (.tail _ hz)
    rcases five_end (ls := m :: r) (by simp) hm with h | h | ⟨t, h⟩
    · rw [J_tail_last (fun z hz => (hm z hz).lab)]; exact .inl h
    · rw [J_cons, h]; exact .inr (.inr ⟨l, rfl⟩)
    · rw [J_cons, h]; exact .inr (.inr ⟨l ++ 46 :: t, by simp⟩)
theorem five_ni {ls : List (List Nat)} (hne : ls ≠ []) (hf : ∀ l ∈ ls, Five l) : Ni ls ∨ ∃ t, J ls = t ++ [46, 55, 55] := by
  have hl : Labs ls := fun z hz => (hf z hz).lab
  rcases five_end hne hf with h | h | h
  · exact .inl (.inr h)
  · left; left
    have h1 : ¬ 2 ≤ ls.length := fun q => by
      have := (J_dot hl).mpr q
      rw [h] at this
      exact absurd this (by decide)
    have := List.length_pos_iff.mpr hne
    omega
  · exact .inr h
theorem way_len {h : Str} {ls : List (List Nat)} (e : (way h).map sg = J ls :: upsC ls) : (way h).length ≤ ls.length + 1 := by
  have := congrArg List.length e
  rw [List.length_map, List.length_cons] at this
  have := ups_len ls
  omega
/-- all that is asked of a host -/
structure HostOk (h : Str) : Prop where
  short : (way h).length ≤ 9
  dm : ∀ y ∈ (way h).tail, dmt (swp h) y = true
  fall : (way h).Pairwise (fun a b => b.length < a.length)
  pos : ∀ n ∈ way h, 0 < n.length
  hits : ∀ r, (wide r && udm h r) = true ↔ low r ∈ (way h).map low
theorem host_ok {h : Str} {ls : List (List Nat)} (hh : sg h = J ls) (hne : ls ≠ []) (hf : ∀ l ∈ ls, Five l) (h8 : ls.length ≤ 8) : HostOk h := by
  have hl : Labs ls := fun z hz => (hf z hz).lab
  have hlow : sg (low h) = J (ls.map (·.map lo1)) := by rw [sg_low, hh, J_low]
  have hll := labs_low hl
  have hlne : ls.map (·.map lo1) ≠ [] := by simpa using hne
  rcases five_ni hne hf with hn | ⟨t, ht⟩
  · have hw : (way h).map sg = J ls :: upsC ls := by
      unfold way
      rw [way_go ls 8 h [h] hne hh hl hn h8]
      simp [hh]
    have hnl := ni_low hn
    have hup := ups_low (fun l hl' => (hf l hl').loc) (ls := ls)
    have hmem : ∀ y ∈ (way h).tail, sg (low y) ∈ upsC (ls.map (·.map lo1)) := fun y hy => by
      have : sg y ∈ ((way h).map sg).tail := by rw [← List.map_tail]; exact List.mem_map_of_mem hy
      rw [hw, List.tail_cons] at this
      rw [sg_low, ← hup]
      exact List.mem_map_of_mem this
    refine ⟨Nat.le_trans (way_len hw) (by omega), fun y hy => dmt_up hlow hlne hll hnl (hmem y hy), ?_, fun n hn' => ?_, fun r => ?_⟩
    · have hp : ((way h).map sg).Pairwise (fun a b => b.length < a.length) := by
        rw [hw, List.pairwise_cons]
        exact ⟨fun y hy => upsC_lt hl hy, ups_pair hl⟩
      rw [List.pairwise_map] at hp
      exact hp.imp fun {a b} q => by rw [sg_len, sg_len] at q; exact q
    · have hm : sg n ∈ (way h).map sg := List.mem_map_of_mem hn'
      rw [hw] at hm
      rw [← sg_len]
      rcases List.mem_cons.mp hm with e | e
      · rw [e]; exact List.length_pos_iff.mpr (J_ne hne hl)
      · obtain ⟨p, q, _, _, _, e⟩ := mem_upsC.mp e
        rw [e]; simp
    · rw [udm_iff hlow hlne hll hnl]
      have e : low r ∈ (way h).map low ↔ sg (low r) ∈ ((way h).map sg).map (·.map lo1) := by
        rw [List.map_map, List.mem_map, List.mem_map]
        constructor
        · rintro ⟨n, h1, h2⟩; exact ⟨n, h1, by rw [← h2, sg_low]; rfl⟩
        · rintro ⟨n, h1, h2⟩; exact ⟨n, h1, sg_inj (by rw [sg_low n]; exact h2)⟩
      rw [e, hw, List.map_cons, hup, J_low, List.mem_cons]
  · have hip : ip h = true := ip_yes (by rw [hh, ht])
    have hipl : ip (low h) = true := ip_yes (t := t.map lo1) (by rw [sg_low, hh, ht]; simp; decide)
    have hw : way h = [h] := by
      unfold way
      rw [wayL, if_pos (rch_ip hip)]
    refine ⟨(by rw [hw]; simp), (by rw [hw]; intro y hy; cases hy), (by rw [hw]; simp), fun n hn' => ?_, fun r => ?_⟩
    · rw [hw, List.mem_singleton] at hn'
      rw [hn', ← sg_len, hh]
      exact List.length_pos_iff.mpr (J_ne hne hl)
    · rw [hw, List.map_cons, List.map_nil, List.mem_singleton, Bool.and_eq_true, wide_iff]
      unfold udm
      rw [hipl, Bool.true_or, if_pos rfl, beq_iff_eq]
      constructor
      · rintro ⟨_, e⟩; exact e.symm
      · intro e
        refine ⟨.inl ?_, e.symm⟩
        rw [e, hlow]; exact J_head hll
theorem host_n (n : Int) : HostOk (hostT (hostFigs n)) := by
  refine host_ok (host_sg _) ?_ (host_five _) ?_
  · intro e
    have h5 : Int.fmod (Int.fdiv n 216) 5 < 5 := Int.fmod_lt_of_pos _ (by decide)
    have hm : Mine.lab (Int.fmod (Int.fdiv n 216) 5) ∈ labs (hostFigs n) := by
      refine List.mem_map.mpr ⟨_, List.mem_filter.mpr ⟨?_, decide_eq_true h5⟩, rfl⟩
      simp [hostFigs]
    have : sg (Mine.lab (Int.fmod (Int.fdiv n 216) 5)) ∈ hostLs (hostFigs n) := List.mem_map_of_mem hm
    rw [e] at this
    cases this
  · unfold hostLs
    rw [List.length_map]
    exact Nat.le_trans (labs_len _) (by simp [hostFigs])
theorem pl_way (n : Int) : (way (hostT (hostFigs n))).length ≤ 9 := (host_n n).short
theorem pl_dm (n : Int) : ∀ y ∈ (way (hostT (hostFigs n))).tail, dmt (swp (hostT (hostFigs n))) y = true := (host_n n).dm
theorem pl_eq (n : Int) (xs : List Str) (hG : ∀ x ∈ xs, Good x) : foundL (storedT [] 0 xs) (offeredT [] 0 xs) (addedT [] 0 xs) (way (hostT (hostFigs n))) = ((cloL (hostT (hostFigs n)) (0, []) 0 xs).2.getLast?, (cloL (hostT (hostFigs n)) (0, []) 0 xs).2.head?, (cloL (hostT (hostFigs n)) (0, []) 0 xs).2) := by
  have H := host_n n
  rw [found_trip, clo_all H.fall H.pos (fun r _ => H.hits r) hG]
theorem rowsP_len (p : Nat → Str → Bool) (xs : List Str) : ∀ n, (rowsP p xs n).length ≤ n
  | 0 => by simp [rowsP]
  | n + 1 => by
    have ih := rowsP_len p xs n
    rw [rowsP, List.length_append]
    split
    · split
      · simp only [List.length_singleton]; omega
      · simp only [List.length_nil]; omega
    · simp only [List.length_nil]; omega
end

section
theorem said : OpenLaw.wellSaid Challenge.rw_nb0266_01 = true := (congrFun PySem.W.Fast.te9446332074065402090 _).trans (by kernel_rfl)
theorem names_ok : namesOk vw (looseW vw lo5) (namesW vw lo5) = true := (congrFun (congrFun (congrFun PySem.W.Fast.te17448422675489707002 _) _) _).trans (by kernel_rfl)
theorem none_in : importsNone vw = true := (congrFun PySem.W.Fast.te2458874890965802552 _).trans (by kernel_rfl)
theorem hd {d : DefRec} {kwd : List (Str × Expr)} (e1 : defOf vw Challenge.rw_nb0266_01.row.toRowW.name = some (d, kwd)) (e2 : Challenge.rw_nb0266_01.row.toRowW.prog.theDef Challenge.rw_nb0266_01.row.toRowW.name = some (d.params, d.body, d.scope)) (e3 : kwWritten? d.params.kwonlyargs d.params.kw_defaults = some kwd)
    (walk : WalkO vw lo5 (XL vw []) (Hook.says (kHook kf kas kf_as)) Challenge.rw_nb0266_01.row.toRowW d kwd fun f vs => PySem.call f vs) : Challenge.rw_nb0266_01.Holds := by
  w_on
  refine holds_law said fun said' => ?_
  refine PySem.W.holds_open (q := vw) (loose := lo5) (Xt := fun s => xlAt vw [] s && recOk (RowW.records Challenge.rw_nb0266_01.row.toRowW) s) (XP := XL vw []) (Yf := Hook.obs (kHook kf kas kf_as)) (Ya := Hook.val (kHook kf kas kf_as)) (YP := Hook.says (kHook kf kas kf_as)) (N := 3242) left (Hook.of (kHook kf kas kf_as)) (Hook.keeps (kHook kf kas kf_as)) (fun s e => xl_of s (Bool.and_eq_true_iff.mp e).1) XL.keeps e1 e2 e3 (fun s e => recFacts_of (Bool.and_eq_true_iff.mp e).2) (by rfl) (by first | assumption | decide +kernel) (by decide +kernel) ⟨rfl, rfl, rfl, rfl, rfl, by decide +kernel⟩ ?hw walk
  case hw => w_witness2
end

local macro_rules | `(tactic| walk_at "pad 3") => `(tactic| skip)

section
local macro_rules | `(tactic| walk_at "call ref") => `(tactic| (k_here; (with_reducible show wpAny _ _ (call (Value.ref 281) _) _ _ _); refine stop_here ?_))
local macro_rules | `(tactic| walk_at "call ref") => `(tactic| (k_here; (with_reducible show wpAny _ _ (call (Value.ref 238) _) _ _ _); refine stop_here ?_))
local macro_rules | `(tactic| walk_at "call ref") => `(tactic| (k_here; (with_reducible show wpAny _ _ (call (Value.ref 245) _) _ _ _); refine stop_here ?_))
local macro_rules | `(tactic| walk_at "call ref") => `(tactic| (k_here; (with_reducible show wpAny _ _ (call (Value.ref 276) _) _ _ _); refine stop_here ?_))
local macro_rules | `(tactic| walk_at "call ref") => `(tactic| (k_here; (with_reducible show wpAny _ _ (call (Value.ref 231) _) _ _ _); refine stop_here ?_))
local macro_rules | `(tactic| walk_at "call ref") => `(tactic| (k_here; (with_reducible show wpAny _ _ (call (Value.ref 250) _) _ _ _); refine stop_here ?_))
local macro_rules | `(tactic| k_qdec) => `(tactic| first | exact names_ok | exact none_in)
local macro_rules | `(tactic| walk_at "compareOp Eq ref ref") => `(tactic| (k_here; refine stop_here ?_))
section
variable {w : World} {mean : ExcName → Option Value} {mg mb : Str → Option Value} {dp un : Nat} {gd : Option (List Code)} {cn : Str} {cs : Scope} {a : Addr} {ccd : Value} {cl : List (Str × Addr)} {outer : List Env} {A₀ : Around} {base h₀ : Heap} {L : Addr} {m : Str → Option Value} {s : Shared} {Q E : Value → Shared → Prop} {news : List (Addr × Obj)} {x y : Str} {tk tk2 : Tok}
theorem fin : Challenge.rw_nb0266_01.Holds := by
  refine hd rfl rfl rfl ?_
  w_strict (k_go0; (all_goals try k_fold))
  rename_i wT wR hcT hcR N00 X00
  with_reducible rename Below _ _ _ _ => K0
  dsimp only [Top.heap] at K0
  with_reducible rename IntsAre _ _ => hI
  with_reducible rename Heap.IsList _ _ _ => hL
  k_steps
  refine stop_go ?_
  k_dflt (refine' c_numbers ?B ?F ?X ?N ?T ?hk hL hI (by omega) ?hd ?hu ?_; (case B => k_asm); (case F => k_asm); (case X => k_asm); (case N => k_asm); (case T => k_asm); (case hk => first | exact rfl | assumption); (case hd => ktr_room); (case hu => ktr_units))
  intro DN us ms kN h1 tk1 F1 N1 o1 hM hm6 hmr
  dsimp only
  k_steps
  refine compU_ro (fun i ys => ∃ xs, TxtsAre ys xs ∧ (∀ x ∈ xs, Good x) ∧ xs.length = i) ⟨[], trivial, (by intro _ h; cases h), rfl⟩ ?_ ?_
  · rintro k ys hi' ⟨xs, hx, hG, hxl⟩ v I oI C oC D m₂ h tk E' hP hC hx2 F1 N1 off ne
    obtain ⟨i, t, rfl, hk'⟩ := hM.at k v (by simpa using hP)
    have hr := hmr i (List.mem_of_getElem? hk')
    k_steps
    refine stop_go ?_
    k_dflt (refine' c_rule ?B ?F ?X ?N ?T ?hk hr.1 hr.2 ?hd ?hu ?_; (case B => k_asm); (case F => k_asm); (case X => k_asm); (case N => k_asm); (case T => k_asm); (case hk => first | exact rfl | assumption); (case hd => ktr_room); (case hu => ktr_units))
    intro r2 t2 h2 tk2 G2 F2 N2
    (try dsimp only)
    k_steps
    refine ⟨_, _, _, rfl, by k_asm, by k_asm, off, .inr ⟨_, .head _, rfl, _, rfl⟩, rfl, xs ++ [r2], hx.snoc _ _, fun z hz => ?_, by simp [hxl]⟩
    rcases List.mem_append.mp hz with hz | hz
    · exact hG z hz
    · rw [List.mem_singleton.mp hz]; exact G2
  · rintro ys ⟨xs, hx, hG, hxl⟩ D h tk F1 N1 off
    have hn6 : xs.length ≤ 6 := by rw [hxl, List.size_toArray, hM.length]; exact hm6
    have p1 := neN off.1
    have p2 := neN off.2.1
    have p3 := neN off.2.2.1
    have p4 := neN (Ne.symm off.1)
    have p5 := neN (Ne.symm off.2.1)
    have p6 := neN (Ne.symm off.2.2.1)
    have p7 := neN (o1 _ (.head _))
    have p8 := neN (o1 _ (.tail _ (.head _)))
    have p9 := neN (Ne.symm (o1 _ (.head _)))
    have p0 := neN (Ne.symm (o1 _ (.tail _ (.head _))))
    (try dsimp only)
    k_steps
    refine stop_go ?_
    k_dflt (refine' c_tables ?B ?F ?X ?N ?T ?hk (.head _) hx hG hn6 ?hd ?hu ?_; (case B => k_asm); (case F => k_asm); (case X => k_asm); (case N => k_asm); (case T => k_asm); (case hk => first | exact rfl | assumption); (case hd => ktr_room); (case hu => ktr_units))
    intro tp ts lo1 la ls to' ta nw n' h2 tk2 F2 N2 hsub htp T1 T2 T3
    have hc2 := cons_of N2
    have mC := hsub _ (.tail _ (.tail _ (.head _)))
    have mD := mem_offcell hc2 mC hcT (hsub _ (.head _)) (by intro v; simp)
    have mN := mem_offcell hc2 mC hcT (hsub _ (.tail _ (.head _))) (by intro v; simp)
    have mR := mem_off1 mC (hsub _ (.tail _ (.tail _ (.tail _ (.head _))))) (Nat.lt_succ_self _)
    have mT := mem_offcell hc2 mC hcT htp (by intro v; simp)
    replace T1 := T1.offcell hc2 mC hcT
    replace T2 := T2.offcell hc2 mC hcT
    replace T3 := T3.offcell hc2 mC hcT
    have N3 := news_off N2 mC
    have offc := off_of mC
    clear N2 hc2 mC hsub htp
    (try dsimp only)
    k_steps
    have q1 : (storedT [] 0 xs).length ≤ 90 := by rw [pl_kept1]; exact Nat.le_trans (rowsP_len _ _ _) (by omega)
    have q2 : (offeredT [] 0 xs).length ≤ 90 := by rw [pl_kept2]; exact Nat.le_trans (rowsP_len _ _ _) (by omega)
    have q3 : (addedT [] 0 xs).length ≤ 90 := by rw [pl_kept3]; exact Nat.le_trans (rowsP_len _ _ _) (by omega)
    refine compU_ro (fun i zs => zs = trues i) rfl ?_ ?_
    · rintro k zs hi' rfl v I oI C oC D9 m₂ h tk E' hP hC hx2 F9 N9 off9 ne
      obtain ⟨i, t, rfl, hk'⟩ := hM.at k v (by simpa using hP)
      have hr := hmr i (List.mem_of_getElem? hk')
      k_steps
      refine stop_go ?_
      k_dflt (refine' c_host ?B ?F ?X ?N ?T ?hk hr.1 hr.2 ?hd ?hu ?_; (case B => k_asm); (case F => k_asm); (case X => k_asm); (case N => k_asm); (case T => k_asm); (case hk => first | exact rfl | assumption); (case hd => ktr_room); (case hu => ktr_units))
      intro t5 h5 tk5 G5 l5 F5 N5
      (try dsimp only)
      k_steps
      refine stop_go ?_
      k_dflt (refine' c_right ?B ?F ?X ?N ?T ?hk G5 (.tail _ (.tail _ (.tail _ (.tail _ mD)))) hx hG hn6 (.tail _ (.tail _ (.tail _ (.tail _ mT)))) (T1.mono fun _ h => .tail _ (.tail _ (.tail _ (.tail _ h)))) (T2.mono fun _ h => .tail _ (.tail _ (.tail _ (.tail _ h)))) (T3.mono fun _ h => .tail _ (.tail _ (.tail _ (.tail _ h)))) q1 q2 q3 (pl_same2 xs) (pl_same3 xs) (pl_way i) (pl_dm i) (pl_eq i xs hG) ?hd ?hu ?_; (case B => k_asm); (case F => k_asm); (case X => k_asm); (case N => k_asm); (case T => k_asm); (case hk => first | exact rfl | assumption); (case hd => ktr_room); (case hu => ktr_units))
      intro t6 h6 tk6 F6 N6
      (try dsimp only)
      k_steps
      refine ⟨_, _, _, rfl, by k_asm, by k_asm, off9, .inr ⟨_, .tail _ mN, rfl, _, rfl⟩, rfl, trues_snoc k⟩
    · rintro zs rfl D9 h tk F9 N9 off9
      have hus := hM.length
      (try dsimp only)
      k_steps
      k_dflt (refine' LCg.CompSrc.ledger ?k1 ?k2 ?k3 ?k4 ?k5 ?_; (case k1 => exact rfl); (case k2 => k_asm); (case k3 => k_asm); (case k4 => exact .head _); (case k5 => (simp only [List.size_toArray, trues, List.length_replicate, PySem.sizeLine_eq]; omega)))
      intro g8
      refine compU_ro (fun i zs => zs = trues i) rfl ?_ ?_
      · rintro k zs hi' rfl v I oI C oC D8 m₂ h tk E' hP hC hx2 F8 N8 off8 ne
        k_steps
        exact ⟨_, _, _, rfl, by k_asm, by k_asm, off8, .inr ⟨_, .head _, rfl, _, rfl⟩, rfl, trues_snoc k⟩
      · rintro zs rfl D8 h tk F8 N8 off8
        have e8 : (trues us.toArray.size).toArray.size = us.toArray.size := by simp [trues]
        rw [e8] at N8
        (try dsimp only)
        k_steps
        refine stop_go ?_
        k_dflt (refine' trues_eq N8 (.tail _ (.head _)) (.head _) ?hu ?_; (case hu => ktr_units))
        (try dsimp only)
        k_steps
        refine stop_go ?_
        k_dflt (refine' c_kept ?B ?F ?X ?N ?T ?hk (.tail _ (.tail _ (.tail _ mD))) hx hG hn6 (.tail _ (.tail _ (.tail _ mT))) (T1.mono fun _ h => .tail _ (.tail _ (.tail _ h))) (T2.mono fun _ h => .tail _ (.tail _ (.tail _ h))) (T3.mono fun _ h => .tail _ (.tail _ (.tail _ h))) q1 q2 q3 (pl_kept1 xs) (pl_kept2 xs) (pl_kept3 xs) ?hd ?hu ?_; (case B => k_asm); (case F => k_asm); (case X => k_asm); (case N => k_asm); (case T => k_asm); (case hk => first | exact rfl | assumption); (case hd => ktr_room); (case hu => ktr_units))
        intro t7 h7 tk7 F7 N7
        (try dsimp only)
        k_steps
end
end

end
end Mine
theorem PySem.Challenge.cw_nb0266_01_holds : PySem.Challenge.rw_nb0266_01.Holds :=
  Mine.fin
