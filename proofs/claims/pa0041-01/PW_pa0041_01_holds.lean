import PyProof.Rows.All
import Wide.All
import OpenK.AllK
import Wide.FinOn
import PySem.Challenge.RW_pa0041_01
open PySem PySem.W PyProof.Rows PySem.Calls
set_option Elab.async false
set_option maxRecDepth 100000
set_option compiler.extract_closed false
namespace Mine
noncomputable section
/- Head0 -/
/-- a def of the program's text, by its number: its parts are met by unification -/
def pickDef (i : Nat) {n : Str} {a : Arguments} {b : List Stmt} {ds : List PySem.Expr} {r : Option PySem.Expr} {tp : List TypeParam} {s : Scope} {ts : Option Scope} {bd : Str} {ps : Pos} (_ : Challenge.pw_pa0041_01.main.body[i]? = some (.FunctionDef n a b ds r tp s ts bd ps)) : Obj := { cls := Value.none, data := Data.dict #[] }
def pickAll (_ : List (List Stmt)) : Program := Challenge.pw_pa0041_01
def pickSt (i : Nat) {s : Stmt} (_ : Challenge.pw_pa0041_01.main.body[i]? = some s) : List Stmt := []
set_option maxHeartbeats 8000000 in
/-- the objects that the walk knows -/
noncomputable def heapK : Params → Frag := fun P =>
  (nat_lit 2, { cls := Value.none, data := Data.dict #[] }) ::
  (nat_lit 3, { cls := Value.type "dict", data := Data.dict #[{ hash := PyData.keyHash P (Str.ofString "__name__"), key := Value.str (Str.ofString "__name__") 165, val := Value.str (Str.ofString "law_pa0041_01") 344 }, { hash := PyData.keyHash P (Str.ofString "__doc__"), key := Value.str (Str.ofString "__doc__") 166, val := Value.none }, { hash := PyData.keyHash P (Str.ofString "__package__"), key := Value.str (Str.ofString "__package__") 167, val := Value.none }, { hash := PyData.keyHash P (Str.ofString "__loader__"), key := Value.str (Str.ofString "__loader__") 168, val := Value.builtin "__main__.__loader__#opa\x71ue" }, { hash := PyData.keyHash P (Str.ofString "__spec__"), key := Value.str (Str.ofString "__spec__") 169, val := Value.none }, { hash := PyData.keyHash P (Str.ofString "__annotations__"), key := Value.str (Str.ofString "__annotations__") 170, val := Value.ref 6 }, { hash := PyData.keyHash P (Str.ofString "__builtins__"), key := Value.str (Str.ofString "__builtins__") 171, val := Value.ref 4 }, { hash := PyData.keyHash P (Str.ofString "__file__"), key := Value.str (Str.ofString "__file__") 173, val := Value.str (Str.ofString "/claim/cut.py") 172 }, { hash := PyData.keyHash P (Str.ofString "__cached__"), key := Value.str (Str.ofString "__cached__") 174, val := Value.none }, { hash := PyData.keyHash P (Str.ofString "_wall"), key := Value.str (Str.ofString "_wall") 193, val := Value.ref 21 }, { hash := PyData.keyHash P (Str.ofString "bytes_types"), key := Value.str (Str.ofString "bytes_types") 196, val := Value.ref 22 }, { hash := PyData.keyHash P (Str.ofString "_bytes_from_decode_data"), key := Value.str (Str.ofString "_bytes_from_decode_data") 203, val := Value.ref 29 }, { hash := PyData.keyHash P (Str.ofString "Error"), key := Value.str (Str.ofString "Error") 223, val := Value.ref 39 }, { hash := PyData.keyHash P (Str.ofString "_ascii_buffer"), key := Value.str (Str.ofString "_ascii_buffer") 231, val := Value.ref 49 }, { hash := PyData.keyHash P (Str.ofString "_buffer"), key := Value.str (Str.ofString "_buffer") 239, val := Value.ref 56 }, { hash := PyData.keyHash P (Str.ofString "_truth"), key := Value.str (Str.ofString "_truth") 247, val := Value.ref 63 }, { hash := PyData.keyHash P (Str.ofString "_B64"), key := Value.str (Str.ofString "_B64") 249, val := Value.bytes #[65, 66, 67, 68, 69, 70, 71, 72, 73, 74, 75, 76, 77, 78, 79, 80, 81, 82, 83, 84, 85, 86, 87, 88, 89, 90, 97, 98, 99, 100, 101, 102, 103, 104, 105, 106, 107, 108, 109, 110, 111, 112, 113, 114, 115, 116, 117, 118, 119, 120, 121, 122, 48, 49, 50, 51, 52, 53, 54, 55, 56, 57, 43, 47] 248 }, { hash := PyData.keyHash P (Str.ofString "_b64_value"), key := Value.str (Str.ofString "_b64_value") 256, val := Value.ref 70 }, { hash := PyData.keyHash P (Str.ofString "a2b_base64"), key := Value.str (Str.ofString "a2b_base64") 272, val := Value.ref 78 }, { hash := PyData.keyHash P (Str.ofString "b2a_base64"), key := Value.str (Str.ofString "b2a_base64") 286, val := Value.ref 86 }, { hash := PyData.keyHash P (Str.ofString "b64encode"), key := Value.str (Str.ofString "b64encode") 297, val := Value.ref 94 }, { hash := PyData.keyHash P (Str.ofString "b64decode"), key := Value.str (Str.ofString "b64decode") 306, val := Value.ref 102 }, { hash := PyData.keyHash P (Str.ofString "_raise_serialization_error"), key := Value.str (Str.ofString "_raise_serialization_error") 315, val := Value.ref 109 }, { hash := PyData.keyHash P (Str.ofString "_escape_cdata"), key := Value.str (Str.ofString "_escape_cdata") 322, val := Value.ref 116 }, { hash := PyData.keyHash P (Str.ofString "_escape_attrib"), key := Value.str (Str.ofString "_escape_attrib") 329, val := Value.ref 123 }, { hash := PyData.keyHash P (Str.ofString "_escape_cdata_c14n"), key := Value.str (Str.ofString "_escape_cdata_c14n") 336, val := Value.ref 130 }, { hash := PyData.keyHash P (Str.ofString "_escape_attrib_c14n"), key := Value.str (Str.ofString "_escape_attrib_c14n") 343, val := Value.ref 137 }, { hash := PyData.keyHash P (Str.ofString "_law_escaped"), key := Value.str (Str.ofString "_law_escaped") 353, val := Value.ref 144 }, { hash := PyData.keyHash P (Str.ofString "_law_passed"), key := Value.str (Str.ofString "_law_passed") 359, val := Value.ref 149 }, { hash := PyData.keyHash P (Str.ofString "_law_run"), key := Value.str (Str.ofString "_law_run") 370, val := Value.ref 156 }, { hash := PyData.keyHash P (Str.ofString "_law_insertion"), key := Value.str (Str.ofString "_law_insertion") 383, val := Value.ref 163 }, { hash := PyData.keyHash P (Str.ofString "_law_plan"), key := Value.str (Str.ofString "_law_plan") 389, val := Value.ref 168 }, { hash := PyData.keyHash P (Str.ofString "_law_closed"), key := Value.str (Str.ofString "_law_closed") 397, val := Value.ref 175 }, { hash := PyData.keyHash P (Str.ofString "_law_become"), key := Value.str (Str.ofString "_law_become") 412, val := Value.ref 182 }, { hash := PyData.keyHash P (Str.ofString "_law_octets"), key := Value.str (Str.ofString "_law_octets") 423, val := Value.ref 189 }, { hash := PyData.keyHash P (Str.ofString "law"), key := Value.str (Str.ofString "law") 429, val := Value.ref 194 }] 36 }) ::
  (nat_lit 15, { cls := Value.type "tuple", data := Data.seq #[] }) ::
  (nat_lit 17, { cls := Value.type "tuple", data := Data.seq #[Value.str (Str.ofString "k") 190] }) ::
  (nat_lit 18, { cls := Value.type "tuple", data := Data.seq #[] }) ::
  (nat_lit 20, { cls := Value.type "code", data := Data.fields #[Value.str (Str.ofString "_wall") 187, Value.str (Str.ofString "_wall") 188, Value.str (Str.ofString "/claim/cut.py") 189, Value.int 1 0, Value.int 1 0, Value.int 0 0, Value.int 0 0, Value.int 3 0, Value.ref 15, Value.bool true, Value.int 181 0, Value.ref 16, Value.none, Value.ref 17, Value.ref 18, Value.ref 19, Value.int 191 0, Value.int 1 0, Value.str (Str.ofString "/claim/cut.py") 192] }) ::
  (nat_lit 21, (let_mvar% ?n21 := (_ : Str); let_mvar% ?a21 := (_ : Arguments); let_mvar% ?b21 := (_ : List Stmt); let_mvar% ?s21 := (_ : Scope); ({ cls := Value.type "function", data := Data.func { name := ?n21, qualname := Str.ofString "_wall", params := ?a21, body := FuncBody.stmts ?b21, scope := ?s21, globals := 3, closure := [], defaults := Value.none, kwdefaults := Value.none, pyModule := Value.str (Str.ofString "__main__") 164, code := Value.ref 20 } } : type_of% (pickDef 0 (n := ?n21) (a := ?a21) (b := ?b21) (s := ?s21) rfl)))) ::
  (nat_lit 22, { cls := Value.type "tuple", data := Data.seq #[Value.type "bytes", Value.type "bytearray"] }) ::
  (nat_lit 23, { cls := Value.type "tuple", data := Data.seq #[] }) ::
  (nat_lit 25, { cls := Value.type "tuple", data := Data.seq #[Value.str (Str.ofString "s") 200] }) ::
  (nat_lit 26, { cls := Value.type "tuple", data := Data.seq #[] }) ::
  (nat_lit 28, { cls := Value.type "code", data := Data.fields #[Value.str (Str.ofString "_bytes_from_decode_data") 197, Value.str (Str.ofString "_bytes_from_decode_data") 198, Value.str (Str.ofString "/claim/cut.py") 199, Value.int 6 0, Value.int 1 0, Value.int 0 0, Value.int 0 0, Value.int 3 0, Value.ref 23, Value.bool true, Value.int 181 0, Value.ref 24, Value.none, Value.ref 25, Value.ref 26, Value.ref 27, Value.int 201 0, Value.int 6 0, Value.str (Str.ofString "/claim/cut.py") 202] }) ::
  (nat_lit 29, (let_mvar% ?n29 := (_ : Str); let_mvar% ?a29 := (_ : Arguments); let_mvar% ?b29 := (_ : List Stmt); let_mvar% ?s29 := (_ : Scope); ({ cls := Value.type "function", data := Data.func { name := ?n29, qualname := Str.ofString "_bytes_from_decode_data", params := ?a29, body := FuncBody.stmts ?b29, scope := ?s29, globals := 3, closure := [], defaults := Value.none, kwdefaults := Value.none, pyModule := Value.str (Str.ofString "cpy313.base64") 194, code := Value.ref 28 } } : type_of% (pickDef 3 (n := ?n29) (a := ?a29) (b := ?b29) (s := ?s29) rfl)))) ::
  (nat_lit 30, { cls := Value.type "tuple", data := Data.seq #[Value.type "ValueError"] }) ::
  (nat_lit 37, { cls := Value.type "tuple", data := Data.seq #[] }) ::
  (nat_lit 38, { cls := Value.type "dict", data := Data.dict #[{ hash := PyData.keyHash P (Str.ofString "__module__"), key := Value.str (Str.ofString "__module__") 213, val := Value.str (Str.ofString "binascii") 204 }, { hash := PyData.keyHash P (Str.ofString "__firstlineno__"), key := Value.str (Str.ofString "__firstlineno__") 217, val := Value.int 19 216 }, { hash := PyData.keyHash P (Str.ofString "__static_attributes__"), key := Value.str (Str.ofString "__static_attributes__") 218, val := Value.ref 37 }, { hash := PyData.keyHash P (Str.ofString "__weakref__"), key := Value.str (Str.ofString "__weakref__") 220, val := Value.ref 40 }, { hash := PyData.keyHash P (Str.ofString "__doc__"), key := Value.str (Str.ofString "__doc__") 221, val := Value.none }] 3 }) ::
  (nat_lit 39, { cls := Value.type "type", data := Data.cls { name := Str.ofString "Error", bases := [Value.type "ValueError"], mro := [Value.ref 39, Value.type "ValueError", Value.type "Exception", Value.type "BaseException", Value.type "object"], ns := 38, qualname := Str.ofString "Error" }, slots := #[some (Value.ref 30), none, some (Value.str (Str.ofString "Error") 206), some (Value.str (Str.ofString "Error") 214), some (Value.builtin "ValueError.__new__"), some (Value.bool true)] }) ::
  (nat_lit 40, { cls := Value.type "getset_descriptor", data := Data.fields #[Value.str (Str.ofString "__weakref__") 219, Value.ref 39, Value.builtin "ExceptionGroup.__weakref__", Value.none] }) ::
  (nat_lit 43, { cls := Value.type "tuple", data := Data.seq #[] }) ::
  (nat_lit 45, { cls := Value.type "tuple", data := Data.seq #[Value.str (Str.ofString "data") 227, Value.str (Str.ofString "t") 228] }) ::
  (nat_lit 46, { cls := Value.type "tuple", data := Data.seq #[] }) ::
  (nat_lit 48, { cls := Value.type "code", data := Data.fields #[Value.str (Str.ofString "_ascii_buffer") 224, Value.str (Str.ofString "_ascii_buffer") 225, Value.str (Str.ofString "/claim/cut.py") 226, Value.int 21 0, Value.int 1 0, Value.int 0 0, Value.int 0 0, Value.int 3 0, Value.ref 43, Value.bool true, Value.int 181 0, Value.ref 44, Value.none, Value.ref 45, Value.ref 46, Value.ref 47, Value.int 229 0, Value.int 21 0, Value.str (Str.ofString "/claim/cut.py") 230] }) ::
  (nat_lit 49, (let_mvar% ?n49 := (_ : Str); let_mvar% ?a49 := (_ : Arguments); let_mvar% ?b49 := (_ : List Stmt); let_mvar% ?s49 := (_ : Scope); ({ cls := Value.type "function", data := Data.func { name := ?n49, qualname := Str.ofString "_ascii_buffer", params := ?a49, body := FuncBody.stmts ?b49, scope := ?s49, globals := 3, closure := [], defaults := Value.none, kwdefaults := Value.none, pyModule := Value.str (Str.ofString "binascii") 204, code := Value.ref 48 } } : type_of% (pickDef 6 (n := ?n49) (a := ?a49) (b := ?b49) (s := ?s49) rfl)))) ::
  (nat_lit 50, { cls := Value.type "tuple", data := Data.seq #[] }) ::
  (nat_lit 52, { cls := Value.type "tuple", data := Data.seq #[Value.str (Str.ofString "data") 235, Value.str (Str.ofString "t") 236] }) ::
  (nat_lit 53, { cls := Value.type "tuple", data := Data.seq #[] }) ::
  (nat_lit 55, { cls := Value.type "code", data := Data.fields #[Value.str (Str.ofString "_buffer") 232, Value.str (Str.ofString "_buffer") 233, Value.str (Str.ofString "/claim/cut.py") 234, Value.int 32 0, Value.int 1 0, Value.int 0 0, Value.int 0 0, Value.int 3 0, Value.ref 50, Value.bool true, Value.int 181 0, Value.ref 51, Value.none, Value.ref 52, Value.ref 53, Value.ref 54, Value.int 237 0, Value.int 32 0, Value.str (Str.ofString "/claim/cut.py") 238] }) ::
  (nat_lit 56, (let_mvar% ?n56 := (_ : Str); let_mvar% ?a56 := (_ : Arguments); let_mvar% ?b56 := (_ : List Stmt); let_mvar% ?s56 := (_ : Scope); ({ cls := Value.type "function", data := Data.func { name := ?n56, qualname := Str.ofString "_buffer", params := ?a56, body := FuncBody.stmts ?b56, scope := ?s56, globals := 3, closure := [], defaults := Value.none, kwdefaults := Value.none, pyModule := Value.str (Str.ofString "binascii") 204, code := Value.ref 55 } } : type_of% (pickDef 7 (n := ?n56) (a := ?a56) (b := ?b56) (s := ?s56) rfl)))) ::
  (nat_lit 57, { cls := Value.type "tuple", data := Data.seq #[] }) ::
  (nat_lit 59, { cls := Value.type "tuple", data := Data.seq #[Value.str (Str.ofString "x") 243, Value.str (Str.ofString "t") 244] }) ::
  (nat_lit 60, { cls := Value.type "tuple", data := Data.seq #[] }) ::
  (nat_lit 62, { cls := Value.type "code", data := Data.fields #[Value.str (Str.ofString "_truth") 240, Value.str (Str.ofString "_truth") 241, Value.str (Str.ofString "/claim/cut.py") 242, Value.int 39 0, Value.int 1 0, Value.int 0 0, Value.int 0 0, Value.int 3 0, Value.ref 57, Value.bool true, Value.int 181 0, Value.ref 58, Value.none, Value.ref 59, Value.ref 60, Value.ref 61, Value.int 245 0, Value.int 39 0, Value.str (Str.ofString "/claim/cut.py") 246] }) ::
  (nat_lit 63, (let_mvar% ?n63 := (_ : Str); let_mvar% ?a63 := (_ : Arguments); let_mvar% ?b63 := (_ : List Stmt); let_mvar% ?s63 := (_ : Scope); ({ cls := Value.type "function", data := Data.func { name := ?n63, qualname := Str.ofString "_truth", params := ?a63, body := FuncBody.stmts ?b63, scope := ?s63, globals := 3, closure := [], defaults := Value.none, kwdefaults := Value.none, pyModule := Value.str (Str.ofString "binascii") 204, code := Value.ref 62 } } : type_of% (pickDef 8 (n := ?n63) (a := ?a63) (b := ?b63) (s := ?s63) rfl)))) ::
  (nat_lit 64, { cls := Value.type "tuple", data := Data.seq #[] }) ::
  (nat_lit 66, { cls := Value.type "tuple", data := Data.seq #[Value.str (Str.ofString "c") 253] }) ::
  (nat_lit 67, { cls := Value.type "tuple", data := Data.seq #[] }) ::
  (nat_lit 69, { cls := Value.type "code", data := Data.fields #[Value.str (Str.ofString "_b64_value") 250, Value.str (Str.ofString "_b64_value") 251, Value.str (Str.ofString "/claim/cut.py") 252, Value.int 45 0, Value.int 1 0, Value.int 0 0, Value.int 0 0, Value.int 3 0, Value.ref 64, Value.bool true, Value.int 181 0, Value.ref 65, Value.none, Value.ref 66, Value.ref 67, Value.ref 68, Value.int 254 0, Value.int 45 0, Value.str (Str.ofString "/claim/cut.py") 255] }) ::
  (nat_lit 70, (let_mvar% ?n70 := (_ : Str); let_mvar% ?a70 := (_ : Arguments); let_mvar% ?b70 := (_ : List Stmt); let_mvar% ?s70 := (_ : Scope); ({ cls := Value.type "function", data := Data.func { name := ?n70, qualname := Str.ofString "_b64_value", params := ?a70, body := FuncBody.stmts ?b70, scope := ?s70, globals := 3, closure := [], defaults := Value.none, kwdefaults := Value.none, pyModule := Value.str (Str.ofString "binascii") 204, code := Value.ref 69 } } : type_of% (pickDef 10 (n := ?n70) (a := ?a70) (b := ?b70) (s := ?s70) rfl)))) ::
  (nat_lit 71, { cls := Value.type "dict", data := Data.dict #[{ hash := PyData.keyHash P (Str.ofString "strict_mode"), key := Value.str (Str.ofString "strict_mode") 257, val := Value.bool false }] 1 }) ::
  (nat_lit 72, { cls := Value.type "tuple", data := Data.seq #[] }) ::
  (nat_lit 74, { cls := Value.type "tuple", data := Data.seq #[Value.str (Str.ofString "data") 261, Value.str (Str.ofString "strict_mode") 262, Value.str (Str.ofString "ascii_data") 263, Value.str (Str.ofString "out") 264, Value.str (Str.ofString "quad_pos") 265, Value.str (Str.ofString "leftchar") 266, Value.str (Str.ofString "pads") 267, Value.str (Str.ofString "i") 268, Value.str (Str.ofString "this_ch") 269] }) ::
  (nat_lit 75, { cls := Value.type "tuple", data := Data.seq #[] }) ::
  (nat_lit 77, { cls := Value.type "code", data := Data.fields #[Value.str (Str.ofString "a2b_base64") 258, Value.str (Str.ofString "a2b_base64") 259, Value.str (Str.ofString "/claim/cut.py") 260, Value.int 57 0, Value.int 1 0, Value.int 1 0, Value.int 1 0, Value.int 3 0, Value.ref 72, Value.bool true, Value.int 181 0, Value.ref 73, Value.none, Value.ref 74, Value.ref 75, Value.ref 76, Value.int 270 0, Value.int 57 0, Value.str (Str.ofString "/claim/cut.py") 271] }) ::
  (nat_lit 78, (let_mvar% ?n78 := (_ : Str); let_mvar% ?a78 := (_ : Arguments); let_mvar% ?b78 := (_ : List Stmt); let_mvar% ?s78 := (_ : Scope); ({ cls := Value.type "function", data := Data.func { name := ?n78, qualname := Str.ofString "a2b_base64", params := ?a78, body := FuncBody.stmts ?b78, scope := ?s78, globals := 3, closure := [], defaults := Value.none, kwdefaults := Value.ref 71, pyModule := Value.str (Str.ofString "binascii") 204, code := Value.ref 77 } } : type_of% (pickDef 11 (n := ?n78) (a := ?a78) (b := ?b78) (s := ?s78) rfl)))) ::
  (nat_lit 79, { cls := Value.type "dict", data := Data.dict #[{ hash := PyData.keyHash P (Str.ofString "newline"), key := Value.str (Str.ofString "newline") 273, val := Value.bool true }] 1 }) ::
  (nat_lit 80, { cls := Value.type "tuple", data := Data.seq #[] }) ::
  (nat_lit 82, { cls := Value.type "tuple", data := Data.seq #[Value.str (Str.ofString "data") 277, Value.str (Str.ofString "newline") 278, Value.str (Str.ofString "bin_data") 279, Value.str (Str.ofString "out") 280, Value.str (Str.ofString "leftbits") 281, Value.str (Str.ofString "leftchar") 282, Value.str (Str.ofString "b") 283] }) ::
  (nat_lit 83, { cls := Value.type "tuple", data := Data.seq #[] }) ::
  (nat_lit 85, { cls := Value.type "code", data := Data.fields #[Value.str (Str.ofString "b2a_base64") 274, Value.str (Str.ofString "b2a_base64") 275, Value.str (Str.ofString "/claim/cut.py") 276, Value.int 111 0, Value.int 1 0, Value.int 1 0, Value.int 1 0, Value.int 3 0, Value.ref 80, Value.bool true, Value.int 181 0, Value.ref 81, Value.none, Value.ref 82, Value.ref 83, Value.ref 84, Value.int 284 0, Value.int 111 0, Value.str (Str.ofString "/claim/cut.py") 285] }) ::
  (nat_lit 86, (let_mvar% ?n86 := (_ : Str); let_mvar% ?a86 := (_ : Arguments); let_mvar% ?b86 := (_ : List Stmt); let_mvar% ?s86 := (_ : Scope); ({ cls := Value.type "function", data := Data.func { name := ?n86, qualname := Str.ofString "b2a_base64", params := ?a86, body := FuncBody.stmts ?b86, scope := ?s86, globals := 3, closure := [], defaults := Value.none, kwdefaults := Value.ref 79, pyModule := Value.str (Str.ofString "binascii") 204, code := Value.ref 85 } } : type_of% (pickDef 12 (n := ?n86) (a := ?a86) (b := ?b86) (s := ?s86) rfl)))) ::
  (nat_lit 87, { cls := Value.type "tuple", data := Data.seq #[Value.none] }) ::
  (nat_lit 88, { cls := Value.type "tuple", data := Data.seq #[] }) ::
  (nat_lit 90, { cls := Value.type "tuple", data := Data.seq #[Value.str (Str.ofString "s") 292, Value.str (Str.ofString "altchars") 293, Value.str (Str.ofString "encoded") 294] }) ::
  (nat_lit 91, { cls := Value.type "tuple", data := Data.seq #[] }) ::
  (nat_lit 93, { cls := Value.type "code", data := Data.fields #[Value.str (Str.ofString "b64encode") 289, Value.str (Str.ofString "b64encode") 290, Value.str (Str.ofString "/claim/cut.py") 291, Value.int 134 0, Value.int 2 0, Value.int 0 0, Value.int 0 0, Value.int 3 0, Value.ref 88, Value.bool true, Value.int 181 0, Value.ref 89, Value.none, Value.ref 90, Value.ref 91, Value.ref 92, Value.int 295 0, Value.int 134 0, Value.str (Str.ofString "/claim/cut.py") 296] }) ::
  (nat_lit 94, (let_mvar% ?n94 := (_ : Str); let_mvar% ?a94 := (_ : Arguments); let_mvar% ?b94 := (_ : List Stmt); let_mvar% ?s94 := (_ : Scope); ({ cls := Value.type "function", data := Data.func { name := ?n94, qualname := Str.ofString "b64encode", params := ?a94, body := FuncBody.stmts ?b94, scope := ?s94, globals := 3, closure := [], defaults := Value.ref 87, kwdefaults := Value.none, pyModule := Value.str (Str.ofString "cpy313.base64") 287, code := Value.ref 93 } } : type_of% (pickDef 14 (n := ?n94) (a := ?a94) (b := ?b94) (s := ?s94) rfl)))) ::
  (nat_lit 95, { cls := Value.type "tuple", data := Data.seq #[Value.none, Value.bool false] }) ::
  (nat_lit 96, { cls := Value.type "tuple", data := Data.seq #[] }) ::
  (nat_lit 98, { cls := Value.type "tuple", data := Data.seq #[Value.str (Str.ofString "s") 301, Value.str (Str.ofString "altchars") 302, Value.str (Str.ofString "validate") 303] }) ::
  (nat_lit 99, { cls := Value.type "tuple", data := Data.seq #[] }) ::
  (nat_lit 101, { cls := Value.type "code", data := Data.fields #[Value.str (Str.ofString "b64decode") 298, Value.str (Str.ofString "b64decode") 299, Value.str (Str.ofString "/claim/cut.py") 300, Value.int 140 0, Value.int 3 0, Value.int 0 0, Value.int 0 0, Value.int 3 0, Value.ref 96, Value.bool true, Value.int 181 0, Value.ref 97, Value.none, Value.ref 98, Value.ref 99, Value.ref 100, Value.int 304 0, Value.int 140 0, Value.str (Str.ofString "/claim/cut.py") 305] }) ::
  (nat_lit 102, (let_mvar% ?n102 := (_ : Str); let_mvar% ?a102 := (_ : Arguments); let_mvar% ?b102 := (_ : List Stmt); let_mvar% ?s102 := (_ : Scope); ({ cls := Value.type "function", data := Data.func { name := ?n102, qualname := Str.ofString "b64decode", params := ?a102, body := FuncBody.stmts ?b102, scope := ?s102, globals := 3, closure := [], defaults := Value.ref 95, kwdefaults := Value.none, pyModule := Value.str (Str.ofString "cpy313.base64") 287, code := Value.ref 101 } } : type_of% (pickDef 15 (n := ?n102) (a := ?a102) (b := ?b102) (s := ?s102) rfl)))) ::
  (nat_lit 103, { cls := Value.type "tuple", data := Data.seq #[] }) ::
  (nat_lit 105, { cls := Value.type "tuple", data := Data.seq #[Value.str (Str.ofString "text") 312] }) ::
  (nat_lit 106, { cls := Value.type "tuple", data := Data.seq #[] }) ::
  (nat_lit 108, { cls := Value.type "code", data := Data.fields #[Value.str (Str.ofString "_raise_serialization_error") 309, Value.str (Str.ofString "_raise_serialization_error") 310, Value.str (Str.ofString "/claim/cut.py") 311, Value.int 148 0, Value.int 1 0, Value.int 0 0, Value.int 0 0, Value.int 3 0, Value.ref 103, Value.bool true, Value.int 181 0, Value.ref 104, Value.none, Value.ref 105, Value.ref 106, Value.ref 107, Value.int 313 0, Value.int 148 0, Value.str (Str.ofString "/claim/cut.py") 314] }) ::
  (nat_lit 109, (let_mvar% ?n109 := (_ : Str); let_mvar% ?a109 := (_ : Arguments); let_mvar% ?b109 := (_ : List Stmt); let_mvar% ?s109 := (_ : Scope); ({ cls := Value.type "function", data := Data.func { name := ?n109, qualname := Str.ofString "_raise_serialization_error", params := ?a109, body := FuncBody.stmts ?b109, scope := ?s109, globals := 3, closure := [], defaults := Value.none, kwdefaults := Value.none, pyModule := Value.str (Str.ofString "cpy313.xml.etree.ElementTree") 307, code := Value.ref 108 } } : type_of% (pickDef 17 (n := ?n109) (a := ?a109) (b := ?b109) (s := ?s109) rfl)))) ::
  (nat_lit 110, { cls := Value.type "tuple", data := Data.seq #[] }) ::
  (nat_lit 112, { cls := Value.type "tuple", data := Data.seq #[Value.str (Str.ofString "text") 319] }) ::
  (nat_lit 113, { cls := Value.type "tuple", data := Data.seq #[] }) ::
  (nat_lit 115, { cls := Value.type "code", data := Data.fields #[Value.str (Str.ofString "_escape_cdata") 316, Value.str (Str.ofString "_escape_cdata") 317, Value.str (Str.ofString "/claim/cut.py") 318, Value.int 150 0, Value.int 1 0, Value.int 0 0, Value.int 0 0, Value.int 3 0, Value.ref 110, Value.bool true, Value.int 181 0, Value.ref 111, Value.none, Value.ref 112, Value.ref 113, Value.ref 114, Value.int 320 0, Value.int 150 0, Value.str (Str.ofString "/claim/cut.py") 321] }) ::
  (nat_lit 116, (let_mvar% ?n116 := (_ : Str); let_mvar% ?a116 := (_ : Arguments); let_mvar% ?b116 := (_ : List Stmt); let_mvar% ?s116 := (_ : Scope); ({ cls := Value.type "function", data := Data.func { name := ?n116, qualname := Str.ofString "_escape_cdata", params := ?a116, body := FuncBody.stmts ?b116, scope := ?s116, globals := 3, closure := [], defaults := Value.none, kwdefaults := Value.none, pyModule := Value.str (Str.ofString "cpy313.xml.etree.ElementTree") 307, code := Value.ref 115 } } : type_of% (pickDef 18 (n := ?n116) (a := ?a116) (b := ?b116) (s := ?s116) rfl)))) ::
  (nat_lit 117, { cls := Value.type "tuple", data := Data.seq #[] }) ::
  (nat_lit 119, { cls := Value.type "tuple", data := Data.seq #[Value.str (Str.ofString "text") 326] }) ::
  (nat_lit 120, { cls := Value.type "tuple", data := Data.seq #[] }) ::
  (nat_lit 122, { cls := Value.type "code", data := Data.fields #[Value.str (Str.ofString "_escape_attrib") 323, Value.str (Str.ofString "_escape_attrib") 324, Value.str (Str.ofString "/claim/cut.py") 325, Value.int 161 0, Value.int 1 0, Value.int 0 0, Value.int 0 0, Value.int 3 0, Value.ref 117, Value.bool true, Value.int 181 0, Value.ref 118, Value.none, Value.ref 119, Value.ref 120, Value.ref 121, Value.int 327 0, Value.int 161 0, Value.str (Str.ofString "/claim/cut.py") 328] }) ::
  (nat_lit 123, (let_mvar% ?n123 := (_ : Str); let_mvar% ?a123 := (_ : Arguments); let_mvar% ?b123 := (_ : List Stmt); let_mvar% ?s123 := (_ : Scope); ({ cls := Value.type "function", data := Data.func { name := ?n123, qualname := Str.ofString "_escape_attrib", params := ?a123, body := FuncBody.stmts ?b123, scope := ?s123, globals := 3, closure := [], defaults := Value.none, kwdefaults := Value.none, pyModule := Value.str (Str.ofString "cpy313.xml.etree.ElementTree") 307, code := Value.ref 122 } } : type_of% (pickDef 19 (n := ?n123) (a := ?a123) (b := ?b123) (s := ?s123) rfl)))) ::
  (nat_lit 124, { cls := Value.type "tuple", data := Data.seq #[] }) ::
  (nat_lit 126, { cls := Value.type "tuple", data := Data.seq #[Value.str (Str.ofString "text") 333] }) ::
  (nat_lit 127, { cls := Value.type "tuple", data := Data.seq #[] }) ::
  (nat_lit 129, { cls := Value.type "code", data := Data.fields #[Value.str (Str.ofString "_escape_cdata_c14n") 330, Value.str (Str.ofString "_escape_cdata_c14n") 331, Value.str (Str.ofString "/claim/cut.py") 332, Value.int 180 0, Value.int 1 0, Value.int 0 0, Value.int 0 0, Value.int 3 0, Value.ref 124, Value.bool true, Value.int 181 0, Value.ref 125, Value.none, Value.ref 126, Value.ref 127, Value.ref 128, Value.int 334 0, Value.int 180 0, Value.str (Str.ofString "/claim/cut.py") 335] }) ::
  (nat_lit 130, (let_mvar% ?n130 := (_ : Str); let_mvar% ?a130 := (_ : Arguments); let_mvar% ?b130 := (_ : List Stmt); let_mvar% ?s130 := (_ : Scope); ({ cls := Value.type "function", data := Data.func { name := ?n130, qualname := Str.ofString "_escape_cdata_c14n", params := ?a130, body := FuncBody.stmts ?b130, scope := ?s130, globals := 3, closure := [], defaults := Value.none, kwdefaults := Value.none, pyModule := Value.str (Str.ofString "cpy313.xml.etree.ElementTree") 307, code := Value.ref 129 } } : type_of% (pickDef 20 (n := ?n130) (a := ?a130) (b := ?b130) (s := ?s130) rfl)))) ::
  (nat_lit 131, { cls := Value.type "tuple", data := Data.seq #[] }) ::
  (nat_lit 133, { cls := Value.type "tuple", data := Data.seq #[Value.str (Str.ofString "text") 340] }) ::
  (nat_lit 134, { cls := Value.type "tuple", data := Data.seq #[] }) ::
  (nat_lit 136, { cls := Value.type "code", data := Data.fields #[Value.str (Str.ofString "_escape_attrib_c14n") 337, Value.str (Str.ofString "_escape_attrib_c14n") 338, Value.str (Str.ofString "/claim/cut.py") 339, Value.int 193 0, Value.int 1 0, Value.int 0 0, Value.int 0 0, Value.int 3 0, Value.ref 131, Value.bool true, Value.int 181 0, Value.ref 132, Value.none, Value.ref 133, Value.ref 134, Value.ref 135, Value.int 341 0, Value.int 193 0, Value.str (Str.ofString "/claim/cut.py") 342] }) ::
  (nat_lit 137, (let_mvar% ?n137 := (_ : Str); let_mvar% ?a137 := (_ : Arguments); let_mvar% ?b137 := (_ : List Stmt); let_mvar% ?s137 := (_ : Scope); ({ cls := Value.type "function", data := Data.func { name := ?n137, qualname := Str.ofString "_escape_attrib_c14n", params := ?a137, body := FuncBody.stmts ?b137, scope := ?s137, globals := 3, closure := [], defaults := Value.none, kwdefaults := Value.none, pyModule := Value.str (Str.ofString "cpy313.xml.etree.ElementTree") 307, code := Value.ref 136 } } : type_of% (pickDef 21 (n := ?n137) (a := ?a137) (b := ?b137) (s := ?s137) rfl)))) ::
  (nat_lit 138, { cls := Value.type "tuple", data := Data.seq #[] }) ::
  (nat_lit 140, { cls := Value.type "tuple", data := Data.seq #[Value.str (Str.ofString "way") 349, Value.str (Str.ofString "text") 350] }) ::
  (nat_lit 141, { cls := Value.type "tuple", data := Data.seq #[] }) ::
  (nat_lit 143, { cls := Value.type "code", data := Data.fields #[Value.str (Str.ofString "_law_escaped") 346, Value.str (Str.ofString "_law_escaped") 347, Value.str (Str.ofString "/claim/cut.py") 348, Value.int 211 0, Value.int 2 0, Value.int 0 0, Value.int 0 0, Value.int 3 0, Value.ref 138, Value.bool true, Value.int 181 0, Value.ref 139, Value.none, Value.ref 140, Value.ref 141, Value.ref 142, Value.int 351 0, Value.int 211 0, Value.str (Str.ofString "/claim/cut.py") 352] }) ::
  (nat_lit 144, (let_mvar% ?n144 := (_ : Str); let_mvar% ?a144 := (_ : Arguments); let_mvar% ?b144 := (_ : List Stmt); let_mvar% ?s144 := (_ : Scope); ({ cls := Value.type "function", data := Data.func { name := ?n144, qualname := Str.ofString "_law_escaped", params := ?a144, body := FuncBody.stmts ?b144, scope := ?s144, globals := 3, closure := [], defaults := Value.none, kwdefaults := Value.none, pyModule := Value.str (Str.ofString "law_pa0041_01") 344, code := Value.ref 143 } } : type_of% (pickDef 23 (n := ?n144) (a := ?a144) (b := ?b144) (s := ?s144) rfl)))) ::
  (nat_lit 145, { cls := Value.type "tuple", data := Data.seq #[] }) ::
  (nat_lit 148, { cls := Value.type "code", data := Data.fields #[Value.str (Str.ofString "_law_passed") 354, Value.str (Str.ofString "_law_passed") 355, Value.str (Str.ofString "/claim/cut.py") 356, Value.int 221 0, Value.int 4 0, Value.int 0 0, Value.int 0 0, Value.int 3 0, Value.ref 145, Value.bool true, Value.int 181 0, Value.ref 146, Value.none, Value.none, Value.none, Value.ref 147, Value.int 357 0, Value.int 221 0, Value.str (Str.ofString "/claim/cut.py") 358] }) ::
  (nat_lit 149, (let_mvar% ?n149 := (_ : Str); let_mvar% ?a149 := (_ : Arguments); let_mvar% ?b149 := (_ : List Stmt); let_mvar% ?s149 := (_ : Scope); ({ cls := Value.type "function", data := Data.func { name := ?n149, qualname := Str.ofString "_law_passed", params := ?a149, body := FuncBody.stmts ?b149, scope := ?s149, globals := 3, closure := [], defaults := Value.none, kwdefaults := Value.none, pyModule := Value.str (Str.ofString "law_pa0041_01") 344, code := Value.ref 148 } } : type_of% (pickDef 24 (n := ?n149) (a := ?a149) (b := ?b149) (s := ?s149) rfl)))) ::
  (nat_lit 150, { cls := Value.type "tuple", data := Data.seq #[] }) ::
  (nat_lit 152, { cls := Value.type "tuple", data := Data.seq #[Value.str (Str.ofString "row") 363, Value.str (Str.ofString "passes") 364, Value.str (Str.ofString "way") 365, Value.str (Str.ofString "written") 366, Value.str (Str.ofString "read") 367] }) ::
  (nat_lit 153, { cls := Value.type "tuple", data := Data.seq #[] }) ::
  (nat_lit 155, { cls := Value.type "code", data := Data.fields #[Value.str (Str.ofString "_law_run") 360, Value.str (Str.ofString "_law_run") 361, Value.str (Str.ofString "/claim/cut.py") 362, Value.int 224 0, Value.int 2 0, Value.int 0 0, Value.int 0 0, Value.int 3 0, Value.ref 150, Value.bool true, Value.int 181 0, Value.ref 151, Value.none, Value.ref 152, Value.ref 153, Value.ref 154, Value.int 368 0, Value.int 224 0, Value.str (Str.ofString "/claim/cut.py") 369] }) ::
  (nat_lit 156, (let_mvar% ?n156 := (_ : Str); let_mvar% ?a156 := (_ : Arguments); let_mvar% ?b156 := (_ : List Stmt); let_mvar% ?s156 := (_ : Scope); ({ cls := Value.type "function", data := Data.func { name := ?n156, qualname := Str.ofString "_law_run", params := ?a156, body := FuncBody.stmts ?b156, scope := ?s156, globals := 3, closure := [], defaults := Value.none, kwdefaults := Value.none, pyModule := Value.str (Str.ofString "law_pa0041_01") 344, code := Value.ref 155 } } : type_of% (pickDef 25 (n := ?n156) (a := ?a156) (b := ?b156) (s := ?s156) rfl)))) ::
  (nat_lit 157, { cls := Value.type "tuple", data := Data.seq #[] }) ::
  (nat_lit 159, { cls := Value.type "tuple", data := Data.seq #[Value.str (Str.ofString "kind") 374, Value.str (Str.ofString "pick") 375, Value.str (Str.ofString "told") 376, Value.str (Str.ofString "one") 377, Value.str (Str.ofString "other") 378, Value.str (Str.ofString "way") 379, Value.str (Str.ofString "free") 380] }) ::
  (nat_lit 160, { cls := Value.type "tuple", data := Data.seq #[] }) ::
  (nat_lit 162, { cls := Value.type "code", data := Data.fields #[Value.str (Str.ofString "_law_insertion") 371, Value.str (Str.ofString "_law_insertion") 372, Value.str (Str.ofString "/claim/cut.py") 373, Value.int 228 0, Value.int 2 0, Value.int 0 0, Value.int 0 0, Value.int 3 0, Value.ref 157, Value.bool true, Value.int 181 0, Value.ref 158, Value.none, Value.ref 159, Value.ref 160, Value.ref 161, Value.int 381 0, Value.int 228 0, Value.str (Str.ofString "/claim/cut.py") 382] }) ::
  (nat_lit 163, (let_mvar% ?n163 := (_ : Str); let_mvar% ?a163 := (_ : Arguments); let_mvar% ?b163 := (_ : List Stmt); let_mvar% ?s163 := (_ : Scope); ({ cls := Value.type "function", data := Data.func { name := ?n163, qualname := Str.ofString "_law_insertion", params := ?a163, body := FuncBody.stmts ?b163, scope := ?s163, globals := 3, closure := [], defaults := Value.none, kwdefaults := Value.none, pyModule := Value.str (Str.ofString "law_pa0041_01") 344, code := Value.ref 162 } } : type_of% (pickDef 26 (n := ?n163) (a := ?a163) (b := ?b163) (s := ?s163) rfl)))) ::
  (nat_lit 164, { cls := Value.type "tuple", data := Data.seq #[] }) ::
  (nat_lit 167, { cls := Value.type "code", data := Data.fields #[Value.str (Str.ofString "_law_plan") 384, Value.str (Str.ofString "_law_plan") 385, Value.str (Str.ofString "/claim/cut.py") 386, Value.int 235 0, Value.int 1 0, Value.int 0 0, Value.int 0 0, Value.int 3 0, Value.ref 164, Value.bool true, Value.int 181 0, Value.ref 165, Value.none, Value.none, Value.none, Value.ref 166, Value.int 387 0, Value.int 235 0, Value.str (Str.ofString "/claim/cut.py") 388] }) ::
  (nat_lit 168, (let_mvar% ?n168 := (_ : Str); let_mvar% ?a168 := (_ : Arguments); let_mvar% ?b168 := (_ : List Stmt); let_mvar% ?s168 := (_ : Scope); ({ cls := Value.type "function", data := Data.func { name := ?n168, qualname := Str.ofString "_law_plan", params := ?a168, body := FuncBody.stmts ?b168, scope := ?s168, globals := 3, closure := [], defaults := Value.none, kwdefaults := Value.none, pyModule := Value.str (Str.ofString "law_pa0041_01") 344, code := Value.ref 167 } } : type_of% (pickDef 27 (n := ?n168) (a := ?a168) (b := ?b168) (s := ?s168) rfl)))) ::
  (nat_lit 169, { cls := Value.type "tuple", data := Data.seq #[] }) ::
  (nat_lit 171, { cls := Value.type "tuple", data := Data.seq #[Value.str (Str.ofString "word") 393, Value.str (Str.ofString "k") 394] }) ::
  (nat_lit 172, { cls := Value.type "tuple", data := Data.seq #[] }) ::
  (nat_lit 174, { cls := Value.type "code", data := Data.fields #[Value.str (Str.ofString "_law_closed") 390, Value.str (Str.ofString "_law_closed") 391, Value.str (Str.ofString "/claim/cut.py") 392, Value.int 250 0, Value.int 1 0, Value.int 0 0, Value.int 0 0, Value.int 3 0, Value.ref 169, Value.bool true, Value.int 181 0, Value.ref 170, Value.none, Value.ref 171, Value.ref 172, Value.ref 173, Value.int 395 0, Value.int 250 0, Value.str (Str.ofString "/claim/cut.py") 396] }) ::
  (nat_lit 175, (let_mvar% ?n175 := (_ : Str); let_mvar% ?a175 := (_ : Arguments); let_mvar% ?b175 := (_ : List Stmt); let_mvar% ?s175 := (_ : Scope); ({ cls := Value.type "function", data := Data.func { name := ?n175, qualname := Str.ofString "_law_closed", params := ?a175, body := FuncBody.stmts ?b175, scope := ?s175, globals := 3, closure := [], defaults := Value.none, kwdefaults := Value.none, pyModule := Value.str (Str.ofString "law_pa0041_01") 344, code := Value.ref 174 } } : type_of% (pickDef 28 (n := ?n175) (a := ?a175) (b := ?b175) (s := ?s175) rfl)))) ::
  (nat_lit 176, { cls := Value.type "tuple", data := Data.seq #[] }) ::
  (nat_lit 178, { cls := Value.type "tuple", data := Data.seq #[Value.str (Str.ofString "steps") 401, Value.str (Str.ofString "counts") 402, Value.str (Str.ofString "palindrome") 403, Value.str (Str.ofString "own") 404, Value.str (Str.ofString "behind") 405, Value.str (Str.ofString "words") 406, Value.str (Str.ofString "letter") 407, Value.str (Str.ofString "longer") 408, Value.str (Str.ofString "size") 409] }) ::
  (nat_lit 179, { cls := Value.type "tuple", data := Data.seq #[] }) ::
  (nat_lit 181, { cls := Value.type "code", data := Data.fields #[Value.str (Str.ofString "_law_become") 398, Value.str (Str.ofString "_law_become") 399, Value.str (Str.ofString "/claim/cut.py") 400, Value.int 255 0, Value.int 1 0, Value.int 0 0, Value.int 0 0, Value.int 3 0, Value.ref 176, Value.bool true, Value.int 181 0, Value.ref 177, Value.none, Value.ref 178, Value.ref 179, Value.ref 180, Value.int 410 0, Value.int 255 0, Value.str (Str.ofString "/claim/cut.py") 411] }) ::
  (nat_lit 182, (let_mvar% ?n182 := (_ : Str); let_mvar% ?a182 := (_ : Arguments); let_mvar% ?b182 := (_ : List Stmt); let_mvar% ?s182 := (_ : Scope); ({ cls := Value.type "function", data := Data.func { name := ?n182, qualname := Str.ofString "_law_become", params := ?a182, body := FuncBody.stmts ?b182, scope := ?s182, globals := 3, closure := [], defaults := Value.none, kwdefaults := Value.none, pyModule := Value.str (Str.ofString "law_pa0041_01") 344, code := Value.ref 181 } } : type_of% (pickDef 29 (n := ?n182) (a := ?a182) (b := ?b182) (s := ?s182) rfl)))) ::
  (nat_lit 183, { cls := Value.type "tuple", data := Data.seq #[] }) ::
  (nat_lit 185, { cls := Value.type "tuple", data := Data.seq #[Value.str (Str.ofString "figures") 416, Value.str (Str.ofString "octets") 417, Value.str (Str.ofString "k") 418, Value.str (Str.ofString "number") 419, Value.str (Str.ofString "figure") 420] }) ::
  (nat_lit 186, { cls := Value.type "tuple", data := Data.seq #[] }) ::
  (nat_lit 188, { cls := Value.type "code", data := Data.fields #[Value.str (Str.ofString "_law_octets") 413, Value.str (Str.ofString "_law_octets") 414, Value.str (Str.ofString "/claim/cut.py") 415, Value.int 267 0, Value.int 1 0, Value.int 0 0, Value.int 0 0, Value.int 3 0, Value.ref 183, Value.bool true, Value.int 181 0, Value.ref 184, Value.none, Value.ref 185, Value.ref 186, Value.ref 187, Value.int 421 0, Value.int 267 0, Value.str (Str.ofString "/claim/cut.py") 422] }) ::
  (nat_lit 189, (let_mvar% ?n189 := (_ : Str); let_mvar% ?a189 := (_ : Arguments); let_mvar% ?b189 := (_ : List Stmt); let_mvar% ?s189 := (_ : Scope); ({ cls := Value.type "function", data := Data.func { name := ?n189, qualname := Str.ofString "_law_octets", params := ?a189, body := FuncBody.stmts ?b189, scope := ?s189, globals := 3, closure := [], defaults := Value.none, kwdefaults := Value.none, pyModule := Value.str (Str.ofString "law_pa0041_01") 344, code := Value.ref 188 } } : type_of% (pickDef 30 (n := ?n189) (a := ?a189) (b := ?b189) (s := ?s189) rfl)))) ::
  (nat_lit 190, { cls := Value.type "tuple", data := Data.seq #[] }) ::
  (nat_lit 193, { cls := Value.type "code", data := Data.fields #[Value.str (Str.ofString "law") 424, Value.str (Str.ofString "law") 425, Value.str (Str.ofString "/claim/cut.py") 426, Value.int 275 0, Value.int 1 0, Value.int 0 0, Value.int 0 0, Value.int 3 0, Value.ref 190, Value.bool true, Value.int 181 0, Value.ref 191, Value.none, Value.none, Value.none, Value.ref 192, Value.int 427 0, Value.int 275 0, Value.str (Str.ofString "/claim/cut.py") 428] }) ::
  (nat_lit 194, (let_mvar% ?n194 := (_ : Str); let_mvar% ?a194 := (_ : Arguments); let_mvar% ?b194 := (_ : List Stmt); let_mvar% ?s194 := (_ : Scope); ({ cls := Value.type "function", data := Data.func { name := ?n194, qualname := Str.ofString "law", params := ?a194, body := FuncBody.stmts ?b194, scope := ?s194, globals := 3, closure := [], defaults := Value.none, kwdefaults := Value.none, pyModule := Value.str (Str.ofString "law_pa0041_01") 344, code := Value.ref 193 } } : type_of% (pickDef 31 (n := ?n194) (a := ?a194) (b := ?b194) (s := ?s194) rfl)))) :: []
set_option maxHeartbeats 8000000 in
/-- the statements of the top that the walk may look at -/
noncomputable def viewK : Program :=
  let_mvar% ?v0 := (_ : Stmt); let_mvar% ?v2 := (_ : Stmt); let_mvar% ?v3 := (_ : Stmt); let_mvar% ?v5 := (_ : Stmt); let_mvar% ?v6 := (_ : Stmt); let_mvar% ?v7 := (_ : Stmt); let_mvar% ?v8 := (_ : Stmt); let_mvar% ?v9 := (_ : Stmt); let_mvar% ?v10 := (_ : Stmt); let_mvar% ?v17 := (_ : Stmt); let_mvar% ?v18 := (_ : Stmt); let_mvar% ?v19 := (_ : Stmt); let_mvar% ?v20 := (_ : Stmt); let_mvar% ?v21 := (_ : Stmt); let_mvar% ?v23 := (_ : Stmt); let_mvar% ?v24 := (_ : Stmt); let_mvar% ?v25 := (_ : Stmt); let_mvar% ?v26 := (_ : Stmt); let_mvar% ?v27 := (_ : Stmt); let_mvar% ?v28 := (_ : Stmt); let_mvar% ?v29 := (_ : Stmt); let_mvar% ?v30 := (_ : Stmt); let_mvar% ?v31 := (_ : Stmt);
  ({ Challenge.rw_pa0041_01.row.toRowW.prog with main := { Challenge.rw_pa0041_01.row.toRowW.prog.main with body := [?v0, ?v2, ?v3, ?v5, ?v6, ?v7, ?v8, ?v9, ?v10, ?v17, ?v18, ?v19, ?v20, ?v21, ?v23, ?v24, ?v25, ?v26, ?v27, ?v28, ?v29, ?v30, ?v31] } } : type_of% (pickAll [pickSt 0 (s := ?v0) rfl, pickSt 2 (s := ?v2) rfl, pickSt 3 (s := ?v3) rfl, pickSt 5 (s := ?v5) rfl, pickSt 6 (s := ?v6) rfl, pickSt 7 (s := ?v7) rfl, pickSt 8 (s := ?v8) rfl, pickSt 9 (s := ?v9) rfl, pickSt 10 (s := ?v10) rfl, pickSt 17 (s := ?v17) rfl, pickSt 18 (s := ?v18) rfl, pickSt 19 (s := ?v19) rfl, pickSt 20 (s := ?v20) rfl, pickSt 21 (s := ?v21) rfl, pickSt 23 (s := ?v23) rfl, pickSt 24 (s := ?v24) rfl, pickSt 25 (s := ?v25) rfl, pickSt 26 (s := ?v26) rfl, pickSt 27 (s := ?v27) rfl, pickSt 28 (s := ?v28) rfl, pickSt 29 (s := ?v29) rfl, pickSt 30 (s := ?v30) rfl, pickSt 31 (s := ?v31) rfl]))
noncomputable abbrev looseK : List Str := [Str.ofString "bytes_types", Str.ofString "a2b_base64", Str.ofString "b2a_base64", Str.ofString "b64encode", Str.ofString "b64decode"]
noncomputable abbrev hookK : Hook := kHook heapK [2, 3, 15, 17, 18, 20, 21, 22, 23, 25, 26, 28, 29, 30, 37, 38, 39, 40, 43, 45, 46, 48, 49, 50, 52, 53, 55, 56, 57, 59, 60, 62, 63, 64, 66, 67, 69, 70, 71, 72, 74, 75, 77, 78, 79, 80, 82, 83, 85, 86, 87, 88, 90, 91, 93, 94, 95, 96, 98, 99, 101, 102, 103, 105, 106, 108, 109, 110, 112, 113, 115, 116, 117, 119, 120, 122, 123, 124, 126, 127, 129, 130, 131, 133, 134, 136, 137, 138, 140, 141, 143, 144, 145, 148, 149, 150, 152, 153, 155, 156, 157, 159, 160, 162, 163, 164, 167, 168, 169, 171, 172, 174, 175, 176, 178, 179, 181, 182, 183, 185, 186, 188, 189, 190, 193, 194] (fun _ => by kernel_rfl)
set_option maxHeartbeats 8000000 in
/-- the looks at the law, one check -/
theorem saidK : PySem.Challenge.rw_pa0041_01.wellSaid = true := by
  rw [PySem.W.Fast.te9446332074065402090]
  kernel_rfl
set_option maxHeartbeats 8000000 in
/-- the top's run, one check -/
theorem leftK : LeftO (Challenge.rw_pa0041_01.row.prog) viewK looseK (fun s => xlAt viewK [] s && recOk (RowW.records Challenge.rw_pa0041_01.row.toRowW) s) (Hook.obs hookK) (Hook.val hookK) 2126 := by
  intro w
  unfold openEnds fencedOpening topFrom
  rw [PySem.W.Fast.te10274390034422433532, PySem.W.Fast.te14289696077712309145, PySem.W.Fast.te4187177175401517315, PySem.W.Fast.te14082659384304107361]
  kernel_rfl
local macro_rules | `(tactic| walk_at $s:str) => `(tactic| k_extra $s)
local macro_rules | `(tactic| k_ne) => `(tactic| k_extra "k_ne")
local macro_rules | `(tactic| k_all) => `(tactic| k_extra "k_all")
/- Base0 -/
noncomputable abbrev LS : List Str := looseW viewK [Str.ofString "bytes_types", Str.ofString "a2b_base64", Str.ofString "b2a_base64", Str.ofString "b64encode", Str.ofString "b64decode"]
abbrev AR (d u : Nat) (outer : List Env) : Around := { handled := none, depth := d, frames := some outer, guards := some [], units := u }

def Ext (h h' : Heap) : Prop := ∀ b o, h.get? b = some o → h'.get? b = some o
theorem Ext.refl (h : Heap) : Ext h h := fun _ _ e => e
theorem Ext.trans {a b c : Heap} (x : Ext a b) (y : Ext b c) : Ext a c := fun _ _ e => y _ _ (x _ _ e)
theorem Ext.fr {h₀ h h' : Heap} {L : Addr} {m : Str → Option Value} (x : Ext h h') (F : Fr h₀ L h m) : Fr h₀ L h' m :=
  ⟨F.ns.keeps x, fun _ _ e => x _ _ (F.keep _ _ e), F.above⟩
theorem Ext.news {h₀ h h' : Heap} {L : Addr} {l : List (Addr × Obj)} (x : Ext h h') (N : News h₀ L h l) : News h₀ L h' l :=
  fun p hp => ⟨x _ _ (N p hp).1, (N p hp).2⟩

structure Here (w : World) (mean : ExcName → Option Value) (mg mb : Str → Option Value) (h : Heap) : Prop where
  k : (heapK w.params).In h
  t : Top viewK LS mean mg mb h
theorem Here.ext {w mean mg mb h h'} (H : Here w mean mg mb h) (x : Ext h h') : Here w mean mg mb h' := ⟨H.k.keeps x, H.t.keeps x⟩

/-- the end of a walk: the state differs from s in heap and toks alone, the old heap stands, and post -/
structure Fin (h₀ : Heap) (s : Shared) (post : Value → Heap → Prop) (v : Value) (s' : Shared) : Prop where
  gens : s'.gens = s.gens
  drawn : s'.drawn = s.drawn
  os : s'.os = s.os
  ext : Ext h₀ s'.heap
  post : post v s'.heap

theorem Fin.mk' {h₀ h' : Heap} {s : Shared} {tk : Nat} {post : Value → Heap → Prop} {v : Value} {L : Addr} {m : Str → Option Value}
   (F : Fr h₀ L h' m) (p : post v h') : Fin h₀ s post v { s with heap := h', toks := tk } := ⟨rfl, rfl, rfl, F.keep, p⟩

def Calls (w : World) (mean : ExcName → Option Value) (mg mb : Str → Option Value) (d u : Nat) (f : Addr) (pos : List Value) (kw : List (Str × Value)) (h : Heap) (post : Value → Heap → Prop) : Prop :=
  ∀ (base : Heap) (outer : List Env) (s : Shared), s.heap = h → Below (AR d u outer) base outer h → Here w mean mg mb h →
    wpAny (model Challenge.rw_pa0041_01.row.prog w) (AR d u outer) (call (.ref f) pos kw) (fun v s' => Fin h s post v s') (fun _ _ => False) s

theorem enter {w : World} {mean mg mb} {A : Around} {s : Shared} {post : Value → Heap → Prop} {name qual : Str} {params : Arguments} {body : List Stmt} {scope : Scope} {dV kV doc pm cdv ct oc : Value} {an od : Option Addr} {osl : Array (Option Value)} {f : Addr} {pos : List Value} {kw : List (Str × Value)} {binds : List (Str × Value)}
    (H : Here w mean mg mb s.heap)
    (ho : (heapK w.params).lookup f = some ⟨oc, od, .func (fnOf name qual params body scope dV kV doc pm an cdv ct), osl⟩) (hcd : codeIn (heapK w.params) cdv qual = true) (hroom : A.depth < recursionLimit)
    (hbind : BindsTo s (fnOf name qual params body scope dV kV doc pm an cdv ct) ⟨pos, kw⟩ binds) (hloc : ∀ y ∈ binds, scope.names.lookup y.1 = some .local)
    (h : ∀ L h₁ tk, Fr s.heap L h₁ (fun y => binds.reverse.lookup y) → News s.heap L h₁ [] → (heapK w.params).In s.heap → Top viewK LS mean mg mb s.heap →
      wpAny (model Challenge.rw_pa0041_01.row.prog w) (A.deeper (envOf qual scope L f cdv)) (execs body (envOf qual scope L f cdv))
        (fun fl s' => Fin s.heap s post (match fl with | .ret v => v | _ => .none) s') (fun _ _ => False) { s with heap := h₁, toks := tk })
    (hco : scope.isCoroutine = false) (hgen : scope.isGenerator = false) (hk : scope.kind = .function)
    (hcell : ∀ x ∈ scope.names, x.2 ≠ .cell) : wpAny (model Challenge.rw_pa0041_01.row.prog w) A (call (.ref f) pos kw) (fun v s' => Fin s.heap s post v s') (fun _ _ => False) s := by
  refine wpAny_call ?_
  refine codeAny_call_def (fd := fnOf name qual params body scope dV kV doc pm an cdv ct) (body := body) (binds := binds) hroom (H.k _ _ ho) rfl H.t.nolimit (codeRec_of H.k hcd) rfl hbind hcell hloc (fun h₁ hns hk₁ => ?_) hco hgen hk
  refine wpAny_mono (h s.heap.objs.size h₁ _ ⟨hns, hk₁, Nat.le_refl _⟩ News.nil H.k H.t) (fun _ _ x => x) fun _ _ x => x.elim

theorem enterC {w : World} {mean mg mb} {d u : Nat} {h₀ : Heap} {post : Value → Heap → Prop} {name qual : Str} {params : Arguments} {body : List Stmt} {scope : Scope} {dV kV doc pm cdv ct oc : Value} {an od : Option Addr} {osl : Array (Option Value)} {f : Addr} {pos : List Value} {kw : List (Str × Value)} {binds : List (Str × Value)}
    (ho : (heapK w.params).lookup f = some ⟨oc, od, .func (fnOf name qual params body scope dV kV doc pm an cdv ct), osl⟩) (hcd : codeIn (heapK w.params) cdv qual = true) (hroom : d < recursionLimit)
    (hbind : ∀ s : Shared, (heapK w.params).In s.heap → BindsTo s (fnOf name qual params body scope dV kV doc pm an cdv ct) ⟨pos, kw⟩ binds) (hloc : ∀ y ∈ binds, scope.names.lookup y.1 = some .local)
    (h : ∀ base outer (s : Shared) L h₁ tk, s.heap = h₀ → Below (AR d u outer) base outer s.heap → Fr s.heap L h₁ (fun y => binds.reverse.lookup y) → News s.heap L h₁ [] → (heapK w.params).In s.heap → Top viewK LS mean mg mb s.heap →
      wpAny (model Challenge.rw_pa0041_01.row.prog w) ((AR d u outer).deeper (envOf qual scope L f cdv)) (execs body (envOf qual scope L f cdv))
        (fun fl s' => Fin s.heap s post (match fl with | .ret v => v | _ => .none) s') (fun _ _ => False) { s with heap := h₁, toks := tk })
    (hco : scope.isCoroutine = false) (hgen : scope.isGenerator = false) (hk : scope.kind = .function)
    (hcell : ∀ x ∈ scope.names, x.2 ≠ .cell) : Calls w mean mg mb d u f pos kw h₀ post := by
  intro base outer s hs B H
  subst hs
  exact enter H ho hcd hroom (hbind s H.k) hloc (fun L h₁ tk F N X T => h base outer s L h₁ tk rfl B F N X T) hco hgen hk hcell

theorem fill : Challenge.rw_pa0041_01 = Challenge.rw_pa0041_01 ∧ heapK = heapK := by
  w_top off
  k_fill
  exact ⟨rfl, rfl⟩
theorem around_le {α : Type} {M : Model} {A A' : Around} {t : Sem α} {Q : α → Shared → Prop} {E : Value → Shared → Prop} {s : Shared} (h : wpAny M A' t Q E s)
    (h1 : A'.handled = A.handled) (h2 : A.depth ≤ A'.depth) (h3 : A'.frames = A.frames) (h4 : A'.guards = A.guards) (h5 : A.units ≤ A'.units) : wpAny M A t Q E s :=
  fun Γ p hΓ => h Γ p ⟨hΓ.1.trans h1.symm, Nat.le_trans hΓ.2.1 h2, fun l hl => hΓ.2.2.1 l (h3 ▸ hl), fun g hg => hΓ.2.2.2.1 g (h4 ▸ hg), Nat.le_trans hΓ.2.2.2.2 h5⟩

/-- a call by its contract, from within a frame -/
theorem use {w : World} {mean mg mb} {d u : Nat} {f : Addr} {pos : List Value} {kw : List (Str × Value)} {post : Value → Heap → Prop} {A : Around} {base h₀ : Heap} {outer : List Env} {L a : Addr} {m : Str → Option Value} {news : List (Addr × Obj)} {name : Str} {scope : Scope} {cd : Value} {s : Shared} {Q : Value → Shared → Prop} {E : Value → Shared → Prop}
    (C : ∀ h, h = s.heap → Calls w mean mg mb d u f pos kw h post) (B : Below A base outer h₀) (F : Fr h₀ L s.heap m) (N : News h₀ L s.heap news) (X : (heapK w.params).In h₀) (T : Top viewK LS mean mg mb h₀)
    (hk : scope.kind = .function) (hh : A.handled = none) (hg : A.guards = some []) (hd : A.depth + 1 ≤ d) (hu : A.units + 3 ≤ u)
    (h : ∀ v h' tk, Fr h₀ L h' m → News h₀ L h' news → post v h' → Q v { s with heap := h', toks := tk }) :
    wpAny (model Challenge.rw_pa0041_01.row.prog w) (A.deeper (envOf name scope L a cd)) (call (.ref f) pos kw) Q E s := by
  have B' := B.push (name := name) (a := a) (cd := cd) F hk
  have fr := B'.stack
  have hB : Below (AR d u (envOf name scope L a cd :: outer)) base (envOf name scope L a cd :: outer) s.heap := ⟨rfl, B'.stays, B'.frames⟩
  have c := C _ rfl base (envOf name scope L a cd :: outer) s rfl hB ⟨X.keeps F.keep, T.keeps F.keep⟩
  refine around_le (A' := AR d u (envOf name scope L a cd :: outer)) ?_ hh.symm hd fr.symm hg.symm hu
  refine wpAny_mono c (fun v s' e => ?_) fun _ _ x => x.elim
  obtain ⟨e1, e2, e3, e4, e5⟩ := e
  have : s' = { s with heap := s'.heap, toks := s'.toks } := by
    obtain ⟨_, _, _, _, _⟩ := s'; cases e1; cases e2; cases e3; rfl
  rw [this]
  exact h v _ _ (Ext.fr e4 F) (Ext.news e4 N) e5
theorem use_eq {v₀ : Value} {w : World} {mean mg mb} {d u : Nat} {f : Addr} {pos : List Value} {kw : List (Str × Value)} {A : Around} {base h₀ : Heap} {outer : List Env} {L a : Addr} {m : Str → Option Value} {news : List (Addr × Obj)} {name : Str} {scope : Scope} {cd : Value} {s : Shared} {Q : Value → Shared → Prop} {E : Value → Shared → Prop}
    (C : ∀ h, h = s.heap → Calls w mean mg mb d u f pos kw h (fun v _ => v = v₀)) (B : Below A base outer h₀) (F : Fr h₀ L s.heap m) (N : News h₀ L s.heap news) (X : (heapK w.params).In h₀) (T : Top viewK LS mean mg mb h₀)
    (hk : scope.kind = .function) (hh : A.handled = none) (hg : A.guards = some []) (hd : A.depth + 1 ≤ d) (hu : A.units + 3 ≤ u)
    (h : ∀ h' tk, Fr h₀ L h' m → News h₀ L h' news → Q v₀ { s with heap := h', toks := tk }) :
    wpAny (model Challenge.rw_pa0041_01.row.prog w) (A.deeper (envOf name scope L a cd)) (call (.ref f) pos kw) Q E s :=
  use C B F N X T hk hh hg hd hu fun v h' tk F' N' e => by
    have e' : v = v₀ := e
    subst e'
    exact h h' tk F' N'
theorem use_int {z : Int} {w : World} {mean mg mb} {d u : Nat} {f : Addr} {pos : List Value} {kw : List (Str × Value)} {A : Around} {base h₀ : Heap} {outer : List Env} {L a : Addr} {m : Str → Option Value} {news : List (Addr × Obj)} {name : Str} {scope : Scope} {cd : Value} {s : Shared} {Q : Value → Shared → Prop} {E : Value → Shared → Prop}
    (C : ∀ h, h = s.heap → Calls w mean mg mb d u f pos kw h (fun v _ => ∃ t, v = .int z t)) (B : Below A base outer h₀) (F : Fr h₀ L s.heap m) (N : News h₀ L s.heap news) (X : (heapK w.params).In h₀) (T : Top viewK LS mean mg mb h₀)
    (hk : scope.kind = .function) (hh : A.handled = none) (hg : A.guards = some []) (hd : A.depth + 1 ≤ d) (hu : A.units + 3 ≤ u)
    (h : ∀ t h' tk, Fr h₀ L h' m → News h₀ L h' news → Q (.int z t) { s with heap := h', toks := tk }) :
    wpAny (model Challenge.rw_pa0041_01.row.prog w) (A.deeper (envOf name scope L a cd)) (call (.ref f) pos kw) Q E s :=
  use C B F N X T hk hh hg hd hu fun v h' tk F' N' e => by
    obtain ⟨t, e'⟩ : ∃ t, v = .int z t := e
    subst e'
    exact h t h' tk F' N'
theorem use_bytes {z : Array UInt8} {w : World} {mean mg mb} {d u : Nat} {f : Addr} {pos : List Value} {kw : List (Str × Value)} {A : Around} {base h₀ : Heap} {outer : List Env} {L a : Addr} {m : Str → Option Value} {news : List (Addr × Obj)} {name : Str} {scope : Scope} {cd : Value} {s : Shared} {Q : Value → Shared → Prop} {E : Value → Shared → Prop}
    (C : ∀ h, h = s.heap → Calls w mean mg mb d u f pos kw h (fun v _ => ∃ t, v = .bytes z t)) (B : Below A base outer h₀) (F : Fr h₀ L s.heap m) (N : News h₀ L s.heap news) (X : (heapK w.params).In h₀) (T : Top viewK LS mean mg mb h₀)
    (hk : scope.kind = .function) (hh : A.handled = none) (hg : A.guards = some []) (hd : A.depth + 1 ≤ d) (hu : A.units + 3 ≤ u)
    (h : ∀ t h' tk, Fr h₀ L h' m → News h₀ L h' news → Q (.bytes z t) { s with heap := h', toks := tk }) :
    wpAny (model Challenge.rw_pa0041_01.row.prog w) (A.deeper (envOf name scope L a cd)) (call (.ref f) pos kw) Q E s :=
  use C B F N X T hk hh hg hd hu fun v h' tk F' N' e => by
    obtain ⟨t, e'⟩ : ∃ t, v = .bytes z t := e
    subst e'
    exact h t h' tk F' N'
theorem use_str {z : Str} {w : World} {mean mg mb} {d u : Nat} {f : Addr} {pos : List Value} {kw : List (Str × Value)} {A : Around} {base h₀ : Heap} {outer : List Env} {L a : Addr} {m : Str → Option Value} {news : List (Addr × Obj)} {name : Str} {scope : Scope} {cd : Value} {s : Shared} {Q : Value → Shared → Prop} {E : Value → Shared → Prop}
    (C : ∀ h, h = s.heap → Calls w mean mg mb d u f pos kw h (fun v _ => ∃ t, v = .str z t)) (B : Below A base outer h₀) (F : Fr h₀ L s.heap m) (N : News h₀ L s.heap news) (X : (heapK w.params).In h₀) (T : Top viewK LS mean mg mb h₀)
    (hk : scope.kind = .function) (hh : A.handled = none) (hg : A.guards = some []) (hd : A.depth + 1 ≤ d) (hu : A.units + 3 ≤ u)
    (h : ∀ t h' tk, Fr h₀ L h' m → News h₀ L h' news → Q (.str z t) { s with heap := h', toks := tk }) :
    wpAny (model Challenge.rw_pa0041_01.row.prog w) (A.deeper (envOf name scope L a cd)) (call (.ref f) pos kw) Q E s :=
  use C B F N X T hk hh hg hd hu fun v h' tk F' N' e => by
    obtain ⟨t, e'⟩ : ∃ t, v = .str z t := e
    subst e'
    exact h t h' tk F' N'
def Hold (P : Prop) : Prop := P
theorem Hold.out {P : Prop} (h : Hold P) : P := h
theorem reg1 : True := by
  k_with "InvEndN" => (refine Hold.out ?_)
  k_with "call type:type" => ((with_reducible show wpAny _ _ (call (Value.type "type") [Value.bytes _ _]) _ _ _); refine call_type_of (Tx := "bytes") rfl (by decide +kernel) ?_)
  exact trivial
/- C1 -/
theorem reg2 : True := by
  k_with "my ends" => ((case k6 => k_is); (case k7 => k_is); (case k8 => exact Nat.le_of_ble_eq_true rfl); (case k9 => first | exact fun _ _ => BindsTo.of_eq rfl | (intro s9 X9; exact binds_K X9 rfl (by k_is) rfl rfl rfl)); (case c5 => decide); (case kB => exact locs rfl); (case c2 => exact rfl); (case c3 => exact rfl); (case c4 => exact rfl); k_whole)
  k_with "my fin" => (refine Fin.mk' (by k_asm) ?_)
  exact trivial
/-- the tail of a use -/
theorem reg3 : True := by
  k_with "my use" => ((case u1 => k_asm); (case u2 => k_asm); (case u3 => k_asm); (case u4 => k_asm); (case u5 => k_asm); (case u6 => exact rfl); (case u7 => exact rfl); (case u8 => exact rfl); (case u9 => exact Nat.le_of_ble_eq_true rfl); (case u10 => exact Nat.le_of_ble_eq_true rfl))
  exact trivial

set_option maxHeartbeats 4000000 in
theorem c_buffer {w mean mg mb} (b : Array UInt8) (tb : Tok) (h : Heap) : Calls w mean mg mb 900 9000 56 [.bytes b tb] [] h (fun v _ => v = .bytes b tb) := by
  k_dflt (refine' enterC (binds := [(Str.ofString "data", .bytes b tb)]) ?k6 ?k7 ?k8 ?k9 ?kB ?_ ?c2 ?c3 ?c4 ?c5; walk_at "my ends")
  rintro base outer s L h₁ tk rfl B F N X T; k_fold
  k_steps
  all_goals (walk_at "my fin")
  all_goals rfl

set_option maxHeartbeats 4000000 in
theorem c_ascii_buffer {w mean mg mb} (b : Array UInt8) (tb : Tok) (h : Heap) : Calls w mean mg mb 900 9000 49 [.bytes b tb] [] h (fun v _ => v = .bytes b tb) := by
  k_dflt (refine' enterC (binds := [(Str.ofString "data", .bytes b tb)]) ?k6 ?k7 ?k8 ?k9 ?kB ?_ ?c2 ?c3 ?c4 ?c5; walk_at "my ends")
  rintro base outer s L h₁ tk rfl B F N X T; k_fold
  k_steps
  all_goals (walk_at "my fin")
  all_goals rfl

set_option maxHeartbeats 4000000 in
theorem c_truth {w mean mg mb} (h : Heap) : Calls w mean mg mb 900 9000 63 [.bool false] [] h (fun v _ => v = .bool false) := by
  k_dflt (refine' enterC (binds := [(Str.ofString "x", .bool false)]) ?k6 ?k7 ?k8 ?k9 ?kB ?_ ?c2 ?c3 ?c4 ?c5; walk_at "my ends")
  rintro base outer s L h₁ tk rfl B F N X T; k_fold
  k_steps
  all_goals (walk_at "my fin")
  all_goals rfl

theorem reg4 : True := by
  k_with "call ref" => ((with_reducible show wpAny _ _ (call (Value.ref 56) [Value.bytes _ _] []) _ _ _); k_dflt (refine' use_eq (fun h _ => c_buffer _ _ h) ?u1 ?u2 ?u3 ?u4 ?u5 ?u6 ?u7 ?u8 ?u9 ?u10 ?_; walk_at "my use"; k_whole); intro _ _ _ _; (try dsimp only); (try k_sweep))
  k_with "call ref" => ((with_reducible show wpAny _ _ (call (Value.ref 49) [Value.bytes _ _] []) _ _ _); k_dflt (refine' use_eq (fun h _ => c_ascii_buffer _ _ h) ?u1 ?u2 ?u3 ?u4 ?u5 ?u6 ?u7 ?u8 ?u9 ?u10 ?_; walk_at "my use"; k_whole); intro _ _ _ _; (try dsimp only); (try k_sweep))
  k_with "call ref" => ((with_reducible show wpAny _ _ (call (Value.ref 63) [Value.bool false] []) _ _ _); k_dflt (refine' use_eq (fun h _ => c_truth h) ?u1 ?u2 ?u3 ?u4 ?u5 ?u6 ?u7 ?u8 ?u9 ?u10 ?_; walk_at "my use"; k_whole); intro _ _ _ _; (try dsimp only); (try k_sweep))
  exact trivial
/- C2 -/
def b64v (c : Int) : Int :=
  if 65 ≤ c ∧ c ≤ 90 then c - 65 else if 97 ≤ c ∧ c ≤ 122 then c - 71 else if 48 ≤ c ∧ c ≤ 57 then c + 4 else if c = 43 then 62 else if c = 47 then 63 else 64

set_option maxHeartbeats 4000000 in
theorem c_b64_value {w mean mg mb} (c : Int) (tc : Tok) (h : Heap) : Calls w mean mg mb 900 9000 70 [.int c tc] [] h (fun v _ => ∃ t, v = .int (b64v c) t) := by
  k_dflt (refine' enterC (binds := [(Str.ofString "c", .int c tc)]) ?k6 ?k7 ?k8 ?k9 ?kB ?_ ?c2 ?c3 ?c4 ?c5; walk_at "my ends")
  rintro base outer s L h₁ tk rfl B F N X T; k_fold
  k_steps
  all_goals (walk_at "my fin")
  all_goals (refine ⟨_, congrArg (fun z => Value.int z _) ?_⟩; unfold b64v; repeat' split) <;> omega
theorem reg5 : True := by
  k_with "call ref" => ((with_reducible show wpAny _ _ (call (Value.ref 70) [Value.int _ _] []) _ _ _); k_dflt (refine' use_int (fun h _ => c_b64_value _ _ h) ?u1 ?u2 ?u3 ?u4 ?u5 ?u6 ?u7 ?u8 ?u9 ?u10 ?_; walk_at "my use"; k_whole); intro _ _ _ _ _; (try dsimp only); (try k_sweep))
  exact trivial
/- C3 -/
abbrev b64T : List UInt8 := [65, 66, 67, 68, 69, 70, 71, 72, 73, 74, 75, 76, 77, 78, 79, 80, 81, 82, 83, 84, 85, 86, 87, 88, 89, 90, 97, 98, 99, 100, 101, 102, 103, 104, 105, 106, 107, 108, 109, 110, 111, 112, 113, 114, 115, 116, 117, 118, 119, 120, 121, 122, 48, 49, 50, 51, 52, 53, 54, 55, 56, 57, 43, 47]
def sgnI (i : Int) : Int := ((b64T.getD i.toNat 0).toNat : Int)
theorem andMask (x : Int) (m : Nat) : 0 ≤ Builtin.bitAnd x (m : Int) ∧ Builtin.bitAnd x (m : Int) ≤ (m : Int) := by
  unfold Builtin.bitAnd
  rw [show decide ((0 : Int) ≤ (m : Int)) = true from decide_eq_true (Int.natCast_nonneg m)]
  cases decide (0 ≤ x) with
  | true =>
    show 0 ≤ ((x.toNat &&& (m : Int).toNat : Nat) : Int) ∧ ((x.toNat &&& (m : Int).toNat : Nat) : Int) ≤ (m : Int)
    have : x.toNat &&& (m : Int).toNat ≤ (m : Int).toNat := Nat.and_le_right
    omega
  | false =>
    show 0 ≤ (m : Int) - (((m : Int).toNat &&& (Builtin.bitNot x).toNat : Nat) : Int) ∧ (m : Int) - (((m : Int).toNat &&& (Builtin.bitNot x).toNat : Nat) : Int) ≤ (m : Int)
    have : (m : Int).toNat &&& (Builtin.bitNot x).toNat ≤ (m : Int).toNat := Nat.and_le_left
    omega
theorem and63 (x : Int) : 0 ≤ Builtin.bitAnd x 63 ∧ Builtin.bitAnd x 63 < 64 := by
  have := andMask x 63
  have e : ((63 : Nat) : Int) = 63 := rfl
  rw [e] at this
  omega
theorem andFFFF (x : Int) : 0 ≤ Builtin.bitAnd x 65535 ∧ Builtin.bitAnd x 65535 < 65536 := by
  have := andMask x 65535
  have e : ((65535 : Nat) : Int) = 65535 := rfl
  rw [e] at this
  omega
theorem item_b64 {prog : Program} {w : World} {A : Around} {E : Value → Shared → Prop} {s : Shared} {value slice : PySem.Expr} {x : Int} {t ui : Tok} {Q : Value → Shared → Prop}
    (h : ∀ t' k, Q (.int (sgnI (Builtin.bitAnd x 63)) t') { s with toks := k })
    (hs : subscripted slice false (.bytes b64T.toArray t) (.int (Builtin.bitAnd x 63) ui) = operate [.bytes b64T.toArray t, .int (Builtin.bitAnd x 63) ui] (getItem (.bytes b64T.toArray t) (.int (Builtin.bitAnd x 63) ui)))
    (ht : ∀ r, letTemporaryGo value (.bytes b64T.toArray t) r = pure ()) : wpAny (model prog w) A (subscriptTail value slice (.bytes b64T.toArray t) (.int (Builtin.bitAnd x 63) ui)) Q E s := by
  have h63 := and63 x
  exact KBy.item_N (x := b64T) (by decide) h63.1 h63.2 (h _ _) hs ht
theorem reg6 : True := by
  k_with "subscriptTail" => ((with_reducible show wpAny _ _ (subscriptTail _ _ (Value.bytes _ 248) (Value.int (Builtin.bitAnd _ 63) _)) _ _ _); k_dflt (refine' item_b64 ?_ ?hsr10 ?htr10; (case hsr10 => with_unfolding_all rfl); (case htr10 => (intro _; with_unfolding_all rfl)); k_whole); intro _ _)
  exact trivial

def toB (ns : List Int) : Array UInt8 := (ns.map fun n => n.toNat.toUInt8).toArray
def bLc (lc n : Int) : Int := Builtin.bitAnd (Builtin.bitOr (lc * 2 ^ Int.toNat 8) n) 65535
def bSg (x : Int) (k : Nat) : Int := sgnI (Builtin.bitAnd (x.fdiv (2 ^ k)) 63)
def bStep (c : List Int × Int × Int) (n : Int) : List Int × Int × Int :=
  if c.2.1 = 0 then (c.1 ++ [bSg (bLc c.2.2 n) 2], 2, bLc c.2.2 n)
  else if c.2.1 = 2 then (c.1 ++ [bSg (bLc c.2.2 n) 4], 4, bLc c.2.2 n)
  else (c.1 ++ [bSg (bLc c.2.2 n) 6] ++ [bSg (bLc c.2.2 n) 0], 0, bLc c.2.2 n)
def bFold (pre : List Int) : List Int × Int × Int := pre.foldl bStep ([], 0, 0)
theorem bFold_snoc (pre : List Int) (n : Int) : bFold (pre ++ [n]) = bStep (bFold pre) n := by simp [bFold]
theorem snocInd {α : Type} {P : List α → Prop} (h0 : P []) (hs : ∀ l a, P l → P (l ++ [a])) (l : List α) : P l := by
  have : ∀ r : List α, P r.reverse := by
    intro r
    induction r with
    | nil => exact h0
    | cons a r ih => rw [List.reverse_cons]; exact hs _ _ ih
  have h := this l.reverse
  rwa [List.reverse_reverse] at h
theorem bFold_lb (pre : List Int) : (bFold pre).2.1 = 2 * ((pre.length % 3 : Nat) : Int) := by
  refine snocInd (P := fun pre => (bFold pre).2.1 = 2 * ((pre.length % 3 : Nat) : Int)) rfl (fun pre n ih => ?_) pre
  rw [bFold_snoc, List.length_append, List.length_singleton]
  unfold bStep
  have h3 : pre.length % 3 = 0 ∨ pre.length % 3 = 1 ∨ pre.length % 3 = 2 := by omega
  rcases h3 with h | h | h <;> rw [h] at ih <;> simp [ih] <;> omega
theorem bFold_lc (pre : List Int) : 0 ≤ (bFold pre).2.2 ∧ (bFold pre).2.2 < 65536 := by
  refine snocInd (P := fun pre => 0 ≤ (bFold pre).2.2 ∧ (bFold pre).2.2 < 65536) (by decide) (fun pre n ih => ?_) pre
  rw [bFold_snoc]
  unfold bStep
  split
  · exact andFFFF _
  · split <;> exact andFFFF _
theorem bFold_len (pre : List Int) : (bFold pre).1.length ≤ 2 * pre.length := by
  refine snocInd (P := fun pre => (bFold pre).1.length ≤ 2 * pre.length) (Nat.le_refl _) (fun pre n ih => ?_) pre
  rw [bFold_snoc, List.length_append, List.length_singleton]
  unfold bStep
  split
  · simp; omega
  · split <;> simp <;> omega
theorem sgnI_range (i : Int) : 0 ≤ sgnI i ∧ sgnI i < 256 := by
  unfold sgnI
  have := (b64T.getD i.toNat 0).toNat_lt
  omega
theorem bFold_range (pre : List Int) : ∀ x ∈ (bFold pre).1, 0 ≤ x ∧ x < 256 := by
  refine snocInd (P := fun pre => ∀ x ∈ (bFold pre).1, 0 ≤ x ∧ x < 256) (fun _ h => nomatch h) (fun pre n ih => ?_) pre
  rw [bFold_snoc]
  unfold bStep
  intro x hx
  split at hx
  · rcases List.mem_append.mp hx with h | h
    · exact ih x h
    · rw [List.mem_singleton.mp h]; exact sgnI_range _
  · split at hx
    · rcases List.mem_append.mp hx with h | h
      · exact ih x h
      · rw [List.mem_singleton.mp h]; exact sgnI_range _
    · rcases List.mem_append.mp hx with h | h
      · rcases List.mem_append.mp h with h | h
        · exact ih x h
        · rw [List.mem_singleton.mp h]; exact sgnI_range _
      · rw [List.mem_singleton.mp h]; exact sgnI_range _

set_option maxHeartbeats 4000000 in
theorem c_b2a {w mean mg mb} (b : Array UInt8) (tb : Tok) (h : Heap) (hb : b.size ≤ 2000) (hb3 : b.size % 3 = 0) : Calls w mean mg mb 800 8000 86 [.bytes b tb] [(Str.ofString "newline", .bool false)] h (fun v _ => ∃ t, v = .bytes (toB (bFold (KBw.bInts b)).1) t) := by
  k_dflt (refine' enterC (binds := [(Str.ofString "data", .bytes b tb), (Str.ofString "newline", .bool false)]) ?k6 ?k7 ?k8 ?k9 ?kB ?_ ?c2 ?c3 ?c4 ?c5; walk_at "my ends")
  rintro base outer s L h₁ tk rfl B F N X T; k_fold
  k_steps
  rename Fr _ _ _ _ => FL
  rename News _ _ _ _ => NL
  rename_i l' _ _ _ _ _
  k_dflt (refine' KStb.kst_bytes (σ := List Value × List Int × Nat × Int × Tok × Int × Tok)
              (fun c => [(l', W.listOf c.1.toArray c.2.2.1)])
              (fun c => [(Str.ofString "leftchar", .int c.2.2.2.1 c.2.2.2.2.1), (Str.ofString "leftbits", .int c.2.2.2.2.2.1 c.2.2.2.2.2.2), (Str.ofString "out", .ref l')])
              (fun c => IntsAre c.1 c.2.1) [] (fun pre c => (c.2.1, c.2.2.2.2.2.1, c.2.2.2.1) = bFold pre)
              ([], [], 0, 0, ?t1, 0, ?t2) ?e1 ?e2 ?e3 ?hF ?hN ?hf ?hk ?hp ?turn ?done; (case hF => exact FL); (case hN => exact NL); (case e1 => rfl); (case e2 => rfl); (case e3 => rfl))
  case hf => exact IntsAre.nil
  case hk => kst_all
  case hp => exact rfl
  case turn =>
    rintro ⟨vs, ns, n0, lc, tlc, lb, tlb⟩ pre post n t u h tk own hks hlen hn0 hn1 hoff hfa hP F N
    dsimp only at *
    k_fold
    have hMk := kstMark
    have hvl := hfa.length
    rw [KBw.ints_length] at hlen
    have hP1 := bFold_len pre
    have hP2 : lb = 0 ∨ lb = 2 ∨ lb = 4 := by
      have := bFold_lb pre
      rw [← hP] at this
      dsimp only at this
      omega
    have hP3 := bFold_lc pre
    rw [← hP] at hP1 hP3
    dsimp only at hP1 hP3
    obtain ⟨hP3, hP4⟩ := hP3
    simp only [kstB] at F
    have hvl2 : vs.length ≤ 4000 := by omega
    rcases hP2 with hl | hl | hl
    all_goals (subst hl; k_steps)
    all_goals (
      unfold Hold
      rename News _ _ _ _ => nE'
      (try simp only [List.push_toArray] at nE')
      refine kst_end ⟨_, _, _, _, _, _, _⟩ (by assumption) nE' (by first | kst_in | kst_inAny) (by first | (intro p hp; kst_mem) | kst_anyIn) (by rfl) (by kst_facts) (by kst_all) (by kst_same) ?_)
    all_goals (rw [bFold_snoc, ← hP]; rfl)
  case done => 
    rintro ⟨vs, ns, n0, lc, tlc, lb, tlb⟩ u h tk hlen hfa hP F N
    dsimp only at *
    (try k_fold)
    have hMk := kstMark
    have hvl := hfa.length
    have hlb := bFold_lb (KBw.bInts b)
    rw [KBw.ints_length] at *
    rw [← hP] at hlb
    dsimp only at hlb
    have hl : lb = 0 := by omega
    have hrg := bFold_range (KBw.bInts b)
    rw [← hP] at hrg
    dsimp only at hrg
    subst hl
    k_steps
    rename_i tk'
    have hl2 : h.IsList l' vs.toArray := ⟨_, (N _ (.head _)).1, rfl, _, rfl⟩
    have hlen2 := bFold_len (KBw.bInts b)
    rw [← hP, KBw.ints_length] at hlen2
    dsimp only at hlen2
    refine bytes_K F N hl2 hfa hrg (by rw [sizeLine_eq]; omega) rfl ?_
    intro h' t' k' F' N' _
    refine Fin.mk' F' ⟨t', ?_⟩
    rw [← hP]; rfl
theorem reg7 : True := by
  k_with "call ref" => ((with_reducible show wpAny _ _ (call (Value.ref 86) [Value.bytes _ _] _) _ _ _); k_dflt (refine' use_bytes (fun h _ => c_b2a _ _ h ?b1r11 ?b2r11) ?u1 ?u2 ?u3 ?u4 ?u5 ?u6 ?u7 ?u8 ?u9 ?u10 ?_; walk_at "my use"; (case b1r11 => omega); (case b2r11 => omega); k_whole); intro _ _ _ _ _; (try dsimp only); (try k_sweep))
  exact trivial
/- C4 -/
def aStep (c : List Int × Int × Int) (n : Int) : List Int × Int × Int :=
  if b64v n ≥ 64 then c
  else if c.2.1 = 0 then (c.1, 1, b64v n)
  else if c.2.1 = 1 then (c.1 ++ [Builtin.bitOr (c.2.2 * 2 ^ Int.toNat 2) ((b64v n).fdiv (2 ^ Int.toNat 4))], 2, Builtin.bitAnd (b64v n) 15)
  else if c.2.1 = 2 then (c.1 ++ [Builtin.bitOr (c.2.2 * 2 ^ Int.toNat 4) ((b64v n).fdiv (2 ^ Int.toNat 2))], 3, Builtin.bitAnd (b64v n) 3)
  else (c.1 ++ [Builtin.bitOr (c.2.2 * 2 ^ Int.toNat 6) (b64v n)], 0, 0)
def aFold (pre : List Int) : List Int × Int × Int := pre.foldl aStep ([], 0, 0)
theorem aFold_snoc (pre : List Int) (n : Int) : aFold (pre ++ [n]) = aStep (aFold pre) n := by simp [aFold]
theorem b64v_range (n : Int) : 0 ≤ b64v n ∧ b64v n ≤ 64 := by
  unfold b64v
  repeat' split
  all_goals omega
theorem and15 (x : Int) : 0 ≤ Builtin.bitAnd x 15 ∧ Builtin.bitAnd x 15 < 64 := by
  have := andMask x 15
  have e : ((15 : Nat) : Int) = 15 := rfl
  rw [e] at this
  omega
theorem and3 (x : Int) : 0 ≤ Builtin.bitAnd x 3 ∧ Builtin.bitAnd x 3 < 64 := by
  have := andMask x 3
  have e : ((3 : Nat) : Int) = 3 := rfl
  rw [e] at this
  omega
theorem aFold_ok (pre : List Int) : (aFold pre).1.length ≤ pre.length ∧ ((aFold pre).2.1 = 0 ∨ (aFold pre).2.1 = 1 ∨ (aFold pre).2.1 = 2 ∨ (aFold pre).2.1 = 3) ∧ 0 ≤ (aFold pre).2.2 ∧ (aFold pre).2.2 < 64 := by
  refine snocInd (P := fun pre => (aFold pre).1.length ≤ pre.length ∧ ((aFold pre).2.1 = 0 ∨ (aFold pre).2.1 = 1 ∨ (aFold pre).2.1 = 2 ∨ (aFold pre).2.1 = 3) ∧ 0 ≤ (aFold pre).2.2 ∧ (aFold pre).2.2 < 64) (by decide) (fun pre n ih => ?_) pre
  rw [aFold_snoc, List.length_append, List.length_singleton]
  obtain ⟨h1, h2, h3⟩ := ih
  have hb := b64v_range n
  unfold aStep
  by_cases c0 : b64v n ≥ 64
  · rw [if_pos c0]; exact ⟨by omega, h2, h3⟩
  · rw [if_neg c0]
    by_cases c1 : (aFold pre).2.1 = 0
    · rw [if_pos c1]; exact ⟨by dsimp only; omega, by simp, by dsimp only; omega⟩
    · rw [if_neg c1]
      by_cases c2 : (aFold pre).2.1 = 1
      · rw [if_pos c2]; exact ⟨by simp; omega, by simp, and15 _⟩
      · rw [if_neg c2]
        by_cases c3 : (aFold pre).2.1 = 2
        · rw [if_pos c3]; exact ⟨by simp; omega, by simp, and3 _⟩
        · rw [if_neg c3]; exact ⟨by simp; omega, by simp, by simp⟩

set_option maxHeartbeats 8000000 in
theorem c_a2b {w mean mg mb} (b : Array UInt8) (tb : Tok) (h : Heap) (hb : b.size ≤ 20000) (h61 : ∀ n ∈ KBw.bInts b, n ≠ 61) (hq : (aFold (KBw.bInts b)).2.1 = 0) (hrg : ∀ x ∈ (aFold (KBw.bInts b)).1, 0 ≤ x ∧ x < 256) :
    Calls w mean mg mb 800 8000 78 [.bytes b tb] [(Str.ofString "strict_mode", .bool false)] h (fun v _ => ∃ t, v = .bytes (toB (aFold (KBw.bInts b)).1) t) := by
  k_dflt (refine' enterC (binds := [(Str.ofString "data", .bytes b tb), (Str.ofString "strict_mode", .bool false)]) ?k6 ?k7 ?k8 ?k9 ?kB ?_ ?c2 ?c3 ?c4 ?c5; walk_at "my ends")
  rintro base outer s L h₁ tk rfl B F N X T; k_fold
  k_steps
  rename Fr _ _ _ _ => FL
  rename News _ _ _ _ => NL
  rename_i l' _ _ _ _ _ _ _
  k_dflt (refine' KStb.kst_bytes (σ := List Value × List Int × Nat × Int × Tok × Int × Tok × Tok × Int × Tok)
              (fun c => [(l', W.listOf c.1.toArray c.2.2.1)])
              (fun c => [(Str.ofString "quad_pos", .int c.2.2.2.1 c.2.2.2.2.1), (Str.ofString "leftchar", .int c.2.2.2.2.2.1 c.2.2.2.2.2.2.1), (Str.ofString "pads", .int 0 c.2.2.2.2.2.2.2.1), (Str.ofString "i", .int c.2.2.2.2.2.2.2.2.1 c.2.2.2.2.2.2.2.2.2), (Str.ofString "out", .ref l')])
              (fun c => IntsAre c.1 c.2.1) [] (fun pre c => (c.2.1, c.2.2.2.1, c.2.2.2.2.2.1) = aFold pre ∧ c.2.2.2.2.2.2.2.2.1 = (pre.length : Int))
              ([], [], 0, 0, ?t1, 0, ?t2, ?t3, 0, ?t4) ?e1 ?e2 ?e3 ?hF ?hN ?hf ?hk ?hp ?turn ?done; (case hF => exact FL); (case hN => exact NL); (case e1 => rfl); (case e2 => rfl); (case e3 => rfl))
  case hf => exact IntsAre.nil
  case hk => kst_all
  case hp => exact ⟨rfl, rfl⟩
  case turn =>
    rintro ⟨vs, ns, n0, q, tq, lc, tlc, tp, ii, ti⟩ pre post n t u h tk own hks hlen hn0 hn1 hoff hfa hP F N
    dsimp only at *
    k_fold
    obtain ⟨hP, hi⟩ := hP
    subst hi
    have hMk := kstMark
    have hvl := hfa.length
    rw [KBw.ints_length] at hlen
    obtain ⟨hP1, hP2, hP3, hP4⟩ := aFold_ok pre
    rw [← hP] at hP1 hP2 hP3 hP4
    dsimp only at hP1 hP2 hP3 hP4
    simp only [kstB] at F
    have hvl2 : vs.length ≤ 20000 := by omega
    have hn61 : n ≠ 61 := h61 n (by rw [hks]; simp)
    obtain ⟨hv0, hv1⟩ := b64v_range n
    clear hrg h61 hq
    k_steps
    all_goals (try (exfalso; omega))
    all_goals (
      unfold Hold
      rename News _ _ _ _ => nE'
      (try simp only [List.push_toArray] at nE')
      refine kst_end ⟨_, _, _, _, _, _, _, _, _, _⟩ (by assumption) nE' (by first | kst_in | kst_inAny) (by first | (intro p hp; kst_mem) | kst_anyIn) (by rfl) (by kst_facts) (by kst_all) (by kst_same) ?_)
    all_goals (
      refine ⟨?_, by simp⟩
      rw [aFold_snoc, ← hP]
      unfold aStep
      dsimp only
      first | (rw [if_pos (by assumption)] <;> rfl) | (rw [if_neg (by assumption), if_pos (by assumption)] <;> rfl) | (rw [if_neg (by assumption), if_neg (by assumption), if_pos (by assumption)] <;> rfl) | (rw [if_neg (by assumption), if_neg (by assumption), if_neg (by assumption), if_pos (by assumption)] <;> rfl) | (rw [if_neg (by assumption), if_neg (by assumption), if_neg (by assumption), if_neg (by assumption), if_pos (by assumption)] <;> rfl) | (rw [if_neg (by assumption), if_neg (by assumption), if_neg (by assumption), if_neg (by assumption)] <;> rfl))
  case done => 
    rintro ⟨vs, ns, n0, q, tq, lc, tlc, tp, ii, ti⟩ u h tk hlen hfa hP F N
    dsimp only at *
    (try k_fold)
    obtain ⟨hP, hi⟩ := hP
    subst hi
    have hMk := kstMark
    have hvl := hfa.length
    have hlb := aFold_ok (KBw.bInts b)
    rw [← hP] at hlb hrg hq
    rw [KBw.ints_length] at hlb
    dsimp only at hlb hrg hq
    simp only [kstB] at F
    subst hq
    k_steps
    refine' Fin.mk' (by k_asm) ⟨_, ?_⟩
    rotate_left
    rw [← hP]; rfl
theorem reg8 : True := by
  k_with "call ref" => ((with_reducible show wpAny _ _ (call (Value.ref 78) [Value.bytes _ _] _) _ _ _); k_dflt (refine' use_bytes (fun h _ => c_a2b _ _ h ?b1r12 ?b2r12 ?b3r12 ?b4r12) ?u1 ?u2 ?u3 ?u4 ?u5 ?u6 ?u7 ?u8 ?u9 ?u10 ?_; walk_at "my use"; (case b1r12 => assumption); (case b2r12 => assumption); (case b3r12 => assumption); (case b4r12 => assumption); k_whole); intro _ _ _ _ _; (try dsimp only); (try k_sweep))
  exact trivial
/- R5 -/
namespace TR
theorem plain_mt : plainId "bytes.maketrans" = true := by decide +kernel
theorem entry_mt : entryFor table "bytes.maketrans" = some Builtin.«bytes.maketrans» := entryFor_of_tree (by kernel_rfl)
theorem check_mt (a b : Value) : checkBuiltinCall "bytes.maketrans" ⟨[a, b], []⟩ = pure () := by kernel_rfl
def mkTab (f x : Array UInt8) : Array UInt8 := (f.toList.zip x.toList).foldl (fun t (fx : UInt8 × UInt8) => t.setIfInBounds fx.1.toNat fx.2) ((Array.range 256).map (·.toUInt8))
theorem fold_size (l : List (UInt8 × UInt8)) (t : Array UInt8) : (l.foldl (fun t (fx : UInt8 × UInt8) => t.setIfInBounds fx.1.toNat fx.2) t).size = t.size := by
  induction l generalizing t with
  | nil => rfl
  | cons p r ih => rw [List.foldl_cons, ih, Array.size_setIfInBounds]
theorem mkTab_size (f x : Array UInt8) : (mkTab f x).size = 256 := by
  unfold mkTab; rw [fold_size]; simp
section
variable {prog : Program} {w : World} {A : Around} {E : Value → Shared → Prop} {s : Shared} {t u : Tok}
theorem call_mt {f x : Array UInt8} {Q : Value → Shared → Prop} (hsz : f.size = x.size) (h : ∀ t' k, Q (.bytes (mkTab f x) t') { s with toks := k }) :
    wpAny (model prog w) A (call (.builtin "bytes.maketrans") [.bytes f t, .bytes x u]) Q E s := by
  refine wpAny_call (codeAny_call_builtin plain_mt entry_mt ?_)
  rw [check_mt]
  refine wpAny_pure ?_
  show wpAny _ _ (Builtin.Bytes.maketransM .bytes ⟨[.bytes f t, .bytes x u], []⟩) _ _ _
  unfold Builtin.Bytes.maketransM
  dsimp only
  refine wpAny_bind (wpAny_pure ?_)
  refine wpAny_bind (wpAny_of_eq (a := ()) rfl ?_)
  refine wpAny_bind (wpAny_of_eq KBd.like_eq ?_)
  refine wpAny_bind (wpAny_of_eq KBd.like_eq ?_)
  rw [show (f.size != x.size) = false by simp [hsz]]
  simp only [Bool.false_eq_true, if_false]
  exact wpAny_bind (wpAny_mkBytes (b := mkTab f x) (wpAny_pure (h _ _)) (by rw [mkTab_size, sizeLine_eq]; omega))

theorem slot_tr : Slot "bytes" "translate" "bytes.translate" :=
  .of (owner := "bytes") (n := "translate") (by rw [typeLookup_type, builtinLookup_eq_fast]; kernel_rfl) (by decide +kernel) (by decide +kernel) (by decide +kernel)
    (by first | exact .inl (by decide +kernel) | exact .inr (by decide +kernel)) (by rw [isSubtype_type]; kernel_rfl)
theorem type_tr : typeOf (.builtin "bytes.translate") = pure (.type "method_descriptor") := by show builtinType _ = _; rw [builtinType_eq_fast]; kernel_rfl
theorem entry_tr : entryFor table "bytes.translate" = some Builtin.«bytes.translate» := entryFor_of_tree (by kernel_rfl)
theorem args_tr (a b : Value) : argsOk "bytes.translate" ⟨[a, b], []⟩ := by
  unfold argsOk; kernel_rfl
def trans (tab b : Array UInt8) : Array UInt8 := b.map fun c => tab.getD c.toNat c
theorem meets_tr {b tab : Array UInt8} : Meets (Builtin.«bytes.translate» ⟨[.bytes b t, .bytes tab u], []⟩) (fun _ R s => tab.size = 256 ∧ b.size ≤ sizeLine ∧ ∀ t' k, R (.ok (.ret (.bytes (trans tab b) t'))) { s with toks := k }) := by
  refine .of_wp fun prog w A R s hS => ?_
  obtain ⟨h1, h2, h⟩ := hS
  show wpAny _ _ (Builtin.Bytes.translateM .bytes ⟨[.bytes b t, .bytes tab u], []⟩) _ _ _
  unfold Builtin.Bytes.translateM
  dsimp only
  simp only [List.length_cons, List.length_nil, List.any_nil, List.head?_nil, Option.map_none, Bool.false_eq_true, if_false, show ¬ (0 + 1 + 0 > 2) from by decide, show (Value.bytes tab u == Value.none) = false from rfl]
  refine wpAny_bind (wpAny_of_eq KBd.like_eq ?_)
  rw [show (tab.size != 256) = false by simp [h1]]
  simp only [Bool.false_eq_true, if_false]
  refine wpAny_bind (wpAny_pure ?_)
  refine wpAny_bind (wpAny_pure ?_)
  refine wpAny_bind (wpAny_of_eq (a := b) rfl ?_)
  have hfil : Array.filter (fun x => !(#[] : Array UInt8).contains x) b = b := by
    apply Array.ext'
    simp
  rw [hfil]
  show wpAny _ _ (if (trans tab b == b) = true then _ else _) _ _ _
  by_cases e : (trans tab b == b) = true
  · rw [if_pos e]
    have e' : trans tab b = b := by simpa using e
    rw [e'] at h
    exact wpAny_bind (wpAny_rule (wpAny_bind (wpAny_of_eq (a := .bytes b t) rfl (wpAny_pure ⟨_, rfl, h _ _⟩))))
  · rw [if_neg e]
    exact wpAny_bind (wpAny_mkBytes (b := trans tab b) (wpAny_pure ⟨_, rfl, h _ _⟩) (by unfold trans; rw [Array.size_map]; exact h2))
theorem method_tr {M : Model} {b : Array UInt8} {pl : Sem Bool} {Q : Value × List Value → Shared → Prop} (h : Q (.builtin "bytes.translate", [.bytes b t]) s) : wpAny M A (getMethod (.bytes b t) (Str.ofString "translate") pl) Q E s := by
  with_reducible exact KBd.method_of (.bytes b t) (typeIs_bytes _ _ _) slot_tr type_tr KBd.noRef h
theorem call_tr {b tab : Array UInt8} {Q : Value → Shared → Prop} (h1 : tab.size = 256) (h2 : b.size ≤ sizeLine) (h : ∀ t' k, Q (.bytes (trans tab b) t') { s with toks := k }) :
    wpAny (model prog w) A (call (.builtin "bytes.translate") [.bytes b t, .bytes tab u]) Q E s :=
  call_meets slot_tr (typeIs_bytes _ _ _) entry_tr (args_tr _ _) meets_tr ⟨h1, h2, h⟩
theorem type_bytes : typeOf (.type "bytes") = pure (.type "type") := by first | rfl | kernel_rfl
theorem find_mt (K : Frag) : findCls K (.type "bytes") (.type "type") (Str.ofString "maketrans") = some (.val (.builtin "bytes.maketrans")) := by kernel_rfl
theorem handed_mt : handedIn (.builtin "bytes.maketrans") = true := by decide +kernel
theorem stub_bytes : Manifest.isStub "bytes" = false := by decide +kernel
theorem method_mt {K : Frag} {h₀ : Heap} {L : Addr} {m : Str → Option Value} {pl : Sem Bool} {Q : Value × List Value → Shared → Prop} (F : Fr h₀ L s.heap m) (X : K.In h₀) (h : Q (.builtin "bytes.maketrans", []) { s with toks := s.toks + 1 }) :
    wpAny (model prog w) A (getMethod (.type "bytes") (Str.ofString "maketrans") pl) Q E s := by
  with_reducible exact method_type F X type_bytes stub_bytes (find_mt K) handed_mt h
end
end TR
theorem reg9 : True := by
  k_with "getMethod bytes" => (with_reducible refine TR.method_tr ?_)
  k_with "getMethod type:bytes" => (with_reducible refine TR.method_mt (by k_asm) (by k_asm) ?_)
  k_with "call builtin:bytes.maketrans" => ((with_reducible show wpAny _ _ (call (Value.builtin "bytes.maketrans") [Value.bytes _ _, Value.bytes _ _]) _ _ _); (refine TR.call_mt (by first | rfl | assumption | exact Eq.symm (by assumption)) ?_; intro _ _))
  k_with "call builtin:bytes.translate" => ((with_reducible show wpAny _ _ (call (Value.builtin "bytes.translate") [Value.bytes _ _, Value.bytes _ _]) _ _ _); (refine TR.call_tr (TR.mkTab_size _ _) ?hzr16 ?_; (case hzr16 => walk_at "my size"); intro _ _))
  exact trivial
/- C5 -/
theorem reg10 : True := by
  k_with "my size" => assumption
  exact trivial

set_option maxHeartbeats 8000000 in
theorem c_b64encode {w mean mg mb} (b : Array UInt8) (tb : Tok) (al : Array UInt8) (ta : Tok) (h : Heap) (hal : al.size = 2) (hb : b.size ≤ 2000) (hb3 : b.size % 3 = 0) :
    Calls w mean mg mb 700 7000 94 [.bytes b tb, .bytes al ta] [] h (fun v _ => ∃ t, v = .bytes (TR.trans (TR.mkTab #[43, 47] al) (toB (bFold (KBw.bInts b)).1)) t) := by
  k_dflt (refine' enterC (binds := [(Str.ofString "s", .bytes b tb), (Str.ofString "altchars", .bytes al ta)]) ?k6 ?k7 ?k8 ?k9 ?kB ?_ ?c2 ?c3 ?c4 ?c5; walk_at "my ends")
  rintro base outer s L h₁ tk rfl B F N X T; k_fold
  have hz : (toB (bFold (KBw.bInts b)).1).size ≤ sizeLine := by
    have := bFold_len (KBw.bInts b)
    rw [KBw.ints_length] at this
    rw [sizeLine_eq]
    unfold toB
    simp
    omega
  k_steps
  · refine Fin.mk' (by k_asm) ⟨_, rfl⟩
  · exfalso; omega
theorem reg11 : True := by
  k_with "call ref" => ((with_reducible show wpAny _ _ (call (Value.ref 94) [Value.bytes _ _, Value.bytes _ _] _) _ _ _); k_dflt (refine' use_bytes (fun h _ => c_b64encode _ _ _ _ h ?b0r18 ?b1r18 ?b2r18) ?u1 ?u2 ?u3 ?u4 ?u5 ?u6 ?u7 ?u8 ?u9 ?u10 ?_; walk_at "my use"; (case b0r18 => assumption); (case b1r18 => assumption); (case b2r18 => assumption); k_whole); intro _ _ _ _ _; (try dsimp only); (try k_sweep))
  exact trivial
/- R6 -/
namespace EN
open Builtin._codecs
theorem enc_eq {s : Str} {t t1 : Tok} : Builtin.«str.encode» ⟨[.str s t, .str (Str.ofString "ascii") t1], []⟩ = ((encodeNarrow "str.encode" asciiCodec none (.str s t) s >>= mkBytes) >>= fun v => ret v) := by kernel_rfl
def enc (s : Str) : Array UInt8 := s.cps.map (·.toUInt8)
theorem fold_one (l : List Nat) (out : Array UInt8) : l.foldl (fun acc y => acc ++ (asciiCodec.bytesOf y).toArray) out = out ++ (l.map (·.toUInt8)).toArray := by
  induction l generalizing out with
  | nil => simp
  | cons a r ih => rw [List.foldl_cons, ih]; apply Array.ext'; simp [asciiCodec]
theorem forIn_two {σ : Type} (f : Nat → σ → Sem (ForInStep σ)) (a b : σ) (h1 : ∀ x, f x a = pure (.yield b)) (h2 : ∀ x, f x b = pure (.done b)) : ∀ l : List Nat, l ≠ [] → forIn l a f = (pure b : Sem σ)
  | [], h => absurd rfl h
  | [x], _ => by
    rw [List.forIn_cons, h1]
    rfl
  | x :: y :: r, _ => by
    rw [List.forIn_cons, h1]
    show forIn (y :: r) b f = pure b
    rw [List.forIn_cons, h2]
    rfl
theorem narrow_eq {s : Str} {self : Value} (h : ∀ c ∈ s.cps.toList, c < 128) (hz : s.cps.size ≤ sizeLine) : encodeNarrow "str.encode" asciiCodec none self s = pure (enc s) := by
  unfold encodeNarrow
  dsimp only
  rw [Std.Legacy.Range.forIn_eq_forIn_range']
  have hbad : ∀ c ∈ s.cps.toList, asciiCodec.bad c = false := fun c hc => by
    have := h c hc
    show decide (c ≥ 128) = false
    simp; omega
  by_cases h0 : s.cps.size = 0
  · have e : s = ⟨#[]⟩ := by
      obtain ⟨a⟩ := s
      have : a = #[] := Array.eq_empty_of_size_eq_zero h0
      rw [this]
    subst e
    kernel_rfl
  · obtain ⟨c, hc⟩ : ∃ c, s.cps[0]? = some c := ⟨_, Array.getElem?_eq_getElem (by omega)⟩
    have hfi : Array.findIdx? asciiCodec.bad s.cps = none := by
      rw [Array.findIdx?_eq_none_iff]
      intro x hx
      exact hbad x (by simpa using hx)
    have hext : s.cps.extract 0 s.cps.size = s.cps := by simp
    rw [forIn_two (σ := Nat × Array UInt8 × Faults) _ (0, #[], {}) (s.cps.size, enc s, {}) ?h1 ?h2 _ ?hne]
    case h1 =>
      intro x
      dsimp only
      rw [if_neg (by simp), hc]
      dsimp only
      rw [hbad c (by rw [Array.mem_toList_iff]; exact Array.mem_of_getElem? hc)]
      simp only [Bool.not_false, if_true]
      rw [hext, hfi]
      simp only [Option.getD_none, Nat.zero_add]
      rw [hext, ← Array.foldl_toList, fold_one]
      have e : (#[] : Array UInt8) ++ (List.map (fun x => x.toUInt8) s.cps.toList).toArray = enc s := by
        apply Array.ext'
        simp [enc]
      rw [e]
    case h2 =>
      intro x
      dsimp only
      rw [if_neg (by unfold enc; rw [Array.size_map]; omega), show s.cps[s.cps.size]? = none by simp]
    case hne =>
      intro e
      have := congrArg List.length e
      rw [List.length_range'] at this
      have e2 : s.length = s.cps.size := rfl
      have : (s.length - 0 + 1 - 1) / 1 = 0 := this
      rw [e2] at this
      omega
    rfl
theorem call_enc {prog : Program} {w : World} {A : Around} {E : Value → Shared → Prop} {st : Shared} {s : Str} {t t1 : Tok} {Q : Value → Shared → Prop} (h : ∀ c ∈ s.cps.toList, c < 128) (hz : s.cps.size ≤ sizeLine)
    (hq : ∀ t' k, Q (.bytes (enc s) t') { st with toks := k }) : wpAny (model prog w) A (call (.builtin "str.encode") [.str s t, .str (Str.ofString "ascii") t1]) Q E st := by
  refine call_meets (S := fun _ R st => ∀ t' k, R (.ok (.ret (.bytes (enc s) t'))) { st with toks := k }) F.slot_str_encode (typeIs_str _ _ _) F.entry_str_encode (F.args_str_encode_2 _ _) (.of_wp fun prog w A R st hS => ?_) hq
  rw [enc_eq, narrow_eq h hz]
  exact wpAny_bind (wpAny_bind (wpAny_pure (wpAny_mkBytes (wpAny_pure ⟨_, rfl, hS _ _⟩) (by unfold enc; rw [Array.size_map]; exact hz))))
theorem method_enc {M : Model} {A : Around} {E : Value → Shared → Prop} {st : Shared} {s : Str} {t : Tok} {pl : Sem Bool} {Q : Value × List Value → Shared → Prop} (h : Q (.builtin "str.encode", [.str s t]) st) : wpAny M A (getMethod (.str s t) (Str.ofString "encode") pl) Q E st := by
  with_reducible exact getMethod_builtin (T := "str") (typeIs_str _ _ _) F.plainAttrs_str F.slot_str_encode F.type_str_encode (fun _ e => nomatch e) h
end EN
theorem reg12 : True := by
  k_with "getMethod str" => (with_reducible refine EN.method_enc ?_)
  k_with "call builtin:str.encode" => ((with_reducible show wpAny _ _ (call (Value.builtin "str.encode") [Value.str _ _, Value.str _ _]) _ _ _); (refine EN.call_enc ?h1r20 ?h2r20 ?_; (case h1r20 => walk_at "my ascii"); (case h2r20 => walk_at "my size"); intro _ _))
  exact trivial
/- C6 -/
theorem reg13 : True := by
  k_with "my ascii" => assumption
  exact trivial

set_option maxHeartbeats 8000000 in
theorem c_bfdd {w mean mg mb} (x : Str) (tx : Tok) (h : Heap) (hx : ∀ c ∈ x.cps.toList, c < 128) (hz : x.cps.size ≤ sizeLine) :
    Calls w mean mg mb 800 8000 29 [.str x tx] [] h (fun v _ => ∃ t, v = .bytes (EN.enc x) t) := by
  k_dflt (refine' enterC (binds := [(Str.ofString "s", .str x tx)]) ?k6 ?k7 ?k8 ?k9 ?kB ?_ ?c2 ?c3 ?c4 ?c5; walk_at "my ends")
  rintro base outer s L h₁ tk rfl B F N X T; k_fold
  k_steps
  refine Fin.mk' (by k_asm) ⟨_, rfl⟩
theorem reg14 : True := by
  k_with "call ref" => ((with_reducible show wpAny _ _ (call (Value.ref 29) [Value.str _ _] _) _ _ _); k_dflt (refine' use_bytes (fun h _ => c_bfdd _ _ h ?b1r22 ?b2r22) ?u1 ?u2 ?u3 ?u4 ?u5 ?u6 ?u7 ?u8 ?u9 ?u10 ?_; walk_at "my use"; (case b1r22 => assumption); (case b2r22 => assumption); k_whole); intro _ _ _ _ _; (try dsimp only); (try k_sweep))
  exact trivial

abbrev decIn (x r : Str) : Array UInt8 := TR.trans (TR.mkTab (EN.enc r) #[43, 47]) (EN.enc x)
set_option maxHeartbeats 8000000 in
theorem c_b64decode {w mean mg mb} (x r : Str) (tx tr : Tok) (h : Heap) (hx : ∀ c ∈ x.cps.toList, c < 128) (hz : x.cps.size ≤ sizeLine) (hr : ∀ c ∈ r.cps.toList, c < 128) (hrz : r.cps.size ≤ sizeLine) (hr2 : (EN.enc r).size = 2)
    (hxz : (EN.enc x).size ≤ sizeLine) (hb1 : (decIn x r).size ≤ 20000) (h61 : ∀ n ∈ KBw.bInts (decIn x r), n ≠ 61) (hq : (aFold (KBw.bInts (decIn x r))).2.1 = 0) (hrg : ∀ y ∈ (aFold (KBw.bInts (decIn x r))).1, 0 ≤ y ∧ y < 256) :
    Calls w mean mg mb 700 7000 102 [.str x tx, .str r tr] [] h (fun v _ => ∃ t, v = .bytes (toB (aFold (KBw.bInts (decIn x r))).1) t) := by
  k_dflt (refine' enterC (binds := [(Str.ofString "s", .str x tx), (Str.ofString "altchars", .str r tr), (Str.ofString "validate", .bool false)]) ?k6 ?k7 ?k8 ?k9 ?kB ?_ ?c2 ?c3 ?c4 ?c5; walk_at "my ends")
  rintro base outer s L h₁ tk rfl B F N X T; k_fold
  k_steps
  · refine Fin.mk' (by k_asm) ⟨_, rfl⟩
  · exfalso; omega
/- R7 -/
namespace RP
def sub (c : Nat) (z l : List Nat) : List Nat := l.flatMap fun k => if k = c then z else [k]
theorem sub_append (c : Nat) (z l r : List Nat) : sub c z (l ++ r) = sub c z l ++ sub c z r := by simp [sub]
theorem sub_free (c : Nat) (z : List Nat) : ∀ l : List Nat, c ∉ l → sub c z l = l
  | [], _ => rfl
  | k :: r, h => by
    have h1 : k ≠ c := fun e => h (by simp [e])
    have ih := sub_free c z r (fun q => h (List.mem_cons_of_mem _ q))
    unfold sub at ih ⊢
    rw [List.flatMap_cons, if_neg h1, ih]
    rfl
theorem sub_one (c : Nat) (z : List Nat) : sub c z [c] = z := by simp [sub]
theorem sub_join (c : Nat) (z : Str) : ∀ parts : List Str, (∀ p ∈ parts, c ∉ p.cps.toList) → sub c z.cps.toList (Str.join ⟨#[c]⟩ parts).cps.toList = (Str.join z parts).cps.toList
  | [], _ => rfl
  | [p], h => sub_free c _ _ (h p (List.mem_singleton.mpr rfl))
  | p :: q :: r, h => by
    have ih := sub_join c z (q :: r) fun a ha => h a (List.mem_cons_of_mem _ ha)
    show sub c z.cps.toList (p ++ ⟨#[c]⟩ ++ Str.join ⟨#[c]⟩ (q :: r)).cps.toList = (p ++ z ++ Str.join z (q :: r)).cps.toList
    simp only [Str.cps_append, Array.toList_append]
    rw [sub_append, sub_append, ih, sub_free c _ _ (h p (List.mem_cons_self ..))]
    show p.cps.toList ++ sub c z.cps.toList [c] ++ _ = _
    rw [sub_one]
def subS (c : Nat) (z x : Str) : Str := ⟨(sub c z.cps.toList x.cps.toList).toArray⟩
theorem replace_subS (x z : Str) (c : Nat) : Txt.replace x ⟨#[c]⟩ z = subS c z x := by
  have h : (Txt.replace x ⟨#[c]⟩ z).cps.toList = sub c z.cps.toList x.cps.toList := by
    rw [StrLaws.replace_one, ← sub_join c z _ (StrLaws.split_free x c), StrLaws.join_split]
  generalize Txt.replace x ⟨#[c]⟩ z = r at h
  obtain ⟨⟨l⟩⟩ := r
  unfold subS
  rw [← h]
theorem subS_free {x z : Str} {c : Nat} (h : c ∉ x.cps.toList) : subS c z x = x := by
  unfold subS
  rw [sub_free c _ _ h]

/-- what a joined branch leaves: the text replaced -/
structure Left (h₀ : Heap) (L : Addr) (m : Str → Option Value) (news : List (Addr × Obj)) (gens : Array GenState) (drawn : Drawn) (os : OsState) (v : Str) (f : Flow) (s' : Shared) : Prop where
  flow : f = .next
  gens : s'.gens = gens
  drawn : s'.drawn = drawn
  os : s'.os = os
  pos : 0 < s'.toks
  fr : ∃ t', Fr h₀ L s'.heap (fun y => if y = Str.ofString "text" then some (.str v t') else m y)
  news : News h₀ L s'.heap news
section
variable {w : World} {prog : Program} {A : Around} {E : Value → Shared → Prop} {Q : Flow → Shared → Prop} {h₀ h : Heap} {L a : Addr} {cd : Value} {name : Str} {scope : Scope} {m : Str → Option Value} {news : List (Addr × Obj)} {gens : Array GenState} {drawn : Drawn} {tk : Nat} {os : OsState} {x z y : Str} {c : Nat} {t : Tok} {body : List Stmt} {env : Env}
theorem rep_ite (z : Str) (c : Nat) (F : Fr h₀ L h m) (N : News h₀ L h news) (hm : m (Str.ofString "text") = some (.str x t)) (hy : y = ⟨#[c]⟩) (htk : 0 < tk)
    (h1 : c ∈ x.cps.toList → wpAny (model prog w) A (execs body env) (Left h₀ L m news gens drawn os (subS c z x)) (fun _ _ => False) ⟨h, gens, drawn, tk, os⟩)
    (hq : ∀ t' h' tk', 0 < tk' → Fr h₀ L h' (fun v => if v = Str.ofString "text" then some (.str (subS c z x) t') else m v) → News h₀ L h' news → Q .next ⟨h', gens, drawn, tk', os⟩) :
    if (!(Builtin.Str.occurrences x y 0 x.length 1).isEmpty) = true then wpAny (model prog w) A (execs body env) Q E ⟨h, gens, drawn, tk, os⟩ else wpAny (model prog w) A (execs [] env) Q E ⟨h, gens, drawn, tk, os⟩ := by
  subst hy
  rw [StrLaws.found_one]
  by_cases hc : c ∈ x.cps.toList
  · rw [if_pos (decide_eq_true hc)]
    refine wpAny_mono (h1 hc) (fun f s' l => ?_) fun _ _ e => e.elim
    obtain ⟨e1, e2, e3, e4, e5, ⟨t', e6⟩, e7⟩ := l
    subst e1
    obtain ⟨hh, gg, dd, tt, oo⟩ := s'
    cases e2; cases e3; cases e4
    exact hq t' hh tt e5 e6 e7
  · rw [if_neg (by simp [hc])]
    have e : (fun v => if v = Str.ofString "text" then some (Value.str (subS c z x) t) else m v) = m := by
      funext v
      by_cases hv : v = Str.ofString "text"
      · rw [if_pos hv, hv, hm, subS_free hc]
      · rw [if_neg hv]
    exact wpAny_pure (hq t _ _ htk (by rw [e]; exact F) N)
theorem call_rep {Q : Value → Shared → Prop} {u v : Tok} {s : Shared} (c : Nat) (hy : y = ⟨#[c]⟩) (hu : u ≠ 0) (hv : v ≠ 0) (huv : u ≠ v) (hyz : (y == z) = false) (hb : x.length + (x.length + 1) * z.length ≤ 16777216)
    (hq : ∀ t' k, Q (.str (subS c z x) t') { s with toks := k }) : wpAny (model prog w) A (call (.builtin "str.replace") [.str x t, .str y u, .str z v]) Q E s := by
  subst hy
  refine SC.replace hu hv huv hyz hb ?_
  rw [replace_subS]
  exact hq
end
theorem sub_len (c : Nat) (z : List Nat) (k : Nat) (hz : z.length ≤ k) (hk : 1 ≤ k) (l : List Nat) : (sub c z l).length ≤ k * l.length := by
  induction l with
  | nil => simp [sub]
  | cons a r ih =>
    have e : sub c z (a :: r) = (if a = c then z else [a]) ++ sub c z r := by simp [sub]
    rw [e, List.length_append, List.length_cons, Nat.mul_add, Nat.mul_one]
    split
    · omega
    · simp only [List.length_singleton]; omega
theorem subS_len (c : Nat) (z x : Str) (k : Nat) (hz : z.length ≤ k) (hk : 1 ≤ k) : (subS c z x).length ≤ k * x.length := by
  have := sub_len c z.cps.toList k (by simpa [Str.length] using hz) hk x.cps.toList
  simpa [subS, Str.length] using this
end RP

theorem enterP {w : World} {mean mg mb} {d u : Nat} {h₀ : Heap} {post : Value → Heap → Prop} {name qual : Str} {params : Arguments} {body : List Stmt} {scope : Scope} {dV kV doc pm cdv ct oc : Value} {an od : Option Addr} {osl : Array (Option Value)} {f : Addr} {pos : List Value} {kw : List (Str × Value)} {binds : List (Str × Value)}
    (ho : (heapK w.params).lookup f = some ⟨oc, od, .func (fnOf name qual params body scope dV kV doc pm an cdv ct), osl⟩) (hcd : codeIn (heapK w.params) cdv qual = true) (hroom : d < recursionLimit)
    (hbind : ∀ s : Shared, (heapK w.params).In s.heap → BindsTo s (fnOf name qual params body scope dV kV doc pm an cdv ct) ⟨pos, kw⟩ binds) (hloc : ∀ y ∈ binds, scope.names.lookup y.1 = some .local)
    (h : ∀ base outer (s : Shared) L h₁ tk, s.heap = h₀ → 0 < tk → Below (AR d u outer) base outer s.heap → Fr s.heap L h₁ (fun y => binds.reverse.lookup y) → News s.heap L h₁ [] → (heapK w.params).In s.heap → Top viewK LS mean mg mb s.heap →
      wpAny (model Challenge.rw_pa0041_01.row.prog w) ((AR d u outer).deeper (envOf qual scope L f cdv)) (execs body (envOf qual scope L f cdv))
        (fun fl s' => Fin s.heap s post (match fl with | .ret v => v | _ => .none) s') (fun _ _ => False) { s with heap := h₁, toks := tk })
    (hco : scope.isCoroutine = false) (hgen : scope.isGenerator = false) (hk : scope.kind = .function)
    (hcell : ∀ x ∈ scope.names, x.2 ≠ .cell) (hbl : 0 < binds.length) : Calls w mean mg mb d u f pos kw h₀ post := by
  intro base outer s hs B H
  subst hs
  refine wpAny_call ?_
  refine codeAny_call_def (fd := fnOf name qual params body scope dV kV doc pm an cdv ct) (body := body) (binds := binds) hroom (H.k _ _ ho) rfl H.t.nolimit (codeRec_of H.k hcd) rfl (hbind s H.k) hcell hloc (fun h₁ hns hk₁ => ?_) hco hgen hk
  refine wpAny_mono (h base outer s s.heap.objs.size h₁ _ rfl (Nat.lt_of_lt_of_le hbl (Nat.le_add_left _ _)) B ⟨hns, hk₁, Nat.le_refl _⟩ News.nil H.k H.t) (fun _ _ x => x) fun _ _ x => x.elim
theorem reg15 : True := by
  k_with "ite" => ((with_reducible show if (!(Builtin.Str.occurrences _ _ 0 _ 1).isEmpty) = true then wpAny _ _ (execs _ _) _ _ _ else wpAny _ _ (execs [] _) _ _ _); refine Hold.out ?_)
  exact trivial
/- C7 -/
set_option maxHeartbeats 8000000 in
theorem c_esc_cdata {w mean mg mb} (x : Str) (tx : Tok) (h : Heap) (hz0 : x.length ≤ 100000) (hz1 : (RP.subS 38 (Str.ofString "&amp;") x).length ≤ 100000) (hz2 : (RP.subS 60 (Str.ofString "&lt;") (RP.subS 38 (Str.ofString "&amp;") x)).length ≤ 100000) :
    Calls w mean mg mb 800 8000 116 [.str x tx] [] h (fun v _ => ∃ t, v = .str (RP.subS 62 (Str.ofString "&gt;") (RP.subS 60 (Str.ofString "&lt;") (RP.subS 38 (Str.ofString "&amp;") x))) t) := by
  k_dflt (refine' enterP (binds := [(Str.ofString "text", .str x tx)]) ?k6 ?k7 ?k8 ?k9 ?kB ?_ ?c2 ?c3 ?c4 ?c5 ?bl; walk_at "my ends"; (case bl => exact Nat.zero_lt_one))
  rintro base outer s L h₁ tk rfl htk B F N X T; k_fold
  k_steps
  unfold Hold
  dsimp only
  refine RP.rep_ite (Str.ofString "&amp;") 38 (by k_asm) (by k_asm) rfl (by decide +kernel) (by omega) ?_ ?_
  · intro _
    clear X T B
    k_fold
    k_steps
    have e := RP.replace_subS x (Str.ofString "&amp;") 38
    rw [show (⟨#[38]⟩ : Str) = Str.ofString "&" from by decide +kernel] at e
    refine ⟨rfl, rfl, rfl, rfl, Nat.succ_pos _, ?_, by assumption⟩
    rw [← e]
    exact ⟨_, by assumption⟩
  intro t0 h0 tk0 htk0 F N
  k_steps
  unfold Hold
  dsimp only
  refine RP.rep_ite (Str.ofString "&lt;") 60 (by k_asm) (by k_asm) rfl (by decide +kernel) (by omega) ?_ ?_
  · intro _
    clear X T B
    k_fold
    k_steps
    have e := RP.replace_subS (RP.subS 38 (Str.ofString "&amp;") x) (Str.ofString "&lt;") 60
    rw [show (⟨#[60]⟩ : Str) = Str.ofString "<" from by decide +kernel] at e
    refine ⟨rfl, rfl, rfl, rfl, Nat.succ_pos _, ?_, by assumption⟩
    rw [← e]
    exact ⟨_, by assumption⟩
  intro t1 h1 tk1 htk1 F N
  k_steps
  unfold Hold
  dsimp only
  refine RP.rep_ite (Str.ofString "&gt;") 62 (by k_asm) (by k_asm) rfl (by decide +kernel) (by omega) ?_ ?_
  · intro _
    clear X T B
    k_fold
    k_steps
    have e := RP.replace_subS (RP.subS 60 (Str.ofString "&lt;") (RP.subS 38 (Str.ofString "&amp;") x)) (Str.ofString "&gt;") 62
    rw [show (⟨#[62]⟩ : Str) = Str.ofString ">" from by decide +kernel] at e
    refine ⟨rfl, rfl, rfl, rfl, Nat.succ_pos _, ?_, by assumption⟩
    rw [← e]
    exact ⟨_, by assumption⟩
  intro t2 h2 tk2 htk2 F N
  k_steps
  refine Fin.mk' (by k_asm) ⟨_, rfl⟩

set_option maxHeartbeats 8000000 in
theorem c_esc_attrib {w mean mg mb} (x : Str) (tx : Tok) (h : Heap) (hz0 : x.length ≤ 100000) (hz1 : (RP.subS 38 (Str.ofString "&amp;") x).length ≤ 100000) (hz2 : (RP.subS 60 (Str.ofString "&lt;") (RP.subS 38 (Str.ofString "&amp;") x)).length ≤ 100000) (hz3 : (RP.subS 62 (Str.ofString "&gt;") (RP.subS 60 (Str.ofString "&lt;") (RP.subS 38 (Str.ofString "&amp;") x))).length ≤ 100000) (hz4 : (RP.subS 34 (Str.ofString "&quot;") (RP.subS 62 (Str.ofString "&gt;") (RP.subS 60 (Str.ofString "&lt;") (RP.subS 38 (Str.ofString "&amp;") x)))).length ≤ 100000) (hz5 : (RP.subS 13 (Str.ofString "&#13;") (RP.subS 34 (Str.ofString "&quot;") (RP.subS 62 (Str.ofString "&gt;") (RP.subS 60 (Str.ofString "&lt;") (RP.subS 38 (Str.ofString "&amp;") x))))).length ≤ 100000) (hz6 : (RP.subS 10 (Str.ofString "&#10;") (RP.subS 13 (Str.ofString "&#13;") (RP.subS 34 (Str.ofString "&quot;") (RP.subS 62 (Str.ofString "&gt;") (RP.subS 60 (Str.ofString "&lt;") (RP.subS 38 (Str.ofString "&amp;") x)))))).length ≤ 100000) :
    Calls w mean mg mb 800 8000 123 [.str x tx] [] h (fun v _ => ∃ t, v = .str (RP.subS 9 (Str.ofString "&#09;") (RP.subS 10 (Str.ofString "&#10;") (RP.subS 13 (Str.ofString "&#13;") (RP.subS 34 (Str.ofString "&quot;") (RP.subS 62 (Str.ofString "&gt;") (RP.subS 60 (Str.ofString "&lt;") (RP.subS 38 (Str.ofString "&amp;") x))))))) t) := by
  k_dflt (refine' enterP (binds := [(Str.ofString "text", .str x tx)]) ?k6 ?k7 ?k8 ?k9 ?kB ?_ ?c2 ?c3 ?c4 ?c5 ?bl; walk_at "my ends"; (case bl => exact Nat.zero_lt_one))
  rintro base outer s L h₁ tk rfl htk B F N X T; k_fold
  k_steps
  unfold Hold
  dsimp only
  refine RP.rep_ite (Str.ofString "&amp;") 38 (by k_asm) (by k_asm) rfl (by decide +kernel) (by omega) ?_ ?_
  · intro _
    clear X T B
    k_fold
    k_steps
    have e := RP.replace_subS x (Str.ofString "&amp;") 38
    rw [show (⟨#[38]⟩ : Str) = Str.ofString "&" from by decide +kernel] at e
    refine ⟨rfl, rfl, rfl, rfl, Nat.succ_pos _, ?_, by assumption⟩
    rw [← e]
    exact ⟨_, by assumption⟩
  intro t0 h0 tk0 htk0 F N
  k_steps
  unfold Hold
  dsimp only
  refine RP.rep_ite (Str.ofString "&lt;") 60 (by k_asm) (by k_asm) rfl (by decide +kernel) (by omega) ?_ ?_
  · intro _
    clear X T B
    k_fold
    k_steps
    have e := RP.replace_subS (RP.subS 38 (Str.ofString "&amp;") x) (Str.ofString "&lt;") 60
    rw [show (⟨#[60]⟩ : Str) = Str.ofString "<" from by decide +kernel] at e
    refine ⟨rfl, rfl, rfl, rfl, Nat.succ_pos _, ?_, by assumption⟩
    rw [← e]
    exact ⟨_, by assumption⟩
  intro t1 h1 tk1 htk1 F N
  k_steps
  unfold Hold
  dsimp only
  refine RP.rep_ite (Str.ofString "&gt;") 62 (by k_asm) (by k_asm) rfl (by decide +kernel) (by omega) ?_ ?_
  · intro _
    clear X T B
    k_fold
    k_steps
    have e := RP.replace_subS (RP.subS 60 (Str.ofString "&lt;") (RP.subS 38 (Str.ofString "&amp;") x)) (Str.ofString "&gt;") 62
    rw [show (⟨#[62]⟩ : Str) = Str.ofString ">" from by decide +kernel] at e
    refine ⟨rfl, rfl, rfl, rfl, Nat.succ_pos _, ?_, by assumption⟩
    rw [← e]
    exact ⟨_, by assumption⟩
  intro t2 h2 tk2 htk2 F N
  k_steps
  unfold Hold
  dsimp only
  refine RP.rep_ite (Str.ofString "&quot;") 34 (by k_asm) (by k_asm) rfl (by decide +kernel) (by omega) ?_ ?_
  · intro _
    clear X T B
    k_fold
    k_steps
    have e := RP.replace_subS (RP.subS 62 (Str.ofString "&gt;") (RP.subS 60 (Str.ofString "&lt;") (RP.subS 38 (Str.ofString "&amp;") x))) (Str.ofString "&quot;") 34
    rw [show (⟨#[34]⟩ : Str) = Str.ofString "\"" from by decide +kernel] at e
    refine ⟨rfl, rfl, rfl, rfl, Nat.succ_pos _, ?_, by assumption⟩
    rw [← e]
    exact ⟨_, by assumption⟩
  intro t3 h3 tk3 htk3 F N
  k_steps
  unfold Hold
  dsimp only
  refine RP.rep_ite (Str.ofString "&#13;") 13 (by k_asm) (by k_asm) rfl (by decide +kernel) (by omega) ?_ ?_
  · intro _
    clear X T B
    k_fold
    k_steps
    have e := RP.replace_subS (RP.subS 34 (Str.ofString "&quot;") (RP.subS 62 (Str.ofString "&gt;") (RP.subS 60 (Str.ofString "&lt;") (RP.subS 38 (Str.ofString "&amp;") x)))) (Str.ofString "&#13;") 13
    rw [show (⟨#[13]⟩ : Str) = Str.ofString "\r" from by decide +kernel] at e
    refine ⟨rfl, rfl, rfl, rfl, Nat.succ_pos _, ?_, by assumption⟩
    rw [← e]
    exact ⟨_, by assumption⟩
  intro t4 h4 tk4 htk4 F N
  k_steps
  unfold Hold
  dsimp only
  refine RP.rep_ite (Str.ofString "&#10;") 10 (by k_asm) (by k_asm) rfl (by decide +kernel) (by omega) ?_ ?_
  · intro _
    clear X T B
    k_fold
    k_steps
    have e := RP.replace_subS (RP.subS 13 (Str.ofString "&#13;") (RP.subS 34 (Str.ofString "&quot;") (RP.subS 62 (Str.ofString "&gt;") (RP.subS 60 (Str.ofString "&lt;") (RP.subS 38 (Str.ofString "&amp;") x))))) (Str.ofString "&#10;") 10
    rw [show (⟨#[10]⟩ : Str) = Str.ofString "\n" from by decide +kernel] at e
    refine ⟨rfl, rfl, rfl, rfl, Nat.succ_pos _, ?_, by assumption⟩
    rw [← e]
    exact ⟨_, by assumption⟩
  intro t5 h5 tk5 htk5 F N
  k_steps
  unfold Hold
  dsimp only
  refine RP.rep_ite (Str.ofString "&#09;") 9 (by k_asm) (by k_asm) rfl (by decide +kernel) (by omega) ?_ ?_
  · intro _
    clear X T B
    k_fold
    k_steps
    have e := RP.replace_subS (RP.subS 10 (Str.ofString "&#10;") (RP.subS 13 (Str.ofString "&#13;") (RP.subS 34 (Str.ofString "&quot;") (RP.subS 62 (Str.ofString "&gt;") (RP.subS 60 (Str.ofString "&lt;") (RP.subS 38 (Str.ofString "&amp;") x)))))) (Str.ofString "&#09;") 9
    rw [show (⟨#[9]⟩ : Str) = Str.ofString "\t" from by decide +kernel] at e
    refine ⟨rfl, rfl, rfl, rfl, Nat.succ_pos _, ?_, by assumption⟩
    rw [← e]
    exact ⟨_, by assumption⟩
  intro t6 h6 tk6 htk6 F N
  k_steps
  refine Fin.mk' (by k_asm) ⟨_, rfl⟩

set_option maxHeartbeats 8000000 in
theorem c_esc_cdata_c14n {w mean mg mb} (x : Str) (tx : Tok) (h : Heap) (hz0 : x.length ≤ 100000) (hz1 : (RP.subS 38 (Str.ofString "&amp;") x).length ≤ 100000) (hz2 : (RP.subS 60 (Str.ofString "&lt;") (RP.subS 38 (Str.ofString "&amp;") x)).length ≤ 100000) (hz3 : (RP.subS 62 (Str.ofString "&gt;") (RP.subS 60 (Str.ofString "&lt;") (RP.subS 38 (Str.ofString "&amp;") x))).length ≤ 100000) :
    Calls w mean mg mb 800 8000 130 [.str x tx] [] h (fun v _ => ∃ t, v = .str (RP.subS 13 (Str.ofString "&#xD;") (RP.subS 62 (Str.ofString "&gt;") (RP.subS 60 (Str.ofString "&lt;") (RP.subS 38 (Str.ofString "&amp;") x)))) t) := by
  k_dflt (refine' enterP (binds := [(Str.ofString "text", .str x tx)]) ?k6 ?k7 ?k8 ?k9 ?kB ?_ ?c2 ?c3 ?c4 ?c5 ?bl; walk_at "my ends"; (case bl => exact Nat.zero_lt_one))
  rintro base outer s L h₁ tk rfl htk B F N X T; k_fold
  k_steps
  unfold Hold
  dsimp only
  refine RP.rep_ite (Str.ofString "&amp;") 38 (by k_asm) (by k_asm) rfl (by decide +kernel) (by omega) ?_ ?_
  · intro _
    clear X T B
    k_fold
    k_steps
    have e := RP.replace_subS x (Str.ofString "&amp;") 38
    rw [show (⟨#[38]⟩ : Str) = Str.ofString "&" from by decide +kernel] at e
    refine ⟨rfl, rfl, rfl, rfl, Nat.succ_pos _, ?_, by assumption⟩
    rw [← e]
    exact ⟨_, by assumption⟩
  intro t0 h0 tk0 htk0 F N
  k_steps
  unfold Hold
  dsimp only
  refine RP.rep_ite (Str.ofString "&lt;") 60 (by k_asm) (by k_asm) rfl (by decide +kernel) (by omega) ?_ ?_
  · intro _
    clear X T B
    k_fold
    k_steps
    have e := RP.replace_subS (RP.subS 38 (Str.ofString "&amp;") x) (Str.ofString "&lt;") 60
    rw [show (⟨#[60]⟩ : Str) = Str.ofString "<" from by decide +kernel] at e
    refine ⟨rfl, rfl, rfl, rfl, Nat.succ_pos _, ?_, by assumption⟩
    rw [← e]
    exact ⟨_, by assumption⟩
  intro t1 h1 tk1 htk1 F N
  k_steps
  unfold Hold
  dsimp only
  refine RP.rep_ite (Str.ofString "&gt;") 62 (by k_asm) (by k_asm) rfl (by decide +kernel) (by omega) ?_ ?_
  · intro _
    clear X T B
    k_fold
    k_steps
    have e := RP.replace_subS (RP.subS 60 (Str.ofString "&lt;") (RP.subS 38 (Str.ofString "&amp;") x)) (Str.ofString "&gt;") 62
    rw [show (⟨#[62]⟩ : Str) = Str.ofString ">" from by decide +kernel] at e
    refine ⟨rfl, rfl, rfl, rfl, Nat.succ_pos _, ?_, by assumption⟩
    rw [← e]
    exact ⟨_, by assumption⟩
  intro t2 h2 tk2 htk2 F N
  k_steps
  unfold Hold
  dsimp only
  refine RP.rep_ite (Str.ofString "&#xD;") 13 (by k_asm) (by k_asm) rfl (by decide +kernel) (by omega) ?_ ?_
  · intro _
    clear X T B
    k_fold
    k_steps
    have e := RP.replace_subS (RP.subS 62 (Str.ofString "&gt;") (RP.subS 60 (Str.ofString "&lt;") (RP.subS 38 (Str.ofString "&amp;") x))) (Str.ofString "&#xD;") 13
    rw [show (⟨#[13]⟩ : Str) = Str.ofString "\r" from by decide +kernel] at e
    refine ⟨rfl, rfl, rfl, rfl, Nat.succ_pos _, ?_, by assumption⟩
    rw [← e]
    exact ⟨_, by assumption⟩
  intro t3 h3 tk3 htk3 F N
  k_steps
  refine Fin.mk' (by k_asm) ⟨_, rfl⟩

set_option maxHeartbeats 8000000 in
theorem c_esc_attrib_c14n {w mean mg mb} (x : Str) (tx : Tok) (h : Heap) (hz0 : x.length ≤ 100000) (hz1 : (RP.subS 38 (Str.ofString "&amp;") x).length ≤ 100000) (hz2 : (RP.subS 60 (Str.ofString "&lt;") (RP.subS 38 (Str.ofString "&amp;") x)).length ≤ 100000) (hz3 : (RP.subS 34 (Str.ofString "&quot;") (RP.subS 60 (Str.ofString "&lt;") (RP.subS 38 (Str.ofString "&amp;") x))).length ≤ 100000) (hz4 : (RP.subS 9 (Str.ofString "&#x9;") (RP.subS 34 (Str.ofString "&quot;") (RP.subS 60 (Str.ofString "&lt;") (RP.subS 38 (Str.ofString "&amp;") x)))).length ≤ 100000) (hz5 : (RP.subS 10 (Str.ofString "&#xA;") (RP.subS 9 (Str.ofString "&#x9;") (RP.subS 34 (Str.ofString "&quot;") (RP.subS 60 (Str.ofString "&lt;") (RP.subS 38 (Str.ofString "&amp;") x))))).length ≤ 100000) :
    Calls w mean mg mb 800 8000 137 [.str x tx] [] h (fun v _ => ∃ t, v = .str (RP.subS 13 (Str.ofString "&#xD;") (RP.subS 10 (Str.ofString "&#xA;") (RP.subS 9 (Str.ofString "&#x9;") (RP.subS 34 (Str.ofString "&quot;") (RP.subS 60 (Str.ofString "&lt;") (RP.subS 38 (Str.ofString "&amp;") x)))))) t) := by
  k_dflt (refine' enterP (binds := [(Str.ofString "text", .str x tx)]) ?k6 ?k7 ?k8 ?k9 ?kB ?_ ?c2 ?c3 ?c4 ?c5 ?bl; walk_at "my ends"; (case bl => exact Nat.zero_lt_one))
  rintro base outer s L h₁ tk rfl htk B F N X T; k_fold
  k_steps
  unfold Hold
  dsimp only
  refine RP.rep_ite (Str.ofString "&amp;") 38 (by k_asm) (by k_asm) rfl (by decide +kernel) (by omega) ?_ ?_
  · intro _
    clear X T B
    k_fold
    k_steps
    have e := RP.replace_subS x (Str.ofString "&amp;") 38
    rw [show (⟨#[38]⟩ : Str) = Str.ofString "&" from by decide +kernel] at e
    refine ⟨rfl, rfl, rfl, rfl, Nat.succ_pos _, ?_, by assumption⟩
    rw [← e]
    exact ⟨_, by assumption⟩
  intro t0 h0 tk0 htk0 F N
  k_steps
  unfold Hold
  dsimp only
  refine RP.rep_ite (Str.ofString "&lt;") 60 (by k_asm) (by k_asm) rfl (by decide +kernel) (by omega) ?_ ?_
  · intro _
    clear X T B
    k_fold
    k_steps
    have e := RP.replace_subS (RP.subS 38 (Str.ofString "&amp;") x) (Str.ofString "&lt;") 60
    rw [show (⟨#[60]⟩ : Str) = Str.ofString "<" from by decide +kernel] at e
    refine ⟨rfl, rfl, rfl, rfl, Nat.succ_pos _, ?_, by assumption⟩
    rw [← e]
    exact ⟨_, by assumption⟩
  intro t1 h1 tk1 htk1 F N
  k_steps
  unfold Hold
  dsimp only
  refine RP.rep_ite (Str.ofString "&quot;") 34 (by k_asm) (by k_asm) rfl (by decide +kernel) (by omega) ?_ ?_
  · intro _
    clear X T B
    k_fold
    k_steps
    have e := RP.replace_subS (RP.subS 60 (Str.ofString "&lt;") (RP.subS 38 (Str.ofString "&amp;") x)) (Str.ofString "&quot;") 34
    rw [show (⟨#[34]⟩ : Str) = Str.ofString "\"" from by decide +kernel] at e
    refine ⟨rfl, rfl, rfl, rfl, Nat.succ_pos _, ?_, by assumption⟩
    rw [← e]
    exact ⟨_, by assumption⟩
  intro t2 h2 tk2 htk2 F N
  k_steps
  unfold Hold
  dsimp only
  refine RP.rep_ite (Str.ofString "&#x9;") 9 (by k_asm) (by k_asm) rfl (by decide +kernel) (by omega) ?_ ?_
  · intro _
    clear X T B
    k_fold
    k_steps
    have e := RP.replace_subS (RP.subS 34 (Str.ofString "&quot;") (RP.subS 60 (Str.ofString "&lt;") (RP.subS 38 (Str.ofString "&amp;") x))) (Str.ofString "&#x9;") 9
    rw [show (⟨#[9]⟩ : Str) = Str.ofString "\t" from by decide +kernel] at e
    refine ⟨rfl, rfl, rfl, rfl, Nat.succ_pos _, ?_, by assumption⟩
    rw [← e]
    exact ⟨_, by assumption⟩
  intro t3 h3 tk3 htk3 F N
  k_steps
  unfold Hold
  dsimp only
  refine RP.rep_ite (Str.ofString "&#xA;") 10 (by k_asm) (by k_asm) rfl (by decide +kernel) (by omega) ?_ ?_
  · intro _
    clear X T B
    k_fold
    k_steps
    have e := RP.replace_subS (RP.subS 9 (Str.ofString "&#x9;") (RP.subS 34 (Str.ofString "&quot;") (RP.subS 60 (Str.ofString "&lt;") (RP.subS 38 (Str.ofString "&amp;") x)))) (Str.ofString "&#xA;") 10
    rw [show (⟨#[10]⟩ : Str) = Str.ofString "\n" from by decide +kernel] at e
    refine ⟨rfl, rfl, rfl, rfl, Nat.succ_pos _, ?_, by assumption⟩
    rw [← e]
    exact ⟨_, by assumption⟩
  intro t4 h4 tk4 htk4 F N
  k_steps
  unfold Hold
  dsimp only
  refine RP.rep_ite (Str.ofString "&#xD;") 13 (by k_asm) (by k_asm) rfl (by decide +kernel) (by omega) ?_ ?_
  · intro _
    clear X T B
    k_fold
    k_steps
    have e := RP.replace_subS (RP.subS 10 (Str.ofString "&#xA;") (RP.subS 9 (Str.ofString "&#x9;") (RP.subS 34 (Str.ofString "&quot;") (RP.subS 60 (Str.ofString "&lt;") (RP.subS 38 (Str.ofString "&amp;") x))))) (Str.ofString "&#xD;") 13
    rw [show (⟨#[13]⟩ : Str) = Str.ofString "\r" from by decide +kernel] at e
    refine ⟨rfl, rfl, rfl, rfl, Nat.succ_pos _, ?_, by assumption⟩
    rw [← e]
    exact ⟨_, by assumption⟩
  intro t5 h5 tk5 htk5 F N
  k_steps
  refine Fin.mk' (by k_asm) ⟨_, rfl⟩
/- C8 -/
def esc2 (x : Str) : Str := (RP.subS 62 (Str.ofString "&gt;") (RP.subS 60 (Str.ofString "&lt;") (RP.subS 38 (Str.ofString "&amp;") x)))
def escLen2 (x : Str) : Prop := x.length ≤ 100000 ∧ (RP.subS 38 (Str.ofString "&amp;") x).length ≤ 100000 ∧ (RP.subS 60 (Str.ofString "&lt;") (RP.subS 38 (Str.ofString "&amp;") x)).length ≤ 100000
def esc0 (x : Str) : Str := (RP.subS 9 (Str.ofString "&#09;") (RP.subS 10 (Str.ofString "&#10;") (RP.subS 13 (Str.ofString "&#13;") (RP.subS 34 (Str.ofString "&quot;") (RP.subS 62 (Str.ofString "&gt;") (RP.subS 60 (Str.ofString "&lt;") (RP.subS 38 (Str.ofString "&amp;") x)))))))
def escLen0 (x : Str) : Prop := x.length ≤ 100000 ∧ (RP.subS 38 (Str.ofString "&amp;") x).length ≤ 100000 ∧ (RP.subS 60 (Str.ofString "&lt;") (RP.subS 38 (Str.ofString "&amp;") x)).length ≤ 100000 ∧ (RP.subS 62 (Str.ofString "&gt;") (RP.subS 60 (Str.ofString "&lt;") (RP.subS 38 (Str.ofString "&amp;") x))).length ≤ 100000 ∧ (RP.subS 34 (Str.ofString "&quot;") (RP.subS 62 (Str.ofString "&gt;") (RP.subS 60 (Str.ofString "&lt;") (RP.subS 38 (Str.ofString "&amp;") x)))).length ≤ 100000 ∧ (RP.subS 13 (Str.ofString "&#13;") (RP.subS 34 (Str.ofString "&quot;") (RP.subS 62 (Str.ofString "&gt;") (RP.subS 60 (Str.ofString "&lt;") (RP.subS 38 (Str.ofString "&amp;") x))))).length ≤ 100000 ∧ (RP.subS 10 (Str.ofString "&#10;") (RP.subS 13 (Str.ofString "&#13;") (RP.subS 34 (Str.ofString "&quot;") (RP.subS 62 (Str.ofString "&gt;") (RP.subS 60 (Str.ofString "&lt;") (RP.subS 38 (Str.ofString "&amp;") x)))))).length ≤ 100000
def esc3 (x : Str) : Str := (RP.subS 13 (Str.ofString "&#xD;") (RP.subS 62 (Str.ofString "&gt;") (RP.subS 60 (Str.ofString "&lt;") (RP.subS 38 (Str.ofString "&amp;") x))))
def escLen3 (x : Str) : Prop := x.length ≤ 100000 ∧ (RP.subS 38 (Str.ofString "&amp;") x).length ≤ 100000 ∧ (RP.subS 60 (Str.ofString "&lt;") (RP.subS 38 (Str.ofString "&amp;") x)).length ≤ 100000 ∧ (RP.subS 62 (Str.ofString "&gt;") (RP.subS 60 (Str.ofString "&lt;") (RP.subS 38 (Str.ofString "&amp;") x))).length ≤ 100000
def esc1 (x : Str) : Str := (RP.subS 13 (Str.ofString "&#xD;") (RP.subS 10 (Str.ofString "&#xA;") (RP.subS 9 (Str.ofString "&#x9;") (RP.subS 34 (Str.ofString "&quot;") (RP.subS 60 (Str.ofString "&lt;") (RP.subS 38 (Str.ofString "&amp;") x))))))
def escLen1 (x : Str) : Prop := x.length ≤ 100000 ∧ (RP.subS 38 (Str.ofString "&amp;") x).length ≤ 100000 ∧ (RP.subS 60 (Str.ofString "&lt;") (RP.subS 38 (Str.ofString "&amp;") x)).length ≤ 100000 ∧ (RP.subS 34 (Str.ofString "&quot;") (RP.subS 60 (Str.ofString "&lt;") (RP.subS 38 (Str.ofString "&amp;") x))).length ≤ 100000 ∧ (RP.subS 9 (Str.ofString "&#x9;") (RP.subS 34 (Str.ofString "&quot;") (RP.subS 60 (Str.ofString "&lt;") (RP.subS 38 (Str.ofString "&amp;") x)))).length ≤ 100000 ∧ (RP.subS 10 (Str.ofString "&#xA;") (RP.subS 9 (Str.ofString "&#x9;") (RP.subS 34 (Str.ofString "&quot;") (RP.subS 60 (Str.ofString "&lt;") (RP.subS 38 (Str.ofString "&amp;") x))))).length ≤ 100000
def escOf (way : Int) (x : Str) : Str := if way = 0 then esc0 x else if way = 1 then esc1 x else if way = 2 then esc2 x else if way = 3 then esc3 x else x
def escLen (way : Int) (x : Str) : Prop := (way = 0 → escLen0 x) ∧ (way = 1 → escLen1 x) ∧ (way = 2 → escLen2 x) ∧ (way = 3 → escLen3 x)
theorem c_esc2 {w mean mg mb} (x : Str) (tx : Tok) (h : Heap) (hz : escLen2 x) : Calls w mean mg mb 800 8000 116 [.str x tx] [] h (fun v _ => ∃ t, v = .str (esc2 x) t) := by
  obtain ⟨h0, h1, h2⟩ := hz
  exact c_esc_cdata x tx h h0 h1 h2
theorem reg16 : True := by
  k_with "call ref" => ((with_reducible show wpAny _ _ (call (Value.ref 116) [Value.str _ _] _) _ _ _); k_dflt (refine' use_str (fun h _ => c_esc2 _ _ h ?b1r24) ?u1 ?u2 ?u3 ?u4 ?u5 ?u6 ?u7 ?u8 ?u9 ?u10 ?_; walk_at "my use"; (case b1r24 => walk_at "my esc2"); k_whole); intro _ _ _ _ _; (try dsimp only); (try k_sweep))
  exact trivial
theorem c_esc0 {w mean mg mb} (x : Str) (tx : Tok) (h : Heap) (hz : escLen0 x) : Calls w mean mg mb 800 8000 123 [.str x tx] [] h (fun v _ => ∃ t, v = .str (esc0 x) t) := by
  obtain ⟨h0, h1, h2, h3, h4, h5, h6⟩ := hz
  exact c_esc_attrib x tx h h0 h1 h2 h3 h4 h5 h6
theorem reg17 : True := by
  k_with "call ref" => ((with_reducible show wpAny _ _ (call (Value.ref 123) [Value.str _ _] _) _ _ _); k_dflt (refine' use_str (fun h _ => c_esc0 _ _ h ?b1r25) ?u1 ?u2 ?u3 ?u4 ?u5 ?u6 ?u7 ?u8 ?u9 ?u10 ?_; walk_at "my use"; (case b1r25 => walk_at "my esc0"); k_whole); intro _ _ _ _ _; (try dsimp only); (try k_sweep))
  exact trivial
theorem c_esc3 {w mean mg mb} (x : Str) (tx : Tok) (h : Heap) (hz : escLen3 x) : Calls w mean mg mb 800 8000 130 [.str x tx] [] h (fun v _ => ∃ t, v = .str (esc3 x) t) := by
  obtain ⟨h0, h1, h2, h3⟩ := hz
  exact c_esc_cdata_c14n x tx h h0 h1 h2 h3
theorem reg18 : True := by
  k_with "call ref" => ((with_reducible show wpAny _ _ (call (Value.ref 130) [Value.str _ _] _) _ _ _); k_dflt (refine' use_str (fun h _ => c_esc3 _ _ h ?b1r26) ?u1 ?u2 ?u3 ?u4 ?u5 ?u6 ?u7 ?u8 ?u9 ?u10 ?_; walk_at "my use"; (case b1r26 => walk_at "my esc3"); k_whole); intro _ _ _ _ _; (try dsimp only); (try k_sweep))
  exact trivial
theorem c_esc1 {w mean mg mb} (x : Str) (tx : Tok) (h : Heap) (hz : escLen1 x) : Calls w mean mg mb 800 8000 137 [.str x tx] [] h (fun v _ => ∃ t, v = .str (esc1 x) t) := by
  obtain ⟨h0, h1, h2, h3, h4, h5⟩ := hz
  exact c_esc_attrib_c14n x tx h h0 h1 h2 h3 h4 h5
theorem reg19 : True := by
  k_with "call ref" => ((with_reducible show wpAny _ _ (call (Value.ref 137) [Value.str _ _] _) _ _ _); k_dflt (refine' use_str (fun h _ => c_esc1 _ _ h ?b1r27) ?u1 ?u2 ?u3 ?u4 ?u5 ?u6 ?u7 ?u8 ?u9 ?u10 ?_; walk_at "my use"; (case b1r27 => walk_at "my esc1"); k_whole); intro _ _ _ _ _; (try dsimp only); (try k_sweep))
  exact trivial

theorem reg20 : True := by
  k_with "my esc0" => ((rename escLen _ _ => hE); exact hE.1 (by omega))
  k_with "my esc1" => ((rename escLen _ _ => hE); exact hE.2.1 (by omega))
  k_with "my esc2" => ((rename escLen _ _ => hE); exact hE.2.2.1 (by omega))
  k_with "my esc3" => ((rename escLen _ _ => hE); exact hE.2.2.2 (by omega))
  exact trivial
set_option maxHeartbeats 8000000 in
theorem c_escaped {w mean mg mb} (way : Int) (tw : Tok) (x : Str) (tx : Tok) (h : Heap) (hE : escLen way x) :
    Calls w mean mg mb 700 7000 144 [.int way tw, .str x tx] [] h (fun v _ => ∃ t, v = .str (escOf way x) t) := by
  k_dflt (refine' enterC (binds := [(Str.ofString "way", .int way tw), (Str.ofString "text", .str x tx)]) ?k6 ?k7 ?k8 ?k9 ?kB ?_ ?c2 ?c3 ?c4 ?c5; walk_at "my ends")
  rintro base outer s L h₁ tk rfl B F N X T; k_fold
  k_steps
  all_goals (refine Fin.mk' (by k_asm) ⟨_, congrArg (fun z => Value.str z _) ?_⟩; unfold escOf; repeat' split)
  all_goals first | rfl | omega
theorem reg21 : True := by
  k_with "call ref" => ((with_reducible show wpAny _ _ (call (Value.ref 144) [Value.int _ _, Value.str _ _] _) _ _ _); k_dflt (refine' use_str (fun h _ => c_escaped _ _ _ _ h ?b1r32) ?u1 ?u2 ?u3 ?u4 ?u5 ?u6 ?u7 ?u8 ?u9 ?u10 ?_; walk_at "my use"; (case b1r32 => assumption); k_whole); intro _ _ _ _ _; (try dsimp only); (try k_sweep))
  exact trivial
/- R9 -/
namespace CB
theorem strs_paired {g : Nat → Str} : ∀ (l : List UInt8) (vs ys : List Value), (∀ (j : Nat) (v : Value), vs[j]? = some v → ∃ c u, l[j]? = some c ∧ v = Value.int (c.toNat : Int) u) → vs.length = l.length → Paired (fun (v r : Value) => ∃ c : UInt8, (∃ u, v = Value.int (c.toNat : Int) u) ∧ ∃ t, r = Value.str (g c.toNat) t) vs ys → StrsAre ys (l.map fun c => g c.toNat)
  | [], vs, ys, _, hl, hp => by
    have : vs = [] := List.length_eq_zero_iff.mp hl
    subst this
    cases hp
    exact .nil
  | c :: l, vs, ys, hv, hl, hp => by
    cases hp with
    | nil => cases hl
    | cons h1 h2 =>
      rename_i v y vs' ys'
      obtain ⟨c1, u1, e1, e2⟩ := hv 0 v rfl
      obtain ⟨c2, ⟨u2, e3⟩, t, e4⟩ := h1
      have ec : c = c1 := by simpa using e1
      have e5 : (c1.toNat : Int) = (c2.toNat : Int) := by rw [e2] at e3; injection e3
      have e6 : c1.toNat = c2.toNat := by omega
      subst e4
      subst ec
      rw [List.map_cons, e6]
      exact .cons _ t (strs_paired l vs' ys' (fun j v hj => by
        have := hv (j + 1) v (by simpa using hj)
        simpa using this) (by simpa using hl) h2)
section
variable {prog : Program} {w : World} {A : Around} {E : Value → Shared → Prop} {s₁ : Shared} {h₀ : Heap} {L : Addr} {m : Str → Option Value} {news : List (Addr × Obj)}
theorem compB {env : Env} {elt : Expr} {x : Str} {scope : Scope} {Q : Value → Shared → Prop} {b : Array UInt8} {t : Tok} (g : Nat → Str)
    (hh : A.handled = none) (F : Fr h₀ L s₁.heap m) (N : News h₀ L s₁.heap news) (hsz : b.size ≤ sizeLine)
    (g2 : ∀ C (n : UInt8) u s₂ m₂ E', s₂.heap.Ns C m₂ → m₂ x = some (.int (n.toNat : Int) u) → Fr h₀ L s₂.heap m →
      wpAny (model prog w) A (eval elt (compEnv scope C env)) (fun r s₃ => (∃ t', r = .str (g n.toNat) t') ∧ Keeps s₂ s₃) E' s₂)
    (g3 : ∀ D (ys : List Value) h' tk, Fr h₀ L h' m → News h₀ L h' news → h'.IsList D ys.toArray → StrsAre ys (b.toList.map fun c => g c.toNat) → Q (.ref D) { s₁ with heap := h', toks := tk }) :
    wpAny (model prog w) A (pyIter (.bytes b t)) (CompPost prog w A env scope x [] elt Q) E s₁ := by
  unfold CompPost
  refine KBw.pyIter_bytes ?_
  have W := KBw.walks (prog := prog) (w := w) hh s₁.heap.objs.size b t
  have up : ∀ (h' : Heap) (o : Obj), (∀ b o', b ∉ [s₁.heap.objs.size] → (s₁.heap.push o).get? b = some o' → h'.get? b = some o') → ∀ b o', s₁.heap.get? b = some o' → h'.get? b = some o' :=
    fun h' o hk b o' e => hk b o' (old_not_new e) (Heap.get?_push_of_some _ e)
  refine ⟨fun _ => true, fun v r => ∃ c : UInt8, (∃ u, v = .int (c.toNat : Int) u) ∧ ∃ t, r = .str (g c.toNat) t, s₁.heap.objs.size, [s₁.heap.objs.size], [s₁.heap.objs.size], b.size, _, _, rfl, W, hsz, ⟨_, Heap.get?_push_size _ rfl, rfl, rfl⟩, ?_, ⟨?_, ?_⟩, ?_⟩
  · intro a ha
    show a < (s₁.heap.push _).objs.size
    rw [Heap.size_push, List.mem_singleton.mp ha]
    exact Nat.lt_succ_self _
  · intro C i v s₃ m₃ E' hP hn hm _ htk
    exact wpAny_pure ⟨rfl, s₃.heap, s₃.toks, rfl, fun _ _ e => e⟩
  · intro C i v s₃ m₃ E' hP hp hn hm hk htk
    obtain ⟨c, u, _, rfl⟩ := hP
    exact wpAny_mono (g2 C c u s₃ m₃ E' hn hm (F.keeps (up _ _ hk))) (fun r s₄ h₄ => ⟨⟨c, ⟨u, rfl⟩, h₄.1⟩, h₄.2⟩) fun _ _ e => e
  · intro D h' tk ys vs hnew hlD hplD hlen hP hF hk
    refine g3 D ys.toList h' tk (F.keeps (up h' _ hk)) (N.grown (up h' _ hk)) (by rw [Array.toArray_toList]; exact hlD) ?_
    have e : vs.filter (fun _ => true) = vs := by simp
    rw [e] at hF
    exact strs_paired b.toList vs ys.toList (fun j v hj => by
      obtain ⟨c, u, h1, h2⟩ := hP j v hj
      exact ⟨c, u, by simpa using h1, h2⟩) (by simpa using hlen) hF
theorem ldc_built {K : Frag} {C : Addr} {scope : Scope} {env : Env} {p : Program} {loose : List Str} {mean : ExcName → Option Value} {mg mb : Str → Option Value} {x : Str} {pos : Pos} {v : Value} {M : Model} {Q : Value → Shared → Prop}
    (F : Fr h₀ L s₁.heap m) (X : K.In h₀) (T : Top p loose mean mg mb h₀) (e : nsIn K mainGlobals x = some none) (hv : bootBuiltins x = some v) (hn : x ≠ "__name__") (h : Q v s₁) (hg : env.globals = mainGlobals) (hb : env.builtins = builtinsNs)
    (hk : (compEnv scope C env).scope.kind = .function) (hx : (compEnv scope C env).kindOf x = some .globalImplicit) (hd : (x == ("__debug__" : Str)) = false) :
    wpAny M A (eval (.Name x pos) (compEnv scope C env)) Q E s₁ :=
  Name_function_global hk hx (loadGlobal_builtin (env := compEnv scope C env) (show s₁.heap.Ns env.globals mg from hg ▸ (T.keeps F.keep).g) (mg_none_of X T.g e) (show s₁.heap.Ns env.builtins mb from hb ▸ (T.keeps F.keep).b) ((T.builtins x hn).trans hv) h) hd
end
theorem join_txt (l : List UInt8) : Txt.join (Str.ofString "") (l.map fun c => (⟨#[c.toNat]⟩ : Str)) = ⟨(l.map (·.toNat)).toArray⟩ := by
  have h : (Str.ofString "") = (⟨#[]⟩ : Str) := by decide +kernel
  have h1 := eq_of_beq (join_plain_closes (Str.ofString "") (l.map fun c => (⟨#[c.toNat]⟩ : Str)))
  rw [h1, h, show (l.map fun c => (⟨#[c.toNat]⟩ : Str)) = (l.map (·.toNat)).map fun k => (⟨#[k]⟩ : Str) by rw [List.map_map]; rfl]
  exact join_ones _
end CB
/- C9 -/
theorem reg22 : True := by
  k_with "call ref" => ((with_reducible show wpAny _ _ (call (Value.ref 102) [Value.str _ _, Value.str _ _] _) _ _ _); k_dflt (refine' use_bytes (fun h _ => c_b64decode _ _ _ _ h ?b1r33 ?b2r33 ?b3r33 ?b4r33 ?b5r33 ?b6r33 ?b7r33 ?b8r33 ?b9r33 ?b10r33) ?u1 ?u2 ?u3 ?u4 ?u5 ?u6 ?u7 ?u8 ?u9 ?u10 ?_; walk_at "my use"; (case b1r33 => assumption); (case b2r33 => assumption); (case b3r33 => assumption); (case b4r33 => assumption); (case b5r33 => assumption); (case b6r33 => assumption); (case b7r33 => assumption); (case b8r33 => assumption); (case b9r33 => assumption); (case b10r33 => assumption); k_whole); intro _ _ _ _ _; (try dsimp only); (try k_sweep))
  exact trivial

def encB (b : Array UInt8) (wr : Str) : Array UInt8 := TR.trans (TR.mkTab #[43, 47] (EN.enc wr)) (toB (bFold (KBw.bInts b)).1)
def txtB (b : Array UInt8) (wr : Str) : Str := ⟨((encB b wr).toList.map (·.toNat)).toArray⟩
def escB (b : Array UInt8) (way : Int) (wr : Str) : Str := escOf way (txtB b wr)
def passB (b : Array UInt8) (way : Int) (wr rd : Str) : Array UInt8 := toB (aFold (KBw.bInts (decIn (escB b way wr) rd))).1
structure PassOk (b : Array UInt8) (way : Int) (wr rd : Str) : Prop where
  hb : b.size ≤ 2000
  hb3 : b.size % 3 = 0
  hw1 : ∀ c ∈ wr.cps.toList, c < 128
  hw2 : wr.cps.size ≤ sizeLine
  hw3 : (EN.enc wr).size = 2
  hE : escLen way (txtB b wr)
  hx : ∀ c ∈ (escB b way wr).cps.toList, c < 128
  hz : (escB b way wr).cps.size ≤ sizeLine
  hr : ∀ c ∈ rd.cps.toList, c < 128
  hrz : rd.cps.size ≤ sizeLine
  hr2 : (EN.enc rd).size = 2
  hxz : (EN.enc (escB b way wr)).size ≤ sizeLine
  hb1 : (decIn (escB b way wr) rd).size ≤ 20000
  h61 : ∀ n ∈ KBw.bInts (decIn (escB b way wr) rd), n ≠ 61
  hq : (aFold (KBw.bInts (decIn (escB b way wr) rd))).2.1 = 0
  hrg : ∀ y ∈ (aFold (KBw.bInts (decIn (escB b way wr) rd))).1, 0 ≤ y ∧ y < 256

set_option maxHeartbeats 8000000 in
theorem c_passed {w mean mg mb} (b : Array UInt8) (tb : Tok) (way : Int) (tw : Tok) (wr rd : Str) (t1 t2 : Tok) (h : Heap) (ok : PassOk b way wr rd) :
    Calls w mean mg mb 600 6000 149 [.bytes b tb, .int way tw, .str wr t1, .str rd t2] [] h (fun v _ => ∃ t, v = .bytes (passB b way wr rd) t) := by
  obtain ⟨hb, hb3, hw1, hw2, hw3, hE, hx, hz, hr, hrz, hr2, hxz, hb1, h61, hq, hrg⟩ := ok
  k_dflt (refine' enterC (binds := [(Str.ofString "row", .bytes b tb), (Str.ofString "way", .int way tw), (Str.ofString "written", .str wr t1), (Str.ofString "read", .str rd t2)]) ?k6 ?k7 ?k8 ?k9 ?kB ?_ ?c2 ?c3 ?c4 ?c5; walk_at "my ends")
  rintro base outer s L h₁ tk rfl B F N X T; k_fold
  k_steps
  have hzz : (encB b wr).size ≤ 4000 := by
    have := bFold_len (KBw.bInts b)
    rw [KBw.ints_length] at this
    unfold encB TR.trans toB
    simp
    omega
  refine CB.compB (b := encB b wr) (fun n => ⟨#[n]⟩) rfl (by k_asm) (by k_asm) (by rw [sizeLine_eq]; omega) ?_ ?_
  · intro C n u s₂ m₂ E' hns hx F₂
    have hn := n.toNat_lt
    k_steps
    k_dflt (refine' CB.ldc_built F₂ X T ?e ?hv ?hn ?_ ?hg ?hb2 ?hk ?hx2 ?hd2; (case e => k_is); (case hv => rfl); (case hn => decide); (case hg => rfl); (case hb2 => rfl); (case hk => rfl); (case hx2 => rfl); (case hd2 => decide))
    k_steps
    exact ⟨_, _, rfl, fun _ _ e => e⟩
  · intro D ys h' tk F' N' hl hs
    dsimp only
    k_steps
    refine join_list hl (by simpa using hs) ?_ ?_
    · have e : ((List.map (fun c : UInt8 => ({ cps := #[c.toNat] } : Str)) (encB b wr).toList).map (·.length)).sum = (encB b wr).size := by
        have : ∀ l : List UInt8, ((l.map (fun c : UInt8 => ({ cps := #[c.toNat] } : Str))).map (·.length)).sum = l.length := by
          intro l
          induction l with
          | nil => rfl
          | cons a r ih => rw [List.map_cons, List.map_cons, List.sum_cons, ih, List.length_cons]; show 1 + _ = _; omega
        rw [this]; simp
      rw [e]
      have e2 : (Str.ofString "").length = 0 := by decide +kernel
      rw [e2]
      omega
    · intro t' k'
      rw [CB.join_txt]
      change wpAny _ _ (storeName _ _ (Value.str (txtB b wr) t')) _ _ _
      k_fold
      k_steps
      exact Fin.mk' (by k_asm) ⟨_, rfl⟩
theorem reg23 : True := by
  k_with "call ref" => ((with_reducible show wpAny _ _ (call (Value.ref 149) [Value.bytes _ _, Value.int _ _, Value.str _ _, Value.str _ _] _) _ _ _); k_dflt (refine' use_bytes (fun h _ => c_passed _ _ _ _ _ _ _ _ h ?b1r34) ?u1 ?u2 ?u3 ?u4 ?u5 ?u6 ?u7 ?u8 ?u9 ?u10 ?_; walk_at "my use"; (case b1r34 => assumption); k_whole); intro _ _ _ _ _; (try dsimp only); (try k_sweep))
  exact trivial
/- R10 -/
namespace FL
/-- the end of a turn of a loop over a list: the iterator stands, the invariant holds for the next -/
structure TurnEnd (h₀ : Heap) (L I : Addr) (oI : Obj) (s : Shared) (J : (Str → Option Value) → List (Addr × Obj) → Prop) (s' : Shared) : Prop where
  gens : s'.gens = s.gens
  drawn : s'.drawn = s.drawn
  os : s'.os = s.os
  rest : ∃ m nw, Fr h₀ L s'.heap m ∧ News h₀ L s'.heap ((I, oI) :: nw) ∧ (∀ p ∈ nw, p.1 ≠ I) ∧ J m nw
def TurnPost (h₀ : Heap) (L I : Addr) (oI : Obj) (s : Shared) (J : (Str → Option Value) → List (Addr × Obj) → Prop) (Q : Flow → Shared → Prop) (f : Flow) (s' : Shared) : Prop :=
  match f with
  | .ret v => Q (.ret v) s'
  | .brk => Q .next s'
  | _ => TurnEnd h₀ L I oI s J s'
theorem turnEnd {h₀ h' : Heap} {L I : Addr} {oI : Obj} {s : Shared} {J : (Str → Option Value) → List (Addr × Obj) → Prop} {tk : Nat} {m : Str → Option Value} {nw : List (Addr × Obj)}
    (F : Fr h₀ L h' m) (N : News h₀ L h' ((I, oI) :: nw)) (hI : ∀ p ∈ nw, p.1 ≠ I) (j : J m nw) : TurnEnd h₀ L I oI s J { s with heap := h', toks := tk } := ⟨rfl, rfl, rfl, m, nw, F, N, hI, j⟩
section
variable {prog : Program} {w : World} {A : Around} {E : Value → Shared → Prop} {s : Shared} {h₀ : Heap} {env : Env} {Q : Flow → Shared → Prop} {target iter : Expr} {body : List Stmt} {pos : Pos}
theorem letGo {I l : Addr} {i : Nat} {v : Value} {Q : Unit → Shared → Prop} (hi : s.heap.IsListIter I l i) (hq : Q () s) : wpAny (model prog w) A (letOwnedTupleGo target (.ref I) v) Q E s := by
  obtain ⟨o, ho, hc, hd⟩ := hi
  unfold letOwnedTupleGo
  have key : wpAny (model prog w) A (do
      let (.ref r, .ref a) := (Value.ref I, v) | return
      let o ← load r
      match o.cls, o.data with
      | .type n, .fields vs =>
        if ["enumerate", "zip", "dict_itemiterator", "dict_reverseitemiterator", "odict_iterator", "itertools.zip_longest", "itertools.pairwise"].contains n && vs[0]? == some (rawInt a) then
          rule "for.unpacks-the-owned-tuple"
          updateField r 0 .none
      | _, _ => pure ()) Q E s := by
    cases v with
    | ref a =>
      refine wpAny_bind (wpAny_load ho ?_)
      rw [hc, hd]
      exact wpAny_pure hq
    | _ => exact wpAny_pure hq
  cases target <;> first | exact key | exact wpAny_pure hq
theorem forL_at {l : Addr} {items : Array Value} {m₀ : Str → Option Value} {news₀ : List (Addr × Obj)} (J : Nat → (Str → Option Value) → List (Addr × Obj) → Prop)
    (hh : A.handled = none) (F : Fr h₀ env.locals s.heap m₀) (N : News h₀ env.locals s.heap news₀)
    (hl : ∀ i m nw h, J i m nw → Fr h₀ env.locals h m → News h₀ env.locals h nw → h.IsList l items)
    (hj : J 0 m₀ news₀)
    (turn : ∀ i v m nw h tk I oI, items[i]? = some v → J i m nw → Fr h₀ env.locals h m → News h₀ env.locals h ((I, oI) :: nw) → (∀ p ∈ nw, p.1 ≠ I) →
      wpAny (model prog w) A (assign target env v) (fun _ s₂ => wpAny (model prog w) A (execs body env) (TurnPost h₀ env.locals I oI s (J (i + 1)) Q) (fun _ _ => False) s₂) (fun _ _ => False) { s with heap := h, toks := tk })
    (done : ∀ m nw h tk, J items.size m nw → Fr h₀ env.locals h m → News h₀ env.locals h nw → Q .next { s with heap := h, toks := tk })
    : wpAny (model prog w) A (pyIter (.ref l)) (fun it s₂ => codeAny (model prog w) A (.forLoop target it body [] env) (fun r s' => match r with | .ok f => Q f s' | .error e => cameBackBy (model prog w) A env E e s') s₂) E s := by
  have hl0 := hl 0 m₀ news₀ s.heap hj F N
  obtain ⟨ol, hol, _⟩ := id hl0
  have hne : l ≠ s.heap.objs.size := Nat.ne_of_lt (Heap.lt_size hol)
  refine wpAny_pyIter_list hl0 ?_
  have W := Walks.list (prog := prog) (w := w) hh s.heap.objs.size l hne items
  have hLI : env.locals ≠ s.heap.objs.size := Nat.ne_of_lt F.ns.lt
  have hI0 : h₀.get? s.heap.objs.size = none := next_is_new F
  refine codeAny_forLoop_any (fun n s' => ∃ i m nw, n = items.size - i ∧ i ≤ items.size ∧ s'.gens = s.gens ∧ s'.drawn = s.drawn ∧ s'.os = s.os ∧ s'.heap.IsListIter s.heap.objs.size l i ∧ Fr h₀ env.locals s'.heap m ∧ News h₀ env.locals s'.heap nw ∧ (∀ p ∈ nw, p.1 ≠ s.heap.objs.size) ∧ J i m nw) ?_ items.size ?_
  · rintro n s' ⟨i, m, nw, rfl, hi, e1, e2, e3, hit, F', N', hI, hJ⟩
    have es : s' = { s with heap := s'.heap, toks := s'.toks } := by
      obtain ⟨_, _, _, _, _⟩ := s'; cases e1; cases e2; cases e3; rfl
    by_cases hlt : i < items.size
    · refine W.item i s' _ _ hlt ⟨hit, hl i m nw _ hJ F' N'⟩ ?_
      intro v h' tk hP hst hk
      dsimp only
      refine letGo hst.1 ?_
      obtain ⟨oI, hoI, _⟩ := id hst.1
      have F₂ : Fr h₀ env.locals h' m := LCg.fr_but F' hk hLI hI0
      have N₂ : News h₀ env.locals h' nw := LCg.news_but N' hk hI
      have t := turn i v m nw h' tk s.heap.objs.size oI hP hJ F₂ (fun p hp => by
        rcases List.mem_cons.mp hp with rfl | hp
        · exact ⟨hoI, fun e => hLI e.symm, hI0⟩
        · exact N₂ p hp) hI
      rw [es]
      refine wpAny_mono t (fun _ s₂ h₂ => wpAny_mono h₂ (fun f s₃ h₃ => ?_) fun _ _ e => e.elim) fun _ _ e => e.elim
      have fin : TurnEnd h₀ env.locals s.heap.objs.size oI s (J (i + 1)) s₃ → ∃ m', m' < items.size - i ∧ ∃ i₂ m₂ nw₂, m' = items.size - i₂ ∧ i₂ ≤ items.size ∧ s₃.gens = s.gens ∧ s₃.drawn = s.drawn ∧ s₃.os = s.os ∧ s₃.heap.IsListIter s.heap.objs.size l i₂ ∧ Fr h₀ env.locals s₃.heap m₂ ∧ News h₀ env.locals s₃.heap nw₂ ∧ (∀ p ∈ nw₂, p.1 ≠ s.heap.objs.size) ∧ J i₂ m₂ nw₂ := by
        rintro ⟨g1, g2, g3, m₃, nw₃, F₃, N₃, hI₃, hJ₃⟩
        refine ⟨items.size - (i + 1), by omega, i + 1, m₃, nw₃, rfl, by omega, g1, g2, g3, ?_, F₃, fun p hp => N₃ p (.tail _ hp), hI₃, hJ₃⟩
        exact hst.1.at fun o e => by
          have e' : oI = o := Option.some.inj (hoI.symm.trans e)
          rw [← e']; exact (N₃ _ (.head _)).1
      cases f with
      | ret v => exact h₃
      | brk => exact h₃
      | next => exact fin h₃
      | cont => exact fin h₃
    · have hi' : i = items.size := by omega
      subst hi'
      refine W.done s' _ _ ⟨hit, hl _ m nw _ hJ F' N'⟩ ?_
      intro h' tk hk
      dsimp only
      rw [es]
      exact wpAny_pure (done m nw h' tk hJ (LCg.fr_but F' hk hLI hI0) (LCg.news_but N' hk hI))
  · exact ⟨0, m₀, news₀, by omega, Nat.zero_le _, rfl, rfl, rfl, ⟨_, Heap.get?_push_size _ rfl, rfl, rfl⟩, F.push _, fun p hp => ⟨Heap.get?_push_of_some _ (N p hp).1, (N p hp).2⟩, fun p hp e => absurd (Heap.lt_size (N p hp).1) (by rw [e]; exact Nat.lt_irrefl _), hj⟩
theorem forL {l : Addr} {items : Array Value} {m₀ : Str → Option Value} {news₀ : List (Addr × Obj)} (J : Nat → (Str → Option Value) → List (Addr × Obj) → Prop)
    (hh : A.handled = none) (F : Fr h₀ env.locals s.heap m₀) (N : News h₀ env.locals s.heap news₀)
    (hev : ∀ (Q' : Value → Shared → Prop), Q' (.ref l) s → wpAny (model prog w) A (eval iter env) Q' E s)
    (hl : ∀ i m nw h, J i m nw → Fr h₀ env.locals h m → News h₀ env.locals h nw → h.IsList l items)
    (hj : J 0 m₀ news₀)
    (turn : ∀ i v m nw h tk I oI, items[i]? = some v → J i m nw → Fr h₀ env.locals h m → News h₀ env.locals h ((I, oI) :: nw) → (∀ p ∈ nw, p.1 ≠ I) →
      wpAny (model prog w) A (assign target env v) (fun _ s₂ => wpAny (model prog w) A (execs body env) (TurnPost h₀ env.locals I oI s (J (i + 1)) Q) (fun _ _ => False) s₂) (fun _ _ => False) { s with heap := h, toks := tk })
    (done : ∀ m nw h tk, J items.size m nw → Fr h₀ env.locals h m → News h₀ env.locals h nw → Q .next { s with heap := h, toks := tk })
    (hs : ∀ x, foldedSetIterable iter env x = pure x) :
    wpAny (model prog w) A (exec (.For target iter body [] pos) env) Q E s :=
  wpAny_For (hev _ (forL_at J hh F N hl hj turn done)) hs
end
end FL
/- C10 -/
theorem frKnown {h₀ h : Heap} {L : Addr} {m : Str → Option Value} {x : Str} {v : Value} (F : Fr h₀ L h m) (e : m x = some v) : Fr h₀ L h (fun y => if y = x then some v else m y) := by
  have : (fun y => if y = x then some v else m y) = m := by
    funext y
    by_cases hy : y = x
    · rw [if_pos hy, hy, e]
    · rw [if_neg hy]
  rw [this]; exact F
abbrev Pass := Int × Str × Str
def PassesAt (h : Heap) (vs : List Value) (ps : List Pass) : Prop :=
  vs.length = ps.length ∧ ∀ (i : Nat) (p : Pass), ps[i]? = some p → ∃ a tw t1 t2, vs[i]? = some (Value.ref a) ∧ IsTup h a #[.int p.1 tw, .str p.2.1 t1, .str p.2.2 t2]
def runB (b : Array UInt8) (ps : List Pass) : Array UInt8 := ps.foldl (fun b p => passB b p.1 p.2.1 p.2.2) b
def RunOk (b : Array UInt8) (ps : List Pass) : Prop := ∀ (i : Nat) (p : Pass), ps[i]? = some p → PassOk (runB b (ps.take i)) p.1 p.2.1 p.2.2
theorem runB_succ (b : Array UInt8) (ps : List Pass) (i : Nat) (p : Pass) (h : ps[i]? = some p) : runB b (ps.take (i + 1)) = passB (runB b (ps.take i)) p.1 p.2.1 p.2.2 := by
  rw [List.take_add_one, h]; simp [runB]
set_option maxHeartbeats 8000000 in
theorem c_run {w mean mg mb} (b : Array UInt8) (tb : Tok) (l : Addr) (vs : List Value) (ps : List Pass) (h : Heap) (hl : h.IsList l vs.toArray) (hp : PassesAt h vs ps) (ok : RunOk b ps) :
    Calls w mean mg mb 500 5000 156 [.bytes b tb, .ref l] [] h (fun v _ => ∃ t, v = .bytes (runB b ps) t) := by
  k_dflt (refine' enterC (binds := [(Str.ofString "row", .bytes b tb), (Str.ofString "passes", .ref l)]) ?k6 ?k7 ?k8 ?k9 ?kB ?_ ?c2 ?c3 ?c4 ?c5; walk_at "my ends")
  rintro base outer s L h₁ tk rfl B F N X T; k_fold
  k_steps
  k_dflt (refine' FL.forL (l := l) (items := vs.toArray) (fun i m nw => nw = [] ∧ ∃ t, m (Str.ofString "row") = some (.bytes (runB b (ps.take i)) t)) ?hh ?F ?N ?hev ?hl ?hj ?turn ?done ?hs; (case F => exact F); (case N => exact N); (case hh => rfl); (case hs => (intro _; rfl)))
  case hev => intro Q' hq; exact ld F rfl hq
  case hl => intro i m nw h _ F' _; exact hl.at fun o e => F'.keep _ _ e
  case hj => exact ⟨rfl, _, rfl⟩
  case turn =>
    rintro i v m nw h tk I oI hv ⟨rfl, t, hm⟩ F' N' _
    have hi : i < ps.length := by
      have := (Array.getElem?_eq_some_iff.mp hv).1
      rw [← hp.1]; simpa using this
    obtain ⟨a, tw, t1, t2, e1, e2⟩ := hp.2 i ps[i] (by simp [hi])
    have ev : v = .ref a := by
      have : vs[i]? = some v := by simpa using hv
      rw [e1] at this; exact (Option.some.inj this).symm
    subst ev
    have ok1 := ok i ps[i] (by simp [hi])
    have hrun := runB_succ b ps i ps[i] (by simp [hi])
    have F' := frKnown F' hm
    rw [hrun]
    generalize ps[i] = p at *
    obtain ⟨way, wr, rd⟩ := p
    dsimp only at *
    generalize runB b (ps.take i) = r at *
    clear hm hrun
    k_steps
    exact FL.turnEnd (nw := []) (by k_asm) (by k_asm) (fun _ hp => nomatch hp) ⟨rfl, _, rfl⟩
  case done =>
    rintro m nw h tk ⟨rfl, t, hm⟩ F' N'
    have F' := frKnown F' hm
    k_steps
    refine Fin.mk' (by k_asm) ⟨t, ?_⟩
    rw [List.size_toArray, hp.1, List.take_length]
/- C15 -/
theorem reg24 : True := by
  k_with "exec For Name Subscript cons nil" => (refine Hold.out ?_)
  exact trivial
namespace RL
section
variable {prog : Program} {w : World} {A : Around} {E : Value → Shared → Prop} {s : Shared} {h₀ : Heap} {env : Env} {Q : Flow → Shared → Prop} {x : Str} {body : List Stmt}
theorem rangeLoop {r : Addr} {a b c : Int} {t₀ u₀ v₀ : Tok} {n : Nat} {m₀ : Str → Option Value} {news : List (Addr × Obj)} (J : Nat → (Str → Option Value) → List (Addr × Obj) → Prop)
    (hh : A.handled = none) (hr : IsRange s.heap r a b c t₀ u₀ v₀) (hsmall : Builtin.Range.small a b c = true) (hn : Builtin.Range.rangeSize a b c = (n : Int)) (F : Fr h₀ env.locals s.heap m₀) (N : News h₀ env.locals s.heap news) (hj : J 0 m₀ news)
    (turn : ∀ i t m nw h tk own, i < n → OwnOff own (news.map (·.1)) → J i m nw → Fr h₀ env.locals h (fun y => if y = x then some (.int (a + (i : Int) * c) t) else m y) → News h₀ env.locals h (nw ++ own) →
      wpAny (model prog w) A (execs body env) (InvPostN h₀ env.locals (J (i + 1)) own (news.map (·.1)) { s with heap := h, toks := tk } Q) E { s with heap := h, toks := tk })
    (done : ∀ m nw h tk, J n m nw → Fr h₀ env.locals h m → News h₀ env.locals h nw → Q .next { s with heap := h, toks := tk }) :
    wpAny (model prog w) A (pyIter (.ref r)) (fun it s₂ => LoopAtV prog w A h₀ env x body Q E it s₂) E s := by
  refine wpAny_pyIter_range hr hsmall ?_
  have W := Walks.range (prog := prog) (w := w) hh s.heap.objs.size a c n
  refine loop_invN J W ?_ ?_ ?_ ?_ (by show IsRangeIter _ _ _ _ _; rw [hn]; simpa using Heap.get?_push_size _ rfl) (F.push _) (fun p hp => ⟨Heap.get?_push_of_some _ (N p hp).1, (N p hp).2⟩) hj ?_ ?_
  · intro hm
    exact absurd F.ns.lt ((List.mem_singleton.mp hm) ▸ Nat.lt_irrefl _)
  · intro b hb
    rw [List.mem_singleton.mp hb]
    exact next_is_new F
  · intro p hp hI
    exact absurd (Heap.lt_size (N p hp).1) ((List.mem_singleton.mp hI) ▸ Nat.lt_irrefl _)
  · intro p hp hI
    exact absurd (Heap.lt_size (N p hp).1) ((List.mem_singleton.mp hI) ▸ Nat.lt_irrefl _)
  · rintro i v m₁ nx h tk own hi ⟨t, rfl⟩ _ hoff hJ F₁ N₁
    exact turn i t m₁ nx h tk own hi hoff hJ F₁ N₁
  · intro m₁ nx h tk hJ F₁ N₁
    exact done m₁ nx h tk hJ F₁ N₁
end
end RL
theorem frIn {h₀ h : Heap} {L : Addr} {m : Str → Option Value} {x z : Str} {v0 : Option Value} {v : Value} (F : Fr h₀ L h (fun y => if y = x then v0 else m y)) (e : m z = some v) : Fr h₀ L h (fun y => if y = x then v0 else if y = z then some v else m y) := by
  have : (fun y => if y = x then v0 else if y = z then some v else m y) = fun y => if y = x then v0 else m y := by
    funext y
    by_cases hx : y = x
    · rw [if_pos hx, if_pos hx]
    · rw [if_neg hx, if_neg hx]
      by_cases hy : y = z
      · rw [if_pos hy, hy, e]
      · rw [if_neg hy]
  rw [this]; exact F
def oct4 (a b c d : Int) : List Int :=
  let n := 64 * (64 * (64 * (64 * 0 + a) + b) + c) + d
  [n.fdiv 65536, (n.fdiv 256).fmod 256, n.fmod 256]
def octI : List Int → List Int
  | a :: b :: c :: d :: r => oct4 a b c d ++ octI r
  | _ => []
theorem octI_append : ∀ (l : List Int) (a b c d : Int), l.length % 4 = 0 → octI (l ++ [a, b, c, d]) = octI l ++ oct4 a b c d
  | [], a, b, c, d, _ => by simp [octI]
  | [_], _, _, _, _, h => by simp at h
  | [_, _], _, _, _, _, h => by simp at h
  | [_, _, _], _, _, _, _, h => by simp at h
  | p :: q :: r :: s :: l, a, b, c, d, h => by
    have ih := octI_append l a b c d (by simp at h; omega)
    show oct4 p q r s ++ octI (l ++ [a, b, c, d]) = oct4 p q r s ++ octI l ++ oct4 a b c d
    rw [ih, List.append_assoc]
theorem octI_len : ∀ l : List Int, (octI l).length ≤ l.length
  | a :: b :: c :: d :: r => by
    have := octI_len r
    show (oct4 a b c d ++ octI r).length ≤ _
    rw [List.length_append]
    simp [oct4]; omega
  | [] => by simp [octI]
  | [_] => by simp [octI]
  | [_, _] => by simp [octI]
  | [_, _, _] => by simp [octI]

theorem octI_range : ∀ l : List Int, (∀ f ∈ l, 0 ≤ f ∧ f < 64) → ∀ x ∈ octI l, 0 ≤ x ∧ x < 256
  | a :: b :: c :: d :: r, h => by
    have ih := octI_range r fun f hf => h f (by simp [hf])
    have ha := h a (by simp)
    have hb := h b (by simp)
    have hc := h c (by simp)
    have hd := h d (by simp)
    intro x hx
    rcases List.mem_append.mp (show x ∈ oct4 a b c d ++ octI r from hx) with h1 | h1
    · simp only [oct4, List.mem_cons, List.not_mem_nil, or_false] at h1
      rw [Int.fdiv_eq_ediv_of_nonneg _ (by decide), Int.fdiv_eq_ediv_of_nonneg _ (by decide), Int.fmod_eq_emod_of_nonneg _ (by decide), Int.fmod_eq_emod_of_nonneg _ (by decide)] at h1
      omega
    · exact ih x h1
  | [], _ => by simp [octI]
  | [_], _ => by simp [octI]
  | [_, _], _ => by simp [octI]
  | [_, _, _], _ => by simp [octI]
theorem oct_end {h₀ h' : Heap} {L E' D' l' l : Addr} {o1 o2 : Obj} {own : List (Addr × Obj)} {us : List Value} {its2 : Array Value} {cnt tk : Nat} {m' : Str → Option Value} {s : Shared} {A B C : List Int}
    (F' : Fr h₀ L h' m') (N' : News h₀ L h' ((E', o1) :: (D', o2) :: (l', W.listOf (us.toArray.toList ++ its2.toList).toArray (cnt + 1)) :: own)) (hus : IntsAre us A) (h3 : IntsAre its2.toList B) (hAB : C = A ++ B)
    (hm1 : m' (Str.ofString "octets") = some (.ref l')) (hm2 : m' (Str.ofString "figures") = some (.ref l)) :
    InvEndN h₀ L (fun m nw => ∃ us cnt, nw = [(l', W.listOf us.toArray cnt)] ∧ IntsAre us C ∧ m (Str.ofString "octets") = some (.ref l') ∧ m (Str.ofString "figures") = some (.ref l)) own [l'] s { s with heap := h', toks := tk } := by
  refine InvEndN.intro (nx := [(l', W.listOf (us.toArray.toList ++ its2.toList).toArray (cnt + 1))]) F' N' ⟨_, _, rfl, ?_, hm1, hm2⟩ rfl ?_ ?_
  · rw [hAB]
    exact IntsAre.append hus h3
  · intro p hp
    rcases List.mem_cons.mp hp with rfl | hp
    · exact .tail _ (.tail _ (.head _))
    · cases hp
  · intro p hp
    exact .tail _ (.tail _ (.tail _ hp))
theorem size_four (n q : Nat) (h : n = 4 * q) : Builtin.Range.rangeSize 0 (n : Int) 4 = (q : Int) := by
  unfold Builtin.Range.rangeSize
  rw [if_pos (by decide)]
  split <;> omega
theorem fitsLong (i : Int) (h0 : 0 ≤ i) (h1 : i < 1000000) : Builtin.Range.rangeFitsLong i = true := by
  have e : (2 : Int) ^ 63 = 9223372036854775808 := by decide
  unfold Builtin.Range.rangeFitsLong
  rw [e, decide_eq_true (by omega), decide_eq_true (by omega)]
  rfl
theorem small_four (n q : Nat) (h : n = 4 * q) (hn : n ≤ 2000) : Builtin.Range.small 0 (n : Int) 4 = true := by
  unfold Builtin.Range.small
  rw [size_four n q h, fitsLong 0 (by decide) (by decide), fitsLong n (by omega) (by omega), fitsLong 4 (by decide) (by decide), fitsLong q (by omega) (by omega), if_pos (by decide), fitsLong _ (by omega) (by omega)]
  simp
set_option maxHeartbeats 8000000 in
theorem c_octets {w mean mg mb} (l : Addr) (vs : List Value) (ns : List Int) (h : Heap) (hl : h.IsList l vs.toArray) (hi : IntsAre vs ns) (hn : ns.length ≤ 2000) (hn4 : ns.length % 4 = 0) (hf : ∀ f ∈ ns, 0 ≤ f ∧ f < 64) :
    Calls w mean mg mb 500 5000 189 [.ref l] [] h (fun v _ => ∃ t, v = .bytes (toB (octI ns)) t) := by
  k_dflt (refine' enterC (binds := [(Str.ofString "figures", .ref l)]) ?k6 ?k7 ?k8 ?k9 ?kB ?_ ?c2 ?c3 ?c4 ?c5; walk_at "my ends")
  rintro base outer s L h₁ tk rfl B F N X T; k_fold
  k_steps
  rename Fr _ _ _ _ => FL
  rename News _ _ _ _ => NL
  rename IsRange _ _ _ _ _ _ _ _ => hr
  rename_i l' _ _ _ _ _ _ _ _ _ _ _
  obtain ⟨q, hq⟩ : ∃ q, ns.length = 4 * q := ⟨ns.length / 4, by omega⟩
  k_dflt (refine' RL.rangeLoop (n := q) (fun i m nw => ∃ us cnt, nw = [(l', W.listOf us.toArray cnt)] ∧ IntsAre us (octI (ns.take (4 * i))) ∧ m (Str.ofString "octets") = some (.ref l') ∧ m (Str.ofString "figures") = some (.ref l)) ?hh ?hr ?hsmall ?hn ?F ?N ?hj ?turn ?done; (case F => exact FL); (case N => exact NL); (case hh => rfl); (case hr => exact hr))
  case hsmall => exact small_four _ q hq hn
  case hn => exact size_four _ q hq
  case hj => exact ⟨[], 0, rfl, IntsAre.nil, rfl, rfl⟩
  case turn =>
    rintro i t m nw h tk own hiq hoff ⟨us, cnt, rfl, hus, hm1, hm2⟩ F' N'
    have F' := frIn (frIn F' hm1) (z := Str.ofString "figures") (v := .ref l) (by
      show (if Str.ofString "figures" = Str.ofString "octets" then _ else m _) = _
      rw [if_neg (by decide)]; exact hm2)
    have hMk := kstMark
    dsimp only at *
    (try k_fold)
    k_steps
    unfold Hold
    refine wpAny_For ?_ (by intro _; rfl)
    k_steps
    rename IntsAre _ (List.take _ _) => hI'
    rename Fr _ _ _ _ => FI
    rename News _ _ _ _ => NI
    rename_i D' ws' _ l1 _ _
    obtain ⟨a, b, c, d, rest, hdrop⟩ : ∃ a b c d rest, ns.drop (4 * i) = a :: b :: c :: d :: rest := by
      have hlen : (ns.drop (4 * i)).length ≥ 4 := by rw [List.length_drop]; omega
      match hd : ns.drop (4 * i), hlen with
      | a :: b :: c :: d :: rest, _ => exact ⟨a, b, c, d, rest, rfl⟩
    have hch : List.take (min (0 + (i : Int) * 4 + 4).toNat ns.length - (0 + (i : Int) * 4).toNat) (List.drop (0 + (i : Int) * 4).toNat ns) = [a, b, c, d] := by
      have e1 : (0 + (i : Int) * 4).toNat = 4 * i := by omega
      have e2 : min (0 + (i : Int) * 4 + 4).toNat ns.length - (0 + (i : Int) * 4).toNat = 4 := by omega
      rw [e2, e1, hdrop]; rfl
    rw [hch] at hI'
    have hfa : ∀ f ∈ [a, b, c, d], 0 ≤ f ∧ f < 64 := fun f hf' => hf f (by
      have : f ∈ ns.drop (4 * i) := by
        rw [hdrop]
        simp only [List.mem_cons, List.not_mem_nil, or_false] at hf'
        rcases hf' with e | e | e | e <;> subst e <;> simp
      exact List.mem_of_mem_drop this)
    have htake : ns.take (4 * (i + 1)) = ns.take (4 * i) ++ [a, b, c, d] := by
      have : 4 * (i + 1) = 4 * i + 4 := by omega
      rw [this, List.take_add, hdrop]; rfl
    obtain ⟨ha0, ha1⟩ := hfa a (by simp)
    obtain ⟨hb0, hb1⟩ := hfa b (by simp)
    obtain ⟨hc0, hc1⟩ := hfa c (by simp)
    obtain ⟨hd0, hd1⟩ := hfa d (by simp)
    have hD : l' < D' := l1 _ (.head _)
    have hOD : ∀ p ∈ own, p.1 < D' := fun p hp => l1 p (List.mem_append_right _ hp)
    k_dflt (refine' FL.forL_at (l := D') (items := ws'.toArray) (fun j m nw => nw = (D', W.listOf ws'.toArray 0) :: (l', W.listOf us.toArray cnt) :: own ∧ (∃ t, m (Str.ofString "number") = some (.int (([a, b, c, d].take j).foldl (fun n f => 64 * n + f) 0) t)) ∧ m (Str.ofString "octets") = some (.ref l') ∧ m (Str.ofString "figures") = some (.ref l)) ?hh2 ?F2 ?N2 ?hl2 ?hj2 ?turn2 ?done2; (case F2 => exact FI); (case N2 => exact NI); (case hh2 => rfl))
    case hl2 => rintro j m nw h ⟨rfl, _⟩ F N; exact ⟨_, (N _ (.head _)).1, rfl, _, rfl⟩
    case hj2 => exact ⟨rfl, ⟨_, rfl⟩, rfl, rfl⟩
    case turn2 =>
      rintro j v m nw h tk I oI hv ⟨rfl, ⟨tn, hm3⟩, hm4, hm5⟩ F N hI
      have hj : j < 4 := by
        have := (Array.getElem?_eq_some_iff.mp hv).1
        have e := hI'.length
        simp at this e
        omega
      obtain ⟨k, tk, hvk, hk⟩ := IntsAre.at hI' j v (by simpa using hv)
      have hkn : 0 ≤ k ∧ k < 64 := hfa k (List.mem_of_getElem? hk)
      subst hvk
      have F := frKnown (frKnown (frKnown F hm5) (x := Str.ofString "octets") (v := .ref l') (by
        show (if Str.ofString "octets" = Str.ofString "figures" then _ else m _) = _
        rw [if_neg (by decide)]; exact hm4)) (x := Str.ofString "number") (by
        show (if Str.ofString "number" = Str.ofString "octets" then _ else if Str.ofString "number" = Str.ofString "figures" then _ else m _) = _
        rw [if_neg (by decide), if_neg (by decide)]; exact hm3)
      have hnum : List.foldl (fun n f => 64 * n + f) 0 (List.take (j + 1) [a, b, c, d]) = 64 * List.foldl (fun n f => 64 * n + f) 0 (List.take j [a, b, c, d]) + k := by
        rw [List.take_add_one, hk, Option.toList_some, List.foldl_append]; rfl
      rw [hnum]
      have hb0 : 0 ≤ List.foldl (fun n f => 64 * n + f) 0 (List.take j [a, b, c, d]) ∧ List.foldl (fun n f => 64 * n + f) 0 (List.take j [a, b, c, d]) < 16777216 := by
        have h4 : j = 0 ∨ j = 1 ∨ j = 2 ∨ j = 3 := by omega
        rcases h4 with h | h | h | h <;> subst h <;> simp only [List.take, List.foldl] <;> omega
      generalize List.foldl (fun n f => 64 * n + f) 0 (List.take j [a, b, c, d]) = num at *
      obtain ⟨hb1, hb2⟩ := hb0
      k_steps
      exact FL.turnEnd (by k_asm) (by k_asm) hI ⟨rfl, ⟨_, rfl⟩, rfl, rfl⟩
    case done2 =>
      rintro m nw h tk ⟨rfl, ⟨tn, hm3⟩, hm4, hm5⟩ F N
      have e := hI'.length
      simp at e
      rw [show ws'.toArray.size = 4 by simpa using e] at hm3
      have F := frKnown (frKnown F hm4) (x := Str.ofString "number") (by
        show (if Str.ofString "number" = Str.ofString "octets" then _ else m _) = _
        rw [if_neg (by decide)]; exact hm3)
      dsimp only [List.take, List.foldl] at F
      k_steps
      rename_i E' h9 F9 N9 l9
      have hul := hus.length
      have hol := octI_len (ns.take (4 * i))
      rw [List.length_take] at hol
      have hus2 : us.toArray.size ≤ 2000 := by simp; omega
      refine kl_extend F9 N9 (.head _) rfl (Nat.succ_ne_zero _) (.tail ?_ (.tail ?_ (.head ?_))) ?_ ?_ ?_ ?_
      · exact Nat.ne_of_gt l9.2.1
      · exact Nat.ne_of_gt hD
      · exact fun p hp => hoff p hp l' (.head _)
      · unfold Builtin.List.listTooLong
        rw [sizeLine_eq]
        simp at hus2 ⊢
        omega
      · rw [sizeLine_eq]; simp at hus2 ⊢; omega
      · rw [sizeLine_eq]; simp at hus2 ⊢; omega
      · intro h' F' N'
        k_steps
        unfold Hold
        refine oct_end F' N' hus (.cons _ _ (.cons _ _ (.cons _ _ .nil))) ?_ rfl hm5
        rw [htake, octI_append _ _ _ _ _ (by rw [List.length_take]; omega)]
        rfl
  case done =>
    rintro m nw h tk ⟨us, cnt, rfl, hus, hm1, hm2⟩ F' N'
    have F' := frKnown F' hm1
    have hMk := kstMark
    k_steps
    rw [show 4 * q = ns.length by omega, List.take_length] at hus
    have hl2 : h.IsList l' us.toArray := ⟨_, (N' _ (.head _)).1, rfl, _, rfl⟩
    have hlen := octI_len ns
    have hul := hus.length
    refine bytes_K F' N' hl2 hus (octI_range ns hf) (by rw [sizeLine_eq]; omega) rfl ?_
    intro h' t' k' F'' N'' _
    exact Fin.mk' F'' ⟨t', rfl⟩
theorem reg25 : True := by
  k_with "call ref" => ((with_reducible show wpAny _ _ (call (Value.ref 189) [Value.ref _] _) _ _ _); k_dflt (refine' use_bytes (fun h e => c_octets _ _ _ h ?b1r36 ?b2r36 ?b3r36 ?b4r36 ?b5r36) ?u1 ?u2 ?u3 ?u4 ?u5 ?u6 ?u7 ?u8 ?u9 ?u10 ?_; walk_at "my use"; (case b1r36 => (subst e; walk_at "my list")); (case b2r36 => assumption); (case b3r36 => assumption); (case b4r36 => assumption); (case b5r36 => assumption); k_whole); intro _ _ _ _ _; (try dsimp only); (try k_sweep))
  exact trivial
/- C11 -/
abbrev tupO (items : Array Value) : Obj := { cls := .type "tuple", data := .seq items }
def PassAt (v : Value) (h h' : Heap) (p : Pass) : Prop := ∃ a tw t1 t2, v = .ref a ∧ h.get? a = none ∧ h'.get? a = some (tupO #[.int p.1 tw, .str p.2.1 t1, .str p.2.2 t2])
def insT : List (List Pass) := [[(0, Str.ofString "\r\n", Str.ofString "30"), (0, Str.ofString "\n\r", Str.ofString "03"), (0, Str.ofString "\r\n", Str.ofString "30"), (0, Str.ofString "\n\r", Str.ofString "03"), (0, Str.ofString "\r\n", Str.ofString "30"), (0, Str.ofString "\n\r", Str.ofString "03")],
  [(1, Str.ofString "\t\n", Str.ofString "9A"), (1, Str.ofString "\n\r", Str.ofString "AD"), (1, Str.ofString "\r\t", Str.ofString "D9"), (1, Str.ofString "\t\r", Str.ofString "9D"), (1, Str.ofString "\n\t", Str.ofString "A9"), (1, Str.ofString "\r\n", Str.ofString "DA")],
  [(0, Str.ofString "<>", Str.ofString "lg"), (0, Str.ofString "><", Str.ofString "gl"), (2, Str.ofString "<>", Str.ofString "lg"), (2, Str.ofString "><", Str.ofString "gl"), (3, Str.ofString "<>", Str.ofString "lg"), (3, Str.ofString "><", Str.ofString "gl")]]
def insP (kind pick : Int) : Pass := (insT.getD kind.toNat []).getD pick.toNat (0, Str.ofString "", Str.ofString "")
theorem getD_len {l : List Str} {i : Nat} {d : Str} (h : i < l.length) (hall : ∀ x ∈ l, x.length = 3) : (l.getD i d).length = 3 := by
  rw [List.getD_eq_getElem?_getD, List.getElem?_eq_getElem h]
  exact hall _ (List.getElem_mem h)
theorem passAt_of {h h' : Heap} {L D : Addr} {tw t1 t2 : Tok} {way : Int} {a b : Str} {p : Pass} {r : List (Addr × Obj)} (N : News h L h' ((D, tupO #[.int way tw, .str a t1, .str b t2]) :: r)) (e : p = (way, a, b)) : PassAt (.ref D) h h' p := by
  subst e; exact ⟨D, tw, t1, t2, rfl, (N _ (.head _)).2.2, (N _ (.head _)).1⟩
theorem reg26 : True := by
  k_with "subscriptTail" => ((with_reducible show wpAny _ _ (subscriptTail _ _ (Value.str (List.getD _ _ _) _) (Value.int _ _)) _ _ _); k_dflt (refine' KXi.item (n := 3) ?hkr37 ?h0r37 ?h1r37 ?hnr37 ?_; (case hkr37 => exact getD_len (by assumption) (by decide +kernel)); (case h0r37 => omega); (case h1r37 => omega); (case hnr37 => decide)); intro _)
  k_with "subscriptTail Name Name str int" => ((with_reducible show wpAny _ _ (subscriptTail _ _ (Value.str (List.getD _ _ _) _) (Value.int _ _)) _ _ _); k_dflt (refine' KXi.item (n := 3) ?hkr38 ?h0r38 ?h1r38 ?hnr38 ?_; (case hkr38 => exact getD_len (by assumption) (by decide +kernel)); (case h0r38 => omega); (case h1r38 => omega); (case hnr38 => decide)); intro _)
  exact trivial
set_option maxHeartbeats 8000000 in
theorem c_ins_0 {w mean mg mb} (pick : Int) (tk1 tk2 : Tok) (h : Heap) (hp0 : 0 ≤ pick) (hp1 : pick < 6) :
    Calls w mean mg mb 600 6000 163 [.int 0 tk1, .int pick tk2] [] h (fun v h' => PassAt v h h' (insP 0 pick)) := by
  k_dflt (refine' enterC (binds := [(Str.ofString "kind", .int 0 tk1), (Str.ofString "pick", .int pick tk2)]) ?k6 ?k7 ?k8 ?k9 ?kB ?_ ?c2 ?c3 ?c4 ?c5; walk_at "my ends")
  rintro base outer s L h₁ tk rfl B F N X T; k_fold
  k_with "table" => skip
  k_steps
  have hp : pick = 0 ∨ pick = 1 ∨ pick = 2 ∨ pick = 3 ∨ pick = 4 ∨ pick = 5 := by omega
  all_goals first
    | (show False; omega)
    | (rename News _ _ _ _ => NE
       refine Fin.mk' (by k_asm) ?_
       refine passAt_of NE ?_
       rcases hp with e | e | e | e | e | e <;> rw [e] <;> decide +kernel)
set_option maxHeartbeats 8000000 in
theorem c_ins_1 {w mean mg mb} (pick : Int) (tk1 tk2 : Tok) (h : Heap) (hp0 : 0 ≤ pick) (hp1 : pick < 6) :
    Calls w mean mg mb 600 6000 163 [.int 1 tk1, .int pick tk2] [] h (fun v h' => PassAt v h h' (insP 1 pick)) := by
  k_dflt (refine' enterC (binds := [(Str.ofString "kind", .int 1 tk1), (Str.ofString "pick", .int pick tk2)]) ?k6 ?k7 ?k8 ?k9 ?kB ?_ ?c2 ?c3 ?c4 ?c5; walk_at "my ends")
  rintro base outer s L h₁ tk rfl B F N X T; k_fold
  k_with "table" => skip
  k_steps
  have hp : pick = 0 ∨ pick = 1 ∨ pick = 2 ∨ pick = 3 ∨ pick = 4 ∨ pick = 5 := by omega
  all_goals first
    | (show False; omega)
    | (rename News _ _ _ _ => NE
       refine Fin.mk' (by k_asm) ?_
       refine passAt_of NE ?_
       rcases hp with e | e | e | e | e | e <;> rw [e] <;> decide +kernel)
set_option maxHeartbeats 8000000 in
theorem c_ins_2 {w mean mg mb} (pick : Int) (tk1 tk2 : Tok) (h : Heap) (hp0 : 0 ≤ pick) (hp1 : pick < 6) :
    Calls w mean mg mb 600 6000 163 [.int 2 tk1, .int pick tk2] [] h (fun v h' => PassAt v h h' (insP 2 pick)) := by
  k_dflt (refine' enterC (binds := [(Str.ofString "kind", .int 2 tk1), (Str.ofString "pick", .int pick tk2)]) ?k6 ?k7 ?k8 ?k9 ?kB ?_ ?c2 ?c3 ?c4 ?c5; walk_at "my ends")
  rintro base outer s L h₁ tk rfl B F N X T; k_fold
  k_with "table" => skip
  k_steps
  have hp : pick = 0 ∨ pick = 1 ∨ pick = 2 ∨ pick = 3 ∨ pick = 4 ∨ pick = 5 := by omega
  all_goals first
    | (show False; omega)
    | (rename News _ _ _ _ => NE
       refine Fin.mk' (by k_asm) ?_
       refine passAt_of NE ?_
       rcases hp with e | e | e | e | e | e <;> rw [e] <;> decide +kernel)
theorem c_insertion {w mean mg mb} (kind pick : Int) (tk1 tk2 : Tok) (h : Heap) (hk : kind = 0 ∨ kind = 1 ∨ kind = 2) (hp0 : 0 ≤ pick) (hp1 : pick < 6) :
    Calls w mean mg mb 600 6000 163 [.int kind tk1, .int pick tk2] [] h (fun v h' => PassAt v h h' (insP kind pick)) := by
  rcases hk with e | e | e <;> subst e
  · exact c_ins_0 pick tk1 tk2 h hp0 hp1
  · exact c_ins_1 pick tk1 tk2 h hp0 hp1
  · exact c_ins_2 pick tk1 tk2 h hp0 hp1
/- R13 -/
namespace WL
structure WEnd (h₀ : Heap) (L : Addr) (s : Shared) (n : Nat) (J : Nat → (Str → Option Value) → List (Addr × Obj) → Prop) (s' : Shared) : Prop where
  gens : s'.gens = s.gens
  drawn : s'.drawn = s.drawn
  os : s'.os = s.os
  rest : ∃ n' m nw, n' < n ∧ Fr h₀ L s'.heap m ∧ News h₀ L s'.heap nw ∧ J n' m nw
def WPost (h₀ : Heap) (L : Addr) (s : Shared) (n : Nat) (J : Nat → (Str → Option Value) → List (Addr × Obj) → Prop) (Q : Flow → Shared → Prop) (f : Flow) (s' : Shared) : Prop :=
  match f with
  | .ret v => Q (.ret v) s'
  | .brk => Q .next s'
  | _ => WEnd h₀ L s n J s'
theorem wEnd {h₀ h' : Heap} {L : Addr} {s : Shared} {J : Nat → (Str → Option Value) → List (Addr × Obj) → Prop} {tk n : Nat} {m : Str → Option Value} {nw : List (Addr × Obj)} (n' : Nat)
    (hn : n' < n) (F : Fr h₀ L h' m) (N : News h₀ L h' nw) (j : J n' m nw) : WEnd h₀ L s n J { s with heap := h', toks := tk } := ⟨rfl, rfl, rfl, n', m, nw, hn, F, N, j⟩
section
variable {prog : Program} {w : World} {A : Around} {E : Value → Shared → Prop} {s : Shared} {h₀ : Heap} {env : Env} {Q : Flow → Shared → Prop} {test : Expr} {body : List Stmt} {pos : Pos}
theorem whileI {m₀ : Str → Option Value} {news₀ : List (Addr × Obj)} (J : Nat → (Str → Option Value) → List (Addr × Obj) → Prop) (n₀ : Nat)
    (F : Fr h₀ env.locals s.heap m₀) (N : News h₀ env.locals s.heap news₀) (hj : J n₀ m₀ news₀)
    (turn : ∀ n m nw h tk, J n m nw → Fr h₀ env.locals h m → News h₀ env.locals h nw →
      wpAny (model prog w) A (isTrue test env (eval test env)) (fun b s₂ => if b = true then wpAny (model prog w) A (execs body env) (WPost h₀ env.locals s n J Q) (fun _ _ => False) s₂ else Q .next s₂) (fun _ _ => False) { s with heap := h, toks := tk }) :
    wpAny (model prog w) A (exec (.While test body [] pos) env) Q E s := by
  refine wpAny_While ?_
  refine codeAny_whileLoop (fun n s' => ∃ m nw, s'.gens = s.gens ∧ s'.drawn = s.drawn ∧ s'.os = s.os ∧ Fr h₀ env.locals s'.heap m ∧ News h₀ env.locals s'.heap nw ∧ J n m nw) ?_ n₀ ⟨m₀, news₀, rfl, rfl, rfl, F, N, hj⟩
  rintro n s' ⟨m, nw, e1, e2, e3, F', N', hJ⟩
  have es : s' = { s with heap := s'.heap, toks := s'.toks } := by
    obtain ⟨_, _, _, _, _⟩ := s'; cases e1; cases e2; cases e3; rfl
  rw [es]
  refine wpAny_mono (turn n m nw s'.heap s'.toks hJ F' N') (fun b s₂ h₂ => ?_) fun _ _ e => e.elim
  cases b with
  | false => simp only [Bool.false_eq_true, if_false] at h₂ ⊢; exact wpAny_pure h₂
  | true =>
    simp only [if_true] at h₂ ⊢
    refine wpAny_mono h₂ (fun f s₃ h₃ => ?_) fun _ _ e => e.elim
    have fin : WEnd h₀ env.locals s n J s₃ → ∃ m', m' < n ∧ ∃ m₂ nw₂, s₃.gens = s.gens ∧ s₃.drawn = s.drawn ∧ s₃.os = s.os ∧ Fr h₀ env.locals s₃.heap m₂ ∧ News h₀ env.locals s₃.heap nw₂ ∧ J m' m₂ nw₂ := by
      rintro ⟨g1, g2, g3, n', m₃, nw₃, hn, F₃, N₃, hJ₃⟩
      exact ⟨n', hn, m₃, nw₃, g1, g2, g3, F₃, N₃, hJ₃⟩
    cases f with
    | ret v => exact h₃
    | brk => exact h₃
    | next => exact fin h₃
    | cont => exact fin h₃
end
end WL
theorem reg27 : True := by
  k_with "exec While Compare cons nil" => (refine Hold.out ?_)
  exact trivial
/- S13 -/
namespace SL
theorem ints_drop : ∀ {vs : List Value} {ns : List Int} (k : Nat), IntsAre vs ns → IntsAre (vs.drop k) (ns.drop k)
  | _, _, 0, h => by simpa using h
  | _, _, _ + 1, .nil => .nil
  | _, _, k + 1, .cons _ _ h => ints_drop k h
theorem ints_take : ∀ {vs : List Value} {ns : List Int} (k : Nat), IntsAre vs ns → IntsAre (vs.take k) (ns.take k)
  | _, _, 0, _ => .nil
  | _, _, _ + 1, .nil => .nil
  | _, _, k + 1, .cons i t h => .cons i t (ints_take k h)
theorem sz_of {vs : List Value} {ns : List Int} (h : IntsAre vs ns) (hb : ns.length ≤ 100000) : vs.toArray.size ≤ sizeLine := by
  rw [List.size_toArray, h.length, sizeLine_eq]; omega
section
variable {prog : Program} {w : World} {A : Around} {E : Value → Shared → Prop} {s : Shared} {h₀ : Heap} {L l : Addr} {m : Str → Option Value} {news : List (Addr × Obj)} {value slice : PySem.Expr} {vs : List Value} {ns : List Int} {Q : Value → Shared → Prop}
theorem part {lo hi : Option Int} {vl vu : Value} (r : List Int) (F : Fr h₀ L s.heap m) (N : News h₀ L s.heap news) (hl : s.heap.IsList l vs.toArray) (hi' : IntsAre vs ns) (pl : IsPart vl lo) (pu : IsPart vu hi)
    (e : (ns.drop (kms_lo lo ns.length)).take (kms_hi hi ns.length - kms_lo lo ns.length) = r)
    (hz : vs.toArray.size ≤ sizeLine)
    (h : ∀ D ws h', Fr h₀ L h' m → News h₀ L h' ((D, W.listOf (List.toArray ws) 0) :: news) → (∀ p ∈ news, p.1 < D) → IntsAre ws r → Q (.ref D) { s with heap := h' })
    (hs : subscripted slice false (.ref l) (.ref s.heap.objs.size) = operate [.ref s.heap.objs.size, .ref l] (getItem (.ref l) (.ref s.heap.objs.size))) (ht : ∀ r, letTemporaryGo value (.ref l) r = pure ()) :
    wpAny (model prog w) A (subscriptTail value slice (.ref l) (.ref s.heap.objs.size)) Q E { s with heap := s.heap.push { cls := .type "slice", data := .fields #[vl, vu, .none] } } := by
  refine kms_slice_lit (its := vs.toArray) F N hl pl pu rfl (fun D h' F' N' l1 => h D _ h' F' N' l1 ?_) hs ht hz
  rw [← e, ← hi'.length]
  exact ints_take _ (ints_drop _ hi')
theorem from_ {k : Int} {t : Tok} (F : Fr h₀ L s.heap m) (N : News h₀ L s.heap news) (hl : s.heap.IsList l vs.toArray) (hi' : IntsAre vs ns) (h0 : 0 ≤ k) (hz : vs.toArray.size ≤ sizeLine)
    (h : ∀ D ws h', Fr h₀ L h' m → News h₀ L h' ((D, W.listOf (List.toArray ws) 0) :: news) → (∀ p ∈ news, p.1 < D) → IntsAre ws (ns.drop k.toNat) → Q (.ref D) { s with heap := h' })
    (hs : subscripted slice false (.ref l) (.ref s.heap.objs.size) = operate [.ref s.heap.objs.size, .ref l] (getItem (.ref l) (.ref s.heap.objs.size))) (ht : ∀ r, letTemporaryGo value (.ref l) r = pure ()) :
    wpAny (model prog w) A (subscriptTail value slice (.ref l) (.ref s.heap.objs.size)) Q E { s with heap := s.heap.push { cls := .type "slice", data := .fields #[.int k t, .none, .none] } } := by
  refine part (ns.drop k.toNat) F N hl hi' (IsPart.int _ _) IsPart.none ?_ hz h hs ht
  show (ns.drop (if k < 0 then _ else _)).take (ns.length - (if k < 0 then _ else _)) = _
  rw [if_neg (by omega)]
  by_cases hk : k.toNat ≤ ns.length
  · rw [Nat.min_eq_left hk, List.take_of_length_le (by rw [List.length_drop]; exact Nat.le_refl _)]
  · rw [Nat.min_eq_right (by omega), List.drop_of_length_le (Nat.le_refl _), List.drop_of_length_le (by omega)]
    simp
theorem to_ {k : Int} {t : Tok} (F : Fr h₀ L s.heap m) (N : News h₀ L s.heap news) (hl : s.heap.IsList l vs.toArray) (hi' : IntsAre vs ns) (h0 : 0 ≤ k) (hz : vs.toArray.size ≤ sizeLine)
    (h : ∀ D ws h', Fr h₀ L h' m → News h₀ L h' ((D, W.listOf (List.toArray ws) 0) :: news) → (∀ p ∈ news, p.1 < D) → IntsAre ws (ns.take k.toNat) → Q (.ref D) { s with heap := h' })
    (hs : subscripted slice false (.ref l) (.ref s.heap.objs.size) = operate [.ref s.heap.objs.size, .ref l] (getItem (.ref l) (.ref s.heap.objs.size))) (ht : ∀ r, letTemporaryGo value (.ref l) r = pure ()) :
    wpAny (model prog w) A (subscriptTail value slice (.ref l) (.ref s.heap.objs.size)) Q E { s with heap := s.heap.push { cls := .type "slice", data := .fields #[.none, .int k t, .none] } } := by
  refine part (ns.take k.toNat) F N hl hi' IsPart.none (IsPart.int _ _) ?_ hz h hs ht
  show (ns.drop 0).take ((if k < 0 then _ else _) - 0) = _
  rw [if_neg (by omega), List.drop_zero, Nat.sub_zero]
  by_cases hk : k.toNat ≤ ns.length
  · rw [Nat.min_eq_left hk]
  · rw [Nat.min_eq_right (by omega), List.take_of_length_le (Nat.le_refl _), List.take_of_length_le (by omega)]
theorem ab_ {a b : Int} {t u : Tok} (F : Fr h₀ L s.heap m) (N : News h₀ L s.heap news) (hl : s.heap.IsList l vs.toArray) (hi' : IntsAre vs ns) (h0 : 0 ≤ a) (h1 : 0 ≤ b) (h2 : a ≤ ns.length) (h3 : b ≤ ns.length) (hz : vs.toArray.size ≤ sizeLine)
    (h : ∀ D ws h', Fr h₀ L h' m → News h₀ L h' ((D, W.listOf (List.toArray ws) 0) :: news) → (∀ p ∈ news, p.1 < D) → IntsAre ws ((ns.drop a.toNat).take (b.toNat - a.toNat)) → Q (.ref D) { s with heap := h' })
    (hs : subscripted slice false (.ref l) (.ref s.heap.objs.size) = operate [.ref s.heap.objs.size, .ref l] (getItem (.ref l) (.ref s.heap.objs.size))) (ht : ∀ r, letTemporaryGo value (.ref l) r = pure ()) :
    wpAny (model prog w) A (subscriptTail value slice (.ref l) (.ref s.heap.objs.size)) Q E { s with heap := s.heap.push { cls := .type "slice", data := .fields #[.int a t, .int b u, .none] } } := by
  refine part _ F N hl hi' (IsPart.int _ _) (IsPart.int _ _) ?_ hz h hs ht
  show (ns.drop (if a < 0 then _ else _)).take ((if b < 0 then _ else _) - (if a < 0 then _ else _)) = _
  rw [if_neg (by omega), if_neg (by omega), Nat.min_eq_left (by omega), Nat.min_eq_left (by omega)]
end
end SL
theorem reg28 : True := by
  k_with "subscriptTail Name Slice ref ref" => (k_here; (with_reducible show wpAny _ _ (subscriptTail _ (PySem.Expr.Slice (some _) none none _) (Value.ref _) (Value.ref _)) _ _ _); k_dflt (refine' SL.from_ ?Fr40 ?Nr40 ?lr40 ?ir40 ?h0r40 ?zr40 ?_ ?sr40 ?tr40; (case Fr40 => k_asm); (case Nr40 => k_asm); (case lr40 => kmk_list); (case ir40 => first | (with_reducible assumption) | l_ints); (case h0r40 => walk_at "my nonneg"); (case zr40 => walk_at "my size"); (case sr40 => with_unfolding_all rfl); (case tr40 => kmk_pure)); intro _ _ _ _ _ l1 _; (try k_lt l1); (try k_sweep))
  k_with "subscriptTail Name Slice ref ref" => (k_here; (with_reducible show wpAny _ _ (subscriptTail _ (PySem.Expr.Slice none (some _) none _) (Value.ref _) (Value.ref _)) _ _ _); k_dflt (refine' SL.to_ ?Fr41 ?Nr41 ?lr41 ?ir41 ?h0r41 ?zr41 ?_ ?sr41 ?tr41; (case Fr41 => k_asm); (case Nr41 => k_asm); (case lr41 => kmk_list); (case ir41 => first | (with_reducible assumption) | l_ints); (case h0r41 => walk_at "my nonneg"); (case zr41 => walk_at "my size"); (case sr41 => with_unfolding_all rfl); (case tr41 => kmk_pure)); intro _ _ _ _ _ l1 _; (try k_lt l1); (try k_sweep))
  k_with "subscriptTail Name Slice ref ref" => (k_here; (with_reducible show wpAny _ _ (subscriptTail _ (PySem.Expr.Slice none none (some _) _) (Value.ref _) (Value.ref _)) _ _ _); k_dflt (refine' krv_ints ?Fr42 ?Nr42 ?lr42 ?kr42 ?ir42 ?_ ?sr42 ?tr42 ?zr42; (case Fr42 => k_asm); (case Nr42 => k_asm); (case lr42 => kmk_list); (case kr42 => exact IsPart.int _ _); (case ir42 => first | (with_reducible assumption) | l_ints); (case sr42 => with_unfolding_all rfl); (case tr42 => kmk_pure); (case zr42 => walk_at "my size")); intro _ _ _ _ _ l1 _ _; (try k_lt l1); (try k_sweep))
  k_with "my size" => (refine' SL.sz_of ?ar43 ?br43; (case ar43 => first | (with_reducible assumption) | l_ints); (case br43 => ((try simp only [List.length_drop, List.length_take, List.length_append, List.length_reverse, List.length_cons, List.length_nil]); omega)))
  k_with "my nonneg" => first | assumption | exact Int.natCast_nonneg _
  exact trivial
/- P1 -/
namespace PW
/-- the shortest palindrome that begins so -/
def closed : List Int → List Int
  | [] => []
  | a :: w => if a :: w = (a :: w).reverse then a :: w else a :: closed w ++ [a]
theorem closed_least : ∀ (k : Nat) (w : List Int), k ≤ w.length → w.drop k = (w.drop k).reverse → (∀ j, j < k → w.drop j ≠ (w.drop j).reverse) → closed w = w ++ (w.take k).reverse
  | 0, [], _, _, _ => rfl
  | 0, a :: w, _, h, _ => by
    have h' : a :: w = (a :: w).reverse := h
    show (if _ then _ else _) = _
    rw [if_pos h']; simp
  | k + 1, [], h, _, _ => by simp at h
  | k + 1, a :: w, hk, h, hj => by
    have h0 : ¬ a :: w = (a :: w).reverse := hj 0 (Nat.succ_pos _)
    have ih := closed_least k w (by simpa using hk) (by simpa using h) (fun j hj' => by
      have := hj (j + 1) (by omega)
      simpa using this)
    show (if _ then _ else _) = _
    rw [if_neg h0, ih]
    simp
def psi (a : Int) (w : List Int) : List Int := w.flatMap fun b => if b = a then [a] else [a, b]
def rho (a : Int) (w : List Int) : List Int := w.flatMap fun b => if b = a then [a] else [b, a]
theorem psi_nil (a : Int) : psi a [] = [] := rfl
theorem psi_app (a : Int) (u v : List Int) : psi a (u ++ v) = psi a u ++ psi a v := by simp [psi]
theorem rho_app (a : Int) (u v : List Int) : rho a (u ++ v) = rho a u ++ rho a v := by simp [rho]
theorem psi_same (a : Int) (w : List Int) : psi a (a :: w) = a :: psi a w := by simp [psi]
theorem psi_other {a b : Int} (h : b ≠ a) (w : List Int) : psi a (b :: w) = a :: b :: psi a w := by simp [psi, h]
theorem psi_one (a : Int) : psi a [a] = [a] := by simp [psi]
theorem psi_two {a b : Int} (h : b ≠ a) : psi a [b] = [a, b] := by simp [psi, h]
/-- ahead or behind: they differ by a turn -/
theorem turn (a : Int) : ∀ w : List Int, psi a w ++ [a] = a :: rho a w
  | [] => rfl
  | b :: w => by
    have ih := turn a w
    by_cases h : b = a
    · subst h; rw [psi_same, List.cons_append, ih]; simp [rho]
    · rw [psi_other h, List.cons_append, List.cons_append, ih]; simp [rho, h]
theorem rev_psi (a : Int) (w : List Int) : (psi a w).reverse = rho a w.reverse := by
  induction w with
  | nil => rfl
  | cons b w ih =>
    by_cases h : b = a
    · subst h; rw [psi_same, List.reverse_cons, ih, List.reverse_cons, rho_app]; simp [rho]
    · rw [psi_other h, List.reverse_cons, List.reverse_cons, ih, List.reverse_cons, rho_app]; simp [rho, h]
theorem rev_phi (a : Int) (w : List Int) : (psi a w ++ [a]).reverse = psi a w.reverse ++ [a] := by
  rw [List.reverse_append, rev_psi, turn]; rfl
theorem phi_head (a : Int) : ∀ w : List Int, ∃ r, psi a w ++ [a] = a :: r
  | w => ⟨rho a w, turn a w⟩
theorem phi_inj (a : Int) : ∀ u v : List Int, psi a u ++ [a] = psi a v ++ [a] → u = v
  | [], [], _ => rfl
  | [], b :: v, h => by
    exfalso
    have := congrArg List.length h
    by_cases e : b = a
    · subst e; rw [psi_same] at this; simp [psi_nil] at this
    · rw [psi_other e] at this; simp [psi_nil] at this
  | b :: u, [], h => by
    exfalso
    have := congrArg List.length h
    by_cases e : b = a
    · subst e; rw [psi_same] at this; simp [psi_nil] at this
    · rw [psi_other e] at this; simp [psi_nil] at this
  | b :: u, c :: v, h => by
    by_cases e : b = a
    · by_cases f : c = a
      · subst e; subst f
        rw [psi_same, psi_same, List.cons_append, List.cons_append] at h
        rw [phi_inj _ u v (List.cons.inj h).2]
      · exfalso
        subst e
        rw [psi_same, psi_other f, List.cons_append, List.cons_append, List.cons_append, turn] at h
        exact f (List.cons.inj (List.cons.inj h).2).1.symm
    · by_cases f : c = a
      · exfalso
        subst f
        rw [psi_same, psi_other e, List.cons_append, List.cons_append, List.cons_append, turn _ v] at h
        exact e (List.cons.inj (List.cons.inj h).2).1
      · rw [psi_other e, psi_other f, List.cons_append, List.cons_append, List.cons_append, List.cons_append] at h
        have h2 := List.cons.inj (List.cons.inj h).2
        rw [h2.1, phi_inj _ u v h2.2]
theorem phi_pal (a : Int) (w : List Int) : psi a w ++ [a] = (psi a w ++ [a]).reverse ↔ w = w.reverse := by
  rw [rev_phi]
  exact ⟨fun h => phi_inj a _ _ h, fun h => by rw [← h]⟩
theorem ends_ne {b x : Int} {w : List Int} (h : b ≠ x) : ¬ (b :: (w ++ [x]) = (b :: (w ++ [x])).reverse) := by
  intro e
  rw [List.reverse_cons, List.reverse_append, List.reverse_singleton, List.singleton_append, List.cons_append] at e
  exact h (List.cons.inj e).1
theorem closed_pal {w : List Int} (h : w = w.reverse) : closed w = w := by
  cases w with
  | nil => rfl
  | cons a w => show (if _ then _ else _) = _; rw [if_pos h]
theorem closed_not {a : Int} {w : List Int} (h : ¬ a :: w = (a :: w).reverse) : closed (a :: w) = a :: closed w ++ [a] := by
  show (if _ then _ else _) = _; rw [if_neg h]
theorem closed_phi (a : Int) : ∀ w : List Int, closed (psi a w ++ [a]) = psi a (closed w) ++ [a]
  | [] => by rw [psi_nil]; exact closed_pal rfl
  | b :: w => by
    have ih := closed_phi a w
    by_cases p : b :: w = (b :: w).reverse
    · rw [closed_pal p, closed_pal ((phi_pal a _).mpr p)]
    · have p' := fun q => p ((phi_pal a _).mp q)
      rw [closed_not p]
      by_cases e : b = a
      · subst e
        rw [psi_same, List.cons_append] at p' ⊢
        rw [closed_not p', ih, psi_app, psi_same, psi_one]
        simp
      · rw [psi_other e, List.cons_append, List.cons_append] at p' ⊢
        rw [closed_not p', closed_not (ends_ne e), ih, psi_app, psi_other e, psi_two e]
        simp
theorem closed_psi {a x : Int} (hx : x ≠ a) : ∀ u : List Int, closed (psi a (u ++ [x])) = psi a (closed (u ++ [x])) ++ [a]
  | [] => by
    rw [List.nil_append, psi_two hx, closed_pal (w := [x]) rfl, psi_two hx, closed_not (a := a) (w := [x]), closed_pal (w := [x]) rfl]
    exact ends_ne (w := []) (Ne.symm hx)
  | b :: u => by
    have ih := closed_psi hx u
    have e0 : psi a (u ++ [x]) = psi a u ++ [a] ++ [x] := by rw [psi_app, psi_two hx]; simp
    by_cases e : b = a
    · subst e
      rw [List.cons_append, psi_same, closed_not (a := b) (w := u ++ [x]) (ends_ne (Ne.symm hx)), closed_not (a := b), ih, psi_app, psi_same, psi_one]
      · simp
      · rw [e0]; exact ends_ne (Ne.symm hx)
    · rw [List.cons_append, psi_other e, closed_not (a := a)]
      · by_cases p : b :: (u ++ [x]) = (b :: (u ++ [x])).reverse
        · have q := (phi_pal a _).mpr p
          rw [psi_other e] at q
          have q' : b :: psi a (u ++ [x]) = (b :: psi a (u ++ [x])).reverse := by
            rw [List.reverse_append, List.reverse_singleton, List.singleton_append, List.cons_append, List.reverse_cons, List.cons_append] at q
            have q2 := (List.cons.inj q).2
            exact List.append_cancel_right q2
          rw [closed_pal p, closed_pal q', psi_other e]
        · have q' : ¬ b :: psi a (u ++ [x]) = (b :: psi a (u ++ [x])).reverse := by
            intro q
            apply p
            refine (phi_pal a _).mp ?_
            rw [psi_other e, List.reverse_append, List.reverse_singleton, List.singleton_append, List.cons_append, List.reverse_cons, ← q]
          rw [closed_not p, closed_not q', ih, psi_app, psi_other e, psi_two e]
          simp
      · rw [e0, ← List.cons_append]; exact ends_ne (Ne.symm hx)
/-- the palindromes, letter by letter -/
def pal (l : List Int) : List Int := l.foldl (fun p x => closed (p ++ [x])) []
theorem pal_snoc (l : List Int) (x : Int) : pal (l ++ [x]) = closed (pal l ++ [x]) := by simp [pal]
theorem snocInd {α : Type} {P : List α → Prop} (h0 : P []) (hs : ∀ l a, P l → P (l ++ [a])) (l : List α) : P l := by
  have : ∀ r : List α, P r.reverse := by
    intro r
    induction r with
    | nil => exact h0
    | cons a r ih => rw [List.reverse_cons]; exact hs _ _ ih
  have h := this l.reverse
  rwa [List.reverse_reverse] at h
theorem justin (a : Int) (v : List Int) : pal (a :: v) = psi a (pal v) ++ [a] := by
  refine snocInd (P := fun v => pal (a :: v) = psi a (pal v) ++ [a]) ?_ (fun v x ih => ?_) v
  · exact closed_pal (w := [a]) rfl
  · rw [← List.cons_append, pal_snoc, ih, pal_snoc]
    by_cases h : x = a
    · subst h
      have e : psi x (pal v) ++ [x] = psi x (pal v ++ [x]) := by rw [psi_app, psi_one]
      rw [e, closed_phi]
    · have e : psi a (pal v) ++ [a] ++ [x] = psi a (pal v ++ [x]) := by rw [psi_app, psi_two h]; simp
      rw [e, closed_psi h]
abbrev Step := Int × Bool
def sig (S : List Step) (w : List Int) : List Int := S.foldl (fun w s => if s.2 then rho s.1 w else psi s.1 w) w
def Psi (S : List Step) (w : List Int) : List Int := S.foldl (fun w s => psi s.1 w) w
def U (S : List Step) : List Int := S.foldl (fun u s => psi s.1 u ++ if s.2 then [s.1] else []) []
def P (S : List Step) : List Int := pal (S.map (·.1)).reverse
theorem sig_snoc (S : List Step) (s : Step) (w : List Int) : sig (S ++ [s]) w = if s.2 then rho s.1 (sig S w) else psi s.1 (sig S w) := by simp [sig]
theorem Psi_snoc (S : List Step) (s : Step) (w : List Int) : Psi (S ++ [s]) w = psi s.1 (Psi S w) := by simp [Psi]
theorem U_snoc (S : List Step) (s : Step) : U (S ++ [s]) = psi s.1 (U S) ++ if s.2 then [s.1] else [] := by simp [U]
theorem P_snoc (S : List Step) (s : Step) : P (S ++ [s]) = psi s.1 (P S) ++ [s.1] := by
  unfold P; rw [List.map_append, List.reverse_append]; exact justin _ _
theorem conj (S : List Step) (w : List Int) : Psi S w ++ U S = U S ++ sig S w := by
  refine snocInd (P := fun S => Psi S w ++ U S = U S ++ sig S w) ?_ (fun S s ih => ?_) S
  · simp [Psi, U, sig]
  · rw [Psi_snoc, U_snoc, sig_snoc, ← List.append_assoc, ← psi_app, ih, psi_app]
    cases s.2 with
    | false => simp
    | true =>
      simp only [if_true]
      rw [List.append_assoc, turn]; simp
theorem U_prefix (S : List Step) : ∃ q, P S = U S ++ q := by
  refine snocInd (P := fun S => ∃ q, P S = U S ++ q) ⟨[], rfl⟩ (fun S s ih => ?_) S
  obtain ⟨q, hq⟩ := ih
  rw [P_snoc, U_snoc, hq, psi_app]
  cases s.2 with
  | false => exact ⟨psi s.1 q ++ [s.1], by simp⟩
  | true => exact ⟨rho s.1 q, by rw [List.append_assoc, turn]; simp⟩
theorem longer (S : List Step) (c : Int) : closed (P S ++ [c]) = Psi S [c] ++ P S := by
  have e : closed (P S ++ [c]) = pal ((S.map (·.1)).reverse ++ [c]) := (pal_snoc _ _).symm
  rw [e]
  refine snocInd (P := fun S => pal ((S.map (·.1)).reverse ++ [c]) = Psi S [c] ++ P S) ?_ (fun S s ih => ?_) S
  · exact closed_pal (w := [c]) rfl
  · rw [P_snoc, Psi_snoc, List.map_append, List.reverse_append]
    show pal (s.1 :: ((S.map (·.1)).reverse ++ [c])) = _
    rw [justin, ih, psi_app, List.append_assoc]
theorem sig_len (S : List Step) (w : List Int) : (sig S w).length = (Psi S w).length := by
  have := congrArg List.length (conj S w)
  rw [List.length_append, List.length_append] at this
  omega
/-- the law of the words -/
theorem word (S : List Step) (c : Int) : ((closed (P S ++ [c])).drop (U S).length).take ((closed (P S ++ [c])).length - (P S).length) = sig S [c] := by
  obtain ⟨q, hq⟩ := U_prefix S
  have h1 : (closed (P S ++ [c])).length - (P S).length = (sig S [c]).length := by
    rw [longer, List.length_append, sig_len]; omega
  have h2 : closed (P S ++ [c]) = U S ++ (sig S [c] ++ q) := by
    rw [longer, hq, ← List.append_assoc, conj, List.append_assoc]
  rw [h1, h2, List.drop_left, List.take_left]
theorem sig_app (S : List Step) (u v : List Int) : sig S (u ++ v) = sig S u ++ sig S v := by
  refine snocInd (P := fun S => sig S (u ++ v) = sig S u ++ sig S v) rfl (fun S s ih => ?_) S
  rw [sig_snoc, sig_snoc, sig_snoc, ih]
  cases s.2 with
  | false => exact psi_app _ _ _
  | true => exact rho_app _ _ _
theorem sig_nil (S : List Step) : sig S [] = [] := by
  have := congrArg List.length (sig_app S [] [])
  rw [List.append_nil, List.length_append] at this
  exact List.length_eq_zero_iff.mp (by omega)
theorem sig_flat (S : List Step) (w : List Int) : sig S w = w.flatMap fun c => sig S [c] := by
  induction w with
  | nil => exact sig_nil S
  | cons a r ih => rw [List.flatMap_cons, ← ih, ← sig_app]; rfl
/-- sizes -/
theorem psi_len (a : Int) (w : List Int) : (psi a w).length ≤ 2 * w.length := by
  induction w with
  | nil => simp [psi_nil]
  | cons b w ih =>
    by_cases h : b = a
    · subst h; rw [psi_same]; simp; omega
    · rw [psi_other h]; simp; omega
theorem Psi_len (S : List Step) (w : List Int) : (Psi S w).length ≤ 2 ^ S.length * w.length := by
  refine snocInd (P := fun S => (Psi S w).length ≤ 2 ^ S.length * w.length) (by simp [Psi]) (fun S s ih => ?_) S
  rw [Psi_snoc, List.length_append, List.length_singleton, Nat.pow_succ, Nat.mul_right_comm]
  have := psi_len s.1 (Psi S w)
  omega
theorem P_len (S : List Step) : (P S).length + 1 ≤ 2 ^ S.length := by
  refine snocInd (P := fun S => (P S).length + 1 ≤ 2 ^ S.length) (by decide) (fun S s ih => ?_) S
  rw [P_snoc, List.length_append, List.length_append, List.length_singleton, List.length_singleton, Nat.pow_succ]
  have := psi_len s.1 (P S)
  omega
/-- letters -/
def Let (w : List Int) : Prop := ∀ c ∈ w, c = 0 ∨ c = 1 ∨ c = 2
theorem cnt_psi (a b : Int) (w : List Int) : (psi a w).count b = if b = a then w.length else w.count b := by
  induction w with
  | nil => simp [psi_nil]
  | cons c w ih =>
    by_cases h : c = a
    · subst h
      rw [psi_same, List.count_cons, ih]
      by_cases e : b = c
      · subst e; simp
      · have : ¬ c = b := fun x => e x.symm
        simp [e, this]
    · rw [psi_other h, List.count_cons, List.count_cons, ih]
      by_cases e : b = a
      · subst e
        have : ¬ c = b := h
        simp [this]
      · have : ¬ a = b := fun x => e x.symm
        simp [e, this, List.count_cons]
/-- the counting -/
def cstep (c : Int × Int × Int) (s : Step) : Int × Int × Int :=
  let t := c.1 + c.2.1 + c.2.2 + if s.2 then 1 else 0
  if s.1 = 0 then (t, c.2.1, c.2.2) else if s.1 = 1 then (c.1, t, c.2.2) else (c.1, c.2.1, t)
def cnt (S : List Step) : Int × Int × Int := S.foldl cstep (0, 0, 0)
theorem cnt_snoc (S : List Step) (s : Step) : cnt (S ++ [s]) = cstep (cnt S) s := by simp [cnt]
theorem cnt_is (S : List Step) (h : ∀ s ∈ S, s.1 = 0 ∨ s.1 = 1 ∨ s.1 = 2) :
    cnt S = ((((U S).count 0 : Nat) : Int), (((U S).count 1 : Nat) : Int), (((U S).count 2 : Nat) : Int)) ∧ (U S).length = (U S).count 0 + (U S).count 1 + (U S).count 2 := by
  revert h
  refine snocInd (P := fun S => (∀ s ∈ S, s.1 = 0 ∨ s.1 = 1 ∨ s.1 = 2) → cnt S = ((((U S).count 0 : Nat) : Int), (((U S).count 1 : Nat) : Int), (((U S).count 2 : Nat) : Int)) ∧ (U S).length = (U S).count 0 + (U S).count 1 + (U S).count 2) (fun _ => ⟨rfl, rfl⟩) (fun S s ih h => ?_) S
  obtain ⟨i1, i2⟩ := ih fun t ht => h t (List.mem_append_left _ ht)
  have hs := h s (List.mem_append_right _ (List.mem_singleton.mpr rfl))
  rw [cnt_snoc, U_snoc, i1]
  have hl : (psi s.1 (U S)).length = (psi s.1 (U S)).count 0 + (psi s.1 (U S)).count 1 + (psi s.1 (U S)).count 2 := by
    have key : ∀ w : List Int, w.length = w.count 0 + w.count 1 + w.count 2 → (psi s.1 w).length + w.count s.1 = 2 * w.length := by
      intro w hw
      clear hw
      induction w with
      | nil => simp [psi_nil]
      | cons c w ihw =>
        by_cases e : c = s.1
        · rw [e, psi_same]; simp; omega
        · rw [psi_other e, List.count_cons_of_ne e]; simp; omega
    have k := key _ i2
    rw [cnt_psi, cnt_psi, cnt_psi]
    rcases hs with e | e | e <;> rw [e] at k ⊢ <;> simp <;> omega
  unfold cstep
  rw [List.length_append, List.count_append, List.count_append, List.count_append, hl, cnt_psi, cnt_psi, cnt_psi]
  rcases hs with e | e | e <;> rw [e] <;> cases s.2 <;> simp <;> omega
theorem cnt_sum (S : List Step) (h : ∀ s ∈ S, s.1 = 0 ∨ s.1 = 1 ∨ s.1 = 2) : (cnt S).1 + (cnt S).2.1 + (cnt S).2.2 = ((U S).length : Int) := by
  obtain ⟨i1, i2⟩ := cnt_is S h
  rw [i1, i2]; simp
end PW
/- C13 -/
set_option maxHeartbeats 8000000 in
theorem c_closed {w mean mg mb} (l : Addr) (vs : List Value) (ns : List Int) (h : Heap) (hl : h.IsList l vs.toArray) (hi : IntsAre vs ns) (hn : ns.length ≤ 2000) :
    Calls w mean mg mb 600 6000 175 [.ref l] [] h (fun v h' => ∃ a us n, v = .ref a ∧ h.get? a = none ∧ h'.get? a = some (W.listOf us.toArray n) ∧ IntsAre us (PW.closed ns)) := by
  k_dflt (refine' enterC (binds := [(Str.ofString "word", .ref l)]) ?k6 ?k7 ?k8 ?k9 ?kB ?_ ?c2 ?c3 ?c4 ?c5; walk_at "my ends")
  rintro base outer s L h₁ tk rfl B F N X T; k_fold
  k_steps
  unfold Hold
  k_dflt (refine' WL.whileI (fun n m nw => ∃ k : Nat, n = ns.length - k ∧ k ≤ ns.length ∧ nw = [] ∧ (∃ t, m (Str.ofString "k") = some (.int (k : Int) t)) ∧ m (Str.ofString "word") = some (.ref l) ∧ ∀ j, j < k → ns.drop j ≠ (ns.drop j).reverse) ns.length ?hF ?hN ?hj ?turn; (case hF => k_asm); (case hN => k_asm))
  case hj => exact ⟨0, by omega, by omega, rfl, ⟨_, rfl⟩, rfl, fun j hj => absurd hj (Nat.not_lt_zero _)⟩
  case turn =>
    rintro n m nw h tk ⟨k, rfl, hk, rfl, ⟨t, hm1⟩, hm2, hno⟩ F' N'
    have F' := frKnown (frKnown F' hm1) (x := Str.ofString "word") (v := .ref l) (by
      show (if Str.ofString "word" = Str.ofString "k" then _ else m _) = _
      rw [if_neg (by decide)]; exact hm2)
    k_steps
    · rename News _ _ _ _ => NE
      rename IntsAre _ (ns ++ _) => hI9
      rename List.drop _ ns = _ => he
      refine Fin.mk' (by k_asm) ⟨_, _, _, rfl, (NE _ (.head _)).2.2, (NE _ (.head _)).1, ?_⟩
      rw [PW.closed_least k ns hk he hno]
      exact hI9
    · rename ¬ List.drop _ ns = _ => he
      rename News _ _ _ _ => NE
      have hk1 : k < ns.length := by
        refine Nat.lt_of_le_of_ne hk fun e => he ?_
        have e2 : List.drop ((k : Int).toNat) ns = [] := by rw [Int.toNat_natCast, e]; exact List.drop_length
        rw [e2]; rfl
      refine WL.wEnd (nw := []) (ns.length - (k + 1)) (by omega) (by k_asm) (fun _ hp => nomatch hp) ⟨k + 1, rfl, hk1, rfl, ⟨_, rfl⟩, rfl, ?_⟩
      intro j hj
      rcases Nat.lt_succ_iff_lt_or_eq.mp hj with h1 | h1
      · exact hno j h1
      · subst h1; exact he
/- D4b -/
/-- the plan, plainly -/
def chK (k : Int) : Str := Txt.item (Str.ofString "1xt") k
def F3 (k : Int) : Int := if k = 0 then 53 else if k = 1 then 49 else 45
def swP (k k' slot : Int) : Pass := if slot = 1 then (4, Str.ofString "+" ++ chK k', Str.ofString "-" ++ chK k) else (4, chK k' ++ Str.ofString "/", chK k ++ Str.ofString "-")
structure PS where
  passes : List Pass
  steps : List (Int × Bool)
  figs : List Int
  kind : Int
def ownOf (x : Int) : Int := (x.fdiv 3).fmod 3
def figOf (figs : List Int) (c : Int) : Int := figs.getD c.toNat 0
def newKind (k x : Int) : Int := (k + 1 + (x.fdiv 9).fmod 2).fmod 3
def newFigs (figs : List Int) (own slot k' : Int) : List Int := (figs.map fun g => if g < 62 then 62 + slot else g).set own.toNat (F3 k')
def swapped (c : PS) (x : Int) : PS :=
  if figOf c.figs (ownOf x) > 61 then
    ⟨c.passes ++ [swP c.kind (newKind c.kind x) (figOf c.figs (ownOf x) - 62)], c.steps, newFigs c.figs (ownOf x) (figOf c.figs (ownOf x) - 62) (newKind c.kind x), newKind c.kind x⟩
  else c
def inserted (c : PS) (x : Int) : PS := ⟨c.passes ++ [insP c.kind (x.fdiv 18)], c.steps ++ [(ownOf x, decide (c.kind = 2))], c.figs, c.kind⟩
def pStep (c : PS) (x : Int) : PS := inserted (swapped c x) x
def plan (ns : List Int) : PS := ns.foldl pStep ⟨[], [], [62, 63, 53], 0⟩
def perms (k : Int) : List (List Int) := [[62, 63, F3 k], [62, F3 k, 63], [63, 62, F3 k], [63, F3 k, 62], [F3 k, 62, 63], [F3 k, 63, 62]]
def rep4 (l : List Int) : List Int := l ++ l ++ l ++ l
theorem plan_snoc (ns : List Int) (x : Int) : plan (ns ++ [x]) = pStep (plan ns) x := by simp [plan]
theorem newKind_in (k x : Int) : newKind k x = 0 ∨ newKind k x = 1 ∨ newKind k x = 2 := by
  unfold newKind
  rw [Int.fmod_eq_emod_of_nonneg _ (by decide)]
  omega
theorem ownOf_in (x : Int) : ownOf x = 0 ∨ ownOf x = 1 ∨ ownOf x = 2 := by
  unfold ownOf
  rw [Int.fmod_eq_emod_of_nonneg _ (by decide)]
  omega
/- X12d -/
theorem enterX {w : World} {mean mg mb} {d u : Nat} {h₀ : Heap} {post : Value → Heap → Prop} {name qual : Str} {params : Arguments} {body : List Stmt} {scope : Scope} {dV kV doc pm cdv ct oc : Value} {an od : Option Addr} {osl : Array (Option Value)} {f : Addr} {pos : List Value} {kw : List (Str × Value)} {binds : List (Str × Value)}
    (ho : (heapK w.params).lookup f = some ⟨oc, od, .func (fnOf name qual params body scope dV kV doc pm an cdv ct), osl⟩) (hcd : codeIn (heapK w.params) cdv qual = true) (hroom : d < recursionLimit)
    (hbind : ∀ s : Shared, (heapK w.params).In s.heap → BindsTo s (fnOf name qual params body scope dV kV doc pm an cdv ct) ⟨pos, kw⟩ binds) (hkind : (binds.all fun y => scope.names.lookup y.1 == some .local || scope.names.lookup y.1 == some .cell) = true)
    (hnd : ((cellsFrom 0 scope.names []).map (·.1)).Nodup)
    (h : ∀ base outer (s : Shared) L h₁ tk cells, s.heap = h₀ → Below (AR d u outer) base outer s.heap → Fr s.heap L h₁ (bindL (envOfC qual scope L f cdv).kindOf binds fun _ => none) → News s.heap L h₁ cells →
      CellsAre (bindC (envOfC qual scope L f cdv).kindOf binds fun _ => none) (cellsFrom (L + 1) scope.names []) cells → (heapK w.params).In s.heap → Top viewK LS mean mg mb s.heap →
      wpAny (model Challenge.rw_pa0041_01.row.prog w) ((AR d u outer).deeper (envOfC qual scope L f cdv)) (execs body (envOfC qual scope L f cdv))
        (fun fl s' => Fin s.heap s post (match fl with | .ret v => v | _ => .none) s') (fun _ _ => False) { s with heap := h₁, toks := tk })
    (hco : scope.isCoroutine = false) (hgen : scope.isGenerator = false) (hk : scope.kind = .function) : Calls w mean mg mb d u f pos kw h₀ post := by
  intro base outer s hs B H
  subst hs
  refine wpAny_call ?_
  refine codeAny_call_function hroom (H.k _ _ ho) rfl hco hgen rfl (codeRec_of H.k hcd) (hbind s H.k _ _ _ _ ?_)
  refine wpAny_newFunctionEnv_cells hk (kindsX hkind _) fun env' he s' x => ?_
  subst he
  refine ⟨H.t.nolimit.keeps x.toInCall.keep, codeAny_func ?_⟩
  obtain ⟨h₁, tk, rfl, _⟩ := x.done
  have hk₁ := x.toInCall.keep
  obtain ⟨cells, NC, Y⟩ := Cl.news (h₀ := s.heap) (Nat.le_refl _) fun n c hm => ⟨x.cell n c (lookup_of_mem_nodup (cellsFrom_names scope.names 0 (s.heap.objs.size + 1) [] [] rfl ▸ hnd) hm), x.above n c hm⟩
  exact wpAny_mono (h base outer s s.heap.objs.size h₁ tk cells rfl B ⟨x.toInCall.ns, hk₁, Nat.le_refl _⟩ NC Y H.k H.t) (fun _ _ x => x) fun _ _ x => x.elim

/-- a call by its contract, from within a frame with cells -/
theorem useX {w : World} {mean mg mb} {d u : Nat} {f : Addr} {pos : List Value} {kw : List (Str × Value)} {post : Value → Heap → Prop} {A : Around} {base h₀ : Heap} {outer : List Env} {L a : Addr} {m : Str → Option Value} {news : List (Addr × Obj)} {name : Str} {scope : Scope} {cd : Value} {s : Shared} {Q : Value → Shared → Prop} {E : Value → Shared → Prop}
    (C : Calls w mean mg mb d u f pos kw s.heap post) (B : Below A base outer h₀) (F : Fr h₀ L s.heap m) (N : News h₀ L s.heap news) (X : (heapK w.params).In h₀) (T : Top viewK LS mean mg mb h₀)
    (hk : scope.kind = .function) (hh : A.handled = none) (hg : A.guards = some []) (hd : A.depth + 1 ≤ d) (hu : A.units + 3 ≤ u)
    (h : ∀ v h' tk, Fr h₀ L h' m → News h₀ L h' news → post v h' → Q v { s with heap := h', toks := tk }) :
    wpAny (model Challenge.rw_pa0041_01.row.prog w) (A.deeper (envOfC name scope L a cd)) (call (.ref f) pos kw) Q E s := by
  have B' := pushX (env := envOfC name scope L a cd) B F rfl hk
  have fr := B'.stack
  have hB : Below (AR d u (envOfC name scope L a cd :: outer)) base (envOfC name scope L a cd :: outer) s.heap := ⟨rfl, B'.stays, B'.frames⟩
  have c := C base (envOfC name scope L a cd :: outer) s rfl hB ⟨X.keeps F.keep, T.keeps F.keep⟩
  refine around_le (A' := AR d u (envOfC name scope L a cd :: outer)) ?_ hh.symm hd fr.symm hg.symm hu
  refine wpAny_mono c (fun v s' e => ?_) fun _ _ x => x.elim
  obtain ⟨e1, e2, e3, e4, e5⟩ := e
  have : s' = { s with heap := s'.heap, toks := s'.toks } := by
    obtain ⟨_, _, _, _, _⟩ := s'; cases e1; cases e2; cases e3; rfl
  rw [this]
  exact h v _ _ (Ext.fr e4 F) (Ext.news e4 N) e5
theorem reg29 : True := by
  k_with "k_ne" => (refine neN ?_; (try dsimp only); first | assumption | exact Ne.symm (by assumption))
  exact trivial
/- C12d -/
/-- the goal as one letter, while facts are taken apart -/
theorem opq {P : Prop} (k : ∀ G : Prop, (P → G) → G) : P := k P id
def PassesIn (r : List (Addr × Obj)) (vs : List Value) (ps : List Pass) : Prop :=
  vs.length = ps.length ∧ ∀ (i : Nat) (p : Pass), ps[i]? = some p → ∃ a tw t1 t2, vs[i]? = some (Value.ref a) ∧ (a, tupO #[.int p.1 tw, .str p.2.1 t1, .str p.2.2 t2]) ∈ r
def StepsIn (r : List (Addr × Obj)) (vs : List Value) (S : List (Int × Bool)) : Prop :=
  vs.length = S.length ∧ ∀ (i : Nat) (p : Int × Bool), S[i]? = some p → ∃ a t, vs[i]? = some (Value.ref a) ∧ (a, tupO #[.int p.1 t, .bool p.2]) ∈ r
theorem reg30 : True := by
  k_with "my endsX" => ((case k6 => k_is); (case k7 => k_is); (case k8 => exact Nat.le_of_ble_eq_true rfl); (case k9 => first | exact fun _ _ => BindsTo.of_eq rfl | (intro s9 X9; exact binds_K X9 rfl (by k_is) rfl rfl rfl)); (case kB => exact rfl); (case kD => decide +kernel); (case c2 => exact rfl); (case c3 => exact rfl); (case c4 => exact rfl); k_whole)
  k_with "exec For Name Name cons nil" => (refine Hold.out ?_)
  exact trivial
theorem news_sub {h₀ h : Heap} {L : Addr} {a b : List (Addr × Obj)} (N : News h₀ L h a) (hs : ∀ p ∈ b, p ∈ a) : News h₀ L h b := fun p hp => N p (hs p hp)
structure PInv (n : Nat) (c : PS) : Prop where
  len1 : c.passes.length ≤ 2 * n
  len2 : c.steps.length ≤ n
  kind : c.kind = 0 ∨ c.kind = 1 ∨ c.kind = 2
  figs : ∃ f0 f1 f2, c.figs = [f0, f1, f2] ∧ 45 ≤ f0 ∧ f0 < 64 ∧ 45 ≤ f1 ∧ f1 < 64 ∧ 45 ≤ f2 ∧ f2 < 64
theorem F3_in (k : Int) : 45 ≤ F3 k ∧ F3 k < 64 := by unfold F3; split; omega; split <;> omega
theorem newFigs_three {f0 f1 f2 own s k : Int} (ho : own = 0 ∨ own = 1 ∨ own = 2) :
    newFigs [f0, f1, f2] own s k = [if own = 0 then F3 k else if f0 < 62 then 62 + s else f0, if own = 1 then F3 k else if f1 < 62 then 62 + s else f1, if own = 2 then F3 k else if f2 < 62 then 62 + s else f2] := by
  rcases ho with e | e | e <;> subst e <;> rfl
theorem pinv (ns : List Int) : PInv ns.length (plan ns) := by
  refine snocInd (P := fun ns => PInv ns.length (plan ns)) ⟨Nat.le_refl _, Nat.le_refl _, .inl rfl, 62, 63, 53, rfl, by decide⟩ (fun ns x ih => ?_) ns
  rw [plan_snoc, List.length_append, List.length_singleton]
  obtain ⟨l1, l2, h1, f0, f1, f2, h2, h3⟩ := ih
  generalize plan ns = c at *
  generalize ns.length = n at *
  unfold pStep
  show PInv (n + 1) (inserted (swapped c x) x)
  have key : (swapped c x).passes.length ≤ 2 * n + 1 ∧ (swapped c x).steps.length ≤ n ∧ ((swapped c x).kind = 0 ∨ (swapped c x).kind = 1 ∨ (swapped c x).kind = 2) ∧ ∃ f0 f1 f2, (swapped c x).figs = [f0, f1, f2] ∧ 45 ≤ f0 ∧ f0 < 64 ∧ 45 ≤ f1 ∧ f1 < 64 ∧ 45 ≤ f2 ∧ f2 < 64 := by
    unfold swapped
    split
    · rename_i hf
      refine ⟨by simp; omega, l2, newKind_in _ _, ?_⟩
      show ∃ a b d, newFigs _ _ _ _ = _ ∧ _
      rw [h2] at hf ⊢
      have hr : figOf [f0, f1, f2] (ownOf x) < 64 := by
        rcases ownOf_in x with e | e | e <;> rw [e]
        · exact h3.2.1
        · exact h3.2.2.2.1
        · exact h3.2.2.2.2.2
      generalize figOf [f0, f1, f2] (ownOf x) = g at *
      rw [newFigs_three (ownOf_in x)]
      have := F3_in (newKind c.kind x)
      refine ⟨_, _, _, rfl, ?_⟩
      refine ⟨?_, ?_, ?_, ?_, ?_, ?_⟩ <;> (repeat' split) <;> omega
    · exact ⟨by omega, l2, h1, f0, f1, f2, h2, h3⟩
  obtain ⟨k1, k2, k3, k4⟩ := key
  refine ⟨?_, ?_, k3, k4⟩
  · show ((swapped c x).passes ++ [_]).length ≤ _
    simp; omega
  · show ((swapped c x).steps ++ [_]).length ≤ _
    simp; omega
theorem reg31 : True := by
  k_with "call ref" => ((with_reducible show wpAny _ _ (call (Value.ref 163) [Value.int _ _, Value.int _ _] _) _ _ _); refine Hold.out ?_)
  k_with "eval IfExp" => ((with_reducible show wpAny _ _ (eval (Expr.IfExp _ (Expr.Tuple _ _ _) _ _) _) _ _ _); refine Hold.out ?_)
  k_with "exec If" => (refine Hold.out ?_)
  exact trivial
theorem figs_in {fi : List Int} {x : Int} (h : ∃ f0 f1 f2, fi = [f0, f1, f2] ∧ 45 ≤ f0 ∧ f0 < 64 ∧ 45 ≤ f1 ∧ f1 < 64 ∧ 45 ≤ f2 ∧ f2 < 64) : fi.length = 3 ∧ 45 ≤ figOf fi (ownOf x) ∧ figOf fi (ownOf x) < 64 := by
  obtain ⟨g0, g1, g2, hg, hg1, hg2, hg3, hg4, hg5, hg6⟩ := h
  rw [hg]
  refine ⟨rfl, ?_⟩
  rcases ownOf_in x with e | e | e <;> rw [e]
  · exact ⟨hg1, hg2⟩
  · exact ⟨hg3, hg4⟩
  · exact ⟨hg5, hg6⟩
/-- the state between two turns -/
structure PJ (L : Addr) (c : PS) (m : Str → Option Value) (nw : List (Addr × Obj)) : Prop where
  ex : ∃ oc oc' lp cp ls cs lf cf vps vss vf rest tk, nw = (lf, W.listOf (List.toArray vf) cf) :: (ls, W.listOf (List.toArray vss) cs) :: (lp, W.listOf (List.toArray vps) cp) :: (L + 1, oc) :: rest ∧ oc.data = .cell oc' ∧
    m (Str.ofString "figures") = some (.ref lf) ∧ m (Str.ofString "kind") = some (.int c.kind tk) ∧ m (Str.ofString "passes") = some (.ref lp) ∧ m (Str.ofString "steps") = some (.ref ls) ∧
    PassesIn rest vps c.passes ∧ StepsIn rest vss c.steps ∧ IntsAre vf c.figs ∧ @Ne Nat (@HAdd.hAdd Nat Nat Nat _ L 1) lf ∧ @Ne Nat (@HAdd.hAdd Nat Nat Nat _ L 1) ls ∧ @Ne Nat (@HAdd.hAdd Nat Nat Nat _ L 1) lp ∧ @Ne Nat lf ls ∧ @Ne Nat lf lp ∧ @Ne Nat ls lp ∧ OwnOff rest [lf, ls, lp, L + 1]
/-- the state between a turn's two halves -/
structure PM (h₀ : Heap) (L I : Addr) (oI : Obj) (s : Shared) (x : Int) (c : PS) (f : Flow) (s' : Shared) : Prop where
  flow : f = .next
  gens : s'.gens = s.gens
  drawn : s'.drawn = s.drawn
  os : s'.os = s.os
  rest : ∃ m nw, Fr h₀ L s'.heap m ∧ News h₀ L s'.heap ((I, oI) :: nw) ∧ (∀ p ∈ nw, p.1 ≠ I) ∧ PJ L c m nw ∧ (∃ t, m (Str.ofString "own") = some (.int (ownOf x) t)) ∧ (∃ t, m (Str.ofString "x") = some (.int x t))
theorem pm_of {h₀ h' : Heap} {L I lf ls lp : Addr} {oI oc : Obj} {oc' : Option Value} {s : Shared} {x : Int} {c : PS} {m : Str → Option Value} {tk cf cs cp : Nat} {vf vss vps : List Value} {rest : List (Addr × Obj)} {t1 t2 t3 : Tok}
    (F : Fr h₀ L h' m) (N : News h₀ L h' ((I, oI) :: (lf, W.listOf (List.toArray vf) cf) :: (ls, W.listOf (List.toArray vss) cs) :: (lp, W.listOf (List.toArray vps) cp) :: (L + 1, oc) :: rest)) (hoc : oc.data = .cell oc')
    (m1 : m (Str.ofString "figures") = some (.ref lf)) (m2 : m (Str.ofString "kind") = some (.int c.kind t1)) (m3 : m (Str.ofString "passes") = some (.ref lp)) (m4 : m (Str.ofString "steps") = some (.ref ls))
    (P : PassesIn rest vps c.passes) (S : StepsIn rest vss c.steps) (G : IntsAre vf c.figs)
    (n1 : @Ne Nat (@HAdd.hAdd Nat Nat Nat _ L 1) lf) (n2 : @Ne Nat (@HAdd.hAdd Nat Nat Nat _ L 1) ls) (n3 : @Ne Nat (@HAdd.hAdd Nat Nat Nat _ L 1) lp) (n4 : @Ne Nat lf ls) (n5 : @Ne Nat lf lp) (n6 : @Ne Nat ls lp)
    (i1 : @Ne Nat lf I) (i2 : @Ne Nat ls I) (i3 : @Ne Nat lp I) (i4 : @Ne Nat (@HAdd.hAdd Nat Nat Nat _ L 1) I) (off : ∀ p ∈ rest, @Ne Nat p.1 lf ∧ @Ne Nat p.1 ls ∧ @Ne Nat p.1 lp ∧ @Ne Nat p.1 (@HAdd.hAdd Nat Nat Nat _ L 1) ∧ @Ne Nat p.1 I)
    (m5 : m (Str.ofString "own") = some (.int (ownOf x) t2)) (m6 : m (Str.ofString "x") = some (.int x t3)) : PM h₀ L I oI s x c .next { s with heap := h', toks := tk } := by
  refine ⟨rfl, rfl, rfl, rfl, m, _, F, N, ?_, ⟨oc, oc', lp, cp, ls, cs, lf, cf, vps, vss, vf, rest, t1, rfl, hoc, m1, m2, m3, m4, P, S, G, n1, n2, n3, n4, n5, n6, ?_⟩, ⟨_, m5⟩, ⟨_, m6⟩⟩
  · intro p hp
    rcases List.mem_cons.mp hp with rfl | hp
    · exact i1
    rcases List.mem_cons.mp hp with rfl | hp
    · exact i2
    rcases List.mem_cons.mp hp with rfl | hp
    · exact i3
    rcases List.mem_cons.mp hp with rfl | hp
    · exact i4
    · exact (off p hp).2.2.2.2
  · intro p hp b hb
    obtain ⟨o1, o2, o3, o4, _⟩ := off p hp
    simp only [List.mem_cons, List.not_mem_nil, or_false] at hb
    rcases hb with e | e | e | e <;> rw [e]
    · exact o1
    · exact o2
    · exact o3
    · exact o4
theorem pj_of {L lf ls lp : Addr} {oc : Obj} {oc' : Option Value} {c : PS} {m : Str → Option Value} {cf cs cp : Nat} {vf vss vps : List Value} {rest : List (Addr × Obj)} {t1 : Tok} (hoc : oc.data = .cell oc')
    (m1 : m (Str.ofString "figures") = some (.ref lf)) (m2 : m (Str.ofString "kind") = some (.int c.kind t1)) (m3 : m (Str.ofString "passes") = some (.ref lp)) (m4 : m (Str.ofString "steps") = some (.ref ls))
    (P : PassesIn rest vps c.passes) (S : StepsIn rest vss c.steps) (G : IntsAre vf c.figs)
    (n1 : @Ne Nat (@HAdd.hAdd Nat Nat Nat _ L 1) lf) (n2 : @Ne Nat (@HAdd.hAdd Nat Nat Nat _ L 1) ls) (n3 : @Ne Nat (@HAdd.hAdd Nat Nat Nat _ L 1) lp) (n4 : @Ne Nat lf ls) (n5 : @Ne Nat lf lp) (n6 : @Ne Nat ls lp)
    (off : ∀ p ∈ rest, @Ne Nat p.1 lf ∧ @Ne Nat p.1 ls ∧ @Ne Nat p.1 lp ∧ @Ne Nat p.1 (@HAdd.hAdd Nat Nat Nat _ L 1)) :
    PJ L c m ((lf, W.listOf (List.toArray vf) cf) :: (ls, W.listOf (List.toArray vss) cs) :: (lp, W.listOf (List.toArray vps) cp) :: (L + 1, oc) :: rest) := by
  refine ⟨oc, oc', lp, cp, ls, cs, lf, cf, vps, vss, vf, rest, t1, rfl, hoc, m1, m2, m3, m4, P, S, G, n1, n2, n3, n4, n5, n6, ?_⟩
  intro p hp b hb
  obtain ⟨o1, o2, o3, o4⟩ := off p hp
  simp only [List.mem_cons, List.not_mem_nil, or_false] at hb
  rcases hb with e | e | e | e <;> rw [e]
  · exact o1
  · exact o2
  · exact o3
  · exact o4
theorem passes_snoc {r r' : List (Addr × Obj)} {vs : List Value} {ps : List Pass} {a : Addr} {p : Pass} {t t1 t2 : Tok} (h : PassesIn r vs ps) (hs : ∀ q ∈ r, q ∈ r') (ha : (a, tupO #[.int p.1 t, .str p.2.1 t1, .str p.2.2 t2]) ∈ r') : PassesIn r' (vs ++ [.ref a]) (ps ++ [p]) := by
  refine ⟨by simp [h.1], fun i q hq => ?_⟩
  by_cases hi : i < ps.length
  · rw [List.getElem?_append_left hi] at hq
    obtain ⟨b, tw, u1, u2, e1, e2⟩ := h.2 i q hq
    exact ⟨b, tw, u1, u2, by rw [List.getElem?_append_left (by rw [h.1]; exact hi)]; exact e1, hs _ e2⟩
  · have hi2 : i = ps.length := by
      have := (List.getElem?_eq_some_iff.mp hq).1
      simp at this; omega
    subst hi2
    have : q = p := by simpa using hq.symm
    subst this
    exact ⟨a, t, t1, t2, by rw [← h.1]; simp, ha⟩
theorem passes_mono {r r' : List (Addr × Obj)} {vs : List Value} {ps : List Pass} (h : PassesIn r vs ps) (hs : ∀ q ∈ r, q ∈ r') : PassesIn r' vs ps :=
  ⟨h.1, fun i q hq => by obtain ⟨b, tw, u1, u2, e1, e2⟩ := h.2 i q hq; exact ⟨b, tw, u1, u2, e1, hs _ e2⟩⟩
theorem steps_mono {r r' : List (Addr × Obj)} {vs : List Value} {ps : List (Int × Bool)} (h : StepsIn r vs ps) (hs : ∀ q ∈ r, q ∈ r') : StepsIn r' vs ps :=
  ⟨h.1, fun i q hq => by obtain ⟨b, t, e1, e2⟩ := h.2 i q hq; exact ⟨b, t, e1, hs _ e2⟩⟩
theorem steps_snoc {r r' : List (Addr × Obj)} {vs : List Value} {ps : List (Int × Bool)} {a : Addr} {p : Int × Bool} {t : Tok} (h : StepsIn r vs ps) (hs : ∀ q ∈ r, q ∈ r') (ha : (a, tupO #[.int p.1 t, .bool p.2]) ∈ r') : StepsIn r' (vs ++ [.ref a]) (ps ++ [p]) := by
  refine ⟨by simp [h.1], fun i q hq => ?_⟩
  by_cases hi : i < ps.length
  · rw [List.getElem?_append_left hi] at hq
    obtain ⟨b, u1, e1, e2⟩ := h.2 i q hq
    exact ⟨b, u1, by rw [List.getElem?_append_left (by rw [h.1]; exact hi)]; exact e1, hs _ e2⟩
  · have hi2 : i = ps.length := by
      have := (List.getElem?_eq_some_iff.mp hq).1
      simp at this; omega
    subst hi2
    have : q = p := by simpa using hq.symm
    subst this
    exact ⟨a, t, by rw [← h.1]; simp, ha⟩
theorem off1_ne {D : Addr} : ∀ {l : List (Addr × Obj)}, LCg.Off1 D l → ∀ p ∈ l, p.1 ≠ D
  | [], _, _, h => nomatch h
  | _ :: _, h, p, hp => by
    rcases List.mem_cons.mp hp with rfl | hp
    · exact h.1
    · exact off1_ne h.2 p hp
theorem off1_of {D : Addr} : ∀ {l : List (Addr × Obj)}, (∀ p ∈ l, p.1 ≠ D) → LCg.Off1 D l
  | [], _ => trivial
  | p :: _, h => ⟨h p (.head _), off1_of fun q hq => h q (.tail _ hq)⟩
theorem allLt_ne {D : Addr} : ∀ {l : List (Addr × Obj)}, AllLt D l → ∀ p ∈ l, @LT.lt Nat _ p.1 D
  | [], _, _, h => nomatch h
  | _ :: _, h, p, hp => by
    rcases List.mem_cons.mp hp with rfl | hp
    · exact h.1
    · exact allLt_ne h.2 p hp
theorem pick_in {x : Int} (h0 : 0 ≤ x) (h1 : x < 108) : 0 ≤ x.fdiv 18 ∧ x.fdiv 18 < 6 := by rw [Int.fdiv_eq_ediv_of_nonneg _ (by decide)]; omega
/-- a new object of a call onto the ledger -/
theorem fresh_news {h₀ h h' : Heap} {L : Addr} {m : Str → Option Value} {news : List (Addr × Obj)} {a : Addr} {o : Obj} (F : Fr h₀ L h m) (N : News h₀ L h news) (N' : News h₀ L h' news) (h1 : h.get? a = none) (h2 : h'.get? a = some o) :
    News h₀ L h' ((a, o) :: news) ∧ LCg.Off1 a news := by
  refine ⟨fun p hp => ?_, off1_of fun p hp e => ?_⟩
  · rcases List.mem_cons.mp hp with rfl | hp
    · refine ⟨h2, fun e => ?_, ?_⟩
      · obtain ⟨oL, _, _, hL, _⟩ := F.ns
        dsimp only at e
        rw [e, hL] at h1; cases h1
      · cases q : h₀.get? a with
        | none => rfl
        | some o' => rw [F.keep _ _ q] at h1; cases h1
    · exact N' p hp
  · have := (N p hp).1
    rw [e, h1] at this; cases this
theorem reg32 : True := by
  k_with "k_all" => ((rename (_ ∧ _ ∧ _ ∧ _ ∧ _ ∧ _ ∧ _ ∧ LCg.Off1 _ _) => hq); exact off1_ne hq.2.2.2.2.2.2.2)
  k_with "my sub" => first | exact List.forall_mem_nil _ | (refine List.forall_mem_cons.mpr ⟨by k_mem, ?_⟩; walk_at "my sub") | (intro p hp; repeat' (first | exact hp | refine List.Mem.tail _ ?_))
  exact trivial
/-- a tuple made in one of two ways -/
structure JT (h₀ : Heap) (L : Addr) (m : Str → Option Value) (news : List (Addr × Obj)) (s : Shared) (p : Pass) (v : Value) (s' : Shared) : Prop where
  gens : s'.gens = s.gens
  drawn : s'.drawn = s.drawn
  os : s'.os = s.os
  rest : ∃ D t t1 t2, v = .ref D ∧ Fr h₀ L s'.heap m ∧ News h₀ L s'.heap ((D, tupO #[.int p.1 t, .str p.2.1 t1, .str p.2.2 t2]) :: news) ∧ AllLt D news
theorem jt {h₀ h' : Heap} {L D : Addr} {m : Str → Option Value} {news : List (Addr × Obj)} {s : Shared} {p : Pass} {tk : Nat} {t t1 t2 : Tok} {a : Int} {b c : Str} (F : Fr h₀ L h' m) (N : News h₀ L h' ((D, tupO #[.int a t, .str b t1, .str c t2]) :: news)) (l : AllLt D news) (e : p = (a, b, c)) :
    JT h₀ L m news s p (.ref D) { s with heap := h', toks := tk } := by subst e; exact ⟨rfl, rfl, rfl, D, t, t1, t2, rfl, F, N, l⟩
theorem joinTup {h₀ : Heap} {L : Addr} {m : Str → Option Value} {news : List (Addr × Obj)} {s : Shared} {M : Model} {A : Around} {T : Sem Value} {Q : Value → Shared → Prop} {E : Value → Shared → Prop} (p : Pass) (F : Fr h₀ L s.heap m) (N : News h₀ L s.heap news)
    (h1 : wpAny M A T (JT h₀ L m news s p) (fun _ _ => False) s)
    (h2 : ∀ D h' tk t t1 t2, Fr h₀ L h' m → News h₀ L h' ((D, tupO #[.int p.1 t, .str p.2.1 t1, .str p.2.2 t2]) :: news) → AllLt D news → Q (.ref D) { s with heap := h', toks := tk }) : wpAny M A T Q E s := by
  refine wpAny_mono h1 (fun v s' j => ?_) fun _ _ e => e.elim
  obtain ⟨e1, e2, e3, D, t, t1, t2, rfl, F', N', l⟩ := j
  obtain ⟨_, _, _, _, _⟩ := s'
  cases e1; cases e2; cases e3
  exact h2 D _ _ t t1 t2 F' N' l
def Made (h h' : Heap) (l : List (Addr × Obj)) : Prop := ∀ p ∈ l, h'.get? p.1 = some p.2 ∧ h.get? p.1 = none
def PlanAt (v : Value) (h h' : Heap) (c : PS) : Prop :=
  ∃ a lp cp ls cs lf cf vps vss vf rest, v = .ref a ∧ Made h h' ((a, tupO #[.ref lp, .ref ls, .ref lf]) :: (lf, W.listOf (List.toArray vf) cf) :: (ls, W.listOf (List.toArray vss) cs) :: (lp, W.listOf (List.toArray vps) cp) :: rest) ∧
    PassesIn rest vps c.passes ∧ StepsIn rest vss c.steps ∧ IntsAre vf c.figs
theorem made_of {h₀ h' : Heap} {L : Addr} {news l : List (Addr × Obj)} (N : News h₀ L h' news) (hs : ∀ p ∈ l, p ∈ news) : Made h₀ h' l := fun p hp => ⟨(N p (hs p hp)).1, (N p (hs p hp)).2.2⟩
set_option maxHeartbeats 8000000 in
theorem c_plan {w mean mg mb} (l : Addr) (vs : List Value) (ns : List Int) (h : Heap) (hl : h.IsList l vs.toArray) (hi : IntsAre vs ns) (hn : ns.length ≤ 5) (hx : ∀ x ∈ ns, 0 ≤ x ∧ x < 108) :
    Calls w mean mg mb 500 5000 168 [.ref l] [] h (fun v h' => PlanAt v h h' (plan ns)) := by
  k_dflt (refine' enterX (binds := [(Str.ofString "numbers", .ref l)]) ?k6 ?k7 ?k8 ?k9 ?kB ?kD ?_ ?c2 ?c3 ?c4; walk_at "my endsX")
  rintro base outer s L h₁ tk cells rfl B F N Y X T; k_cells Y; (try dsimp only); (with_reducible show wpAny _ _ _ _ _ _); k_fold
  k_steps
  rename Fr _ _ _ _ => FZ
  rename News _ _ _ _ => NZ
  unfold Hold
  have NZ := news_sub (b := [(_, W.listOf #[Value.int 62 _, Value.int 63 _, Value.int 53 _] 0), (_, W.listOf #[] 0), (_, W.listOf #[] 0), (L + 1, _)]) NZ (by
    intro p hp
    rcases List.mem_cons.mp hp with rfl | hp
    · exact .tail _ (.tail _ (.tail _ (.tail _ (.head _))))
    rcases List.mem_cons.mp hp with rfl | hp
    · exact .tail _ (.head _)
    rcases List.mem_cons.mp hp with rfl | hp
    · exact .tail _ (.tail _ (.head _))
    rcases List.mem_cons.mp hp with rfl | hp
    · exact .tail _ (.tail _ (.tail _ (.tail _ (.tail _ (.head _)))))
    · cases hp)
  k_dflt (refine' FL.forL (l := l) (items := vs.toArray) (fun i m nw => PJ L (plan (ns.take i)) m nw) ?hh ?F ?N ?hev ?hl ?hj ?turn ?done ?hs; (case F => exact FZ); (case N => exact NZ); (case hh => rfl); (case hs => (intro _; rfl)))
  case hev =>
    intro Q' hq
    k_steps
    exact hq
  case hl => intro i m nw h _ F' _; exact hl.at fun o e => F'.keep _ _ e
  case hj => exact ⟨_, _, _, _, _, _, _, _, [], [], [_, _, _], [], _, rfl, by assumption, rfl, rfl, rfl, rfl, ⟨rfl, fun _ _ h => nomatch h⟩, ⟨rfl, fun _ _ h => nomatch h⟩, .cons _ _ (.cons _ _ (.cons _ _ .nil)), by omega, by omega, by omega, by omega, by omega, by omega, fun _ h => nomatch h⟩
  case turn =>
    intro i v m nw h tk I oI hv hJ9 F' N' hI
    refine opq fun G9 hG9 => ?_
    obtain ⟨oc, oc', lp, cp, ls, cs, lf, cf, vps, vss, vf, rest, tkk, rfl, hoc, hm1, hm2, hm3, hm4, hP, hS, hF, hd1, hd2, hd3, hd4, hd5, hd6, hOff⟩ := hJ9
    have hiv : i < vs.length := by simpa using (Array.getElem?_eq_some_iff.mp hv).1
    obtain ⟨x, tx, hvx, hxx⟩ := IntsAre.at hi i v (by simpa using hv)
    refine hG9 ?_; clear hG9 G9
    have hc := pinv (ns.take i)
    have hx0 := hx x (List.mem_of_getElem? hxx)
    have hnext : plan (ns.take (i + 1)) = pStep (plan (ns.take i)) x := by rw [List.take_add_one, hxx, Option.toList_some, plan_snoc]
    rw [hnext]
    generalize plan (ns.take i) = c at *
    obtain ⟨ps, st, fi, kd⟩ := c
    dsimp only at hF hP hS hm2
    have hpl := hc.len1
    have hsl := hc.len2
    have hk3 := hc.kind
    have hgg := hc.figs
    clear hc
    dsimp only at hk3 hgg hpl hsl
    rw [List.length_take] at hpl hsl
    have hvp : vps.length ≤ 100 := by rw [hP.1]; omega
    have hvs : vss.length ≤ 100 := by rw [hS.1]; omega
    have hfr := figs_in (x := x) hgg
    have hfl := hfr.1
    replace hfr := hfr.2
    clear hgg
    have hI1 : @Ne Nat lf I := hI _ (.head _)
    have hI2 : @Ne Nat ls I := hI _ (.tail _ (.head _))
    have hI3 : @Ne Nat lp I := hI _ (.tail _ (.tail _ (.head _)))
    have hI4 : @Ne Nat (@HAdd.hAdd Nat Nat Nat _ L 1) I := hI _ (.tail _ (.tail _ (.tail _ (.head _))))
    have hOff2 : OwnOff rest [lf, ls, lp, L + 1, I] := by
      intro p hp b hb
      simp only [List.mem_cons, List.not_mem_nil, or_false] at hb
      rcases hb with e | e | e | e | e <;> rw [e]
      · exact hOff p hp lf (.head _)
      · exact hOff p hp ls (.tail _ (.head _))
      · exact hOff p hp lp (.tail _ (.tail _ (.head _)))
      · exact hOff p hp (L + 1) (.tail _ (.tail _ (.tail _ (.head _))))
      · exact hI p (.tail _ (.tail _ (.tail _ (.tail _ hp))))
    have F' := frKnown (frKnown (frKnown (frKnown F' hm1) (x := Str.ofString "kind") (by
        show (if Str.ofString "kind" = Str.ofString "figures" then _ else m _) = _
        rw [if_neg (by decide)]; exact hm2)) (x := Str.ofString "passes") (by
        show (if Str.ofString "passes" = Str.ofString "kind" then _ else if Str.ofString "passes" = Str.ofString "figures" then _ else m _) = _
        rw [if_neg (by decide), if_neg (by decide)]; exact hm3)) (x := Str.ofString "steps") (by
        show (if Str.ofString "steps" = Str.ofString "passes" then _ else if Str.ofString "steps" = Str.ofString "kind" then _ else if Str.ofString "steps" = Str.ofString "figures" then _ else m _) = _
        rw [if_neg (by decide), if_neg (by decide), if_neg (by decide)]; exact hm4)
    subst hvx
    have hMk := kstMark
    clear hiv hv hxx hnext hI hm1 hm2 hm3 hm4 FZ NZ
    k_steps
    unfold Hold
    refine wpAny_mono (Q := PM s.heap L I oI s x (swapped ⟨ps, st, fi, kd⟩ x)) ?half1 ?half2 (fun _ _ e => e)
    case half1 =>
      refine wpAny_If ?_
      k_fold
      have ho := ownOf_in x
      k_steps
      · unfold Hold
        rename 61 < _ => hgt
        have hsw : swapped ⟨ps, st, fi, kd⟩ x = ⟨ps ++ [swP kd (newKind kd x) (figOf fi (ownOf x) - 62)], st, newFigs fi (ownOf x) (figOf fi (ownOf x) - 62) (newKind kd x), newKind kd x⟩ := if_pos hgt
        have hk' := newKind_in kd x
        rename Fr _ _ _ _ => FQ
        rename News _ _ _ _ => NQ
        dsimp only at FQ NQ
        refine joinTup (swP kd (newKind kd x) (figOf fi (ownOf x) - 62)) FQ NQ ?tup ?go
        case tup =>
          refine wpAny_IfExp ?_
          k_fold
          k_steps
          · exact jt (by assumption) (by assumption) (by assumption) (if_pos (by assumption))
          · exact jt (by assumption) (by assumption) (by assumption) (if_neg (by assumption))
        case go =>
          intro D' h' tk' t9 t91 t92 F' N' l1
          simp only [AllLt, and_true] at l1
          (try dsimp only)
          clear FQ NQ
          k_steps
          rename IntsAre (List.set _ _ _) _ => hI9
          rename (_ ∧ _ ∧ _ ∧ _ ∧ _ ∧ _ ∧ _ ∧ LCg.Off1 _ _) => ho1
          refine opq fun G9 hG9 => ?_
          obtain ⟨ob1, ob2, ob3, ob4, ob5, ob6, ob7, ob8⟩ := ho1
          refine hG9 ?_; clear hG9 G9
          rename News _ _ _ _ => N9
          rw [hsw]
          have hF3 : F3 (newKind kd x) = [53, 49, 45].getD (newKind kd x).toNat 0 := by rcases hk' with e | e | e <;> rw [e] <;> rfl
          exact pm_of (by k_asm) (news_sub N9 (by walk_at "my sub")) (by assumption) rfl rfl rfl rfl (passes_snoc hP (fun q hq => .tail _ hq) (.head _)) (steps_mono hS (fun q hq => .tail _ hq)) (by
              show IntsAre _ (newFigs _ _ _ _)
              unfold newFigs
              rw [hF3]; exact hI9) ob7 hd2 hd3 (Ne.symm ob5) (Ne.symm ob6) hd6 (Ne.symm ob3) hI2 hI3 hI4
            (List.forall_mem_cons.mpr ⟨⟨ob1, Ne.symm (Nat.ne_of_lt l1.2.2.2.1), Ne.symm (Nat.ne_of_lt l1.2.2.2.2.1), Ne.symm (Nat.ne_of_lt l1.2.2.2.2.2.1), Ne.symm (Nat.ne_of_lt l1.2.1)⟩, fun p hp => ⟨off1_ne ob8 p hp, hOff2 p hp _ (.tail _ (.head _)), hOff2 p hp _ (.tail _ (.tail _ (.head _))), hOff2 p hp _ (.tail _ (.tail _ (.tail _ (.head _)))), hOff2 p hp _ (.tail _ (.tail _ (.tail _ (.tail _ (.head _)))))⟩⟩) rfl rfl
      · rename ¬ 61 < _ => hgt
        have hsw : swapped ⟨ps, st, fi, kd⟩ x = ⟨ps, st, fi, kd⟩ := if_neg hgt
        rw [hsw]
        exact pm_of (by k_asm) (by k_asm) hoc rfl rfl rfl rfl hP hS hF hd1 hd2 hd3 hd4 hd5 hd6 hI1 hI2 hI3 hI4 (fun p hp => ⟨hOff2 p hp _ (.head _), hOff2 p hp _ (.tail _ (.head _)), hOff2 p hp _ (.tail _ (.tail _ (.head _))), hOff2 p hp _ (.tail _ (.tail _ (.tail _ (.head _)))), hOff2 p hp _ (.tail _ (.tail _ (.tail _ (.tail _ (.head _)))))⟩) rfl rfl
    case half2 =>
      rintro f ⟨hh2, gg2, dd2, tt2, oo2⟩ hPM9
      have hf9 := hPM9.flow
      subst hf9
      refine opq fun G9 hG9 => ?_
      obtain ⟨_, g1, g2, g3, m2, nw2, F2, N2, hIn, ⟨oc2, oc2', lp2, cp2, ls2, cs2, lf2, cf2, vps2, vss2, vf2, rest2, tk2, rfl, hoc2, q1, q2, q3, q4, hP2, hS2, hF2, e1, e2, e3, e4, e5, e6, hOf⟩, ⟨t5, q5⟩, ⟨t6, q6⟩⟩ := hPM9
      refine hG9 ?_; clear hG9 G9
      have hsl1 : (swapped ⟨ps, st, fi, kd⟩ x).passes.length ≤ ps.length + 1 := by unfold swapped; split <;> simp
      have hsl2 : (swapped ⟨ps, st, fi, kd⟩ x).steps = st := by unfold swapped; split <;> rfl
      have hsl3 : (swapped ⟨ps, st, fi, kd⟩ x).kind = 0 ∨ (swapped ⟨ps, st, fi, kd⟩ x).kind = 1 ∨ (swapped ⟨ps, st, fi, kd⟩ x).kind = 2 := by
        unfold swapped; split
        · exact newKind_in _ _
        · exact hk3
      have hps : pStep ⟨ps, st, fi, kd⟩ x = inserted (swapped ⟨ps, st, fi, kd⟩ x) x := rfl
      have hvp2 : vps2.length ≤ 200 := by rw [hP2.1]; exact Nat.le_trans hsl1 (Nat.le_trans (Nat.succ_le_succ (hP.1 ▸ hvp)) (by decide))
      have hvs2 : vss2.length ≤ 200 := by rw [hS2.1, hsl2, ← hS.1]; exact Nat.le_trans hvs (by decide)
      generalize swapped ⟨ps, st, fi, kd⟩ x = c2 at *
      dsimp only at g1 g2 g3 F2 N2
      subst g1 g2 g3
      have F3 := frKnown (frKnown (frKnown (frKnown (frKnown (frKnown F2 q1) (x := Str.ofString "kind") (by
        show (if Str.ofString "kind" = Str.ofString "figures" then _ else m2 _) = _
        rw [if_neg (by decide)]; exact q2)) (x := Str.ofString "passes") (by
        show (if Str.ofString "passes" = Str.ofString "kind" then _ else if Str.ofString "passes" = Str.ofString "figures" then _ else m2 _) = _
        rw [if_neg (by decide), if_neg (by decide)]; exact q3)) (x := Str.ofString "steps") (by
        show (if Str.ofString "steps" = Str.ofString "passes" then _ else if Str.ofString "steps" = Str.ofString "kind" then _ else if Str.ofString "steps" = Str.ofString "figures" then _ else m2 _) = _
        rw [if_neg (by decide), if_neg (by decide), if_neg (by decide)]; exact q4)) (x := Str.ofString "own") (by
        show (if Str.ofString "own" = Str.ofString "steps" then _ else if Str.ofString "own" = Str.ofString "passes" then _ else if Str.ofString "own" = Str.ofString "kind" then _ else if Str.ofString "own" = Str.ofString "figures" then _ else m2 _) = _
        rw [if_neg (by decide), if_neg (by decide), if_neg (by decide), if_neg (by decide)]; exact q5)) (x := Str.ofString "x") (by
        show (if Str.ofString "x" = Str.ofString "own" then _ else if Str.ofString "x" = Str.ofString "steps" then _ else if Str.ofString "x" = Str.ofString "passes" then _ else if Str.ofString "x" = Str.ofString "kind" then _ else if Str.ofString "x" = Str.ofString "figures" then _ else m2 _) = _
        rw [if_neg (by decide), if_neg (by decide), if_neg (by decide), if_neg (by decide), if_neg (by decide)]; exact q6)
      have hI1' : @Ne Nat lf2 I := hIn _ (.head _)
      have hI2' : @Ne Nat ls2 I := hIn _ (.tail _ (.head _))
      have hI3' : @Ne Nat lp2 I := hIn _ (.tail _ (.tail _ (.head _)))
      have hI4' : @Ne Nat (@HAdd.hAdd Nat Nat Nat _ L 1) I := hIn _ (.tail _ (.tail _ (.tail _ (.head _))))
      have hI5' : ∀ p ∈ rest2, @Ne Nat p.1 I := fun p hp => hIn p (.tail _ (.tail _ (.tail _ (.tail _ hp))))
      clear F2 q1 q2 q3 q4 q5 q6 hIn hOff2 hI1 hI2 hI3 hI4 hOff hd1 hd2 hd3 hd4 hd5 hd6 hS hP hF hfr hvp hvs hpl hsl hoc hfl hk3
      dsimp only
      k_steps
      unfold Hold
      rename Fr _ _ _ _ => FQ
      rename News _ _ _ _ => NQ
      k_dflt (refine' useX (c_insertion _ _ _ _ _ hsl3 ?p0 ?p1) ?u1 FQ NQ ?u4 ?u5 ?u6 ?u7 ?u8 ?u9 ?u10 ?go; (case u1 => k_asm); (case u4 => k_asm); (case u5 => k_asm); (case u6 => exact rfl); (case u7 => exact rfl); (case u8 => exact rfl); (case u9 => exact Nat.le_of_ble_eq_true rfl); (case u10 => exact Nat.le_of_ble_eq_true rfl))
      case p0 => exact (pick_in hx0.1 hx0.2).1
      case p1 => exact (pick_in hx0.1 hx0.2).2
      case go =>
        intro v9 h9 tk9 F9 N9 hP9
        refine opq fun G9 hG9 => ?_
        obtain ⟨a9, tw9, t91, t92, ev9, hn9, hg9⟩ := hP9
        obtain ⟨N9, o9⟩ := fresh_news FQ NQ N9 hn9 hg9
        simp only [LCg.Off1] at o9
        obtain ⟨oa1, oa2, oa3, oa4, oa5, oa6⟩ := o9
        refine hG9 ?_; clear hG9 G9
        subst ev9
        (try dsimp only)
        clear FQ NQ hn9 hg9
        k_steps
        rename News _ _ _ _ => N10
        rename (_ < _ ∧ _ < _ ∧ _ < _ ∧ _ < _ ∧ _ < _ ∧ _ < _ ∧ AllLt _ _) => ol
        refine opq fun G9 hG9 => ?_
        obtain ⟨ol1, ol2, ol3, ol4, ol5, ol6, ol7⟩ := ol
        refine hG9 ?_; clear hG9 G9
        simp only [List.push_toArray] at N10
        have N11 := news_sub (b := (I, oI) :: (lf2, _) :: (ls2, _) :: (lp2, _) :: (L + 1, oc2) :: _ :: (a9, _) :: rest2) N10 (by
          refine List.forall_mem_cons.mpr ⟨.tail _ (.tail _ (.head _)), List.forall_mem_cons.mpr ⟨.tail _ (.tail _ (.tail _ (.head _))), List.forall_mem_cons.mpr ⟨.tail _ (.tail _ (.tail _ (.tail _ (.head _)))), List.forall_mem_cons.mpr ⟨.tail _ (.tail _ (.tail _ (.tail _ (.tail _ (.head _))))), List.forall_mem_cons.mpr ⟨.tail _ (.tail _ (.tail _ (.tail _ (.tail _ (.tail _ (.head _)))))), List.forall_mem_cons.mpr ⟨.head _, List.forall_mem_cons.mpr ⟨.tail _ (.head _), fun p hp => .tail _ (.tail _ (.tail _ (.tail _ (.tail _ (.tail _ (.tail _ hp))))))⟩⟩⟩⟩⟩⟩⟩)
        refine FL.turnEnd (by k_asm) N11 ?hI ?J
        case J =>
          rw [hps]
          exact pj_of hoc2 rfl rfl rfl rfl (passes_snoc hP2 (fun q hq => .tail _ (.tail _ hq)) (.tail _ (.head _))) (steps_snoc hS2 (fun q hq => .tail _ (.tail _ hq)) (.head _)) hF2 e1 e2 e3 e4 e5 e6 (List.forall_mem_cons.mpr ⟨⟨Ne.symm (Nat.ne_of_lt ol3), Ne.symm (Nat.ne_of_lt ol4), Ne.symm (Nat.ne_of_lt ol5), Ne.symm (Nat.ne_of_lt ol6)⟩, List.forall_mem_cons.mpr ⟨⟨Ne.symm oa2, Ne.symm oa3, Ne.symm oa4, Ne.symm oa5⟩, fun p hp => ⟨hOf p hp _ (.head _), hOf p hp _ (.tail _ (.head _)), hOf p hp _ (.tail _ (.tail _ (.head _))), hOf p hp _ (.tail _ (.tail _ (.tail _ (.head _))))⟩⟩⟩)
        case hI =>
          exact List.forall_mem_cons.mpr ⟨hI1', List.forall_mem_cons.mpr ⟨hI2', List.forall_mem_cons.mpr ⟨hI3', List.forall_mem_cons.mpr ⟨hI4', List.forall_mem_cons.mpr ⟨Ne.symm (Nat.ne_of_lt ol2), List.forall_mem_cons.mpr ⟨Ne.symm oa1, hI5'⟩⟩⟩⟩⟩⟩
  case done =>
    intro m nw h tk hJ9 F' N'
    refine opq fun G9 hG9 => ?_
    obtain ⟨oc, oc', lp, cp, ls, cs, lf, cf, vps, vss, vf, rest, tkk, rfl, hoc, hm1, hm2, hm3, hm4, hP, hS, hF, _⟩ := hJ9
    refine hG9 ?_; clear hG9 G9
    have hlen : vs.toArray.size = ns.length := by rw [List.size_toArray]; exact hi.length
    rw [hlen, List.take_length] at hP hS hF
    have F' := frKnown (frKnown (frKnown F' hm1) (x := Str.ofString "passes") (by
        show (if Str.ofString "passes" = Str.ofString "figures" then _ else m _) = _
        rw [if_neg (by decide)]; exact hm3)) (x := Str.ofString "steps") (by
        show (if Str.ofString "steps" = Str.ofString "passes" then _ else if Str.ofString "steps" = Str.ofString "figures" then _ else m _) = _
        rw [if_neg (by decide), if_neg (by decide)]; exact hm4)
    clear FZ NZ
    k_steps
    rename News _ _ _ _ => N10
    exact Fin.mk' (by k_asm) ⟨_, lp, cp, ls, cs, lf, cf, vps, vss, vf, rest, rfl, made_of N10 (by walk_at "my sub"), hP, hS, hF⟩
/- C14d -/
theorem useF {w : World} {mean mg mb} {d u : Nat} {f : Addr} {pos : List Value} {kw : List (Str × Value)} {post : Value → Heap → Prop} {A : Around} {base h₀ : Heap} {outer : List Env} {L a : Addr} {m : Str → Option Value} {news : List (Addr × Obj)} {name : Str} {scope : Scope} {cd : Value} {s : Shared} {Q : Value → Shared → Prop} {E : Value → Shared → Prop}
    (C : Calls w mean mg mb d u f pos kw s.heap post) (B : Below A base outer h₀) (F : Fr h₀ L s.heap m) (N : News h₀ L s.heap news) (X : (heapK w.params).In h₀) (T : Top viewK LS mean mg mb h₀)
    (hk : scope.kind = .function) (hh : A.handled = none) (hg : A.guards = some []) (hd : A.depth + 1 ≤ d) (hu : A.units + 3 ≤ u)
    (h : ∀ v h' tk, Fr h₀ L h' m → News h₀ L h' news → post v h' → Q v { s with heap := h', toks := tk }) :
    wpAny (model Challenge.rw_pa0041_01.row.prog w) (A.deeper (envOf name scope L a cd)) (call (.ref f) pos kw) Q E s :=
  use (fun h e => e ▸ C) B F N X T hk hh hg hd hu h
def NeA (a b : Nat) : Prop := a ≠ b
theorem neA_out {a b : Nat} (h : NeA a b) : a ≠ b := h
theorem neA_in {a b : Nat} (h : a ≠ b) : NeA a b := h
def NeAll (d : Nat) : List (Addr × Obj) → Prop
  | [] => True
  | p :: r => NeA p.1 d ∧ NeAll d r
theorem neAll_of {d : Addr} : ∀ {l : List (Addr × Obj)}, LCg.Off1 d l → NeAll d l
  | [], _ => trivial
  | _ :: _, h => ⟨h.1, neAll_of h.2⟩
theorem reg33 : True := by
  k_with "k_ne" => (refine neN ?_; (try dsimp only); first | exact neA_out (by assumption) | exact Ne.symm (neA_out (by assumption)))
  exact trivial
def StepsAt (h : Heap) (vs : List Value) (S : List (Int × Bool)) : Prop :=
  vs.length = S.length ∧ ∀ (i : Nat) (p : Int × Bool), S[i]? = some p → ∃ a t, vs[i]? = some (Value.ref a) ∧ IsTup h a #[.int p.1 t, .bool p.2]
theorem reg34 : True := by
  k_with "exec For Tuple Name cons nil" => (refine Hold.out ?_)
  k_with "exec For Tuple Subscript cons nil" => (refine Hold.out ?_)
  k_with "call ref" => ((with_reducible show wpAny _ _ (call (Value.ref 175) [Value.ref _] _) _ _ _); (rename Fr _ _ _ _ => FQ); (rename News _ _ _ _ => NQ); k_dflt (refine' useF (c_closed _ _ _ _ ?clr53 ?cir53 ?cnr53) ?u1 FQ NQ ?u4 ?u5 ?u6 ?u7 ?u8 ?u9 ?u10 ?_; (case u1 => k_asm); (case u4 => k_asm); (case u5 => k_asm); (case u6 => exact rfl); (case u7 => exact rfl); (case u8 => exact rfl); (case u9 => exact Nat.le_of_ble_eq_true rfl); (case u10 => exact Nat.le_of_ble_eq_true rfl); (case clr53 => kmk_list); (case cir53 => first | (with_reducible assumption) | l_ints)); (case cnr53 => walk_at "my len"); (intro _ _ _ _ N9 hP9; refine opq fun G9 hG9 => ?_; obtain ⟨a9, us9, n9, e9, hn9, hg9, hI9⟩ := hP9; k_dflt (have N10 := fresh_news FQ NQ N9 hn9 hg9); clear FQ NQ hn9 hg9 N9; obtain ⟨N11, o9⟩ := N10; (replace o9 := neAll_of o9); (try simp only [NeAll, and_true] at o9); (repeat (rcases o9 with ⟨_, o9⟩)); (try (first | (replace hI9 : IntsAre us9 (PW.closed (_ ++ [0])) := hI9) | (replace hI9 : IntsAre us9 (PW.closed (_ ++ [1])) := hI9) | (replace hI9 : IntsAre us9 (PW.closed (_ ++ [2])) := hI9))); (have hL9 := hI9.length); refine hG9 ?_; clear hG9 G9; subst e9; (try dsimp only)))
  k_with "mycall" => ((with_reducible show wpAny _ _ (call (Value.ref 175) [Value.ref _] _) _ _ _); (rename Fr _ _ _ _ => FQ); (rename News _ _ _ _ => NQ); k_dflt (refine' useF (c_closed _ _ _ _ ?clr54 ?cir54 ?cnr54) ?u1 FQ NQ ?u4 ?u5 ?u6 ?u7 ?u8 ?u9 ?u10 ?_; (case u1 => k_asm); (case u4 => k_asm); (case u5 => k_asm); (case u6 => exact rfl); (case u7 => exact rfl); (case u8 => exact rfl); (case u9 => exact Nat.le_of_ble_eq_true rfl); (case u10 => exact Nat.le_of_ble_eq_true rfl); (case clr54 => kmk_list); (case cir54 => first | (with_reducible assumption) | l_ints)); (case cnr54 => walk_at "my len"); (intro _ _ _ _ N9 hP9; refine opq fun G9 hG9 => ?_; obtain ⟨a9, us9, n9, e9, hn9, hg9, hI9⟩ := hP9; k_dflt (have N10 := fresh_news FQ NQ N9 hn9 hg9); clear FQ NQ hn9 hg9 N9; obtain ⟨N11, o9⟩ := N10; (replace o9 := neAll_of o9); (try simp only [NeAll, and_true] at o9); (repeat (rcases o9 with ⟨_, o9⟩)); (try (first | (replace hI9 : IntsAre us9 (PW.closed (_ ++ [0])) := hI9) | (replace hI9 : IntsAre us9 (PW.closed (_ ++ [1])) := hI9) | (replace hI9 : IntsAre us9 (PW.closed (_ ++ [2])) := hI9))); (have hL9 := hI9.length); refine hG9 ?_; clear hG9 G9; subst e9; (try dsimp only)))
  k_with "call ref" => ((with_reducible show wpAny _ _ (call (Value.ref 175) [Value.ref _] _) _ _ _); (with_reducible show wpAny _ _ _ (fun _ _ => wpAny _ _ (storeName _ (Str.ofString "longer") _) _ _ _) _ _ ); refine Hold.out ?_)
  k_with "my len" => first | assumption | (rw [List.length_append, List.length_singleton]; omega)
  k_with "subscriptTail Name Slice ref ref" => (k_here; (with_reducible show wpAny _ _ (subscriptTail _ (PySem.Expr.Slice (some _) (some _) none _) (Value.ref _) (Value.ref _)) _ _ _); k_dflt (refine' SL.ab_ ?Fr57 ?Nr57 ?lr57 ?ir57 ?h0r57 ?h1r57 ?h2r57 ?h3r57 ?zr57 ?_ ?sr57 ?tr57; (case Fr57 => k_asm); (case Nr57 => k_asm); (case lr57 => kmk_list); (case ir57 => first | (with_reducible assumption) | l_ints); (case h0r57 => omega); (case h1r57 => omega); (case h2r57 => omega); (case h3r57 => omega); (case zr57 => walk_at "my size"); (case sr57 => with_unfolding_all rfl); (case tr57 => kmk_pure)); intro _ _ _ _ _ l1 _; (try k_lt l1); (try k_sweep))
  exact trivial
theorem word_of {A : List Int} {B u : Nat} {s : Int} (h : s = (u : Int)) (hl : B ≤ A.length) : List.take ((s + ((A.length : Int) - (B : Int))).toNat - s.toNat) (List.drop s.toNat A) = List.take (A.length - B) (List.drop u A) := by
  subst h
  rw [Int.toNat_natCast]
  congr 1
  omega
theorem stepsAt_rev {h : Heap} {vs : List Value} {S : List (Int × Bool)} (H : StepsAt h vs S) : StepsAt h vs.reverse S.reverse := by
  refine ⟨by simp [H.1], fun i p hp => ?_⟩
  have hi : i < S.length := by
    have := (List.getElem?_eq_some_iff.mp hp).1
    simpa using this
  rw [List.getElem?_reverse hi] at hp
  rw [List.getElem?_reverse (by rw [H.1]; exact hi), H.1]
  exact H.2 _ _ hp
theorem pal_len (l : List Int) : (PW.pal l).length + 1 ≤ 2 ^ l.length := by
  have := PW.P_len (l.reverse.map fun x => (x, false))
  unfold PW.P at this
  simpa [List.map_map, Function.comp_def] using this
theorem pal_len' (l : List Int) (h : l.length ≤ 5) : (PW.pal l).length ≤ 32 := by
  have h1 := pal_len l
  have h3 : 2 ^ l.length ≤ 2 ^ 5 := Nat.pow_le_pow_right (by decide) h
  rw [show (2 : Nat) ^ 5 = 32 from rfl] at h3
  omega
def WordsAt (v : Value) (h h' : Heap) (S : List (Int × Bool)) : Prop :=
  ∃ a n r0 r1 r2 u0 u1 u2 c0 c1 c2, v = .ref a ∧ Made h h' [(a, W.listOf #[.ref r0, .ref r1, .ref r2] n), (r0, W.listOf (List.toArray u0) c0), (r1, W.listOf (List.toArray u1) c1), (r2, W.listOf (List.toArray u2) c2)] ∧
    IntsAre u0 (PW.sig S [0]) ∧ IntsAre u1 (PW.sig S [1]) ∧ IntsAre u2 (PW.sig S [2])
theorem words_fin {h₀ h' : Heap} {L a r0 r1 r2 : Addr} {m : Str → Option Value} {news : List (Addr × Obj)} {n c0 c1 c2 tk : Nat} {u0 u1 u2 : List Value} {S : List (Int × Bool)} {s : Shared} (F : Fr h₀ L h' m) (N : News h₀ L h' news)
    (hs : ∀ p ∈ [(a, W.listOf #[.ref r0, .ref r1, .ref r2] n), (r0, W.listOf (List.toArray u0) c0), (r1, W.listOf (List.toArray u1) c1), (r2, W.listOf (List.toArray u2) c2)], p ∈ news)
    (i0 : IntsAre u0 (PW.sig S [0])) (i1 : IntsAre u1 (PW.sig S [1])) (i2 : IntsAre u2 (PW.sig S [2])) : Fin h₀ s (fun v h' => WordsAt v h₀ h' S) (.ref a) { s with heap := h', toks := tk } :=
  Fin.mk' F ⟨a, n, r0, r1, r2, u0, u1, u2, c0, c1, c2, rfl, made_of N hs, i0, i1, i2⟩
def cntL (S : List (Int × Bool)) : List Int := [(PW.cnt S).1, (PW.cnt S).2.1, (PW.cnt S).2.2]
theorem reg35 : True := by
  k_with "subscriptTail Name Slice ref ref" => (k_here; (with_reducible show wpAny _ _ (subscriptTail _ (PySem.Expr.Slice none none (some _) _) (Value.ref _) (Value.ref _)) _ _ _); k_dflt (refine' krv_lit ?Fr58 ?Nr58 ?lr58 ?kr58 ?er58 ?_ ?sr58 ?tr58 ?zr58; (case Fr58 => k_asm); (case Nr58 => k_asm); (case lr58 => kmk_list); (case kr58 => exact IsPart.int _ _); (case er58 => exact rfl); (case sr58 => with_unfolding_all rfl); (case tr58 => kmk_pure); (case zr58 => walk_at "my size")); intro _ _ _ _ l1; (try k_lt l1); (try k_sweep))
  exact trivial
theorem cstep_list (c : Int × Int × Int) (s : Int × Bool) (h : s.1 = 0 ∨ s.1 = 1 ∨ s.1 = 2) :
    [(PW.cstep c s).1, (PW.cstep c s).2.1, (PW.cstep c s).2.2] = [c.1, c.2.1, c.2.2].set s.1.toNat ([c.1, c.2.1, c.2.2].sum + if s.2 then 1 else 0) := by
  obtain ⟨a, b⟩ := s
  dsimp only at h
  unfold PW.cstep
  dsimp only
  have e : [c.1, c.2.1, c.2.2].sum = c.1 + c.2.1 + c.2.2 := by simp [Int.add_assoc]
  rw [e]
  rcases h with h | h | h <;> subst h <;> rfl
theorem cntL_snoc (S : List (Int × Bool)) (i : Nat) (p : Int × Bool) (hp : S[i]? = some p) (h : p.1 = 0 ∨ p.1 = 1 ∨ p.1 = 2) : cntL (S.take (i + 1)) = (cntL (S.take i)).set p.1.toNat ((cntL (S.take i)).sum + if p.2 then 1 else 0) := by
  rw [List.take_add_one, hp, Option.toList_some]
  unfold cntL
  rw [PW.cnt_snoc]
  exact cstep_list _ _ h
theorem U_len (S : List (Int × Bool)) (hn : S.length ≤ 5) : (PW.U S).length ≤ 40 := by
  obtain ⟨q, hq⟩ := PW.U_prefix S
  have h1 := congrArg List.length hq
  have h2 := PW.P_len S
  have h3 : 2 ^ S.length ≤ 2 ^ 5 := Nat.pow_le_pow_right (by decide) hn
  rw [List.length_append] at h1
  rw [show (2 : Nat) ^ 5 = 32 from rfl] at h3
  omega
theorem cntL_sum (S : List (Int × Bool)) (hn : S.length ≤ 5) (hx : ∀ s ∈ S, s.1 = 0 ∨ s.1 = 1 ∨ s.1 = 2) : (cntL S).sum = ((PW.U S).length : Int) ∧ 0 ≤ (cntL S).sum ∧ (cntL S).sum ≤ 300 := by
  have h1 := PW.cnt_sum S hx
  have h2 := U_len S hn
  have e : (cntL S).sum = (PW.cnt S).1 + (PW.cnt S).2.1 + (PW.cnt S).2.2 := by simp [cntL, Int.add_assoc]
  rw [e, h1]
  omega
set_option maxHeartbeats 8000000 in
theorem c_become {w mean mg mb} (l : Addr) (vs : List Value) (S : List (Int × Bool)) (h : Heap) (hl : h.IsList l vs.toArray) (hS : StepsAt h vs S) (hn : S.length ≤ 5) (hx : ∀ s ∈ S, s.1 = 0 ∨ s.1 = 1 ∨ s.1 = 2) :
    Calls w mean mg mb 500 5000 182 [.ref l] [] h (fun v h' => WordsAt v h h' S) := by
  k_dflt (refine' enterC (binds := [(Str.ofString "steps", .ref l)]) ?k6 ?k7 ?k8 ?k9 ?kB ?_ ?c2 ?c3 ?c4 ?c5; walk_at "my ends")
  rintro base outer s L h₁ tk rfl B F N X T; k_fold
  k_steps
  rename Fr _ _ _ _ => FZ
  rename News _ _ _ _ => NZ
  unfold Hold
  have NZ := news_sub (b := [(_, W.listOf #[] 0), (_, W.listOf #[Value.int 0 _, Value.int 0 _, Value.int 0 _] 0)]) NZ (by walk_at "my sub")
  k_dflt (refine' FL.forL (l := l) (items := vs.toArray) (fun i m nw => ∃ lc lp cc cp vc, nw = [(lp, W.listOf #[] cp), (lc, W.listOf (List.toArray vc) cc)] ∧ m (Str.ofString "counts") = some (.ref lc) ∧ m (Str.ofString "palindrome") = some (.ref lp) ∧ m (Str.ofString "steps") = some (.ref l) ∧ IntsAre vc (cntL (S.take i)) ∧ @LT.lt Nat _ lc lp) ?hh ?F ?N ?hev ?hl ?hj ?turn ?done ?hs; (case F => exact FZ); (case N => exact NZ); (case hh => rfl); (case hs => (intro _; rfl)))
  case hev => intro Q' hq; exact ld FZ rfl hq
  case hl => intro i m nw h _ F' _; exact hl.at fun o e => F'.keep _ _ e
  case hj => exact ⟨_, _, _, _, [_, _, _], rfl, rfl, rfl, rfl, .cons _ _ (.cons _ _ (.cons _ _ .nil)), by assumption⟩
  case turn =>
    intro i v m nw h tk I oI hv hJ9 F' N' hnI
    refine opq fun G9 hG9 => ?_
    obtain ⟨lc, lp, cc, cp, vc, rfl, hm1, hm2, hm3, hI, hlt⟩ := hJ9
    have hiS : i < S.length := by
      have := (Array.getElem?_eq_some_iff.mp hv).1
      rw [← hS.1]; simpa using this
    obtain ⟨a, t, e1, e2⟩ := hS.2 i S[i] (by simp [hiS])
    have ev : v = .ref a := by
      have : vs[i]? = some v := by simpa using hv
      rw [e1] at this; exact (Option.some.inj this).symm
    refine hG9 ?_; clear hG9 G9
    subst ev
    have hp3 := hx S[i] (List.getElem_mem hiS)
    have hnext := cntL_snoc S i S[i] (by simp [hiS]) hp3
    have hs89 := cntL_sum (S.take i) (Nat.le_trans (List.length_take_le' _ _) hn) (fun s hs => hx s (List.mem_of_mem_take hs))
    have hs8 := hs89.2.1
    have hs9 := hs89.2.2
    clear hs89
    rw [hnext]
    have hlen3 : (cntL (S.take i)).length = 3 := rfl
    have hnI1 : @Ne Nat lp I := hnI _ (.head _)
    have hnI2 : @Ne Nat lc I := hnI _ (.tail _ (.head _))
    have hnI3 : @Ne Nat lp lc := Ne.symm (Nat.ne_of_lt hlt)
    generalize cntL (S.take i) = cs at *
    generalize S[i] = p at *
    obtain ⟨own, bh⟩ := p
    dsimp only at *
    have F' := frKnown (frKnown (frKnown F' hm1) (x := Str.ofString "palindrome") (by
        show (if Str.ofString "palindrome" = Str.ofString "counts" then _ else m _) = _
        rw [if_neg (by decide)]; exact hm2)) (x := Str.ofString "steps") (by
        show (if Str.ofString "steps" = Str.ofString "palindrome" then _ else if Str.ofString "steps" = Str.ofString "counts" then _ else m _) = _
        rw [if_neg (by decide), if_neg (by decide)]; exact hm3)
    have hMk := kstMark
    clear hm1 hm2 hm3 hnext e1 hv FZ NZ hiS hnI
    k_steps
    all_goals (
      rename IntsAre (List.set _ _ _) _ => hI9
      refine FL.turnEnd (by k_asm) (by k_asm) (List.forall_mem_cons.mpr ⟨hnI1, List.forall_mem_cons.mpr ⟨hnI2, List.forall_mem_nil _⟩⟩) ⟨lc, lp, cc, cp, _, rfl, rfl, rfl, rfl, ?_, hlt⟩)
    · rename bh = true => hb
      subst hb
      exact hI9
    · rename bh = false => hb
      subst hb
      exact hI9
  case done =>
    intro m nw h tk hJ9 F' N'
    refine opq fun G9 hG9 => ?_
    obtain ⟨lc, lp, cc, cp, vc, rfl, hm1, hm2, hm3, hI, hlt⟩ := hJ9
    have hsz : vs.toArray.size ≤ sizeLine := by rw [List.size_toArray, hS.1, sizeLine_eq]; omega
    rw [show vs.toArray.size = S.length by rw [List.size_toArray, hS.1], List.take_length] at hI
    obtain ⟨hs7, hs8, hs9⟩ := cntL_sum S hn hx
    refine hG9 ?_; clear hG9 G9
    have F' := frKnown (frKnown (frKnown F' hm1) (x := Str.ofString "palindrome") (by
        show (if Str.ofString "palindrome" = Str.ofString "counts" then _ else m _) = _
        rw [if_neg (by decide)]; exact hm2)) (x := Str.ofString "steps") (by
        show (if Str.ofString "steps" = Str.ofString "palindrome" then _ else if Str.ofString "steps" = Str.ofString "counts" then _ else m _) = _
        rw [if_neg (by decide), if_neg (by decide)]; exact hm3)
    clear hm1 hm2 hm3 FZ NZ
    k_steps
    unfold Hold
    refine wpAny_For ?_ (by intro _; rfl)
    k_steps
    rename Fr _ _ _ _ => FI
    rename News _ _ _ _ => NI
    rename_i D2 _
    have l2 := l1
    have NI := news_sub (b := [(lp, _), (D2, _), (lc, _)]) NI (by walk_at "my sub")
    have hr := stepsAt_rev hS
    k_dflt (refine' FL.forL_at (l := D2) (items := vs.reverse.toArray) (fun j m nw => ∃ lq cq vq, nw = [(lq, W.listOf (List.toArray vq) cq), (D2, W.listOf vs.reverse.toArray 0), (lc, W.listOf (List.toArray vc) cc)] ∧ m (Str.ofString "palindrome") = some (.ref lq) ∧ m (Str.ofString "counts") = some (.ref lc) ∧ IntsAre vq (PW.pal ((S.map (·.1)).reverse.take j)) ∧ NeA lq D2 ∧ NeA lq lc ∧ NeA D2 lc) ?hh2 ?F2 ?N2 ?hl2 ?hj2 ?turn2 ?done2; (case F2 => exact FI); (case N2 => exact NI); (case hh2 => rfl))
    case hl2 => rintro j m nw h ⟨lq, cq, vq, rfl, _⟩ F N; exact ⟨_, (N _ (.tail _ (.head _))).1, rfl, _, rfl⟩
    case hj2 => exact ⟨_, _, [], rfl, rfl, rfl, .nil, neA_in (by (refine neN ?_; omega)), neA_in (by (refine neN ?_; omega)), neA_in (by (refine neN ?_; omega))⟩
    case turn2 =>
      intro j v m nw h tk I oI hv hJ9 F' N' hnI
      refine opq fun G9 hG9 => ?_
      obtain ⟨lq, cq, vq, rfl, hm1, hm2, hI2, d1, d2, d3⟩ := hJ9
      have hjS : j < S.reverse.length := by
        have := (Array.getElem?_eq_some_iff.mp hv).1
        rw [← hr.1]; simpa using this
      obtain ⟨a, t, e1, e2⟩ := hr.2 j S.reverse[j] (List.getElem?_eq_getElem hjS)
      have ev : v = .ref a := by
        have : vs.reverse[j]? = some v := by simpa using hv
        rw [e1] at this; exact (Option.some.inj this).symm
      refine hG9 ?_; clear hG9 G9
      subst ev
      have hnext : PW.pal ((S.map (·.1)).reverse.take (j + 1)) = PW.closed (PW.pal ((S.map (·.1)).reverse.take j) ++ [S.reverse[j].1]) := by
        rw [List.take_add_one, ← List.map_reverse, List.getElem?_map, List.getElem?_eq_getElem hjS, Option.map_some, Option.toList_some, PW.pal_snoc]
      have hpl := pal_len' ((S.map (·.1)).reverse.take j) (by rw [List.length_take, List.length_reverse, List.length_map]; omega)
      rw [hnext]
      generalize PW.pal ((S.map (·.1)).reverse.take j) = pl at *
      generalize S.reverse[j] = p at *
      obtain ⟨own, bh⟩ := p
      dsimp only at *
      have hpl2 : (pl ++ [own]).length ≤ 2000 := by rw [List.length_append, List.length_singleton]; omega
      have hnI1 : @Ne Nat lq I := hnI _ (.head _)
      have hnI2 : @Ne Nat D2 I := hnI _ (.tail _ (.head _))
      have hnI3 : @Ne Nat lc I := hnI _ (.tail _ (.tail _ (.head _)))
      have F' := frKnown (frKnown F' hm1) (x := Str.ofString "counts") (by
        show (if Str.ofString "counts" = Str.ofString "palindrome" then _ else m _) = _
        rw [if_neg (by decide)]; exact hm2)
      clear hm1 hm2 hnext e1 hv FI NI hnI
      k_steps
      rename IntsAre _ (PW.closed _) => hI9
      rename News _ _ _ _ => N9
      refine FL.turnEnd (by k_asm) (news_sub (b := [(I, oI), (_, W.listOf _ _), (D2, _), (lc, _)]) N9 (List.forall_mem_cons.mpr ⟨.tail _ (.tail _ (.tail _ (.head _))), List.forall_mem_cons.mpr ⟨.head _, List.forall_mem_cons.mpr ⟨.tail _ (.tail _ (.tail _ (.tail _ (.tail _ (.head _))))), List.forall_mem_cons.mpr ⟨.tail _ (.tail _ (.tail _ (.tail _ (.tail _ (.tail _ (.head _)))))), List.forall_mem_nil _⟩⟩⟩⟩)) (List.forall_mem_cons.mpr ⟨Ne.symm (neA_out (by assumption)), List.forall_mem_cons.mpr ⟨hnI2, List.forall_mem_cons.mpr ⟨hnI3, List.forall_mem_nil _⟩⟩⟩) ⟨_, _, _, rfl, rfl, rfl, hI9, Ne.symm (neA_out (by assumption)), Ne.symm (neA_out (by assumption)), d3⟩
    case done2 =>
      intro m nw h tk hJ9 F' N'
      refine opq fun G9 hG9 => ?_
      obtain ⟨lq, cq, vq, rfl, hm1, hm2, hI2, d1, d2, d3⟩ := hJ9
      refine hG9 ?_; clear hG9 G9
      replace F' : Fr s.heap L h m := F'
      replace N' : News s.heap L h [(lq, W.listOf (List.toArray vq) cq), (D2, W.listOf vs.reverse.toArray 0), (lc, W.listOf (List.toArray vc) cc)] := N'
      have hall : PW.pal ((S.map (·.1)).reverse.take vs.reverse.toArray.size) = PW.P S := by
        have : vs.reverse.toArray.size = (S.map (·.1)).reverse.length := by rw [List.size_toArray, List.length_reverse, List.length_reverse, List.length_map, hS.1]
        rw [this, List.take_length]; rfl
      rw [hall] at hI2
      have hc : ∀ c, (PW.closed (PW.P S ++ [c])).length = (PW.Psi S [c]).length + (PW.P S).length := fun c => by rw [PW.longer, List.length_append]
      have hUP : (PW.U S).length ≤ (PW.P S).length := by
        obtain ⟨q, hq⟩ := PW.U_prefix S
        rw [hq, List.length_append]; omega
      have hPl : (PW.P S).length ≤ 32 := pal_len' _ (by rw [List.length_reverse, List.length_map]; exact hn)
      have hPs : ∀ c, (PW.Psi S [c]).length ≤ 32 := fun c => by
        have h1 := PW.Psi_len S [c]
        have h3 : 2 ^ S.length ≤ 2 ^ 5 := Nat.pow_le_pow_right (by decide) hn
        rw [List.length_singleton, Nat.mul_one] at h1
        exact Nat.le_trans h1 h3
      have w0 := PW.word S 0
      have w1 := PW.word S 1
      have w2 := PW.word S 2
      have c0 := hc 0
      have c1 := hc 1
      have c2 := hc 2
      have p0 := hPs 0
      have p1 := hPs 1
      have p2 := hPs 2
      have l0 : (PW.P S ++ [0]).length ≤ 2000 := by rw [List.length_append, List.length_singleton]; omega
      have l1 : (PW.P S ++ [1]).length ≤ 2000 := by rw [List.length_append, List.length_singleton]; omega
      have l2 : (PW.P S ++ [2]).length ≤ 2000 := by rw [List.length_append, List.length_singleton]; omega
      generalize PW.Psi S [0] = g0 at *
      generalize PW.Psi S [1] = g1 at *
      generalize PW.Psi S [2] = g2 at *
      have F' := frKnown (frKnown F' hm1) (x := Str.ofString "counts") (by
        show (if Str.ofString "counts" = Str.ofString "palindrome" then _ else m _) = _
        rw [if_neg (by decide)]; exact hm2)
      have hMk := kstMark
      have hvq := hI2.length
      have hlp : (PW.P S).length ≤ 1000 := by omega
      clear hm1 hm2 hc hPs hx hall
      (try clear FI NI)
      generalize hPP : PW.P S = pp at *
      generalize hcc : cntL S = cs at *
      k_steps
      unfold Hold
      walk_at "mycall"
      k_steps
      unfold Hold
      walk_at "mycall"
      k_steps
      unfold Hold
      walk_at "mycall"
      k_steps
      rename News _ _ _ _ => NE
      rename IntsAre _ (List.take _ (List.drop _ (PW.closed (pp ++ [0])))) => k0
      rename IntsAre _ (List.take _ (List.drop _ (PW.closed (pp ++ [1])))) => k1
      rename IntsAre _ (List.take _ (List.drop _ (PW.closed (pp ++ [2])))) => k2
      rw [word_of hs7 (by rw [c0]; exact Nat.le_add_left _ _), w0] at k0
      rw [word_of hs7 (by rw [c1]; exact Nat.le_add_left _ _), w1] at k1
      rw [word_of hs7 (by rw [c2]; exact Nat.le_add_left _ _), w2] at k2
      exact words_fin (by k_asm) NE (List.forall_mem_cons.mpr ⟨.tail _ (.tail _ (.tail _ (.tail _ (.tail _ (.tail _ (.tail _ (.tail _ (.tail _ (.tail _ (.tail _ (.tail _ (.head _)))))))))))), List.forall_mem_cons.mpr ⟨.tail _ (.tail _ (.tail _ (.tail _ (.tail _ (.tail _ (.tail _ (.tail _ (.head _)))))))), List.forall_mem_cons.mpr ⟨.tail _ (.tail _ (.tail _ (.tail _ (.head _)))), List.forall_mem_cons.mpr ⟨.head _, List.forall_mem_nil _⟩⟩⟩⟩) k0 k1 k2
/- P2 -/
namespace PB
theorem bitsFree (k x y : Nat) (h : y < 2 ^ k) : Builtin.bitAnd ((x : Int) * ((2 ^ k : Nat) : Int)) (y : Int) = 0 := by
  have e : (x : Int) * ((2 ^ k : Nat) : Int) = ((x * 2 ^ k : Nat) : Int) := by rw [Int.natCast_mul]
  rw [e]
  unfold Builtin.bitAnd
  rw [decide_eq_true (Int.natCast_nonneg _), decide_eq_true (Int.natCast_nonneg _)]
  show (((x * 2 ^ k : Nat) : Int).toNat &&& (y : Int).toNat : Nat) = (0 : Int)
  rw [Int.toNat_natCast, Int.toNat_natCast]
  have : x * 2 ^ k &&& y = 0 := by
    apply Nat.eq_of_testBit_eq
    intro i
    rw [Nat.testBit_and, Nat.testBit_mul_two_pow, Nat.zero_testBit]
    by_cases hi : i ≥ k
    · rw [Nat.testBit_lt_two_pow (Nat.lt_of_lt_of_le h (Nat.pow_le_pow_right (by decide) hi))]; simp
    · simp [hi]
  rw [this]; rfl
theorem orFree (k : Nat) (m : Int) (hm : ((2 ^ k : Nat) : Int) = m) (x y : Int) (hx : 0 ≤ x) (hy : 0 ≤ y) (h : y < m) : Builtin.bitOr (x * m) y = x * m + y := by
  obtain ⟨a, rfl⟩ := Int.eq_ofNat_of_zero_le hx
  obtain ⟨b, rfl⟩ := Int.eq_ofNat_of_zero_le hy
  subst hm
  rw [bitOr_and, bitsFree k a b (by omega)]
  omega
theorem or2 (x y : Int) (hx : 0 ≤ x) (hy : 0 ≤ y) (h : y < 4) : Builtin.bitOr (x * 2 ^ Int.toNat 2) y = x * 4 + y := orFree 2 4 rfl x y hx hy h
theorem or4 (x y : Int) (hx : 0 ≤ x) (hy : 0 ≤ y) (h : y < 16) : Builtin.bitOr (x * 2 ^ Int.toNat 4) y = x * 16 + y := orFree 4 16 rfl x y hx hy h
theorem or6 (x y : Int) (hx : 0 ≤ x) (hy : 0 ≤ y) (h : y < 64) : Builtin.bitOr (x * 2 ^ Int.toNat 6) y = x * 64 + y := orFree 6 64 rfl x y hx hy h
theorem or8 (x y : Int) (hx : 0 ≤ x) (hy : 0 ≤ y) (h : y < 256) : Builtin.bitOr (x * 2 ^ Int.toNat 8) y = x * 256 + y := orFree 8 256 rfl x y hx hy h
theorem lc_is (lc n : Int) (h0 : 0 ≤ lc) (n0 : 0 ≤ n) (n1 : n < 256) : bLc lc n = (lc * 256 + n) % 65536 := by
  unfold bLc; rw [or8 lc n h0 n0 n1, bitAnd_m16]
theorem sg_is (x : Int) (k : Nat) : bSg x k = sgnI ((x.fdiv (2 ^ k)) % 64) := by
  unfold bSg; rw [bitAnd_m6]
theorem enc3 (out : List Int) (lc a b c d : Int) (hl : 0 ≤ lc) (ha0 : 0 ≤ a) (ha1 : a < 64) (hb0 : 0 ≤ b) (hb1 : b < 64) (hc0 : 0 ≤ c) (hc1 : c < 64) (hd0 : 0 ≤ d) (hd1 : d < 64) :
    ∃ lc', 0 ≤ lc' ∧ (oct4 a b c d).foldl bStep (out, 0, lc) = (out ++ [sgnI a, sgnI b, sgnI c, sgnI d], 0, lc') := by
  unfold oct4
  dsimp only
  rw [Int.fdiv_eq_ediv_of_nonneg _ (by decide), Int.fdiv_eq_ediv_of_nonneg _ (by decide), Int.fmod_eq_emod_of_nonneg _ (by decide), Int.fmod_eq_emod_of_nonneg _ (by decide)]
  generalize h1 : (64 * (64 * (64 * (64 * 0 + a) + b) + c) + d) / 65536 = n1
  generalize h2 : (64 * (64 * (64 * (64 * 0 + a) + b) + c) + d) / 256 % 256 = n2
  generalize h3 : (64 * (64 * (64 * (64 * 0 + a) + b) + c) + d) % 256 = n3
  have e1 : bStep (out, 0, lc) n1 = (out ++ [bSg (bLc lc n1) 2], 2, bLc lc n1) := rfl
  have e2 : ∀ o l, bStep (o, 2, l) n2 = (o ++ [bSg (bLc l n2) 4], 4, bLc l n2) := fun _ _ => rfl
  have e3 : ∀ o l, bStep (o, 4, l) n3 = (o ++ [bSg (bLc l n3) 6] ++ [bSg (bLc l n3) 0], 0, bLc l n3) := fun _ _ => rfl
  rw [List.foldl_cons, List.foldl_cons, List.foldl_cons, List.foldl_nil, e1, e2, e3]
  have l1 := lc_is lc n1 hl (by omega) (by omega)
  generalize bLc lc n1 = x1 at *
  have l2 := lc_is x1 n2 (by omega) (by omega) (by omega)
  generalize bLc x1 n2 = x2 at *
  have l3 := lc_is x2 n3 (by omega) (by omega) (by omega)
  generalize bLc x2 n3 = x3 at *
  refine ⟨x3, by omega, ?_⟩
  rw [sg_is, sg_is, sg_is, sg_is, Int.fdiv_eq_ediv_of_nonneg _ (by decide), Int.fdiv_eq_ediv_of_nonneg _ (by decide), Int.fdiv_eq_ediv_of_nonneg _ (by decide), Int.fdiv_eq_ediv_of_nonneg _ (by decide)]
  have p2 : (2 : Int) ^ 2 = 4 := by decide
  have p4 : (2 : Int) ^ 4 = 16 := by decide
  have p6 : (2 : Int) ^ 6 = 64 := by decide
  have p0 : (2 : Int) ^ 0 = 1 := by decide
  rw [p2, p4, p6, p0, show x1 / 4 % 64 = a by omega, show x2 / 16 % 64 = b by omega, show x3 / 64 % 64 = c by omega, show x3 / 1 % 64 = d by omega]
  simp
theorem enc_fold : ∀ (l : List Int) (out : List Int) (lc : Int), 0 ≤ lc → l.length % 4 = 0 → (∀ f ∈ l, 0 ≤ f ∧ f < 64) → ∃ lc', 0 ≤ lc' ∧ (octI l).foldl bStep (out, 0, lc) = (out ++ l.map sgnI, 0, lc')
  | [], out, lc, h, _, _ => ⟨lc, h, by simp [octI]⟩
  | [_], _, _, _, h, _ => by simp at h
  | [_, _], _, _, _, h, _ => by simp at h
  | [_, _, _], _, _, _, h, _ => by simp at h
  | a :: b :: c :: d :: r, out, lc, h, hl, hf => by
    obtain ⟨lc1, h1, e1⟩ := enc3 out lc a b c d h (hf a (by simp)).1 (hf a (by simp)).2 (hf b (by simp)).1 (hf b (by simp)).2 (hf c (by simp)).1 (hf c (by simp)).2 (hf d (by simp)).1 (hf d (by simp)).2
    obtain ⟨lc2, h2, e2⟩ := enc_fold r (out ++ [sgnI a, sgnI b, sgnI c, sgnI d]) lc1 h1 (by simp at hl; omega) (fun f hf' => hf f (by simp [hf']))
    refine ⟨lc2, h2, ?_⟩
    show (oct4 a b c d ++ octI r).foldl bStep _ = _
    rw [List.foldl_append, e1, e2]
    simp
theorem enc_is (l : List Int) (hl : l.length % 4 = 0) (hf : ∀ f ∈ l, 0 ≤ f ∧ f < 64) : (bFold (octI l)).1 = l.map sgnI := by
  obtain ⟨lc, _, e⟩ := enc_fold l [] 0 (by decide) hl hf
  unfold bFold
  rw [e]; simp
/-- decoding -/
def vals (l : List Int) : List Int := (l.filter fun n => decide (b64v n < 64)).map b64v
def vStep (c : List Int × Int × Int) (v : Int) : List Int × Int × Int :=
  if c.2.1 = 0 then (c.1, 1, v)
  else if c.2.1 = 1 then (c.1 ++ [Builtin.bitOr (c.2.2 * 2 ^ Int.toNat 2) (v.fdiv (2 ^ Int.toNat 4))], 2, Builtin.bitAnd v 15)
  else if c.2.1 = 2 then (c.1 ++ [Builtin.bitOr (c.2.2 * 2 ^ Int.toNat 4) (v.fdiv (2 ^ Int.toNat 2))], 3, Builtin.bitAnd v 3)
  else (c.1 ++ [Builtin.bitOr (c.2.2 * 2 ^ Int.toNat 6) v], 0, 0)
theorem fold_vals : ∀ (l : List Int) (c : List Int × Int × Int), l.foldl aStep c = (vals l).foldl vStep c
  | [], _ => rfl
  | n :: l, c => by
    rw [List.foldl_cons, fold_vals l]
    by_cases h : b64v n < 64
    · have e : vals (n :: l) = b64v n :: vals l := by simp [vals, h]
      rw [e, List.foldl_cons]
      congr 1
      unfold aStep vStep
      rw [if_neg (by omega)]
    · have e : vals (n :: l) = vals l := by simp [vals, h]
      rw [e]
      congr 1
      unfold aStep
      rw [if_pos (by omega)]
theorem dec4 (out : List Int) (lc a b c d : Int) (ha0 : 0 ≤ a) (ha1 : a < 64) (hb0 : 0 ≤ b) (hb1 : b < 64) (hc0 : 0 ≤ c) (hc1 : c < 64) (hd0 : 0 ≤ d) (hd1 : d < 64) :
    [a, b, c, d].foldl vStep (out, 0, lc) = (out ++ oct4 a b c d, 0, 0) := by
  have e1 : vStep (out, 0, lc) a = (out, 1, a) := rfl
  have e2 : ∀ o l, vStep (o, 1, l) b = (o ++ [Builtin.bitOr (l * 2 ^ Int.toNat 2) (b.fdiv (2 ^ Int.toNat 4))], 2, Builtin.bitAnd b 15) := fun _ _ => rfl
  have e3 : ∀ o l, vStep (o, 2, l) c = (o ++ [Builtin.bitOr (l * 2 ^ Int.toNat 4) (c.fdiv (2 ^ Int.toNat 2))], 3, Builtin.bitAnd c 3) := fun _ _ => rfl
  have e4 : ∀ o l, vStep (o, 3, l) d = (o ++ [Builtin.bitOr (l * 2 ^ Int.toNat 6) d], 0, 0) := fun _ _ => rfl
  rw [List.foldl_cons, List.foldl_cons, List.foldl_cons, List.foldl_cons, List.foldl_nil, e1, e2, e3, e4]
  have q4 : (2 : Int) ^ Int.toNat 4 = 16 := by decide
  have q2 : (2 : Int) ^ Int.toNat 2 = 4 := by decide
  rw [bitAnd_m4, bitAnd_m2, Int.fdiv_eq_ediv_of_nonneg _ (by decide), Int.fdiv_eq_ediv_of_nonneg _ (by decide)]
  rw [or2 _ _ ha0 (by rw [q4]; omega) (by rw [q4]; omega), or4 _ _ (by omega) (by rw [q2]; omega) (by rw [q2]; omega), or6 _ _ (by omega) hd0 hd1, q4, q2]
  unfold oct4
  dsimp only
  rw [Int.fdiv_eq_ediv_of_nonneg _ (by decide), Int.fdiv_eq_ediv_of_nonneg _ (by decide), Int.fmod_eq_emod_of_nonneg _ (by decide), Int.fmod_eq_emod_of_nonneg _ (by decide)]
  rw [show (64 * (64 * (64 * (64 * 0 + a) + b) + c) + d) / 65536 = a * 4 + b / 16 by omega, show (64 * (64 * (64 * (64 * 0 + a) + b) + c) + d) / 256 % 256 = b % 16 * 16 + c / 4 by omega, show (64 * (64 * (64 * (64 * 0 + a) + b) + c) + d) % 256 = c % 4 * 64 + d by omega]
  simp
theorem dec_fold : ∀ (l : List Int) (out : List Int) (lc : Int), l.length % 4 = 0 → (∀ f ∈ l, 0 ≤ f ∧ f < 64) → ∃ lc', l.foldl vStep (out, 0, lc) = (out ++ octI l, 0, lc')
  | [], out, lc, _, _ => ⟨lc, by simp [octI]⟩
  | [_], _, _, h, _ => by simp at h
  | [_, _], _, _, h, _ => by simp at h
  | [_, _, _], _, _, h, _ => by simp at h
  | a :: b :: c :: d :: r, out, lc, hl, hf => by
    obtain ⟨lc2, e2⟩ := dec_fold r (out ++ oct4 a b c d) 0 (by simp at hl; omega) (fun f hf' => hf f (by simp [hf']))
    refine ⟨lc2, ?_⟩
    show ([a, b, c, d] ++ r).foldl vStep _ = _
    rw [List.foldl_append, dec4 out lc a b c d (hf a (by simp)).1 (hf a (by simp)).2 (hf b (by simp)).1 (hf b (by simp)).2 (hf c (by simp)).1 (hf c (by simp)).2 (hf d (by simp)).1 (hf d (by simp)).2, e2]
    rw [List.append_assoc]; rfl
theorem vals_range (l : List Int) : ∀ f ∈ vals l, 0 ≤ f ∧ f < 64 := by
  intro f hf
  unfold vals at hf
  obtain ⟨n, hn, rfl⟩ := List.mem_map.mp hf
  have := (List.mem_filter.mp hn).2
  have h2 := b64v_range n
  simp at this
  omega
theorem dec_is (l : List Int) (hl : (vals l).length % 4 = 0) : (aFold l).1 = octI (vals l) ∧ (aFold l).2.1 = 0 := by
  obtain ⟨lc, e⟩ := dec_fold (vals l) [] 0 hl (vals_range l)
  unfold aFold
  rw [fold_vals, e]
  exact ⟨by simp, rfl⟩
theorem vals_app (l r : List Int) : vals (l ++ r) = vals l ++ vals r := by simp [vals]
/-- octets there and back -/
theorem ints_toB (ns : List Int) (h : ∀ x ∈ ns, 0 ≤ x ∧ x < 256) : KBw.bInts (toB ns) = ns := by
  unfold KBw.bInts toB
  induction ns with
  | nil => rfl
  | cons a r ih =>
    have ha := h a (by simp)
    have ih' := ih fun x hx => h x (by simp [hx])
    simp only [List.map_cons, List.map_map] at ih' ⊢
    rw [ih']
    congr 1
    have : a.toNat.toUInt8.toNat = a.toNat := by
      rw [Nat.toUInt8_eq, UInt8.toNat_ofNat']
      omega
    simp only [Function.comp, this]
    omega
theorem toB_size (ns : List Int) : (toB ns).size = ns.length := by simp [toB]
theorem octI_len34 : ∀ l : List Int, l.length % 4 = 0 → 4 * (octI l).length = 3 * l.length
  | [], _ => rfl
  | [_], h => by simp at h
  | [_, _], h => by simp at h
  | [_, _, _], h => by simp at h
  | a :: b :: c :: d :: r, h => by
    have := octI_len34 r (by simp at h; omega)
    show 4 * (oct4 a b c d ++ octI r).length = _
    rw [List.length_append]
    simp [oct4]
    omega
end PB
/- P3 -/
namespace PG
def tr8 (a b c d k : UInt8) : UInt8 := if k = b then d else if k = a then c else k
theorem range256 (k : UInt8) : ((Array.range 256).map (·.toUInt8))[k.toNat]? = some k := by
  have h := k.toNat_lt
  rw [Array.getElem?_map, Array.getElem?_range, if_pos h]
  simp
theorem tab_is (a b c d k : UInt8) : (TR.mkTab #[a, b] #[c, d]).getD k.toNat k = tr8 a b c d k := by
  unfold TR.mkTab tr8
  have hk := k.toNat_lt
  have e : ∀ x y : UInt8, x.toNat = y.toNat ↔ x = y := fun x y => UInt8.toNat_inj
  simp only [List.zip_cons_cons, List.zip_nil_right, List.foldl_cons, List.foldl_nil, Array.getD_eq_getD_getElem?, Array.getElem?_setIfInBounds, Array.size_setIfInBounds, Array.size_map, Array.size_range, range256]
  have ha : a.toNat < 256 := a.toNat_lt
  have hb : b.toNat < 256 := b.toNat_lt
  rw [if_pos ha, if_pos hb]
  by_cases h1 : b.toNat = k.toNat
  · have : k = b := ((e _ _).mp h1).symm
    simp [this]
  · have h1' : ¬ k = b := fun q => h1 (by rw [q])
    by_cases h2 : a.toNat = k.toNat
    · have : k = a := ((e _ _).mp h2).symm
      rw [if_neg h1, if_pos h2, if_neg h1', if_pos this]; rfl
    · have h2' : ¬ k = a := fun q => h2 (by rw [q])
      simp [h1, h1', h2, h2']
theorem trans_is (a b c d : UInt8) (x : Array UInt8) : (TR.trans (TR.mkTab #[a, b] #[c, d]) x).toList = x.toList.map (tr8 a b c d) := by
  unfold TR.trans
  rw [Array.toList_map]
  congr 1
  funext k
  exact tab_is a b c d k
def ch (s : Str) (i : Nat) : UInt8 := (s.cps.toList.getD i 0).toUInt8
def okStr (s : Str) : Bool := s.cps.toList.length == 2 && s.cps.toList.all (fun c => decide (c < 128))
theorem enc_two {s : Str} (h : okStr s = true) : EN.enc s = #[ch s 0, ch s 1] ∧ (∀ c ∈ s.cps.toList, c < 128) ∧ s.cps.size = 2 := by
  unfold okStr at h
  rw [Bool.and_eq_true] at h
  obtain ⟨h1, h2⟩ := h
  have h1' : s.cps.toList.length = 2 := by simpa using h1
  refine ⟨?_, fun c hc => by simpa using (List.all_eq_true.mp h2 c hc), by simpa using h1'⟩
  unfold EN.enc ch
  obtain ⟨⟨l⟩⟩ := s
  match l, h1' with
  | [x, y], _ => exact Array.ext' (by simp)
def chF (f : Int) : UInt8 := b64T.getD f.toNat 0
def run (st : List (Nat × List Nat)) (l : List Nat) : List Nat := st.foldl (fun l s => RP.sub s.1 s.2 l) l
theorem run_app (st : List (Nat × List Nat)) (l r : List Nat) : run st (l ++ r) = run st l ++ run st r := by
  unfold run
  induction st generalizing l r with
  | nil => rfl
  | cons s st ih => rw [List.foldl_cons, List.foldl_cons, List.foldl_cons, RP.sub_append, ih]
theorem run_nil (st : List (Nat × List Nat)) : run st [] = [] := by
  have := congrArg List.length (run_app st [] [])
  rw [List.append_nil, List.length_append] at this
  exact List.length_eq_zero_iff.mp (by omega)
theorem run_all {st : List (Nat × List Nat)} {P : Nat → Prop} (l : List Nat) (h : ∀ x ∈ l, ∀ c ∈ run st [x], P c) : ∀ c ∈ run st l, P c := by
  induction l with
  | nil => rw [run_nil]; exact fun _ hc => nomatch hc
  | cons a r ih =>
    rw [show a :: r = [a] ++ r from rfl, run_app]
    intro c hc
    rcases List.mem_append.mp hc with h1 | h1
    · exact h a (by simp) c h1
    · exact ih (fun x hx => h x (by simp [hx])) c h1
theorem run_len {st : List (Nat × List Nat)} (l : List Nat) (h : ∀ x ∈ l, (run st [x]).length ≤ 8) : (run st l).length ≤ 8 * l.length := by
  induction l with
  | nil => rw [run_nil]; simp
  | cons a r ih =>
    rw [show a :: r = [a] ++ r from rfl, run_app, List.length_append, List.length_append]
    have := ih fun x hx => h x (by simp [hx])
    have := h a (by simp)
    simp only [List.length_singleton]
    omega
def zs (s : String) : List Nat := (Str.ofString s).cps.toList
def stages (way : Int) : List (Nat × List Nat) :=
  if way = 0 then [(38, zs "&amp;"), (60, zs "&lt;"), (62, zs "&gt;"), (34, zs "&quot;"), (13, zs "&#13;"), (10, zs "&#10;"), (9, zs "&#09;")]
  else if way = 1 then [(38, zs "&amp;"), (60, zs "&lt;"), (34, zs "&quot;"), (9, zs "&#x9;"), (10, zs "&#xA;"), (13, zs "&#xD;")]
  else if way = 2 then [(38, zs "&amp;"), (60, zs "&lt;"), (62, zs "&gt;")]
  else if way = 3 then [(38, zs "&amp;"), (60, zs "&lt;"), (62, zs "&gt;"), (13, zs "&#xD;")]
  else []
theorem esc_is (way : Int) (x : Str) : (escOf way x).cps.toList = run (stages way) x.cps.toList := by
  unfold escOf stages
  split
  · rfl
  split
  · rfl
  split
  · rfl
  split
  · rfl
  · rfl
theorem len_of {x : Str} {l : List Nat} (h : x.cps.toList = l) (hl : l.length ≤ 100000) : x.length ≤ 100000 := by
  have : x.length = x.cps.toList.length := by simp [Str.length]
  rw [this, h]; exact hl
theorem escLen_is (way : Int) (x : Str) (h : ∀ k < 8, (run ((stages way).take k) x.cps.toList).length ≤ 100000) : escLen way x := by
  refine ⟨?_, ?_, ?_, ?_⟩
  · intro e; subst e
    exact ⟨len_of rfl (h 0 (by decide)), len_of rfl (h 1 (by decide)), len_of rfl (h 2 (by decide)), len_of rfl (h 3 (by decide)), len_of rfl (h 4 (by decide)), len_of rfl (h 5 (by decide)), len_of rfl (h 6 (by decide))⟩
  · intro e; subst e
    exact ⟨len_of rfl (h 0 (by decide)), len_of rfl (h 1 (by decide)), len_of rfl (h 2 (by decide)), len_of rfl (h 3 (by decide)), len_of rfl (h 4 (by decide)), len_of rfl (h 5 (by decide))⟩
  · intro e; subst e
    exact ⟨len_of rfl (h 0 (by decide)), len_of rfl (h 1 (by decide)), len_of rfl (h 2 (by decide))⟩
  · intro e; subst e
    exact ⟨len_of rfl (h 0 (by decide)), len_of rfl (h 1 (by decide)), len_of rfl (h 2 (by decide)), len_of rfl (h 3 (by decide))⟩
def one (p : Pass) (f : Int) : Nat := (tr8 43 47 (ch p.2.1 0) (ch p.2.1 1) (chF f)).toNat
def fin (p : Pass) (c : Nat) : Int := ((tr8 (ch p.2.2 0) (ch p.2.2 1) 43 47 c.toUInt8).toNat : Int)
def G (p : Pass) (l : List Int) : List Int := (run (stages p.1) (l.map (one p))).map (fin p)
theorem G_nil (p : Pass) : G p [] = [] := by unfold G; rw [List.map_nil, run_nil]; rfl
theorem G_app (p : Pass) (l r : List Int) : G p (l ++ r) = G p l ++ G p r := by unfold G; rw [List.map_append, run_app, List.map_append]
def chk (p : Pass) (fs : List Int) (out : Int → List Int) : Bool :=
  okStr p.2.1 && okStr p.2.2 && fs.all fun f =>
    (run (stages p.1) [one p f]).all (fun c => decide (c < 128)) && (List.range 9).all (fun k => decide ((run ((stages p.1).take k) [one p f]).length ≤ 8)) && (G p [f]).all (fun n => decide (n ≠ 61)) && decide (PB.vals (G p [f]) = out f)
theorem toB_map (l : List Int) : (toB (l.map sgnI)).toList = l.map chF := by
  unfold toB
  simp only [List.map_map]
  congr 1
  funext f
  show (sgnI f).toNat.toUInt8 = chF f
  unfold sgnI chF
  rw [Int.toNat_natCast]
  simp
theorem vals_flat (p : Pass) (out : Int → List Int) : ∀ l : List Int, (∀ f ∈ l, PB.vals (G p [f]) = out f) → PB.vals (G p l) = l.flatMap out
  | [], _ => by rw [G_nil]; rfl
  | a :: r, h => by
    rw [show a :: r = [a] ++ r from rfl, G_app, PB.vals_app, h a (by simp), vals_flat p out r fun f hf => h f (by simp [hf])]
    rfl
theorem G_all {P : Int → Prop} (p : Pass) : ∀ l : List Int, (∀ f ∈ l, ∀ n ∈ G p [f], P n) → ∀ n ∈ G p l, P n
  | [], _ => by rw [G_nil]; exact fun _ h => nomatch h
  | a :: r, h => by
    rw [show a :: r = [a] ++ r from rfl, G_app]
    intro n hn
    rcases List.mem_append.mp hn with h1 | h1
    · exact h a (by simp) n h1
    · exact G_all p r (fun f hf => h f (by simp [hf])) n h1
theorem pass_ok (p : Pass) (fs : List Int) (out : Int → List Int) (hc : chk p fs out = true) (l : List Int) (hl : ∀ f ∈ l, f ∈ fs) (hr : ∀ f ∈ l, 0 ≤ f ∧ f < 64)
    (h4 : l.length % 4 = 0) (hn : l.length ≤ 1000) (ho4 : (l.flatMap out).length % 4 = 0) :
    PassOk (toB (octI l)) p.1 p.2.1 p.2.2 ∧ passB (toB (octI l)) p.1 p.2.1 p.2.2 = toB (octI (l.flatMap out)) := by
  unfold chk at hc
  rw [Bool.and_eq_true, Bool.and_eq_true] at hc
  obtain ⟨⟨c1, c2⟩, c3⟩ := hc
  obtain ⟨w1, w2, w3⟩ := enc_two c1
  obtain ⟨r1, r2, r3⟩ := enc_two c2
  have hf : ∀ f ∈ l, (∀ c ∈ run (stages p.1) [one p f], c < 128) ∧ (∀ k < 9, (run ((stages p.1).take k) [one p f]).length ≤ 8) ∧ (∀ n ∈ G p [f], n ≠ 61) ∧ PB.vals (G p [f]) = out f := by
    intro f h
    have := List.all_eq_true.mp c3 f (hl f h)
    rw [Bool.and_eq_true, Bool.and_eq_true, Bool.and_eq_true] at this
    obtain ⟨⟨⟨q1, q2⟩, q3⟩, q4⟩ := this
    refine ⟨fun c hc => by simpa using List.all_eq_true.mp q1 c hc, fun k hk => by simpa using List.all_eq_true.mp q2 k (List.mem_range.mpr hk), fun n hn => by simpa using List.all_eq_true.mp q3 n hn, by simpa using q4⟩
  have hoct := PB.octI_len34 l h4
  have hin : KBw.bInts (toB (octI l)) = octI l := PB.ints_toB _ (octI_range l hr)
  have henc : (encB (toB (octI l)) p.2.1).toList = l.map fun f => tr8 43 47 (ch p.2.1 0) (ch p.2.1 1) (chF f) := by
    unfold encB
    rw [w1, trans_is, hin, PB.enc_is l h4 hr, toB_map, List.map_map]
    rfl
  have htxt : (txtB (toB (octI l)) p.2.1).cps.toList = l.map (one p) := by
    unfold txtB
    rw [henc, List.map_map]
    rfl
  have hesc : (escB (toB (octI l)) p.1 p.2.1).cps.toList = run (stages p.1) (l.map (one p)) := by
    unfold escB
    rw [esc_is, htxt]
  have hlen : ∀ k < 9, (run ((stages p.1).take k) (l.map (one p))).length ≤ 8000 := by
    intro k hk
    have := run_len (st := (stages p.1).take k) (l.map (one p)) (fun x hx => by
      obtain ⟨f, hf1, rfl⟩ := List.mem_map.mp hx
      exact (hf f hf1).2.1 k hk)
    rw [List.length_map] at this
    omega
  have hst : (stages p.1).take 8 = stages p.1 := by
    unfold stages
    repeat' split
    all_goals rfl
  have hesclen : (escB (toB (octI l)) p.1 p.2.1).cps.size ≤ 8000 := by
    have := hlen 8 (by decide)
    rw [hst, ← hesc] at this
    simpa using this
  have hdec : (decIn (escB (toB (octI l)) p.1 p.2.1) p.2.2).toList = ((run (stages p.1) (l.map (one p))).map (·.toUInt8)).map (tr8 (ch p.2.2 0) (ch p.2.2 1) 43 47) := by
    unfold decIn
    rw [r1, trans_is]
    unfold EN.enc
    rw [Array.toList_map, hesc]
  have hG : KBw.bInts (decIn (escB (toB (octI l)) p.1 p.2.1) p.2.2) = G p l := by
    unfold KBw.bInts
    rw [hdec, List.map_map, List.map_map]
    rfl
  have hv : PB.vals (G p l) = l.flatMap out := vals_flat p out l fun f h => (hf f h).2.2.2
  have hd := PB.dec_is (G p l) (by rw [hv]; exact ho4)
  rw [hv] at hd
  have henclen : (EN.enc (escB (toB (octI l)) p.1 p.2.1)).size ≤ 8000 := by
    unfold EN.enc; rw [Array.size_map]; exact hesclen
  refine ⟨⟨?_, ?_, w2, ?_, ?_, ?_, ?_, ?_, r2, ?_, ?_, ?_, ?_, ?_, ?_, ?_⟩, ?_⟩
  · rw [PB.toB_size]; omega
  · rw [PB.toB_size]; omega
  · rw [w3, sizeLine_eq]; omega
  · rw [w1]; rfl
  · refine escLen_is _ _ fun k hk => ?_
    rw [htxt]
    have := hlen k (by omega)
    omega
  · rw [hesc]
    exact run_all _ fun x hx => by
      obtain ⟨f, hf1, rfl⟩ := List.mem_map.mp hx
      exact (hf f hf1).1
  · rw [sizeLine_eq]; omega
  · rw [r3, sizeLine_eq]; omega
  · rw [r1]; rfl
  · rw [sizeLine_eq]; omega
  · unfold decIn TR.trans; rw [Array.size_map]; omega
  · rw [hG]; exact G_all p l fun f h => (hf f h).2.2.1
  · rw [hG]; exact hd.2
  · rw [hG, hd.1]
    exact octI_range _ fun f hf' => by
      rw [← hv] at hf'
      exact PB.vals_range _ f hf'
  · unfold passB
    rw [hG, hd.1]
end PG
/- P4 -/
namespace PL
def out1 (k k' slot : Int) (f : Int) : List Int := [if f = F3 k then 62 + slot else if f = 62 + slot then F3 k' else f]
def out2 (k : Int) (f : Int) : List Int := if f = F3 k then [f] else if k = 2 then [f, F3 k] else [F3 k, f]
theorem chkIns : ∀ k ∈ [(0 : Int), 1, 2], ∀ pick ∈ [(0 : Int), 1, 2, 3, 4, 5], PG.chk (insP k pick) [62, 63, F3 k] (out2 k) = true := by decide +kernel
theorem chkSwap : ∀ k ∈ [(0 : Int), 1, 2], ∀ k' ∈ [(0 : Int), 1, 2], k' ≠ k → ∀ slot ∈ [(0 : Int), 1], PG.chk (swP k k' slot) [62, 63, F3 k] (out1 k k' slot) = true := by decide +kernel
theorem figSwap : ∀ k ∈ [(0 : Int), 1, 2], ∀ k' ∈ [(0 : Int), 1, 2], k' ≠ k → ∀ figs ∈ perms k, ∀ own ∈ [(0 : Int), 1, 2], figOf figs own > 61 →
    (figOf figs own - 62 ∈ [(0 : Int), 1]) ∧ newFigs figs own (figOf figs own - 62) k' ∈ perms k' ∧ (∀ c ∈ [(0 : Int), 1, 2], out1 k k' (figOf figs own - 62) (figOf figs c) = [figOf (newFigs figs own (figOf figs own - 62) k') c]) ∧ figOf (newFigs figs own (figOf figs own - 62) k') own = F3 k' := by decide +kernel
theorem figElse : ∀ k ∈ [(0 : Int), 1, 2], ∀ figs ∈ perms k, ∀ own ∈ [(0 : Int), 1, 2], ¬ figOf figs own > 61 → figOf figs own = F3 k := by decide +kernel
theorem figIns : ∀ k ∈ [(0 : Int), 1, 2], ∀ figs ∈ perms k, ∀ own ∈ [(0 : Int), 1, 2], figOf figs own = F3 k → ∀ c ∈ [(0 : Int), 1, 2],
    out2 k (figOf figs c) = (if decide (k = 2) = true then PW.rho own [c] else PW.psi own [c]).map (figOf figs) := by decide +kernel
theorem figIn : ∀ k ∈ [(0 : Int), 1, 2], ∀ figs ∈ perms k, ∀ c ∈ [(0 : Int), 1, 2], figOf figs c ∈ [(62 : Int), 63, F3 k] ∧ 0 ≤ figOf figs c ∧ figOf figs c < 64 := by decide +kernel
theorem in3 {k : Int} (h : k = 0 ∨ k = 1 ∨ k = 2) : k ∈ [(0 : Int), 1, 2] := by simpa using h
theorem rep4_len (l : List Int) : (rep4 l).length = 4 * l.length := by simp [rep4]; omega
theorem rep4_mem {l : List Int} {f : Int} (h : f ∈ rep4 l) : f ∈ l := by simpa [rep4] using h
theorem rep4_flat (l : List Int) (out : Int → List Int) : (rep4 l).flatMap out = rep4 (l.flatMap out) := by simp [rep4]
theorem flat_one (W : List Int) (hW : PW.Let W) (g g' : Int → Int) (out : Int → List Int) (h : ∀ c ∈ [(0 : Int), 1, 2], out (g c) = [g' c]) : (W.map g).flatMap out = W.map g' := by
  induction W with
  | nil => rfl
  | cons c W ih =>
    have ih' := ih fun x hx => hW x (List.mem_cons_of_mem _ hx)
    have := h c (in3 (hW c (List.mem_cons_self ..)))
    rw [List.map_cons, List.flatMap_cons, this, ih', List.map_cons]; rfl
theorem flat_two (W : List Int) (hW : PW.Let W) (g : Int → Int) (out : Int → List Int) (own : Int) (b : Bool) (h : ∀ c ∈ [(0 : Int), 1, 2], out (g c) = (if b = true then PW.rho own [c] else PW.psi own [c]).map g) :
    (W.map g).flatMap out = (if b = true then PW.rho own W else PW.psi own W).map g := by
  induction W with
  | nil => cases b <;> rfl
  | cons c W ih =>
    have ih' := ih fun x hx => hW x (List.mem_cons_of_mem _ hx)
    have := h c (in3 (hW c (List.mem_cons_self ..)))
    rw [List.map_cons, List.flatMap_cons, this, ih']
    cases b with
    | false => simp only [Bool.false_eq_true, if_false]; rw [← List.map_append, ← PW.psi_app]; rfl
    | true => simp only [if_true]; rw [← List.map_append, ← PW.rho_app]; rfl
theorem let_psi {a : Int} {W : List Int} (ha : a = 0 ∨ a = 1 ∨ a = 2) (h : PW.Let W) : PW.Let (PW.psi a W) := by
  intro c hc
  obtain ⟨b, hb, hc⟩ := List.mem_flatMap.mp hc
  have := h b hb
  split at hc
  · rw [List.mem_singleton.mp hc]; exact ha
  · rcases List.mem_cons.mp hc with e | e
    · rw [e]; exact ha
    · rw [List.mem_singleton.mp e]; exact this
theorem let_rho {a : Int} {W : List Int} (ha : a = 0 ∨ a = 1 ∨ a = 2) (h : PW.Let W) : PW.Let (PW.rho a W) := by
  intro c hc
  obtain ⟨b, hb, hc⟩ := List.mem_flatMap.mp hc
  have := h b hb
  split at hc
  · rw [List.mem_singleton.mp hc]; exact ha
  · rcases List.mem_cons.mp hc with e | e
    · rw [e]; exact this
    · rw [List.mem_singleton.mp e]; exact ha
theorem runOk_snoc {b : Array UInt8} {ps : List Pass} {p : Pass} (h : RunOk b ps) (hp : PassOk (runB b ps) p.1 p.2.1 p.2.2) : RunOk b (ps ++ [p]) := by
  intro i q hq
  by_cases hi : i < ps.length
  · rw [List.getElem?_append_left hi] at hq
    rw [List.take_append_of_le_length (Nat.le_of_lt hi)]
    exact h i q hq
  · have hi2 : i = ps.length := by
      have := (List.getElem?_eq_some_iff.mp hq).1
      simp at this; omega
    subst hi2
    have : q = p := by simpa using hq.symm
    subst this
    rw [List.take_left]
    exact hp
theorem runB_snoc (b : Array UInt8) (ps : List Pass) (p : Pass) : runB b (ps ++ [p]) = passB (runB b ps) p.1 p.2.1 p.2.2 := by simp [runB]
def row (figs W : List Int) : Array UInt8 := toB (octI (rep4 (W.map (figOf figs))))
/-- where a plan stands -/
structure At (b : Array UInt8) (W : List Int) (c : PS) : Prop where
  kind : c.kind = 0 ∨ c.kind = 1 ∨ c.kind = 2
  figs : c.figs ∈ perms c.kind
  ok : RunOk b c.passes
  run : runB b c.passes = row c.figs W
theorem swap_at {b : Array UInt8} {W : List Int} {c : PS} {x : Int} (h : At b W c) (hW : PW.Let W) (hl : W.length ≤ 250) : At b W (swapped c x) ∧ figOf (swapped c x).figs (ownOf x) = F3 (swapped c x).kind ∧ (swapped c x).steps = c.steps := by
  obtain ⟨h1, h2, h3, h4⟩ := h
  unfold swapped
  by_cases hf : figOf c.figs (ownOf x) > 61
  · rw [if_pos hf]
    have hk' := newKind_in c.kind x
    have hne : newKind c.kind x ≠ c.kind := by
      unfold newKind
      rw [Int.fmod_eq_emod_of_nonneg _ (by decide), Int.fmod_eq_emod_of_nonneg _ (by decide)]
      omega
    generalize newKind c.kind x = k' at *
    obtain ⟨s1, s2, s3, s4⟩ := figSwap _ (in3 h1) _ (in3 hk') hne _ h2 _ (in3 (ownOf_in x)) hf
    generalize figOf c.figs (ownOf x) - 62 = slot at *
    have hck := chkSwap _ (in3 h1) _ (in3 hk') hne _ s1
    have hfl := flat_one W hW (figOf c.figs) (figOf (newFigs c.figs (ownOf x) slot k')) _ s3
    have hp := PG.pass_ok _ _ _ hck (rep4 (W.map (figOf c.figs))) (fun f hf' => by
        obtain ⟨d, hd, rfl⟩ := List.mem_map.mp (rep4_mem hf')
        exact (figIn _ (in3 h1) _ h2 d (in3 (hW d hd))).1) (fun f hf' => by
        obtain ⟨d, hd, rfl⟩ := List.mem_map.mp (rep4_mem hf')
        exact (figIn _ (in3 h1) _ h2 d (in3 (hW d hd))).2) (by rw [rep4_len]; omega) (by rw [rep4_len, List.length_map]; omega) (by rw [rep4_flat, rep4_len]; omega)
    rw [rep4_flat, hfl] at hp
    refine ⟨⟨hk', s2, runOk_snoc h3 ?_, ?_⟩, s4, rfl⟩
    · rw [h4]; exact hp.1
    · rw [runB_snoc, h4]; exact hp.2
  · rw [if_neg hf]
    exact ⟨⟨h1, h2, h3, h4⟩, figElse _ (in3 h1) _ h2 _ (in3 (ownOf_in x)) hf, rfl⟩
theorem ins_at {b : Array UInt8} {W : List Int} {c : PS} {x : Int} (h : At b W c) (hW : PW.Let W) (hl : W.length ≤ 250) (hx0 : 0 ≤ x) (hx1 : x < 108) (ho : figOf c.figs (ownOf x) = F3 c.kind) :
    At b (if decide (c.kind = 2) = true then PW.rho (ownOf x) W else PW.psi (ownOf x) W) (inserted c x) := by
  obtain ⟨h1, h2, h3, h4⟩ := h
  have hpick : x.fdiv 18 ∈ [(0 : Int), 1, 2, 3, 4, 5] := by
    rw [Int.fdiv_eq_ediv_of_nonneg _ (by decide)]
    simp; omega
  have hck := chkIns _ (in3 h1) _ hpick
  have hfl := flat_two W hW (figOf c.figs) (out2 c.kind) (ownOf x) (decide (c.kind = 2)) (figIns _ (in3 h1) _ h2 _ (in3 (ownOf_in x)) ho)
  have hp := PG.pass_ok _ _ _ hck (rep4 (W.map (figOf c.figs))) (fun f hf' => by
        obtain ⟨d, hd, rfl⟩ := List.mem_map.mp (rep4_mem hf')
        exact (figIn _ (in3 h1) _ h2 d (in3 (hW d hd))).1) (fun f hf' => by
        obtain ⟨d, hd, rfl⟩ := List.mem_map.mp (rep4_mem hf')
        exact (figIn _ (in3 h1) _ h2 d (in3 (hW d hd))).2) (by rw [rep4_len]; omega) (by rw [rep4_len, List.length_map]; omega) (by rw [rep4_flat, rep4_len]; omega)
  rw [rep4_flat, hfl] at hp
  refine ⟨h1, h2, runOk_snoc h3 ?_, ?_⟩
  · rw [h4]; exact hp.1
  · show runB b (c.passes ++ [_]) = _
    rw [runB_snoc, h4]; exact hp.2
theorem sig_let {S : List PW.Step} (h : ∀ s ∈ S, s.1 = 0 ∨ s.1 = 1 ∨ s.1 = 2) {w : List Int} (hw : PW.Let w) : PW.Let (PW.sig S w) := by
  revert h
  refine PW.snocInd (P := fun S => (∀ s ∈ S, s.1 = 0 ∨ s.1 = 1 ∨ s.1 = 2) → PW.Let (PW.sig S w)) (fun _ => hw) (fun S s ih h => ?_) S
  have ih' := ih fun t ht => h t (List.mem_append_left _ ht)
  have hs := h s (List.mem_append_right _ (List.mem_singleton.mpr rfl))
  rw [PW.sig_snoc]
  split
  · exact let_rho hs ih'
  · exact let_psi hs ih'
/-- the plan's law: what its passes make of the row -/
theorem plan_at (w : List Int) (hw : PW.Let w) (hwl : w.length ≤ 5) (ns : List Int) (hn : ns.length ≤ 5) (hx : ∀ x ∈ ns, 0 ≤ x ∧ x < 108) :
    At (row [62, 63, 53] w) (PW.sig (plan ns).steps w) (plan ns) ∧ (plan ns).steps.length = ns.length ∧ ∀ s ∈ (plan ns).steps, s.1 = 0 ∨ s.1 = 1 ∨ s.1 = 2 := by
  revert hn hx
  refine PW.snocInd (P := fun ns => ns.length ≤ 5 → (∀ x ∈ ns, 0 ≤ x ∧ x < 108) → At (row [62, 63, 53] w) (PW.sig (plan ns).steps w) (plan ns) ∧ (plan ns).steps.length = ns.length ∧ ∀ s ∈ (plan ns).steps, s.1 = 0 ∨ s.1 = 1 ∨ s.1 = 2) ?_ (fun ns x ih hn hx => ?_) ns
  · intro _ _
    exact ⟨⟨.inl rfl, by decide, fun i p h => (nomatch h), rfl⟩, rfl, fun s h => nomatch h⟩
  · obtain ⟨i1, i2, i3⟩ := ih (by simp at hn; omega) fun y hy => hx y (List.mem_append_left _ hy)
    have hxx := hx x (List.mem_append_right _ (List.mem_singleton.mpr rfl))
    have hlet := sig_let i3 hw
    have hlen : (PW.sig (plan ns).steps w).length ≤ 250 := by
      have h1 := PW.sig_len (plan ns).steps w
      have h2 := PW.Psi_len (plan ns).steps w
      rw [i2] at h2
      have h3 : 2 ^ ns.length ≤ 2 ^ 5 := Nat.pow_le_pow_right (by decide) (by simp at hn; omega)
      have h4 : 2 ^ ns.length * w.length ≤ 2 ^ 5 * 5 := Nat.mul_le_mul h3 hwl
      rw [show (2 : Nat) ^ 5 * 5 = 160 from rfl] at h4
      omega
    rw [plan_snoc]
    obtain ⟨s1, s2, s3⟩ := swap_at (x := x) i1 hlet hlen
    have e := ins_at (x := x) s1 hlet hlen hxx.1 hxx.2 s2
    have hsteps : (pStep (plan ns) x).steps = (plan ns).steps ++ [(ownOf x, decide ((swapped (plan ns) x).kind = 2))] := by
      show (swapped (plan ns) x).steps ++ _ = _
      rw [s3]
    refine ⟨?_, ?_, ?_⟩
    · rw [hsteps, PW.sig_snoc]
      exact e
    · rw [hsteps]; simp [i2]
    · rw [hsteps]
      intro s hs
      rcases List.mem_append.mp hs with h | h
      · exact i3 s h
      · rw [List.mem_singleton.mp h]; exact ownOf_in x
end PL
/- N2 -/
namespace C2
abbrev E2 (elt iter iter2 : Expr) (x y : Str) (px py : Pos) (scope : Scope) (pos : Pos) : Expr := .ListComp elt [⟨.Name x px, iter, [], 0⟩, ⟨.Name y py, iter2, [], 0⟩] scope pos
theorem turn1 (elt iter iter2 : Expr) (x y : Str) (px py : Pos) (scope : Scope) (pos : Pos) (it acc : Value) (env : Env) :
    compTurn (E2 elt iter iter2 x y px py scope pos) 1 it acc env = (do
      standAt iter2.pos
      match ← pyNext it with
      | none => pure (.done .next)
      | some v =>
        letOwnedTupleGo (.Name y py) it v
        assign (.Name y py) env v
        (do let _ ← call (.builtin "list.append") [acc, ← eval elt env])
        again (.compLoop (E2 elt iter iter2 x y px py scope pos) 1 it acc env)) := by rfl
theorem turn0 (elt iter iter2 : Expr) (x y : Str) (px py : Pos) (scope : Scope) (pos : Pos) (it acc : Value) (env : Env) :
    compTurn (E2 elt iter iter2 x y px py scope pos) 0 it acc env = (do
      standAt iter.pos
      match ← pyNext it with
      | none => pure (.done .next)
      | some v =>
        letOwnedTupleGo (.Name x px) it v
        assign (.Name x px) env v
        let x2 ← eval iter2 env
        standAt iter2.pos
        let x2 ← foldedSetIterable iter2 env x2
        let _ ← runOwn (.compStart (E2 elt iter iter2 x y px py scope pos) 1 (← holding [x2] (pyIter x2)) acc env) env
        again (.compLoop (E2 elt iter iter2 x y px py scope pos) 0 it acc env)) := by rfl
section
variable {prog : Program} {w : World} {A : Around} {R : Result → Shared → Prop} {s : Shared} {elt iter iter2 : Expr} {x y : Str} {px py : Pos} {scope : Scope} {pos : Pos} {I D : Addr} {cenv : Env} {m : Str → Option Value} {ys : Array Value}
theorem pairedApp {G : Value → Value → Prop} : ∀ {a : List Value} {b : List Value} {c d : List Value}, Paired G a b → Paired G c d → Paired G (a ++ c) (b ++ d)
  | _, _, _, _, .nil, h => h
  | _, _, _, _, .cons h t, h2 => .cons h (pairedApp t h2)
theorem inner {fp wr : List Addr} {n : Nat} {P : Nat → Value → Prop} {St : Nat → Heap → Prop} (W : Walks prog w A I fp wr n P St) (G : Value → Value → Prop)
    (hy : cenv.kindOf y = some .local) (hp : (cenv.scope.kind == .class || (cenv.scope.kind == .module && cenv.locals != cenv.globals)) = false)
    (hDC : D ≠ cenv.locals) (hDf : D ∉ fp) (hCf : cenv.locals ∉ fp)
    (hst : St 0 s.heap) (hacc : s.heap.PlainList D ys) (hn : s.heap.Ns cenv.locals m)
    (helt : ∀ i v s₂ m₂ E', P i v → s₂.heap.Ns cenv.locals m₂ → m₂ y = some v → (∀ b o, b ≠ cenv.locals → b ∉ wr → b ≠ D → s.heap.get? b = some o → s₂.heap.get? b = some o) →
      wpAny (model prog w) A (eval elt cenv) (fun r s₃ => G v r ∧ Keeps s₂ s₃) E' s₂)
    (hR : ∀ h' tk m' (vs zs : List Value), h'.Ns cenv.locals m' → h'.PlainList D (ys ++ zs.toArray) → vs.length = n → (∀ j v, vs[j]? = some v → P j v) → Paired G vs zs →
      (∀ b o, b ≠ cenv.locals → b ∉ wr → b ≠ D → s.heap.get? b = some o → h'.get? b = some o) → R (.ok .next) { s with heap := h', toks := tk })
    (hsz : ys.size + n ≤ sizeLine) :
    codeAny (model prog w) A (.compLoop (E2 elt iter iter2 x y px py scope pos) 1 (.ref I) (.ref D) cenv) R s := by
  have hCw : cenv.locals ∉ wr := fun h => hCf (W.sub _ h)
  have hDw : D ∉ wr := fun h => hDf (W.sub _ h)
  refine codeAny_loop rfl
    (fun k s' => ∃ h' tk m', ∃ vs zs : List Value, s' = { s with heap := h', toks := tk } ∧ St vs.length h' ∧ h'.PlainList D (ys ++ zs.toArray) ∧ h'.Ns cenv.locals m' ∧ (∀ j v, vs[j]? = some v → P j v) ∧
      Paired G vs zs ∧ vs.length ≤ n ∧ k = n + 1 - vs.length ∧ (∀ b o, b ≠ cenv.locals → b ∉ wr → b ≠ D → s.heap.get? b = some o → h'.get? b = some o)) ?_ (n + 1)
    ⟨s.heap, s.toks, m, [], [], rfl, hst, by simpa using hacc, hn, by simp, .nil, Nat.zero_le _, rfl, fun _ _ _ _ _ e => e⟩
  rintro k s' ⟨H, tk, m', vs, zs, rfl, hst', hacc', hn', hP, hF, hi, rfl, hk⟩
  show wpAny _ A ((compTurn (E2 elt iter iter2 x y px py scope pos) 1 (.ref I) (.ref D) cenv).onRaise (fun x => do noteFrame x cenv; theTreesLotGoes x)) _ _ _
  refine wpAny_noted ?_
  rw [turn1]
  refine wpAny_bind (wpAny_standAt (wpAny_bind ?_))
  by_cases hlt : vs.length < n
  · refine W.item vs.length _ _ _ hlt hst' fun v h₁ tk₁ hPv hst₁ hk₁ => ?_
    dsimp only
    refine wpAny_bind (wpAny_of_eq (a := ()) rfl ?_)
    refine wpAny_bind (wpAny_assign_Name (wpAny_storeName_local hy (hn'.at' fun o e => hk₁ _ o hCw e) (fun h₂ hn₂ hs₂ => ?_) hp))
    have up₂ : ∀ b o, b ≠ cenv.locals → b ∉ wr → H.get? b = some o → h₂.get? b = some o := fun b o hbC hbf e => hs₂.extBut b o hbC (hk₁ b o hbf e)
    have hst₂ : St (vs.length + 1) h₂ := W.frame _ _ _ hst₁ fun b hb o e => hs₂.extBut b o (fun h => hCf (h ▸ hb)) e
    refine wpAny_bind (wpAny_bind (wpAny_mono (helt vs.length v _ _ _ hPv hn₂ (by simp) (fun b o hbC hbf hbD e => up₂ b o hbC hbf (hk b o hbC hbf hbD e))) (fun r s₃ h₃ => ?_) fun _ _ e => e))
    obtain ⟨hG, h₃, tk₃, rfl, hk₃⟩ := h₃
    have hst₃ : St (vs.length + 1) h₃ := W.frame _ _ _ hst₂ fun b _ o e => hk₃ b o e
    have hacc₃ : h₃.PlainList D (ys ++ zs.toArray) := hacc'.at fun o e => hk₃ _ o (up₂ D o hDC hDw e)
    have hlen := hF.length
    refine wpAny_bind (wpAny_list_append_plain (hsz := by simp; omega) hacc₃ fun h₅ hl₅ hs₅ => ?_)
    refine wpAny_pure (wpAny_pure ⟨rfl, n + 1 - (vs.length + 1), by omega, h₅, _, _, vs ++ [v], zs ++ [r], rfl, ?_, ?_, (hn₂.keeps hk₃).sameBut hs₅ (Ne.symm hDC), ?_, Paired.snoc hF hG, by rw [List.length_append, List.length_singleton]; exact hlt, by rw [List.length_append, List.length_singleton], ?_⟩)
    · have := W.frame _ _ h₅ hst₃ fun b hb o e => hs₅.extBut b o (fun h => hDf (h ▸ hb)) e
      simpa using this
    · have e : ys ++ (zs ++ [r]).toArray = (ys ++ zs.toArray).push r := by
        apply Array.ext'; simp
      rw [e]; exact hl₅
    · intro j u hj
      rcases Nat.lt_trichotomy j vs.length with h | h | h
      · exact hP j u (by rwa [List.getElem?_append_left h] at hj)
      · subst h; simp at hj; subst hj; exact hPv
      · have hnone : (vs ++ [v])[j]? = none := List.getElem?_eq_none (by rw [List.length_append, List.length_singleton]; omega)
        rw [hnone] at hj; cases hj
    · exact fun b o hbC hbf hbD e => hs₅.extBut b o hbD (hk₃ b o (up₂ b o hbC hbf (hk b o hbC hbf hbD e)))
  · have hin : vs.length = n := by omega
    refine W.done _ _ _ (hin ▸ hst') fun h₁ tk₁ hk₁ => ?_
    exact wpAny_pure (hR h₁ tk₁ m' vs zs (hn'.at' fun o e => hk₁ _ o hCw e) (hacc'.at fun o e => hk₁ _ o hDw e) hin hP hF fun b o hbC hbf hbD e => hk₁ b o hbf (hk b o hbC hbf hbD e))
theorem start1 {it acc : Value} {env : Env}
    (h0 : codeAny (model prog w) A (.compLoop (E2 elt iter iter2 x y px py scope pos) 1 it acc env) R s)
    (h : wpAny (model prog w) A (pyIter it) (fun it' s' => codeAny (model prog w) A (.compLoop (E2 elt iter iter2 x y px py scope pos) 1 it' acc env) R s')
      (notedBy (model prog w) A env fun x s' => R (.error x) s') s) :
    codeAny (model prog w) A (.compStart (E2 elt iter iter2 x y px py scope pos) 1 it acc env) R s := by
  refine codeAny_of_tree ?_
  show wpAny _ _ ((compStart (E2 elt iter iter2 x y px py scope pos) 1 it acc env).onRaise (fun x => do noteFrame x env; standAt theWindowsPlace)) _ _ s
  refine wpAny_notedAt ?_
  unfold compStart
  show wpAny _ _ (ask >>= _) _ _ s
  refine wpAny_bind (wpAny_askSetting (wpAny_ite ?_))
  split
  · first
      | exact wpAny_bind (wpAny_pure (wpAny_pure (And.intro rfl h0)))
      | exact wpAny_pure (And.intro rfl h0)
  · first
      | exact wpAny_bind (wpAny_rule (wpAny_bind (wpAny_standAt (wpAny_bind (wpAny_mono h (fun it' s' h' => wpAny_pure (And.intro rfl h')) fun _ _ x => x)))))
      | (refine wpAny_bind (wpAny_rule ?_); show wpAny _ _ (standAt iter2.pos >>= _) _ _ s; exact wpAny_bind (wpAny_standAt (wpAny_bind (wpAny_mono h (fun it' s' h' => wpAny_pure (And.intro rfl h')) fun _ _ x => x))))
theorem outer {fp wr : List Addr} {n : Nat} {P : Nat → Value → Prop} {St : Nat → Heap → Prop} (hh : A.handled = none) (W : Walks prog w A I fp wr n P St) (G : Value → Value → Prop) (src : Value → Addr × List Value)
    (hx : cenv.kindOf x = some .local) (hy : cenv.kindOf y = some .local) (hp : (cenv.scope.kind == .class || (cenv.scope.kind == .module && cenv.locals != cenv.globals)) = false)
    (hs2 : ∀ v, foldedSetIterable iter2 cenv v = pure v)
    (hDC : D ≠ cenv.locals) (hDf : D ∉ fp) (hCf : cenv.locals ∉ fp)
    (hst : St 0 s.heap) (hacc : s.heap.PlainList D #[]) (hn : s.heap.Ns cenv.locals m)
    (hsrc : ∀ i v, P i v → s.heap.IsList (src v).1 (src v).2.toArray ∧ (src v).1 ≠ cenv.locals ∧ (src v).1 ∉ wr ∧ (src v).1 ≠ D ∧ (src v).2.length ≤ 1000)
    (hit2 : ∀ i v s₂ m₂ E', P i v → s₂.heap.Ns cenv.locals m₂ → m₂ x = some v → (∀ b o, b ≠ cenv.locals → b ∉ wr → b ≠ D → s.heap.get? b = some o → s₂.heap.get? b = some o) →
      wpAny (model prog w) A (eval iter2 cenv) (fun r s₃ => r = .ref (src v).1 ∧ Keeps s₂ s₃) E' s₂)
    (helt : ∀ i v u s₂ m₂ E', P i v → u ∈ (src v).2 → s₂.heap.Ns cenv.locals m₂ → m₂ y = some u → (∀ b o, b ≠ cenv.locals → b ∉ wr → b ≠ D → s.heap.get? b = some o → s₂.heap.get? b = some o) →
      wpAny (model prog w) A (eval elt cenv) (fun r s₃ => G u r ∧ Keeps s₂ s₃) E' s₂)
    (hR : ∀ h' tk m' (vs zs : List Value), h'.Ns cenv.locals m' → h'.PlainList D zs.toArray → vs.length = n → (∀ j v, vs[j]? = some v → P j v) → Paired G (vs.flatMap fun v => (src v).2) zs →
      (∀ b o, b ≠ cenv.locals → b ∉ wr → b ≠ D → s.heap.get? b = some o → h'.get? b = some o) → R (.ok .next) { s with heap := h', toks := tk })
    (hsz : n ≤ 1000) :
    codeAny (model prog w) A (.compLoop (E2 elt iter iter2 x y px py scope pos) 0 (.ref I) (.ref D) cenv) R s := by
  have hCw : cenv.locals ∉ wr := fun h => hCf (W.sub _ h)
  have hDw : D ∉ wr := fun h => hDf (W.sub _ h)
  refine codeAny_loop rfl
    (fun k s' => ∃ h' tk m', ∃ vs zs : List Value, s' = { s with heap := h', toks := tk } ∧ St vs.length h' ∧ h'.PlainList D zs.toArray ∧ h'.Ns cenv.locals m' ∧ (∀ j v, vs[j]? = some v → P j v) ∧
      Paired G (vs.flatMap fun v => (src v).2) zs ∧ zs.length ≤ 1000 * vs.length ∧ vs.length ≤ n ∧ k = n + 1 - vs.length ∧ (∀ b o, b ≠ cenv.locals → b ∉ wr → b ≠ D → s.heap.get? b = some o → h'.get? b = some o)) ?_ (n + 1)
    ⟨s.heap, s.toks, m, [], [], rfl, hst, hacc, hn, by simp, .nil, Nat.zero_le _, Nat.zero_le _, rfl, fun _ _ _ _ _ e => e⟩
  rintro k s' ⟨H, tk, m', vs, zs, rfl, hst', hacc', hn', hP, hF, hzl, hi, rfl, hk⟩
  show wpAny _ A ((compTurn (E2 elt iter iter2 x y px py scope pos) 0 (.ref I) (.ref D) cenv).onRaise (fun x => do noteFrame x cenv; theTreesLotGoes x)) _ _ _
  refine wpAny_noted ?_
  rw [turn0]
  refine wpAny_bind (wpAny_standAt (wpAny_bind ?_))
  by_cases hlt : vs.length < n
  · refine W.item vs.length _ _ _ hlt hst' fun v h₁ tk₁ hPv hst₁ hk₁ => ?_
    dsimp only
    refine wpAny_bind (wpAny_of_eq (a := ()) rfl ?_)
    refine wpAny_bind (wpAny_assign_Name (wpAny_storeName_local hx (hn'.at' fun o e => hk₁ _ o hCw e) (fun h₂ hn₂ hs₂ => ?_) hp))
    have up₂ : ∀ b o, b ≠ cenv.locals → b ∉ wr → H.get? b = some o → h₂.get? b = some o := fun b o hbC hbf e => hs₂.extBut b o hbC (hk₁ b o hbf e)
    have hst₂ : St (vs.length + 1) h₂ := W.frame _ _ _ hst₁ fun b hb o e => hs₂.extBut b o (fun h => hCf (h ▸ hb)) e
    refine wpAny_bind (wpAny_mono (hit2 vs.length v _ _ _ hPv hn₂ (by simp) (fun b o hbC hbf hbD e => up₂ b o hbC hbf (hk b o hbC hbf hbD e))) (fun r s₃ h₃ => ?_) fun _ _ e => e)
    obtain ⟨rfl, h₃, tk₃, rfl, hk₃⟩ := h₃
    have hst₃ : St (vs.length + 1) h₃ := W.frame _ _ _ hst₂ fun b _ o e => hk₃ b o e
    have hacc₃ : h₃.PlainList D zs.toArray := hacc'.at fun o e => hk₃ _ o (up₂ D o hDC hDw e)
    have hn₃ := hn₂.keeps hk₃
    have up₃ : ∀ b o, b ≠ cenv.locals → b ∉ wr → b ≠ D → s.heap.get? b = some o → h₃.get? b = some o := fun b o hbC hbf hbD e => hk₃ b o (up₂ b o hbC hbf (hk b o hbC hbf hbD e))
    obtain ⟨q1, q2, q3, q4, q5⟩ := hsrc _ v hPv
    have hl₃ : h₃.IsList (src v).1 (src v).2.toArray := q1.at fun o e => up₃ _ o q2 q3 q4 e
    refine wpAny_bind (wpAny_standAt (wpAny_bind (wpAny_of_eq (hs2 _) (wpAny_bind (wpAny_holding ?_)))))
    refine wpAny_pyIter_list (l := (src v).1) hl₃ ?_
    refine wpAny_bind (wpAny_runOwn ?_)
    obtain ⟨ol, hol, _⟩ := id hl₃
    obtain ⟨oD, hoD⟩ : ∃ o, h₃.get? D = some o := by obtain ⟨k9, e9⟩ := hacc₃; exact ⟨_, e9⟩
    obtain ⟨oC, _, _, hoC, _⟩ := id hn₃
    have nl : (src v).1 ≠ h₃.objs.size := Nat.ne_of_lt (Heap.lt_size hol)
    have nD : D ≠ h₃.objs.size := Nat.ne_of_lt (Heap.lt_size hoD)
    have nC : cenv.locals ≠ h₃.objs.size := Nat.ne_of_lt (Heap.lt_size hoC)
    have W2 := Walks.list (prog := prog) (w := w) hh h₃.objs.size (src v).1 nl (src v).2.toArray
    have hst0 : (h₃.push { cls := .type "list_iterator", data := .fields #[.ref (src v).1, .int 0 0] }).IsListIter h₃.objs.size (src v).1 0 := ⟨_, Heap.get?_push_size _ rfl, rfl, rfl⟩
    have upp : ∀ b o, h₃.get? b = some o → (h₃.push { cls := .type "list_iterator", data := .fields #[.ref (src v).1, .int 0 0] }).get? b = some o := fun b o e => Heap.get?_push_of_some _ e
    have L1 : ∀ (RR : Result → Shared → Prop), (∀ h' tk m' (us zs2 : List Value), h'.Ns cenv.locals m' → h'.PlainList D (zs.toArray ++ zs2.toArray) → us.length = (src v).2.toArray.size → (∀ (j : Nat) (u : Value), us[j]? = some u → (src v).2.toArray[j]? = some u) → Paired G us zs2 →
        (∀ b o, b ≠ cenv.locals → b ∉ [h₃.objs.size] → b ≠ D → (h₃.push { cls := .type "list_iterator", data := .fields #[.ref (src v).1, .int 0 0] }).get? b = some o → h'.get? b = some o) → RR (.ok .next) { s with heap := h', toks := tk }) →
        codeAny (model prog w) A (.compLoop (E2 elt iter iter2 x y px py scope pos) 1 (.ref h₃.objs.size) (.ref D) cenv) RR { s with heap := h₃.push { cls := .type "list_iterator", data := .fields #[.ref (src v).1, .int 0 0] }, toks := tk₃ } := by
      intro RR hRR
      refine inner (m := _) W2 G hy hp hDC ?_ ?_ ⟨hst0, hl₃.at fun o e => upp _ o e⟩ (hacc₃.at fun o e => upp _ o e) (hn₃.keeps upp) ?_ hRR ?_
      · intro hm
        rcases List.mem_cons.mp hm with e | e
        · exact nD e
        · exact q4 (List.mem_singleton.mp e).symm
      · intro hm
        rcases List.mem_cons.mp hm with e | e
        · exact nC e
        · exact q2 (List.mem_singleton.mp e).symm
      · intro i u s₄ m₄ E' hu hn₄ hm₄ hk₄
        refine helt _ v u s₄ m₄ E' hPv (List.mem_of_getElem? (by simpa using hu)) hn₄ hm₄ fun b o hbC hbf hbD e => hk₄ b o hbC ?_ hbD (upp _ _ (up₃ b o hbC hbf hbD e))
        intro hb
        have := up₃ b o hbC hbf hbD e
        rw [List.mem_singleton.mp hb] at this
        exact absurd (Heap.lt_size this) (Nat.lt_irrefl _)
      · rw [sizeLine_eq]; simp; omega
    have fin : ∀ h' tk m' (us zs2 : List Value), h'.Ns cenv.locals m' → h'.PlainList D (zs.toArray ++ zs2.toArray) → us.length = (src v).2.toArray.size → (∀ (j : Nat) (u : Value), us[j]? = some u → (src v).2.toArray[j]? = some u) → Paired G us zs2 →
        (∀ b o, b ≠ cenv.locals → b ∉ [h₃.objs.size] → b ≠ D → (h₃.push { cls := .type "list_iterator", data := .fields #[.ref (src v).1, .int 0 0] }).get? b = some o → h'.get? b = some o) →
        wpAny (model prog w) A (again (.compLoop (E2 elt iter iter2 x y px py scope pos) 0 (.ref I) (.ref D) cenv)) (fun fin s' => match fin with | .done f => R (.ok f) s' | .again c' => c' = (.compLoop (E2 elt iter iter2 x y px py scope pos) 0 (.ref I) (.ref D) cenv) ∧ ∃ m, m < n + 1 - vs.length ∧ (∃ h' tk m', ∃ vs zs : List Value, s' = { s with heap := h', toks := tk } ∧ St vs.length h' ∧ h'.PlainList D zs.toArray ∧ h'.Ns cenv.locals m' ∧ (∀ j v, vs[j]? = some v → P j v) ∧
          Paired G (vs.flatMap fun v => (src v).2) zs ∧ zs.length ≤ 1000 * vs.length ∧ vs.length ≤ n ∧ m = n + 1 - vs.length ∧ (∀ b o, b ≠ cenv.locals → b ∉ wr → b ≠ D → s.heap.get? b = some o → h'.get? b = some o))) (notedBy (model prog w) A cenv fun e s' => R (.error e) s') { s with heap := h', toks := tk } := by
      intro h₆ tk₆ m₆ us zs2 hn₆ hl₆ hlen₆ hu₆ hF₆ hk₆
      have hus : us = (src v).2 := by
        have := walked_is (items := (src v).2.toArray) hlen₆ hu₆
        simpa using this
      subst hus
      have up₆ : ∀ b o, b ≠ cenv.locals → b ≠ D → h₃.get? b = some o → h₆.get? b = some o := fun b o hbC hbD e => hk₆ b o hbC (fun hb => by
        rw [List.mem_singleton.mp hb] at e
        exact absurd (Heap.lt_size e) (Nat.lt_irrefl _)) hbD (upp _ _ e)
      refine wpAny_pure ⟨rfl, n + 1 - (vs.length + 1), by omega, h₆, tk₆, m₆, vs ++ [v], zs ++ zs2, rfl, ?_, ?_, hn₆, ?_, ?_, ?_, by rw [List.length_append, List.length_singleton]; exact hlt, by rw [List.length_append, List.length_singleton], ?_⟩
      · have := W.frame _ _ h₆ hst₃ fun b hb o e => up₆ b o (fun h => hCf (h ▸ hb)) (fun h => hDf (h ▸ hb)) e
        simpa using this
      · have e : (zs ++ zs2).toArray = zs.toArray ++ zs2.toArray := by simp
        rw [e]; exact hl₆
      · intro j u hj
        rcases Nat.lt_trichotomy j vs.length with h | h | h
        · exact hP j u (by rwa [List.getElem?_append_left h] at hj)
        · subst h; simp at hj; subst hj; exact hPv
        · have hnone : (vs ++ [v])[j]? = none := List.getElem?_eq_none (by rw [List.length_append, List.length_singleton]; omega)
          rw [hnone] at hj; cases hj
      · rw [List.flatMap_append]
        exact pairedApp hF (by simpa using hF₆)
      · have := hF₆.length
        rw [List.length_append, List.length_append, List.length_singleton]
        omega
      · exact fun b o hbC hbf hbD e => up₆ b o hbC hbD (up₃ b o hbC hbf hbD e)
    refine start1 (L1 _ fun h' tk m' us zs2 a1 a2 a3 a4 a5 a6 => ?_) (W2.self 0 _ _ _ ⟨hst0, hl₃.at fun o e => upp _ o e⟩ (L1 _ fun h' tk m' us zs2 a1 a2 a3 a4 a5 a6 => ?_))
    · exact fin h' tk m' us zs2 a1 a2 a3 a4 a5 a6
    · exact fin h' tk m' us zs2 a1 a2 a3 a4 a5 a6
  · have hin : vs.length = n := by omega
    refine W.done _ _ _ (hin ▸ hst') fun h₁ tk₁ hk₁ => ?_
    exact wpAny_pure (hR h₁ tk₁ m' vs zs (hn'.at' fun o e => hk₁ _ o hCw e) (hacc'.at fun o e => hk₁ _ o hDw e) hin hP hF fun b o hbC hbf hbD e => hk₁ b o hbf (hk b o hbC hbf hbD e))
theorem assign2 {vs : List Value} {env : Env} {cl : List (Str × Addr)} {z : Str} {pz spos : Pos} {l : Addr} {h₀ : Heap} {news : List (Addr × Obj)} {Q : Flow → Shared → Prop} {E : Value → Shared → Prop} (hh : A.handled = none) (G : Value → Value → Prop) (src : Value → Addr × List Value)
    (hsw : swapsWith (E2 elt iter iter2 x y px py scope pos) (some (.Name z pz)) spos.line env = pure true)
    (hclos : closureFor scope env = pure cl) (hcell : ∀ z ∈ scope.names, z.2 ≠ .cell) (hkind : scope.kind = .function)
    (hnames : ∀ z ∈ scope.names, z.2 = .local → scope.names.lookup z.1 = some .local) (hx : scope.names.lookup x = some .local) (hy : scope.names.lookup y = some .local)
    (hz : env.kindOf z = some .local) (hp : (env.scope.kind == .class || (env.scope.kind == .module && env.locals != env.globals)) = false)
    (F : Fr h₀ env.locals s.heap m) (N : News h₀ env.locals s.heap news)
    (hev : ∀ (Q' : Value → Shared → Prop), Q' (.ref l) s → wpAny (model prog w) A (eval iter env) Q' E s)
    (hl : s.heap.IsList l vs.toArray) (hlen : vs.length ≤ 1000)
    (hsrc : ∀ v ∈ vs, s.heap.IsList (src v).1 (src v).2.toArray ∧ (src v).2.length ≤ 1000)
    (g1 : ∀ C v s₂ m₂ E', v ∈ vs → s₂.heap.Ns C m₂ → m₂ x = some v → Fr h₀ env.locals s₂.heap m → News h₀ env.locals s₂.heap news → wpAny (model prog w) A (eval iter2 (compEnvC scope cl C env)) (fun r s₃ => r = .ref (src v).1 ∧ Keeps s₂ s₃) E' s₂)
    (g2 : ∀ C v u s₂ m₂ E', v ∈ vs → u ∈ (src v).2 → s₂.heap.Ns C m₂ → m₂ y = some u → Fr h₀ env.locals s₂.heap m → News h₀ env.locals s₂.heap news → wpAny (model prog w) A (eval elt (compEnvC scope cl C env)) (fun r s₃ => G u r ∧ Keeps s₂ s₃) E' s₂)
    (hs2 : ∀ C v, foldedSetIterable iter2 (compEnvC scope cl C env) v = pure v) (hs : ∀ v, foldedSetIterable iter env v = pure v)
    (g3 : ∀ D zs n h' tk, Fr h₀ env.locals h' (fun q => if q = z then some (.ref D) else m q) → News h₀ env.locals h' ((D, W.listOf (List.toArray zs) n) :: news) → (∀ p ∈ news, p.1 ≠ D) → Paired G (vs.flatMap fun v => (src v).2) zs → Q .next { s with heap := h', toks := tk }) :
    wpAny (model prog w) A (exec (.Assign [.Name z pz] (E2 elt iter iter2 x y px py scope pos) spos) env) Q E s := by
  rw [exec_Assign_Name_used _ _ _ _ hsw]
  refine wpAny_bind (wpAny_standAt (wpAny_bind ?_))
  show wpAny _ A (do let _ ← comprehension (E2 elt iter iter2 x y px py scope pos) scope env _ (newList []) false (eval iter env) (some (assign (.Name z pz) env))) _ _ s
  refine wpAny_bind (wpAny_mono (wpAny_comprehension_free (use := some (assign (.Name z pz) env)) (Q := fun _ s' => Q .next s') rfl hs hclos hkind hnames (hev _ ?_)) (fun _ s' hq => wpAny_pure (wpAny_pure hq)) fun _ _ e => e)
  refine wpAny_pyIter_list hl ?_
  refine wpAny_newObj_type (wpAny_newFunctionEnv hcell (by intro y hy; simp at hy) (fun h₁ hns₁ hsb₁ => ?_) hkind)
  dsimp only at hns₁ hsb₁ ⊢
  generalize hH1 : s.heap.push { cls := .type "list_iterator", data := .fields #[.ref l, .int 0 0] } = H1 at hns₁ hsb₁ ⊢
  generalize hH2 : H1.push { cls := .type "list", dict := none, data := .seq ([] : List Value).toArray } = H2 at hns₁ hsb₁ ⊢
  have hD : H1.objs.size = s.heap.objs.size + 1 := by rw [← hH1, Heap.size_push]
  have hC : H2.objs.size = s.heap.objs.size + 1 + 1 := by rw [← hH2, Heap.size_push, hD]
  have old1 : ∀ b o, s.heap.get? b = some o → H1.get? b = some o := fun b o e => hH1 ▸ Heap.get?_push_of_some _ e
  have old : ∀ b o, s.heap.get? b = some o → h₁.get? b = some o := fun b o e =>
    hsb₁.extBut b o (by rw [hC]; exact Nat.ne_of_lt (Nat.lt_of_lt_of_le (Heap.lt_size e) (by omega))) (Heap.get?_push_of_some _ (hH2 ▸ Heap.get?_push_of_some _ (old1 b o e)))
  have hIC : s.heap.objs.size ≠ H2.objs.size := by rw [hC]; exact Nat.ne_of_lt (by omega)
  have hDC : H1.objs.size ≠ H2.objs.size := by rw [hC, hD]; exact Nat.ne_of_lt (by omega)
  have hID : s.heap.objs.size ≠ H1.objs.size := by rw [hD]; exact Nat.ne_of_lt (by omega)
  have hacc : h₁.PlainList H1.objs.size #[] := ⟨_, hsb₁.extBut _ _ hDC (Heap.get?_push_of_some _ (hH2 ▸ Heap.get?_push_size _ rfl))⟩
  have hit0 : h₁.IsListIter s.heap.objs.size l 0 := by
    refine ⟨_, hsb₁.extBut _ _ hIC (Heap.get?_push_of_some _ (hH2 ▸ Heap.get?_push_of_some _ (hH1 ▸ Heap.get?_push_size _ rfl))), rfl, rfl⟩
  have below : ∀ b o, s.heap.get? b = some o → b ≠ H2.objs.size ∧ b ∉ [s.heap.objs.size] ∧ b ≠ H1.objs.size := fun b o e => by
    have hb := Heap.lt_size e
    refine ⟨?_, fun h => ?_, ?_⟩
    · rw [hC]; exact Nat.ne_of_lt (Nat.lt_succ_of_lt (Nat.lt_succ_of_lt hb))
    · rw [List.mem_singleton.mp h] at hb; exact Nat.lt_irrefl _ hb
    · rw [hD]; exact Nat.ne_of_lt (Nat.lt_succ_of_lt hb)
  obtain ⟨ol, hol, _⟩ := id hl
  have nl : l ≠ s.heap.objs.size := Nat.ne_of_lt (Heap.lt_size hol)
  have W := Walks.list (prog := prog) (w := w) hh s.heap.objs.size l nl vs.toArray
  have ext : ∀ s₂ : Shared, (∀ b o, b ≠ H2.objs.size → b ∉ [s.heap.objs.size] → b ≠ H1.objs.size → h₁.get? b = some o → s₂.heap.get? b = some o) → ∀ b o, s.heap.get? b = some o → s₂.heap.get? b = some o :=
    fun s₂ k b o e => k b o (below b o e).1 (below b o e).2.1 (below b o e).2.2 (old b o e)
  have inV : ∀ (i : Nat) (v : Value), vs.toArray[i]? = some v → v ∈ vs := fun i v h => List.mem_of_getElem? (by simpa using h)
  have loop : ∀ s₃ : Shared, s₃ = { s with heap := h₁, toks := s.toks + ([] : List (Str × Value)).length } →
      codeAny (model prog w) A (.compLoop (E2 elt iter iter2 x y px py scope pos) 0 (.ref s.heap.objs.size) (.ref H1.objs.size) (compEnvC scope cl H2.objs.size env))
        (compPost (model prog w) A E (some (assign (.Name z pz) env)) (fun _ s' => Q .next s') (.ref H1.objs.size) H2.objs.size) s₃ := by
    rintro s₃ rfl
    refine outer (cenv := compEnvC scope cl H2.objs.size env) hh W G src (lookup_relabel_local hx) (lookup_relabel_local hy) (by simp [compEnvC, relabel, hkind]) (hs2 _) hDC ?_ ?_ ⟨hit0, hl.at fun o e => old _ o e⟩ hacc hns₁ ?_ ?_ ?_ ?_ (by simpa using hlen)
    · intro hm
      rcases List.mem_cons.mp hm with e | e
      · exact hID e.symm
      · have := Heap.lt_size hol
        rw [← List.mem_singleton.mp e, hD] at this; exact absurd this (Nat.not_lt.mpr (Nat.le_succ _))
    · intro hm
      rcases List.mem_cons.mp hm with e | e
      · exact hIC e.symm
      · have := Heap.lt_size hol
        have e' : H2.objs.size = l := List.mem_singleton.mp e
        rw [← e', hC] at this; exact absurd this (Nat.not_lt.mpr (Nat.le_trans (Nat.le_succ _) (Nat.le_succ _)))
    · intro i v hv
      obtain ⟨q1, q2⟩ := hsrc v (inV i v hv)
      obtain ⟨oq, hoq, _⟩ := id q1
      obtain ⟨b1, b2, b3⟩ := below _ oq hoq
      exact ⟨q1.at fun o e => old _ o e, b1, b2, b3, q2⟩
    · intro i v s₂ m₂ E' hv hn₂ hm₂ hk₂
      exact g1 _ v s₂ m₂ E' (inV i v hv) hn₂ hm₂ (F.keeps (ext s₂ hk₂)) (N.grown (ext s₂ hk₂))
    · intro i v u s₂ m₂ E' hv hu hn₂ hm₂ hk₂
      exact g2 _ v u s₂ m₂ E' (inV i v hv) hu hn₂ hm₂ (F.keeps (ext s₂ hk₂)) (N.grown (ext s₂ hk₂))
    · intro h' tk m' ws zs hnC hlD hwl hwP hF hk
      have hws : ws = vs := by
        have := walked_is (items := vs.toArray) hwl hwP
        simpa using this
      subst hws
      have up : ∀ b o, s.heap.get? b = some o → h'.get? b = some o := fun b o e => hk b o (below b o e).1 (below b o e).2.1 (below b o e).2.2 (old b o e)
      have F' := F.keeps up
      have N' := N.grown up
      obtain ⟨oL, _, _, hoL, _⟩ := id F.ns
      have hLC : env.locals ≠ H2.objs.size := (below _ _ hoL).1
      have hLD : env.locals ≠ H1.objs.size := (below _ _ hoL).2.2
      show wpAny _ A (assign (.Name z pz) env (.ref H1.objs.size)) _ _ _
      refine wpAny_assign_Name (wpAny_storeName_local hz F'.ns (fun h₂ hn₂ hs₂ => ?_) hp)
      refine ⟨m', hnC.sameBut hs₂ (Ne.symm hLC), fun h₃ hs₃ => ?_⟩
      obtain ⟨n9, hD9⟩ := hlD
      have kp : ∀ b o, b ≠ env.locals → b ≠ H2.objs.size → h'.get? b = some o → h₃.get? b = some o := fun b o b1 b2 e => hs₃.extBut b o b2 (hs₂.extBut b o b1 e)
      have noD : h₀.get? H1.objs.size = none := by
        cases q : h₀.get? H1.objs.size with
        | none => rfl
        | some o => have := Heap.lt_size (F.keep _ _ q); rw [hD] at this; exact absurd this (Nat.not_lt.mpr (Nat.le_succ _))
      refine g3 H1.objs.size zs n9 h₃ _ ⟨hn₂.sameBut hs₃ hLC, fun b o e => ?_, F.above⟩ (fun p hp9 => ?_) (fun p hp9 => (below _ _ (N p hp9).1).2.2) hF
      · have e1 := F.keep b o e
        exact kp b o (Nat.ne_of_lt (Nat.lt_of_lt_of_le (Heap.lt_size e) F.above)) (below b o e1).1 (up b o e1)
      · rcases List.mem_cons.mp hp9 with rfl | hp9
        · exact ⟨kp _ _ (Ne.symm hLD) hDC hD9, Ne.symm hLD, noD⟩
        · obtain ⟨n1, n2, n3⟩ := N p hp9
          exact ⟨kp _ _ n2 (below _ _ n1).1 (up _ _ n1), n2, n3⟩
  exact codeAny_compStart_list (loop _ rfl) (W.self 0 _ _ _ ⟨hit0, hl.at fun o e => old _ o e⟩ (loop _ rfl))
end
def srcOf (r0 r1 r2 : Addr) (u0 u1 u2 : List Value) : Value → Addr × List Value
  | .int n _ => if n.fmod 3 = 0 then (r0, u0) else if n.fmod 3 = 1 then (r1, u1) else (r2, u2)
  | _ => (r2, u2)
theorem fmod3 (n : Int) : n.fmod 3 = 0 ∨ n.fmod 3 = 1 ∨ n.fmod 3 = 2 := by
  rw [Int.fmod_eq_emod_of_nonneg _ (by decide)]; omega
section
variable {prog : Program} {w : World} {A : Around} {s : Shared} {cenv : Env} {m : Str → Option Value}
theorem g1_words {E' : Value → Shared → Prop} {a b : Str} {p1 p2 p3 p4 p5 : Pos} {k : Nat} {c2 aw r0 r1 r2 : Addr} {u0 u1 u2 : List Value} {n : Int} {t : Tok}
    (hk : cenv.scope.kind = .function) (hw : cenv.kindOf a = some .cell) (hwc : cenv.cells.lookup a = some c2) (hcell : s.heap.IsCell c2 (some (.ref aw)))
    (hx : cenv.kindOf b = some .local) (hn : s.heap.Ns cenv.locals m) (hm : m b = some (.int n t)) (hl : s.heap.IsList aw #[.ref r0, .ref r1, .ref r2])
    (hda : (a == ("__debug__" : Str)) = false) (hdb : (b == ("__debug__" : Str)) = false) :
    wpAny (model prog w) A (eval (.Subscript (.Name a p1) (.BinOp (.Name b p2) .Mod (.Constant (.int 3) k p3) p4) p5) cenv) (fun r s₃ => r = .ref (srcOf r0 r1 r2 u0 u1 u2 (.int n t)).1 ∧ Keeps s s₃) E' s := by
  refine Subscript_ (wpAny_Name (wpAny_loadName_cell hk hw hwc hcell ?_) hda)
  refine wpAny_BinOp (wpAny_Name (wpAny_loadName_local hk hx hn hm ?_) hdb)
  refine wpAny_Constant_int (mod_int' (by decide) ?_)
  have h3 := fmod3 n
  have hit : (#[Value.ref r0, .ref r1, .ref r2] : Array Value)[(n.fmod 3).toNat]? = some (.ref (srcOf r0 r1 r2 u0 u1 u2 (.int n t)).1) := by
    unfold srcOf
    rcases h3 with e | e | e <;> simp [e]
  refine tail_any (Heap.IsList.typeIs (s := ⟨s.heap, _, _, _, _⟩) hl) slot_list_getitem.lookup (wpAny_getItem_list hl (by omega) (by omega) hit ⟨rfl, s.heap, _, rfl, fun _ _ e => e⟩) (by with_unfolding_all rfl)
theorem g2_figs {E' : Value → Shared → Prop} {a b : Str} {p1 p2 p5 : Pos} {c1 lf : Addr} {vf : List Value} {figs : List Int} {c : Int} {t : Tok}
    (hk : cenv.scope.kind = .function) (hw : cenv.kindOf a = some .cell) (hwc : cenv.cells.lookup a = some c1) (hcell : s.heap.IsCell c1 (some (.ref lf)))
    (hx : cenv.kindOf b = some .local) (hn : s.heap.Ns cenv.locals m) (hm : m b = some (.int c t)) (hl : s.heap.IsList lf vf.toArray) (hi : IntsAre vf figs) (h0 : 0 ≤ c) (h1 : c < figs.length) (h2 : c < 100)
    (hda : (a == ("__debug__" : Str)) = false) (hdb : (b == ("__debug__" : Str)) = false) :
    wpAny (model prog w) A (eval (.Subscript (.Name a p1) (.Name b p2) p5) cenv) (fun r s₃ => (∃ t', r = .int (figs.getD c.toNat 0) t') ∧ Keeps s s₃) E' s := by
  refine Subscript_ (wpAny_Name (wpAny_loadName_cell hk hw hwc hcell ?_) hda)
  refine wpAny_Name (wpAny_loadName_local hk hx hn hm ?_) hdb
  exact item_anyK hl hi h0 h1 (by omega) (fun t' => ⟨⟨t', rfl⟩, s.heap, _, rfl, fun _ _ e => e⟩) (by with_unfolding_all rfl)
end
end C2
/- C16e -/
/-- the numbers, however they came -/
structure JN (h₀ : Heap) (L : Addr) (m : Str → Option Value) (news : List (Addr × Obj)) (s : Shared) (v : Value) (s' : Shared) : Prop where
  gens : s'.gens = s.gens
  drawn : s'.drawn = s.drawn
  os : s'.os = s.os
  rest : ∃ D us n ns, v = .ref D ∧ Fr h₀ L s'.heap m ∧ News h₀ L s'.heap ((D, W.listOf (List.toArray us) n) :: news) ∧ IntsAre us ns ∧ ns.length ≤ 5 ∧ (∀ x ∈ ns, 0 ≤ x ∧ x < 108) ∧ LCg.Off1 D news
theorem jn_of {h₀ h' : Heap} {L D : Addr} {m : Str → Option Value} {news all : List (Addr × Obj)} {s : Shared} {us : List Value} {ns : List Int} {n tk : Nat} (F : Fr h₀ L h' m) (N : News h₀ L h' all) (hs : ∀ p ∈ (D, W.listOf (List.toArray us) n) :: news, p ∈ all) (hi : IntsAre us ns) (hn : ns.length ≤ 5) (hx : ∀ x ∈ ns, 0 ≤ x ∧ x < 108) (o : LCg.Off1 D news) :
    JN h₀ L m news s (.ref D) { s with heap := h', toks := tk } := ⟨rfl, rfl, rfl, D, us, n, ns, rfl, F, news_sub N hs, hi, hn, hx, o⟩
theorem joinNum {h₀ : Heap} {L : Addr} {m : Str → Option Value} {news : List (Addr × Obj)} {s : Shared} {M : Model} {A : Around} {T : Sem Value} {Q : Value → Shared → Prop} {E : Value → Shared → Prop} (F : Fr h₀ L s.heap m) (N : News h₀ L s.heap news)
    (h1 : Fr h₀ L s.heap m → News h₀ L s.heap news → wpAny M A T (JN h₀ L m news s) (fun _ _ => False) s)
    (h2 : ∀ D us n ns h' tk, Fr h₀ L h' m → News h₀ L h' ((D, W.listOf (List.toArray us) n) :: news) → IntsAre us ns → ns.length ≤ 5 → (∀ x ∈ ns, 0 ≤ x ∧ x < 108) → LCg.Off1 D news → Q (.ref D) { s with heap := h', toks := tk }) : wpAny M A T Q E s := by
  refine wpAny_mono (h1 F N) (fun v s' j => ?_) fun _ _ e => e.elim
  obtain ⟨e1, e2, e3, D, us, n, ns, rfl, F', N', hi, hn, hx, o⟩ := j
  obtain ⟨_, _, _, _, _⟩ := s'
  cases e1; cases e2; cases e3
  exact h2 D us n ns _ _ F' N' hi hn hx o
theorem num_range (l : List Int) : (List.map (fun k => k.fmod 108) (List.take (Int.toNat 5) l)).length ≤ 5 ∧ ∀ x ∈ List.map (fun k => k.fmod 108) (List.take (Int.toNat 5) l), 0 ≤ x ∧ x < 108 := by
  refine ⟨?_, fun x hx => ?_⟩
  · rw [List.length_map, List.length_take]
    exact Nat.min_le_left _ _
  · obtain ⟨y, _, rfl⟩ := List.mem_map.mp hx
    rw [Int.fmod_eq_emod_of_nonneg _ (by decide)]
    omega
theorem num_own : ([7, 63, 86, 79] : List Int).length ≤ 5 ∧ ∀ x ∈ ([7, 63, 86, 79] : List Int), 0 ≤ x ∧ x < 108 := by decide
theorem made_news {h₀ h h' : Heap} {L : Addr} {m : Str → Option Value} {news c rest : List (Addr × Obj)} (F : Fr h₀ L h m) (N : News h₀ L h news) (N' : News h₀ L h' news) (M : Made h h' (c ++ rest)) :
    News h₀ L h' (c ++ (news ++ rest)) ∧ (∀ q ∈ news, NeAll q.1 c) ∧ (∀ p ∈ rest, ∀ q ∈ news, p.1 ≠ q.1) := by
  have key : ∀ p ∈ c ++ rest, p.1 ≠ L ∧ h₀.get? p.1 = none ∧ ∀ q ∈ news, p.1 ≠ q.1 := by
    intro p hp
    have h1 := (M p hp).2
    refine ⟨fun e => ?_, ?_, fun q hq e => ?_⟩
    · obtain ⟨oL, _, _, hL, _⟩ := F.ns
      rw [e, hL] at h1; cases h1
    · cases q : h₀.get? p.1 with
      | none => rfl
      | some o' => rw [F.keep _ _ q] at h1; cases h1
    · rw [e, (N q hq).1] at h1; cases h1
  refine ⟨fun p hp => ?_, fun q hq => ?_, fun p hp => (key p (List.mem_append_right _ hp)).2.2⟩
  · rcases List.mem_append.mp hp with h1 | h1
    · have h2 := List.mem_append_left rest h1
      exact ⟨(M p h2).1, (key p h2).1, (key p h2).2.1⟩
    · rcases List.mem_append.mp h1 with h1 | h1
      · exact N' p h1
      · have h2 := List.mem_append_right c h1
        exact ⟨(M p h2).1, (key p h2).1, (key p h2).2.1⟩
  · have hc : ∀ p ∈ c, p.1 ≠ q.1 := fun p hp => (key p (List.mem_append_left _ hp)).2.2 q hq
    clear key M
    induction c with
    | nil => trivial
    | cons p r ih => exact ⟨hc p (.head _), ih fun x hx => hc x (.tail _ hx)⟩
theorem ownOff2 {r : List (Addr × Obj)} {a b : Addr} (h1 : ∀ p ∈ r, p.1 ≠ a) (h2 : ∀ p ∈ r, p.1 ≠ b) : OwnOff r [a, b] := by
  intro p hp x hx
  simp only [List.mem_cons, List.not_mem_nil, or_false] at hx
  rcases hx with e | e <;> rw [e]
  · exact h1 p hp
  · exact h2 p hp
theorem stepsAt_of {h₀ h : Heap} {L : Addr} {news r : List (Addr × Obj)} {vs : List Value} {S : List (Int × Bool)} (N : News h₀ L h news) (hs : ∀ p ∈ r, p ∈ news) (H : StepsIn r vs S) : StepsAt h vs S :=
  ⟨H.1, fun i p hp => by obtain ⟨a, t, e1, e2⟩ := H.2 i p hp; exact ⟨a, t, e1, ⟨_, (N _ (hs _ e2)).1, rfl, _, rfl⟩⟩⟩
theorem passesAt_of {h₀ h : Heap} {L : Addr} {news r : List (Addr × Obj)} {vs : List Value} {S : List Pass} (N : News h₀ L h news) (hs : ∀ p ∈ r, p ∈ news) (H : PassesIn r vs S) : PassesAt h vs S :=
  ⟨H.1, fun i p hp => by obtain ⟨a, t, t1, t2, e1, e2⟩ := H.2 i p hp; exact ⟨a, t, t1, t2, e1, ⟨_, (N _ (hs _ e2)).1, rfl, _, rfl⟩⟩⟩
theorem reg36 : True := by
  k_with "call ref" => ((with_reducible show wpAny _ _ (call (Value.ref 189) _ _) _ _ _); refine Hold.out ?_)
  k_with "call ref" => ((with_reducible show wpAny _ _ (call (Value.ref 156) _ _) _ _ _); refine Hold.out ?_)
  k_with "call ref" => ((with_reducible show wpAny _ _ (call (Value.ref 182) _ _) _ _ _); refine Hold.out ?_)
  k_with "call ref" => ((with_reducible show wpAny _ _ (call (Value.ref 168) _ _) _ _ _); refine Hold.out ?_)
  k_with "eval IfExp" => ((with_reducible show wpAny _ _ (eval (Expr.IfExp _ (Expr.ListComp _ _ _ _) _ _) _) _ _ _); refine Hold.out ?_)
  k_with "my rest" => (intro p hp; repeat' (first | exact hp | refine List.Mem.tail _ ?_))
  exact trivial
theorem let_of (ns : List Int) : PW.Let (ns.map fun x => x.fmod 3) := by
  intro c hc
  obtain ⟨x, _, rfl⟩ := List.mem_map.mp hc
  rw [Int.fmod_eq_emod_of_nonneg _ (by decide)]
  omega
def figP (figs : List Int) (u r : Value) : Prop := ∃ c t t', u = .int c t ∧ r = .int (figOf figs c) t'
theorem ints_mem : ∀ {vs : List Value} {ns : List Int}, IntsAre vs ns → ∀ v ∈ vs, ∃ n t, v = .int n t ∧ n ∈ ns
  | _, _, .nil, _, h => nomatch h
  | _, _, .cons i t r, v, h => by
    rcases List.mem_cons.mp h with rfl | h
    · exact ⟨i, t, rfl, .head _⟩
    · obtain ⟨n, t', e, m⟩ := ints_mem r v h
      exact ⟨n, t', e, .tail _ m⟩
theorem src_ints {r0 r1 r2 : Addr} {u0 u1 u2 : List Value} {S : List (Int × Bool)} (h0 : IntsAre u0 (PW.sig S [0])) (h1 : IntsAre u1 (PW.sig S [1])) (h2 : IntsAre u2 (PW.sig S [2])) (n : Int) (t : Tok) :
    IntsAre (C2.srcOf r0 r1 r2 u0 u1 u2 (.int n t)).2 (PW.sig S [n.fmod 3]) := by
  rcases C2.fmod3 n with e | e | e
  · simp only [C2.srcOf, e, if_true]; exact h0
  · simp only [C2.srcOf, e]; exact h1
  · simp only [C2.srcOf, e]; exact h2
theorem flat_ints {r0 r1 r2 : Addr} {u0 u1 u2 : List Value} {S : List (Int × Bool)} (h0 : IntsAre u0 (PW.sig S [0])) (h1 : IntsAre u1 (PW.sig S [1])) (h2 : IntsAre u2 (PW.sig S [2])) : ∀ {us : List Value} {ns : List Int}, IntsAre us ns →
    IntsAre (us.flatMap fun v => (C2.srcOf r0 r1 r2 u0 u1 u2 v).2) (PW.sig S (ns.map fun x => x.fmod 3))
  | _, _, .nil => by rw [List.map_nil, PW.sig_nil]; exact .nil
  | _, _, .cons n t r => by
    rw [List.flatMap_cons, List.map_cons, show ∀ (a : Int) (l : List Int), a :: l = [a] ++ l from fun _ _ => rfl, PW.sig_app]
    exact IntsAre.append (src_ints h0 h1 h2 n t) (flat_ints h0 h1 h2 r)
theorem paired_ints {figs : List Int} : ∀ {vs zs : List Value} {ks : List Int}, IntsAre vs ks → Paired (figP figs) vs zs → IntsAre zs (ks.map (figOf figs))
  | _, _, _, .nil, .nil => .nil
  | _, _, _, .cons i t r, .cons h p => by
    obtain ⟨c, t1, t2, e1, rfl⟩ := h
    injection e1 with e1
    subst e1
    exact .cons _ _ (paired_ints r p)
theorem rep_flat {α : Type} (l : List α) : (List.replicate (Int.toNat 4) l).flatten = l ++ l ++ l ++ l := by
  show l ++ (l ++ (l ++ (l ++ []))) = _
  simp
theorem first_is (ns : List Int) : (List.replicate (Int.toNat 4) (List.map (fun k => ([62, 63, 53] : List Int).getD (k.fmod 3).toNat 0) ns)).flatten = rep4 ((ns.map fun x => x.fmod 3).map (figOf [62, 63, 53])) := by
  rw [rep_flat, List.map_map]; rfl
theorem rep4_ok {figs W : List Int} (hW : PW.Let W) (hl : W.length ≤ 400) (hf : ∀ c ∈ [(0 : Int), 1, 2], 0 ≤ figOf figs c ∧ figOf figs c < 64) :
    (rep4 (W.map (figOf figs))).length ≤ 2000 ∧ (rep4 (W.map (figOf figs))).length % 4 = 0 ∧ ∀ f ∈ rep4 (W.map (figOf figs)), 0 ≤ f ∧ f < 64 := by
  refine ⟨?_, ?_, fun f hf' => ?_⟩
  · rw [PL.rep4_len, List.length_map]; omega
  · rw [PL.rep4_len]; omega
  · obtain ⟨d, hd, rfl⟩ := List.mem_map.mp (PL.rep4_mem hf')
    exact hf d (PL.in3 (hW d hd))
theorem reg37 : True := by
  k_with "exec Assign cons ListComp" => ((with_reducible show wpAny _ _ (exec (Stmt.Assign [Expr.Name (Str.ofString "due") _] _ _) _) _ _ _); refine Hold.out ?_)
  exact trivial
set_option maxHeartbeats 8000000 in
theorem whole : PySem.Challenge.rw_pa0041_01.Holds := (by
  w_on
  refine holds_law saidK fun sd9 => ?_
  refine holds_open (q := viewK) (loose := looseK) (Xt := fun s => xlAt viewK [] s && recOk (RowW.records Challenge.rw_pa0041_01.row.toRowW) s) (XP := XL viewK []) (Yf := Hook.obs hookK) (Ya := Hook.val hookK) (YP := Hook.says hookK) (N := 2126) leftK (Hook.of hookK) (Hook.keeps hookK) (fun s e => xl_of s (Bool.and_eq_true_iff.mp e).1) XL.keeps (by rfl) (by rfl) (by rfl) (fun s e => recFacts_of (Bool.and_eq_true_iff.mp e).2) (by rfl) (by first | assumption | decide +kernel) (by decide +kernel) ⟨rfl, rfl, rfl, rfl, rfl, by decide +kernel⟩ ?hw ?hc
  case hw => w_witness2
  clear sd9
  w_strict (k_go0; (all_goals try k_fold); k_steps)
  unfold Hold
  rename Fr _ _ _ _ => FQ
  rename News _ _ _ _ => NQ
  refine joinNum FQ NQ ?num ?go
  case num =>
    intro FQ2 NQ2
    clear FQ NQ
    refine wpAny_IfExp ?_
    k_fold
    k_steps
    · rename News _ _ _ _ => NE
      exact jn_of (us := [_, _, _, _]) (by k_asm) NE (by walk_at "my sub") (.cons _ _ (.cons _ _ (.cons _ _ (.cons _ _ .nil)))) num_own.1 num_own.2 ⟨by (refine neN ?_; omega), by (refine neN ?_; omega), trivial⟩
    · rename IntsAre _ (List.map _ _) => hI8
      rename News _ _ _ _ => NE
      exact jn_of (by k_asm) NE (by walk_at "my sub") hI8 (num_range _).1 (num_range _).2 ⟨by (refine neN ?_; omega), by (refine neN ?_; omega), trivial⟩
  case go =>
    intro Dn us nn ns h' tk' F' N' hIn hnl hnx oN
    clear FQ NQ
    k_steps
    unfold Hold
    rename Fr _ _ _ _ => FQ
    rename News _ _ _ _ => NQ
    k_dflt (refine' useX (c_plan _ us ns _ ?cl hIn hnl hnx) ?u1 FQ NQ ?u4 ?u5 ?u6 ?u7 ?u8 ?u9 ?u10 ?go2; (case cl => kmk_list); (case u1 => k_asm); (case u4 => k_asm); (case u5 => k_asm); (case u6 => exact rfl); (case u7 => exact rfl); (case u8 => exact rfl); (case u9 => exact Nat.le_of_ble_eq_true rfl); (case u10 => exact Nat.le_of_ble_eq_true rfl))
    rintro v9 h9 tk9 F9 N9 ⟨a1, lp1, cp1, ls1, cs1, lf1, cf1, vps, vss, vf, rest1, rfl, hM1, hP1, hS1, hG1⟩
    obtain ⟨N10, d1, d2⟩ := made_news (c := [(a1, _), (lf1, _), (ls1, _), (lp1, _)]) FQ NQ N9 hM1
    simp only [List.cons_append, List.nil_append] at N10
    have q1 := d1 _ (.tail _ (.head _))
    have q2 := d1 _ (.tail _ (.tail _ (.head _)))
    simp only [NeAll, and_true] at q1 q2
    obtain ⟨q11, q12, q13, q14⟩ := q1
    obtain ⟨q21, q22, q23, q24⟩ := q2
    obtain ⟨oN1, oN2, _⟩ := oN
    have oN1 := neA_in oN1
    have oN2 := neA_in oN2
    have hOr := ownOff2 (fun p hp => d2 p hp _ (.tail _ (.head _))) (fun p hp => d2 p hp _ (.tail _ (.tail _ (.head _))))
    clear FQ NQ N9 hM1 d1 d2
    (try dsimp only)
    k_steps
    obtain ⟨hAt, hSl, hS3⟩ := PL.plan_at (ns.map fun x => x.fmod 3) (let_of ns) (by rw [List.length_map]; exact hnl) ns hnl hnx
    unfold Hold
    rename Fr _ _ _ _ => FQ
    rename News _ _ _ _ => NQ
    have hSa := stepsAt_of NQ (r := rest1) (by walk_at "my rest") hS1
    generalize plan ns = c at *
    have hSl5 : c.steps.length ≤ 5 := by rw [hSl]; exact hnl
    k_dflt (refine' useX (c_become _ vss c.steps _ ?cl hSa hSl5 hS3) ?u1 FQ NQ ?u4 ?u5 ?u6 ?u7 ?u8 ?u9 ?u10 ?go3; (case cl => kmk_list); (case u1 => k_asm); (case u4 => k_asm); (case u5 => k_asm); (case u6 => exact rfl); (case u7 => exact rfl); (case u8 => exact rfl); (case u9 => exact Nat.le_of_ble_eq_true rfl); (case u10 => exact Nat.le_of_ble_eq_true rfl))
    rintro v9 h9 tk9 F9 N9 ⟨aw, nw, r0, r1, r2, u0, u1, u2, k0, k1, k2, rfl, hM2, hW0, hW1, hW2⟩
    obtain ⟨N10, d1, d2⟩ := made_news (c := [(aw, _), (r0, _), (r1, _), (r2, _)]) (rest := []) FQ NQ N9 hM2
    simp only [List.cons_append, List.nil_append, List.append_nil] at N10
    have q3 := d1 _ (.tail _ (.tail _ (.tail _ (.tail _ (.tail _ (.head _))))))
    simp only [NeAll, and_true] at q3
    obtain ⟨q31, q32, q33, q34⟩ := q3
    clear FQ NQ N9 hM2 d1 d2 hSa
    (try dsimp only)
    k_steps
    unfold Hold
    rename Fr _ _ _ _ => FQ
    rename News _ _ _ _ => NQ
    have hlu := hIn.length
    rename _ = Data.cell (some (Value.ref aw)) => dw
    rename _ = Data.cell (some (Value.ref lf1)) => df
    have hf3 : c.figs.length = 3 := by
      have h := hAt.figs
      unfold perms at h
      simp only [List.mem_cons, List.not_mem_nil, or_false] at h
      rcases h with e | e | e | e | e | e <;> rw [e] <;> rfl
    have il : ∀ k, k = 0 ∨ k = 1 ∨ k = 2 → PW.Let (PW.sig c.steps [k]) := fun k hk => PL.sig_let hS3 (fun z hz => by rw [List.mem_singleton.mp hz]; exact hk)
    have ll : ∀ k, (PW.sig c.steps [k]).length ≤ 1000 := fun k => by
      have h1 := PW.sig_len c.steps [k]
      have h2 := PW.Psi_len c.steps [k]
      have h3 : 2 ^ c.steps.length ≤ 2 ^ 5 := Nat.pow_le_pow_right (by decide) hSl5
      rw [List.length_singleton, Nat.mul_one] at h2
      rw [h1]; exact Nat.le_trans h2 (Nat.le_trans h3 (by decide))
    refine' C2.assign2 (vs := us) (l := Dn) ?hh (figP c.figs) (C2.srcOf r0 r1 r2 u0 u1 u2) ?hsw ?hclos ?hcell ?hkind ?hnames ?hx ?hy ?hz ?hp FQ NQ ?hev ?hl ?hlen ?hsrc ?g1 ?g2 ?hs2 ?hs ?g3
    case hh => exact rfl
    case hsw => with_unfolding_all rfl
    case hclos => with_unfolding_all rfl
    case hcell => decide
    case hkind => with_unfolding_all rfl
    case hnames => decide
    case hx => with_unfolding_all rfl
    case hy => with_unfolding_all rfl
    case hz => with_unfolding_all rfl
    case hp => with_unfolding_all rfl
    case hs2 => intro _ _; with_unfolding_all rfl
    case hs => intro _; with_unfolding_all rfl
    case hlen => rw [hlu]; exact Nat.le_trans hnl (by decide)
    case hl => kmk_list
    case hev => intro Q' hq; exact nameX_L FQ rfl hq rfl rfl (by decide)
    case hsrc =>
      intro v hv
      obtain ⟨n, t, rfl, hn⟩ := ints_mem hIn v hv
      have e0 := hW0.length
      have e1 := hW1.length
      have e2 := hW2.length
      rcases C2.fmod3 n with e | e | e
      · simp only [C2.srcOf, e, if_true]
        exact ⟨NQ.isList (by k_mem), by rw [e0]; exact ll 0⟩
      · simp only [C2.srcOf, e]
        exact ⟨NQ.isList (by k_mem), by (show u1.length ≤ 1000); rw [e1]; exact ll 1⟩
      · simp only [C2.srcOf, e]
        exact ⟨NQ.isList (by k_mem), by (show u2.length ≤ 1000); rw [e2]; exact ll 2⟩
    case g1 =>
      intro C v s₂ m₂ E' hv hns hm F₂ N₂
      obtain ⟨n, t, rfl, hn⟩ := ints_mem hIn v hv
      exact C2.g1_words rfl (by with_unfolding_all rfl) (by with_unfolding_all rfl) ⟨_, N₂.get (by k_mem), dw⟩ (by with_unfolding_all rfl) hns hm (N₂.isList (by k_mem)) (by decide) (by decide)
    case g2 =>
      intro C v u s₂ m₂ E' hv hu hns hm F₂ N₂
      obtain ⟨n, t, rfl, hn⟩ := ints_mem hIn v hv
      obtain ⟨k, tk2, rfl, hkm⟩ := ints_mem (src_ints hW0 hW1 hW2 n t) u hu
      have hk3 := il _ (C2.fmod3 n) k hkm
      refine wpAny_mono (C2.g2_figs rfl (by with_unfolding_all rfl) (by with_unfolding_all rfl) ⟨_, N₂.get (by k_mem), df⟩ (by with_unfolding_all rfl) hns hm (N₂.isList (by k_mem)) hG1 (by omega) (by rw [hf3]; omega) (by omega) (by decide) (by decide)) (fun r s₃ q => ?_) (fun _ _ e => e)
      obtain ⟨⟨t', e⟩, q2⟩ := q
      exact ⟨⟨k, tk2, t', rfl, e⟩, q2⟩
    case g3 =>
      intro Dd zs nz h8 tk8 F8 N8 ho8 hPd
      have hdue := paired_ints (flat_ints hW0 hW1 hW2 hIn) hPd
      clear FQ NQ
      (try dsimp only)
      k_steps
      unfold Hold
      rename Fr _ _ _ _ => FQ
      rename News _ _ _ _ => NQ
      rename IntsAre (List.flatten _) _ => hR1
      rw [first_is] at hR1
      obtain ⟨v1, v2, v3⟩ := rep4_ok (figs := [62, 63, 53]) (let_of ns) (by rw [List.length_map]; exact Nat.le_trans hnl (by decide)) (by decide)
      k_dflt (refine' useX (c_octets _ _ _ _ ?cl hR1 v1 v2 v3) ?u1 FQ NQ ?u4 ?u5 ?u6 ?u7 ?u8 ?u9 ?u10 ?go4; (case cl => kmk_list); (case u1 => k_asm); (case u4 => k_asm); (case u5 => k_asm); (case u6 => exact rfl); (case u7 => exact rfl); (case u8 => exact rfl); (case u9 => exact Nat.le_of_ble_eq_true rfl); (case u10 => exact Nat.le_of_ble_eq_true rfl))
      rintro v9 h9 tk9 F9 N9 ⟨tb, rfl⟩
      clear FQ NQ
      (try dsimp only)
      k_steps
      unfold Hold
      rename Fr _ _ _ _ => FQ
      rename News _ _ _ _ => NQ
      have hPa := passesAt_of NQ (r := rest1) (by walk_at "my rest") hP1
      k_dflt (refine' useX (c_run _ _ _ vps c.passes _ ?cl hPa hAt.ok) ?u1 FQ NQ ?u4 ?u5 ?u6 ?u7 ?u8 ?u9 ?u10 ?go5; (case cl => kmk_list); (case u1 => k_asm); (case u4 => k_asm); (case u5 => k_asm); (case u6 => exact rfl); (case u7 => exact rfl); (case u8 => exact rfl); (case u9 => exact Nat.le_of_ble_eq_true rfl); (case u10 => exact Nat.le_of_ble_eq_true rfl))
      rintro v9 h9 tk9 F9 N9 ⟨tb2, rfl⟩
      clear FQ NQ hPa
      have hsigl : (PW.sig c.steps (ns.map fun x => x.fmod 3)).length ≤ 400 := by
        have h1 := PW.sig_len c.steps (ns.map fun x => x.fmod 3)
        have h2 := PW.Psi_len c.steps (ns.map fun x => x.fmod 3)
        have h3 : 2 ^ c.steps.length ≤ 2 ^ 5 := Nat.pow_le_pow_right (by decide) hSl5
        rw [List.length_map] at h2
        have h4 := Nat.mul_le_mul h3 hnl
        rw [h1]; exact Nat.le_trans h2 (Nat.le_trans h4 (by decide))
      have hzl : zs.length ≤ 400 := by rw [hdue.length, List.length_map]; exact hsigl
      have hml : (List.map (figOf c.figs) (PW.sig c.steps (ns.map fun x => x.fmod 3))).length ≤ 400 := by rw [List.length_map]; exact hsigl
      have hrun : runB (toB (octI (rep4 ((ns.map fun x => x.fmod 3).map (figOf [62, 63, 53]))))) c.passes = PL.row c.figs (PW.sig c.steps (ns.map fun x => x.fmod 3)) := hAt.run
      rw [hrun]
      (try dsimp only)
      k_steps
      unfold Hold
      rename Fr _ _ _ _ => FQ
      rename News _ _ _ _ => NQ
      rename IntsAre (List.flatten _) (List.flatten (List.replicate _ (List.map (figOf c.figs) _))) => hR2
      rw [rep_flat (List.map (figOf c.figs) _)] at hR2
      obtain ⟨x1, x2, x3⟩ := rep4_ok (figs := c.figs) (PL.sig_let hS3 (let_of ns)) hsigl (fun d hd => (PL.figIn _ (PL.in3 hAt.kind) _ hAt.figs d hd).2)
      k_dflt (refine' useX (c_octets _ _ _ _ ?cl hR2 x1 x2 x3) ?u1 FQ NQ ?u4 ?u5 ?u6 ?u7 ?u8 ?u9 ?u10 ?go6; (case cl => kmk_list); (case u1 => k_asm); (case u4 => k_asm); (case u5 => k_asm); (case u6 => exact rfl); (case u7 => exact rfl); (case u8 => exact rfl); (case u9 => exact Nat.le_of_ble_eq_true rfl); (case u10 => exact Nat.le_of_ble_eq_true rfl))
      rintro v9 h9 tk9 F9 N9 ⟨tb3, rfl⟩
      clear FQ NQ
      (try dsimp only)
      k_steps)
end
end Mine
theorem PySem.Challenge.cw_pa0041_01_holds : PySem.Challenge.rw_pa0041_01.Holds := by
  exact Mine.whole
