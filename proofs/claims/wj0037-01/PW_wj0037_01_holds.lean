import PyProof.Rows.All
import Wide.All
import OpenK.AllK
import Wide.FinOn
import Lean
import PySem.Challenge.RW_wj0037_01
open PySem PySem.W PyProof.Rows
set_option Elab.async false
set_option maxRecDepth 100000
set_option maxHeartbeats 100000000
set_option rowWalk.seconds 0
namespace Mine
set_option linter.unusedVariables false
set_option maxRecDepth 100000
set_option autoImplicit false
noncomputable def fnO (S : String → Str) (st : Option Stmt) (q md : String) (mt c : Nat) : Obj := match st with
  | some (.FunctionDef n args body _ _ _ scope _ _ _) => { cls := .type "function", data := .func { name := n, qualname := S q, params := args, body := .stmts body, scope := scope, globals := 3, closure := [], defaults := .none, kwdefaults := .none, pyModule := .str (S md) mt, code := .ref c } }
  | _ => default
noncomputable def atTop (p : Program) (i : Nat) : Option Stmt := p.main.body[i]?
noncomputable def clsBody : Option Stmt → List Stmt
  | some (.ClassDef _ _ _ body _ _ _ _ _ _ _) => body
  | _ => []
noncomputable def inCls (p : Program) (i : Nat) : Option Stmt := (clsBody p.main.body[2]?)[i]?
noncomputable def o2 (S : String → Str) (P : Params) : Obj := { cls := .none, data := .dict #[] }
noncomputable def o3 (S : String → Str) (P : Params) : Obj := { cls := .type "dict", data := .dict #[{ hash := PyData.keyHash P (S "__name__"), key := .str (S "__name__") 165, val := .str (S "law_wj0037_01") 422 }, { hash := PyData.keyHash P (S "__doc__"), key := .str (S "__doc__") 166, val := .none }, { hash := PyData.keyHash P (S "__package__"), key := .str (S "__package__") 167, val := .none }, { hash := PyData.keyHash P (S "__loader__"), key := .str (S "__loader__") 168, val := .builtin "__main__.__loader__#opaque" }, { hash := PyData.keyHash P (S "__spec__"), key := .str (S "__spec__") 169, val := .none }, { hash := PyData.keyHash P (S "__annotations__"), key := .str (S "__annotations__") 170, val := .ref 6 }, { hash := PyData.keyHash P (S "__builtins__"), key := .str (S "__builtins__") 171, val := .ref 4 }, { hash := PyData.keyHash P (S "__file__"), key := .str (S "__file__") 173, val := .str (S "/claim/cut.py") 172 }, { hash := PyData.keyHash P (S "__cached__"), key := .str (S "__cached__") 174, val := .none }, { hash := PyData.keyHash P (S "_wall"), key := .str (S "_wall") 193, val := .ref 21 }, { hash := PyData.keyHash P (S "Whitespace"), key := .str (S "Whitespace") 291, val := .ref 83 }, { hash := PyData.keyHash P (S "COMPILER_FLAG_NAMES"), key := .str (S "COMPILER_FLAG_NAMES") 324, val := .ref 88 }, { hash := PyData.keyHash P (S "pretty_flags"), key := .str (S "pretty_flags") 334, val := .ref 95 }, { hash := PyData.keyHash P (S "_parse_varint"), key := .str (S "_parse_varint") 343, val := .ref 102 }, { hash := PyData.keyHash P (S "add"), key := .str (S "add") 353, val := .ref 109 }, { hash := PyData.keyHash P (S "and_"), key := .str (S "and_") 361, val := .ref 116 }, { hash := PyData.keyHash P (S "floordiv"), key := .str (S "floordiv") 369, val := .ref 123 }, { hash := PyData.keyHash P (S "lshift"), key := .str (S "lshift") 377, val := .ref 130 }, { hash := PyData.keyHash P (S "mul"), key := .str (S "mul") 385, val := .ref 137 }, { hash := PyData.keyHash P (S "rshift"), key := .str (S "rshift") 393, val := .ref 144 }, { hash := PyData.keyHash P (S "sub"), key := .str (S "sub") 401, val := .ref 151 }, { hash := PyData.keyHash P (S "countOf"), key := .str (S "countOf") 411, val := .ref 158 }, { hash := PyData.keyHash P (S "indexOf"), key := .str (S "indexOf") 421, val := .ref 165 }, { hash := PyData.keyHash P (S "_law_played"), key := .str (S "_law_played") 429, val := .ref 170 }, { hash := PyData.keyHash P (S "_law_changed"), key := .str (S "_law_changed") 442, val := .ref 177 }, { hash := PyData.keyHash P (S "law"), key := .str (S "law") 448, val := .ref 182 }] 26 }
noncomputable def o37 (S : String → Str) (P : Params) : Obj := { cls := .type "code", data := .fields #[ .str (S "__init__") 213, .str (S "Whitespace.__init__") 214, .str (S "/claim/cut.py") 215, .int 8 0, .int 2 0, .int 0 0, .int 0 0, .int 3 0, .ref 32, .bool true, .int 181 0, .ref 33, .none, .ref 34, .ref 35, .ref 36, .int 225 0, .int 8 0, .str (S "/claim/cut.py") 226] }
noncomputable def o51 (S : String → Str) (P : Params) : Obj := { cls := .type "code", data := .fields #[ .str (S "indent_level") 235, .str (S "Whitespace.indent_level") 236, .str (S "/claim/cut.py") 237, .int 34 0, .int 2 0, .int 0 0, .int 0 0, .int 3 0, .ref 46, .bool true, .int 181 0, .ref 47, .none, .ref 48, .ref 49, .ref 50, .int 244 0, .int 34 0, .str (S "/claim/cut.py") 245] }
noncomputable def o82 (S : String → Str) (P : Params) : Obj := { cls := .type "dict", data := .dict #[{ hash := PyData.keyHash P (S "__module__"), key := .str (S "__module__") 203, val := .str (S "cpy313.tabnanny") 194 }, { hash := PyData.keyHash P (S "__firstlineno__"), key := .str (S "__firstlineno__") 207, val := .int 5 206 }, { hash := PyData.keyHash P (S "S"), key := .str (S "S") 211, val := .str (S " ") 209 }, { hash := PyData.keyHash P (S "T"), key := .str (S "T") 212, val := .str (S "\t") 210 }, { hash := PyData.keyHash P (S "__init__"), key := .str (S "__init__") 227, val := .ref 38 }, { hash := PyData.keyHash P (S "longest_run_of_spaces"), key := .str (S "longest_run_of_spaces") 234, val := .ref 45 }, { hash := PyData.keyHash P (S "indent_level"), key := .str (S "indent_level") 246, val := .ref 52 }, { hash := PyData.keyHash P (S "equal"), key := .str (S "equal") 254, val := .ref 59 }, { hash := PyData.keyHash P (S "not_equal_witness"), key := .str (S "not_equal_witness") 262, val := .ref 66 }, { hash := PyData.keyHash P (S "less"), key := .str (S "less") 270, val := .ref 73 }, { hash := PyData.keyHash P (S "not_less_witness"), key := .str (S "not_less_witness") 278, val := .ref 80 }, { hash := PyData.keyHash P (S "__static_attributes__"), key := .str (S "__static_attributes__") 284, val := .ref 81 }, { hash := PyData.keyHash P (S "__dict__"), key := .str (S "__dict__") 286, val := .ref 84 }, { hash := PyData.keyHash P (S "__weakref__"), key := .str (S "__weakref__") 288, val := .ref 85 }, { hash := PyData.keyHash P (S "__doc__"), key := .str (S "__doc__") 289, val := .none }] 4 }
noncomputable def o83 (S : String → Str) (P : Params) : Obj := { cls := .type "type", data := .cls { name := S "Whitespace", bases := [ .type "object"], mro := [ .ref 83, .type "object"], ns := 82, qualname := S "Whitespace" }, slots := #[none, none, some ( .str (S "Whitespace") 196), some ( .str (S "Whitespace") 204), some ( .builtin "object.__new__"), some ( .bool true)] }
noncomputable def o88 (S : String → Str) (P : Params) : Obj := { cls := .type "dict", data := .dict #[{ hash := 1, key := .int 1 294, val := .str (S "OPTIMIZED") 295 }, { hash := 2, key := .int 2 296, val := .str (S "NEWLOCALS") 297 }, { hash := 4, key := .int 4 298, val := .str (S "VARARGS") 299 }, { hash := 8, key := .int 8 300, val := .str (S "VARKEYWORDS") 301 }, { hash := 16, key := .int 16 302, val := .str (S "NESTED") 303 }, { hash := 32, key := .int 32 304, val := .str (S "GENERATOR") 305 }, { hash := 64, key := .int 64 306, val := .str (S "NOFREE") 307 }, { hash := 128, key := .int 128 308, val := .str (S "COROUTINE") 309 }, { hash := 256, key := .int 256 310, val := .str (S "ITERABLE_COROUTINE") 311 }, { hash := 512, key := .int 512 312, val := .str (S "ASYNC_GENERATOR") 313 }] 10 }
noncomputable def o94 (S : String → Str) (P : Params) : Obj := { cls := .type "code", data := .fields #[ .str (S "pretty_flags") 325, .str (S "pretty_flags") 326, .str (S "/claim/cut.py") 327, .int 54 0, .int 1 0, .int 0 0, .int 0 0, .int 3 0, .ref 89, .bool true, .int 181 0, .ref 90, .none, .ref 91, .ref 92, .ref 93, .int 332 0, .int 54 0, .str (S "/claim/cut.py") 333] }
noncomputable def o101 (S : String → Str) (P : Params) : Obj := { cls := .type "code", data := .fields #[ .str (S "_parse_varint") 335, .str (S "_parse_varint") 336, .str (S "/claim/cut.py") 337, .int 66 0, .int 1 0, .int 0 0, .int 0 0, .int 3 0, .ref 96, .bool true, .int 181 0, .ref 97, .none, .ref 98, .ref 99, .ref 100, .int 341 0, .int 66 0, .str (S "/claim/cut.py") 342] }
noncomputable def o108 (S : String → Str) (P : Params) : Obj := { cls := .type "code", data := .fields #[ .str (S "add") 346, .str (S "add") 347, .str (S "/claim/cut.py") 348, .int 75 0, .int 2 0, .int 0 0, .int 0 0, .int 3 0, .ref 103, .bool true, .int 181 0, .ref 104, .none, .ref 105, .ref 106, .ref 107, .int 351 0, .int 75 0, .str (S "/claim/cut.py") 352] }
noncomputable def o115 (S : String → Str) (P : Params) : Obj := { cls := .type "code", data := .fields #[ .str (S "and_") 354, .str (S "and_") 355, .str (S "/claim/cut.py") 356, .int 77 0, .int 2 0, .int 0 0, .int 0 0, .int 3 0, .ref 110, .bool true, .int 181 0, .ref 111, .none, .ref 112, .ref 113, .ref 114, .int 359 0, .int 77 0, .str (S "/claim/cut.py") 360] }
noncomputable def o122 (S : String → Str) (P : Params) : Obj := { cls := .type "code", data := .fields #[ .str (S "floordiv") 362, .str (S "floordiv") 363, .str (S "/claim/cut.py") 364, .int 79 0, .int 2 0, .int 0 0, .int 0 0, .int 3 0, .ref 117, .bool true, .int 181 0, .ref 118, .none, .ref 119, .ref 120, .ref 121, .int 367 0, .int 79 0, .str (S "/claim/cut.py") 368] }
noncomputable def o129 (S : String → Str) (P : Params) : Obj := { cls := .type "code", data := .fields #[ .str (S "lshift") 370, .str (S "lshift") 371, .str (S "/claim/cut.py") 372, .int 81 0, .int 2 0, .int 0 0, .int 0 0, .int 3 0, .ref 124, .bool true, .int 181 0, .ref 125, .none, .ref 126, .ref 127, .ref 128, .int 375 0, .int 81 0, .str (S "/claim/cut.py") 376] }
noncomputable def o136 (S : String → Str) (P : Params) : Obj := { cls := .type "code", data := .fields #[ .str (S "mul") 378, .str (S "mul") 379, .str (S "/claim/cut.py") 380, .int 83 0, .int 2 0, .int 0 0, .int 0 0, .int 3 0, .ref 131, .bool true, .int 181 0, .ref 132, .none, .ref 133, .ref 134, .ref 135, .int 383 0, .int 83 0, .str (S "/claim/cut.py") 384] }
noncomputable def o143 (S : String → Str) (P : Params) : Obj := { cls := .type "code", data := .fields #[ .str (S "rshift") 386, .str (S "rshift") 387, .str (S "/claim/cut.py") 388, .int 85 0, .int 2 0, .int 0 0, .int 0 0, .int 3 0, .ref 138, .bool true, .int 181 0, .ref 139, .none, .ref 140, .ref 141, .ref 142, .int 391 0, .int 85 0, .str (S "/claim/cut.py") 392] }
noncomputable def o150 (S : String → Str) (P : Params) : Obj := { cls := .type "code", data := .fields #[ .str (S "sub") 394, .str (S "sub") 395, .str (S "/claim/cut.py") 396, .int 87 0, .int 2 0, .int 0 0, .int 0 0, .int 3 0, .ref 145, .bool true, .int 181 0, .ref 146, .none, .ref 147, .ref 148, .ref 149, .int 399 0, .int 87 0, .str (S "/claim/cut.py") 400] }
noncomputable def o157 (S : String → Str) (P : Params) : Obj := { cls := .type "code", data := .fields #[ .str (S "countOf") 402, .str (S "countOf") 403, .str (S "/claim/cut.py") 404, .int 89 0, .int 2 0, .int 0 0, .int 0 0, .int 3 0, .ref 152, .bool true, .int 181 0, .ref 153, .none, .ref 154, .ref 155, .ref 156, .int 409 0, .int 89 0, .str (S "/claim/cut.py") 410] }
noncomputable def o164 (S : String → Str) (P : Params) : Obj := { cls := .type "code", data := .fields #[ .str (S "indexOf") 412, .str (S "indexOf") 413, .str (S "/claim/cut.py") 414, .int 95 0, .int 2 0, .int 0 0, .int 0 0, .int 3 0, .ref 159, .bool true, .int 181 0, .ref 160, .none, .ref 161, .ref 162, .ref 163, .int 419 0, .int 95 0, .str (S "/claim/cut.py") 420] }
noncomputable def o169 (S : String → Str) (P : Params) : Obj := { cls := .type "code", data := .fields #[ .str (S "_law_played") 424, .str (S "_law_played") 425, .str (S "/claim/cut.py") 426, .int 102 0, .int 3 0, .int 0 0, .int 0 0, .int 3 0, .ref 166, .bool true, .int 181 0, .ref 167, .none, .none, .none, .ref 168, .int 427 0, .int 102 0, .str (S "/claim/cut.py") 428] }
noncomputable def o176 (S : String → Str) (P : Params) : Obj := { cls := .type "code", data := .fields #[ .str (S "_law_changed") 430, .str (S "_law_changed") 431, .str (S "/claim/cut.py") 432, .int 123 0, .int 2 0, .int 0 0, .int 0 0, .int 3 0, .ref 171, .bool true, .int 181 0, .ref 172, .none, .ref 173, .ref 174, .ref 175, .int 440 0, .int 123 0, .str (S "/claim/cut.py") 441] }
noncomputable def o181 (S : String → Str) (P : Params) : Obj := { cls := .type "code", data := .fields #[ .str (S "law") 443, .str (S "law") 444, .str (S "/claim/cut.py") 445, .int 132 0, .int 1 0, .int 0 0, .int 0 0, .int 3 0, .ref 178, .bool true, .int 181 0, .ref 179, .none, .none, .none, .ref 180, .int 446 0, .int 132 0, .str (S "/claim/cut.py") 447] }
noncomputable def hd.heap_39 : Params → Frag := fun P => (nat_lit 2, o2 Str.ofString P) :: (nat_lit 3, o3 Str.ofString P) :: (nat_lit 37, o37 Str.ofString P) :: (nat_lit 38, fnO Str.ofString (inCls PySem.Challenge.pw_wj0037_01 1) "Whitespace.__init__" "cpy313.tabnanny" 194 37) :: (nat_lit 51, o51 Str.ofString P) :: (nat_lit 52, fnO Str.ofString (inCls PySem.Challenge.pw_wj0037_01 3) "Whitespace.indent_level" "cpy313.tabnanny" 194 51) :: (nat_lit 82, o82 Str.ofString P) :: (nat_lit 83, o83 Str.ofString P) :: (nat_lit 88, o88 Str.ofString P) :: (nat_lit 94, o94 Str.ofString P) :: (nat_lit 95, fnO Str.ofString (atTop PySem.Challenge.pw_wj0037_01 5) "pretty_flags" "cpy313.dis" 292 94) :: (nat_lit 101, o101 Str.ofString P) :: (nat_lit 102, fnO Str.ofString (atTop PySem.Challenge.pw_wj0037_01 6) "_parse_varint" "cpy313.dis" 292 101) :: (nat_lit 108, o108 Str.ofString P) :: (nat_lit 109, fnO Str.ofString (atTop PySem.Challenge.pw_wj0037_01 8) "add" "cpy313.operator" 344 108) :: (nat_lit 115, o115 Str.ofString P) :: (nat_lit 116, fnO Str.ofString (atTop PySem.Challenge.pw_wj0037_01 9) "and_" "cpy313.operator" 344 115) :: (nat_lit 122, o122 Str.ofString P) :: (nat_lit 123, fnO Str.ofString (atTop PySem.Challenge.pw_wj0037_01 10) "floordiv" "cpy313.operator" 344 122) :: (nat_lit 129, o129 Str.ofString P) :: (nat_lit 130, fnO Str.ofString (atTop PySem.Challenge.pw_wj0037_01 11) "lshift" "cpy313.operator" 344 129) :: (nat_lit 136, o136 Str.ofString P) :: (nat_lit 137, fnO Str.ofString (atTop PySem.Challenge.pw_wj0037_01 12) "mul" "cpy313.operator" 344 136) :: (nat_lit 143, o143 Str.ofString P) :: (nat_lit 144, fnO Str.ofString (atTop PySem.Challenge.pw_wj0037_01 13) "rshift" "cpy313.operator" 344 143) :: (nat_lit 150, o150 Str.ofString P) :: (nat_lit 151, fnO Str.ofString (atTop PySem.Challenge.pw_wj0037_01 14) "sub" "cpy313.operator" 344 150) :: (nat_lit 157, o157 Str.ofString P) :: (nat_lit 158, fnO Str.ofString (atTop PySem.Challenge.pw_wj0037_01 15) "countOf" "cpy313.operator" 344 157) :: (nat_lit 164, o164 Str.ofString P) :: (nat_lit 165, fnO Str.ofString (atTop PySem.Challenge.pw_wj0037_01 16) "indexOf" "cpy313.operator" 344 164) :: (nat_lit 169, o169 Str.ofString P) :: (nat_lit 170, fnO Str.ofString (atTop PySem.Challenge.pw_wj0037_01 18) "_law_played" "law_wj0037_01" 422 169) :: (nat_lit 176, o176 Str.ofString P) :: (nat_lit 177, fnO Str.ofString (atTop PySem.Challenge.pw_wj0037_01 19) "_law_changed" "law_wj0037_01" 422 176) :: (nat_lit 181, o181 Str.ofString P) :: (nat_lit 182, fnO Str.ofString (atTop PySem.Challenge.pw_wj0037_01 20) "law" "law_wj0037_01" 422 181) :: []
noncomputable def heapF (p : Program) (S : String → Str) (P : Params) : Frag := (nat_lit 2, o2 S P) :: (nat_lit 3, o3 S P) :: (nat_lit 37, o37 S P) :: (nat_lit 38, fnO S (inCls p 1) "Whitespace.__init__" "cpy313.tabnanny" 194 37) :: (nat_lit 51, o51 S P) :: (nat_lit 52, fnO S (inCls p 3) "Whitespace.indent_level" "cpy313.tabnanny" 194 51) :: (nat_lit 82, o82 S P) :: (nat_lit 83, o83 S P) :: (nat_lit 88, o88 S P) :: (nat_lit 94, o94 S P) :: (nat_lit 95, fnO S (atTop p 5) "pretty_flags" "cpy313.dis" 292 94) :: (nat_lit 101, o101 S P) :: (nat_lit 102, fnO S (atTop p 6) "_parse_varint" "cpy313.dis" 292 101) :: (nat_lit 108, o108 S P) :: (nat_lit 109, fnO S (atTop p 8) "add" "cpy313.operator" 344 108) :: (nat_lit 115, o115 S P) :: (nat_lit 116, fnO S (atTop p 9) "and_" "cpy313.operator" 344 115) :: (nat_lit 122, o122 S P) :: (nat_lit 123, fnO S (atTop p 10) "floordiv" "cpy313.operator" 344 122) :: (nat_lit 129, o129 S P) :: (nat_lit 130, fnO S (atTop p 11) "lshift" "cpy313.operator" 344 129) :: (nat_lit 136, o136 S P) :: (nat_lit 137, fnO S (atTop p 12) "mul" "cpy313.operator" 344 136) :: (nat_lit 143, o143 S P) :: (nat_lit 144, fnO S (atTop p 13) "rshift" "cpy313.operator" 344 143) :: (nat_lit 150, o150 S P) :: (nat_lit 151, fnO S (atTop p 14) "sub" "cpy313.operator" 344 150) :: (nat_lit 157, o157 S P) :: (nat_lit 158, fnO S (atTop p 15) "countOf" "cpy313.operator" 344 157) :: (nat_lit 164, o164 S P) :: (nat_lit 165, fnO S (atTop p 16) "indexOf" "cpy313.operator" 344 164) :: (nat_lit 169, o169 S P) :: (nat_lit 170, fnO S (atTop p 18) "_law_played" "law_wj0037_01" 422 169) :: (nat_lit 176, o176 S P) :: (nat_lit 177, fnO S (atTop p 19) "_law_changed" "law_wj0037_01" 422 176) :: (nat_lit 181, o181 S P) :: (nat_lit 182, fnO S (atTop p 20) "law" "law_wj0037_01" 422 181) :: []
theorem heap_eq (P : Params) : hd.heap_39 P = heapF PySem.Challenge.pw_wj0037_01 Str.ofString P := rfl
noncomputable def addrs : List Addr := [2, 3, 37, 38, 51, 52, 82, 83, 88, 94, 95, 101, 102, 108, 109, 115, 116, 122, 123, 129, 130, 136, 137, 143, 144, 150, 151, 157, 158, 164, 165, 169, 170, 176, 177, 181, 182]
end Mine

open PySem.Calls PySem.Spec
namespace Mine
theorem fill_top (w : World) (h : Heap) : (Mine.hd.heap_39 w.params).In h → PySem.Challenge.rw_wj0037_01.row = PySem.Challenge.rw_wj0037_01.row → True := by
  k_fill
  intro _ _; trivial
local macro_rules | `(tactic| walk_at "STEP") => `(tactic| (first | (k_unfold; (try dsimp only)) | (k_end; wrow_close) | walk1 | (dsimp only; walk1) | (leave1; walk_say "STEP leave1"; try dsimp only) | fail "no step"))
section part2
/-- the hole k's stones -/
noncomputable def at' (h : List Int) (k : Int) : Int := h.getD k.toNat 0
noncomputable def ready (h : List Int) : List Int := [1, 2, 3, 4, 5, 6].filter fun k => at' h k == k
/-- hole k emptied: one stone to each place below -/
noncomputable def sow (h : List Int) (k : Int) : List Int :=
  match h with
  | [a0, a1, a2, a3, a4, a5, a6, a7] =>
    if k = 1 then [a0 + 1, a1 - 1, a2, a3, a4, a5, a6, a7]
    else if k = 2 then [a0 + 1, a1 + 1, a2 - 2, a3, a4, a5, a6, a7]
    else if k = 3 then [a0 + 1, a1 + 1, a2 + 1, a3 - 3, a4, a5, a6, a7]
    else if k = 4 then [a0 + 1, a1 + 1, a2 + 1, a3 + 1, a4 - 4, a5, a6, a7]
    else if k = 5 then [a0 + 1, a1 + 1, a2 + 1, a3 + 1, a4 + 1, a5 - 5, a6, a7]
    else if k = 6 then [a0 + 1, a1 + 1, a2 + 1, a3 + 1, a4 + 1, a5 + 1, a6 - 6, a7]
    else h
  | _ => h
noncomputable def pick (odd t : Int) (r : List Int) : Int := if t = odd then r.getLastD 0 else r.headD 0
noncomputable def run (odd : Int) : Nat → Int → List Int → List Int → Bool → List Int × List Int × Bool
  | 0, _, h, e, a => (h, e, a)
  | n + 1, t, h, e, a =>
    if ready h = [] then (h, e, a)
    else run odd n (t + 1) (sow h (pick odd t (ready h))) (e ++ [pick odd t (ready h)]) (a || pick odd t (ready h) != (ready h).headD 0)
noncomputable def enc (h : List Int) : Int :=
  match h with
  | [a0, a1, a2, a3, a4, a5, a6, a7] => a0 + 64 * a1 + 4096 * a2 + 262144 * a3 + 16777216 * a4 + 1073741824 * a5 + 68719476736 * a6 + 4398046511104 * a7
  | _ => 0
/-- blanks at tab sizes -/
noncomputable def blk (s : Int) : Nat → Int
  | 0 => s
  | n + 1 => ((n : Int) + 1) * (blk s n / ((n : Int) + 1))
noncomputable def bd (s f : Int) : List Int := [f, blk s 1 - blk s 2, blk s 2 - blk s 3, blk s 3 - blk s 4, blk s 4 - blk s 5, blk s 5 - blk s 6, blk s 6 - blk s 7, f]
/-- a board as it may stand -/
noncomputable def Fair (s f : Int) (h : List Int) : Prop :=
  ∃ a0 a1 a2 a3 a4 a5 a6, h = [a0, a1, a2, a3, a4, a5, a6, f] ∧ 0 ≤ a0 ∧ 0 ≤ a1 ∧ 0 ≤ a2 ∧ 0 ≤ a3 ∧ 0 ≤ a4 ∧ 0 ≤ a5 ∧ 0 ≤ a6 ∧ a1 + a2 + a3 + a4 + a5 + a6 = s
noncomputable def six (h : List Int) : List Int := (h.drop 1).take 6
noncomputable def kay (s : Nat) : Int := (ready (bd s 0)).headD 0

theorem nat8 : ∀ k : Nat, k < 8 → k = 0 ∨ k = 1 ∨ k = 2 ∨ k = 3 ∨ k = 4 ∨ k = 5 ∨ k = 6 ∨ k = 7 := by decide
theorem int6 {k : Int} (h : 1 ≤ k ∧ k < 7) : k = 1 ∨ k = 2 ∨ k = 3 ∨ k = 4 ∨ k = 5 ∨ k = 6 := by
  have key : ∀ n : Nat, n < 6 → ((n : Int) + 1 = 1 ∨ (n : Int) + 1 = 2 ∨ (n : Int) + 1 = 3 ∨ (n : Int) + 1 = 4 ∨ (n : Int) + 1 = 5 ∨ (n : Int) + 1 = 6) := by decide
  have e : (((k - 1).toNat : Nat) : Int) + 1 = k := by omega
  exact e ▸ key (k - 1).toNat (by omega)
theorem mem6 {k : Int} (h : 1 ≤ k ∧ k < 7) : k ∈ ([1, 2, 3, 4, 5, 6] : List Int) := by
  rcases int6 h with rfl | rfl | rfl | rfl | rfl | rfl <;> decide
theorem zero2 {a b : Int} (ha : 0 ≤ a) (hb : 0 ≤ b) (e : a + b = 0) : a = 0 ∧ b = 0 := by omega
theorem bd_ok : ∀ s : Nat, s < 16 → s ≠ 0 → six (sow (bd s 0) (kay s)) = six (bd ((s - 1 : Nat) : Int) 0) ∧ 1 ≤ kay s ∧ kay s ≤ 6 ∧ at' (bd s 0) (kay s) = kay s := by decide +kernel
theorem ready_mem {h : List Int} {k : Int} (hk : k ∈ ready h) : (k = 1 ∨ k = 2 ∨ k = 3 ∨ k = 4 ∨ k = 5 ∨ k = 6) ∧ at' h k = k := by
  unfold ready at hk
  rw [List.mem_filter] at hk
  obtain ⟨h1, h2⟩ := hk
  refine ⟨by simpa using h1, by simpa using h2⟩
theorem ready_rng {h : List Int} {k : Int} (hk : k ∈ ready h) : 1 ≤ k ∧ k < 7 := by
  rcases (ready_mem hk).1 with rfl | rfl | rfl | rfl | rfl | rfl <;> decide
theorem getLastD_mem {r : List Int} (h : r ≠ []) : r.getLastD 0 ∈ r := by
  cases r with
  | nil => exact absurd rfl h
  | cons a l => rw [List.getLastD_cons]; exact List.getLastD_mem_cons
theorem headD_mem {r : List Int} (h : r ≠ []) : r.headD 0 ∈ r := by
  cases r with
  | nil => exact absurd rfl h
  | cons a l => exact List.mem_cons_self
theorem pick_mem {odd t : Int} {r : List Int} (h : r ≠ []) : pick odd t r ∈ r := by
  unfold pick
  split
  · exact getLastD_mem h
  · exact headD_mem h
theorem fair_of {s f a0 a1 a2 a3 a4 a5 a6 : Int} (h0 : 0 ≤ a0) (h1 : 0 ≤ a1) (h2 : 0 ≤ a2) (h3 : 0 ≤ a3) (h4 : 0 ≤ a4) (h5 : 0 ≤ a5) (h6 : 0 ≤ a6) (e : a1 + a2 + a3 + a4 + a5 + a6 = s) : Fair s f [a0, a1, a2, a3, a4, a5, a6, f] :=
  ⟨_, _, _, _, _, _, _, rfl, h0, h1, h2, h3, h4, h5, h6, e⟩
theorem up1 {a : Int} (h : 0 ≤ a) : 0 ≤ a + 1 := Int.le_add_one h
theorem off_self {a k : Int} (h : a = k) : 0 ≤ a - k := by rw [h, Int.sub_self]; exact Int.le_refl 0
theorem sow_fair {s f : Int} {h : List Int} (F : Fair s f h) {k : Int} (hk : k ∈ ready h) : Fair (s - 1) f (sow h k) ∧ at' (sow h k) 0 = at' h 0 + 1 := by
  obtain ⟨h1, h2⟩ := ready_mem hk
  obtain ⟨a0, a1, a2, a3, a4, a5, a6, rfl, p0, p1, p2, p3, p4, p5, p6, hs⟩ := F
  rcases h1 with rfl | rfl | rfl | rfl | rfl | rfl
  · exact ⟨fair_of (up1 p0) (off_self h2) p2 p3 p4 p5 p6 (by clear h2 p0 p1 p2 p3 p4 p5 p6; omega), rfl⟩
  · exact ⟨fair_of (up1 p0) (up1 p1) (off_self h2) p3 p4 p5 p6 (by clear h2 p0 p1 p2 p3 p4 p5 p6; omega), rfl⟩
  · exact ⟨fair_of (up1 p0) (up1 p1) (up1 p2) (off_self h2) p4 p5 p6 (by clear h2 p0 p1 p2 p3 p4 p5 p6; omega), rfl⟩
  · exact ⟨fair_of (up1 p0) (up1 p1) (up1 p2) (up1 p3) (off_self h2) p5 p6 (by clear h2 p0 p1 p2 p3 p4 p5 p6; omega), rfl⟩
  · exact ⟨fair_of (up1 p0) (up1 p1) (up1 p2) (up1 p3) (up1 p4) (off_self h2) p6 (by clear h2 p0 p1 p2 p3 p4 p5 p6; omega), rfl⟩
  · exact ⟨fair_of (up1 p0) (up1 p1) (up1 p2) (up1 p3) (up1 p4) (up1 p5) (off_self h2) (by clear h2 p0 p1 p2 p3 p4 p5 p6; omega), rfl⟩
theorem six_eq {a0 a1 a2 a3 a4 a5 a6 a7 : Int} : six [a0, a1, a2, a3, a4, a5, a6, a7] = [a1, a2, a3, a4, a5, a6] := rfl
/-- the play taken back -/
noncomputable def uns (h : List Int) (k : Int) : List Int :=
  match h with
  | [a1, a2, a3, a4, a5, a6] =>
    if k = 1 then [a1 + 1, a2, a3, a4, a5, a6]
    else if k = 2 then [a1 - 1, a2 + 2, a3, a4, a5, a6]
    else if k = 3 then [a1 - 1, a2 - 1, a3 + 3, a4, a5, a6]
    else if k = 4 then [a1 - 1, a2 - 1, a3 - 1, a4 + 4, a5, a6]
    else if k = 5 then [a1 - 1, a2 - 1, a3 - 1, a4 - 1, a5 + 5, a6]
    else [a1 - 1, a2 - 1, a3 - 1, a4 - 1, a5 - 1, a6 + 6]
  | _ => h
theorem uns_ok : ∀ s : Nat, s < 16 → s ≠ 0 → ∀ k ∈ ([1, 2, 3, 4, 5, 6] : List Int), (∀ a ∈ uns (six (bd ((s - 1 : Nat) : Int) 0)) k, 0 ≤ a) → at' (0 :: uns (six (bd ((s - 1 : Nat) : Int) 0)) k) k = k →
    uns (six (bd ((s - 1 : Nat) : Int) 0)) k = six (bd (s : Int) 0) ∧ k = kay s := by decide +kernel
theorem sub1 (a : Int) : a + 1 - 1 = a := Int.add_sub_cancel a 1
theorem uns_sow (a0 a1 a2 a3 a4 a5 a6 f : Int) {k : Int} (hk : k ∈ ([1, 2, 3, 4, 5, 6] : List Int)) : uns (six (sow [a0, a1, a2, a3, a4, a5, a6, f] k)) k = [a1, a2, a3, a4, a5, a6] := by
  simp only [List.mem_cons, List.not_mem_nil, or_false] at hk
  rcases hk with rfl | rfl | rfl | rfl | rfl | rfl
  · show [a1 - 1 + 1, _, _, _, _, _] = _
    rw [Int.sub_add_cancel]
  · show [a1 + 1 - 1, a2 - 2 + 2, _, _, _, _] = _
    rw [Int.sub_add_cancel, sub1]
  · show [a1 + 1 - 1, a2 + 1 - 1, a3 - 3 + 3, _, _, _] = _
    rw [Int.sub_add_cancel, sub1, sub1]
  · show [a1 + 1 - 1, a2 + 1 - 1, a3 + 1 - 1, a4 - 4 + 4, _, _] = _
    rw [Int.sub_add_cancel, sub1, sub1, sub1]
  · show [a1 + 1 - 1, a2 + 1 - 1, a3 + 1 - 1, a4 + 1 - 1, a5 - 5 + 5, _] = _
    rw [Int.sub_add_cancel, sub1, sub1, sub1, sub1]
  · show [a1 + 1 - 1, a2 + 1 - 1, a3 + 1 - 1, a4 + 1 - 1, a5 + 1 - 1, a6 - 6 + 6] = _
    rw [Int.sub_add_cancel, sub1, sub1, sub1, sub1, sub1]
theorem at_six {a0 a1 a2 a3 a4 a5 a6 f : Int} {k : Int} (hk : k ∈ ([1, 2, 3, 4, 5, 6] : List Int)) : at' [0, a1, a2, a3, a4, a5, a6] k = at' [a0, a1, a2, a3, a4, a5, a6, f] k := by
  simp only [List.mem_cons, List.not_mem_nil, or_false] at hk
  rcases hk with rfl | rfl | rfl | rfl | rfl | rfl <;> rfl
/-- from which board a play leads to the cleared one's successor -/
theorem back (s : Nat) (hs : s < 16) (h0 : s ≠ 0) {f : Int} {h : List Int} (F : Fair s f h) {k : Int} (hk : k ∈ ready h) (e : six (sow h k) = six (bd ((s - 1 : Nat) : Int) 0)) :
    six h = six (bd (s : Int) 0) ∧ k = kay s := by
  have hk6 : k ∈ ([1, 2, 3, 4, 5, 6] : List Int) := (List.mem_filter.mp hk).1
  have hk2 := (ready_mem hk).2
  obtain ⟨a0, a1, a2, a3, a4, a5, a6, rfl, p0, p1, p2, p3, p4, p5, p6, hs'⟩ := F
  have u := uns_sow a0 a1 a2 a3 a4 a5 a6 f hk6
  rw [e] at u
  have := uns_ok s hs h0 k hk6
  rw [u] at this
  refine this ?_ ((at_six hk6).trans hk2)
  exact List.forall_mem_cons.mpr ⟨p1, List.forall_mem_cons.mpr ⟨p2, List.forall_mem_cons.mpr ⟨p3, List.forall_mem_cons.mpr ⟨p4, List.forall_mem_cons.mpr ⟨p5, List.forall_mem_cons.mpr ⟨p6, List.forall_mem_nil _⟩⟩⟩⟩⟩⟩
theorem run_succ (odd : Int) (n : Nat) (t : Int) (h e : List Int) (a : Bool) : run odd (n + 1) t h e a =
    if ready h = [] then (h, e, a)
    else run odd n (t + 1) (sow h (pick odd t (ready h))) (e ++ [pick odd t (ready h)]) (a || pick odd t (ready h) != (ready h).headD 0) := rfl
/-- astray stays astray -/
theorem run_true (odd : Int) : ∀ (n : Nat) (t : Int) (h e : List Int), (run odd n t h e true).2.2 = true
  | 0, _, _, _ => rfl
  | n + 1, t, h, e => by
    rw [run_succ]
    split
    · rfl
    · rw [Bool.true_or]; exact run_true odd n _ _ _
theorem run_fair (odd : Int) {f : Int} : ∀ (n : Nat) (t : Int) (h e : List Int) (a : Bool) (s : Int), Fair s f h → ∃ s', Fair s' f (run odd n t h e a).1 ∧ at' (run odd n t h e a).1 0 + s' = at' h 0 + s
  | 0, _, h, _, _, s, F => ⟨s, F, rfl⟩
  | n + 1, t, h, e, a, s, F => by
    rw [run_succ]
    split
    · exact ⟨s, F, rfl⟩
    · rename_i hr
      have S := sow_fair F (pick_mem (odd := odd) (t := t) hr)
      obtain ⟨s', F', e'⟩ := run_fair odd n (t + 1) _ (e ++ [pick odd t (ready h)]) (a || pick odd t (ready h) != (ready h).headD 0) _ S.1
      exact ⟨s', F', by rw [e', S.2]; omega⟩
noncomputable def Bare (h : List Int) : Prop := six h = [0, 0, 0, 0, 0, 0]
theorem bare0 {f : Int} {h : List Int} (F : Fair 0 f h) : Bare h := by
  obtain ⟨a0, a1, a2, a3, a4, a5, a6, rfl, p0, p1, p2, p3, p4, p5, p6, hs⟩ := F
  have q2 := Int.add_nonneg p1 p2
  have q3 := Int.add_nonneg q2 p3
  have q4 := Int.add_nonneg q3 p4
  have q5 := Int.add_nonneg q4 p5
  have z5 := zero2 q5 p6 hs
  have z4 := zero2 q4 p5 z5.1
  have z3 := zero2 q3 p4 z4.1
  have z2 := zero2 q2 p3 z3.1
  have z1 := zero2 p1 p2 z2.1
  show [a1, a2, a3, a4, a5, a6] = _
  rw [z1.1, z1.2, z2.2, z3.2, z4.2, z5.2]
theorem bare_sum {s f : Int} {h : List Int} (F : Fair s f h) (B : Bare h) : s = 0 := by
  obtain ⟨a0, a1, a2, a3, a4, a5, a6, rfl, p0, p1, p2, p3, p4, p5, p6, hs⟩ := F
  simp [Bare, six] at B; omega
theorem bd0 : six (bd ((0 : Nat) : Int) 0) = [0, 0, 0, 0, 0, 0] := by decide +kernel
theorem ready_six {h : List Int} {s f : Int} (F : Fair s f h) {h' : List Int} {s' f' : Int} (F' : Fair s' f' h') (e : six h = six h') : ready h = ready h' := by
  obtain ⟨a0, a1, a2, a3, a4, a5, a6, rfl, _⟩ := F
  obtain ⟨b0, b1, b2, b3, b4, b5, b6, rfl, _⟩ := F'
  cases e
  rfl
theorem bd_fair : ∀ s : Nat, s < 16 → Fair (s : Int) 0 (bd (s : Int) 0) := by
  have key : ∀ s : Nat, s < 16 → ((∀ a ∈ bd (s : Int) 0, 0 ≤ a) ∧ (six (bd (s : Int) 0)).foldl (· + ·) 0 = (s : Int)) := by decide +kernel
  intro s hs
  obtain ⟨h1, h2⟩ := key s hs
  have e (a1 a2 a3 a4 a5 a6 : Int) : 0 + a1 + a2 + a3 + a4 + a5 + a6 = a1 + a2 + a3 + a4 + a5 + a6 := by rw [Int.zero_add]
  obtain ⟨h0, h1⟩ := List.forall_mem_cons.mp h1
  obtain ⟨p1, h1⟩ := List.forall_mem_cons.mp h1
  obtain ⟨p2, h1⟩ := List.forall_mem_cons.mp h1
  obtain ⟨p3, h1⟩ := List.forall_mem_cons.mp h1
  obtain ⟨p4, h1⟩ := List.forall_mem_cons.mp h1
  obtain ⟨p5, h1⟩ := List.forall_mem_cons.mp h1
  obtain ⟨p6, h1⟩ := List.forall_mem_cons.mp h1
  exact fair_of h0 p1 p2 p3 p4 p5 p6 ((e _ _ _ _ _ _).symm.trans h2)
theorem bare_ready {s f : Int} {h : List Int} (F : Fair s f h) (B : Bare h) : ready h = [] := by
  rw [ready_six F (bd_fair 0 (by decide)) (B.trans bd0.symm)]
  decide +kernel
theorem sow_six {h : List Int} {s f : Int} (F : Fair s f h) {h' : List Int} {s' f' : Int} (F' : Fair s' f' h') (e : six h = six h') {k : Int} (hk : 1 ≤ k ∧ k < 7) : six (sow h k) = six (sow h' k) := by
  obtain ⟨a0, a1, a2, a3, a4, a5, a6, rfl, _⟩ := F
  obtain ⟨b0, b1, b2, b3, b4, b5, b6, rfl, _⟩ := F'
  cases e
  rcases int6 hk with rfl | rfl | rfl | rfl | rfl | rfl <;> rfl
theorem win_only (odd : Int) {f : Int} : ∀ (n : Nat) (t : Int) (h e : List Int) (a : Bool) (s : Nat), Fair s f h → s < 16 → s ≤ n → Bare (run odd n t h e a).1 →
    six h = six (bd (s : Int) 0) ∧ (run odd n t h e a).2.2 = a
  | 0, t, h, e, a, s, F, hs, hn, B => by
    have : s = 0 := by omega
    subst this
    exact ⟨(bare0 F).trans bd0.symm, rfl⟩
  | n + 1, t, h, e, a, s, F, hs, hn, B => by
    rw [run_succ] at B ⊢
    by_cases hr : ready h = []
    · rw [if_pos hr] at B ⊢
      have h0 := bare_sum F B
      have : s = 0 := by omega
      subst this
      exact ⟨B.trans bd0.symm, rfl⟩
    · rw [if_neg hr] at B ⊢
      have hp := pick_mem (odd := odd) (t := t) hr
      have S := (sow_fair F hp).1
      have hne : s ≠ 0 := by
        rintro rfl
        exact hr (bare_ready F (bare0 F))
      have es : ((s : Int) - 1) = ((s - 1 : Nat) : Int) := by omega
      rw [es] at S
      have I := win_only odd n (t + 1) _ _ _ (s - 1) S (by omega) (by omega) B
      have K := back s hs hne F hp I.1
      refine ⟨K.1, I.2.trans ?_⟩
      have hf : (ready h).headD 0 = kay s := by
        show _ = (ready (bd (s : Int) 0)).headD 0
        rw [ready_six F (bd_fair s hs) K.1]
      rw [K.2, hf]
      simp
theorem win_if (odd : Int) {f : Int} : ∀ (n : Nat) (t : Int) (h e : List Int) (s : Nat), Fair s f h → s < 16 → s ≤ n → six h = six (bd (s : Int) 0) → (run odd n t h e false).2.2 = false →
    Bare (run odd n t h e false).1
  | 0, t, h, e, s, F, hs, hn, E, _ => by
    have : s = 0 := by omega
    subst this
    exact E.trans bd0
  | n + 1, t, h, e, s, F, hs, hn, E, hf => by
    rw [run_succ] at hf ⊢
    by_cases h0 : s = 0
    · subst h0
      have b : Bare h := E.trans bd0
      have hr : ready h = [] := bare_ready F b
      rw [if_pos hr]
      exact b
    · have O := bd_ok s hs h0
      have er := ready_six F (bd_fair s hs) E
      by_cases hr : ready h = []
      · exfalso
        rw [er] at hr
        have h1 : kay s = 0 := by
          show (ready (bd (s : Int) 0)).headD 0 = 0
          rw [hr]; rfl
        have := O.2.1
        omega
      · rw [if_neg hr] at hf ⊢
        have hp := pick_mem (odd := odd) (t := t) hr
        have hd : pick odd t (ready h) = (ready h).headD 0 := by
          cases q : (pick odd t (ready h) != (ready h).headD 0) with
          | true => rw [q] at hf; rw [Bool.false_or, run_true] at hf; cases hf
          | false => simpa using q
        have hk : (ready h).headD 0 = kay s := by rw [er]; rfl
        have S := (sow_fair F hp).1
        have es : ((s : Int) - 1) = ((s - 1 : Nat) : Int) := by omega
        rw [es] at S
        have E' : six (sow h (pick odd t (ready h))) = six (bd ((s - 1 : Nat) : Int) 0) := by
          rw [hd, hk, ← O.1]
          exact sow_six F (bd_fair s hs) E ⟨O.2.1, Int.lt_add_one_of_le O.2.2.1⟩
        have g : (false || pick odd t (ready h) != (ready h).headD 0) = false := by rw [hd]; simp
        rw [g] at hf ⊢
        exact win_if odd n (t + 1) _ _ (s - 1) S (by omega) (by omega) E' hf

end part2
section part4
theorem fair_enc {s f a : Int} {h : List Int} (F : Fair s f h) (e : at' h 0 + s = a) (hf : 0 ≤ f ∧ f < 64) (ha : 0 ≤ a ∧ a < 64) : (enc h = a + 4398046511104 * f) ↔ Bare h := by
  obtain ⟨a0, a1, a2, a3, a4, a5, a6, rfl, p0, p1, p2, p3, p4, p5, p6, hs⟩ := F
  simp [at'] at e
  simp [enc, Bare, six]
  omega
theorem fair_enc0 {s f : Int} {h : List Int} (F : Fair s f h) (hf : 0 ≤ f) : 0 ≤ enc h := by
  obtain ⟨a0, a1, a2, a3, a4, a5, a6, rfl, p0, p1, p2, p3, p4, p5, p6, hs⟩ := F
  simp [enc]
  omega
theorem bd_any (s f g : Int) : six (bd s f) = six (bd s g) := rfl
theorem bd_fairf (s : Nat) (hs : s < 16) {f : Int} (hf : 0 ≤ f) : Fair (s : Int) f (bd (s : Int) f) := by
  have F := bd_fair s hs
  obtain ⟨a0, a1, a2, a3, a4, a5, a6, e, p0, p1, p2, p3, p4, p5, p6, h⟩ := F
  simp [bd] at e
  obtain ⟨e0, e1, e2, e3, e4, e5, e6⟩ := e
  exact ⟨f, a1, a2, a3, a4, a5, a6, by simp [bd, e1, e2, e3, e4, e5, e6], hf, p1, p2, p3, p4, p5, p6, h⟩
theorem eq_of_six {s f : Int} {h h' : List Int} (F : Fair s f h) (F' : Fair s f h') (e0 : at' h 0 = at' h' 0) (e : six h = six h') : h = h' := by
  obtain ⟨a0, a1, a2, a3, a4, a5, a6, rfl, _⟩ := F
  obtain ⟨b0, b1, b2, b3, b4, b5, b6, rfl, _⟩ := F'
  simp [at', six] at e0 e ⊢
  exact ⟨e0, e⟩
/-- the second board -/
theorem other_law (odd : Int) (s : Nat) (hs : s < 16) {f : Int} (hf : 0 ≤ f ∧ f < 49) {h : List Int} (F : Fair (s : Int) f h) (h0 : at' h 0 = f) :
    (enc (run odd 16 0 h [] false).1 = f + (s : Int) + 4398046511104 * f) ↔ (h = bd (s : Int) f ∧ (run odd 16 0 h [] false).2.2 = false) := by
  obtain ⟨s', F', e'⟩ := run_fair odd 16 0 h [] false _ F
  rw [h0] at e'
  rw [fair_enc F' (a := f + (s : Int)) e' (by omega) (by omega)]
  constructor
  · intro B
    have W := win_only odd 16 0 h [] false s F hs (by omega) B
    refine ⟨eq_of_six F (bd_fairf s hs hf.1) h0 (W.1.trans (bd_any _ _ _)), W.2⟩
  · rintro ⟨e, g⟩
    exact win_if odd 16 0 h [] s F hs (by omega) (by rw [e]; exact bd_any _ _ _) g
theorem first_astray {f : Int} : ∀ (n : Nat) (t : Int) (h e : List Int) (s : Nat), 0 ≤ t → Fair (s : Int) f h → (run (-1) n t h e false).2.2 = false
  | 0, _, _, _, _, _, _ => rfl
  | n + 1, t, h, e, s, ht, F => by
    rw [run_succ]
    split
    · rfl
    · rename_i hr
      have hp := pick_mem (odd := -1) (t := t) hr
      have hd : pick (-1) t (ready h) = (ready h).headD 0 := by unfold pick; rw [if_neg (by omega)]
      have g : (false || pick (-1) t (ready h) != (ready h).headD 0) = false := by rw [hd]; simp
      rw [g]
      have S := (sow_fair F hp).1
      by_cases h0 : s = 0
      · subst h0
        exfalso
        obtain ⟨a0, a1, a2, a3, a4, a5, a6, _, q0, q1, q2, q3, q4, q5, q6, q⟩ := S
        omega
      · have es : ((s : Int) - 1) = ((s - 1 : Nat) : Int) := by omega
        rw [es] at S
        exact first_astray n (t + 1) _ _ (s - 1) (by omega) S
/-- the told board is cleared -/
theorem told_law (s : Nat) (hs : s < 16) {f : Int} (hf : 0 ≤ f ∧ f < 49) : enc (run (-1) 16 0 (bd (s : Int) f) [] false).1 = f + (s : Int) + 4398046511104 * f := by
  have F := bd_fairf s hs hf.1
  refine (other_law (-1) s hs hf F rfl).mpr ⟨rfl, first_astray 16 0 _ _ s (by omega) F⟩
theorem run_e (odd : Int) : ∀ (n : Nat) (t : Int) (h e h' : List Int) (a a' : Bool) (s s' f f' : Int), Fair s f h → Fair s' f' h' → six h = six h' → (run odd n t h e a).2.1 = (run odd n t h' e a').2.1
  | 0, _, _, _, _, _, _, _, _, _, _, _, _, _ => rfl
  | n + 1, t, h, e, h', a, a', s, s', f, f', F, F', E => by
    rw [run_succ, run_succ]
    have er := ready_six F F' E
    rw [er]
    split
    · rfl
    · rename_i hr
      have hp := pick_mem (odd := odd) (t := t) hr
      have S' := (sow_fair F' hp).1
      rw [← er] at hp
      have S := (sow_fair F hp).1
      rw [er] at S
      refine run_e odd n (t + 1) _ _ _ _ _ _ _ f f' S S' ?_
      rw [← er]
      have h6 := (ready_mem hp).1
      rw [← er] at S S'
      generalize pick odd t (ready h) = k at h6 ⊢
      obtain ⟨a0, a1, a2, a3, a4, a5, a6, rfl, _⟩ := F
      obtain ⟨b0, b1, b2, b3, b4, b5, b6, rfl, _⟩ := F'
      simp only [six_eq] at E
      simp at E
      obtain ⟨rfl, rfl, rfl, rfl, rfl, rfl⟩ := E
      rcases h6 with rfl | rfl | rfl | rfl | rfl | rfl <;> simp [sow, six]
theorem told_counts0 : ∀ s : Nat, s < 16 → ([1, 2, 3, 4, 5, 6].map fun k : Nat => (((run (-1) 16 0 (bd (s : Int) 0) [] false).2.1.count (k : Int) : Nat) : Int)) = [1, 2, 3, 4, 5, 6].map fun k : Nat => blk (s : Int) k / (k : Int) - blk (s : Int) (k + 1) / ((k : Int) + 1) := by decide +kernel
/-- how often each hole is emptied -/
theorem told_counts (s : Nat) (hs : s < 16) {f : Int} (hf : 0 ≤ f) (k : Nat) (h1 : 1 ≤ k) (h6 : k ≤ 6) : (((run (-1) 16 0 (bd (s : Int) f) [] false).2.1.count (k : Int) : Nat) : Int) = blk (s : Int) k / (k : Int) - blk (s : Int) (k + 1) / ((k : Int) + 1) := by
  have e := run_e (-1) 16 0 (bd (s : Int) f) [] (bd (s : Int) 0) false false _ _ _ _ (bd_fairf s hs hf) (bd_fair s hs) (bd_any _ _ _)
  rw [e]
  have c := told_counts0 s hs
  simp only [List.map_cons, List.map_nil, List.cons.injEq, and_true] at c
  have : k = 1 ∨ k = 2 ∨ k = 3 ∨ k = 4 ∨ k = 5 ∨ k = 6 := by omega
  rcases this with rfl | rfl | rfl | rfl | rfl | rfl
  · exact c.1
  · exact c.2.1
  · exact c.2.2.1
  · exact c.2.2.2.1
  · exact c.2.2.2.2.1
  · exact c.2.2.2.2.2

end part4
section part10
theorem looks_told (w : World) (t : Tok) : peek (Mine.hd.heap_39 w.params) ⟨PySem.Challenge.rw_wj0037_01.row.prog, w.params⟩ (sharingNotTold t) = some false := by kernel_rfl
section
variable {w : World} {A : Around} {E : Value → Shared → Prop} {s : Shared} {Q : Value → Shared → Prop}
theorem told {t : Tok} {Q : Bool → Shared → Prop} (X : (Mine.hd.heap_39 w.params).In s.heap) (h : Q false s) : wpAny (model PySem.Challenge.rw_wj0037_01.row.prog w) A (sharingNotTold t) Q E s :=
  (Looks.of_peek (M := model PySem.Challenge.rw_wj0037_01.row.prog w) X (looks_told w t)).here h
theorem is_int {M : Model} {p q : Int} {t u : Tok} (h0 : t ≠ 0) (h1 : u ≠ 0) (hs : smallInt p = true) (hn : p ≠ q → t ≠ u) (h : Q (.bool (decide (p = q))) s) :
    wpAny M A (compareOp .Is (.int p t) (.int q u)) Q E s := by
  show wpAny M A (isSame (.int p t) (.int q u) >>= fun b => pure (.bool b)) Q E s
  refine wpAny_bind ?_
  unfold isSame
  by_cases e : p = q
  · subst e
    simp only [beq_self_eq_true, hs, Bool.and_self, if_true]
    unfold isSame.cachedInt
    rw [if_neg (by simp [h0, h1])]
    refine wpAny_bind (wpAny_rule ?_)
    refine wpAny_pure (wpAny_pure ?_)
    simpa using h
  · have e1 : (p == q) = false := by simpa using e
    simp only [e1, Bool.false_and, Bool.false_eq_true, if_false]
    unfold isSame.created
    rw [if_neg (by simp [h0, h1])]
    have e2 : (t == u) = false := by simpa using hn e
    dsimp only
    rw [if_neg (by simp [hn e])]
    rw [if_pos (by rfl)]
    refine wpAny_pure (wpAny_pure ?_)
    have e3 : decide (p = q) = false := by simpa using e
    rw [e3] at h
    exact h
theorem is_str {p q : Str} {t u : Tok} (X : (Mine.hd.heap_39 w.params).In s.heap) (h0 : t ≠ 0) (h1 : u ≠ 0) (hn : p ≠ q → t ≠ u) (h : ∀ b, (p ≠ q → b = false) → Q (.bool b) s) :
    wpAny (model PySem.Challenge.rw_wj0037_01.row.prog w) A (compareOp .Is (.str p t) (.str q u)) Q E s := by
  show wpAny _ A (isSame (.str p t) (.str q u) >>= fun b => pure (.bool b)) Q E s
  refine wpAny_bind ?_
  show wpAny _ A (isSame.created (p == q) t u) _ E s
  unfold isSame.created
  rw [if_neg (by simp [h0, h1])]
  dsimp only
  by_cases e : t = u
  · rw [if_pos (by simp [e])]
    refine wpAny_pure (wpAny_pure (h true fun hpq => absurd e (hn hpq)))
  · rw [if_neg (by simp [e])]
    by_cases e1 : p = q
    · rw [if_neg (by simp [e1])]
      refine wpAny_bind (told X ?_)
      rw [if_neg (by simp)]
      refine wpAny_bind (told X ?_)
      rw [if_neg (by simp)]
      refine wpAny_bind (wpAny_rule (wpAny_bind (wpAny_askSetting ?_)))
      exact wpAny_pure (wpAny_pure (h _ fun hpq => absurd e1 hpq))
    · rw [if_pos (by simp [e1])]
      exact wpAny_pure (wpAny_pure (h false fun _ => rfl))
end

end part10
section part20
noncomputable def Off (I : Addr) (news : List (Addr × Obj)) : Prop := ∀ p ∈ news, p.1 ≠ I
noncomputable def TurnEnd (h₀ : Heap) (L I : Addr) (oI : Obj) (J : (Str → Option Value) → List (Addr × Obj) → Nat → Prop) (s₁ s₂ : Shared) : Prop :=
  ∃ h' tk m news, s₂ = { s₁ with heap := h', toks := tk } ∧ Fr h₀ L h' m ∧ News h₀ L h' ((I, oI) :: news) ∧ Off I news ∧ J m news tk
noncomputable def TurnPost (h₀ : Heap) (L I : Addr) (oI : Obj) (J : (Str → Option Value) → List (Addr × Obj) → Nat → Prop) (s₁ : Shared) (Q : Flow → Shared → Prop) (f : Flow) (s₂ : Shared) : Prop :=
  match f with
  | .ret v => Q (.ret v) s₂
  | .brk => Q .next s₂
  | _ => TurnEnd h₀ L I oI J s₁ s₂
section
variable {prog : Program} {w : World} {A : Around} {s : Shared} {env : Env} {h₀ : Heap}
theorem fr_off {h h' : Heap} {L I : Addr} {m : Str → Option Value} {oI : Obj} {news : List (Addr × Obj)} (F : Fr h₀ L h m) (N : News h₀ L h ((I, oI) :: news))
    (k : ∀ b o, b ≠ I → h.get? b = some o → h'.get? b = some o) : Fr h₀ L h' m := by
  have z := N _ (.head _)
  obtain ⟨ns, keep, above⟩ := F
  refine ⟨ns.at' fun o e => k L o (fun q => z.2.1 q.symm) e, fun b o e => k b o (fun q => ?_) (keep b o e), above⟩
  rw [q] at e; rw [z.2.2] at e; cases e
theorem news_off {h h' : Heap} {L I : Addr} {oI oI' : Obj} {news : List (Addr × Obj)} (N : News h₀ L h ((I, oI) :: news)) (off : Off I news) (hI : h'.get? I = some oI')
    (k : ∀ b o, b ≠ I → h.get? b = some o → h'.get? b = some o) : News h₀ L h' ((I, oI') :: news) := by
  intro p hp
  rcases List.mem_cons.mp hp with rfl | hp
  · exact ⟨hI, (N _ (.head _)).2⟩
  · have z := N p (.tail _ hp)
    exact ⟨k _ _ (off p hp) z.1, z.2⟩
theorem news_tail {h : Heap} {L : Addr} {q : Addr × Obj} {news : List (Addr × Obj)} (N : News h₀ L h (q :: news)) : News h₀ L h news := fun p hp => N p (.tail _ hp)
theorem fr_map {h : Heap} {L : Addr} {m m' : Str → Option Value} (F : Fr h₀ L h m) (e : ∀ y, m y = m' y) : Fr h₀ L h m' := (funext e : m = m') ▸ F
theorem look1 {y k : Str} {v : Value} {r : List (Str × Value)} : List.lookup y ((k, v) :: r) = if y = k then some v else List.lookup y r := by
  rw [List.lookup_cons]
  by_cases h : y = k
  · rw [if_pos h, beq_iff_eq.mpr h]
  · rw [if_neg h, beq_eq_false_iff_ne.mpr h]
theorem look0 {y : Str} : List.lookup y ([] : List (Str × Value)) = none := rfl
theorem map_ext (keys : List Str) {f g : Str → Option Value} (h1 : ∀ k ∈ keys, f k = g k) (h2 : ∀ y, (∀ k ∈ keys, y ≠ k) → f y = g y) : f = g := by
  funext y
  by_cases h : y ∈ keys
  · exact h1 y h
  · exact h2 y fun k hk e => h (e ▸ hk)
/-- a for over any iterator object, the turn's word over names, ledger and tokens -/
theorem loopG {R : Result → Shared → Prop} {x : Str} {px : Pos} {body : List Stmt} {I : Addr} {n : Nat} (St : Nat → Obj → Prop) (P : Nat → Nat → Value → Prop) (J : Nat → (Str → Option Value) → List (Addr × Obj) → Nat → Prop)
    (hx : env.kindOf x = some .local) (hp : (env.scope.kind == .class || (env.scope.kind == .module && env.locals != env.globals)) = false)
    (item : ∀ i m news (s' : Shared) oI (Q : Option Value → Shared → Prop) (E : Value → Shared → Prop), i < n → J i m news s'.toks → St i oI → News h₀ env.locals s'.heap ((I, oI) :: news) →
      (∀ v h' tk oI', P i s'.toks v → St (i + 1) oI' → h'.get? I = some oI' → (∀ b o, b ≠ I → s'.heap.get? b = some o → h'.get? b = some o) → Q (some v) { s' with heap := h', toks := tk }) → wpAny (model prog w) A (pyNext (.ref I)) Q E s')
    (done : ∀ m news (s' : Shared) oI (Q : Option Value → Shared → Prop) (E : Value → Shared → Prop), J n m news s'.toks → St n oI → News h₀ env.locals s'.heap ((I, oI) :: news) →
      (∀ h' tk, (∀ b o, b ≠ I → s'.heap.get? b = some o → h'.get? b = some o) → Q none { s' with heap := h', toks := tk }) → wpAny (model prog w) A (pyNext (.ref I)) Q E s')
    {m : Str → Option Value} {news : List (Addr × Obj)} {oI : Obj} (F : Fr h₀ env.locals s.heap m) (N : News h₀ env.locals s.heap ((I, oI) :: news)) (off : Off I news) (hst : St 0 oI) (h0 : J 0 m news s.toks)
    (turn : ∀ i v m₁ news₁ oI h tk₀ tk, i < n → P i tk₀ v → tk₀ ≤ tk → J i m₁ news₁ tk₀ → Off I news₁ → Fr h₀ env.locals h (fun y => if y = x then some v else m₁ y) → News h₀ env.locals h ((I, oI) :: news₁) →
      wpAny (model prog w) A (execs body env) (TurnPost h₀ env.locals I oI (J (i + 1)) { s with heap := h, toks := tk } (fun f s' => R (.ok f) s')) (fun _ _ => False) { s with heap := h, toks := tk })
    (fin : ∀ m news h tk₀ tk, tk₀ ≤ tk → J n m news tk₀ → Fr h₀ env.locals h m → News h₀ env.locals h news → R (.ok .next) { s with heap := h, toks := tk }) :
    codeAny (model prog w) A (.forLoop (.Name x px) (.ref I) body [] env) R s := by
  refine codeAny_forLoop
    (fun k s' => ∃ h' tk m' news' i oI', s' = { s with heap := h', toks := tk } ∧ St i oI' ∧ Fr h₀ env.locals h' m' ∧ News h₀ env.locals h' ((I, oI') :: news') ∧ Off I news' ∧ J i m' news' tk ∧ i ≤ n ∧ k = n + 1 - i) ?_ (n + 1)
    ⟨s.heap, s.toks, m, news, 0, oI, rfl, hst, F, N, off, h0, Nat.zero_le _, rfl⟩
  rintro k s' ⟨h', tk, m', news', i, oI', rfl, hst', F', N', off', hJ, hi, rfl⟩
  by_cases hlt : i < n
  · refine wpAny_with_toks (n := tk) (Nat.le_refl _) (item i m' news' _ oI' _ _ hlt hJ hst' N' fun v h₁ tk₁ oI₁ hP hst₁ hI₁ hk₁ htk₁ => ?_)
    have F₁ := fr_off F' N' hk₁
    have N₁ := news_off N' off' hI₁ hk₁
    refine wpAny_assign_Name (wpAny_storeName_local hx F₁.ns (fun h₂ hn₂ hs₂ => ?_) hp)
    have F₂ := F₁.set hn₂ hs₂
    have N₂ := N₁.set hs₂
    refine wpAny_mono (turn i v m' news' oI₁ h₂ tk _ hlt hP (Nat.le_succ_of_le htk₁) hJ off' F₂ N₂) (fun f s₃ h₃ => ?_) fun _ _ e => e.elim
    cases f with
    | ret v => exact h₃
    | brk => exact h₃
    | cont =>
      obtain ⟨h₄, tk₄, m₄, news₄, rfl, F₄, N₄, off₄, hJ₄⟩ := h₃
      exact ⟨n + 1 - (i + 1), by omega, h₄, tk₄, m₄, news₄, i + 1, oI₁, rfl, hst₁, F₄, N₄, off₄, hJ₄, hlt, rfl⟩
    | next =>
      obtain ⟨h₄, tk₄, m₄, news₄, rfl, F₄, N₄, off₄, hJ₄⟩ := h₃
      exact ⟨n + 1 - (i + 1), by omega, h₄, tk₄, m₄, news₄, i + 1, oI₁, rfl, hst₁, F₄, N₄, off₄, hJ₄, hlt, rfl⟩
  · have hin : i = n := by omega
    subst hin
    refine wpAny_with_toks (n := tk) (Nat.le_refl _) (done m' news' _ oI' _ _ hJ hst' N' fun h₁ tk₁ hk₁ htk₁ => wpAny_execs_nil ?_)
    refine fin m' news' h₁ tk tk₁ htk₁ hJ (fr_off F' N' hk₁) fun p hp => ?_
    have z := N' p (.tail _ hp)
    exact ⟨hk₁ _ _ (off' p hp) z.1, z.2⟩

/-- for x in range(a, a + n) -/
theorem for_range {mF : Str → Option Value} (_F₀ : Fr h₀ env.locals s.heap mF) {Q : Flow → Shared → Prop} {E : Value → Shared → Prop} {x : Str} {px pos : Pos} {iter : Expr} {body : List Stmt} (hh : A.handled = none)
    (hx : env.kindOf x = some .local) (hp : (env.scope.kind == .class || (env.scope.kind == .module && env.locals != env.globals)) = false)
    (h : wpAny (model prog w) A (eval iter env) (fun xv s₁ => ∃ (r : Addr) (a b : Int) (n : Nat) (t u v : Tok) (m : Str → Option Value) (news : List (Addr × Obj)) (J : Nat → (Str → Option Value) → List (Addr × Obj) → Nat → Prop),
      xv = .ref r ∧ IsRange s₁.heap r a b 1 t u v ∧ Builtin.Range.small a b 1 = true ∧ Builtin.Range.rangeSize a b 1 = (n : Int) ∧ Fr h₀ env.locals s₁.heap m ∧ News h₀ env.locals s₁.heap news ∧ J 0 m news s₁.toks ∧
      (∀ I i t m₁ news₁ oI h tk₀ tk, i < n → tk₀ ≤ tk → J i m₁ news₁ tk₀ → Off I news₁ → Fr h₀ env.locals h (fun y => if y = x then some (.int (a + (i : Nat)) t) else m₁ y) → News h₀ env.locals h ((I, oI) :: news₁) →
        wpAny (model prog w) A (execs body env) (TurnPost h₀ env.locals I oI (J (i + 1)) { s₁ with heap := h, toks := tk } Q) (fun _ _ => False) { s₁ with heap := h, toks := tk }) ∧
      (∀ m news h tk₀ tk, tk₀ ≤ tk → J n m news tk₀ → Fr h₀ env.locals h m → News h₀ env.locals h news → Q .next { s₁ with heap := h, toks := tk })) E s)
    (hs : ∀ x, foldedSetIterable iter env x = pure x := by intro _; rfl) :
    wpAny (model prog w) A (exec (.For (.Name x px) iter body [] pos) env) Q E s := by
  refine wpAny_For (wpAny_mono h (fun xv s₁ h₁ => ?_) fun _ _ e => e) hs
  obtain ⟨r, a, b, n, t, u, v, m, news, J, rfl, hr, hsmall, hn, F, N, h0, turn, fin⟩ := h₁
  refine wpAny_pyIter_range hr hsmall ?_
  refine loopG (n := n) (St := fun i o => o = { cls := .type "range_iterator", data := .fields #[rawInt (a + (i : Nat)), rawInt ((n : Int) - (i : Nat)), rawInt 1] }) (P := fun i _ v => ∃ t, v = .int (a + (i : Nat)) t) J hx hp ?_ ?_ (news := news)
    (oI := { cls := .type "range_iterator", data := .fields #[rawInt a, rawInt (Builtin.Range.rangeSize a b 1), rawInt 1] }) (F.push _) (N.push F _) (fun p hp => Nat.ne_of_lt (Heap.lt_size (N p hp).1)) (by rw [hn]; simp) h0 ?_ ?_
  · rintro i m news s' oI Q E hi _ rfl N' k
    refine wpAny_pyNext_range_item (x := a + (i : Nat)) (left := (n : Int) - (i : Nat)) (step := 1) ((N' _ (.head _)).1) (by omega) fun h' hit' hs' => ?_
    refine k _ h' _ _ ⟨_, rfl⟩ ?_ hit' fun b o hb e => hs'.extBut b o hb e
    have e1 : a + ((i + 1 : Nat) : Int) = a + (i : Nat) + 1 := by push_cast; omega
    have e2 : (n : Int) - ((i + 1 : Nat) : Int) = (n : Int) - (i : Nat) - 1 := by push_cast; omega
    rw [e1, e2]
  · rintro m news s' oI Q E _ rfl N' k
    exact wpAny_pyNext_range_end hh (x := a + (n : Nat)) (left := (n : Int) - (n : Nat)) (step := 1) ((N' _ (.head _)).1) (by omega) fun h' he' => k h' s'.toks fun b o hb e => he' b o hb e
  · rintro i v m₁ news₁ oI h tk₀ tk hi ⟨t, rfl⟩ htk hJ off F₁ N₁
    exact turn _ i t m₁ news₁ oI h tk₀ tk hi htk hJ off F₁ N₁
  · exact fin

/-- for x in a list of the ledger's -/
theorem for_list {mF : Str → Option Value} (_F₀ : Fr h₀ env.locals s.heap mF) {Q : Flow → Shared → Prop} {E : Value → Shared → Prop} {x : Str} {px pos : Pos} {iter : Expr} {body : List Stmt} (hh : A.handled = none)
    (hx : env.kindOf x = some .local) (hp : (env.scope.kind == .class || (env.scope.kind == .module && env.locals != env.globals)) = false)
    (h : wpAny (model prog w) A (eval iter env) (fun xv s₁ => ∃ (l : Addr) (vs : List Value) (nn : Nat) (m : Str → Option Value) (news : List (Addr × Obj)) (J : Nat → (Str → Option Value) → List (Addr × Obj) → Nat → Prop),
      xv = .ref l ∧ (∀ i m news tk, J i m news tk → (l, listOf vs.toArray nn) ∈ news) ∧ Fr h₀ env.locals s₁.heap m ∧ News h₀ env.locals s₁.heap news ∧ J 0 m news s₁.toks ∧
      (∀ I i v m₁ news₁ oI h tk₀ tk, vs[i]? = some v → tk₀ ≤ tk → J i m₁ news₁ tk₀ → Off I news₁ → Fr h₀ env.locals h (fun y => if y = x then some v else m₁ y) → News h₀ env.locals h ((I, oI) :: news₁) →
        wpAny (model prog w) A (execs body env) (TurnPost h₀ env.locals I oI (J (i + 1)) { s₁ with heap := h, toks := tk } Q) (fun _ _ => False) { s₁ with heap := h, toks := tk }) ∧
      (∀ m news h tk₀ tk, tk₀ ≤ tk → J vs.length m news tk₀ → Fr h₀ env.locals h m → News h₀ env.locals h news → Q .next { s₁ with heap := h, toks := tk })) E s)
    (hs : ∀ x, foldedSetIterable iter env x = pure x := by intro _; rfl) :
    wpAny (model prog w) A (exec (.For (.Name x px) iter body [] pos) env) Q E s := by
  refine wpAny_For (wpAny_mono h (fun xv s₁ h₁ => ?_) fun _ _ e => e) hs
  obtain ⟨l, vs, nn, m, news, J, rfl, hl, F, N, h0, turn, fin⟩ := h₁
  have isl : ∀ {h : Heap} {news : List (Addr × Obj)}, (l, listOf vs.toArray nn) ∈ news → News h₀ env.locals h news → h.IsList l vs.toArray := fun hm N => ⟨_, (N _ hm).1, rfl, nn, rfl⟩
  refine wpAny_pyIter_list (isl (hl _ _ _ _ h0) N) ?_
  refine loopG (n := vs.length) (St := fun i o => o.cls = .type "list_iterator" ∧ o.data = .fields #[.ref l, .int (i : Nat) 0]) (P := fun i _ v => vs[i]? = some v) J hx hp ?_ ?_ (news := news)
    (oI := { cls := .type "list_iterator", data := .fields #[.ref l, .int 0 0] }) (F.push _) (N.push F _) (fun p hp => Nat.ne_of_lt (Heap.lt_size (N p hp).1)) ⟨rfl, rfl⟩ h0 ?_ ?_
  · rintro i m news s' oI Q E hi hJ ⟨hc, hd⟩ N' k
    have N₁ := news_tail N'
    refine wpAny_pyNext_list_item (it := s₁.heap.objs.size) (l := l) (i := i) ⟨oI, (N' _ (.head _)).1, hc, hd⟩ (isl (hl _ _ _ _ hJ) N₁) (x := vs[i]) (by simp [hi]) fun h' hit' hs' => ?_
    obtain ⟨o', ho', hc', hd'⟩ := hit'
    exact k _ h' _ o' (by simp [hi]) ⟨hc', hd'⟩ ho' fun b o hb e => hs'.extBut b o hb e
  · rintro m news s' oI Q E hJ ⟨hc, hd⟩ N' k
    have N₁ := news_tail N'
    exact wpAny_pyNext_list_end hh (it := s₁.heap.objs.size) (l := l) (i := vs.length) ⟨oI, (N' _ (.head _)).1, hc, hd⟩ (isl (hl _ _ _ _ hJ) N₁) (by simp) fun h' he' => k h' s'.toks fun b o hb e => he' b o hb e
  · rintro i v m₁ news₁ oI h tk₀ tk hi hP htk hJ off F₁ N₁
    exact turn _ i v m₁ news₁ oI h tk₀ tk hP htk hJ off F₁ N₁
  · exact fin
end

end part20
section part16
/-- a floor under the tokens -/
noncomputable def Lo (b t : Nat) : Prop := b ≤ t
theorem lo_ne {b a X : Nat} (h : Lo b a) (h0 : b ≠ 0) (hX : a ≤ X) : X ≠ 0 := by
  have h' : b ≤ a := h
  omega
theorem lo_le {b a X : Nat} (h : Lo b a) (hX : a ≤ X) : b ≤ X := Nat.le_trans h hX
section
variable {prog : Program} {w : World} {A : Around}
theorem execs_cons_lo {b a X : Nat} {h : Heap} {g d os} {st : Stmt} {rest : List Stmt} {env : Env} {Q : Flow → Shared → Prop} {E : Value → Shared → Prop} (hl : Lo b a) (ha : a ≤ X)
    (k : ∀ tk, Lo b tk → wpAny (model prog w) A (exec st env) (fun f s' => Lo b s'.toks → match f with | .next => wpAny (model prog w) A (execs rest env) Q E s' | f => Q f s') E ⟨h, g, d, tk, os⟩) :
    wpAny (model prog w) A (execs (st :: rest) env) Q E ⟨h, g, d, X, os⟩ :=
  wpAny_execs_cons (wpAny_with_toks (n := b) (Nat.le_trans hl ha) (wpAny_mono (k X (Nat.le_trans hl ha)) (fun _ _ x => x) fun _ _ x _ => x))
theorem lo_rule {b a : Nat} {s : Shared} {α : Type} {c : Sem α} {Q : α → Shared → Prop} {E : Value → Shared → Prop} (hl : Lo b a) (ha : a ≤ s.toks)
    (k : wpAny (model prog w) A c (fun f s' => Lo b s'.toks → Q f s') E s) : wpAny (model prog w) A c Q E s :=
  wpAny_with_toks (n := b) (Nat.le_trans hl ha) (wpAny_mono k (fun _ _ x => x) fun _ _ x _ => x)
end
theorem all_ne {news : List (Addr × Obj)} {d x : Addr} (h : ∀ p ∈ news, p.1 < d) (hx : (d : Nat) ≤ x) : ∀ p ∈ news, p.1 ≠ x := fun p hp => Nat.ne_of_lt (Nat.lt_of_lt_of_le (h p hp) hx)

end part16
section part22
section
variable {prog : Program} {w : World} {A : Around} {s : Shared} {env : Env} {h₀ : Heap}
noncomputable def TurnEnd2 (h₀ : Heap) (L e it : Addr) (oE oI : Obj) (J : (Str → Option Value) → List (Addr × Obj) → Nat → Prop) (s₁ s₂ : Shared) : Prop :=
  ∃ h' tk m news, s₂ = { s₁ with heap := h', toks := tk } ∧ Fr h₀ L h' m ∧ News h₀ L h' ((e, oE) :: (it, oI) :: news) ∧ Off e news ∧ Off it news ∧ J m news tk
noncomputable def TurnPost2 (h₀ : Heap) (L e it : Addr) (oE oI : Obj) (J : (Str → Option Value) → List (Addr × Obj) → Nat → Prop) (s₁ : Shared) (Q : Flow → Shared → Prop) (f : Flow) (s₂ : Shared) : Prop :=
  match f with
  | .ret v => Q (.ret v) s₂
  | .brk => Q .next s₂
  | _ => TurnEnd2 h₀ L e it oE oI J s₁ s₂
theorem fr_but2 {h h' : Heap} {L e it : Addr} {m : Str → Option Value} (F : Fr h₀ L h m) (z1 : e ≠ L ∧ h₀.get? e = none) (z2 : it ≠ L ∧ h₀.get? it = none)
    (k : ∀ b o, b ≠ e → b ≠ it → h.get? b = some o → h'.get? b = some o) : Fr h₀ L h' m := by
  obtain ⟨ns, keep, above⟩ := F
  refine ⟨ns.at' fun o x => k L o (fun q => z1.1 q.symm) (fun q => z2.1 q.symm) x, fun b o x => k b o (fun q => ?_) (fun q => ?_) (keep b o x), above⟩
  · rw [q, z1.2] at x; cases x
  · rw [q, z2.2] at x; cases x
theorem news_but2 {h h' : Heap} {L e it : Addr} {news : List (Addr × Obj)} (N : News h₀ L h news) (o1 : Off e news) (o2 : Off it news)
    (k : ∀ b o, b ≠ e → b ≠ it → h.get? b = some o → h'.get? b = some o) : News h₀ L h' news := fun p hp => ⟨k _ _ (o1 p hp) (o2 p hp) (N p hp).1, (N p hp).2⟩
theorem enum_loop {R : Result → Shared → Prop} {E : Value → Shared → Prop} {xi xc : Str} {pk pv pt : Pos} {x1 : Nat} {body orelse : List Stmt} (hh : A.handled = none)
    (hxi : env.kindOf xi = some .local) (hxc : env.kindOf xc = some .local) (hp : (env.scope.kind == .class || (env.scope.kind == .module && env.locals != env.globals)) = false)
    {l : Addr} {vs : List Value} {nn : Nat} {m : Str → Option Value} {news : List (Addr × Obj)} (J : Nat → (Str → Option Value) → List (Addr × Obj) → Nat → Prop)
    (hl : ∀ i m news tk, J i m news tk → (l, listOf vs.toArray nn) ∈ news) (F : Fr h₀ env.locals s.heap m) (N : News h₀ env.locals s.heap news) (h0 : J 0 m news s.toks)
    (turn : ∀ e it i t v m₁ news₁ oE oI h tk₀ tk, vs[i]? = some v → tk₀ ≤ t → t < tk → J i m₁ news₁ tk₀ → Off e news₁ → Off it news₁ →
      Fr h₀ env.locals h (fun y => if y = xc then some v else if y = xi then some (.int (i : Nat) t) else m₁ y) → News h₀ env.locals h ((e, oE) :: (it, oI) :: news₁) →
      wpAny (model prog w) A (execs body env) (TurnPost2 h₀ env.locals e it oE oI (J (i + 1)) { s with heap := h, toks := tk } (fun f s' => R (.ok f) s')) (fun _ _ => False) { s with heap := h, toks := tk })
    (fin : ∀ m news h tk₀ tk, tk₀ ≤ tk → J vs.length m news tk₀ → Fr h₀ env.locals h m → News h₀ env.locals h news → wpAny (model prog w) A (execs orelse env) (fun f s' => R (.ok f) s') (fun _ _ => False) { s with heap := h, toks := tk }) :
    wpAny (model prog w) A (call (.type "enumerate") [.ref l]) (fun xv s₁ => wpAny (model prog w) A (pyIter xv) (fun it s₂ => codeAny (model prog w) A (.forLoop (.Tuple [.Name xi pk, .Name xc pv] x1 pt) it body orelse env) R s₂) E s₁) E s := by
  have isl : ∀ {h : Heap} {news : List (Addr × Obj)}, (l, listOf vs.toArray nn) ∈ news → News h₀ env.locals h news → h.IsList l vs.toArray := fun hm N => ⟨_, (N _ hm).1, rfl, nn, rfl⟩
  have hLs : env.locals < s.heap.objs.size := F.ns.lt
  refine call_enumerate_list (isl (hl _ _ _ _ h0) N) fun h' he hit hsz hk => wpAny_pyIter_enum he ?_
  generalize hE : s.heap.objs.size + 1 = e at he
  generalize hI : s.heap.objs.size = it at he hit
  have hei : e ≠ it := by rw [← hE, ← hI]; exact Nat.succ_ne_self _
  have none_of : ∀ b, s.heap.objs.size ≤ b → h₀.get? b = none := fun b hb => Heap.get?_none_of_le (Nat.le_trans F.above (Nat.le_trans (Nat.le_of_lt hLs) hb))
  have zE : e ≠ env.locals ∧ h₀.get? e = none := ⟨by rw [← hE]; exact Nat.ne_of_gt (Nat.lt_succ_of_lt hLs), none_of _ (by rw [← hE]; exact Nat.le_succ _)⟩
  have zI : it ≠ env.locals ∧ h₀.get? it = none := ⟨by rw [← hI]; exact Nat.ne_of_gt hLs, none_of _ (by rw [← hI]; exact Nat.le_refl _)⟩
  have offE : Off e news := fun p hp => by rw [← hE]; exact Nat.ne_of_lt (Nat.lt_succ_of_lt (Heap.lt_size (N p hp).1))
  have offI : Off it news := fun p hp => by rw [← hI]; exact Nat.ne_of_lt (Heap.lt_size (N p hp).1)
  refine codeAny_forLoop_any
    (fun k s' => ∃ h' tk m' news' i old, s' = { s with heap := h', toks := tk } ∧ IsEnum h' e it (i : Nat) old ∧ h'.IsListIter it l i ∧ Fr h₀ env.locals h' m' ∧ News h₀ env.locals h' news' ∧ Off e news' ∧ Off it news' ∧ J i m' news' tk ∧ i ≤ vs.length ∧ k = vs.length + 1 - i) ?_ (vs.length + 1)
    ⟨h', s.toks, m, news, 0, .none, rfl, he, hit, F.keeps hk, N.grown hk, offE, offI, h0, Nat.zero_le _, rfl⟩
  rintro k s' ⟨h', tk, m', news', i, old, rfl, he', hit', F', N', oE', oI', hJ, hi, rfl⟩
  have isl' := isl (hl _ _ _ _ hJ) N'
  have hle : l ≠ e := oE' _ (hl _ _ _ _ hJ)
  have hli : l ≠ it := oI' _ (hl _ _ _ _ hJ)
  by_cases hlt : i < vs.length
  · have hx : vs.toArray[i]? = some vs[i] := by simp [hlt]
    refine wpAny_pyNext_enum_item he' hit' isl' hx hei fun h₁ ho₁ hit₁ hT₁ hsz₁ hk₁ => ?_
    have F₁ := fr_but2 F' zE zI hk₁
    have N₁ := news_but2 N' oE' oI' hk₁
    refine wpAny_letOwnedTupleGo_enum ho₁ fun h₂ he₂ hs₂ => ?_
    have k₂ : ∀ b o, b ≠ e → b ≠ it → h₁.get? b = some o → h₂.get? b = some o := fun b o hb _ x => (hs₂.2 b hb).trans x
    have F₂ := fr_but2 F₁ zE zI k₂
    have N₂ := news_but2 N₁ oE' oI' k₂
    have hit₂ : h₂.IsListIter it l (i + 1) := hit₁.at fun o x => (hs₂.2 it (Ne.symm hei)).trans x
    have hTe : h'.objs.size ≠ e := Nat.ne_of_gt (Heap.lt_size he')
    have hT₂ : IsTup h₂ h'.objs.size #[.int (i : Nat) tk, vs[i]] := ⟨_, (hs₂.2 _ hTe).trans hT₁, rfl, _, rfl⟩
    refine assign_Tuple_tuple hh hT₂ rfl rfl fun h₃ hx₃ => ?_
    have k₃ : ∀ b o, h₂.get? b = some o → h₃.get? b = some o := fun b o x => hx₃ b o (Nat.ne_of_lt (Heap.lt_size x)) x
    have F₃ : Fr h₀ env.locals h₃ m' := F₂.keeps k₃
    refine assignInOrder_cons (wpAny_assign_Name (wpAny_storeName_local hxi F₃.ns (fun h₄ hn₄ hs₄ => ?_) hp))
    have F₄ := F₃.set hn₄ hs₄
    refine assignInOrder_cons (wpAny_assign_Name (wpAny_storeName_local hxc F₄.ns (fun h₅ hn₅ hs₅ => ?_) hp))
    have F₅ := F₄.set hn₅ hs₅
    refine assignInOrder_nil ?_
    have k₅ : ∀ b o, b ≠ env.locals → h₂.get? b = some o → h₅.get? b = some o := fun b o hb x => (hs₅.2 b hb).trans ((hs₄.2 b hb).trans (k₃ b o x))
    have N₅ : News h₀ env.locals h₅ news' := fun p hp => ⟨k₅ _ _ (N₂ p hp).2.1 (N₂ p hp).1, (N₂ p hp).2⟩
    have he₅ : IsEnum h₅ e it ((i + 1 : Nat) : Int) vs[i] := by have := k₅ _ _ zE.1 he₂; simpa using this
    have hit₅ : h₅.IsListIter it l (i + 1) := hit₂.at fun o x => k₅ _ _ zI.1 x
    obtain ⟨oI₅, hI₅, hI₅c, hI₅d⟩ := id hit₅
    obtain ⟨oE₅, hE₅, back⟩ : ∃ o, h₅.get? e = some o ∧ ∀ h : Heap, h.get? e = some o → IsEnum h e it ((i + 1 : Nat) : Int) vs[i] := ⟨_, he₅, fun _ x => x⟩
    have T := turn e it i tk vs[i] m' news' oE₅ oI₅ h₅ tk (tk + 1 + 1 + 1) (by simp [hlt]) (Nat.le_refl _) (Nat.lt_succ_of_le (Nat.le_succ_of_le (Nat.le_succ _))) hJ oE' oI' F₅ (fun p hp => by
      rcases List.mem_cons.mp hp with rfl | hp
      · exact ⟨hE₅, zE⟩
      · rcases List.mem_cons.mp hp with rfl | hp
        · exact ⟨hI₅, zI⟩
        · exact N₅ p hp)
    refine wpAny_mono T (fun f s₃ h₃ => ?_) fun _ _ x => x.elim
    · have fin2 : TurnEnd2 h₀ env.locals e it oE₅ oI₅ (J (i + 1)) { s with heap := h₅, toks := tk + 1 + 1 + 1 } s₃ → ∃ m, m < vs.length + 1 - i ∧ ∃ h' tk m' news' i old, s₃ = { s with heap := h', toks := tk } ∧ IsEnum h' e it (i : Nat) old ∧ h'.IsListIter it l i ∧ Fr h₀ env.locals h' m' ∧ News h₀ env.locals h' news' ∧ Off e news' ∧ Off it news' ∧ J i m' news' tk ∧ i ≤ vs.length ∧ m = vs.length + 1 - i := by
        rintro ⟨h₆, tk₆, m₆, news₆, rfl, F₆, N₆, oE₆, oI₆, hJ₆⟩
        refine ⟨vs.length + 1 - (i + 1), by omega, h₆, tk₆, m₆, news₆, i + 1, vs[i], rfl, back _ (N₆ _ (.head _)).1, ⟨oI₅, (N₆ _ (.tail _ (.head _))).1, hI₅c, hI₅d⟩, F₆, fun p hp => N₆ p (.tail _ (.tail _ hp)), oE₆, oI₆, hJ₆, hlt, rfl⟩
      cases f with
      | ret v => exact h₃
      | brk => exact h₃
      | cont => exact fin2 h₃
      | next => exact fin2 h₃
  · have hin : i = vs.length := by omega
    subst hin
    refine wpAny_with_toks (n := tk) (Nat.le_refl _) (wpAny_pyNext_enum_end hh he' hit' isl' (by simp) fun h₁ hx₁ htk₁ => ?_)
    exact wpAny_mono (fin m' news' h₁ tk tk htk₁ hJ (fr_but2 F' zE zI fun b o _ hb x => hx₁ b o hb x) (news_but2 N' oE' oI' fun b o _ hb x => hx₁ b o hb x)) (fun _ _ x => x) fun _ _ x => x.elim
end

end part22
section part24
section
variable {prog : Program} {w : World} {A : Around} {s : Shared} {env : Env} {h₀ : Heap}
/-- for x in range(a, a + n), with an else block -/
theorem for_range_e {mF : Str → Option Value} (_F₀ : Fr h₀ env.locals s.heap mF) {Q : Flow → Shared → Prop} {E : Value → Shared → Prop} {x : Str} {px pos : Pos} {iter : Expr} {body orelse : List Stmt} (hh : A.handled = none)
    (hx : env.kindOf x = some .local) (hp : (env.scope.kind == .class || (env.scope.kind == .module && env.locals != env.globals)) = false)
    (h : wpAny (model prog w) A (eval iter env) (fun xv s₁ => ∃ (r : Addr) (a b : Int) (n : Nat) (t u v : Tok) (m : Str → Option Value) (news : List (Addr × Obj)) (J : Nat → (Str → Option Value) → List (Addr × Obj) → Nat → Prop),
      xv = .ref r ∧ IsRange s₁.heap r a b 1 t u v ∧ Builtin.Range.small a b 1 = true ∧ Builtin.Range.rangeSize a b 1 = (n : Int) ∧ Fr h₀ env.locals s₁.heap m ∧ News h₀ env.locals s₁.heap news ∧ J 0 m news s₁.toks ∧
      (∀ I i t m₁ news₁ oI h tk₀ tk, i < n → tk₀ ≤ tk → J i m₁ news₁ tk₀ → Off I news₁ → Fr h₀ env.locals h (fun y => if y = x then some (.int (a + (i : Nat)) t) else m₁ y) → News h₀ env.locals h ((I, oI) :: news₁) →
        wpAny (model prog w) A (execs body env) (TurnPost h₀ env.locals I oI (J (i + 1)) { s₁ with heap := h, toks := tk } Q) (fun _ _ => False) { s₁ with heap := h, toks := tk }) ∧
      (∀ m news h tk₀ tk, tk₀ ≤ tk → J n m news tk₀ → Fr h₀ env.locals h m → News h₀ env.locals h news → wpAny (model prog w) A (execs orelse env) Q (fun _ _ => False) { s₁ with heap := h, toks := tk })) E s)
    (hs : ∀ x, foldedSetIterable iter env x = pure x := by intro _; rfl) :
    wpAny (model prog w) A (exec (.For (.Name x px) iter body orelse pos) env) Q E s := by
  refine wpAny_For (wpAny_mono h (fun xv s₁ h₁ => ?_) fun _ _ e => e) hs
  obtain ⟨r, a, b, n, t, u, v, m, news, J, rfl, hr, hsmall, hn, F, N, h0, turn, fin⟩ := h₁
  refine wpAny_pyIter_range hr hsmall ?_
  generalize hI : s₁.heap.objs.size = I
  have F0 := F.push { cls := .type "range_iterator", data := .fields #[rawInt a, rawInt (Builtin.Range.rangeSize a b 1), rawInt 1] }
  have N0 := N.push F { cls := .type "range_iterator", data := .fields #[rawInt a, rawInt (Builtin.Range.rangeSize a b 1), rawInt 1] }
  have off0 : Off I news := fun p hp => by rw [← hI]; exact Nat.ne_of_lt (Heap.lt_size (N p hp).1)
  rw [hI] at N0
  let oAt : Nat → Obj := fun i => { cls := .type "range_iterator", data := .fields #[rawInt (a + (i : Nat)), rawInt ((n : Int) - (i : Nat)), rawInt 1] }
  have e0 : ({ cls := .type "range_iterator", data := .fields #[rawInt a, rawInt (Builtin.Range.rangeSize a b 1), rawInt 1] } : Obj) = oAt 0 := by
    show _ = ({ cls := .type "range_iterator", data := .fields #[rawInt (a + ((0 : Nat) : Int)), rawInt ((n : Int) - ((0 : Nat) : Int)), rawInt 1] } : Obj)
    rw [hn]; simp
  rw [e0] at F0 N0
  rw [e0]
  refine codeAny_forLoop
    (fun k s' => ∃ h' tk m' news' i, s' = { s₁ with heap := h', toks := tk } ∧ Fr h₀ env.locals h' m' ∧ News h₀ env.locals h' ((I, oAt i) :: news') ∧ Off I news' ∧ J i m' news' tk ∧ i ≤ n ∧ k = n + 1 - i) ?_ (n + 1)
    ⟨_, s₁.toks, m, news, 0, rfl, F0, N0, off0, h0, Nat.zero_le _, rfl⟩
  rintro k s' ⟨h', tk, m', news', i, rfl, F', N', off', hJ, hi, rfl⟩
  by_cases hlt : i < n
  · refine wpAny_with_toks (n := tk) (Nat.le_refl _) (wpAny_pyNext_range_item (x := a + (i : Nat)) (left := (n : Int) - (i : Nat)) (step := 1) ((N' _ (.head _)).1) (by omega) fun h₁ hit₁ hs₁ htk₁ => ?_)
    have hk₁ : ∀ b o, b ≠ I → h'.get? b = some o → h₁.get? b = some o := fun b o hb e => hs₁.extBut b o hb e
    have hI₁ : h₁.get? I = some (oAt (i + 1)) := by
      have e1 : a + ((i + 1 : Nat) : Int) = a + (i : Nat) + 1 := by push_cast; omega
      have e2 : (n : Int) - ((i + 1 : Nat) : Int) = (n : Int) - (i : Nat) - 1 := by push_cast; omega
      show _ = some ({ cls := .type "range_iterator", data := .fields #[rawInt (a + ((i + 1 : Nat) : Int)), rawInt ((n : Int) - ((i + 1 : Nat) : Int)), rawInt 1] } : Obj)
      rw [e1, e2]
      exact hit₁
    have F₁ := fr_off F' N' hk₁
    have N₁ := news_off N' off' hI₁ hk₁
    refine wpAny_assign_Name (wpAny_storeName_local hx F₁.ns (fun h₂ hn₂ hs₂ => ?_) hp)
    have F₂ := F₁.set hn₂ hs₂
    have N₂ := N₁.set hs₂
    refine wpAny_mono (turn I i _ m' news' _ h₂ tk _ hlt (Nat.le_succ_of_le htk₁) hJ off' F₂ N₂) (fun f s₃ h₃ => ?_) fun _ _ e => e.elim
    cases f with
    | ret v => exact h₃
    | brk => exact h₃
    | cont =>
      obtain ⟨h₄, tk₄, m₄, news₄, rfl, F₄, N₄, off₄, hJ₄⟩ := h₃
      exact ⟨n + 1 - (i + 1), by omega, h₄, tk₄, m₄, news₄, i + 1, rfl, F₄, N₄, off₄, hJ₄, hlt, rfl⟩
    | next =>
      obtain ⟨h₄, tk₄, m₄, news₄, rfl, F₄, N₄, off₄, hJ₄⟩ := h₃
      exact ⟨n + 1 - (i + 1), by omega, h₄, tk₄, m₄, news₄, i + 1, rfl, F₄, N₄, off₄, hJ₄, hlt, rfl⟩
  · have hin : i = n := by omega
    subst hin
    refine wpAny_with_toks (n := tk) (Nat.le_refl _) (wpAny_pyNext_range_end hh (x := a + (i : Nat)) (left := (i : Int) - (i : Nat)) (step := 1) ((N' _ (.head _)).1) (by omega) fun h₁ he₁ htk₁ => ?_)
    have hk₁ : ∀ b o, b ≠ I → h'.get? b = some o → h₁.get? b = some o := fun b o hb e => he₁ b o hb e
    exact wpAny_mono (fin m' news' h₁ tk tk htk₁ hJ (fr_off F' N' hk₁) fun p hp => by
      have z := N' p (.tail _ hp)
      exact ⟨hk₁ _ _ (off' p hp) z.1, z.2⟩) (fun _ _ x => x) fun _ _ x => x.elim
end
section
variable {prog : Program} {w : World} {A : Around} {E : Value → Shared → Prop} {s : Shared} {Q : Value → Shared → Prop}
theorem kind_hex : builtinKind "hex" = none := by decide +kernel
theorem plain_hex : plainId "hex" = true := by decide +kernel
theorem entry_hex : entryFor table "hex" = some Builtin.«hex» := entryFor_of_fast (by kernel_rfl)
theorem args_hex (a : Value) : argsOk "hex" ⟨[a], []⟩ := by unfold argsOk; kernel_rfl
noncomputable def hexT (i : Int) : Str := (if i < 0 then "-" else "") ++ "0x" ++ String.ofList (Nat.toDigits 16 i.natAbs)
theorem hex_call {i : Int} {t : Tok} (hl : (hexT i).length ≤ 20) (h : Q (.str (hexT i) s.toks) { s with toks := s.toks + 1 }) : wpAny (model prog w) A (call (.builtin "hex") [.int i t]) Q E s := by
  refine call_function_entry kind_hex plain_hex entry_hex (args_hex _) ?_
  show wpAny _ _ (do
    let i ← asIndex (← oneArg "hex" ⟨[.int i t], []⟩)
    retStr ((if i < 0 then "-" else "") ++ "0x" ++ String.ofList (Nat.toDigits 16 i.natAbs))) _ _ s
  refine wpAny_bind (m := oneArg "hex" _) (wpAny_pure ?_)
  refine wpAny_bind (m := asIndex (.int i t)) ?_
  show wpAny _ _ (pure i) _ _ s
  refine wpAny_pure ?_
  exact wpAny_bind (wpAny_mkStr (wpAny_pure ⟨_, rfl, h⟩) (Nat.le_trans hl (by rw [sizeLine_eq]; decide)))
theorem hex_at : ∀ i, i < 12 → (hexT (2 ^ i)).length ≤ 20 ∧ (10 ≤ i → hexT (2 ^ i) = [Str.ofString "0x400", Str.ofString "0x800"].getD (i - 10) (Str.ofString "")) := by decide +kernel
theorem hex_0 : hexT 0 = Str.ofString "0x0" := by decide +kernel
end

end part24
section part26
section
variable {prog : Program} {w : World} {A : Around} {E : Value → Shared → Prop} {s : Shared} {Q : Value → Shared → Prop} {h₀ : Heap} {L : Addr} {m : Str → Option Value} {news : List (Addr × Obj)}
noncomputable def IsLi (o : Obj) (l : Addr) (i : Nat) : Prop := o.cls = .type "list_iterator" ∧ o.data = .fields #[.ref l, .int i 0]
theorem list_iter_call {l : Addr} {vs : List Value} {nn : Nat} (F : Fr h₀ L s.heap m) (N : News h₀ L s.heap news) (hl : (l, listOf vs.toArray nn) ∈ news)
    (h : ∀ I h' oI, IsLi oI l 0 → Fr h₀ L h' m → News h₀ L h' ((I, oI) :: news) → (∀ p ∈ news, p.1 < I) → Q (.ref I) { s with heap := h' }) :
    wpAny (model prog w) A (call (.builtin "iter") [.ref l]) Q E s := by
  refine call_function_entry (by decide +kernel) (by decide +kernel) kdk_entry_iter (kdk_args_iter _) ?_
  unfold Builtin.«iter»
  refine wpAny_bind (m := someArgs "iter" 1 2 _) (wpAny_of_eq (a := [Value.ref l]) (by first | rfl | kernel_rfl!) ?_)
  show wpAny _ _ (pyIter (.ref l) >>= _) _ _ _
  refine wpAny_bind (wpAny_pyIter_list (items := vs.toArray) ⟨_, (N _ hl).1, rfl, nn, rfl⟩ ?_)
  exact wpAny_pure ⟨_, rfl, h _ _ _ ⟨rfl, rfl⟩ (F.push _) (News.push F N _ rfl) fun q hq => Heap.lt_size (N q hq).1⟩
theorem list_next_call {it l : Addr} {vs : List Value} {nn i : Nat} {oI : Obj} {x : Value} (F : Fr h₀ L s.heap m) (N : News h₀ L s.heap ((it, oI) :: news)) (off : Off it news) (hi : IsLi oI l i) (hl : (l, listOf vs.toArray nn) ∈ news) (hx : vs[i]? = some x)
    (h : ∀ h' oI', IsLi oI' l (i + 1) → Fr h₀ L h' m → News h₀ L h' ((it, oI') :: news) → Q x { s with heap := h' }) :
    wpAny (model prog w) A (call (.builtin "next") [.ref it]) Q E s := by
  have hN := N _ (.head _)
  have ho := hN.1
  have hit : s.heap.IsListIter it l i := ⟨oI, ho, hi.1, hi.2⟩
  have hol := (N _ (.tail _ hl)).1
  refine call_function_entry (by decide +kernel) (by decide +kernel) kdk_entry_next (kdk_args_next _) ?_
  unfold Builtin.«next»
  refine wpAny_bind (m := someArgs "next" 1 2 _) (wpAny_of_eq (a := [Value.ref it]) (by first | rfl | kernel_rfl!) ?_)
  dsimp only
  refine wpAny_bind (wpAny_specialOf (name := Str.ofString "__next__") hit.typeIs slot_listiter_next.lookup ?_)
  refine wpAny_ite_split (fun hab => absurd hab (by decide)) (fun _ => ?_)
  refine wpAny_bind (wpAny_callSpecial?_slot (name := Str.ofString "__next__") hit.typeIs slot_listiter_next
    (wpAny_call_entry slot_listiter_next hit.typeIs entry_listiter_next ?_ (args_listiter_next _)))
  have hd := hi.2
  show wpAny _ _ (field (.ref it) 0 >>= _) _ _ s
  refine wpAny_bind (wpAny_field ho hd (x := .ref l) rfl ?_)
  show wpAny _ _ (if (Value.ref l == Value.none) = true then _ else _) _ _ s
  rw [if_neg (show ¬ ((Value.ref l == Value.none) = true) from Bool.false_ne_true)]
  show wpAny _ _ (field (.ref it) 1 >>= _) _ _ s
  refine wpAny_bind (wpAny_field ho hd (x := .int i 0) rfl ?_)
  show wpAny _ _ (seqItems? (.ref l) >>= _) _ _ s
  refine wpAny_bind (wpAny_seqItems hol rfl ?_)
  have hx' : vs.toArray[i]? = some x := by simpa using hx
  simp only [Int.toNat_natCast, hx']
  have hs : Heap.SameBut it s.heap (s.heap.update it (Obj.mapFields (·.setIfInBounds 1 (rawInt ((i : Int) + 1))))) := Heap.SameBut.update ..
  have hit' : (s.heap.update it (Obj.mapFields (·.setIfInBounds 1 (rawInt ((i : Int) + 1))))).get? it = some (Obj.mapFields (·.setIfInBounds 1 (rawInt ((i : Int) + 1))) oI) := Heap.get?_update_self _ ho (Obj.isFreed_of_fields (Obj.data_mapFields hd _))
  refine wpAny_bind (wpAny_setField ho hd (by simp) (wpAny_pure ⟨x, rfl, ?_⟩))
  refine wpAny_pure ⟨_, rfl, h _ _ ⟨(Obj.cls_mapFields ..).trans hi.1, by rw [Obj.data_mapFields hd]; simp [rawInt]⟩ (F.change hs hN.2.1 hN.2.2) (news_off N off hit' fun b o hb e => hs.extBut b o hb e)⟩
end

end part26
section part28
section
variable {prog : Program} {w : World} {A : Around} {s : Shared} {env : Env} {h₀ : Heap}
/-- for x in a text of plain signs -/
theorem for_str {mF : Str → Option Value} (_F₀ : Fr h₀ env.locals s.heap mF) {Q : Flow → Shared → Prop} {E : Value → Shared → Prop} {x : Str} {px pos : Pos} {iter : Expr} {body : List Stmt} (hh : A.handled = none)
    (hx : env.kindOf x = some .local) (hp : (env.scope.kind == .class || (env.scope.kind == .module && env.locals != env.globals)) = false)
    (h : wpAny (model prog w) A (eval iter env) (fun xv s₁ => ∃ (tx : Str) (tt : Tok) (m : Str → Option Value) (news : List (Addr × Obj)) (J : Nat → (Str → Option Value) → List (Addr × Obj) → Nat → Prop),
      xv = .str tx tt ∧ tx.cps.all (· < 128) = true ∧ Fr h₀ env.locals s₁.heap m ∧ News h₀ env.locals s₁.heap news ∧ J 0 m news s₁.toks ∧
      (∀ I i c u m₁ news₁ oI h tk₀ tk, tx.cps[i]? = some c → tk₀ ≤ tk → J i m₁ news₁ tk₀ → Off I news₁ → Fr h₀ env.locals h (fun y => if y = x then some (.str ⟨#[c]⟩ u) else m₁ y) → News h₀ env.locals h ((I, oI) :: news₁) →
        wpAny (model prog w) A (execs body env) (TurnPost h₀ env.locals I oI (J (i + 1)) { s₁ with heap := h, toks := tk } Q) (fun _ _ => False) { s₁ with heap := h, toks := tk }) ∧
      (∀ m news h tk₀ tk, tk₀ ≤ tk → J tx.cps.size m news tk₀ → Fr h₀ env.locals h m → News h₀ env.locals h news → Q .next { s₁ with heap := h, toks := tk })) E s)
    (hs : ∀ x, foldedSetIterable iter env x = pure x := by intro _; rfl) :
    wpAny (model prog w) A (exec (.For (.Name x px) iter body [] pos) env) Q E s := by
  refine wpAny_For (wpAny_mono h (fun xv s₁ h₁ => ?_) fun _ _ e => e) hs
  obtain ⟨tx, tt, m, news, J, rfl, ha, F, N, h0, turn, fin⟩ := h₁
  refine wpAny_pyIter_ascii ha ?_
  refine loopG (n := tx.cps.size) (St := fun i o => o.cls = .type "str_ascii_iterator" ∧ o.data = .fields #[.str tx tt, .int (i : Nat) 0]) (P := fun i _ v => ∃ c u, tx.cps[i]? = some c ∧ v = .str ⟨#[c]⟩ u) J hx hp ?_ ?_ (news := news)
    (F.push _) (N.push F _) (fun p hp => Nat.ne_of_lt (Heap.lt_size (N p hp).1)) ⟨rfl, rfl⟩ h0 ?_ ?_
  · rintro i m news s' oI Q E hi hJ ⟨hc, hd⟩ N' k
    refine wpAny_pyNext_ascii_item (it := s₁.heap.objs.size) (x := tx) (t := tt) (i := i) ⟨oI, (N' _ (.head _)).1, hc, hd⟩ (c := tx.cps[i]) (by simp [hi]) fun h' hit' hs' => ?_
    obtain ⟨o', ho', hc', hd'⟩ := hit'
    exact k _ h' _ o' ⟨_, _, by simp [hi], rfl⟩ ⟨hc', hd'⟩ ho' fun b o hb e => hs'.extBut b o hb e
  · rintro m news s' oI Q E hJ ⟨hc, hd⟩ N' k
    exact wpAny_pyNext_ascii_end hh (it := s₁.heap.objs.size) (x := tx) (t := tt) (i := tx.cps.size) ⟨oI, (N' _ (.head _)).1, hc, hd⟩ (by simp) fun h' he' => k h' s'.toks fun b o hb e => he' b o hb e
  · rintro i v m₁ news₁ oI h tk₀ tk hi ⟨c, u, hc, rfl⟩ htk hJ off F₁ N₁
    exact turn _ i c u m₁ news₁ oI h tk₀ tk hc htk hJ off F₁ N₁
  · exact fin
end

end part28
section part29
section
variable {prog : Program} {w : World} {A : Around} {E : Value → Shared → Prop} {s : Shared} {h₀ : Heap} {L : Addr} {m : Str → Option Value} {env : Env}
open PyProof.Rows.LCg
/-- how an element's evaluation ends: value, ledger and tokens as J says -/
noncomputable def EltEnd (h₀ : Heap) (L : Addr) (m : Str → Option Value) (s₁ : Shared) (I : Addr) (oI : Obj) (C : Addr) (oC : Obj) (D : Addr) (oD : Obj) (J : Value → List (Addr × Obj) → Nat → Prop) (y : Value) (s₂ : Shared) : Prop :=
  ∃ h' tk news', s₂ = { s₁ with heap := h', toks := tk } ∧ Fr h₀ L h' m ∧ News h₀ L h' ((I, oI) :: (C, oC) :: (D, oD) :: news') ∧ Off3 I C D news' ∧ J y news' tk
theorem fr_at {h h' : Heap} {L I : Addr} {m : Str → Option Value} (F : Fr h₀ L h m) (hL : L ≠ I) (hI : h₀.get? I = none) (k : ∀ b o, b ≠ I → h.get? b = some o → h'.get? b = some o) : Fr h₀ L h' m :=
  ⟨F.ns.at' fun o e => k L o hL e, fun b o e => k b o (fun q => by rw [q, hI] at e; cases e) (F.keep b o e), F.above⟩
/-- the comprehension's block over any iterator object, its word over values, ledger and tokens -/
theorem comp_block {elt iter : Expr} {ifs : List Expr} {x : Str} {px : Pos} {scope : Scope} {cl : List (Str × Addr)} {pos : Pos} {I : Addr} {oI₀ : Obj} {n : Nat} (St : Nat → Obj → Prop) (P : Nat → Nat → Value → Prop) (J : Nat → List Value → List (Addr × Obj) → Nat → Prop)
    {news : List (Addr × Obj)} {RR : Value → Addr → Result → Shared → Prop}
    (item : ∀ i ys news (s' : Shared) oI (Q : Option Value → Shared → Prop) (E : Value → Shared → Prop), i < n → J i ys news s'.toks → St i oI → News h₀ L s'.heap ((I, oI) :: news) →
      (∀ v h' tk oI', P i s'.toks v → St (i + 1) oI' → h'.get? I = some oI' → (∀ b o, b ≠ I → s'.heap.get? b = some o → h'.get? b = some o) → Q (some v) { s' with heap := h', toks := tk }) → wpAny (model prog w) A (pyNext (.ref I)) Q E s')
    (done : ∀ ys news (s' : Shared) oI (Q : Option Value → Shared → Prop) (E : Value → Shared → Prop), J n ys news s'.toks → St n oI → News h₀ L s'.heap ((I, oI) :: news) →
      (∀ h' tk, (∀ b o, b ≠ I → s'.heap.get? b = some o → h'.get? b = some o) → Q none { s' with heap := h', toks := tk }) → wpAny (model prog w) A (pyNext (.ref I)) Q E s')
    (self : ∀ oI (s' : Shared) (Q : Value → Shared → Prop) (E : Value → Shared → Prop), St 0 oI → s'.heap.get? I = some oI → Q (.ref I) s' → wpAny (model prog w) A (pyIter (.ref I)) Q E s')
    (hsz : n ≤ sizeLine) (hcell : ∀ y ∈ scope.names, y.2 ≠ .cell) (hkind : scope.kind = .function) (hx : scope.names.lookup x = some .local)
    (F : Fr h₀ L s.heap m) (N : News h₀ L s.heap ((I, oI₀) :: news)) (hst : St 0 oI₀) (off : ∀ p ∈ news, p.1 ≠ I) (hJ : J 0 [] news s.toks)
    (turn : ∀ i v ys news₁ oI C oC D m₂ h tk₀ tk, i < n → P i tk₀ v → tk₀ ≤ tk → J i ys news₁ tk₀ → NsObj oC m₂ → m₂ x = some v → Fr h₀ L h m → News h₀ L h ((I, oI) :: (C, oC) :: (D, lst ys) :: news₁) → Off3 I C D news₁ → ((@Ne Nat I C) ∧ (@Ne Nat I D) ∧ (@Ne Nat C D)) →
      wpAny (model prog w) A (forIn ifs true fun c r => if r = true then do let ok ← isTrue c (compEnvC scope cl C env) (eval c (compEnvC scope cl C env)); pure (ForInStep.yield ok) else pure (ForInStep.yield r)) (fun ok s₃ =>
        if ok = true then wpAny (model prog w) A (eval elt (compEnvC scope cl C env)) (EltEnd h₀ L m { s with heap := h, toks := tk } I oI C oC D (lst ys) (fun y news' tk' => J (i + 1) (ys ++ [y]) news' tk')) (fun _ _ => False) s₃
        else EltEnd h₀ L m { s with heap := h, toks := tk } I oI C oC D (lst ys) (fun _ news' tk' => J (i + 1) ys news' tk') .none s₃) (fun _ _ => False) { s with heap := h, toks := tk })
    (fin : ∀ D C h tk₀ tk m' ys news', tk₀ ≤ tk → Fr h₀ L h m → News h₀ L h ((D, lst ys) :: news') → Off1 D news' → h.Ns C m' → h₀.get? C = none → h₀.get? D = none → C ≠ L → D ≠ L → C ≠ D → (∀ p ∈ news', p.1 ≠ C) → (∀ p ∈ news, p.1 < D) → J n ys news' tk₀ → RR (.ref D) C (.ok .next) { s with heap := h, toks := tk }) :
    wpAny (model prog w) A (newList []) (fun acc s₃ => wpAny (model prog w) A (newFunctionEnv scope env.globals cl [] env.qual none .none (some env)) (fun cenv s₄ =>
      codeAny (model prog w) A (.compStart (.ListComp elt [⟨.Name x px, iter, ifs, 0⟩] scope pos) 0 (.ref I) acc { cenv with scope := relabel scope env }) (RR acc cenv.locals) s₄) E s₃) E s := by
  have zI := N _ (.head _)
  have hIlt : I < s.heap.objs.size := Heap.lt_size zI.1
  have hLlt : L < s.heap.objs.size := F.ns.lt
  refine wpAny_newObj_type (wpAny_newFunctionEnv hcell (by intro y hy; simp at hy) (fun h₁ hns₁ hsb₁ => ?_) hkind)
  dsimp only at hns₁ hsb₁ ⊢
  generalize hH2 : s.heap.push { cls := .type "list", dict := none, data := .seq ([] : List Value).toArray } = H2 at hns₁ hsb₁ ⊢
  have hC : H2.objs.size = s.heap.objs.size + 1 := by rw [← hH2, Heap.size_push]
  generalize hDe : s.heap.objs.size = D at *
  generalize hCe : H2.objs.size = C at *
  have old : ∀ b o, s.heap.get? b = some o → h₁.get? b = some o := fun b o e => by
    have hb : b < D := hDe ▸ Heap.lt_size e
    refine hsb₁.extBut b o ?_ (Heap.get?_push_of_some _ (hH2 ▸ Heap.get?_push_of_some _ e))
    rw [hC]
    exact Nat.ne_of_lt (Nat.lt_succ_of_lt hb)
  have hacc : h₁.get? D = some (lst []) := hsb₁.extBut _ _ (by rw [hC]; exact Nat.ne_of_lt (Nat.lt_succ_self _)) (Heap.get?_push_of_some _ (hH2 ▸ hDe ▸ Heap.get?_push_size _ rfl))
  have fresh : ∀ a, D ≤ a → h₀.get? a = none := fun a ha => Heap.get?_none_of_le (Nat.le_trans F.above (Nat.le_trans (Nat.le_of_lt hLlt) ha))
  have hD₀ : h₀.get? D = none := fresh _ (Nat.le_refl _)
  have hC₀ : h₀.get? C = none := fresh _ (by rw [hC]; exact Nat.le_succ _)
  have hDL : D ≠ L := Nat.ne_of_gt hLlt
  have hCL : C ≠ L := by rw [hC]; exact Nat.ne_of_gt (Nat.lt_succ_of_lt hLlt)
  have hIC : I ≠ C := by rw [hC]; exact Nat.ne_of_lt (Nat.lt_succ_of_lt hIlt)
  have hID : I ≠ D := Nat.ne_of_lt hIlt
  have hCD : C ≠ D := by rw [hC]; exact Nat.ne_of_gt (Nat.lt_succ_self _)
  have below : ∀ p ∈ news, p.1 < D := fun p hp => hDe ▸ Heap.lt_size (N p (.tail _ hp)).1
  have off₀ : Off3 I C D news := Off3.of fun p hp => ⟨off p hp, by rw [hC]; exact Nat.ne_of_lt (Nat.lt_succ_of_lt (below p hp)), Nat.ne_of_lt (below p hp)⟩
  have loop : ∀ s₃ : Shared, s₃ = { s with heap := h₁, toks := s.toks + ([] : List (Str × Value)).length } →
      codeAny (model prog w) A (.compLoop (.ListComp elt [⟨.Name x px, iter, ifs, 0⟩] scope pos) 0 (.ref I) (.ref D) (compEnvC scope cl C env)) (RR (.ref D) C) s₃ := by
    rintro s₃ rfl
    refine codeAny_compLoop_tests
      (fun k s' => ∃ h' tk i ys m' news' oI, s' = { s with heap := h', toks := tk } ∧ i ≤ n ∧ k = n + 1 - i ∧ ys.length ≤ i ∧ St i oI ∧ Fr h₀ L h' m ∧ h'.Ns C m' ∧ News h₀ L h' ((I, oI) :: (D, lst ys) :: news') ∧
        Off3 I C D news' ∧ J i ys news' tk) ?_ (n + 1)
      ⟨h₁, _, 0, [], _, news, oI₀, rfl, Nat.zero_le _, rfl, Nat.le_refl _, hst, F.keeps old, hns₁, fun p hp => ?_, off₀, hJ⟩
    · rintro k s' ⟨h', tk, i, ys, m', news', oI, rfl, hi, rfl, hyl, hst', F', hn', N', off', hJ'⟩
      have off3 := off'.mem
      have NI : News h₀ L h' ((I, oI) :: news') := fun p hp => by
        rcases List.mem_cons.mp hp with rfl | hp
        · exact N' _ (.head _)
        · exact N' p (.tail _ (.tail _ hp))
      by_cases hlt : i < n
      · refine wpAny_with_toks (n := tk) (Nat.le_refl _) (item i ys news' _ oI _ _ hlt hJ' hst' NI fun v h₂ tk₂ oI₂ hPv hst₂ hI₂ hk₂ htk₂ => ?_)
        refine wpAny_assign_Name (wpAny_storeName_local (lookup_relabel_local hx) (hn'.at' fun o e => hk₂ _ o (Ne.symm hIC) e) (fun h₃ hn₃ hs₃ => ?_) (by simp [compEnvC, relabel, hkind]))
        obtain ⟨oC, heC, hoC⟩ := ns_obj hn₃
        have F₃ : Fr h₀ L h₃ m := (fr_at F' (Ne.symm (N' _ (.head _)).2.1) zI.2.2 hk₂).change hs₃ hCL hC₀
        have N₃ : News h₀ L h₃ ((I, oI₂) :: (C, oC) :: (D, lst ys) :: news') := fun p hp => by
          rcases List.mem_cons.mp hp with rfl | hp
          · exact ⟨hs₃.extBut _ _ hIC hI₂, zI.2⟩
          · rcases List.mem_cons.mp hp with rfl | hp
            · exact ⟨heC, hCL, hC₀⟩
            · rcases List.mem_cons.mp hp with rfl | hp
              · exact ⟨hs₃.extBut _ _ (Ne.symm hCD) (hk₂ _ _ (Ne.symm hID) (N' _ (.tail _ (.head _))).1), hDL, hD₀⟩
              · have z := N' p (.tail _ (.tail _ hp))
                exact ⟨hs₃.extBut _ _ (off3 p hp).2.1 (hk₂ _ _ (off3 p hp).1 z.1), z.2⟩
        refine wpAny_mono (turn i v ys news' oI₂ C oC D _ h₃ tk _ hlt hPv (Nat.le_succ_of_le htk₂) hJ' hoC (by simp) F₃ N₃ off' ⟨hIC, hID, hCD⟩) (fun ok s₃ h₃' => ?_) fun _ _ e => e.elim
        cases ok with
        | false =>
          rw [if_neg (by decide)] at h₃' ⊢
          obtain ⟨h₄, tk₄, news₄, rfl, F₄, N₄, off₄, hJ₄⟩ := h₃'
          refine ⟨n + 1 - (i + 1), by omega, h₄, tk₄, i + 1, ys, _, news₄, oI₂, rfl, hlt, rfl, by omega, hst₂, F₄, hoC.ns (N₄ _ (.tail _ (.head _))).1, fun p hp => ?_, off₄, hJ₄⟩
          rcases List.mem_cons.mp hp with rfl | hp
          · exact N₄ _ (.head _)
          · exact N₄ p (.tail _ (.tail _ hp))
        | true =>
          rw [if_pos rfl] at h₃' ⊢
          refine wpAny_mono h₃' (fun y s₄ h₄ => ?_) fun _ _ e => e.elim
          obtain ⟨h₄, tk₄, news₄, rfl, F₄, N₄, off₄, hJ₄⟩ := h₄
          have zI₄ := (N₄ _ (.head _)).1
          have zC₄ := (N₄ _ (.tail _ (.head _))).1
          have zD₄ := (N₄ _ (.tail _ (.tail _ (.head _)))).1
          have off4 := off₄.mem
          refine append_at (hsz := by show ys.toArray.size ≤ sizeLine; rw [List.size_toArray]; exact Nat.le_trans hyl (Nat.le_trans hi hsz)) zD₄ fun h₅ hs₅ hD₅ => ?_
          refine ⟨n + 1 - (i + 1), by omega, h₅, tk₄, i + 1, ys ++ [y], _, news₄, oI₂, rfl, hlt, rfl, by rw [List.length_append, List.length_singleton]; omega, hst₂, F₄.change hs₅ hDL hD₀, (hoC.ns zC₄).sameBut hs₅ hCD, fun p hp => ?_, off₄, hJ₄⟩
          rcases List.mem_cons.mp hp with rfl | hp
          · exact ⟨hs₅.extBut _ _ hID zI₄, zI.2⟩
          · rcases List.mem_cons.mp hp with rfl | hp
            · exact ⟨hD₅.trans (congrArg some (lst_snoc ys y)), hDL, hD₀⟩
            · have z := N₄ p (.tail _ (.tail _ (.tail _ hp)))
              exact ⟨hs₅.extBut _ _ (off4 p hp).2.2 z.1, z.2⟩
      · obtain rfl : i = n := Nat.le_antisymm hi (Nat.not_lt.mp hlt)
        refine wpAny_with_toks (n := tk) (Nat.le_refl _) (done ys news' _ oI _ _ hJ' hst' NI fun h₂ tk₂ hk₂ htk₂ => ?_)
        refine fin D C h₂ tk tk₂ _ ys news' htk₂ (fr_at F' (Ne.symm (N' _ (.head _)).2.1) zI.2.2 hk₂) (fun p hp => ?_) off'.one (hn'.at' fun o e => hk₂ _ o (Ne.symm hIC) e) hC₀ hD₀ hCL hDL hCD (fun p hp => (off3 p hp).2.1) below hJ'
        rcases List.mem_cons.mp hp with rfl | hp
        · exact ⟨hk₂ _ _ (Ne.symm hID) (N' _ (.tail _ (.head _))).1, hDL, hD₀⟩
        · have z := N' p (.tail _ (.tail _ hp))
          exact ⟨hk₂ _ _ (off3 p hp).1 z.1, z.2⟩
    · rcases List.mem_cons.mp hp with rfl | hp
      · exact ⟨old _ _ zI.1, zI.2⟩
      · rcases List.mem_cons.mp hp with rfl | hp
        · exact ⟨hacc, hDL, hD₀⟩
        · exact ⟨old _ _ (N p (.tail _ hp)).1, (N p (.tail _ hp)).2⟩
  exact codeAny_compStart_list (loop _ rfl) (self oI₀ _ _ _ hst (old _ _ zI.1) (loop _ rfl))
/-- an iterable and what its comprehension leaves -/
noncomputable def SrcT (prog : Program) (w : World) (A : Around) (h₀ : Heap) (L : Addr) (m : Str → Option Value) (env : Env) (elt iter : Expr) (ifs : List Expr) (x : Str) (px : Pos) (scope : Scope) (cl : List (Str × Addr)) (pos : Pos)
    (Z : Addr → List Value → List (Addr × Obj) → Nat → Prop) (xv : Value) (s₁ : Shared) : Prop :=
  ∀ (E : Value → Shared → Prop) (RR : Value → Addr → Result → Shared → Prop),
    (∀ D C h tk₀ tk m' ys news', tk₀ ≤ tk → Fr h₀ L h m → News h₀ L h ((D, lst ys) :: news') → Off1 D news' → h.Ns C m' → h₀.get? C = none → h₀.get? D = none → C ≠ L → D ≠ L → C ≠ D → (∀ p ∈ news', p.1 ≠ C) → Z D ys news' tk₀ → RR (.ref D) C (.ok .next) { s₁ with heap := h, toks := tk }) →
    wpAny (model prog w) A (pyIter xv) (fun it s₂ => wpAny (model prog w) A (newList []) (fun acc s₃ => wpAny (model prog w) A (newFunctionEnv scope env.globals cl [] env.qual none .none (some env)) (fun cenv s₄ =>
      codeAny (model prog w) A (.compStart (.ListComp elt [⟨.Name x px, iter, ifs, 0⟩] scope pos) 0 it acc { cenv with scope := relabel scope env }) (RR acc cenv.locals) s₄) E s₃) E s₂) E s₁
/-- one turn's word -/
noncomputable def TurnT (prog : Program) (w : World) (A : Around) (h₀ : Heap) (L : Addr) (m : Str → Option Value) (env : Env) (elt : Expr) (ifs : List Expr) (x : Str) (scope : Scope) (cl : List (Str × Addr)) (n : Nat) (P : Nat → Nat → Value → Prop) (J : Nat → List Value → List (Addr × Obj) → Nat → Prop) (s₁ : Shared) : Prop :=
  ∀ i v ys news₁ oI I C oC D m₂ h tk₀ tk, i < n → P i tk₀ v → tk₀ ≤ tk → J i ys news₁ tk₀ → NsObj oC m₂ → m₂ x = some v → Fr h₀ L h m → News h₀ L h ((I, oI) :: (C, oC) :: (D, lst ys) :: news₁) → Off3 I C D news₁ → ((@Ne Nat I C) ∧ (@Ne Nat I D) ∧ (@Ne Nat C D)) →
    wpAny (model prog w) A (forIn ifs true fun c r => if r = true then do let ok ← isTrue c (compEnvC scope cl C env) (eval c (compEnvC scope cl C env)); pure (ForInStep.yield ok) else pure (ForInStep.yield r)) (fun ok s₃ =>
      if ok = true then wpAny (model prog w) A (eval elt (compEnvC scope cl C env)) (EltEnd h₀ L m { s₁ with heap := h, toks := tk } I oI C oC D (lst ys) (fun y news' tk' => J (i + 1) (ys ++ [y]) news' tk')) (fun _ _ => False) s₃
      else EltEnd h₀ L m { s₁ with heap := h, toks := tk } I oI C oC D (lst ys) (fun _ news' tk' => J (i + 1) ys news' tk') .none s₃) (fun _ _ => False) { s₁ with heap := h, toks := tk }
theorem TurnT.plain {elt : Expr} {x : Str} {scope : Scope} {cl : List (Str × Addr)} {n : Nat} {P : Nat → Nat → Value → Prop} {J : Nat → List Value → List (Addr × Obj) → Nat → Prop} {s₁ : Shared}
    (h : ∀ i v ys news₁ oI I C oC D m₂ h tk₀ tk, i < n → P i tk₀ v → tk₀ ≤ tk → J i ys news₁ tk₀ → NsObj oC m₂ → m₂ x = some v → Fr h₀ L h m → News h₀ L h ((I, oI) :: (C, oC) :: (D, lst ys) :: news₁) → Off3 I C D news₁ → ((@Ne Nat I C) ∧ (@Ne Nat I D) ∧ (@Ne Nat C D)) →
      wpAny (model prog w) A (eval elt (compEnvC scope cl C env)) (EltEnd h₀ L m { s₁ with heap := h, toks := tk } I oI C oC D (lst ys) (fun y news' tk' => J (i + 1) (ys ++ [y]) news' tk')) (fun _ _ => False) { s₁ with heap := h, toks := tk }) :
    TurnT prog w A h₀ L m env elt [] x scope cl n P J s₁ := fun i v ys news₁ oI I C oC D m₂ hh tk₀ tk a b c d e f g k l o => by
  refine wpAny_tests_nil ?_
  rw [if_pos rfl]
  exact h i v ys news₁ oI I C oC D m₂ hh tk₀ tk a b c d e f g k l o
theorem TurnT.test {elt c : Expr} {x : Str} {scope : Scope} {cl : List (Str × Addr)} {n : Nat} {P : Nat → Nat → Value → Prop} {J : Nat → List Value → List (Addr × Obj) → Nat → Prop} {s₁ : Shared}
    (h : ∀ i v ys news₁ oI I C oC D m₂ h tk₀ tk, i < n → P i tk₀ v → tk₀ ≤ tk → J i ys news₁ tk₀ → NsObj oC m₂ → m₂ x = some v → Fr h₀ L h m → News h₀ L h ((I, oI) :: (C, oC) :: (D, lst ys) :: news₁) → Off3 I C D news₁ → ((@Ne Nat I C) ∧ (@Ne Nat I D) ∧ (@Ne Nat C D)) →
      wpAny (model prog w) A (isTrue c (compEnvC scope cl C env) (eval c (compEnvC scope cl C env))) (fun ok s₃ =>
        if ok = true then wpAny (model prog w) A (eval elt (compEnvC scope cl C env)) (EltEnd h₀ L m { s₁ with heap := h, toks := tk } I oI C oC D (lst ys) (fun y news' tk' => J (i + 1) (ys ++ [y]) news' tk')) (fun _ _ => False) s₃
        else EltEnd h₀ L m { s₁ with heap := h, toks := tk } I oI C oC D (lst ys) (fun _ news' tk' => J (i + 1) ys news' tk') .none s₃) (fun _ _ => False) { s₁ with heap := h, toks := tk }) :
    TurnT prog w A h₀ L m env elt [c] x scope cl n P J s₁ := fun i v ys news₁ oI I C oC D m₂ hh tk₀ tk a b c d e f g k l o =>
  wpAny_tests_one (h i v ys news₁ oI I C oC D m₂ hh tk₀ tk a b c d e f g k l o)
theorem src_list {elt iter : Expr} {ifs : List Expr} {x : Str} {px : Pos} {scope : Scope} {cl : List (Str × Addr)} {pos : Pos} {l : Addr} {vs : List Value} {nn : Nat} {s₁ : Shared} {news : List (Addr × Obj)} (J : Nat → List Value → List (Addr × Obj) → Nat → Prop)
    (hh : A.handled = none) (hcell : ∀ y ∈ scope.names, y.2 ≠ .cell) (hkind : scope.kind = .function) (hx : scope.names.lookup x = some .local)
    (hl : ∀ i ys news tk, J i ys news tk → (l, listOf vs.toArray nn) ∈ news) (hsz : vs.length ≤ sizeLine) (F : Fr h₀ L s₁.heap m) (N : News h₀ L s₁.heap news) (h0 : J 0 [] news s₁.toks)
    (turn : ∀ s₂ : Shared, (∃ h, s₂ = { s₁ with heap := h }) → TurnT prog w A h₀ L m env elt ifs x scope cl vs.length (fun i _ v => vs[i]? = some v) J s₂) :
    SrcT prog w A h₀ L m env elt iter ifs x px scope cl pos (fun D ys nx tk => (∀ p ∈ news, p.1 < D) ∧ J vs.length ys nx tk) (.ref l) s₁ := by
  intro E RR fin
  have isl : ∀ {h : Heap} {news : List (Addr × Obj)}, (l, listOf vs.toArray nn) ∈ news → News h₀ L h news → h.IsList l vs.toArray := fun hm N => ⟨_, (N _ hm).1, rfl, nn, rfl⟩
  refine wpAny_pyIter_list (isl (hl _ _ _ _ h0) N) ?_
  refine comp_block (n := vs.length) (St := fun i o => o.cls = .type "list_iterator" ∧ o.data = .fields #[.ref l, .int (i : Nat) 0]) (P := fun i _ v => vs[i]? = some v) J ?_ ?_ ?_ hsz hcell hkind hx (F.push _) (N.push F _) ⟨rfl, rfl⟩ (fun p hp => Nat.ne_of_lt (Heap.lt_size (N p hp).1)) h0 (fun i v ys nw oI C oC D m₂ h tk₀ tk a b c d e f g k l o => turn _ ⟨_, rfl⟩ i v ys nw oI _ C oC D m₂ h tk₀ tk a b c d e f g k l o) ?_
  · rintro i ys news s' oI Q E hi hJ ⟨hc, hd⟩ N' k
    refine wpAny_pyNext_list_item (it := s₁.heap.objs.size) (l := l) (i := i) ⟨oI, (N' _ (.head _)).1, hc, hd⟩ (isl (hl _ _ _ _ hJ) (news_tail N')) (x := vs[i]) (by simp [hi]) fun h' hit' hs' => ?_
    obtain ⟨o', ho', hc', hd'⟩ := hit'
    exact k _ h' _ o' (by simp [hi]) ⟨hc', hd'⟩ ho' fun b o hb e => hs'.extBut b o hb e
  · rintro ys news s' oI Q E hJ ⟨hc, hd⟩ N' k
    exact wpAny_pyNext_list_end hh (it := s₁.heap.objs.size) (l := l) (i := vs.length) ⟨oI, (N' _ (.head _)).1, hc, hd⟩ (isl (hl _ _ _ _ hJ) (news_tail N')) (by simp) fun h' he' => k h' s'.toks fun b o hb e => he' b o hb e
  · rintro oI s' Q E ⟨hc, hd⟩ ho k
    exact wpAny_pyIter_listiter (l := l) (i := 0) ⟨oI, ho, hc, hd⟩ k
  · intro D C h tk₀ tk m' ys news' a b c d e f g hh i j k bel l
    exact fin D C h tk₀ tk m' ys news' a b c d e f g hh i j k ⟨bel, l⟩
theorem src_range {elt iter : Expr} {ifs : List Expr} {x : Str} {px : Pos} {scope : Scope} {cl : List (Str × Addr)} {pos : Pos} {r : Addr} {a b c : Int} {n : Nat} {t u v : Tok} {s₁ : Shared} {news : List (Addr × Obj)} (J : Nat → List Value → List (Addr × Obj) → Nat → Prop)
    (hh : A.handled = none) (hcell : ∀ y ∈ scope.names, y.2 ≠ .cell) (hkind : scope.kind = .function) (hx : scope.names.lookup x = some .local)
    (hr : IsRange s₁.heap r a b c t u v) (hsm : Builtin.Range.small a b c = true) (hn : Builtin.Range.rangeSize a b c = (n : Int)) (hsz : n ≤ sizeLine) (F : Fr h₀ L s₁.heap m) (N : News h₀ L s₁.heap news) (h0 : J 0 [] news s₁.toks)
    (turn : ∀ s₂ : Shared, (∃ h, s₂ = { s₁ with heap := h }) → TurnT prog w A h₀ L m env elt ifs x scope cl n (fun i tk v => v = .int (a + (i : Nat) * c) tk) J s₂) :
    SrcT prog w A h₀ L m env elt iter ifs x px scope cl pos (fun D ys nx tk => (∀ p ∈ news, p.1 < D) ∧ J n ys nx tk) (.ref r) s₁ := by
  intro E RR fin
  refine wpAny_pyIter_range hr hsm ?_
  refine comp_block (n := n) (St := fun i o => o = { cls := .type "range_iterator", data := .fields #[rawInt (a + (i : Nat) * c), rawInt ((n : Int) - (i : Nat)), rawInt c] }) (P := fun i tk v => v = .int (a + (i : Nat) * c) tk) J ?_ ?_ ?_ hsz hcell hkind hx
    (oI₀ := { cls := .type "range_iterator", data := .fields #[rawInt a, rawInt (Builtin.Range.rangeSize a b c), rawInt c] }) (F.push _) (N.push F _) (by rw [hn]; simp) (fun p hp => Nat.ne_of_lt (Heap.lt_size (N p hp).1)) h0 (fun i v ys nw oI C oC D m₂ h tk₀ tk a b c d e f g k l o => turn _ ⟨_, rfl⟩ i v ys nw oI _ C oC D m₂ h tk₀ tk a b c d e f g k l o) ?_
  · rintro i ys news s' oI Q E hi _ rfl N' k
    refine wpAny_pyNext_range_item (x := a + (i : Nat) * c) (left := (n : Int) - (i : Nat)) (step := c) ((N' _ (.head _)).1) (by omega) fun h' hit' hs' => ?_
    refine k _ h' _ _ rfl ?_ hit' fun b o hb e => hs'.extBut b o hb e
    have e1 : a + ((i + 1 : Nat) : Int) * c = a + (i : Nat) * c + c := by push_cast; rw [Int.add_mul, Int.one_mul]; omega
    have e2 : (n : Int) - ((i + 1 : Nat) : Int) = (n : Int) - (i : Nat) - 1 := by push_cast; omega
    rw [e1, e2]
  · rintro ys news s' oI Q E _ rfl N' k
    exact wpAny_pyNext_range_end hh (x := a + (n : Nat) * c) (left := (n : Int) - (n : Nat)) (step := c) ((N' _ (.head _)).1) (by omega) fun h' he' => k h' s'.toks fun b o hb e => he' b o hb e
  · rintro oI s' Q E rfl ho k
    exact wpAny_pyIter_rangeiter (x := a + ((0 : Nat) : Int) * c) (left := (n : Int) - ((0 : Nat) : Int)) (step := c) ho k
  · intro D C h tk₀ tk m' ys news' a b c d e f g hh i j k bel l
    exact fin D C h tk₀ tk m' ys news' a b c d e f g hh i j k ⟨bel, l⟩
/-- a comprehension's value -/
theorem comp_e {elt iter : Expr} {ifs : List Expr} {x : Str} {px : Pos} {scope : Scope} {cl : List (Str × Addr)} {pos : Pos} {Q : Value → Shared → Prop} (_F₀ : Fr h₀ L s.heap m)
    (hclos : closureFor scope env = pure cl) (hkind : scope.kind = .function)
    (hnames : ∀ y ∈ scope.names, y.2 = .local → scope.names.lookup y.1 = some .local)
    (h : wpAny (model prog w) A (eval iter env) (fun xv s₁ => ∃ Z, SrcT prog w A h₀ L m env elt iter ifs x px scope cl pos Z xv s₁ ∧
      ∀ D ys news' h tk₀ tk, tk₀ ≤ tk → Z D ys news' tk₀ → Fr h₀ L h m → News h₀ L h ((D, lst ys) :: news') → Off1 D news' → Q (.ref D) { s₁ with heap := h, toks := tk }) E s)
    (hs : ∀ x, foldedSetIterable iter env x = pure x := by intro _; rfl) :
    wpAny (model prog w) A (eval (.ListComp elt [⟨.Name x px, iter, ifs, 0⟩] scope pos) env) Q E s := by
  rw [eval_ListComp]
  refine wpAny_comprehension_free (use := none) rfl hs hclos hkind hnames (wpAny_mono h (fun xv s₁ h₁ => ?_) fun _ _ e => e)
  obtain ⟨Z, hZ, hQ⟩ := h₁
  refine hZ E _ ?_
  intro D C h tk₀ tk m' ys news' htk F' N' o1 hn hC₀ hD₀ hCL hDL hCD offC hJ
  refine ⟨m', hn, fun h'' hs'' => hQ D ys news' h'' tk₀ tk htk hJ (F'.change hs'' hCL hC₀) (fun p hp => ?_) o1⟩
  refine ⟨hs''.extBut _ _ ?_ (N' p hp).1, (N' p hp).2⟩
  rcases List.mem_cons.mp hp with rfl | hp
  · exact Ne.symm hCD
  · exact offC p hp
/-- a comprehension that an assignment takes -/
theorem comp_a {elt iter : Expr} {ifs : List Expr} {x y : Str} {px py : Pos} {scope : Scope} {cl : List (Str × Addr)} {pos spos : Pos} {Q : Flow → Shared → Prop} (_F₀ : Fr h₀ env.locals s.heap m)
    (hsw : swapsWith (.ListComp elt [⟨.Name x px, iter, ifs, 0⟩] scope pos) (some (.Name y py)) spos.line env = pure true)
    (hclos : closureFor scope env = pure cl) (hkind : scope.kind = .function)
    (hnames : ∀ z ∈ scope.names, z.2 = .local → scope.names.lookup z.1 = some .local)
    (hy : env.kindOf y = some .local) (hp : (env.scope.kind == .class || (env.scope.kind == .module && env.locals != env.globals)) = false)
    (h : wpAny (model prog w) A (eval iter env) (fun xv s₁ => ∃ Z, SrcT prog w A h₀ env.locals m env elt iter ifs x px scope cl pos Z xv s₁ ∧
      ∀ D ys news' h tk₀ tk, tk₀ ≤ tk → Z D ys news' tk₀ → Fr h₀ env.locals h (fun z => if z = y then some (.ref D) else m z) → News h₀ env.locals h ((D, lst ys) :: news') → Off1 D news' → Q .next { s₁ with heap := h, toks := tk }) E s)
    (hs : ∀ x, foldedSetIterable iter env x = pure x := by intro _; rfl) :
    wpAny (model prog w) A (exec (.Assign [.Name y py] (.ListComp elt [⟨.Name x px, iter, ifs, 0⟩] scope pos) spos) env) Q E s := by
  rw [exec_Assign_Name_used _ _ _ _ hsw]
  refine wpAny_bind (wpAny_standAt (wpAny_bind ?_))
  show wpAny _ A (do let _ ← comprehension (.ListComp elt [⟨.Name x px, iter, ifs, 0⟩] scope pos) scope env _ (newList []) false (eval iter env) (some (assign (.Name y py) env))) _ _ s
  refine wpAny_bind (wpAny_mono (wpAny_comprehension_free (use := some (assign (.Name y py) env)) (Q := fun _ s' => Q .next s') rfl hs hclos hkind hnames
    (wpAny_mono h (fun xv s₁ h₁ => ?_) fun _ _ e => e)) (fun _ s' hq => wpAny_pure (wpAny_pure hq)) fun _ _ e => e)
  obtain ⟨Z, hZ, hQ⟩ := h₁
  refine hZ E _ ?_
  intro D C h' tk₀ tk m' ys news' htk F' N' o1 hn hC₀ hD₀ hCL hDL hCD offC hJ
  show wpAny _ A (assign (.Name y py) env (.ref D)) _ _ _
  refine wpAny_assign_Name (wpAny_storeName_local hy F'.ns (fun h₂ hn₂ hs₂ => ?_) hp)
  have F₂ := F'.set hn₂ hs₂
  have N₂ := N'.set hs₂
  refine ⟨m', hn.sameBut hs₂ hCL, fun h'' hs'' => hQ D ys news' h'' tk₀ _ (Nat.le_succ_of_le htk) hJ (F₂.change hs'' hCL hC₀) (fun p hp => ?_) o1⟩
  refine ⟨hs''.extBut _ _ ?_ (N₂ p hp).1, (N₂ p hp).2⟩
  rcases List.mem_cons.mp hp with rfl | hp
  · exact Ne.symm hCD
  · exact offC p hp
end

end part29
local macro_rules | `(tactic| walk_at "MAPK") => `(tactic| (repeat (first | exact List.forall_mem_nil _ | refine List.forall_mem_cons.mpr ⟨by with_unfolding_all rfl, ?_⟩)))
local macro_rules | `(tactic| walk_at "MAPY") => `(tactic| (intro y hy; simp only [List.forall_mem_cons, List.not_mem_nil, false_implies, implies_true, and_true, ne_eq] at hy; simp [hy]))
local macro_rules | `(tactic| walk_at "TurnPost") => `(tactic| (dsimp only [TurnPost]))
local macro_rules | `(tactic| walk_at "compareOp Is int int") => `(tactic| (k_here; refine is_int (by assumption) (by assumption) (by assumption) (by first | assumption | (intro _; assumption)) ?_))
local macro_rules | `(tactic| walk_at "compareOp Is str str") => `(tactic| (k_here; refine is_str (by k_in) (by assumption) (by assumption) (by assumption) ?_; intro bIs hIs))
section part34
/-- the flags' names, in the order of their bits -/
noncomputable def nm (i : Nat) : Str := [Str.ofString "OPTIMIZED", Str.ofString "NEWLOCALS", Str.ofString "VARARGS", Str.ofString "VARKEYWORDS", Str.ofString "NESTED", Str.ofString "GENERATOR", Str.ofString "NOFREE", Str.ofString "COROUTINE", Str.ofString "ITERABLE_COROUTINE", Str.ofString "ASYNC_GENERATOR", Str.ofString "0x400", Str.ofString "0x800"].getD i (Str.ofString "0x0")
theorem get88 {K : Frag} {prog : Program} {w : World} {h : Heap} {es : Array DictEntry} {n : Nat} (X : K.In h) (hl : K.lookup 88 = some ⟨.type "dict", none, .dict es n, #[]⟩) (ks : PySem.KeysOf (intKind prog w) es)
    (f1 : ∀ i, i < 10 → ∃ t, findBy Value.isInt es ((2 : Int) ^ i) = some (.str (nm i) t) ∧ t ≠ 0 ∧ t < 449) (f2 : findBy Value.isInt es ((2 : Int) ^ 10) = none) (f3 : findBy Value.isInt es ((2 : Int) ^ 11) = none) :
    ∃ f, h.MapOf (intKind prog w) 88 f ∧ (∀ i, i < 10 → ∃ t, f (2 ^ i) = some (.str (nm i) t) ∧ t ≠ 0 ∧ t < 449) ∧ f (2 ^ 10) = none ∧ f (2 ^ 11) = none :=
  ⟨_, ⟨⟨.type "dict", none, .dict es n, #[]⟩, es, n, X _ _ hl, ⟨rfl, rfl, rfl⟩, rfl, ks, fun _ => rfl⟩, f1, f2, f3⟩
theorem dict88 {w : World} {h : Heap} : (Mine.hd.heap_39 w.params).In h → PySem.Challenge.rw_wj0037_01.row = PySem.Challenge.rw_wj0037_01.row → ∃ f, h.MapOf (intKind PySem.Challenge.rw_wj0037_01.row.prog w) 88 f ∧ (∀ i, i < 10 → ∃ t, f (2 ^ i) = some (.str (nm i) t) ∧ t ≠ 0 ∧ t < 449) ∧ f (2 ^ 10) = none ∧ f (2 ^ 11) = none := by
  k_fill
  intro X _
  refine' get88 X ?g ?ks ?f1 ?f2 ?f3
  case g => k_dflt k_is
  case ks =>
    intro e he
    simp only [List.mem_toArray, List.mem_cons, List.not_mem_nil, or_false] at he
    rcases he with rfl | rfl | rfl | rfl | rfl | rfl | rfl | rfl | rfl | rfl
    · exact ⟨1, rfl, by kernel_rfl⟩
    · exact ⟨2, rfl, by kernel_rfl⟩
    · exact ⟨4, rfl, by kernel_rfl⟩
    · exact ⟨8, rfl, by kernel_rfl⟩
    · exact ⟨16, rfl, by kernel_rfl⟩
    · exact ⟨32, rfl, by kernel_rfl⟩
    · exact ⟨64, rfl, by kernel_rfl⟩
    · exact ⟨128, rfl, by kernel_rfl⟩
    · exact ⟨256, rfl, by kernel_rfl⟩
    · exact ⟨512, rfl, by kernel_rfl⟩
  case f1 =>
    intro i hi
    have h10 : i = 0 ∨ i = 1 ∨ i = 2 ∨ i = 3 ∨ i = 4 ∨ i = 5 ∨ i = 6 ∨ i = 7 ∨ i = 8 ∨ i = 9 := by omega
    rcases h10 with rfl | rfl | rfl | rfl | rfl | rfl | rfl | rfl | rfl | rfl <;> exact ⟨_, rfl, by decide, by decide⟩
  case f2 => rfl
  case f3 => rfl
section
variable {w : World} {A : Around} {E : Value → Shared → Prop} {s : Shared} {Q : Value → Shared → Prop}
/-- COMPILER_FLAG_NAMES.get(2 ** i, d) -/
theorem flag_get {i : Nat} {t : Tok} {d : Value} (X : (Mine.hd.heap_39 w.params).In s.heap) (hi : i < 12)
    (h : ∀ v, (i < 10 → ∃ t, v = .str (nm i) t ∧ t ≠ 0 ∧ t < 449) → (10 ≤ i → v = d) → Q v { s with toks := s.toks + 1 }) :
    wpAny (model PySem.Challenge.rw_wj0037_01.row.prog w) A (call (.builtin "dict.get") [.ref 88, .int (2 ^ i) t, d]) Q E s := by
  obtain ⟨f, hm, h1, h2, h3⟩ := dict88 X rfl
  have hT : s.TypeIs (.ref 88) "dict" := by obtain ⟨o, _, _, ho, hc, _⟩ := hm; exact ⟨o, ho, hc.1⟩
  refine call_meetsIn PySem.F.slot_dict_get hT PySem.F.entry_dict_get (PySem.F.args_dict_get_3 _ _ _) (meets_dict_get_default (intKind _ w) 88 (intKind_is _ w _ _) (by decide) d) ⟨f, hm, ?_⟩
  refine h _ (fun hlt => ?_) fun hge => ?_
  · obtain ⟨u, e, e1, e2⟩ := h1 i hlt
    exact ⟨u, by rw [e]; rfl, e1, e2⟩
  · have : i = 10 ∨ i = 11 := by omega
    rcases this with rfl | rfl
    · rw [h2]; rfl
    · rw [h3]; rfl
end

end part34
section part12
section
open Builtin Builtin.Str
noncomputable def occStep (s sub : Str) (hi limit : Nat) (st : Array Nat × Nat) (i : Nat) : Array Nat × Nat :=
  if ((st.fst.size < limit ∧ st.snd ≤ i) ∧ i + sub.length ≤ hi) ∧ subAt s sub i = true then (st.fst.push i, i + sub.length) else st
theorem occ_foldl (s sub : Str) (hi limit : Nat) : ∀ (l : List Nat) (st : Array Nat × Nat), (forIn l st (StrLaws.occBody s sub hi limit)).run = l.foldl (occStep s sub hi limit) st
  | [], _ => rfl
  | a :: l, st => by
    rw [List.forIn_cons, List.foldl_cons]
    unfold StrLaws.occBody occStep
    split
    · exact occ_foldl s sub hi limit l _
    · exact occ_foldl s sub hi limit l _
theorem foldl_still {s sub : Str} {hi limit : Nat} : ∀ (l : List Nat) (st : Array Nat × Nat), (∀ i ∈ l, ¬ (i + sub.length ≤ hi ∧ subAt s sub i = true)) → l.foldl (occStep s sub hi limit) st = st
  | [], _, _ => rfl
  | a :: l, st, h => by
    rw [List.foldl_cons]
    have e : occStep s sub hi limit st a = st := by
      unfold occStep
      rw [if_neg fun c => h a (.head _) ⟨c.1.2, c.2⟩]
    rw [e]
    exact foldl_still l st fun i hi' => h i (.tail _ hi')
noncomputable def jn : List (List Nat) → List Nat
  | [] => []
  | [n] => n
  | n :: m :: r => n ++ 44 :: 32 :: jn (m :: r)
noncomputable def cutsAt : Nat → List (List Nat) → List Nat
  | _, [] => []
  | _, [_] => []
  | off, n :: m :: r => (off + n.length) :: cutsAt (off + n.length + 2) (m :: r)
noncomputable def sepS : Str := Str.ofString ", "
theorem sep_cps : sepS = ⟨#[44, 32]⟩ := by decide +kernel
theorem sub_at {s : Str} {i : Nat} (h : subAt s sepS i = true) : s.cps.toList[i]? = some 44 := by
  rw [sep_cps, StrLaws.subAt_eq] at h
  have h' : (s.cps.toList.drop i).take 2 = [44, 32] := by simpa [Str.length] using h
  cases e : s.cps.toList.drop i with
  | nil => rw [e] at h'; simp at h'
  | cons a r =>
    rw [e] at h'
    have : s.cps.toList[i]? = some a := by rw [← List.head?_drop, e]; rfl
    rw [this]
    simp at h'
    rw [h'.1]
theorem occ_jn (s : Str) (limit : Nat) : ∀ (N : List (List Nat)) (pre : List Nat) (found : Array Nat), N ≠ [] → s.cps.toList = pre ++ jn N → (∀ n ∈ N, 44 ∉ n) → found.size + N.length ≤ limit →
    ((List.range' pre.length (s.length + 1 - pre.length)).foldl (occStep s sepS s.length limit) (found, pre.length)).1 = found ++ (cutsAt pre.length N).toArray
  | [], _, _, h, _, _, _ => absurd rfl h
  | [n], pre, found, _, hs, hn, hl => by
    have hsz : s.length = pre.length + n.length := by
      show s.cps.size = _
      rw [← Array.length_toList, hs]; simp [jn]
    rw [foldl_still]
    · simp [cutsAt]
    · intro i hi hc
      have h2 : sepS.length = 2 := by rw [sep_cps]; rfl
      have hm := List.mem_range'.mp hi
      obtain ⟨k, hk, rfl⟩ := hm
      have := sub_at hc.2
      rw [hs] at this
      rw [h2, hsz] at hc
      have hk2 : k < n.length := by omega
      simp only [jn, Nat.one_mul] at this
      rw [List.getElem?_append_right (by omega)] at this
      have e : pre.length + k - pre.length = k := by omega
      rw [e] at this
      exact hn n (.head _) (List.mem_of_getElem? this)
  | n :: m :: r, pre, found, _, hs, hn, hl => by
    have hs' : s.cps.toList = (pre ++ n ++ [44, 32]) ++ jn (m :: r) := by rw [hs]; simp [jn]
    have hsz : s.length = pre.length + n.length + 2 + (jn (m :: r)).length := by
      show s.cps.size = _
      rw [← Array.length_toList, hs']; simp; omega
    have h2 : sepS.length = 2 := by rw [sep_cps]; rfl
    have e1 : s.length + 1 - pre.length = n.length + (1 + (1 + (s.length + 1 - (pre.length + n.length + 2)))) := by omega
    rw [e1, ← List.range'_append_1, List.foldl_append, ← List.range'_append_1, List.foldl_append, ← List.range'_append_1, List.foldl_append, foldl_still (List.range' pre.length n.length)]
    · have hat : subAt s sepS (pre.length + n.length) = true := by
        rw [StrLaws.subAt_eq, sep_cps, hs']
        have e : (pre ++ n ++ [44, 32] ++ jn (m :: r)).drop (pre.length + n.length) = 44 :: 32 :: jn (m :: r) := by
          rw [List.append_assoc, ← List.length_append, List.drop_left]; rfl
        rw [e]
        rfl
      have step : List.foldl (occStep s sepS s.length limit) (found, pre.length) (List.range' (pre.length + n.length) 1) = (found.push (pre.length + n.length), pre.length + n.length + 2) := by
        show occStep s sepS s.length limit (found, pre.length) (pre.length + n.length) = _
        unfold occStep
        rw [if_pos, h2]
        refine ⟨⟨⟨?_, ?_⟩, ?_⟩, hat⟩
        · simp only [List.length_cons] at hl; show found.size < limit; omega
        · show pre.length ≤ pre.length + n.length; omega
        · rw [h2, hsz]; omega
      rw [step]
      have step2 : ∀ st, List.foldl (occStep s sepS s.length limit) st (List.range' (pre.length + n.length + 1) 1) = st := by
        intro st
        refine foldl_still _ _ fun i hi hc => ?_
        have : i = pre.length + n.length + 1 := by simpa using hi
        subst this
        have := sub_at hc.2
        rw [hs', List.getElem?_append_left (by simp; omega), List.getElem?_append_right (by simp)] at this
        simp at this
      rw [step2]
      have ih := occ_jn s limit (m :: r) (pre ++ n ++ [44, 32]) (found.push (pre.length + n.length)) (by simp) hs' (fun x hx => hn x (.tail _ hx)) (by simp only [List.length_cons] at hl ⊢; simp only [Array.size_push]; omega)
      have e3 : (pre ++ n ++ [44, 32]).length = pre.length + n.length + 2 := by simp; omega
      rw [e3] at ih
      have e4 : pre.length + n.length + 1 + 1 = pre.length + n.length + 2 := rfl
      rw [e4, ih]
      simp [cutsAt]
    · intro i hi hc
      obtain ⟨k, hk, rfl⟩ := List.mem_range'.mp hi
      have := sub_at hc.2
      rw [hs, List.getElem?_append_right (by omega)] at this
      simp only [jn, Nat.one_mul] at this
      have e : pre.length + k - pre.length = k := by omega
      rw [e, List.getElem?_append_left hk] at this
      exact hn n (.head _) (List.mem_of_getElem? this)
theorem parts_jn (s : Str) : ∀ (N : List (List Nat)) (pre : List Nat), N ≠ [] → s.cps.toList = pre ++ jn N →
    ((pre.length :: (cutsAt pre.length N).map (· + 2)).zip (cutsAt pre.length N ++ [s.length])).map (fun p => (strSub s p.1 p.2).cps.toList) = N
  | [], _, h, _ => absurd rfl h
  | [n], pre, _, hs => by
    have hsz : s.length = pre.length + n.length := by
      show s.cps.size = _
      rw [← Array.length_toList, hs]; simp [jn]
    simp only [cutsAt, List.map_nil, List.nil_append, List.zip_cons_cons, List.zip_nil_left, List.map_cons, StrLaws.strSub_toList]
    rw [hs, List.drop_left, hsz]
    simp [jn]
  | n :: m :: r, pre, _, hs => by
    have hs' : s.cps.toList = (pre ++ n ++ [44, 32]) ++ jn (m :: r) := by rw [hs]; simp [jn]
    have e3 : (pre ++ n ++ [44, 32]).length = pre.length + n.length + 2 := by simp; omega
    have ih := parts_jn s (m :: r) (pre ++ n ++ [44, 32]) (by simp) hs'
    rw [e3] at ih
    show ((pre.length :: ((pre.length + n.length) :: cutsAt (pre.length + n.length + 2) (m :: r)).map (· + 2)).zip ((pre.length + n.length) :: cutsAt (pre.length + n.length + 2) (m :: r) ++ [s.length])).map _ = _
    rw [List.map_cons, List.cons_append, List.zip_cons_cons, List.map_cons, ih]
    congr 1
    simp only [StrLaws.strSub_toList]
    rw [hs, List.drop_left]
    have e : pre.length + n.length - pre.length = n.length := by omega
    rw [e]
    simp [jn]
theorem glued_jn : ∀ Ns : List Str, (glued sepS Ns).cps.toList = jn (Ns.map (·.cps.toList)) := by
  intro Ns
  rw [StrLaws.glued_eq_join]
  induction Ns with
  | nil => rfl
  | cons x r ih =>
    cases r with
    | nil => rfl
    | cons y r =>
      show ((x ++ sepS ++ Str.join sepS (y :: r)).cps.toList) = _
      rw [Str.cps_append, Str.cps_append, Array.toList_append, Array.toList_append, ih, show sepS.cps.toList = [44, 32] from by rw [sep_cps]]
      simp [jn]
theorem jn_len : ∀ N : List (List Nat), N.length ≤ (jn N).length + 1
  | [] => by simp
  | [_] => by simp [jn]
  | n :: m :: r => by have := jn_len (m :: r); simp only [jn, List.length_append, List.length_cons] at *; omega
theorem occ_glued {Ns : List Str} (hne : Ns ≠ []) (hn : ∀ y ∈ Ns, 44 ∉ y.cps.toList) : occurrences (glued sepS Ns) sepS 0 (glued sepS Ns).length ((glued sepS Ns).length + 1) = cutsAt 0 (Ns.map (·.cps.toList)) := by
  rw [StrLaws.occ_eq, occ_foldl]
  have hl : (glued sepS Ns).length = (jn (Ns.map (·.cps.toList))).length := by
    show (glued sepS Ns).cps.size = _
    rw [← Array.length_toList, glued_jn]
  have k := occ_jn (glued sepS Ns) ((glued sepS Ns).length + 1) (Ns.map (·.cps.toList)) [] #[] (by simpa using hne) (by rw [glued_jn]; rfl) (fun n h => by obtain ⟨y, hy, rfl⟩ := List.mem_map.mp h; exact hn y hy)
    (by have := jn_len (Ns.map (·.cps.toList)); rw [hl]; simpa using this)
  simp only [List.length_nil, Nat.sub_zero] at k
  simp only [Nat.sub_zero]
  rw [k]
  simp
theorem parts_glued {Ns : List Str} (hne : Ns ≠ []) : partsBetween (glued sepS Ns) (cutsAt 0 (Ns.map (·.cps.toList))) 2 = Ns := by
  have k := parts_jn (glued sepS Ns) (Ns.map (·.cps.toList)) [] (by simpa using hne) (by rw [glued_jn]; rfl)
  have inj : ∀ (a b : List Str), a.map (·.cps.toList) = b.map (·.cps.toList) → a = b := by
    intro a b h
    have := List.map_inj_right (f := fun y : Str => y.cps.toList) (l := a) (l' := b) (fun x y e => Str.ext' (Array.toList_inj.mp e))
    exact this.mp h
  apply inj
  unfold partsBetween
  rw [List.map_map]
  exact k
/-- the bits of F, rising -/
noncomputable def bitsOf (F : Nat) : List Nat := (List.range 12).filter fun i => F / 2 ^ i % 2 == 1
noncomputable def nms (F : Nat) : List Str := (bitsOf F).map nm
noncomputable def prettyT (F : Nat) : Str := if F = 0 then Str.ofString "0x0" else glued sepS (nms F)
theorem nm_clean : ∀ i, i < 12 → 44 ∉ (nm i).cps.toList := by decide +kernel
theorem nm_size : ∀ i, i < 12 → 3 ≤ (nm i).length ∧ (nm i).length ≤ 20 ∧ (nm i).cps.all (· < 256) = true := by decide +kernel
end

end part12
section part14
section
open Builtin Builtin.Str
noncomputable def wrds (F : Nat) : List Str := if F = 0 then [Str.ofString "0x0"] else nms F
theorem pretty_glued (F : Nat) : prettyT F = glued sepS (wrds F) := by
  unfold prettyT wrds
  by_cases h : F = 0
  · rw [if_pos h, if_pos h]; rfl
  · rw [if_neg h, if_neg h]
/-- texts and their tokens -/
noncomputable def TP (lo : Nat) (ps : List (Str × Nat)) : Prop := ∀ p ∈ ps, p.2 ≠ 0 ∧ (p.2 < 449 ∨ lo ≤ p.2)
variable {prog : Program} {w : World} {A : Around} {E : Value → Shared → Prop} {s : Shared} {Q : Value → Shared → Prop} {h₀ : Heap} {L : Addr} {m : Str → Option Value} {news : List (Addr × Obj)}
theorem glued_size_le {ps : List Str} (h1 : ps.length ≤ 40) (h2 : ∀ y ∈ ps, y.length ≤ 20) : (glued sepS ps).length ≤ 1000 := by
  rw [PySem.size_glued, show sepS.length = 2 from by rw [sep_cps]; rfl]
  have := StrLaws.sumLen_le ps h2
  omega
theorem join_call {ps : List (Str × Nat)} {l : Addr} {c lo : Nat} {t : Tok} (N : News h₀ L s.heap news) (hl : (l, listOf (strValues ps).toArray c) ∈ news) (h1 : ps.length ≤ 40) (h2 : ∀ p ∈ ps, p.1.length ≤ 20) (hp : TP lo ps) (hlo : lo ≤ s.toks) (h0 : s.toks ≠ 0)
    (h : ∀ t' tk, s.toks ≤ tk → t' ≠ 0 → (t' < 449 ∨ lo ≤ t') → Q (.str (glued sepS (ps.map (·.1))) t') { s with toks := tk }) :
    wpAny (model prog w) A (call (.builtin "str.join") [.str sepS t, .ref l]) Q E s := by
  have h2' : ∀ y ∈ ps.map (·.1), y.length ≤ 20 := fun y hy => by obtain ⟨p, hp, rfl⟩ := List.mem_map.mp hy; exact h2 p hp
  have h1' : (ps.map (·.1)).length ≤ 40 := by simpa using h1
  have hfit : tooLong ((ps.map (·.1)).toArray.foldl (· + ·.length + sepS.length) 0) = false := by
    rw [StrLaws.joinTotal, show sepS.length = 2 from by rw [sep_cps]; rfl]
    have := StrLaws.sumLen_le (ps.map (·.1)) h2'
    unfold tooLong
    have e : sizeLine = 16777216 := sizeLine_eq
    rw [e]
    exact decide_eq_false (by omega)
  have hg := glued_size_le h1' h2'
  refine call_meets PySem.F.slot_str_join rfl PySem.F.entry_str_join (PySem.F.args_str_join_2 _ _) (meets_str_join_list sepS t l ps hfit) ⟨⟨_, (N _ hl).1, rfl, c, rfl⟩, ?_⟩
  have big : (joinMade sepS ps = .str (glued sepS (ps.map (·.1)))) → (joinMade sepS ps).post (fun v s' => wants Q E (.ok (.ret v)) s') s := by
    intro e
    rw [e]
    exact ⟨Nat.le_trans hg (by rw [sizeLine_eq]; decide), h _ _ (Nat.le_succ _) h0 (.inr hlo)⟩
  match ps, hp, big, h with
  | [], _, big, _ => exact big rfl
  | [p], hp, _, h =>
    show wants Q E (.ok (.ret (.str p.1 p.2))) s
    have z := hp p (.head _)
    exact h p.2 s.toks (Nat.le_refl _) z.1 z.2
  | p :: q :: r, _, big, _ => exact big rfl
noncomputable def tagFrom : Nat → List Str → List (Str × Nat)
  | _, [] => []
  | k, x :: r => (x, k) :: tagFrom (k + 1) r
theorem strsFrom_tag : ∀ (Ns : List Str) (k : Nat), strsFrom k Ns = strValues (tagFrom k Ns)
  | [], _ => rfl
  | x :: r, k => by
    show Value.str x k :: strsFrom (k + 1) r = Value.str x k :: strValues (tagFrom (k + 1) r)
    rw [strsFrom_tag r (k + 1)]
theorem tag_fst : ∀ (Ns : List Str) (k : Nat), (tagFrom k Ns).map (·.1) = Ns
  | [], _ => rfl
  | x :: r, k => by show x :: (tagFrom (k + 1) r).map (·.1) = _; rw [tag_fst r]
theorem tag_tok : ∀ (Ns : List Str) (k : Nat), ∀ p ∈ tagFrom k Ns, k ≤ p.2 ∧ p.2 < k + Ns.length
  | [], _, _, h => nomatch h
  | x :: r, k, p, h => by
    rcases List.mem_cons.mp h with rfl | h
    · exact ⟨Nat.le_refl _, by simp⟩
    · have := tag_tok r (k + 1) p h
      simp only [List.length_cons]
      exact ⟨by omega, by omega⟩
theorem kind_ge (x : Str) : 1 ≤ Builtin.Str.strKind x := by
  unfold Builtin.Str.strKind
  split
  · exact Nat.le_refl _
  · split <;> decide
theorem split_call {Ns : List Str} {lo : Nat} {u v : Tok} (F : Fr h₀ L s.heap m) (N : News h₀ L s.heap news) (hne : Ns ≠ []) (hn : ∀ y ∈ Ns, 44 ∉ y.cps.toList) (h3 : ∀ y ∈ Ns, 3 ≤ y.length ∧ y.length ≤ 20) (h1 : Ns.length ≤ 40)
    (hu0 : u ≠ 0) (hu : u < 449 ∨ lo ≤ u) (hlo : lo ≤ s.toks) (h0 : s.toks ≠ 0)
    (h : ∀ l qs h' tk, qs.map (·.1) = Ns → TP lo qs → s.toks ≤ tk → Fr h₀ L h' m → News h₀ L h' ((l, listOf (strValues qs).toArray 0) :: news) → (∀ p ∈ news, p.1 < l) → Q (.ref l) { s with heap := h', toks := tk }) :
    wpAny (model prog w) A (call (.builtin "str.split") [.str (glued sepS Ns) u, .str (Str.ofString ", ") v]) Q E s := by
  show wpAny (model prog w) A (call (.builtin "str.split") [.str (glued sepS Ns) u, .str sepS v]) Q E s
  have hg := glued_size_le h1 fun y hy => (h3 y hy).2
  have hlen : 3 ≤ (glued sepS Ns).length := by
    rw [PySem.size_glued]
    cases Ns with
    | nil => exact absurd rfl hne
    | cons y r =>
      have := (h3 y (.head _)).1
      simp only [List.map_cons, List.sum_cons]
      omega
  have s2 : sepS.length = 2 := by rw [sep_cps]; rfl
  have hk : Builtin.Str.strKind sepS = 1 := by decide +kernel
  have c1 : (decide ((glued sepS Ns).length < sepS.length) || decide (Builtin.Str.strKind (glued sepS Ns) < Builtin.Str.strKind sepS)) = false := by
    rw [s2, hk, Bool.or_eq_false_iff]
    exact ⟨decide_eq_false (by omega), decide_eq_false (by have := kind_ge (glued sepS Ns); omega)⟩
  have c2 : (sepS.length == 0) = false := by rw [s2]; rfl
  have ho := occ_glued hne hn
  by_cases hone : ∃ y, Ns = [y]
  · obtain ⟨y, rfl⟩ := hone
    refine call_meets PySem.F.slot_str_split rfl PySem.F.entry_str_split (PySem.F.args_str_split_2 _ _) (meets_str_split_not_found _ sepS u v c1 c2 (by rw [ho]; rfl)) ?_
    exact h _ [(y, u)] _ _ rfl (fun p hp => by rw [List.mem_singleton.mp hp]; exact ⟨hu0, hu⟩) (Nat.le_refl _) (F.push _) (N.push F _) fun p hp => Heap.lt_size (N p hp).1
  · have hcut : (cutsAt 0 (Ns.map (·.cps.toList))).isEmpty = false := by
      match Ns, hne, hone with
      | [y], _, ho => exact absurd ⟨y, rfl⟩ ho
      | x :: y :: r, _, _ => rfl
    have hparts : partsBetween (glued sepS Ns) (occurrences (glued sepS Ns) sepS 0 (glued sepS Ns).length ((glued sepS Ns).length + 1)) sepS.length = Ns := by rw [ho, s2]; exact parts_glued hne
    refine call_meets PySem.F.slot_str_split rfl PySem.F.entry_str_split (PySem.F.args_str_split_2 _ _) (meets_str_split_sep _ sepS u v c1 c2 (by rw [ho]; exact hcut) (Nat.le_trans hg (by rw [sizeLine_eq]; decide)) (by rw [hparts, sizeLine_eq]; omega)) ?_
    rw [hparts, strsFrom_tag]
    refine h _ (tagFrom s.toks Ns) _ _ (tag_fst _ _) (fun p hp => ?_) (Nat.le_add_right _ _) (F.push _) (N.push F _) fun p hp => Heap.lt_size (N p hp).1
    have := tag_tok _ _ p hp
    exact ⟨by omega, .inr (Nat.le_trans hlo this.1)⟩
end

end part14
section part30
section
variable {w : World} {p : Program} {loose : List Str} {mean : ExcName → Option Value} {mg mb : Str → Option Value}
   {dp un : Nat} {gd : Option (List Code)} {cn : Str} {cs : Scope} {a : Addr} {ccd : Value} {cl : List (Str × Addr)} {outer : List Env} {A₀ : Around} {base h₀ : Heap} {L : Addr} {m : Str → Option Value} {s : Shared} {Q E : Value → Shared → Prop}
   {news : List (Addr × Obj)}
/-- small ints with tokens of their own, below b -/
noncomputable def TI (b : Nat) (vs : List Value) : Prop := ∀ v ∈ vs, ∃ (x : Int) (t : Tok), v = .int x t ∧ t ≠ 0 ∧ t < b ∧ smallInt x = true
theorem ints_get {vs : List Value} {ns : List Int} (hi : IntsAre vs ns) : ∀ {i : Nat} {v : Value}, vs[i]? = some v → ∃ x t, v = .int x t ∧ ns[i]? = some x := by
  induction hi with
  | nil => intro i v h; simp at h
  | cons x t _ ih =>
    intro i v h
    cases i with
    | zero => simp at h; exact ⟨x, t, h.symm, rfl⟩
    | succ i => simpa using ih (by simpa using h)
theorem TI.at {b : Nat} {vs : List Value} (h : TI b vs) {i : Nat} {x : Int} {t : Tok} (e : vs[i]? = some (.int x t)) : t ≠ 0 ∧ t < b ∧ smallInt x = true := by
  obtain ⟨y, u, e1, e2, e3, e4⟩ := h _ (List.mem_of_getElem? e)
  cases e1
  exact ⟨e2, e3, e4⟩
theorem count_take {ns : List Int} {i : Nat} {x k : Int} (e : ns[i]? = some x) : (((ns.take (i + 1)).count k : Nat) : Int) = ((ns.take i).count k : Nat) + (if x = k then 1 else 0) := by
  rw [List.take_add_one, e]
  simp [List.count_append, List.count_cons]
  by_cases h : x = k <;> simp [h]
theorem countOf_c {l : Addr} {vs : List Value} {ns : List Int} {n : Nat} {k : Int} {u : Tok} {b : Nat}
   (B : Below A₀ base outer h₀) (F : Fr h₀ L s.heap m) (X : (Mine.hd.heap_39 w.params).In h₀) (N : News h₀ L s.heap news) (T : Top p loose mean mg mb h₀) (hk : cs.kind = .function)
   (hl : (l, listOf vs.toArray n) ∈ news) (hi : IntsAre vs ns) (hti : TI b vs) (hbu : b ≤ u) (hu0 : u ≠ 0)
   (hd : dp + 1 < recursionLimit) (hu : un + 8 < cLine)
   (ret : ∀ t h' tk', Fr h₀ L h' m → News h₀ L h' news → Q (.int (ns.count k : Nat) t) {s with heap := h', toks := tk'}) :
   wpAny (model PySem.Challenge.rw_wj0037_01.row.prog w) (ktrTop dp un gd cn cs L a ccd cl outer) (call (.ref 158) [.ref l, .int k u]) Q E s := by
  refine wpAny_call ?_
  k_dflt cell_enter
  (rename Fr _ _ _ _ => lF)
  replace lF := fr_map (m' := fun y => if y = Str.ofString "b" then some (.int k u) else if y = Str.ofString "a" then some (.ref l) else none) lF (fun y => by
    with_unfolding_all exact ((look1 (r := [(Str.ofString "a", .ref l)])).trans (by rw [look1, look0])))
  iterate 5 walk_at "STEP"
  (rename Fr _ _ _ _ => lF)
  (with_unfolding_all refine for_list lF (by rfl) (by rfl) (by rfl) ?_)
  iterate 1 walk_at "STEP"
  (rename News _ _ _ _ => lN)
  refine ⟨l, vs, n, _, news, fun i mm nx tk => nx = news ∧ ∃ iv t, mm = (fun y => if y = Str.ofString "i" then iv else if y = Str.ofString "count" then some (.int ((ns.take i).count k : Nat) t) else if y = Str.ofString "b" then some (.int k u) else if y = Str.ofString "a" then some (.ref l) else none), rfl, ?_, lF, lN, ?_, ?_, ?_⟩
  · rintro i m nx tk ⟨rfl, _⟩
    exact hl
  · exact ⟨rfl, _, _, map_ext [Str.ofString "i", Str.ofString "count"] (by walk_at "MAPK") (by walk_at "MAPY")⟩
  · rintro I i v m₁ nx oI h tk₀ tk hv htk ⟨rfl, iv, t, rfl⟩ off F₁ N₁
    obtain ⟨x, t', rfl, hx⟩ := ints_get hi hv
    obtain ⟨g1, g2, g3⟩ := hti.at hv
    have g4 : t' ≠ u := Nat.ne_of_lt (Nat.lt_of_lt_of_le g2 hbu)
    have hct := count_take (k := k) hx
    clear lF lN
    k_steps
    · rw [if_pos (by assumption)] at hct
      simp only [hct]
      refine ⟨_, _, _, _, rfl, by k_asm, by k_asm, off, rfl, ?iv, ?t, map_ext [Str.ofString "i", Str.ofString "count"] ?h1 ?h2⟩
      (case h1 => walk_at "MAPK")
      (case h2 => walk_at "MAPY")
    · exfalso; contradiction
    · rw [if_neg (by assumption), Int.add_zero] at hct
      simp only [hct]
      refine ⟨_, _, _, _, rfl, by k_asm, by k_asm, off, rfl, ?iv3, ?t3, map_ext [Str.ofString "i", Str.ofString "count"] ?h13 ?h23⟩
      (case h13 => walk_at "MAPK")
      (case h23 => walk_at "MAPY")
  · rintro m' nx h tk₀ tk htk ⟨rfl, iv, t, rfl⟩ F₁ N₁
    clear lF lN
    k_steps
    rw [List.take_of_length_le (Nat.le_of_eq hi.length.symm)]
    exact ret _ _ _ (by k_asm) (by k_asm)
end

end part30
section part32
section
variable {w : World} {p : Program} {loose : List Str} {mean : ExcName → Option Value} {mg mb : Str → Option Value}
   {dp un : Nat} {gd : Option (List Code)} {cn : Str} {cs : Scope} {a : Addr} {ccd : Value} {cl : List (Str × Addr)} {outer : List Env} {A₀ : Around} {base h₀ : Heap} {L : Addr} {m : Str → Option Value} {s : Shared} {Q E : Value → Shared → Prop}
   {news : List (Addr × Obj)}
/-- texts with tokens, none of them that of another text with token u -/
inductive TS (x : Str) (u : Tok) : List Value → List Str → Prop
  | nil : TS x u [] []
  | cons (y : Str) (t : Tok) {vs ys} : t ≠ 0 → (y ≠ x → t ≠ u) → TS x u vs ys → TS x u (.str y t :: vs) (y :: ys)
theorem TS.get {x : Str} {u : Tok} {vs : List Value} {ys : List Str} (h : TS x u vs ys) : ∀ {i : Nat} {v : Value}, vs[i]? = some v → ∃ y t, v = .str y t ∧ ys[i]? = some y ∧ t ≠ 0 ∧ (y ≠ x → t ≠ u) := by
  induction h with
  | nil => intro i v h; simp at h
  | cons y t h1 h2 _ ih =>
    intro i v h
    cases i with
    | zero => simp at h; exact ⟨y, t, h.symm, rfl, h1, h2⟩
    | succ i => simpa using ih (by simpa using h)
theorem TS.len {x : Str} {u : Tok} {vs : List Value} {ys : List Str} (h : TS x u vs ys) : vs.length = ys.length := by
  induction h with
  | nil => rfl
  | cons y t h1 h2 _ ih => simp [ih]
theorem idx_of_first {ys : List Str} {x : Str} {i : Nat} (h : ys[i]? = some x) (hb : ∀ j, j < i → ys[j]? ≠ some x) : ys.idxOf x = i := by
  induction ys generalizing i with
  | nil => simp at h
  | cons y r ih =>
    rw [List.idxOf_cons]
    cases i with
    | zero => simp at h; simp [h]
    | succ i =>
      have h0 := hb 0 (Nat.succ_pos _)
      simp at h0
      have e : (y == x) = false := by simpa using h0
      rw [e]
      simp only [Bool.false_eq_true, cond_false]
      rw [ih (by simpa using h) fun j hj => by simpa using hb (j + 1) (Nat.succ_lt_succ hj)]
local macro_rules | `(tactic| walk_at "TurnPost2") => `(tactic| (dsimp only [TurnPost2]))
theorem indexOf_c {l : Addr} {vs : List Value} {ys : List Str} {n : Nat} {x : Str} {u : Tok}
   (B : Below A₀ base outer h₀) (F : Fr h₀ L s.heap m) (X : (Mine.hd.heap_39 w.params).In h₀) (N : News h₀ L s.heap news) (T : Top p loose mean mg mb h₀) (hk : cs.kind = .function)
   (hl : (l, listOf vs.toArray n) ∈ news) (hts : TS x u vs ys) (hx : x ∈ ys) (hu0 : u ≠ 0)
   (hd : dp + 1 < recursionLimit) (hu : un + 8 < cLine)
   (ret : ∀ t h' tk', s.toks ≤ t → t < tk' → Fr h₀ L h' m → News h₀ L h' news → Q (.int (ys.idxOf x : Nat) t) {s with heap := h', toks := tk'}) :
   wpAny (model PySem.Challenge.rw_wj0037_01.row.prog w) (ktrTop dp un gd cn cs L a ccd cl outer) (call (.ref 165) [.ref l, .str x u]) Q E s := by
  refine wpAny_call ?_
  k_dflt cell_enter
  (rename Fr _ _ _ _ => lF)
  replace lF := fr_map (m' := fun y => if y = Str.ofString "b" then some (.str x u) else if y = Str.ofString "a" then some (.ref l) else none) lF (fun y => by
    with_unfolding_all exact ((look1 (r := [(Str.ofString "a", .ref l)])).trans (by rw [look1, look0])))
  refine wpAny_execs_cons ?_
  refine wpAny_For ?_ 
  k_steps
  (rename News _ _ _ _ => lN)
  refine enum_loop (by rfl) (by with_unfolding_all rfl) (by with_unfolding_all rfl) (by with_unfolding_all rfl) (vs := vs) (nn := n) (news := news)
    (fun i mm nx tk => nx = news ∧ s.toks ≤ tk ∧ (∀ j, j < i → ys[j]? ≠ some x) ∧ ∃ jv iv, mm = (fun y => if y = Str.ofString "j" then jv else if y = Str.ofString "i" then iv else if y = Str.ofString "b" then some (.str x u) else if y = Str.ofString "a" then some (.ref l) else none))
    ?_ lF lN ?_ ?_ ?_
  · rintro i m nx tk ⟨rfl, _⟩
    exact hl
  · exact ⟨rfl, Nat.le_add_right _ _, fun j hj => absurd hj (Nat.not_lt_zero _), _, _, map_ext [Str.ofString "j", Str.ofString "i"] (by walk_at "MAPK") (by walk_at "MAPY")⟩
  · rintro e it i t v m₁ nx oE oI h tk₀ tk hv htk htk2 ⟨rfl, hT0, hb, jv, iv, rfl⟩ off off2 F₁ N₁
    obtain ⟨y, t', rfl, hy, g1, g2⟩ := hts.get hv
    clear lF lN
    by_cases hyx : y = x
    · subst hyx
      have hid := idx_of_first hy hb
      k_steps
      · have r := ret t h tk (Nat.le_trans hT0 htk) htk2 (by assumption) (fun p hp => by (rename News _ _ _ _ => kN); exact kN p (.tail _ (.tail _ hp)))
        rw [hid] at r
        exact r
      · have r := ret t h tk (Nat.le_trans hT0 htk) htk2 (by assumption) (fun p hp => by (rename News _ _ _ _ => kN); exact kN p (.tail _ (.tail _ hp)))
        rw [hid] at r
        exact r
      · exfalso; simp_all
    · k_steps
      · exfalso; simp_all
      · exfalso; simp_all
      · refine ⟨_, _, _, _, rfl, by k_asm, by k_asm, off, off2, rfl, Nat.le_trans hT0 (Nat.le_trans htk (Nat.le_of_lt htk2)), ?_, ?jv, ?iv, map_ext [Str.ofString "j", Str.ofString "i"] ?h1 ?h2⟩
        · intro j hj e
          rcases Nat.lt_or_eq_of_le (Nat.le_of_lt_succ hj) with h1 | h1
          · exact hb j h1 e
          · subst h1
            rw [hy] at e
            exact hyx (Option.some.inj e)
        (case h1 => walk_at "MAPK")
        (case h2 => walk_at "MAPY")
  · rintro m' nx h tk₀ tk htk ⟨rfl, hT0, hb, jv, iv, rfl⟩ F₁ N₁
    exfalso
    rw [hts.len] at hb
    have hi := List.idxOf_lt_length_of_mem hx
    exact hb _ hi (by rw [List.getElem?_eq_getElem hi, List.getElem_idxOf])
end

end part32
section part40
section
variable {w : World} {p : Program} {loose : List Str} {mean : ExcName → Option Value} {mg mb : Str → Option Value}
   {dp un : Nat} {gd : Option (List Code)} {cn : Str} {cs : Scope} {a : Addr} {ccd : Value} {cl : List (Str × Addr)} {outer : List Env} {A₀ : Around} {base h₀ : Heap} {L : Addr} {m : Str → Option Value} {s : Shared} {Q E : Value → Shared → Prop}
   {news : List (Addr × Obj)}
theorem add_c {x y : Int} {t u : Tok}
   (B : Below A₀ base outer h₀) (F : Fr h₀ L s.heap m) (X : (Mine.hd.heap_39 w.params).In h₀) (N : News h₀ L s.heap news) (T : Top p loose mean mg mb h₀) (hk : cs.kind = .function)
   (hd : dp + 1 < recursionLimit) (hu : un + 8 < cLine)
   (ret : ∀ t h' tk', Fr h₀ L h' m → News h₀ L h' news → Q (.int (x + y) t) {s with heap := h', toks := tk'}) :
   wpAny (model PySem.Challenge.rw_wj0037_01.row.prog w) (ktrTop dp un gd cn cs L a ccd cl outer) (call (.ref 109) [.int x t, .int y u]) Q E s := by
  refine wpAny_call ?_
  k_dflt cell_enter
  k_steps
  exact ret _ _ _ (by k_asm) (by k_asm)
theorem sub_c {x y : Int} {t u : Tok}
   (B : Below A₀ base outer h₀) (F : Fr h₀ L s.heap m) (X : (Mine.hd.heap_39 w.params).In h₀) (N : News h₀ L s.heap news) (T : Top p loose mean mg mb h₀) (hk : cs.kind = .function)
   (hd : dp + 1 < recursionLimit) (hu : un + 8 < cLine)
   (ret : ∀ t h' tk', Fr h₀ L h' m → News h₀ L h' news → Q (.int (x - y) t) {s with heap := h', toks := tk'}) :
   wpAny (model PySem.Challenge.rw_wj0037_01.row.prog w) (ktrTop dp un gd cn cs L a ccd cl outer) (call (.ref 151) [.int x t, .int y u]) Q E s := by
  refine wpAny_call ?_
  k_dflt cell_enter
  k_steps
  exact ret _ _ _ (by k_asm) (by k_asm)
theorem mul_c {x y : Int} {t u : Tok} (hx : 0 ≤ x ∧ x < 2 ^ 62) (hy : 0 ≤ y ∧ y < 2 ^ 62)
   (B : Below A₀ base outer h₀) (F : Fr h₀ L s.heap m) (X : (Mine.hd.heap_39 w.params).In h₀) (N : News h₀ L s.heap news) (T : Top p loose mean mg mb h₀) (hk : cs.kind = .function)
   (hd : dp + 1 < recursionLimit) (hu : un + 8 < cLine)
   (ret : ∀ t h' tk', Fr h₀ L h' m → News h₀ L h' news → Q (.int (x * y) t) {s with heap := h', toks := tk'}) :
   wpAny (model PySem.Challenge.rw_wj0037_01.row.prog w) (ktrTop dp un gd cn cs L a ccd cl outer) (call (.ref 137) [.int x t, .int y u]) Q E s := by
  refine wpAny_call ?_
  k_dflt cell_enter
  k_steps
  exact ret _ _ _ (by k_asm) (by k_asm)
theorem floordiv_c {x : Int} {t u : Tok} 
   (B : Below A₀ base outer h₀) (F : Fr h₀ L s.heap m) (X : (Mine.hd.heap_39 w.params).In h₀) (N : News h₀ L s.heap news) (T : Top p loose mean mg mb h₀) (hk : cs.kind = .function)
   (hd : dp + 1 < recursionLimit) (hu : un + 8 < cLine)
   (ret : ∀ t h' tk', Fr h₀ L h' m → News h₀ L h' news → Q (.int (x / 63) t) {s with heap := h', toks := tk'}) :
   wpAny (model PySem.Challenge.rw_wj0037_01.row.prog w) (ktrTop dp un gd cn cs L a ccd cl outer) (call (.ref 123) [.int x t, .int 63 u]) Q E s := by
  refine wpAny_call ?_
  k_dflt cell_enter
  k_steps
  rw [Int.fdiv_eq_ediv_of_nonneg _ (by decide)]
  exact ret _ _ _ (by k_asm) (by k_asm)
theorem and_c {x : Int} {t u : Tok} (hx : 0 ≤ x)
   (B : Below A₀ base outer h₀) (F : Fr h₀ L s.heap m) (X : (Mine.hd.heap_39 w.params).In h₀) (N : News h₀ L s.heap news) (T : Top p loose mean mg mb h₀) (hk : cs.kind = .function)
   (hd : dp + 1 < recursionLimit) (hu : un + 8 < cLine)
   (ret : ∀ t h' tk', Fr h₀ L h' m → News h₀ L h' news → Q (.int (x % 64) t) {s with heap := h', toks := tk'}) :
   wpAny (model PySem.Challenge.rw_wj0037_01.row.prog w) (ktrTop dp un gd cn cs L a ccd cl outer) (call (.ref 116) [.int x t, .int 63 u]) Q E s := by
  refine wpAny_call ?_
  k_dflt cell_enter
  k_steps
  rw [bitAnd_m6]
  exact ret _ _ _ (by k_asm) (by k_asm)
theorem lshift_c {x : Int} {t u : Tok} (hx : 0 ≤ x ∧ x < 64)
   (B : Below A₀ base outer h₀) (F : Fr h₀ L s.heap m) (X : (Mine.hd.heap_39 w.params).In h₀) (N : News h₀ L s.heap news) (T : Top p loose mean mg mb h₀) (hk : cs.kind = .function)
   (hd : dp + 1 < recursionLimit) (hu : un + 8 < cLine)
   (ret : ∀ t h' tk', Fr h₀ L h' m → News h₀ L h' news → Q (.int (2 ^ x.toNat) t) {s with heap := h', toks := tk'}) :
   wpAny (model PySem.Challenge.rw_wj0037_01.row.prog w) (ktrTop dp un gd cn cs L a ccd cl outer) (call (.ref 130) [.int 1 t, .int x u]) Q E s := by
  refine wpAny_call ?_
  k_dflt cell_enter
  k_steps
  rw [Int.one_mul]
  exact ret _ _ _ (by k_asm) (by k_asm)
theorem rshift_c {x y : Int} {t u : Tok} (hx : 0 ≤ x) (hx : 0 ≤ y ∧ y < 64)
   (B : Below A₀ base outer h₀) (F : Fr h₀ L s.heap m) (X : (Mine.hd.heap_39 w.params).In h₀) (N : News h₀ L s.heap news) (T : Top p loose mean mg mb h₀) (hk : cs.kind = .function)
   (hd : dp + 1 < recursionLimit) (hu : un + 8 < cLine)
   (ret : ∀ t h' tk', Fr h₀ L h' m → News h₀ L h' news → Q (.int (x / 2 ^ y.toNat) t) {s with heap := h', toks := tk'}) :
   wpAny (model PySem.Challenge.rw_wj0037_01.row.prog w) (ktrTop dp un gd cn cs L a ccd cl outer) (call (.ref 144) [.int x t, .int y u]) Q E s := by
  refine wpAny_call ?_
  k_dflt cell_enter
  k_steps
  rw [Int.fdiv_eq_ediv_of_nonneg _ (Int.le_of_lt (Int.pow_pos (by decide)))]
  exact ret _ _ _ (by k_asm) (by k_asm)
end

end part40
local macro_rules | `(tactic| walk_at "LOLE") => `(tactic| (repeat (first | exact Nat.le_refl _ | exact Nat.le_add_right _ _ | refine Nat.le_succ_of_le ?_)))
local macro_rules | `(tactic| walk_at "execs cons") => `(tactic| (k_here; (rename Lo _ _ => hLo0); refine execs_cons_lo hLo0 (by walk_at "LOLE") ?_; intro tkLo hLo))
local macro_rules | `(tactic| walk_at "execs nil") => `(tactic| (k_here; (rename Lo _ _ => hLo0); refine wpAny_execs_nil ?_))
local macro_rules | `(tactic| k_all) => `(tactic| (refine all_ne (by assumption) ?_; first | ((try dsimp only); omega) | (walk_at "LOLE"; done)))
local macro_rules | `(tactic| walk_at "call builtin:list.append") => `(tactic| (k_here; (with_reducible show wpAny _ _ (call (Value.builtin _) [Value.ref _, _]) _ _ _); k_dflt (refine' append_K ?k1 ?k2 ?k3 ?_ ?z; (case k1 => k_asm); (case k2 => k_asm); (case k3 => k_upd); (case z => assumption); k_whole); intro h' F' N'))
section part36
section
variable {w : World} {p : Program} {loose : List Str} {mean : ExcName → Option Value} {mg mb : Str → Option Value}
   {dp un : Nat} {gd : Option (List Code)} {cn : Str} {cs : Scope} {a : Addr} {ccd : Value} {cl : List (Str × Addr)} {outer : List Env} {A₀ : Around} {base h₀ : Heap} {L : Addr} {m : Str → Option Value} {s : Shared} {Q E : Value → Shared → Prop}
   {news : List (Addr × Obj)}
noncomputable def bitsTo (F i : Nat) : List Nat := (List.range i).filter fun j => F / 2 ^ j % 2 == 1
theorem bitsTo_succ (F i : Nat) : bitsTo F (i + 1) = bitsTo F i ++ (if F / 2 ^ i % 2 = 1 then [i] else []) := by
  unfold bitsTo
  rw [List.range_succ, List.filter_append]
  by_cases h : F / 2 ^ i % 2 = 1
  · simp [h]
  · simp [h]
theorem bits_high {F i : Nat} (h : F < 4096) (hi : 12 ≤ i) : F / 2 ^ i = 0 := Nat.div_eq_of_lt (Nat.lt_of_lt_of_le h (Nat.pow_le_pow_right (by decide) hi : 2 ^ 12 ≤ 2 ^ i))
theorem bitsTo_high {F : Nat} (h : F < 4096) : ∀ i, 12 ≤ i → bitsTo F i = bitsOf F
  | 0, hi => absurd hi (by decide)
  | i + 1, hi => by
    rcases Nat.lt_or_eq_of_le hi with h1 | h1
    · have hi' : 12 ≤ i := by omega
      rw [bitsTo_succ, bits_high h hi', if_neg (by decide), List.append_nil]
      exact bitsTo_high h i hi'
    · rw [← h1]; rfl
theorem bitsTo_done {F : Nat} (h : F < 4096) : ∀ i, F / 2 ^ i = 0 → bitsTo F i = bitsOf F := by
  intro i hi
  rcases Nat.lt_or_ge i 12 with h1 | h1
  · rw [← bitsTo_high h 12 (Nat.le_refl _)]
    have key : ∀ d, bitsTo F (i + d) = bitsTo F i := by
      intro d
      induction d with
      | zero => rfl
      | succ d ih =>
        have e : F / 2 ^ (i + d) = 0 := by rw [Nat.pow_add, ← Nat.div_div_eq_div_mul, hi, Nat.zero_div]
        rw [← Nat.add_assoc, bitsTo_succ, ih, e, if_neg (by decide), List.append_nil]
    have := key (12 - i)
    rw [← this]
    congr 1
    omega
  · exact bitsTo_high h i h1
theorem bit_test (F i : Nat) : Builtin.bitAnd ((F / 2 ^ i * 2 ^ i : Nat) : Int) (2 ^ i) = if F / 2 ^ i % 2 = 1 then 2 ^ i else 0 := by
  have hp : (0 : Int) < 2 ^ i := Int.pow_pos (by decide)
  have hc : (((2 ^ i : Nat) : Int)) = 2 ^ i := by push_cast; rfl
  rw [kbt_bit, ← hc, ← Int.natCast_ediv, Nat.mul_div_cancel _ (Nat.pow_pos (by decide))]
  rcases Nat.mod_two_eq_zero_or_one (F / 2 ^ i) with h | h
  · rw [if_neg (by omega)]
    have : ((F / 2 ^ i : Nat) : Int) % 2 = 0 := by omega
    rw [this, Int.zero_mul]
  · rw [if_pos h]
    have : ((F / 2 ^ i : Nat) : Int) % 2 = 1 := by omega
    rw [this, Int.one_mul]
theorem bit_flip {F i : Nat} (h : F / 2 ^ i % 2 = 1) : Builtin.bitXor ((F / 2 ^ i * 2 ^ i : Nat) : Int) (2 ^ i) = ((F / 2 ^ (i + 1) * 2 ^ (i + 1) : Nat) : Int) := by
  rw [bitXor_and, bit_test, if_pos h]
  have hc : (((2 ^ i : Nat) : Int)) = 2 ^ i := by push_cast; rfl
  have e1 : F / 2 ^ (i + 1) = F / 2 ^ i / 2 := by rw [Nat.pow_succ, Nat.div_div_eq_div_mul]
  rw [e1, Nat.pow_succ, ← hc]
  generalize F / 2 ^ i = x at h
  generalize 2 ^ i = y
  have : x = x / 2 * 2 + 1 := by omega
  generalize x / 2 = z at this
  subst this
  have e2 : (z * 2 + 1) * y = z * (y * 2) + y := by rw [Nat.add_mul, Nat.one_mul, Nat.mul_assoc, Nat.mul_comm 2 y]
  rw [e2]
  omega
theorem bit_stay {F i : Nat} (h : ¬ F / 2 ^ i % 2 = 1) : F / 2 ^ (i + 1) * 2 ^ (i + 1) = F / 2 ^ i * 2 ^ i := by
  have e1 : F / 2 ^ (i + 1) = F / 2 ^ i / 2 := by rw [Nat.pow_succ, Nat.div_div_eq_div_mul]
  rw [e1, Nat.pow_succ]
  generalize F / 2 ^ i = x at h
  generalize 2 ^ i = y
  have : x = x / 2 * 2 := by omega
  generalize x / 2 = z at this
  subst this
  rw [Nat.mul_assoc, Nat.mul_comm 2 y]
theorem nm_hex {i : Nat} (hi : i < 12) (h10 : 10 ≤ i) : hexT (2 ^ i) = nm i := by
  have : i = 10 ∨ i = 11 := by omega
  rcases this with rfl | rfl
  · rw [(hex_at 10 (by decide)).2 (by decide)]; rfl
  · rw [(hex_at 11 (by decide)).2 (by decide)]; rfl
theorem strValues_push {ps : List (Str × Tok)} {x : Str} {t : Tok} : (strValues ps).toArray.push (.str x t) = (strValues (ps ++ [(x, t)])).toArray := by
  unfold strValues
  simp
theorem TP.app {lo : Nat} {ps qs : List (Str × Nat)} (h : TP lo ps) (h' : TP lo qs) : TP lo (ps ++ qs) := fun p hp => by
  rcases List.mem_append.mp hp with hp | hp
  · exact h p hp
  · exact h' p hp
theorem flag_get2 {A : Around} {i lo : Nat} {t t0 : Tok} (X : (Mine.hd.heap_39 w.params).In s.heap) (hi : i < 12) (hlo : lo ≤ t0) (ht0 : t0 ≠ 0)
    (h : ∀ t', TP lo [(nm i, t')] → Q (.str (nm i) t') { s with toks := s.toks + 1 }) :
    wpAny (model PySem.Challenge.rw_wj0037_01.row.prog w) A (call (.builtin "dict.get") [.ref 88, .int (2 ^ i) t, .str (hexT (2 ^ i)) t0]) Q E s := by
  refine flag_get X hi fun v h1 h2 => ?_
  rcases Nat.lt_or_ge i 10 with hlt | hge
  · obtain ⟨u, rfl, e1, e2⟩ := h1 hlt
    exact h u fun p hp => by rw [List.mem_singleton.mp hp]; exact ⟨e1, .inl e2⟩
  · rw [h2 hge, nm_hex hi hge]
    exact h t0 fun p hp => by rw [List.mem_singleton.mp hp]; exact ⟨ht0, .inr hlo⟩
local macro_rules | `(tactic| walk_at "TOK") => `(tactic| (first | assumption | (refine Nat.le_succ_of_le ?_; assumption) | (dsimp only at *; omega)))
local macro_rules | `(tactic| walk_at "call builtin:hex cons nil") => `(tactic| (k_here; refine hex_call ?_ ?_; case' refine_1 => first | exact (hex_at _ (by assumption)).1 | exact (by decide +kernel)))
local macro_rules | `(tactic| walk_at "call builtin:dict.get cons nil") => `(tactic| (k_here; (rename Lo _ _ => hLo2); refine flag_get2 (by k_in) (by assumption) (lo_le hLo2 (by walk_at "LOLE")) (by walk_at "TOKN") ?_; intro tg hTg))
local macro_rules | `(tactic| walk_at "TOKN") => `(tactic| ((rename Lo _ _ => hLo1); exact lo_ne hLo1 (by assumption) (by walk_at "LOLE")))
theorem bits_len {F : Nat} : (bitsOf F).length ≤ 12 := by
  unfold bitsOf
  exact Nat.le_trans (List.length_filter_le _ _) (by simp)
theorem bits_mem {F i : Nat} (h : i ∈ bitsOf F) : i < 12 := by
  unfold bitsOf at h
  have := (List.mem_filter.mp h).1
  simpa using this
theorem nms_ok {F : Nat} {ps : List (Str × Tok)} (h : ps.map (·.1) = wrds F) : ps.length ≤ 40 ∧ ∀ p ∈ ps, p.1.length ≤ 20 := by
  have hw : (wrds F).length ≤ 40 ∧ ∀ y ∈ wrds F, y.length ≤ 20 := by
    unfold wrds
    by_cases h0 : F = 0
    · rw [if_pos h0]
      refine ⟨by decide, fun y hy => ?_⟩
      rw [List.mem_singleton.mp hy]
      decide +kernel
    · rw [if_neg h0]
      unfold nms
      refine ⟨by rw [List.length_map]; exact Nat.le_trans bits_len (by decide), fun y hy => ?_⟩
      obtain ⟨i, hi, rfl⟩ := List.mem_map.mp hy
      exact (nm_size i (bits_mem hi)).2.1
  refine ⟨by have := congrArg List.length h; rw [List.length_map] at this; omega, fun p hp => ?_⟩
  exact hw.2 _ (by rw [← h]; exact List.mem_map.mpr ⟨p, hp, rfl⟩)
theorem pretty_flags_c {F : Nat} {t : Tok}
   (B : Below A₀ base outer h₀) (Fm : Fr h₀ L s.heap m) (X : (Mine.hd.heap_39 w.params).In h₀) (N : News h₀ L s.heap news) (T : Top p loose mean mg mb h₀) (hk : cs.kind = .function)
   (hF : F < 4096) (h0 : s.toks ≠ 0)
   (hd : dp + 1 < recursionLimit) (hu : un + 8 < cLine)
   (ret : ∀ t h' tk', s.toks ≤ tk' → t ≠ 0 → (t < 449 ∨ s.toks ≤ t) → Fr h₀ L h' m → News h₀ L h' news → Q (.str (prettyT F) t) {s with heap := h', toks := tk'}) :
   wpAny (model PySem.Challenge.rw_wj0037_01.row.prog w) (ktrTop dp un gd cn cs L a ccd cl outer) (call (.ref 95) [.int F t]) Q E s := by
  have hLo : Lo s.toks s.toks := Nat.le_refl _
  refine lo_rule hLo (Nat.le_refl _) (wpAny_call ?_)
  k_dflt cell_enter
  (rename Fr _ _ _ _ => lF)
  replace lF := fr_map (m' := fun y => if y = Str.ofString "flags" then some (.int F t) else none) lF (fun y => by
    with_unfolding_all exact ((look1 (r := [])).trans (by rw [look0])))
  k_steps
  (rename Fr _ _ _ _ => lF)
  (rename News _ _ _ _ => lN)
  (rename Lo _ _ => lLo)
  (with_unfolding_all refine for_range_e lF (by rfl) (by rfl) (by rfl) ?_)
  refine lo_rule lLo (by walk_at "LOLE") ?_
  iterate 7 walk_at "STEP"
  intro ht2
  (rename Fr _ _ _ _ => lF)
  (rename News _ _ _ _ => lN)
  (rename IsRange _ _ _ _ _ _ _ _ => lR)
  obtain ⟨nl, lF, lN, hnl⟩ : ∃ nl, Fr _ _ _ (fun y => if y = Str.ofString "names" then some (.ref nl) else if y = Str.ofString "flags" then some (.int F t) else none) ∧ News _ _ _ ((nl, W.listOf #[] 0) :: news) ∧ (∀ p ∈ news, p.1 < nl) := ⟨_, lF, lN, by assumption⟩
  refine ⟨_, 0, 32, 32, _, _, _, _, _, fun i mm nx tk => ∃ ps c iv fv ft, nx = (nl, listOf (strValues ps).toArray c) :: news ∧ Lo s.toks tk ∧ ps.map (·.1) = (bitsTo F i).map nm ∧ TP s.toks ps ∧ (F ≠ 0 → F / 2 ^ i ≠ 0) ∧
    mm = (fun y => if y = Str.ofString "i" then iv else if y = Str.ofString "flag" then fv else if y = Str.ofString "names" then some (.ref nl) else if y = Str.ofString "flags" then some (.int ((F / 2 ^ i * 2 ^ i : Nat) : Int) ft) else none), rfl, lR, by rfl, by rfl, lF, lN, ?_, ?_, ?_⟩
  · refine ⟨[], 0, ?iv0, ?fv0, t, rfl, ht2, rfl, (fun p hp => nomatch hp), by rw [Nat.pow_zero, Nat.div_one]; exact id, ?mp⟩
    (case mp =>
      rw [Nat.pow_zero, Nat.div_one, Nat.mul_one]
      exact map_ext [Str.ofString "i", Str.ofString "flag"] (by walk_at "MAPK") (by walk_at "MAPY"))
  · rintro I i u m₁ nx oI h tk₀ tk hi htk ⟨ps, c, iv, fv, ft, rfl, hT0, hps, hTP, hne, rfl⟩ off F₁ N₁
    clear lF lN lR ht2 lLo
    have hLo : Lo s.toks tk := Nat.le_trans hT0 htk
    have hi0 : 0 ≤ (0 + (i : Int)) ∧ (0 + (i : Int)) < 64 := by omega
    have e : (1 : Int) * 2 ^ ((0 : Int) + (i : Int)).toNat = 2 ^ i := by
      have : ((0 : Int) + (i : Int)).toNat = i := by omega
      rw [this, Int.one_mul]
    have hb := bitsTo_succ F i
    have hIn : I ≠ nl := (off _ (.head _)).symm
    have hpl : ps.length ≤ 32 := by
      have := congrArg List.length hps
      rw [List.length_map, List.length_map] at this
      rw [this]
      exact Nat.le_trans (List.length_filter_le _ _) (by rw [List.length_range]; omega)
    have hsz : (strValues ps).toArray.size ≤ sizeLine := by
      unfold strValues
      simp only [List.size_toArray, List.length_map]
      exact Nat.le_trans hpl (by rw [sizeLine_eq]; decide)
    iterate 7 walk_at "STEP"
    (rename Fr _ _ _ _ => lF)
    rw [e] at lF
    iterate 9 walk_at "STEP"
    rw [bit_test]
    by_cases hbit : F / 2 ^ i % 2 = 1
    · have h12 : i < 12 := by
        rcases Nat.lt_or_ge i 12 with h1 | h1
        · exact h1
        · rw [bits_high hF h1] at hbit; exact absurd hbit (by decide)
      rw [if_pos hbit, if_pos (by have : (2 : Int) ^ i ≠ 0 := Int.ne_of_gt (Int.pow_pos (by decide)); simpa using this)]
      rw [if_pos hbit] at hb
      iterate 47 walk_at "STEP"
      · (rename News _ _ _ _ => kN)
        (rename Fr _ _ _ _ => kF)
        (rename Lo _ _ => kLo)
        (rename TP _ _ => hTg)
        (rename Builtin.bitXor _ _ ≠ 0 => hx)
        rw [strValues_push] at kN
        rw [bit_flip hbit] at kF hx
        have off2 : ∀ o, Off I ((nl, o) :: news) := by
          intro o p hp
          rcases List.mem_cons.mp hp with rfl | hp
          · exact Ne.symm hIn
          · exact off p (.tail _ hp)
        refine ⟨_, _, _, _, rfl, kF, kN, ?off, ps ++ [(nm i, _)], c + 1, ?iv3, ?fv3, ?ft3, rfl, kLo, ?hps, ?htp, ?hne3, map_ext [Str.ofString "i", Str.ofString "flag", Str.ofString "names", Str.ofString "flags"] ?h13 ?h23⟩
        (case h13 => walk_at "MAPK")
        (case h23 => walk_at "MAPY")
        (case off => exact off2 _)
        (case hps => rw [hb, List.map_append, List.map_append, hps]; rfl)
        (case htp => exact hTP.app hTg)
        (case hne3 =>
          intro _ e0
          rw [e0] at hx
          exact hx (by simp))
      · iterate 16 walk_at "STEP"
        (rename News _ _ _ _ => kN)
        (rename Lo _ _ => kLo)
        (rename TP _ _ => hTg)
        (rename Builtin.bitXor _ _ = 0 => hx)
        rw [strValues_push] at kN
        rw [bit_flip hbit] at hx
        obtain ⟨ps2, hps2, hTP2, kN⟩ : ∃ ps2, ps2.map (·.1) = wrds F ∧ TP s.toks ps2 ∧ News _ _ _ ((I, _) :: (nl, listOf (strValues ps2).toArray (c + 1)) :: news) := by
          refine ⟨_, ?_, hTP.app hTg, kN⟩
          have hF0 : F ≠ 0 := by
            intro e0
            rw [e0, Nat.zero_div] at hbit
            exact absurd hbit (by decide)
          have hz : F / 2 ^ (i + 1) = 0 := by
            have h1 : F / 2 ^ (i + 1) * 2 ^ (i + 1) = 0 := by exact_mod_cast hx
            rcases Nat.mul_eq_zero.mp h1 with h2 | h2
            · exact h2
            · exact absurd h2 (Nat.ne_of_gt (Nat.pow_pos (by decide)))
          rw [List.map_append, hps]
          unfold wrds nms
          rw [if_neg hF0, ← bitsTo_done hF (i + 1) hz, hb, List.map_append]
          rfl
        obtain ⟨j1, j2⟩ := nms_ok hps2
        refine join_call kN (.tail _ (.head _)) j1 j2 hTP2 (lo_le kLo (Nat.le_succ _)) (lo_ne kLo h0 (Nat.le_succ _)) ?_
        intro t' tk' hle g1 g2
        rw [hps2, ← pretty_glued]
        k_steps
        exact ret _ _ _ (lo_le (by assumption) (Nat.le_refl _)) g1 g2 (by k_asm) fun p hp => by
          (rename News _ _ _ _ => kN2)
          exact kN2 p (.tail _ (.tail _ hp))
    · rw [if_neg hbit, if_neg (by simp)]
      rw [if_neg hbit, List.append_nil] at hb
      iterate 4 walk_at "STEP"
      refine ⟨_, _, _, _, rfl, by k_asm, by k_asm, off, ps, c, ?iv, ?fv, ft, rfl, by assumption, by rw [hb]; exact hps, hTP, ?hn, ?mp⟩
      (case hn =>
        intro h0 e0
        have e1 : F / 2 ^ (i + 1) = F / 2 ^ i / 2 := by rw [Nat.pow_succ, Nat.div_div_eq_div_mul]
        have := hne h0
        omega)
      (case mp =>
        rw [bit_stay hbit]
        exact map_ext [Str.ofString "i", Str.ofString "flag"] (by walk_at "MAPK") (by walk_at "MAPY"))
  · rintro m' nx h tk₀ tk htk ⟨ps, c, iv, fv, ft, rfl, hT0, hps, hTP, hne, rfl⟩ F₁ N₁
    clear lF lN lR ht2 lLo
    have hLo : Lo s.toks tk := Nat.le_trans hT0 htk
    rw [bitsTo_high hF 32 (by decide)] at hps
    have hF0 : F = 0 := by
      by_cases h : F = 0
      · exact h
      · exact absurd (bits_high hF (by decide)) (hne h)
    subst hF0
    have hsz : (strValues ps).toArray.size ≤ sizeLine := by
      have := congrArg List.length hps
      rw [List.length_map, List.length_map] at this
      unfold strValues
      simp only [List.size_toArray, List.length_map]
      rw [this]
      exact Nat.le_trans bits_len (by rw [sizeLine_eq]; decide)
    iterate 28 walk_at "STEP"
    (rename News _ _ _ _ => kN)
    (rename Lo _ _ => kLo)
    have e0 : ((0 / 2 ^ 32 * 2 ^ 32 : Nat) : Int) = 0 := by rw [Nat.zero_div, Nat.zero_mul]; rfl
    rw [e0, strValues_push] at kN
    obtain ⟨ps2, hps2, hTP2, kN⟩ : ∃ ps2, ps2.map (·.1) = wrds 0 ∧ TP s.toks ps2 ∧ News _ _ _ ((nl, listOf (strValues ps2).toArray (c + 1)) :: news) := by
      refine ⟨_, ?_, hTP.app ?_, kN⟩
      · rw [List.map_append, hps]
        show [] ++ [hexT 0] = _
        rw [hex_0]
        rfl
      · intro p hp
        rw [List.mem_singleton.mp hp]
        exact ⟨lo_ne (by assumption) h0 (Nat.le_refl _), .inr (lo_le (by assumption) (Nat.le_refl _))⟩
    obtain ⟨j1, j2⟩ := nms_ok hps2
    refine join_call kN (.head _) j1 j2 hTP2 (lo_le kLo (Nat.le_succ _)) (lo_ne kLo h0 (Nat.le_succ _)) ?_
    intro t' tk' hle g1 g2
    rw [hps2, ← pretty_glued]
    k_steps
    exact ret _ _ _ (lo_le (by assumption) (Nat.le_refl _)) g1 g2 (by k_asm) fun p hp => by
      (rename News _ _ _ _ => kN2)
      exact kN2 p (.tail _ hp)
end

end part36
section part42
section
open Builtin Builtin.Str
noncomputable def all12 : List Str := (List.range 12).map nm
noncomputable def nameText : Str := Str.ofString "OPTIMIZED NEWLOCALS VARARGS VARKEYWORDS NESTED GENERATOR NOFREE COROUTINE ITERABLE_COROUTINE ASYNC_GENERATOR 0x400 0x800"
theorem names_parts : partsBetween nameText (occurrences nameText (Str.ofString " ") 0 nameText.length (nameText.length + 1)) (Str.ofString " ").length = all12 := by kernel_rfl
theorem names_occ : (occurrences nameText (Str.ofString " ") 0 nameText.length (nameText.length + 1)).isEmpty = false := by kernel_rfl
theorem names_c1 : (decide (nameText.length < (Str.ofString " ").length) || decide (Builtin.Str.strKind nameText < Builtin.Str.strKind (Str.ofString " "))) = false := by kernel_rfl
theorem names_c2 : ((Str.ofString " ").length == 0) = false := by kernel_rfl
theorem names_len : nameText.length ≤ 1000 := by decide +kernel
variable {prog : Program} {w : World} {A : Around} {E : Value → Shared → Prop} {s : Shared} {Q : Value → Shared → Prop} {h₀ : Heap} {L : Addr} {m : Str → Option Value} {news : List (Addr × Obj)}
theorem names_call {u v : Tok} (F : Fr h₀ L s.heap m) (N : News h₀ L s.heap news)
    (h : ∀ l h' k tk, s.toks ≤ k → k + 12 ≤ tk → Fr h₀ L h' m → News h₀ L h' ((l, listOf (strValues (tagFrom k all12)).toArray 0) :: news) → (∀ p ∈ news, p.1 < l) → Q (.ref l) { s with heap := h', toks := tk }) :
    wpAny (model prog w) A (call (.builtin "str.split") [.str nameText u, .str (Str.ofString " ") v]) Q E s := by
  refine call_meets PySem.F.slot_str_split rfl PySem.F.entry_str_split (PySem.F.args_str_split_2 _ _) (meets_str_split_sep nameText (Str.ofString " ") u v names_c1 names_c2 names_occ (Nat.le_trans names_len (by rw [sizeLine_eq]; decide)) (by rw [names_parts, sizeLine_eq]; decide)) ?_
  rw [names_parts, strsFrom_tag]
  exact h _ _ s.toks _ (Nat.le_refl _) (Nat.le_refl _) (F.push _) (N.push F _) fun p hp => Heap.lt_size (N p hp).1
/-- the seven names from base on -/
theorem names_slice (k : Nat) (bs : Int) (h : 0 ≤ bs ∧ bs < 6) : slicePick (strValues (tagFrom k all12)).toArray (some bs) (some (bs + 7)) none = (strValues (((tagFrom k all12).drop bs.toNat).take 7)).toArray := by
  have : bs = 0 ∨ bs = 1 ∨ bs = 2 ∨ bs = 3 ∨ bs = 4 ∨ bs = 5 := by omega
  rcases this with rfl | rfl | rfl | rfl | rfl | rfl <;> rfl
theorem twice {α : Type} (l : List α) : (List.replicate (2 : Int).toNat l).flatten = l ++ l := by
  show (List.replicate 2 l).flatten = _
  simp [List.replicate_succ]
noncomputable def sev (b : Nat) : List Str := ((all12.drop b).take 7) ++ ((all12.drop b).take 7)
theorem seven_fst (k b : Nat) : ((((tagFrom k all12).drop b).take 7) ++ (((tagFrom k all12).drop b).take 7)).map (·.1) = sev b := by
  unfold sev
  rw [List.map_append, List.map_take, List.map_drop, tag_fst]
theorem seven_tok {k b : Nat} : ∀ p ∈ (((tagFrom k all12).drop b).take 7) ++ (((tagFrom k all12).drop b).take 7), k ≤ p.2 ∧ p.2 < k + 12 := by
  intro p hp
  have h : p ∈ tagFrom k all12 := by
    rcases List.mem_append.mp hp with h | h
    · exact List.mem_of_mem_drop (List.mem_of_mem_take h)
    · exact List.mem_of_mem_drop (List.mem_of_mem_take h)
  have := tag_tok _ _ p h
  simpa [all12] using this
theorem sev_idx : ∀ b, b < 6 → ∀ k, k < 7 → (sev b).idxOf (nm (b + k)) = k ∧ nm (b + k) ∈ sev b := by decide +kernel
end

end part42
section part43
section
noncomputable def rb (b1 b2 b3 b4 b5 b6 : Bool) : List Int := (if b1 then [1] else []) ++ (if b2 then [2] else []) ++ (if b3 then [3] else []) ++ (if b4 then [4] else []) ++ (if b5 then [5] else []) ++ (if b6 then [6] else [])
theorem ready_rb (h : List Int) : ready h = rb (at' h 1 == 1) (at' h 2 == 2) (at' h 3 == 3) (at' h 4 == 4) (at' h 5 == 5) (at' h 6 == 6) := by
  unfold ready rb
  generalize (at' h) = g
  have e : ∀ (p : Int → Bool), [1, 2, 3, 4, 5, 6].filter p = (if p 1 then [1] else []) ++ (if p 2 then [2] else []) ++ (if p 3 then [3] else []) ++ (if p 4 then [4] else []) ++ (if p 5 then [5] else []) ++ (if p 6 then [6] else []) := by
    intro p
    simp only [List.filter_cons, List.filter_nil]
    cases p 1 <;> cases p 2 <;> cases p 3 <;> cases p 4 <;> cases p 5 <;> cases p 6 <;> rfl
  exact e _
noncomputable def flagsOf (b : Nat) (r : List Int) : Nat := (r.map fun k => 2 ^ (b + k.toNat)).sum
noncomputable def okWord (x : Str) : Bool := x.cps.toList.all (· != 44) && decide (3 ≤ x.length) && decide (x.length ≤ 20) && PyData.strOk x
noncomputable def flagsOk (b : Nat) (r : List Int) : Bool :=
  decide (flagsOf b r < 4096) && ((r.map fun k => (2 : Int) ^ ((b : Int) + k).toNat).sum == (flagsOf b r : Int)) && (wrds (flagsOf b r)).all okWord && !(wrds (flagsOf b r)).isEmpty &&
  (if r.isEmpty then wrds (flagsOf b r) == [Str.ofString "0x0"] else (!(wrds (flagsOf b r) == [Str.ofString "0x0"]) && ((wrds (flagsOf b r)).map fun x => (((sev b).idxOf x : Nat) : Int)) == r && (wrds (flagsOf b r)).all fun x => (sev b).contains x))
theorem flags_all : ∀ b, b < 6 → ∀ b1 b2 b3 b4 b5 b6 : Bool, flagsOk b (rb b1 b2 b3 b4 b5 b6) = true := by decide +kernel
theorem flags_law {b : Nat} (hb : b < 6) (h : List Int) : ∃ F : Nat, F < 4096 ∧ ((ready h).map fun k => (2 : Int) ^ ((b : Int) + k).toNat).sum = (F : Int) ∧ (∀ x ∈ wrds F, 44 ∉ x.cps.toList) ∧ (∀ x ∈ wrds F, 3 ≤ x.length ∧ x.length ≤ 20) ∧ wrds F ≠ [] ∧ (∀ x ∈ wrds F, PyData.strOk x = true) ∧ (wrds F).length ≤ 40 ∧
    (ready h = [] → wrds F = [Str.ofString "0x0"]) ∧ (ready h ≠ [] → wrds F ≠ [Str.ofString "0x0"] ∧ ((wrds F).map fun x => (((sev b).idxOf x : Nat) : Int)) = ready h ∧ ∀ x ∈ wrds F, x ∈ sev b) := by
  have k := flags_all b hb (at' h 1 == 1) (at' h 2 == 2) (at' h 3 == 3) (at' h 4 == 4) (at' h 5 == 5) (at' h 6 == 6)
  rw [← ready_rb] at k
  generalize ready h = r at k
  unfold flagsOk at k
  rw [Bool.and_eq_true, Bool.and_eq_true, Bool.and_eq_true, Bool.and_eq_true] at k
  obtain ⟨⟨⟨⟨k1, k2⟩, k3⟩, k4⟩, k5⟩ := k
  have k3' : ∀ x ∈ wrds (flagsOf b r), 44 ∉ x.cps.toList ∧ (3 ≤ x.length ∧ x.length ≤ 20) ∧ PyData.strOk x = true := by
    intro x hx
    have := List.all_eq_true.mp k3 x hx
    unfold okWord at this
    rw [Bool.and_eq_true, Bool.and_eq_true, Bool.and_eq_true] at this
    obtain ⟨⟨⟨c1, c2⟩, c3⟩, c4⟩ := this
    refine ⟨fun h44 => ?_, ⟨by simpa using c2, by simpa using c3⟩, c4⟩
    have := List.all_eq_true.mp c1 44 h44
    simp at this
  refine ⟨flagsOf b r, by simpa using k1, by simpa using k2, fun x hx => (k3' x hx).1, fun x hx => (k3' x hx).2.1, ?_, fun x hx => (k3' x hx).2.2, ?_, ?_, ?_⟩
  · intro e
    rw [e] at k4
    simp at k4
  · have := (nms_ok (tag_fst (wrds (flagsOf b r)) 0)).1
    have e := congrArg List.length (tag_fst (wrds (flagsOf b r)) 0)
    rw [List.length_map] at e
    omega
  · rintro rfl
    simpa using k5
  · intro hr
    have e : r.isEmpty = false := by simpa using hr
    rw [e] at k5
    simp only [Bool.false_eq_true, if_false, Bool.and_eq_true] at k5
    obtain ⟨⟨c1, c2⟩, c3⟩ := k5
    refine ⟨by simpa using c1, by simpa using c2, fun x hx => ?_⟩
    have := List.all_eq_true.mp c3 x hx
    simpa using this
end

end part43
section part44
section
variable {prog : Program} {w : World} {A : Around} {E : Value → Shared → Prop} {s : Shared} {h₀ : Heap} {L : Addr} {m : Str → Option Value} {env : Env}
open PyProof.Rows.LCg
/-- an element's end, the ledger as it was -/
noncomputable def EltF (h₀ : Heap) (L : Addr) (m : Str → Option Value) (s₁ : Shared) (led : List (Addr × Obj)) (J : Value → Nat → Prop) (y : Value) (s₂ : Shared) : Prop :=
  ∃ h' tk, s₂ = { s₁ with heap := h', toks := tk } ∧ Fr h₀ L h' m ∧ News h₀ L h' led ∧ J y tk
theorem EltF.intro {s₁ : Shared} {led : List (Addr × Obj)} {J : Value → Nat → Prop} {y : Value} {h' : Heap} {tk : Nat} (F : Fr h₀ L h' m) (N : News h₀ L h' led) (j : J y tk) : EltF h₀ L m s₁ led J y { s₁ with heap := h', toks := tk } := ⟨h', tk, rfl, F, N, j⟩
/-- one turn, no test -/
noncomputable def TurnF (prog : Program) (w : World) (A : Around) (h₀ : Heap) (L : Addr) (m : Str → Option Value) (env : Env) (elt : Expr) (x : Str) (scope : Scope) (cl : List (Str × Addr)) (news : List (Addr × Obj)) (n : Nat) (P : Nat → Nat → Value → Prop) (J : Nat → List Value → Nat → Prop) (s₁ : Shared) : Prop :=
  ∀ i v ys oI I C oC D m₂ h tk₀ tk, i < n → P i tk₀ v → tk₀ ≤ tk → J i ys tk₀ → NsObj oC m₂ → m₂ x = some v → Fr h₀ L h m → News h₀ L h ((I, oI) :: (C, oC) :: (D, lst ys) :: news) → Off3 I C D news → ((@Ne Nat I C) ∧ (@Ne Nat I D) ∧ (@Ne Nat C D)) →
    wpAny (model prog w) A (eval elt (compEnvC scope cl C env)) (EltF h₀ L m { s₁ with heap := h, toks := tk } ((I, oI) :: (C, oC) :: (D, lst ys) :: news) (fun y tk' => tk ≤ tk' → J (i + 1) (ys ++ [y]) tk')) (fun _ _ => False) { s₁ with heap := h, toks := tk }
/-- one turn with a test -/
noncomputable def TurnFT (prog : Program) (w : World) (A : Around) (h₀ : Heap) (L : Addr) (m : Str → Option Value) (env : Env) (elt c : Expr) (x : Str) (scope : Scope) (cl : List (Str × Addr)) (news : List (Addr × Obj)) (n : Nat) (P : Nat → Nat → Value → Prop) (J : Nat → List Value → Nat → Prop) (s₁ : Shared) : Prop :=
  ∀ i v ys oI I C oC D m₂ h tk₀ tk, i < n → P i tk₀ v → tk₀ ≤ tk → J i ys tk₀ → NsObj oC m₂ → m₂ x = some v → Fr h₀ L h m → News h₀ L h ((I, oI) :: (C, oC) :: (D, lst ys) :: news) → Off3 I C D news → ((@Ne Nat I C) ∧ (@Ne Nat I D) ∧ (@Ne Nat C D)) →
    wpAny (model prog w) A (isTrue c (compEnvC scope cl C env) (eval c (compEnvC scope cl C env))) (fun ok s₃ =>
      if ok = true then wpAny (model prog w) A (eval elt (compEnvC scope cl C env)) (EltF h₀ L m { s₁ with heap := h, toks := tk } ((I, oI) :: (C, oC) :: (D, lst ys) :: news) (fun y tk' => tk ≤ tk' → J (i + 1) (ys ++ [y]) tk')) (fun _ _ => False) s₃
      else EltF h₀ L m { s₁ with heap := h, toks := tk } ((I, oI) :: (C, oC) :: (D, lst ys) :: news) (fun _ tk' => tk ≤ tk' → J (i + 1) ys tk') .none s₃) (fun _ _ => False) { s₁ with heap := h, toks := tk }
noncomputable def TurnAny (prog : Program) (w : World) (A : Around) (h₀ : Heap) (L : Addr) (m : Str → Option Value) (env : Env) (elt : Expr) (ifs : List Expr) (x : Str) (scope : Scope) (cl : List (Str × Addr)) (news : List (Addr × Obj)) (n : Nat) (P : Nat → Nat → Value → Prop) (J : Nat → List Value → Nat → Prop) (s₁ : Shared) : Prop :=
  match ifs with
  | [] => TurnF prog w A h₀ L m env elt x scope cl news n P J s₁
  | [c] => TurnFT prog w A h₀ L m env elt c x scope cl news n P J s₁
  | _ => False
theorem TurnAny.toT {elt : Expr} {ifs : List Expr} {x : Str} {scope : Scope} {cl : List (Str × Addr)} {news : List (Addr × Obj)} {n : Nat} {P : Nat → Nat → Value → Prop} {J : Nat → List Value → Nat → Prop} {s₁ : Shared}
    (H : TurnAny prog w A h₀ L m env elt ifs x scope cl news n P J s₁) : TurnT prog w A h₀ L m env elt ifs x scope cl n P (fun i ys nx tk => nx = news ∧ J i ys tk) s₁ := by
  match ifs, H with
  | [], H =>
    refine TurnT.plain (cl := cl) ?_
    rintro i v ys news₁ oI I C oC D m₂ hh tk₀ tk a b c ⟨rfl, d⟩ e f g k l o
    refine wpAny_with_toks (n := tk) (Nat.le_refl _) (wpAny_mono (H i v ys oI I C oC D m₂ hh tk₀ tk a b c d e f g k l o) ?_ fun _ _ x _ => x)
    rintro y s₃ ⟨h', tk', rfl, F', N', j⟩ hle
    exact ⟨h', tk', _, rfl, F', N', l, rfl, j hle⟩
  | [t], H =>
    refine TurnT.test (cl := cl) ?_
    rintro i v ys news₁ oI I C oC D m₂ hh tk₀ tk a b c ⟨rfl, d⟩ e f g k l o
    refine wpAny_with_toks (n := tk) (Nat.le_refl _) (wpAny_mono (H i v ys oI I C oC D m₂ hh tk₀ tk a b c d e f g k l o) ?_ fun _ _ x _ => x)
    intro ok s₃ h₃ hle₃
    cases ok with
    | true =>
      rw [if_pos rfl] at h₃ ⊢
      refine wpAny_with_toks (n := s₃.toks) (Nat.le_refl _) (wpAny_mono h₃ ?_ fun _ _ x _ => x)
      rintro y s₄ ⟨h', tk', rfl, F', N', j⟩ hle
      exact ⟨h', tk', _, rfl, F', N', l, rfl, j (Nat.le_trans hle₃ hle)⟩
    | false =>
      rw [if_neg (by decide)] at h₃ ⊢
      obtain ⟨h', tk', rfl, F', N', j⟩ := h₃
      exact ⟨h', tk', _, rfl, F', N', l, rfl, j hle₃⟩
theorem src_list_f {elt iter : Expr} {ifs : List Expr} {x : Str} {px : Pos} {scope : Scope} {cl : List (Str × Addr)} {pos : Pos} {l : Addr} {vs : List Value} {nn : Nat} {s₁ : Shared} {news : List (Addr × Obj)} (J : Nat → List Value → Nat → Prop)
    (F : Fr h₀ L s₁.heap m) (N : News h₀ L s₁.heap news) (hl : (l, listOf vs.toArray nn) ∈ news) (hsz : vs.length ≤ sizeLine) (h0 : J 0 [] s₁.toks)
    (hh : A.handled = none) (hcell : ∀ y ∈ scope.names, y.2 ≠ .cell) (hkind : scope.kind = .function) (hx : scope.names.lookup x = some .local)
    (turn : ∀ s₂ : Shared, (∃ h, s₂ = { s₁ with heap := h }) → TurnAny prog w A h₀ L m env elt ifs x scope cl news vs.length (fun i _ v => vs[i]? = some v) J s₂) :
    SrcT prog w A h₀ L m env elt iter ifs x px scope cl pos (fun D ys nx tk => (∀ p ∈ news, p.1 < D) ∧ nx = news ∧ J vs.length ys tk) (.ref l) s₁ :=
  src_list (fun i ys nx tk => nx = news ∧ J i ys tk) hh hcell hkind hx (by rintro i ys nx tk ⟨rfl, _⟩; exact hl) hsz F N ⟨rfl, h0⟩ fun s₂ hs₂ => (turn s₂ hs₂).toT
theorem src_range_f {elt iter : Expr} {ifs : List Expr} {x : Str} {px : Pos} {scope : Scope} {cl : List (Str × Addr)} {pos : Pos} {r : Addr} {a b c : Int} {n : Nat} {t u v : Tok} {s₁ : Shared} {news : List (Addr × Obj)} (J : Nat → List Value → Nat → Prop)
    (hr : IsRange s₁.heap r a b c t u v) (F : Fr h₀ L s₁.heap m) (N : News h₀ L s₁.heap news) (hsm : Builtin.Range.small a b c = true) (hn : Builtin.Range.rangeSize a b c = (n : Int)) (hsz : n ≤ sizeLine) (h0 : J 0 [] s₁.toks)
    (hh : A.handled = none) (hcell : ∀ y ∈ scope.names, y.2 ≠ .cell) (hkind : scope.kind = .function) (hx : scope.names.lookup x = some .local)
    (turn : ∀ s₂ : Shared, (∃ h, s₂ = { s₁ with heap := h }) → TurnAny prog w A h₀ L m env elt ifs x scope cl news n (fun i tk v => v = .int (a + (i : Nat) * c) tk) J s₂) :
    SrcT prog w A h₀ L m env elt iter ifs x px scope cl pos (fun D ys nx tk => (∀ p ∈ news, p.1 < D) ∧ nx = news ∧ J n ys tk) (.ref r) s₁ :=
  src_range (fun i ys nx tk => nx = news ∧ J i ys tk) hh hcell hkind hx hr hsm hn hsz F N ⟨rfl, h0⟩ fun s₂ hs₂ => (turn s₂ hs₂).toT
/-- what is asked behind a comprehension's iterable -/
noncomputable def CompGo (prog : Program) (w : World) (A : Around) (h₀ : Heap) (L : Addr) (m : Str → Option Value) (env : Env) (elt iter : Expr) (ifs : List Expr) (x : Str) (px : Pos) (scope : Scope) (cl : List (Str × Addr)) (pos : Pos)
    (M : Addr → Str → Option Value) (K : Addr → Shared → Prop) (xv : Value) (s₁ : Shared) : Prop :=
  ∃ Z, SrcT prog w A h₀ L m env elt iter ifs x px scope cl pos Z xv s₁ ∧
      ∀ D ys news' h tk₀ tk, tk₀ ≤ tk → Z D ys news' tk₀ → Fr h₀ L h (M D) → News h₀ L h ((D, lst ys) :: news') → Off1 D news' → K D { s₁ with heap := h, toks := tk }
theorem comp_ev {elt iter : Expr} {ifs : List Expr} {x : Str} {px : Pos} {scope : Scope} {cl : List (Str × Addr)} {pos : Pos} {Q : Value → Shared → Prop} (_F₀ : Fr h₀ L s.heap m)
    (hclos : closureFor scope env = pure cl) (hkind : scope.kind = .function)
    (hnames : ∀ y ∈ scope.names, y.2 = .local → scope.names.lookup y.1 = some .local)
    (h : wpAny (model prog w) A (eval iter env) (CompGo prog w A h₀ L m env elt iter ifs x px scope cl pos (fun _ => m) (fun D => Q (.ref D))) E s)
    (hs : ∀ x, foldedSetIterable iter env x = pure x := by intro _; rfl) :
    wpAny (model prog w) A (eval (.ListComp elt [⟨.Name x px, iter, ifs, 0⟩] scope pos) env) Q E s := comp_e _F₀ hclos hkind hnames h hs
theorem comp_as {elt iter : Expr} {ifs : List Expr} {x y : Str} {px py : Pos} {scope : Scope} {cl : List (Str × Addr)} {pos spos : Pos} {Q : Flow → Shared → Prop} (_F₀ : Fr h₀ env.locals s.heap m)
    (hsw : swapsWith (.ListComp elt [⟨.Name x px, iter, ifs, 0⟩] scope pos) (some (.Name y py)) spos.line env = pure true)
    (hclos : closureFor scope env = pure cl) (hkind : scope.kind = .function)
    (hnames : ∀ z ∈ scope.names, z.2 = .local → scope.names.lookup z.1 = some .local)
    (hy : env.kindOf y = some .local) (hp : (env.scope.kind == .class || (env.scope.kind == .module && env.locals != env.globals)) = false)
    (h : wpAny (model prog w) A (eval iter env) (CompGo prog w A h₀ env.locals m env elt iter ifs x px scope cl pos (fun D z => if z = y then some (.ref D) else m z) (fun _ => Q .next)) E s)
    (hs : ∀ x, foldedSetIterable iter env x = pure x := by intro _; rfl) :
    wpAny (model prog w) A (exec (.Assign [.Name y py] (.ListComp elt [⟨.Name x px, iter, ifs, 0⟩] scope pos) spos) env) Q E s := comp_a _F₀ hsw hclos hkind hnames hy hp h hs
theorem go_list {elt iter : Expr} {ifs : List Expr} {x : Str} {px : Pos} {scope : Scope} {cl : List (Str × Addr)} {pos : Pos} {l : Addr} {vs : List Value} {nn : Nat} {s₁ : Shared} {news : List (Addr × Obj)} {M : Addr → Str → Option Value} {K : Addr → Shared → Prop} (J : Nat → List Value → Nat → Prop)
    (F : Fr h₀ L s₁.heap m) (N : News h₀ L s₁.heap news) (hl : (l, listOf vs.toArray nn) ∈ news) (hsz : vs.length ≤ sizeLine) (h0 : J 0 [] s₁.toks)
    (hh : A.handled = none) (hcell : ∀ y ∈ scope.names, y.2 ≠ .cell) (hkind : scope.kind = .function) (hx : scope.names.lookup x = some .local)
    (turn : ∀ s₂ : Shared, (∃ h, s₂ = { s₁ with heap := h }) → TurnAny prog w A h₀ L m env elt ifs x scope cl news vs.length (fun i _ v => vs[i]? = some v) J s₂)
    (fin : ∀ D ys h tk₀ tk, tk₀ ≤ tk → J vs.length ys tk₀ → Fr h₀ L h (M D) → News h₀ L h ((D, listOf ys.toArray ys.length) :: news) → (∀ p ∈ news, p.1 < D) → K D { s₁ with heap := h, toks := tk }) :
    CompGo prog w A h₀ L m env elt iter ifs x px scope cl pos M K (.ref l) s₁ :=
  ⟨_, src_list_f J F N hl hsz h0 hh hcell hkind hx turn, fun D ys _ h tk₀ tk a b c d _ => by obtain ⟨e, rfl, b⟩ := b; exact fin D ys h tk₀ tk a b c d e⟩
theorem go_range {elt iter : Expr} {ifs : List Expr} {x : Str} {px : Pos} {scope : Scope} {cl : List (Str × Addr)} {pos : Pos} {r : Addr} {a b c : Int} {t u v : Tok} {s₁ : Shared} {news : List (Addr × Obj)} {M : Addr → Str → Option Value} {K : Addr → Shared → Prop} (n : Nat) (J : Nat → List Value → Nat → Prop)
    (hr : IsRange s₁.heap r a b c t u v) (F : Fr h₀ L s₁.heap m) (N : News h₀ L s₁.heap news) (hsm : Builtin.Range.small a b c = true) (hn : Builtin.Range.rangeSize a b c = (n : Int)) (hsz : n ≤ 1000) (h0 : J 0 [] s₁.toks)
    (hh : A.handled = none) (hcell : ∀ y ∈ scope.names, y.2 ≠ .cell) (hkind : scope.kind = .function) (hx : scope.names.lookup x = some .local)
    (turn : ∀ s₂ : Shared, (∃ h, s₂ = { s₁ with heap := h }) → TurnAny prog w A h₀ L m env elt ifs x scope cl news n (fun i tk v => v = .int (a + (i : Nat) * c) tk) J s₂)
    (fin : ∀ D ys h tk₀ tk, tk₀ ≤ tk → J n ys tk₀ → Fr h₀ L h (M D) → News h₀ L h ((D, listOf ys.toArray ys.length) :: news) → (∀ p ∈ news, p.1 < D) → K D { s₁ with heap := h, toks := tk }) :
    CompGo prog w A h₀ L m env elt iter ifs x px scope cl pos M K (.ref r) s₁ :=
  ⟨_, src_range_f J hr F N hsm hn (Nat.le_trans hsz (by rw [sizeLine_eq]; decide)) h0 hh hcell hkind hx turn, fun D ys _ h tk₀ tk a b c d _ => by obtain ⟨e, rfl, b⟩ := b; exact fin D ys h tk₀ tk a b c d e⟩
end

end part44
section part45
section
open PyProof.V
theorem lay_strs : ∀ ns : List Str, (∀ x ∈ ns, PyData.strOk x = true) → PyData.canLayAll0 (ns.map PyData.str) = true
  | [], _ => rfl
  | x :: r, h => by simp [PyData.canLayAll0, PyData.canLay0, h x (.head _), lay_strs r fun y hy => h y (.tail _ hy)]
theorem depth_strs : ∀ ns : List Str, PyData.depthAll (ns.map PyData.str) = 0
  | [] => rfl
  | _ :: r => by simp [PyData.depthAll, PyData.depth, depth_strs r]
theorem shaped_strs {ns : List Str} (h : ∀ x ∈ ns, PyData.strOk x = true) : SeqAt.shaped (.list (ns.map PyData.str)) = true := by
  simp [SeqAt.shaped, PyData.canLay0, PyData.depth, lay_strs ns h, depth_strs]
theorem same_strs : ∀ ns ms : List Str, PySem.Spec.sameAll (ns.map PyData.str) (ms.map PyData.str) = decide (ns = ms)
  | [], [] => by simp [PySem.Spec.sameAll]
  | [], _ :: _ => by simp [PySem.Spec.sameAll]
  | _ :: _, [] => by simp [PySem.Spec.sameAll]
  | a :: r, b :: t => by
    simp only [List.map_cons, PySem.Spec.sameAll, PySem.Spec.same, same_strs r t]
    by_cases h : a = b <;> by_cases h' : r = t <;> simp [h, h']
theorem carried_strs : ∀ ps : List (Str × Nat), CarriedAll (strValues ps) ((ps.map (·.1)).map PyData.str)
  | [] => .nil
  | p :: r => .cons (.str p.1 p.2) (carried_strs r)
variable {prog : Program} {w : World} {A : Around} {E : Value → Shared → Prop} {s : Shared} {h₀ : Heap} {L : Addr} {news : List (Addr × Obj)} {Q : Value → Shared → Prop}
theorem eq_texts {a b : Addr} {ps qs : List (Str × Nat)} {n k : Nat} (N : News h₀ L s.heap news) (ha : (a, listOf (strValues ps).toArray n) ∈ news) (hb : (b, listOf (strValues qs).toArray k) ∈ news)
    (h1 : ∀ x ∈ ps.map (·.1), PyData.strOk x = true) (h2 : ∀ x ∈ qs.map (·.1), PyData.strOk x = true) (hu : A.units + 64 < cLine) (h : Q (.bool (decide (ps.map (·.1) = qs.map (·.1)))) s) :
    wpAny (model prog w) A (compareOp .Eq (.ref a) (.ref b)) Q E s := by
  refine eq_dataH_same (reads_newData (News.isList N ha) (carried_strs ps)) (reads_newData (News.isList N hb) (carried_strs qs)) (shaped_strs h1) (shaped_strs h2) hu (SeqAt.noMix_of_shape (.list .str) rfl _ _ (list_map_has fun _ => rfl) (list_map_has fun _ => rfl)) ?_
  have e : PySem.Spec.same (.list ((ps.map (·.1)).map PyData.str)) (.list ((qs.map (·.1)).map PyData.str)) = decide (ps.map (·.1) = qs.map (·.1)) := by
    simp only [PySem.Spec.same]
    exact same_strs _ _
  rw [e]
  exact h
end

end part45
section part46
section
variable {K : Frag} {prog : Program} {w : World} {A₀ A : Around} {s : Shared} {base h₀ : Heap} {L : Addr} {m mg mb : Str → Option Value} {news : List (Addr × Obj)} {p : Program} {loose : List Str} {mean : ExcName → Option Value}
/-- a def with cells is entered; the tokens in it are no lower than the caller's -/
theorem cells_enter {env : Env} {outer : List Env} {R : Result → Shared → Prop} {name qual : Str} {params : Arguments} {body : List Stmt} {scope : Scope} {dV kV doc pm cdv ct oc : Value} {an od : Option Addr} {osl : Array (Option Value)} {f : Addr} {args : Args} {binds : List (Str × Value)}
    (B : Below A₀ base outer h₀) (F : Fr h₀ L s.heap m) (X : K.In h₀) (N : News h₀ L s.heap news) (T : Top p loose mean mg mb h₀) (hA : A.frames = some (env :: outer)) (hf : env.frame = some L) (hke : env.scope.kind = .function)
    (ho : K.lookup f = some ⟨oc, od, .func (fnOf name qual params body scope dV kV doc pm an cdv ct), osl⟩) (hcd : codeIn K cdv qual = true) (hroom : A.depth < recursionLimit)
    (hbind : BindsTo s (fnOf name qual params body scope dV kV doc pm an cdv ct) args binds) (hkind : (binds.all fun y => scope.names.lookup y.1 == some .local || scope.names.lookup y.1 == some .cell) = true)
    (hnd : ((cellsFrom 0 scope.names []).map (·.1)).Nodup)
    (h : ∀ g L' h₁ tk cells, s.toks ≤ tk → Fr h₀ L g m → Fr g L' h₁ (bindL (envOfC qual scope L' f cdv).kindOf binds fun _ => none) → News g L' h₁ (cells ++ news) →
      CellsAre (bindC (envOfC qual scope L' f cdv).kindOf binds fun _ => none) (cellsFrom (L' + 1) scope.names []) cells → Below A base (env :: outer) g → K.In g → Top p loose mean mg mb g → (∀ p ∈ news, p.1 < L') →
      wpAny (model prog w) (A.deeper (envOfC qual scope L' f cdv)) (execs body (envOfC qual scope L' f cdv))
        (fun fl s' => LeaveK h₀ L m g R (match fl with | .ret v => v | _ => .none) s')
        (fun e s' => wpAny (model prog w) (A.deeper (envOfC qual scope L' f cdv)) (leaving (envOfC qual scope L' f cdv) e) (fun _ s'' => R (.error e) s'') (fun e' s'' => R (.error e') s'') s')
        { s with heap := h₁, toks := tk })
    (hco : scope.isCoroutine = false) (hgen : scope.isGenerator = false) (hk : scope.kind = .function) : codeAny (model prog w) A (.call (.ref f) args) R s := by
  obtain ⟨FG, BG, st, lv⟩ := groundX (R := R) B F N hA hf hke
  have keepC := X.keeps F.keep
  refine codeAny_call_function hroom (keepC _ _ ho) rfl hco hgen rfl (codeRec_of keepC hcd) (hbind _ _ _ _ (wpAny_with_toks (Nat.le_refl s.toks) ?_))
  refine wpAny_newFunctionEnv_cells hk (kindsX hkind _) fun e he s₁ x hle => ?_
  rw [he] at x ⊢
  have up := x.toInCall.keep
  obtain ⟨h₁, tk, e₁, _⟩ := x.done
  subst e₁
  refine ⟨(T.nolimit.keeps F.keep).keeps up, codeAny_func ?_⟩
  have look := cellsFrom_names scope.names 0 (s.heap.objs.size + 1) [] [] rfl
  obtain ⟨cells, NC, Y⟩ := Cl.news (h₀ := s.heap) (Nat.le_refl _) fun n c hm => ⟨x.cell n c (lookup_of_mem_nodup (look ▸ hnd) hm), x.above n c hm⟩
  have FL : Fr (hideAll s.heap (news.map (·.1))) s.heap.objs.size h₁ _ := ⟨x.toInCall.ns, fun b o q => up b o (of_hideAll _ q), Nat.le_of_eq (hideAll_size _ _)⟩
  have NL : News (hideAll s.heap (news.map (·.1))) s.heap.objs.size h₁ (cells ++ news) := fun q hq => by
    rcases List.mem_append.mp hq with hq | hq
    · have z := NC q hq
      refine ⟨z.1, z.2.1, ?_⟩
      match r : (hideAll s.heap (news.map (·.1))).get? q.1 with
      | none => exact r
      | some o => have := of_hideAll _ r; rw [z.2.2] at this; cases this
    · exact ⟨up _ _ (N q hq).1, Nat.ne_of_lt (Heap.lt_size (N q hq).1), hideAll_none _ (List.mem_map_of_mem hq)⟩
  exact wpAny_mono (h _ _ h₁ tk cells hle FG FL NL Y BG (X.keeps st) (T.keeps st) fun q hq => Heap.lt_size (N q hq).1) (fun _ _ y => lv _ _ y) fun _ _ y => y
end
section
variable {K : Frag} {prog : Program} {w : World} {s : Shared} {mg mb : Str → Option Value} {p : Program} {loose : List Str} {mean : ExcName → Option Value}
/-- the caller's call of a def with cells; the tokens in it are no lower than the caller's -/
theorem top_enter {Q E : Value → Shared → Prop} {name qual : Str} {params : Arguments} {body : List Stmt} {scope : Scope} {dV kV doc pm cdv ct oc : Value} {an od : Option Addr} {osl : Array (Option Value)} {f : Addr} {args : List Value} {binds : List (Str × Value)}
    (X : K.In s.heap) (T : Top p loose mean mg mb s.heap)
    (ho : K.lookup f = some ⟨oc, od, .func (fnOf name qual params body scope dV kV doc pm an cdv ct), osl⟩) (hcd : codeIn K cdv qual = true)
    (hbind : BindsTo s (fnOf name qual params body scope dV kV doc pm an cdv ct) ⟨args, []⟩ binds) (hkind : (binds.all fun y => scope.names.lookup y.1 == some .local || scope.names.lookup y.1 == some .cell) = true)
    (hnd : ((cellsFrom 0 scope.names []).map (·.1)).Nodup)
    (h : ∀ L' h₁ tk cells, s.toks ≤ tk → Fr s.heap L' h₁ (bindL (envOfC qual scope L' f cdv).kindOf binds fun _ => none) → News s.heap L' h₁ (cells ++ []) →
      CellsAre (bindC (envOfC qual scope L' f cdv).kindOf binds fun _ => none) (cellsFrom (L' + 1) scope.names []) cells → Below callerA s.heap [] s.heap →
      wpAny (model prog w) (callerA.deeper (envOfC qual scope L' f cdv)) (execs body (envOfC qual scope L' f cdv))
        (fun fl s' => Q (match fl with | .ret v => v | _ => .none) s') (fun _ _ => False) { s with heap := h₁, toks := tk })
    (hco : scope.isCoroutine = false) (hgen : scope.isGenerator = false) (hk : scope.kind = .function) : wpAny (model prog w) callerA (call (.ref f) args) Q E s := by
  refine wpAny_call ?_
  refine codeAny_call_function (by decide) (X _ _ ho) rfl hco hgen rfl (codeRec_of X hcd) (hbind _ _ _ _ (wpAny_with_toks (Nat.le_refl s.toks) ?_))
  refine wpAny_newFunctionEnv_cells hk (kindsX hkind _) fun e he s₁ x hle => ?_
  rw [he] at x ⊢
  obtain ⟨h₁, tk, e₁, _⟩ := x.done
  subst e₁
  refine ⟨T.nolimit.keeps x.toInCall.keep, codeAny_func ?_⟩
  have look := cellsFrom_names scope.names 0 (s.heap.objs.size + 1) [] [] rfl
  obtain ⟨cells, NC, Y⟩ := Cl.news (h₀ := s.heap) (Nat.le_refl _) fun n c hm => ⟨x.cell n c (lookup_of_mem_nodup (look ▸ hnd) hm), x.above n c hm⟩
  refine wpAny_mono (h _ h₁ tk cells hle ⟨x.toInCall.ns, x.toInCall.keep, Nat.le_refl _⟩ (fun q hq => NC q (by simpa using hq)) Y (below_caller (Top.heap T))) (fun _ _ y => y) fun _ _ y => y.elim
end

end part46
section part47
section
variable {prog : Program} {w : World} {A : Around} {E : Value → Shared → Prop} {s : Shared} {h₀ : Heap} {L : Addr} {news : List (Addr × Obj)} {Q : Value → Shared → Prop}
/-- the very item of a ledger's list -/
theorem item_at {value slice : Expr} {l : Addr} {vs : List Value} {n : Nat} {k : Int} {u : Tok} {v : Value} (N : News h₀ L s.heap news) (hm : (l, listOf vs.toArray n) ∈ news) (hk0 : 0 ≤ k) (hk1 : k < 2 ^ 63) (hx : vs[k.toNat]? = some v) (h : Q v s)
    (hs : subscripted slice false (.ref l) (.int k u) = operate [.ref l, .int k u] (getItem (.ref l) (.int k u)) := by with_unfolding_all rfl) :
    wpAny (model prog w) A (subscriptTail value slice (.ref l) (.int k u)) Q E s :=
  tail_any (News.isList N hm).typeIs slot_list_getitem.lookup (wpAny_getItem_list (News.isList N hm) hk0 hk1 (by simpa using hx) h) hs
theorem item_last {value slice : Expr} {l : Addr} {vs : List Value} {n : Nat} {u : Tok} {v : Value} (N : News h₀ L s.heap news) (hm : (l, listOf vs.toArray n) ∈ news) (hne : vs ≠ []) (hx : vs[vs.length - 1]? = some v) (h : Q v s)
    (hs : subscripted slice false (.ref l) (.int (-1) u) = operate [.ref l, .int (-1) u] (getItem (.ref l) (.int (-1) u)) := by with_unfolding_all rfl) :
    wpAny (model prog w) A (subscriptTail value slice (.ref l) (.int (-1) u)) Q E s := by
  have hp : 0 < vs.length := List.length_pos_iff.mpr hne
  refine tail_any (News.isList N hm).typeIs slot_list_getitem.lookup (wpAny_getItem_list_neg (x := v) (News.isList N hm) (by decide) ?_ (by decide) ?_ h) hs
  · rw [List.size_toArray]; omega
  · rw [List.size_toArray]
    have e : (-1 + (vs.length : Int)).toNat = vs.length - 1 := by omega
    rw [e]
    simpa using hx
theorem first_int {vs : List Value} {ns : List Int} (I : IntsAre vs ns) (h : ns ≠ []) : ∃ t, vs[0]? = some (.int (ns.headD 0) t) := by
  cases I with
  | nil => exact absurd rfl h
  | cons x t r => exact ⟨t, rfl⟩
theorem last_int {vs : List Value} {ns : List Int} (I : IntsAre vs ns) (h : ns ≠ []) : vs ≠ [] ∧ ∃ t, vs[vs.length - 1]? = some (.int (ns.getLastD 0) t) := by
  have hl := I.length
  have hp : 0 < ns.length := List.length_pos_iff.mpr h
  refine ⟨fun e => by rw [e] at hl; simp at hl; omega, ?_⟩
  have hm : ns[ns.length - 1]? = some (ns.getLastD 0) := by
    rw [← List.getLast?_eq_getElem?]
    cases ns with
    | nil => exact absurd rfl h
    | cons a r => simp [List.getLast?_cons, List.getLastD_cons]
  have hv : vs[ns.length - 1]? = some vs[ns.length - 1] := List.getElem?_eq_getElem (by omega)
  obtain ⟨x, t, e1, e2⟩ := ints_get I hv
  rw [hm] at e2
  cases e2
  rw [hl]
  exact ⟨t, by rw [hv, e1]⟩
end
section
variable {M : Model} {A : Around} {s : Shared} {Q E : Value → Shared → Prop}
/-- ways that meet: the state is as it was but for its tokens -/
theorem join_keep {c : Sem Value} (P : Value → Prop) (h : wpAny M A c (fun v s' => P v ∧ ∃ tk', s.toks ≤ tk' ∧ s' = { s with toks := tk' }) E s) (k : ∀ v tk', P v → s.toks ≤ tk' → Q v { s with toks := tk' }) : wpAny M A c Q E s := by
  refine wpAny_mono h ?_ fun _ _ x => x
  rintro v s' ⟨p, tk', hle, rfl⟩
  exact k v tk' p hle
end

end part47
section part48
section
variable {prog : Program} {w : World} {A : Around} {E : Value → Shared → Prop} {s : Shared} {h₀ : Heap} {L : Addr} {m : Str → Option Value} {env : Env}
open PyProof.Rows.LCg
/-- an enumerated source and what its comprehension leaves -/
noncomputable def SrcP (prog : Program) (w : World) (A : Around) (h₀ : Heap) (L : Addr) (m : Str → Option Value) (env : Env) (elt iter tgt : Expr) (scope : Scope) (cl : List (Str × Addr)) (pos : Pos)
    (Z : Addr → List Value → List (Addr × Obj) → Nat → Prop) (xv : Value) (s₁ : Shared) : Prop :=
  ∀ (E : Value → Shared → Prop) (RR : Value → Addr → Result → Shared → Prop),
    (∀ D C h tk₀ tk m' ys news', tk₀ ≤ tk → Fr h₀ L h m → News h₀ L h ((D, lst ys) :: news') → h.Ns C m' → h₀.get? C = none → h₀.get? D = none → C ≠ L → D ≠ L → C ≠ D → (∀ p ∈ news', p.1 ≠ C) → Z D ys news' tk₀ → RR (.ref D) C (.ok .next) { s₁ with heap := h, toks := tk }) →
    wpAny (model prog w) A (pyIter xv) (fun it s₂ => wpAny (model prog w) A (newList []) (fun acc s₃ => wpAny (model prog w) A (newFunctionEnv scope env.globals cl [] env.qual none .none (some env)) (fun cenv s₄ =>
      codeAny (model prog w) A (.compStart (.ListComp elt [⟨tgt, iter, [], 0⟩] scope pos) 0 it acc { cenv with scope := relabel scope env }) (RR acc cenv.locals) s₄) E s₃) E s₂) E s₁
noncomputable def EnumGo (prog : Program) (w : World) (A : Around) (h₀ : Heap) (L : Addr) (m : Str → Option Value) (env : Env) (elt iter tgt : Expr) (scope : Scope) (cl : List (Str × Addr)) (pos : Pos)
    (M : Addr → Str → Option Value) (K : Addr → Shared → Prop) (xv : Value) (s₁ : Shared) : Prop :=
  ∃ Z, SrcP prog w A h₀ L m env elt iter tgt scope cl pos Z xv s₁ ∧
      ∀ D ys news' h tk₀ tk, tk₀ ≤ tk → Z D ys news' tk₀ → Fr h₀ L h (M D) → News h₀ L h ((D, lst ys) :: news') → K D { s₁ with heap := h, toks := tk }
/-- a comprehension over pairs that an assignment takes -/
theorem comp_pa {elt iter tgt : Expr} {y : Str} {py : Pos} {scope : Scope} {cl : List (Str × Addr)} {pos spos : Pos} {Q : Flow → Shared → Prop} (_F₀ : Fr h₀ env.locals s.heap m)
    (hsw : swapsWith (.ListComp elt [⟨tgt, iter, [], 0⟩] scope pos) (some (.Name y py)) spos.line env = pure true)
    (hclos : closureFor scope env = pure cl) (hkind : scope.kind = .function)
    (hnames : ∀ z ∈ scope.names, z.2 = .local → scope.names.lookup z.1 = some .local)
    (hy : env.kindOf y = some .local) (hp : (env.scope.kind == .class || (env.scope.kind == .module && env.locals != env.globals)) = false)
    (h : wpAny (model prog w) A (eval iter env) (EnumGo prog w A h₀ env.locals m env elt iter tgt scope cl pos (fun D z => if z = y then some (.ref D) else m z) (fun _ => Q .next)) E s)
    (hs : ∀ x, foldedSetIterable iter env x = pure x := by intro _; rfl) :
    wpAny (model prog w) A (exec (.Assign [.Name y py] (.ListComp elt [⟨tgt, iter, [], 0⟩] scope pos) spos) env) Q E s := by
  rw [exec_Assign_Name_used _ _ _ _ hsw]
  refine wpAny_bind (wpAny_standAt (wpAny_bind ?_))
  show wpAny _ A (do let _ ← comprehension (.ListComp elt [⟨tgt, iter, [], 0⟩] scope pos) scope env _ (newList []) false (eval iter env) (some (assign (.Name y py) env))) _ _ s
  refine wpAny_bind (wpAny_mono (wpAny_comprehension_free (use := some (assign (.Name y py) env)) (Q := fun _ s' => Q .next s') rfl hs hclos hkind hnames
    (wpAny_mono h (fun xv s₁ h₁ => ?_) fun _ _ e => e)) (fun _ s' hq => wpAny_pure (wpAny_pure hq)) fun _ _ e => e)
  obtain ⟨Z, hZ, hQ⟩ := h₁
  refine hZ E _ ?_
  intro D C h' tk₀ tk m' ys news' htk F' N' hn hC₀ hD₀ hCL hDL hCD offC hJ
  show wpAny _ A (assign (.Name y py) env (.ref D)) _ _ _
  refine wpAny_assign_Name (wpAny_storeName_local hy F'.ns (fun h₂ hn₂ hs₂ => ?_) hp)
  have F₂ := F'.set hn₂ hs₂
  have N₂ := N'.set hs₂
  refine ⟨m', hn.sameBut hs₂ hCL, fun h'' hs'' => hQ D ys news' h'' tk₀ _ (Nat.le_succ_of_le htk) hJ (F₂.change hs'' hCL hC₀) (fun p hp => ?_)⟩
  refine ⟨hs''.extBut _ _ ?_ (N₂ p hp).1, (N₂ p hp).2⟩
  rcases List.mem_cons.mp hp with rfl | hp
  · exact Ne.symm hCD
  · exact offC p hp
/-- one turn over an enumeration -/
noncomputable def TurnP (prog : Program) (w : World) (A : Around) (h₀ : Heap) (L : Addr) (m : Str → Option Value) (env : Env) (elt : Expr) (xi xc : Str) (scope : Scope) (cl : List (Str × Addr)) (news : List (Addr × Obj)) (vs : List Value) (J : Nat → List Value → Nat → Prop) (s₁ : Shared) : Prop :=
  ∀ i t v ys C oC D m₂ h tk₀ tk e oE it oI, vs[i]? = some v → tk₀ ≤ tk → J i ys tk₀ → NsObj oC m₂ → m₂ xi = some (.int (i : Nat) t) → m₂ xc = some v → Fr h₀ L h m → News h₀ L h ((C, oC) :: (D, lst ys) :: (e, oE) :: (it, oI) :: news) →
    (∀ p ∈ (e, oE) :: (it, oI) :: news, p.1 < D) → @LT.lt Nat _ D C →
    wpAny (model prog w) A (eval elt (compEnvC scope cl C env)) (EltF h₀ L m { s₁ with heap := h, toks := tk } ((C, oC) :: (D, lst ys) :: (e, oE) :: (it, oI) :: news) (fun y tk' => tk ≤ tk' → J (i + 1) (ys ++ [y]) tk')) (fun _ _ => False) { s₁ with heap := h, toks := tk }
theorem go_enum {elt iter : Expr} {xi xc : Str} {pk pv pt : Pos} {x1 : Nat} {scope : Scope} {cl : List (Str × Addr)} {pos : Pos} {l : Addr} {vs : List Value} {nn : Nat} {news : List (Addr × Obj)} {M : Addr → Str → Option Value} {K : Addr → Shared → Prop} (J : Nat → List Value → Nat → Prop)
    (F : Fr h₀ L s.heap m) (N : News h₀ L s.heap news) (hl : (l, listOf vs.toArray nn) ∈ news) (hsz : vs.length ≤ sizeLine) (h0 : J 0 [] s.toks)
    (hh : A.handled = none) (hcell : ∀ y ∈ scope.names, y.2 ≠ .cell) (hkind : scope.kind = .function) (hxi : scope.names.lookup xi = some .local) (hxc : scope.names.lookup xc = some .local) (hne : xi ≠ xc)
    (turn : ∀ s₂ : Shared, (∃ h, s₂ = { s with heap := h }) → TurnP prog w A h₀ L m env elt xi xc scope cl news vs J s₂)
    (fin : ∀ D ys h tk₀ tk, tk₀ ≤ tk → J vs.length ys tk₀ → Fr h₀ L h (M D) → News h₀ L h ((D, listOf ys.toArray ys.length) :: news) → (∀ p ∈ news, p.1 < D) → K D { s with heap := h, toks := tk }) :
    wpAny (model prog w) A (call (.type "enumerate") [.ref l]) (EnumGo prog w A h₀ L m env elt iter (.Tuple [.Name xi pk, .Name xc pv] x1 pt) scope cl pos M K) E s := by
  have isl : ∀ {h : Heap}, News h₀ L h news → h.IsList l vs.toArray := fun N => ⟨_, (N _ hl).1, rfl, nn, rfl⟩
  have hLs : L < s.heap.objs.size := F.ns.lt
  refine call_enumerate_list (isl N) fun h' he hit hsz' hk => ⟨fun D ys nx tk => nx = news ∧ (∀ p ∈ news, p.1 < D) ∧ J vs.length ys tk, ?_, ?_⟩
  · intro E RR fin
    refine wpAny_pyIter_enum he ?_
    have FE := F.keeps hk
    have NE := N.grown hk
    have news_lt : ∀ p ∈ news, p.1 < s.heap.objs.size := fun p hp => Heap.lt_size (N p hp).1
    generalize hE : s.heap.objs.size + 1 = e at he
    generalize hI : s.heap.objs.size = it at he hit hLs hsz' news_lt
    have hei : e ≠ it := by rw [← hE, ← hI]; exact Nat.succ_ne_self _
    have hLlt : L < h'.objs.size := FE.ns.lt
    have none_of : ∀ b, it ≤ b → h₀.get? b = none := fun b hb => Heap.get?_none_of_le (Nat.le_trans F.above (Nat.le_trans (Nat.le_of_lt hLs) hb))
    have zE : e ≠ L ∧ h₀.get? e = none := ⟨by rw [← hE, hI]; exact Nat.ne_of_gt (Nat.lt_succ_of_lt hLs), none_of _ (by rw [← hE, hI]; exact Nat.le_succ _)⟩
    have zI : it ≠ L ∧ h₀.get? it = none := ⟨Nat.ne_of_gt hLs, none_of _ (Nat.le_refl _)⟩
    have heD : @LT.lt Nat _ e h'.objs.size := by rw [hsz', ← hE, hI]; exact Nat.lt_succ_self _
    have hiD : @LT.lt Nat _ it h'.objs.size := by rw [hsz']; exact Nat.lt_succ_of_lt (Nat.lt_succ_self _)
    have nD : ∀ p ∈ news, p.1 < h'.objs.size := fun p hp => Nat.lt_trans (news_lt p hp) hiD
    refine wpAny_newObj_type (wpAny_newFunctionEnv hcell (by intro y hy; simp at hy) (fun h₁ hns₁ hsb₁ => ?_) hkind)
    dsimp only at hns₁ hsb₁ ⊢
    generalize hH2 : h'.push { cls := .type "list", dict := none, data := .seq ([] : List Value).toArray } = H2 at hns₁ hsb₁ ⊢
    have hC : H2.objs.size = h'.objs.size + 1 := by rw [← hH2, Heap.size_push]
    generalize hDe : h'.objs.size = D at *
    generalize hCe : H2.objs.size = C at *
    have old : ∀ b o, h'.get? b = some o → h₁.get? b = some o := fun b o q => by
      have hb : b < D := hDe ▸ Heap.lt_size q
      refine hsb₁.extBut b o ?_ (Heap.get?_push_of_some _ (hH2 ▸ Heap.get?_push_of_some _ q))
      rw [hC]
      exact Nat.ne_of_lt (Nat.lt_succ_of_lt hb)
    have hacc : h₁.get? D = some (lst []) := hsb₁.extBut _ _ (by rw [hC]; exact Nat.ne_of_lt (Nat.lt_succ_self _)) (Heap.get?_push_of_some _ (hH2 ▸ hDe ▸ Heap.get?_push_size _ rfl))
    have fresh : ∀ a, D ≤ a → h₀.get? a = none := fun a ha => none_of a (Nat.le_trans (Nat.le_of_lt hiD) ha)
    have hD₀ : h₀.get? D = none := fresh _ (Nat.le_refl _)
    have hC₀ : h₀.get? C = none := fresh _ (by rw [hC]; exact Nat.le_succ _)
    have hDL : D ≠ L := Nat.ne_of_gt hLlt
    have hCL : C ≠ L := by rw [hC]; exact Nat.ne_of_gt (Nat.lt_succ_of_lt hLlt)
    have hDC : @LT.lt Nat _ D C := by rw [hC]; exact Nat.lt_succ_self _
    have hCD : C ≠ D := Nat.ne_of_gt hDC
    have heC : e ≠ C := Nat.ne_of_lt (Nat.lt_trans heD hDC)
    have hiC : it ≠ C := Nat.ne_of_lt (Nat.lt_trans hiD hDC)
    have heD' : e ≠ D := Nat.ne_of_lt heD
    have hiD' : it ≠ D := Nat.ne_of_lt hiD
    have nC : ∀ p ∈ news, p.1 ≠ C := fun p hp => Nat.ne_of_lt (Nat.lt_trans (nD p hp) hDC)
    have nE : ∀ p ∈ news, p.1 ≠ e := fun p hp => by rw [← hE, hI]; exact Nat.ne_of_lt (Nat.lt_succ_of_lt (news_lt p hp))
    have nI : ∀ p ∈ news, p.1 ≠ it := fun p hp => Nat.ne_of_lt (news_lt p hp)
    have loop : ∀ s₃ : Shared, s₃ = { s with heap := h₁, toks := s.toks + ([] : List (Str × Value)).length } →
        codeAny (model prog w) A (.compLoop (.ListComp elt [⟨.Tuple [.Name xi pk, .Name xc pv] x1 pt, iter, [], 0⟩] scope pos) 0 (.ref e) (.ref D) (compEnvC scope cl C env)) (RR (.ref D) C) s₃ := by
      rintro s₃ rfl
      refine LCp.codeAny_compLoop_pair
        (fun k s' => ∃ h' tk i ys m' oD, s' = { s with heap := h', toks := tk } ∧ i ≤ vs.length ∧ k = vs.length + 1 - i ∧ ys.length ≤ i ∧ IsEnum h' e it (i : Nat) oD ∧ h'.IsListIter it l i ∧ Fr h₀ L h' m ∧ h'.Ns C m' ∧ News h₀ L h' ((D, lst ys) :: news) ∧ J i ys tk) ?_ (vs.length + 1)
        ⟨h₁, _, 0, [], _, .none, rfl, Nat.zero_le _, rfl, Nat.le_refl _, old _ _ he, hit.at fun o q => old _ o q, FE.keeps old, hns₁, fun p hp => ?_, h0⟩
      · rintro k s' ⟨h₂, tk, i, ys, m', oD, rfl, hi, rfl, hyl, he', hit', F', hn', N', hJ'⟩
        have Nn : News h₀ L h₂ news := news_tail N'
        by_cases hlt : i < vs.length
        · refine wpAny_pyNext_enum_item he' hit' (isl Nn) (x := vs[i]) (by simp [hlt]) hei fun h₃ ho₃ hit₃ hT₃ hsz₃ hk₃ => ?_
          refine wpAny_letOwnedTupleGo_enum ho₃ fun h₄ he₄ hs₄ => ?_
          have k₄ : ∀ b o, b ≠ e → b ≠ it → h₂.get? b = some o → h₄.get? b = some o := fun b o hb hb' q => (hs₄.2 b hb).trans (hk₃ b o hb hb' q)
          have hit₄ : h₄.IsListIter it l (i + 1) := hit₃.at fun o q => (hs₄.2 it (Ne.symm hei)).trans q
          have hTe : h₂.objs.size ≠ e := Nat.ne_of_gt (Heap.lt_size he')
          have hT₄ : IsTup h₄ h₂.objs.size #[.int (i : Nat) tk, vs[i]] := ⟨_, (hs₄.2 _ hTe).trans hT₃, rfl, _, rfl⟩
          refine assign_Tuple_tuple hh hT₄ rfl rfl fun h₅ hx₅ => ?_
          have k₅ : ∀ b o, h₄.get? b = some o → h₅.get? b = some o := fun b o q => hx₅ b o (Nat.ne_of_lt (Heap.lt_size q)) q
          have ns₅ : h₅.Ns C m' := hn'.at' fun o q => k₅ _ o (k₄ _ o (Ne.symm heC) (Ne.symm hiC) q)
          refine assignInOrder_cons (wpAny_assign_Name (wpAny_storeName_local (lookup_relabel_local hxi) ns₅ (fun h₆ hn₆ hs₆ => ?_) (by simp [compEnvC, relabel, hkind])))
          refine assignInOrder_cons (wpAny_assign_Name (wpAny_storeName_local (lookup_relabel_local hxc) hn₆ (fun h₇ hn₇ hs₇ => ?_) (by simp [compEnvC, relabel, hkind])))
          refine assignInOrder_nil ?_
          have k₇ : ∀ b o, b ≠ C → h₄.get? b = some o → h₇.get? b = some o := fun b o hb q => (hs₇.2 b hb).trans ((hs₆.2 b hb).trans (k₅ b o q))
          have k₇' : ∀ b o, b ≠ e → b ≠ it → b ≠ C → h₂.get? b = some o → h₇.get? b = some o := fun b o x y z q => k₇ b o z (k₄ b o x y q)
          obtain ⟨oC, hC₇, hoC⟩ := ns_obj hn₇
          have he₇ : IsEnum h₇ e it ((i + 1 : Nat) : Int) vs[i] := by have := k₇ _ _ heC he₄; simpa using this
          have hit₇ : h₇.IsListIter it l (i + 1) := hit₄.at fun o q => k₇ _ _ hiC q
          obtain ⟨oI₇, hI₇, hI₇c, hI₇d⟩ := id hit₇
          obtain ⟨oE₇, hE₇, back⟩ : ∃ o, h₇.get? e = some o ∧ ∀ h : Heap, h.get? e = some o → IsEnum h e it ((i + 1 : Nat) : Int) vs[i] := ⟨_, he₇, fun _ x => x⟩
          have F₇ : Fr h₀ L h₇ m := ⟨F'.ns.at' fun o q => k₇' _ o (Ne.symm zE.1) (Ne.symm zI.1) (Ne.symm hCL) q, fun b o q => k₇' b o (fun x => by rw [x, zE.2] at q; cases q) (fun x => by rw [x, zI.2] at q; cases q) (fun x => by rw [x, hC₀] at q; cases q) (F'.keep b o q), F'.above⟩
          have N₇ : News h₀ L h₇ ((C, oC) :: (D, lst ys) :: (e, oE₇) :: (it, oI₇) :: news) := fun p hp => by
            rcases List.mem_cons.mp hp with rfl | hp
            · exact ⟨hC₇, hCL, hC₀⟩
            · rcases List.mem_cons.mp hp with rfl | hp
              · exact ⟨k₇' _ _ (Ne.symm heD') (Ne.symm hiD') (Ne.symm hCD) (N' _ (.head _)).1, hDL, hD₀⟩
              · rcases List.mem_cons.mp hp with rfl | hp
                · exact ⟨hE₇, zE⟩
                · rcases List.mem_cons.mp hp with rfl | hp
                  · exact ⟨hI₇, zI⟩
                  · have z := Nn p hp
                    exact ⟨k₇' _ _ (nE p hp) (nI p hp) (nC p hp) z.1, z.2⟩
          have lts : ∀ p ∈ (e, oE₇) :: (it, oI₇) :: news, p.1 < D := fun p hp => by
            rcases List.mem_cons.mp hp with rfl | hp
            · exact heD
            · rcases List.mem_cons.mp hp with rfl | hp
              · exact hiD
              · exact nD p hp
          refine wpAny_with_toks (n := tk + 1 + 1 + 1) (Nat.le_refl _) (wpAny_mono (turn { s with heap := h' } ⟨_, rfl⟩ i tk vs[i] ys C oC D _ h₇ tk _ e oE₇ it oI₇ (by simp [hlt]) (Nat.le_succ_of_le (Nat.le_succ_of_le (Nat.le_succ _))) hJ' hoC (by simp [hne]) (by simp) F₇ N₇ lts hDC) (fun y s₄ h₄' hle => ?_) fun _ _ x => x.elim)
          obtain ⟨h₈, tk₈, rfl, F₈, N₈, hJ₈⟩ := h₄'
          have zD₈ := (N₈ _ (.tail _ (.head _))).1
          refine append_at (hsz := by show ys.toArray.size ≤ sizeLine; rw [List.size_toArray]; exact Nat.le_trans hyl (Nat.le_trans hi hsz)) zD₈ fun h₉ hs₉ hD₉ => ?_
          have up₉ : ∀ b o, b ≠ D → h₈.get? b = some o → h₉.get? b = some o := fun b o hb q => hs₉.extBut b o hb q
          refine ⟨vs.length + 1 - (i + 1), by omega, h₉, tk₈, i + 1, ys ++ [y], _, vs[i], rfl, hlt, rfl, by rw [List.length_append, List.length_singleton]; omega, back _ (up₉ _ _ heD' (N₈ _ (.tail _ (.tail _ (.head _)))).1),
            ⟨oI₇, up₉ _ _ hiD' (N₈ _ (.tail _ (.tail _ (.tail _ (.head _))))).1, hI₇c, hI₇d⟩, F₈.change hs₉ hDL hD₀, (hoC.ns (N₈ _ (.head _)).1).sameBut hs₉ hCD, fun p hp => ?_, hJ₈ hle⟩
          · rcases List.mem_cons.mp hp with rfl | hp
            · exact ⟨hD₉.trans (congrArg some (lst_snoc ys y)), hDL, hD₀⟩
            · have z := N₈ p (.tail _ (.tail _ (.tail _ (.tail _ hp))))
              exact ⟨up₉ _ _ (Nat.ne_of_lt (nD p hp)) z.1, z.2⟩
        · obtain rfl : i = vs.length := Nat.le_antisymm hi (Nat.not_lt.mp hlt)
          refine wpAny_with_toks (n := tk) (Nat.le_refl _) (wpAny_pyNext_enum_end hh he' hit' (isl Nn) (by simp) fun h₃ hx₃ htk₃ => ?_)
          have up₃ : ∀ b o, b ≠ it → h₂.get? b = some o → h₃.get? b = some o := fun b o hb q => hx₃ b o hb q
          refine fin D C h₃ tk tk _ ys news htk₃ ⟨F'.ns.at' fun o q => up₃ _ o (Ne.symm zI.1) q, fun b o q => up₃ b o (fun x => by rw [x, zI.2] at q; cases q) (F'.keep b o q), F'.above⟩ (fun p hp => ?_) (hn'.at' fun o q => up₃ _ o (Ne.symm hiC) q) hC₀ hD₀ hCL hDL hCD nC ⟨rfl, nD, hJ'⟩
          rcases List.mem_cons.mp hp with rfl | hp
          · exact ⟨up₃ _ _ (Ne.symm hiD') (N' _ (.head _)).1, hDL, hD₀⟩
          · have z := N' p (.tail _ hp)
            exact ⟨up₃ _ _ (nI p hp) z.1, z.2⟩
      · rcases List.mem_cons.mp hp with rfl | hp
        · exact ⟨hacc, hDL, hD₀⟩
        · exact ⟨old _ _ (NE p hp).1, (NE p hp).2⟩
    exact codeAny_compStart_list (loop _ rfl) (wpAny_pyIter_enum (old _ _ he) (loop _ rfl))
  · rintro D ys nx h tk₀ tk htk ⟨rfl, hD, hJ⟩ F' N'
    exact fin D ys h tk₀ tk htk hJ F' N' hD
end

end part48
section part52
section
variable {w : World} {p : Program} {loose : List Str} {mean : ExcName → Option Value} {mg mb : Str → Option Value}
   {dp un : Nat} {gd : Option (List Code)} {cn : Str} {cs : Scope} {a : Addr} {ccd : Value} {cl : List (Str × Addr)} {outer : List Env} {A₀ : Around} {base h₀ : Heap} {L : Addr} {m : Str → Option Value} {s : Shared} {Q E : Value → Shared → Prop}
   {news : List (Addr × Obj)}
/-- what Whitespace keeps while it reads -/
structure WS where
  cnt : List Int
  b : Int
  n : Int
  nt : Int
noncomputable def fit (cnt : List Int) (b : Nat) : List Int := cnt ++ List.replicate (b + 1 - cnt.length) 0
noncomputable def bump (cnt : List Int) (b : Nat) : List Int := (fit cnt b).set b ((fit cnt b).getD b 0 + 1)
noncomputable def wsStep (st : WS) (c : Nat) : WS := if c = 32 then { st with n := st.n + 1, b := st.b + 1 } else { cnt := bump st.cnt st.b.toNat, b := 0, n := st.n + 1, nt := st.nt + 1 }
noncomputable def wsRun (cs : List Nat) : WS := cs.foldl wsStep ⟨[], 0, 0, 0⟩
theorem wsRun_take {cs : List Nat} {i c : Nat} (h : cs[i]? = some c) : wsRun (cs.take (i + 1)) = wsStep (wsRun (cs.take i)) c := by
  unfold wsRun
  rw [List.take_add_one, h, List.foldl_append]
  rfl
theorem bump_len (cnt : List Int) (b : Nat) : (bump cnt b).length = max cnt.length (b + 1) := by
  unfold bump fit
  rw [List.length_set, List.length_append, List.length_replicate]
  omega
theorem wsRun_b (cs : List Nat) : (0 ≤ (wsRun cs).b ∧ (wsRun cs).b ≤ cs.length) ∧ (wsRun cs).cnt.length ≤ cs.length := by
  unfold wsRun
  suffices h : ∀ st : WS, 0 ≤ st.b → (0 ≤ (cs.foldl wsStep st).b ∧ (cs.foldl wsStep st).b ≤ st.b + cs.length) ∧ ((cs.foldl wsStep st).cnt.length : Int) ≤ max (st.cnt.length : Int) st.b + cs.length by
    have := h ⟨[], 0, 0, 0⟩ (Int.le_refl _)
    refine ⟨by simpa using this.1, ?_⟩
    have h2 := this.2
    simp only [List.length_nil] at h2
    omega
  induction cs with
  | nil => intro st h; exact ⟨⟨h, by simp⟩, by simp; omega⟩
  | cons c r ih =>
    intro st h
    rw [List.foldl_cons, List.length_cons]
    have hb : 0 ≤ (wsStep st c).b := by unfold wsStep; split <;> simp <;> omega
    have := ih (wsStep st c) hb
    have h2 : (wsStep st c).b ≤ st.b + 1 := by unfold wsStep; split <;> simp <;> omega
    have h3 : ((wsStep st c).cnt.length : Int) ≤ max (st.cnt.length : Int) (st.b + 1) := by
      unfold wsStep
      split
      · simp only; omega
      · simp only [bump_len]; omega
    push_cast
    omega
section
variable {prog : Program} {w : World} {A : Around} {E : Value → Shared → Prop} {s : Shared} {Q : Value → Shared → Prop} {h₀ : Heap} {L : Addr} {news : List (Addr × Obj)}
theorem len_n {l : Addr} {vs : List Value} {ns : List Int} {n : Nat} (N : News h₀ L s.heap news) (hm : (l, listOf vs.toArray n) ∈ news) (hi : IntsAre vs ns) (hz : ns.length ≤ 16384) (h : Q (.int (ns.length : Nat) (s.toks + 1)) { s with toks := s.toks + 1 + 1 }) :
    wpAny (model prog w) A (call (.builtin "len") [.ref l]) Q E s :=
  kun_lenL (PySem.IsL.isList (n := n) (N _ hm).1) (by rw [List.size_toArray, hi.length]) (by omega) h
end
local macro_rules | `(tactic| walk_at "call builtin:len") => `(tactic| (k_here; refine' len_n ?N ?m ?i ?z ?_; (case N => k_asm); (case m => k_mem); (case i => with_reducible assumption); (case z => omega)))
local macro_rules | `(tactic| walk_at "TurnPost") => `(tactic| (dsimp only [TurnPost]))
theorem step32 (st : WS) : wsStep st 32 = ⟨st.cnt, st.b + 1, st.n + 1, st.nt⟩ := by unfold wsStep; rw [if_pos rfl]
theorem step9 (st : WS) : wsStep st 9 = ⟨bump st.cnt st.b.toNat, 0, st.n + 1, st.nt + 1⟩ := by unfold wsStep; rw [if_neg (by decide)]
theorem flat_zero (k : Nat) : (List.replicate k [(0 : Int)]).flatten = List.replicate k 0 := by
  induction k with
  | zero => rfl
  | succ k ih => rw [List.replicate_succ, List.replicate_succ, List.flatten_cons, ih]; rfl
theorem bump_low {cnt : List Int} {b : Int} (h : ¬ (cnt.length : Int) ≤ b) (h0 : 0 ≤ b) : cnt.set b.toNat (cnt.getD b.toNat 0 + 1) = bump cnt b.toNat := by
  have e : fit cnt b.toNat = cnt := by
    unfold fit
    have : b.toNat + 1 - cnt.length = 0 := by omega
    rw [this, List.replicate_zero, List.append_nil]
  unfold bump
  rw [e]
theorem bump_high {cnt : List Int} {b : Int} (h : (cnt.length : Int) ≤ b) : (cnt ++ (List.replicate (b - cnt.length + 1).toNat [(0 : Int)]).flatten).set b.toNat ((cnt ++ (List.replicate (b - cnt.length + 1).toNat [(0 : Int)]).flatten).getD b.toNat 0 + 1) = bump cnt b.toNat := by
  have e : cnt ++ (List.replicate (b - cnt.length + 1).toNat [(0 : Int)]).flatten = fit cnt b.toNat := by
    unfold fit
    rw [flat_zero]
    have : (b - cnt.length + 1).toNat = b.toNat + 1 - cnt.length := by omega
    rw [this]
  rw [e]
  rfl
theorem news_pick {h₀ h : Heap} {L : Addr} {a b c d e : Addr × Obj} {rest : List (Addr × Obj)} (N : News h₀ L h (a :: b :: c :: d :: e :: rest)) : News h₀ L h (d :: a :: rest) := fun p hp => by
  rcases List.mem_cons.mp hp with rfl | hp
  · exact N _ (.tail _ (.tail _ (.tail _ (.head _))))
  · rcases List.mem_cons.mp hp with rfl | hp
    · exact N _ (.head _)
    · exact N _ (.tail _ (.tail _ (.tail _ (.tail _ (.tail _ hp)))))
theorem off_cons {I : Addr} {a e : Addr × Obj} {rest : List (Addr × Obj)} (h : a.1 ≠ I) (off : Off I (e :: rest)) : Off I (a :: rest) := fun p hp => by
  rcases List.mem_cons.mp hp with e | hp
  · rw [e]; exact h
  · exact off p (.tail _ hp)
local macro_rules | `(tactic| walk_at "call type:tuple") => `(tactic| (k_here; k_dflt (refine' kde_tupleOf ?k1 ?k2 ?k3 ?k4 ?k5 ?_; (case k1 => k_asm); (case k2 => k_asm); (case k3 => exact News.isList (by k_asm) (by k_mem)); (case k4 => assumption); (case k5 => exact rfl)); intro D' h' F' N' l1; (try k_lt l1)))
/-- the ledger of one Whitespace -/
abbrev wsL (w : World) (txt : Str) (t : Tok) (st : WS) (x d D U : Addr) (vs : List Value) (k1 k2 k3 k4 k5 tn tt bt : Tok) (bs : Bool) : List (Addr × Obj) :=
  [(D, { cls := .type "tuple", data := .seq #[.ref U, .int st.b bt] }), (U, { cls := .type "tuple", data := .seq vs.toArray }), (x, instObj 83 d),
   (d, dictOf [{ hash := PyData.keyHash w.params (Str.ofString "raw"), key := .str (Str.ofString "raw") k1, val := .str txt t },
     { hash := PyData.keyHash w.params (Str.ofString "n"), key := .str (Str.ofString "n") k2, val := .int st.n tn },
     { hash := PyData.keyHash w.params (Str.ofString "nt"), key := .str (Str.ofString "nt") k3, val := .int st.nt tt },
     { hash := PyData.keyHash w.params (Str.ofString "norm"), key := .str (Str.ofString "norm") k4, val := .ref D },
     { hash := PyData.keyHash w.params (Str.ofString "is_simple"), key := .str (Str.ofString "is_simple") k5, val := .bool bs }] 5)]
theorem wsL_of {h₀ h : Heap} {L : Addr} {w : World} {txt : Str} {t : Tok} {st : WS} {x d D U : Addr} {vs : List Value} {k1 k2 k3 k4 k5 tn tt bt : Tok} {bs : Bool} {a b : Addr × Obj} {news : List (Addr × Obj)} {q1 q2 q3 q4 : Addr × Obj}
    (e : [q1, q2, q3, q4] = wsL w txt t st x d D U vs k1 k2 k3 k4 k5 tn tt bt bs) (N : News h₀ L h (q1 :: q2 :: a :: b :: q3 :: q4 :: news)) : News h₀ L h (wsL w txt t st x d D U vs k1 k2 k3 k4 k5 tn tt bt bs ++ news) := by
  rw [← e]
  intro p hp
  simp only [List.cons_append, List.nil_append, List.mem_cons] at hp
  exact N p (by simp only [List.mem_cons]; rcases hp with h | h | h | h | h <;> simp [h])
theorem ws_c {txt : Str} {t : Tok} {pre post : List Nat}
   (B : Below A₀ base outer h₀) (Fm : Fr h₀ L s.heap m) (X : (Mine.hd.heap_39 w.params).In h₀) (N : News h₀ L s.heap news) (T : Top p loose mean mg mb h₀) (hk : cs.kind = .function)
   (htx : txt.cps.toList = pre ++ 120 :: post) (hpre : ∀ c ∈ pre, c = 32 ∨ c = 9) (hasc : txt.cps.all (· < 128) = true) (hlen : pre.length ≤ 100)
   (hd : dp + 1 < recursionLimit) (hu : un + 8 < cLine)
   (ret : ∀ x d D U vs k1 k2 k3 k4 k5 tn tt bt bs h' tk', IntsAre vs (wsRun pre).cnt → (∀ p ∈ news, p.1 < d) → (d : Nat) < x → (d : Nat) < D → (d : Nat) < U → Fr h₀ L h' m → News h₀ L h' (wsL w txt t (wsRun pre) x d D U vs k1 k2 k3 k4 k5 tn tt bt bs ++ news) → Q (.ref x) {s with heap := h', toks := tk'}) :
   wpAny (model PySem.Challenge.rw_wj0037_01.row.prog w) (ktrTop dp un gd cn cs L a ccd cl outer) (call (.ref 83) [.str txt t]) Q E s := by
  (refine' call_cls ?k1 ?k2 ?k3 ?k4 ?k5 ?k6 ?_; (case k1 => k_asm); (case k2 => k_asm); (case k3 => k_asm); (case k4 => k_dflt k_is); (case k5 => k_dflt k_is); (case k6 => k_dflt k_is); intro x' d' h' F' N' l1 l2; (try k_lt2 l2))
  k_dflt cell_enter
  (rename Fr _ _ _ _ => lF)
  replace lF := fr_map (m' := fun y => if y = Str.ofString "ws" then some (.str txt t) else if y = Str.ofString "self" then some (.ref x') else none) lF (fun y => by
    with_unfolding_all exact ((look1 (r := [(Str.ofString "self", .ref x')])).trans (by rw [look1, look0])))
  iterate 44 walk_at "STEP"
  (rename Fr _ _ _ _ => lF)
  (rename News _ _ _ _ => lN)
  (with_unfolding_all refine for_str lF (by rfl) (by rfl) (by rfl) ?_)
  iterate 3 walk_at "STEP"
  (rename _ ∧ _ ∧ _ ∧ AllLt _ _ => q1)
  obtain ⟨cl0, rest, lF, lN, hcl0, hrest⟩ : ∃ cl0 rest, Fr _ _ _ (fun y => if y = Str.ofString "nt" then some (.int 0 _) else if y = Str.ofString "n" then some (.int 0 _) else if y = Str.ofString "b" then some (.int 0 _) else if y = Str.ofString "count" then some (.ref cl0) else if y = Str.ofString "S" then some (.str (Str.ofString " ") 209) else if y = Str.ofString "T" then some (.str (Str.ofString "\t") 210) else if y = Str.ofString "ws" then some (.str txt t) else if y = Str.ofString "self" then some (.ref x') else none) ∧
    News _ _ _ ((cl0, W.listOf #[] 0) :: rest) ∧ (∀ p ∈ rest, p.1 < cl0) ∧ rest = _ := ⟨_, _, lF, lN, List.forall_mem_cons.mpr ⟨q1.1, List.forall_mem_cons.mpr ⟨q1.2.1, List.forall_mem_cons.mpr ⟨q1.2.2.1, fun p hp => Nat.lt_trans (l1 p hp) q1.2.2.1⟩⟩⟩, rfl⟩
  refine ⟨txt, t, _, _, fun i mm nx tk => i ≤ pre.length ∧ ∃ cl vs cc chv bt nt tt, nx = (cl, listOf vs.toArray cc) :: rest ∧ (∀ p ∈ rest, p.1 < cl) ∧ IntsAre vs (wsRun (pre.take i)).cnt ∧
    mm = (fun y => if y = Str.ofString "ch" then chv else if y = Str.ofString "nt" then some (.int (wsRun (pre.take i)).nt tt) else if y = Str.ofString "n" then some (.int (wsRun (pre.take i)).n nt) else if y = Str.ofString "b" then some (.int (wsRun (pre.take i)).b bt) else if y = Str.ofString "count" then some (.ref cl) else if y = Str.ofString "S" then some (.str (Str.ofString " ") 209) else if y = Str.ofString "T" then some (.str (Str.ofString "\t") 210) else if y = Str.ofString "ws" then some (.str txt t) else if y = Str.ofString "self" then some (.ref x') else none),
    rfl, hasc, lF, lN, ?_, ?_, ?_⟩
  · refine ⟨Nat.zero_le _, cl0, [], 0, ?chv, ?t1, ?t2, ?t3, rfl, hcl0, .nil, ?mp⟩
    (case mp => exact map_ext [Str.ofString "ch", Str.ofString "nt", Str.ofString "n", Str.ofString "b"] (by walk_at "MAPK") (by walk_at "MAPY"))
  · rintro I i c u m₁ nx oI h tk₀ tk hc htk ⟨hi, cl, vs, cc, chv, bt, nt, tt, rfl, hcl, hvs, rfl⟩ off F₁ N₁
    clear lF lN
    have hIc : I ≠ cl := (off _ (.head _)).symm
    have hc' : (pre ++ 120 :: post)[i]? = some c := by rw [← htx, Array.getElem?_toList]; exact hc
    rcases Nat.lt_or_eq_of_le hi with hlt | heq
    · rw [List.getElem?_append_left hlt] at hc'
      have hs := wsRun_take hc'
      have hb0 := wsRun_b (pre.take i)
      have htl : (pre.take i).length ≤ 100 := by rw [List.length_take]; omega
      generalize wsRun (pre.take i) = st at hs hb0 hvs F₁
      have hb1 : 0 ≤ st.b ∧ st.b ≤ 100 := by omega
      have hcl1 : st.cnt.length ≤ 100 := by omega
      rcases hpre c (List.mem_of_getElem? hc') with rfl | rfl
      · rw [step32] at hs
        iterate 25 walk_at "STEP"
        (rename News _ _ _ _ => kN)
        (rename Fr _ _ _ _ => kF)
        refine ⟨_, _, _, _, rfl, kF, kN, off, hlt, cl, vs, cc, ?chvA, ?btA, ?ntA, ?ttA, rfl, hcl, by rw [hs]; exact hvs, ?mp⟩
        (case mp =>
          rw [hs]
          exact map_ext [Str.ofString "ch", Str.ofString "nt", Str.ofString "n", Str.ofString "b", Str.ofString "count"] (by walk_at "MAPK") (by walk_at "MAPY"))
      · rw [step9] at hs
        iterate 97 walk_at "STEP"
        · (rename News _ _ _ _ => kN)
          (rename Fr _ _ _ _ => kF)
          (rename IntsAre _ _ => kI)
          (rename _ ∧ _ ∧ _ ∧ _ ∧ AllLt _ _ => q)
          (rename (_ : Int) ≤ WS.b _ => hle)
          rw [bump_high hle] at kI
          refine ⟨_, _, _, _, rfl, kF, news_pick kN, ?off, hlt, _, _, _, ?chv2, ?bt2, ?nt2, ?tt2, rfl, ?lt, by rw [hs]; exact kI, ?mp2⟩
          (case off => exact off_cons (Nat.ne_of_gt q.2.2.1) off)
          (case lt => exact fun p hp => Nat.lt_trans (hcl p hp) q.2.2.2.1)
          (case mp2 =>
            rw [hs]
            exact map_ext [Str.ofString "ch", Str.ofString "nt", Str.ofString "n", Str.ofString "b", Str.ofString "count"] (by walk_at "MAPK") (by walk_at "MAPY"))
        · iterate 18 walk_at "STEP"
          (rename News _ _ _ _ => kN)
          (rename Fr _ _ _ _ => kF)
          (rename ¬ (_ : Int) ≤ WS.b _ => hle)
          refine ⟨_, _, _, _, rfl, kF, kN, ?off3, hlt, _, _, _, ?chv3, ?bt3, ?nt3, ?tt3, rfl, hcl, by rw [hs, ← bump_low hle hb1.1]; exact ints_set hvs _, ?mp3⟩
          (case off3 => exact off_cons (Ne.symm hIc) off)
          (case mp3 =>
            rw [hs]
            exact map_ext [Str.ofString "ch", Str.ofString "nt", Str.ofString "n", Str.ofString "b", Str.ofString "count"] (by walk_at "MAPK") (by walk_at "MAPY"))
    · rw [heq, List.getElem?_append_right (Nat.le_refl _), Nat.sub_self] at hc'
      cases hc'
      subst hrest
      replace N₁ := news_tail N₁
      have y0 := ltN (hcl _ (.head _))
      have y1 := ltN (hcl _ (.tail _ (.head _)))
      have y2 := ltN (hcl _ (.tail _ (.tail _ (.head _))))
      dsimp only at y0 y1 y2
      have y3 : ∀ p ∈ news, p.1 < d' := l1
      clear hcl hcl0
      rw [heq, List.take_length] at hvs F₁
      have hb0 := wsRun_b pre
      have hcl1 : (wsRun pre).cnt.length ≤ 100 := by omega
      have hv16 : vs.toArray.size ≤ 16384 := by
        rw [List.size_toArray, hvs.length]
        omega
      iterate 65 walk_at "STEP"
      (rename _ ∧ _ ∧ _ ∧ _ ∧ _ ∧ AllLt _ _ => u1)
      (rename _ ∧ _ ∧ _ ∧ _ ∧ AllLt _ _ => u2)
      (rename News _ _ _ _ => kN)
      exact ret _ _ _ _ _ _ _ _ _ _ _ _ _ _ _ _ hvs l1 l2 u1.2.2.2.2.1 u2.2.2.2.1 (by k_asm) (wsL_of rfl kN)
  · rintro m' nx h tk₀ tk htk ⟨hi, _⟩ F₁ N₁
    exfalso
    have := congrArg List.length htx
    rw [Array.length_toList, List.length_append, List.length_cons] at this
    omega
end

end part52
section part54
section
variable {w : World} {p : Program} {loose : List Str} {mean : ExcName → Option Value} {mg mb : Str → Option Value}
   {dp un : Nat} {gd : Option (List Code)} {cn : Str} {cs : Scope} {a : Addr} {ccd : Value} {cl : List (Str × Addr)} {outer : List Env} {A₀ : Around} {base h₀ : Heap} {L : Addr} {m : Str → Option Value} {s : Shared} {Q E : Value → Shared → Prop}
   {news : List (Addr × Obj)}
noncomputable def ilTo (cnt : List Int) (size : Int) : Nat → Int
  | 0 => 0
  | j + 1 => ilTo cnt size j + (size + j) / size * cnt.getD (size.toNat + j) 0
theorem len_t {A : Around} {l : Addr} {vs : List Value} {ns : List Int} (N : News h₀ L s.heap news) (hm : (l, ({ cls := .type "tuple", data := .seq vs.toArray } : Obj)) ∈ news) (hi : IntsAre vs ns) (hz : ns.length ≤ 16384) (h : Q (.int (ns.length : Nat) (s.toks + 1)) { s with toks := s.toks + 1 + 1 }) :
    wpAny (model PySem.Challenge.rw_wj0037_01.row.prog w) A (call (.builtin "len") [.ref l]) Q E s :=
  kun_lenT (News.isTup N hm) (by rw [List.size_toArray, hi.length]) (by omega) h
theorem range_small {a b : Int} (h1 : 0 ≤ a) (h2 : a < 1000000) (h3 : 0 ≤ b) (h4 : b < 1000000) : Builtin.Range.small a b 1 = true := small_one (by omega) (by omega) (by omega) (by omega)
theorem range_size1 {a b : Int} (_h : 0 ≤ a) : Builtin.Range.rangeSize a b 1 = ((b - a).toNat : Nat) := by
  unfold Builtin.Range.rangeSize
  rw [if_pos (by decide)]
  split
  · rw [Int.ediv_one]; omega
  · omega
local macro_rules | `(tactic| walk_at "call builtin:len") => `(tactic| (k_here; refine' len_t ?N ?m ?i ?z ?_; (case N => k_asm); (case m => k_dflt k_mem); (case i => with_reducible assumption); (case z => omega)))
theorem indent_c {size : Int} {u : Tok} {txt : Str} {t : Tok} {st : WS} {x d D U : Addr} {vs : List Value} {k1 k2 k3 k4 k5 tn tt bt : Tok} {bs : Bool}
   (B : Below A₀ base outer h₀) (Fm : Fr h₀ L s.heap m) (X : (Mine.hd.heap_39 w.params).In h₀) (N : News h₀ L s.heap (wsL w txt t st x d D U vs k1 k2 k3 k4 k5 tn tt bt bs ++ news)) (T : Top p loose mean mg mb h₀) (hk : cs.kind = .function)
   (hvs : IntsAre vs st.cnt) (hs : 0 < size ∧ size < 8) (hl : st.cnt.length ≤ 100)
   (hd : dp + 1 < recursionLimit) (hu : un + 8 < cLine)
   (ret : ∀ v h' tk', Fr h₀ L h' m → News h₀ L h' (wsL w txt t st x d D U vs k1 k2 k3 k4 k5 tn tt bt bs ++ news) → Q (.int (st.b + size * (ilTo st.cnt size ((st.cnt.length : Int) - size).toNat + st.nt)) v) {s with heap := h', toks := tk'}) :
   wpAny (model PySem.Challenge.rw_wj0037_01.row.prog w) (ktrTop dp un gd cn cs L a ccd cl outer) (call (.ref 52) [.ref x, .int size u]) Q E s := by
  refine wpAny_call ?_
  k_dflt cell_enter
  (rename Fr _ _ _ _ => lF)
  replace lF := fr_map (m' := fun y => if y = Str.ofString "tabsize" then some (.int size u) else if y = Str.ofString "self" then some (.ref x) else none) lF (fun y => by
    with_unfolding_all exact ((look1 (r := [(Str.ofString "self", .ref x)])).trans (by rw [look1, look0])))
  iterate 18 walk_at "STEP"
  (rename Fr _ _ _ _ => lF)
  (with_unfolding_all refine for_range lF (by rfl) (by rfl) (by rfl) ?_)
  iterate 15 walk_at "STEP"
  (rename Fr _ _ _ _ => lF)
  (rename News _ _ _ _ => lN)
  (rename IsRange _ _ _ _ _ _ _ _ => lR)
  refine ⟨_, size, st.cnt.length, ((st.cnt.length : Int) - size).toNat, _, _, _, _, _, fun j mm nx tk => nx = wsL w txt t st x d D U vs k1 k2 k3 k4 k5 tn tt bt bs ++ news ∧ ∃ iv lt,
    mm = (fun y => if y = Str.ofString "i" then iv else if y = Str.ofString "il" then some (.int (ilTo st.cnt size j) lt) else if y = Str.ofString "trailing" then some (.int st.b bt) else if y = Str.ofString "count" then some (.ref U) else if y = Str.ofString "tabsize" then some (.int size u) else if y = Str.ofString "self" then some (.ref x) else none),
    rfl, lR, range_small (by omega) (by omega) (by omega) (by omega), range_size1 (by omega), lF, lN, ?_, ?_, ?_⟩
  · exact ⟨rfl, _, _, map_ext [Str.ofString "i", Str.ofString "il"] (by walk_at "MAPK") (by walk_at "MAPY")⟩
  · rintro I j v m₁ nx oI h tk₀ tk hj htk ⟨rfl, iv, lt, rfl⟩ off F₁ N₁
    clear lF lN lR
    have hj' : 0 ≤ size + (j : Int) ∧ size + (j : Int) < st.cnt.length := by omega
    have hq : 0 ≤ (size + (j : Int)).fdiv size ∧ (size + (j : Int)).fdiv size < 2 ^ 62 := by
      rw [Int.fdiv_eq_ediv_of_nonneg _ (by omega)]
      refine ⟨Int.ediv_nonneg hj'.1 (by omega), Int.lt_of_le_of_lt (Int.ediv_le_self _ hj'.1) (by omega)⟩
    have e : ilTo st.cnt size j + (size + (j : Int)).fdiv size * st.cnt.getD (size + (j : Int)).toNat 0 = ilTo st.cnt size (j + 1) := by
      rw [Int.fdiv_eq_ediv_of_nonneg _ (by omega)]
      have : (size + (j : Int)).toNat = size.toNat + j := by omega
      rw [this]
      rfl
    iterate 18 walk_at "STEP"
    (rename Fr _ _ _ _ => kF)
    rw [e] at kF
    refine ⟨_, _, _, _, rfl, kF, by k_asm, off, rfl, ?iv2, ?lt2, map_ext [Str.ofString "i", Str.ofString "il"] ?h1 ?h2⟩
    (case h1 => walk_at "MAPK")
    (case h2 => walk_at "MAPY")
  · rintro m' nx h tk₀ tk htk ⟨rfl, iv, lt, rfl⟩ F₁ N₁
    clear lF lN lR
    iterate 15 walk_at "STEP"
    exact ret _ _ _ (by k_asm) (by k_asm)
end

end part54
section part56
noncomputable def wsum (size : Int) : Nat → List Int → Int
  | _, [] => 0
  | k, x :: r => (k : Int) / size * x + wsum size (k + 1) r
theorem wsum_app (size : Int) : ∀ (a : List Int) (k : Nat) (b : List Int), wsum size k (a ++ b) = wsum size k a + wsum size (k + a.length) b
  | [], k, b => by simp [wsum]
  | x :: r, k, b => by
    have := wsum_app size r (k + 1) b
    simp only [List.cons_append, wsum, List.length_cons]
    rw [this]
    have e : k + 1 + r.length = k + (r.length + 1) := by omega
    rw [e]
    omega
theorem wsum_low {size : Int} (h : 0 < size) : ∀ (a : List Int) (k : Nat), (k : Int) + a.length ≤ size → wsum size k a = 0
  | [], _, _ => rfl
  | x :: r, k, hk => by
    simp only [List.length_cons] at hk
    push_cast at hk
    simp only [wsum]
    rw [wsum_low h r (k + 1) (by push_cast; omega), Int.ediv_eq_zero_of_lt (by omega) (by omega)]
    simp
theorem wsum_zero (size : Int) : ∀ (n k : Nat), wsum size k (List.replicate n 0) = 0
  | 0, _ => rfl
  | n + 1, k => by
    rw [List.replicate_succ]
    simp only [wsum, Int.mul_zero]
    rw [wsum_zero size n]
    rfl
theorem wsum_set (size : Int) : ∀ (l : List Int) (k i : Nat) (v : Int), i < l.length → wsum size k (l.set i v) = wsum size k l + ((k + i : Nat) : Int) / size * (v - l.getD i 0)
  | [], _, _, _, h => absurd h (Nat.not_lt_zero _)
  | x :: r, k, 0, v, _ => by
    simp only [List.set_cons_zero, wsum, Nat.add_zero, List.getD_cons_zero]
    rw [Int.mul_sub]
    omega
  | x :: r, k, i + 1, v, h => by
    have := wsum_set size r (k + 1) i v (by simpa using h)
    simp only [List.set_cons_succ, wsum, List.getD_cons_succ]
    rw [this]
    have e : k + 1 + i = k + (i + 1) := by omega
    rw [e]
    omega
theorem wsum_bump (size : Int) (cnt : List Int) (b : Nat) : wsum size 0 (bump cnt b) = wsum size 0 cnt + (b : Int) / size := by
  unfold bump
  have hl : b < (fit cnt b).length := by unfold fit; rw [List.length_append, List.length_replicate]; omega
  rw [wsum_set _ _ _ _ _ hl]
  have e : (fit cnt b).getD b 0 + 1 - (fit cnt b).getD b 0 = 1 := by omega
  rw [e, Int.mul_one, Nat.zero_add]
  unfold fit
  rw [wsum_app, wsum_zero, Int.add_zero]
theorem wsum_take {size : Int} (h : 0 < size) (cnt : List Int) : ∀ j : Nat, size.toNat + j ≤ cnt.length → wsum size 0 (cnt.take (size.toNat + j)) = ilTo cnt size j
  | 0, hj => wsum_low h _ 0 (by rw [List.length_take]; omega)
  | j + 1, hj => by
    have hlt : size.toNat + j < cnt.length := by omega
    have ih := wsum_take h cnt j (by omega)
    have e : size.toNat + (j + 1) = (size.toNat + j) + 1 := by omega
    rw [e, List.take_add_one, List.getElem?_eq_getElem hlt, wsum_app, ih, List.length_take]
    have e2 : 0 + min (size.toNat + j) cnt.length = size.toNat + j := by omega
    rw [e2]
    show _ + wsum size (size.toNat + j) [cnt[size.toNat + j]] = _
    simp only [wsum, ilTo, Int.add_zero]
    have e3 : ((size.toNat + j : Nat) : Int) = size + (j : Int) := by push_cast; omega
    rw [e3, List.getD_eq_getElem?_getD, List.getElem?_eq_getElem hlt]
    rfl
theorem il_wsum {size : Int} (h : 0 < size) (cnt : List Int) : ilTo cnt size ((cnt.length : Int) - size).toNat = wsum size 0 cnt := by
  by_cases hl : size ≤ cnt.length
  · rw [← wsum_take h cnt _ (by omega), List.take_of_length_le (by omega)]
  · have e : ((cnt.length : Int) - size).toNat = 0 := by omega
    rw [e]
    exact (wsum_low h cnt 0 (by omega)).symm
theorem run_sp (st : WS) : ∀ n : Nat, (List.replicate n 32).foldl wsStep st = ⟨st.cnt, st.b + n, st.n + n, st.nt⟩
  | 0 => by simp
  | n + 1 => by
    rw [List.replicate_succ', List.foldl_append, run_sp st n, List.foldl_cons, List.foldl_nil, step32]
    simp only [WS.mk.injEq, true_and]
    refine ⟨by push_cast; omega, by push_cast; omega, trivial⟩
/-- one tab after another -/
theorem run_tab (size : Int) (st : WS) (hb : st.b = 0) : ∀ n : Nat, ∃ cnt m, (List.replicate n 9).foldl wsStep st = ⟨cnt, 0, m, st.nt + n⟩ ∧ wsum size 0 cnt = wsum size 0 st.cnt
  | 0 => ⟨st.cnt, st.n, by obtain ⟨c, b, n, nt⟩ := st; simp only at hb; subst hb; simp, rfl⟩
  | n + 1 => by
    obtain ⟨cnt, m, e, hw⟩ := run_tab size st hb n
    refine ⟨bump cnt 0, m + 1, ?_, ?_⟩
    · rw [List.replicate_succ', List.foldl_append, e, List.foldl_cons, List.foldl_nil, step9]
      simp only [WS.mk.injEq, Int.toNat_zero, true_and]
      push_cast
      omega
    · rw [wsum_bump, hw]
      simp
/-- the text's white head -/
noncomputable def preOf (ahead c stones behind : Nat) : List Nat := List.replicate ahead 9 ++ (List.replicate c 32 ++ (9 :: (List.replicate stones 32 ++ (9 :: List.replicate behind 32))))
theorem preOf_run (size : Int) (ahead c stones behind : Nat) : ∃ cnt m, wsRun (preOf ahead c stones behind) = ⟨cnt, behind, m, (ahead : Int) + 2⟩ ∧ wsum size 0 cnt = (c : Int) / size + (stones : Int) / size := by
  obtain ⟨cnt, m, e, hw⟩ := run_tab size ⟨[], 0, 0, 0⟩ rfl ahead
  unfold wsRun preOf
  rw [List.foldl_append, e, List.foldl_append, run_sp, List.foldl_cons, step9, List.foldl_append, run_sp, List.foldl_cons, step9, run_sp]
  have e1 : (0 + (c : Int)).toNat = c := by omega
  have e2 : (0 + (stones : Int)).toNat = stones := by omega
  refine ⟨bump (bump cnt c) stones, m + c + 1 + stones + 1 + behind, ?_, ?_⟩
  · simp only [WS.mk.injEq, e1, e2]
    refine ⟨trivial, by omega, trivial, by omega⟩
  · rw [wsum_bump, wsum_bump, hw]
    show 0 + _ + _ = _
    omega
theorem preOf_len (ahead c stones behind : Nat) : (preOf ahead c stones behind).length = ahead + c + stones + behind + 2 := by
  unfold preOf
  simp only [List.length_append, List.length_cons, List.length_replicate]
  omega
theorem preOf_white (ahead c stones behind : Nat) : ∀ x ∈ preOf ahead c stones behind, x = 32 ∨ x = 9 := by
  intro x hx
  unfold preOf at hx
  simp only [List.mem_append, List.mem_cons, List.mem_replicate] at hx
  rcases hx with h | h | h | h | h | h
  · exact .inr h.2
  · exact .inl h.2
  · exact .inr h
  · exact .inl h.2
  · exact .inr h
  · exact .inl h.2

end part56
section part49
section
variable {prog : Program} {w : World} {A : Around} {E : Value → Shared → Prop} {s : Shared} {Q : Value → Shared → Prop}
theorem sp_cps : Str.ofString " " = ⟨#[32]⟩ := by decide +kernel
theorem tab_cps : Str.ofString "\t" = ⟨#[9]⟩ := by decide +kernel
theorem end_cps : Str.ofString "x \t" = ⟨#[120, 32, 9]⟩ := by decide +kernel
theorem tab_list : (Str.ofString "\t").cps.toList = [9] := by rw [tab_cps]
theorem end_list : (Str.ofString "x \t").cps.toList = [120, 32, 9] := by rw [end_cps]
theorem white_is (an c sn hn : Nat) : (((((List.replicate an 9 ++ List.replicate c 32) ++ [9]) ++ List.replicate sn 32) ++ [9]) ++ List.replicate hn 32) ++ [120, 32, 9] = preOf an c sn hn ++ 120 :: [32, 9] := by
  unfold preOf
  simp
theorem mul_sign {x : Str} {c n : Nat} {t u : Tok} (hx : x = ⟨#[c]⟩) (hn : n ≤ 100) (h : ∀ y t' k, y.cps.toList = List.replicate n c → Q (.str y t') { s with toks := k }) :
    wpAny (model prog w) A (binaryOp .Mult (.str x t) (.int (n : Nat) u)) Q E s := by
  subst hx
  refine SB.mul (mulOk_of 1 1048576 (Nat.le_refl _) (by omega) (by omega) (by decide) (by decide)) fun t' k => h _ t' k ?_
  rw [mul_one_list]
  simp
theorem add_text {x y : Str} {a b : List Nat} {t u : Tok} (hx : x.cps.toList = a) (hy : y.cps.toList = b) (hl : a.length + b.length ≤ 1000) (h : ∀ z t' k, z.cps.toList = a ++ b → Q (.str z t') { s with toks := k }) :
    wpAny (model prog w) A (binaryOp .Add (.str x t) (.str y u)) Q E s := by
  refine add_str (fun t' k => h _ t' k ?_) ?_
  rotate_left
  · have h1 : x.length = a.length := by rw [← hx, Array.length_toList]; rfl
    have h2 : y.length = b.length := by rw [← hy, Array.length_toList]; rfl
    rw [h1, h2, sizeLine_eq]
    omega
  · rw [Str.cps_append, Array.toList_append, hx, hy]
theorem white_val {S h a A B : Int} : h + S * (A + B + (a + 2)) - (S * (a + 2 + B) + h) = S * A := by
  simp only [Int.mul_add]
  omega
theorem news_subl {h₀ h : Heap} {L : Addr} {led led' : List (Addr × Obj)} (N : News h₀ L h led) (k : ∀ p ∈ led', p ∈ led) : News h₀ L h led' := fun p hp => N p (k p hp)
theorem news_bl {h₀ h : Heap} {L : Addr} {a b c d i e : Addr × Obj} {rest : List (Addr × Obj)} (N : News h₀ L h (a :: b :: c :: d :: i :: e :: rest)) : News h₀ L h (i :: e :: rest) := fun p hp => N p (.tail _ (.tail _ (.tail _ (.tail _ hp))))
theorem map_get {g : Nat → Int} {n k : Nat} (h : k < n) : ((List.range n).map g).getD k 0 = g k := by
  rw [List.getD_eq_getElem?_getD, List.getElem?_map, List.getElem?_range h]
  rfl
/-- the blanks at the next size -/
theorem blk_nat (s : Nat) : ∀ i : Nat, ∃ c : Nat, blk (s : Int) i = (c : Int) ∧ c ≤ s
  | 0 => ⟨s, rfl, Nat.le_refl _⟩
  | i + 1 => by
    obtain ⟨c, hc, hle⟩ := blk_nat s i
    refine ⟨(i + 1) * (c / (i + 1)), ?_, Nat.le_trans (Nat.mul_div_le _ _) hle⟩
    show ((i : Int) + 1) * (blk (s : Int) i / ((i : Int) + 1)) = _
    rw [hc]
    push_cast
    rfl
theorem white_all (z : Str) (an c sn hn : Nat) (h : z.cps.toList = preOf an c sn hn ++ 120 :: [32, 9]) : z.cps.all (· < 128) = true := by
  rw [Array.all_eq_true']
  intro x hx
  have : x ∈ z.cps.toList := Array.mem_toList_iff.mpr hx
  rw [h] at this
  rcases List.mem_append.mp this with h1 | h1
  · rcases preOf_white _ _ _ _ x h1 with rfl | rfl <;> decide
  · simp at h1
    rcases h1 with rfl | rfl | rfl <;> decide
end

end part49
section part50
section
variable {w : World} {p : Program} {loose : List Str} {mean : ExcName → Option Value} {mg mb : Str → Option Value}
   {dp un : Nat} {gd : Option (List Code)} {cn : Str} {cs : Scope} {a : Addr} {ccd : Value} {cl : List (Str × Addr)} {outer : List Env} {A₀ : Around} {base h₀ : Heap} {L : Addr} {m : Str → Option Value} {s : Shared} {Q E : Value → Shared → Prop}
   {news : List (Addr × Obj)}
noncomputable def vf (ns : List Int) : Int := ns.foldl (fun v n => v * 64 + n % 64) 0
theorem nat_and_low (v b : Nat) (h : b < 2 ^ 6) : (2 ^ 6 * v) &&& b = 0 := by
  apply Nat.eq_of_testBit_eq
  intro i
  rw [Nat.testBit_and, Nat.testBit_two_pow_mul, Nat.zero_testBit]
  by_cases hi : 6 ≤ i
  · have : b.testBit i = false := Nat.testBit_lt_two_pow (Nat.lt_of_lt_of_le h (Nat.pow_le_pow_right (by decide) hi))
    simp [this]
  · simp [hi]
theorem or_low {v x : Int} (hv : 0 ≤ v) (hx : 0 ≤ x ∧ x < 64) : Builtin.bitOr (v * 64) x = v * 64 + x := by
  rw [bitOr_and, bitAnd_pp (by omega) hx.1]
  have e : (v * 64).toNat = 2 ^ 6 * v.toNat := by omega
  rw [e, nat_and_low _ _ (by omega)]
  simp
theorem and_64 (b : Int) : Builtin.bitAnd b 64 = b / 64 % 2 * 64 := kbt_bit b 6
theorem vf_take {ns : List Int} {i : Nat} {n : Int} (h : ns[i]? = some n) : vf (ns.take (i + 1)) = vf (ns.take i) * 64 + n % 64 := by
  unfold vf
  rw [List.take_add_one, h, List.foldl_append]
  rfl
theorem vf_nn (ns : List Int) : 0 ≤ vf ns := by
  unfold vf
  suffices h : ∀ v : Int, 0 ≤ v → 0 ≤ ns.foldl (fun v n => v * 64 + n % 64) v from h 0 (Int.le_refl _)
  induction ns with
  | nil => exact fun v h => h
  | cons n r ih =>
    intro v h
    refine ih _ ?_
    show 0 ≤ v * 64 + n % 64
    omega
theorem vf_lt (ns : List Int) : vf ns < 64 ^ ns.length := by
  unfold vf
  suffices h : ∀ v k : Int, v < k → ns.foldl (fun v n => v * 64 + n % 64) v < k * 64 ^ ns.length from by simpa using h 0 1 (by decide)
  induction ns with
  | nil => intro v k h; simpa using h
  | cons n r ih =>
    intro v k h
    have := ih (v * 64 + n % 64) (k * 64) (by omega)
    rw [List.foldl_cons, List.length_cons, Int.pow_succ]
    rw [Int.mul_assoc, Int.mul_comm 64] at this
    exact this
theorem ints_at {vs : List Value} {ns : List Int} (hi : IntsAre vs ns) : ∀ {i : Nat} {n : Int}, ns[i]? = some n → ∃ t, vs[i]? = some (.int n t) := by
  induction hi with
  | nil => intro i v h; simp at h
  | cons x t _ ih =>
    intro i v h
    cases i with
    | zero => simp at h; exact ⟨t, by simp [h]⟩
    | succ i => simpa using ih (by simpa using h)
local macro_rules | `(tactic| walk_at "inplaceOp LShift int int") => `(tactic| (k_here; refine ilshift_int_small (by decide) (by decide) (by assumption) ?_))
theorem parse_varint_c {it l : Addr} {vs : List Value} {ns : List Int} {nn : Nat} {oI : Obj}
   (B : Below A₀ base outer h₀) (Fm : Fr h₀ L s.heap m) (X : (Mine.hd.heap_39 w.params).In h₀) (N : News h₀ L s.heap ((it, oI) :: news)) (T : Top p loose mean mg mb h₀) (hk : cs.kind = .function)
   (hoff : Off it news) (hli : IsLi oI l 0) (hl : (l, listOf vs.toArray nn) ∈ news) (hv : IntsAre vs ns) (hlen : ns.length = 8) (h7 : ∀ i, i < 7 → ∀ n, ns[i]? = some n → n / 64 % 2 = 1) (h8 : ∀ n, ns[7]? = some n → n / 64 % 2 = 0)
   (hd : dp + 1 < recursionLimit) (hu : un + 8 < cLine)
   (ret : ∀ t h' tk', Fr h₀ L h' m → News h₀ L h' news → Q (.int (vf ns) t) {s with heap := h', toks := tk'}) :
   wpAny (model PySem.Challenge.rw_wj0037_01.row.prog w) (ktrTop dp un gd cn cs L a ccd cl outer) (call (.ref 102) [.ref it]) Q E s := by
  refine wpAny_call ?_
  k_dflt cell_enter
  (rename Fr _ _ _ _ => lF)
  replace lF := fr_map (m' := fun y => if y = Str.ofString "iterator" then some (.ref it) else none) lF (fun y => by
    with_unfolding_all exact ((look1 (r := [])).trans (by rw [look0])))
  k_steps
  obtain ⟨n0, hn0⟩ : ∃ n, ns[0]? = some n := ⟨ns[0], by simp [hlen]⟩
  obtain ⟨t0, hv0⟩ := ints_at hv hn0
  refine list_next_call (by k_asm) (by k_asm) hoff hli hl hv0 ?_
  intro h1 oI1 hli1 F1 N1
  iterate 10 walk_at "STEP"
  (rename Fr _ _ _ _ => lF)
  (rename News _ _ _ _ => lN)
  rw [bitAnd_m6] at lF
  have e1 : n0 % 64 = vf (ns.take 1) := by
    rw [vf_take hn0]
    show _ = vf [] * 64 + _
    rw [show vf [] = 0 from rfl]
    omega
  rw [e1] at lF
  refine While_inv (n₀ := 7) (fun k mm nx => ∃ i n t u oI', k = 8 - i ∧ 1 ≤ i ∧ i ≤ 8 ∧ ns[i - 1]? = some n ∧ IsLi oI' l i ∧ nx = (it, oI') :: news ∧
    mm = (fun y => if y = Str.ofString "val" then some (.int (vf (ns.take i)) t) else if y = Str.ofString "b" then some (.int n u) else if y = Str.ofString "iterator" then some (.ref it) else none)) lF lN ?_ ?_
  · exact ⟨1, n0, _, _, _, rfl, by decide, by decide, hn0, hli1, rfl, rfl⟩
  · rintro k m₁ nx h tk F₂ N₂ ⟨i, n, t, u, oI', rfl, hi1, hi8, hn, hli', rfl, rfl⟩
    clear lF lN
    have hab : (vf (ns.take i)).natAbs < 2 ^ 64 := by
      have h1 := vf_nn (ns.take i)
      have h2 := vf_lt (ns.take i)
      have h3 : (ns.take i).length ≤ 8 := by rw [List.length_take]; omega
      have h4 : (64 : Int) ^ (ns.take i).length ≤ 64 ^ 8 := by exact_mod_cast Nat.pow_le_pow_right (show 0 < 64 by decide) h3
      omega
    iterate 22 walk_at "STEP"
    · (rename Builtin.bitAnd _ _ ≠ 0 => hx)
      rw [and_64] at hx
      have hi7 : i < 8 := by
        rcases Nat.lt_or_eq_of_le hi8 with h | h
        · exact h
        · subst h
          rw [h8 n hn] at hx
          exact absurd rfl hx
      obtain ⟨n2, hn2⟩ : ∃ n2, ns[i]? = some n2 := ⟨ns[i], by simp⟩
      obtain ⟨t2, hv2⟩ := ints_at hv hn2
      have e3 : Builtin.bitOr (vf (ns.take i) * 2 ^ Int.toNat 6) (Builtin.bitAnd n2 63) = vf (ns.take (i + 1)) := by
        rw [bitAnd_m6, vf_take hn2]
        exact or_low (vf_nn _) (by omega)
      refine list_next_call (by k_asm) (by k_asm) hoff hli' hl hv2 ?_
      intro h2 oI2 hli2 F3 N3
      iterate 12 walk_at "STEP"
      (rename Fr _ _ _ _ => kF)
      rw [e3] at kF
      refine WhileStep.intro kF (by k_asm) (n' := 8 - (i + 1)) (by omega) ⟨i + 1, n2, ?tv, ?tu, oI2, rfl, by omega, by omega, hn2, hli2, rfl, map_ext [Str.ofString "val", Str.ofString "b"] ?h13 ?h23⟩
      (case h13 => walk_at "MAPK")
      (case h23 => walk_at "MAPY")
    · (rename Builtin.bitAnd _ _ = 0 => hx)
      rw [and_64] at hx
      have hi7 : i = 8 := by
        rcases Nat.lt_or_eq_of_le hi8 with h | h
        · rw [h7 (i - 1) (by omega) n hn] at hx
          exact absurd hx (by decide)
        · exact h
      subst hi7
      iterate 4 walk_at "STEP"
      have e8 : ns.take 8 = ns := List.take_of_length_le (Nat.le_of_eq hlen)
      rw [e8]
      exact ret _ _ _ (by k_asm) fun p hp => by
        (rename News _ _ _ _ => kN2)
        exact kN2 p (.tail _ hp)
end

end part50
section part58
section
variable {w : World} {p : Program} {loose : List Str} {mean : ExcName → Option Value} {mg mb : Str → Option Value}
   {dp un : Nat} {gd : Option (List Code)} {cn : Str} {cs : Scope} {a : Addr} {ccd : Value} {cl : List (Str × Addr)} {outer : List Env} {A₀ : Around} {base h₀ : Heap} {L : Addr} {m : Str → Option Value} {s : Shared} {Q E : Value → Shared → Prop}
   {news : List (Addr × Obj)}
noncomputable def chg (h : List Int) (x : Int) : List Int :=
  let h1 := h.set (x % 6 + 1).toNat (h.getD (x % 6 + 1).toNat 0 - x / 36 % (h.getD (x % 6 + 1).toNat 0 + 1))
  h1.set (x / 6 % 6 + 1).toNat (h1.getD (x / 6 % 6 + 1).toNat 0 + x / 36 % (h.getD (x % 6 + 1).toNat 0 + 1))
theorem fair_add {sm f d : Int} {h : List Int} {i : Nat} (F : Fair sm f h) (hi : i < 6) (hd : 0 ≤ h.getD (i + 1) 0 + d) : Fair (sm + d) f (h.set (i + 1) (h.getD (i + 1) 0 + d)) ∧ at' (h.set (i + 1) (h.getD (i + 1) 0 + d)) 0 = at' h 0 := by
  obtain ⟨a0, a1, a2, a3, a4, a5, a6, rfl, p0, p1, p2, p3, p4, p5, p6, hs⟩ := F
  have key : ∀ i : Nat, i < 6 → i = 0 ∨ i = 1 ∨ i = 2 ∨ i = 3 ∨ i = 4 ∨ i = 5 := by decide
  subst hs
  rcases key i hi with rfl | rfl | rfl | rfl | rfl | rfl <;> clear key hi
  · exact ⟨fair_of p0 hd p2 p3 p4 p5 p6 (by show a1 + d + a2 + a3 + a4 + a5 + a6 = a1 + a2 + a3 + a4 + a5 + a6 + d; rw [Int.add_right_comm _ d a2, Int.add_right_comm _ d a3, Int.add_right_comm _ d a4, Int.add_right_comm _ d a5, Int.add_right_comm _ d a6]), rfl⟩
  · exact ⟨fair_of p0 p1 hd p3 p4 p5 p6 (by show a1 + (a2 + d) + a3 + a4 + a5 + a6 = a1 + a2 + a3 + a4 + a5 + a6 + d; rw [← Int.add_assoc, Int.add_right_comm _ d a3, Int.add_right_comm _ d a4, Int.add_right_comm _ d a5, Int.add_right_comm _ d a6]), rfl⟩
  · exact ⟨fair_of p0 p1 p2 hd p4 p5 p6 (by show a1 + a2 + (a3 + d) + a4 + a5 + a6 = a1 + a2 + a3 + a4 + a5 + a6 + d; rw [← Int.add_assoc, Int.add_right_comm _ d a4, Int.add_right_comm _ d a5, Int.add_right_comm _ d a6]), rfl⟩
  · exact ⟨fair_of p0 p1 p2 p3 hd p5 p6 (by show a1 + a2 + a3 + (a4 + d) + a5 + a6 = a1 + a2 + a3 + a4 + a5 + a6 + d; rw [← Int.add_assoc, Int.add_right_comm _ d a5, Int.add_right_comm _ d a6]), rfl⟩
  · exact ⟨fair_of p0 p1 p2 p3 p4 hd p6 (by show a1 + a2 + a3 + a4 + (a5 + d) + a6 = a1 + a2 + a3 + a4 + a5 + a6 + d; rw [← Int.add_assoc, Int.add_right_comm _ d a6]), rfl⟩
  · exact ⟨fair_of p0 p1 p2 p3 p4 p5 hd (Int.add_assoc _ _ _).symm, rfl⟩
theorem fair_nn {sm f : Int} {h : List Int} (F : Fair sm f h) {k : Nat} (hk : k < 7) : 0 ≤ h.getD k 0 := by
  obtain ⟨a0, a1, a2, a3, a4, a5, a6, rfl, p0, p1, p2, p3, p4, p5, p6, hs⟩ := F
  rcases nat8 k (Nat.lt_succ_of_lt hk) with rfl | rfl | rfl | rfl | rfl | rfl | rfl | rfl
  any_goals assumption
  exact absurd hk (by decide)
theorem idx6 {x : Int} : ∃ i : Nat, i < 6 ∧ (x % 6 + 1).toNat = i + 1 := ⟨(x % 6).toNat, by omega, by omega⟩
theorem chg_fair {sm f : Int} {h : List Int} {x : Int} (F : Fair sm f h) (hx : 0 ≤ x) : Fair sm f (chg h x) ∧ at' (chg h x) 0 = at' h 0 := by
  have hy : 0 ≤ x / 36 := Int.ediv_nonneg hx (by decide)
  unfold chg
  obtain ⟨i, hi, ei⟩ := idx6 (x := x)
  obtain ⟨j, hj, ej⟩ := idx6 (x := x / 6)
  rw [ei, ej]
  generalize x / 36 = y at hy
  have hb : 0 ≤ h.getD (i + 1) 0 := fair_nn F (Nat.succ_lt_succ hi)
  have q1 : 0 ≤ y % (h.getD (i + 1) 0 + 1) := Int.emod_nonneg _ (by omega)
  have q2 : y % (h.getD (i + 1) 0 + 1) ≤ h.getD (i + 1) 0 := Int.lt_add_one_iff.mp (Int.emod_lt_of_pos y (Int.lt_add_one_of_le hb))
  generalize y % (h.getD (i + 1) 0 + 1) = d at q1 q2
  have A := fair_add (d := -d) F hi (Int.sub_nonneg_of_le q2)
  rw [← Int.sub_eq_add_neg] at A
  have C := fair_add (d := d) A.1 hj (Int.add_nonneg (fair_nn A.1 (Nat.succ_lt_succ hj)) q1)
  rw [← Int.sub_eq_add_neg, Int.sub_add_cancel] at C
  exact ⟨C.1, C.2.trans A.2⟩
theorem off_head {I l : Addr} {o o' : Obj} {rest : List (Addr × Obj)} (off : Off I ((l, o) :: rest)) : Off I ((l, o') :: rest) := fun p hp => by
  rcases List.mem_cons.mp hp with e | hp
  · rw [e]; exact off (l, o) (.head _)
  · exact off p (.tail _ hp)
theorem changed_c {bl nl : Addr} {bvs nvs : List Value} {h xs : List Int} {bn nn : Nat} {sm f : Int}
   (B : Below A₀ base outer h₀) (Fm : Fr h₀ L s.heap m) (X : (Mine.hd.heap_39 w.params).In h₀) (N : News h₀ L s.heap news) (T : Top p loose mean mg mb h₀) (hk : cs.kind = .function)
   (hbl : (bl, listOf bvs.toArray bn) ∈ news) (hnl : (nl, listOf nvs.toArray nn) ∈ news) (hb : IntsAre bvs h) (hn : IntsAre nvs xs) (hf : Fair sm f h) (hx : ∀ x ∈ xs, 0 ≤ x ∧ x < 1000000) (hsm : sm < 16)
   (hd : dp + 1 < recursionLimit) (hu : un + 8 < cLine)
   (ret : ∀ l vs n h' hp tk', IntsAre vs h' → Fair sm f h' → at' h' 0 = at' h 0 → (∀ p ∈ news, p.1 < l) → Fr h₀ L hp m → News h₀ L hp ((l, listOf vs.toArray n) :: news) → Q (.ref l) {s with heap := hp, toks := tk'}) :
   wpAny (model PySem.Challenge.rw_wj0037_01.row.prog w) (ktrTop dp un gd cn cs L a ccd cl outer) (call (.ref 177) [.ref bl, .ref nl]) Q E s := by
  refine wpAny_call ?_
  k_dflt cell_enter
  (rename Fr _ _ _ _ => lF)
  replace lF := fr_map (m' := fun y => if y = Str.ofString "numbers" then some (.ref nl) else if y = Str.ofString "board" then some (.ref bl) else none) lF (fun y => by
    with_unfolding_all exact ((look1 (r := [(Str.ofString "board", .ref bl)])).trans (by rw [look1, look0])))
  have hlen : h.length = 8 := by
    obtain ⟨a0, a1, a2, a3, a4, a5, a6, rfl, _⟩ := hf
    rfl
  have hbz : bvs.toArray.toList.length ≤ sizeLine := by
    rw [List.toList_toArray, hb.length, hlen, sizeLine_eq]
    decide
  refine wpAny_execs_cons ?_
  iterate 7 walk_at "STEP"
  refine kup_listOf (by k_asm) (by k_asm) hbl rfl ?_ hbz
  intro l c h' F' N' l1
  iterate 3 walk_at "STEP"
  (rename Fr _ _ _ _ => lF)
  (rename News _ _ _ _ => lN)
  (with_unfolding_all refine for_list lF (by rfl) (by rfl) (by rfl) ?_)
  iterate 1 walk_at "STEP"
  (rename Fr _ _ _ _ => lF)
  (rename News _ _ _ _ => lN)
  refine ⟨nl, nvs, nn, _, _, fun i mm nx tk => ∃ vs c h2 nv gv tv mv, nx = (l, listOf vs.toArray c) :: news ∧ IntsAre vs h2 ∧ Fair sm f h2 ∧ at' h2 0 = at' h 0 ∧
    mm = (fun y => if y = Str.ofString "number" then nv else if y = Str.ofString "giver" then gv else if y = Str.ofString "taker" then tv else if y = Str.ofString "moved" then mv else if y = Str.ofString "holes" then some (.ref l) else if y = Str.ofString "numbers" then some (.ref nl) else if y = Str.ofString "board" then some (.ref bl) else none),
    rfl, ?_, lF, lN, ?_, ?_, ?_⟩
  · rintro i m nx tk ⟨vs, c, h2, nv, gv, tv, mv, rfl, _⟩
    exact .tail _ hnl
  · refine ⟨bvs, c, h, ?nv, ?gv, ?tv, ?mv, rfl, hb, hf, rfl, ?mp⟩
    (case mp => exact map_ext [Str.ofString "number", Str.ofString "giver", Str.ofString "taker", Str.ofString "moved"] (by walk_at "MAPK") (by walk_at "MAPY"))
  · rintro I i v m₁ nx oI hp tk₀ tk hv htk ⟨vs, c, h2, nv, gv, tv, mv, rfl, hvs, hf2, h02, rfl⟩ off F₁ N₁
    clear lF lN
    obtain ⟨x, t, rfl, hxi⟩ := ints_get hn hv
    have hx0 := hx x (List.mem_of_getElem? hxi)
    have hIl : I ≠ l := (off _ (.head _)).symm
    have hlen2 : h2.length = 8 := by
      obtain ⟨a0, a1, a2, a3, a4, a5, a6, rfl, _⟩ := hf2
      rfl
    have hch := chg_fair hf2 hx0.1
    have hm1 : x.fmod 6 = x % 6 := Int.fmod_eq_emod_of_nonneg _ (by decide)
    have hm2 : (x.fdiv 6).fmod 6 = x / 6 % 6 := by rw [Int.fmod_eq_emod_of_nonneg _ (by decide), Int.fdiv_eq_ediv_of_nonneg _ (by decide)]
    have hm3 : x.fdiv 36 = x / 36 := Int.fdiv_eq_ediv_of_nonneg _ (by decide)
    have hge : 0 ≤ h2.getD (x.fmod 6 + 1).toNat 0 := fair_nn hf2 (by omega)
    iterate 65 walk_at "STEP"
    (rename News _ _ _ _ => kN)
    (rename Fr _ _ _ _ => kF)
    (rename IntsAre _ _ => kI)
    have e : chg h2 x = (h2.set (x.fmod 6 + 1).toNat (h2.getD (x.fmod 6 + 1).toNat 0 - (x.fdiv 36).fmod (h2.getD (x.fmod 6 + 1).toNat 0 + 1))).set ((x.fdiv 6).fmod 6 + 1).toNat
        ((h2.set (x.fmod 6 + 1).toNat (h2.getD (x.fmod 6 + 1).toNat 0 - (x.fdiv 36).fmod (h2.getD (x.fmod 6 + 1).toNat 0 + 1))).getD ((x.fdiv 6).fmod 6 + 1).toNat 0 + (x.fdiv 36).fmod (h2.getD (x.fmod 6 + 1).toNat 0 + 1)) := by
      rw [Int.fmod_eq_emod_of_nonneg (x.fdiv 36) (show 0 ≤ h2.getD (x.fmod 6 + 1).toNat 0 + 1 by omega), hm1, hm2, hm3]
      rfl
    rw [← e] at kI
    refine ⟨_, _, _, _, rfl, kF, kN, off_head off, _, c, chg h2 x, ?nv2, ?gv2, ?tv2, ?mv2, rfl, kI, hch.1, hch.2.trans h02, ?mp2⟩
    (case mp2 => exact map_ext [Str.ofString "number", Str.ofString "giver", Str.ofString "taker", Str.ofString "moved"] (by walk_at "MAPK") (by walk_at "MAPY"))
  · rintro m' nx hp tk₀ tk htk ⟨vs, c, h2, nv, gv, tv, mv, rfl, hvs, hf2, h02, rfl⟩ F₁ N₁
    clear lF lN
    iterate 4 walk_at "STEP"
    exact ret _ _ _ _ _ _ hvs hf2 h02 l1 (by k_asm) (by k_asm)
end

end part58
local macro_rules | `(tactic| walk_at "eval ListComp") => `(tactic| (k_here; k_dflt (refine comp_ev (by k_asm) (by with_unfolding_all rfl) (by rfl) (by decide) ?_)))
local macro_rules | `(tactic| walk_at "MEMB") => `(tactic| (repeat (first | assumption | exact List.Mem.head _ | refine List.Mem.tail _ ?_)))
local macro_rules | `(tactic| walk_at "exec Assign cons ListComp") => `(tactic| (k_here; (rename Fr _ _ _ _ => kF); k_dflt (refine comp_as kF (by with_unfolding_all rfl) (by with_unfolding_all rfl) (by rfl) (by decide) (by rfl) (by rfl) ?_)))
local macro_rules | `(tactic| walk_at "OPB") => `(tactic| (first | assumption | omega | exact Int.ediv_nonneg (by omega) (Int.le_of_lt (Int.pow_pos (by decide)))))
local macro_rules | `(tactic| walk_at "call ref") => `(tactic| (k_here; (with_reducible show wpAny _ _ (call (Value.ref 109) _) _ _ _); k_dflt (refine' add_c  ?B ?F ?X ?N ?T ?k ?d ?u ?_; (case B => k_asm); (case F => k_asm); (case X => k_asm); (case N => k_asm); (case T => k_asm); (case k => exact rfl); (case d => ktr_room); (case u => ktr_units)); intro t' h' tk' F' N'))
local macro_rules | `(tactic| walk_at "call ref") => `(tactic| (k_here; (with_reducible show wpAny _ _ (call (Value.ref 151) _) _ _ _); k_dflt (refine' sub_c  ?B ?F ?X ?N ?T ?k ?d ?u ?_; (case B => k_asm); (case F => k_asm); (case X => k_asm); (case N => k_asm); (case T => k_asm); (case k => exact rfl); (case d => ktr_room); (case u => ktr_units)); intro t' h' tk' F' N'))
local macro_rules | `(tactic| walk_at "call ref") => `(tactic| (k_here; (with_reducible show wpAny _ _ (call (Value.ref 137) _) _ _ _); k_dflt (refine' mul_c ?hx ?hy ?B ?F ?X ?N ?T ?k ?d ?u ?_; (case B => k_asm); (case F => k_asm); (case X => k_asm); (case N => k_asm); (case T => k_asm); (case k => exact rfl); (case d => ktr_room); (case u => ktr_units); (case hx => walk_at "OPB"); (case hy => walk_at "OPB")); intro t' h' tk' F' N'))
local macro_rules | `(tactic| walk_at "call ref") => `(tactic| (k_here; (with_reducible show wpAny _ _ (call (Value.ref 123) _) _ _ _); k_dflt (refine' floordiv_c  ?B ?F ?X ?N ?T ?k ?d ?u ?_; (case B => k_asm); (case F => k_asm); (case X => k_asm); (case N => k_asm); (case T => k_asm); (case k => exact rfl); (case d => ktr_room); (case u => ktr_units)); intro t' h' tk' F' N'))
local macro_rules | `(tactic| walk_at "call ref") => `(tactic| (k_here; (with_reducible show wpAny _ _ (call (Value.ref 116) _) _ _ _); k_dflt (refine' and_c ?hx ?B ?F ?X ?N ?T ?k ?d ?u ?_; (case B => k_asm); (case F => k_asm); (case X => k_asm); (case N => k_asm); (case T => k_asm); (case k => exact rfl); (case d => ktr_room); (case u => ktr_units); (case hx => walk_at "OPB")); intro t' h' tk' F' N'))
local macro_rules | `(tactic| walk_at "call ref") => `(tactic| (k_here; (with_reducible show wpAny _ _ (call (Value.ref 130) _) _ _ _); k_dflt (refine' lshift_c ?hx ?B ?F ?X ?N ?T ?k ?d ?u ?_; (case B => k_asm); (case F => k_asm); (case X => k_asm); (case N => k_asm); (case T => k_asm); (case k => exact rfl); (case d => ktr_room); (case u => ktr_units); (case hx => walk_at "OPB")); intro t' h' tk' F' N'))
local macro_rules | `(tactic| walk_at "call ref") => `(tactic| (k_here; (with_reducible show wpAny _ _ (call (Value.ref 144) _) _ _ _); k_dflt (refine' rshift_c ?hx ?hy ?B ?F ?X ?N ?T ?k ?d ?u ?_; (case B => k_asm); (case F => k_asm); (case X => k_asm); (case N => k_asm); (case T => k_asm); (case k => exact rfl); (case d => ktr_room); (case u => ktr_units); (case hx => walk_at "OPB"); (case hy => walk_at "OPB")); intro t' h' tk' F' N'))
section part60
section
variable {w : World} {p : Program} {loose : List Str} {mean : ExcName → Option Value} {mg mb : Str → Option Value}
   {dp un : Nat} {gd : Option (List Code)} {cn : Str} {cs : Scope} {a : Addr} {ccd : Value} {cl : List (Str × Addr)} {outer : List Env} {A₀ : Around} {base h₀ : Heap} {L : Addr} {m : Str → Option Value} {s : Shared} {Q E : Value → Shared → Prop}
   {news : List (Addr × Obj)}
theorem news_as {h₀ h : Heap} {L : Addr} {news : List (Addr × Obj)} {P : Prop} (N : News h₀ L h news) (k : ∀ nw, nw = news → News h₀ L h nw → P) : P := k _ rfl N
theorem small_m {a b : Int} (h1 : 0 ≤ a) (h2 : a < 1000000) (h3 : 0 ≤ b) (h4 : b < 1000000) : Builtin.Range.small a b (-1) = true := small_down (by omega) (by omega) (by omega) (by omega)
noncomputable def dig (h : List Int) (k : Nat) : Int := 64 + 128 * ((k : Int) % 2) + h.getD k 0
theorem digs_succ {h : List Int} {ys : List Value} {i : Nat} {t : Tok} (hi : i < 7) (I : IntsAre ys ((List.range i).map fun j => dig h (7 - j))) :
    IntsAre (ys ++ [.int (64 + 128 * (7 + (i : Int) * (-1)).fmod 2 + h.getD (7 + (i : Int) * (-1)).toNat 0) t]) ((List.range (i + 1)).map fun j => dig h (7 - j)) := by
  rw [List.range_succ, List.map_append]
  have e : 64 + 128 * (7 + (i : Int) * (-1)).fmod 2 + h.getD (7 + (i : Int) * (-1)).toNat 0 = dig h (7 - i) := by
    unfold dig
    have e : 7 + (i : Int) * (-1) = ((7 - i : Nat) : Int) := by omega
    rw [e, Int.toNat_natCast, Int.fmod_eq_emod_of_nonneg _ (by decide)]
  rw [e]
  exact I.append (.cons _ _ .nil)
theorem len8 {h : List Int} (e : h.length = 8) : ∃ a0 a1 a2 a3 a4 a5 a6 a7, h = [a0, a1, a2, a3, a4, a5, a6, a7] := by
  obtain ⟨a0, h, rfl⟩ := List.exists_cons_of_length_eq_add_one e
  obtain ⟨a1, h, rfl⟩ := List.exists_cons_of_length_eq_add_one (Nat.succ.inj e)
  obtain ⟨a2, h, rfl⟩ := List.exists_cons_of_length_eq_add_one (Nat.succ.inj (Nat.succ.inj e))
  replace e : h.length = 5 := Nat.succ.inj (Nat.succ.inj (Nat.succ.inj e))
  obtain ⟨a3, h, rfl⟩ := List.exists_cons_of_length_eq_add_one e
  obtain ⟨a4, h, rfl⟩ := List.exists_cons_of_length_eq_add_one (Nat.succ.inj e)
  obtain ⟨a5, h, rfl⟩ := List.exists_cons_of_length_eq_add_one (Nat.succ.inj (Nat.succ.inj e))
  replace e : h.length = 2 := Nat.succ.inj (Nat.succ.inj (Nat.succ.inj e))
  obtain ⟨a6, h, rfl⟩ := List.exists_cons_of_length_eq_add_one e
  obtain ⟨a7, rfl⟩ := List.length_eq_one_iff.mp (Nat.succ.inj e)
  exact ⟨_, _, _, _, _, _, _, _, rfl⟩
theorem part_lt {a b c : Int} (h : a + b < c) (hb : 0 ≤ b) : a < c := Int.lt_of_le_of_lt (Int.le_add_of_nonneg_right hb) h
theorem last_lt {a b c : Int} (h : a + b < c) (ha : 0 ≤ a) : b < c := Int.lt_of_le_of_lt (Int.le_add_of_nonneg_left ha) h
theorem fair_small {sm f : Int} {h : List Int} (F : Fair sm f h) (hs : sm < 16) (hf : 0 ≤ f ∧ f < 49) (ha : at' h 0 + sm < 64) : ∀ k, k < 8 → 0 ≤ h.getD k 0 ∧ h.getD k 0 < 64 := by
  obtain ⟨a0, a1, a2, a3, a4, a5, a6, rfl, p0, p1, p2, p3, p4, p5, p6, q⟩ := F
  have q2 := Int.add_nonneg p1 p2
  have q3 := Int.add_nonneg q2 p3
  have q4 := Int.add_nonneg q3 p4
  have q5 := Int.add_nonneg q4 p5
  have q6 := Int.add_nonneg q5 p6
  have l6 : a1 + a2 + a3 + a4 + a5 + a6 < 64 := by rw [q]; exact Int.lt_trans hs (by decide)
  rw [q] at q6
  have l5 := part_lt l6 p6
  have l4 := part_lt l5 p5
  have l3 := part_lt l4 p4
  have l2 := part_lt l3 p3
  have f' : f < 64 := Int.lt_trans hf.2 (by decide)
  have l0 : a0 < 64 := part_lt ha q6
  intro k hk
  rcases nat8 k hk with rfl | rfl | rfl | rfl | rfl | rfl | rfl | rfl
  · exact ⟨p0, l0⟩
  · exact ⟨p1, part_lt l2 p2⟩
  · exact ⟨p2, last_lt l2 p1⟩
  · exact ⟨p3, last_lt l3 q2⟩
  · exact ⟨p4, last_lt l4 q3⟩
  · exact ⟨p5, last_lt l5 q4⟩
  · exact ⟨p6, last_lt l6 q5⟩
  · exact ⟨hf.1, f'⟩
theorem bit_192 {a : Int} (h : 0 ≤ a ∧ a < 64) : (192 + a) / 64 % 2 = 1 ∧ (192 + a) % 64 = a := by omega
theorem bit_64 {a : Int} (h : 0 ≤ a ∧ a < 64) : (64 + a) / 64 % 2 = 1 ∧ (64 + a) % 64 = a := by omega
theorem bit_128 {a : Int} (h : 0 ≤ a ∧ a < 64) : (128 + a) / 64 % 2 = 0 ∧ (128 + a) % 64 = a := by omega
theorem horner (a0 a1 a2 a3 a4 a5 a6 a7 : Int) : ((((((a7 * 64 + a6) * 64 + a5) * 64 + a4) * 64 + a3) * 64 + a2) * 64 + a1) * 64 + a0 = enc [a0, a1, a2, a3, a4, a5, a6, a7] := by
  show _ = a0 + 64 * a1 + 4096 * a2 + 262144 * a3 + 16777216 * a4 + 1073741824 * a5 + 68719476736 * a6 + 4398046511104 * a7
  omega
theorem digs7 {h : List Int} (hlen : h.length = 8) (hsm : ∀ k, k < 8 → 0 ≤ h.getD k 0 ∧ h.getD k 0 < 64) {ns : List Int} (e : ns = (List.range 7).map (fun j => dig h (7 - j)) ++ [128 + h.getD (Int.toNat 0) 0]) :
    ns.length = 8 ∧ (∀ i, i < 7 → ∀ n, ns[i]? = some n → n / 64 % 2 = 1) ∧ (∀ n, ns[7]? = some n → n / 64 % 2 = 0) ∧ vf ns = enc h := by
  obtain ⟨a0, a1, a2, a3, a4, a5, a6, a7, rfl⟩ := len8 hlen
  have e1 : ns = [192 + a7, 64 + a6, 192 + a5, 64 + a4, 192 + a3, 64 + a2, 192 + a1, 128 + a0] := e
  subst e1
  clear e
  have s0 : (_ + a0) / 64 % 2 = _ ∧ (_ + a0) % 64 = a0 := bit_128 (hsm 0 (by decide))
  have s1 : (_ + a1) / 64 % 2 = _ ∧ (_ + a1) % 64 = a1 := bit_192 (hsm 1 (by decide))
  have s2 : (_ + a2) / 64 % 2 = _ ∧ (_ + a2) % 64 = a2 := bit_64 (hsm 2 (by decide))
  have s3 : (_ + a3) / 64 % 2 = _ ∧ (_ + a3) % 64 = a3 := bit_192 (hsm 3 (by decide))
  have s4 : (_ + a4) / 64 % 2 = _ ∧ (_ + a4) % 64 = a4 := bit_64 (hsm 4 (by decide))
  have s5 : (_ + a5) / 64 % 2 = _ ∧ (_ + a5) % 64 = a5 := bit_192 (hsm 5 (by decide))
  have s6 : (_ + a6) / 64 % 2 = _ ∧ (_ + a6) % 64 = a6 := bit_64 (hsm 6 (by decide))
  have s7 : (_ + a7) / 64 % 2 = _ ∧ (_ + a7) % 64 = a7 := bit_192 (hsm 7 (by decide))
  refine ⟨rfl, ?_, ?_, ?_⟩
  · intro i hi n hn
    rcases nat8 i (Nat.lt_succ_of_lt hi) with rfl | rfl | rfl | rfl | rfl | rfl | rfl | rfl
    · exact Option.some.inj hn ▸ s7.1
    · exact Option.some.inj hn ▸ s6.1
    · exact Option.some.inj hn ▸ s5.1
    · exact Option.some.inj hn ▸ s4.1
    · exact Option.some.inj hn ▸ s3.1
    · exact Option.some.inj hn ▸ s2.1
    · exact Option.some.inj hn ▸ s1.1
    · exact absurd hi (by decide)
  · intro n hn
    exact Option.some.inj hn ▸ s0.1
  · refine Eq.trans ?_ (horner a0 a1 a2 a3 a4 a5 a6 a7)
    show (((((((0 * 64 + (192 + a7) % 64) * 64 + (64 + a6) % 64) * 64 + (192 + a5) % 64) * 64 + (64 + a4) % 64) * 64 + (192 + a3) % 64) * 64 + (64 + a2) % 64) * 64 + (192 + a1) % 64) * 64 + (128 + a0) % 64 = _
    rw [s7.2, s6.2, s5.2, s4.2, s3.2, s2.2, s1.2, s0.2, Int.zero_mul, Int.zero_add]
theorem ints_range {ys : List Value} {g : Nat → Int} {i : Nat} {x : Int} {t : Tok} (I : IntsAre ys ((List.range i).map g)) (e : x = g i) : IntsAre (ys ++ [.int x t]) ((List.range (i + 1)).map g) := by
  rw [List.range_succ, List.map_append, e]
  exact I.append (.cons _ _ .nil)
theorem sum_enc {h : List Int} (hlen : h.length = 8) : ((List.range 8).map fun j => h.getD j 0 * 64 ^ j).sum = enc h := by
  obtain ⟨a0, a1, a2, a3, a4, a5, a6, a7, rfl⟩ := len8 hlen
  show a0 * 1 + (a1 * 64 + (a2 * 4096 + (a3 * 262144 + (a4 * 16777216 + (a5 * 1073741824 + (a6 * 68719476736 + (a7 * 4398046511104 + 0))))))) = a0 + 64 * a1 + 4096 * a2 + 262144 * a3 + 16777216 * a4 + 1073741824 * a5 + 68719476736 * a6 + 4398046511104 * a7
  clear hlen
  omega
theorem pow64 {k : Int} (h : 0 ≤ k ∧ k < 8) : (0 : Int) ≤ 64 ^ k.toNat ∧ (64 : Int) ^ k.toNat < 2 ^ 62 := by
  have key : ∀ n : Nat, n < 8 → (0 : Int) ≤ 64 ^ n ∧ (64 : Int) ^ n < 2 ^ 62 := by decide
  exact key _ (by omega)
theorem news_skip2 {h₀ h : Heap} {L : Addr} {a b c : Addr × Obj} {rest : List (Addr × Obj)} (N : News h₀ L h (a :: b :: c :: rest)) : News h₀ L h (a :: rest) := fun p hp => by
  rcases List.mem_cons.mp hp with rfl | hp
  · exact N _ (.head _)
  · exact N p (.tail _ (.tail _ (.tail _ hp)))
/-- the names of the seven holes' flags, with tokens that no word outside bears -/
theorem seven_ts {kn b : Nat} (h0 : 449 ≤ kn) (x : Str) (u : Nat) (hu : u < 449 ∨ kn + 12 ≤ u) : TS x u (strValues (((tagFrom kn all12).drop b).take 7) ++ strValues (((tagFrom kn all12).drop b).take 7)) (sev b) := by
  have key : ∀ ps : List (Str × Nat), (∀ p ∈ ps, kn ≤ p.2 ∧ p.2 < kn + 12) → TS x u (strValues ps) (ps.map (·.1)) := by
    intro ps
    induction ps with
    | nil => intro _; exact .nil
    | cons p r ih =>
      intro hp
      have := hp p (.head _)
      refine TS.cons p.1 p.2 (fun e => ?_) (fun _ e => ?_) (ih fun q hq => hp q (.tail _ hq))
      · have e' : (p.2 : Nat) = 0 := e
        omega
      · have e' : (p.2 : Nat) = u := e
        omega
  have e := seven_fst kn b
  rw [← e]
  have e2 : strValues (((tagFrom kn all12).drop b).take 7) ++ strValues (((tagFrom kn all12).drop b).take 7) = strValues ((((tagFrom kn all12).drop b).take 7) ++ (((tagFrom kn all12).drop b).take 7)) := by unfold strValues; rw [List.map_append]
  rw [e2]
  exact key _ seven_tok
/-- the ready holes among the first j -/
noncomputable def rdy (h : List Int) (j : Nat) : List Int := ((List.range j).map fun i : Nat => 1 + (i : Int)).filter fun k => at' h k == k
theorem rdy6 (h : List Int) : rdy h 6 = ready h := rfl
theorem rdy_succ {h : List Int} {j : Nat} {k : Int} (hk : 1 + (j : Int) * 1 = k) : rdy h (j + 1) = rdy h j ++ (if at' h k = k then [k] else []) := by
  unfold rdy
  rw [List.range_succ, List.map_append, List.filter_append, List.map_singleton]
  have e : 1 + (j : Int) = k := by omega
  rw [e]
  by_cases h' : at' h k = k
  · simp [h']
  · simp [h']
theorem quo64 {a r : Int} (h : 0 ≤ a ∧ a < 64) : (r * 64 + a) / 64 = r := by omega
theorem rem64 {a r : Int} (h : 0 ≤ a ∧ a < 64) : (r * 64 + a) % 64 = a := by omega
theorem quo_step {x r r' : Int} {n : Nat} (h : x / 2 ^ n = r) (e : r / 64 = r') : x / 2 ^ (n + 6) = r' := by
  rw [Int.pow_add, ← Int.ediv_ediv_of_nonneg (Int.pow_nonneg (by decide)), h]
  exact e
theorem dig_at {sm f : Int} {h : List Int} (F : Fair sm f h) (hs : at' h 0 + sm < 64) (hf : 0 ≤ f) {k : Int} (hk : 1 ≤ k ∧ k < 7) : enc h / 2 ^ (6 * k).toNat % 64 = at' h k := by
  obtain ⟨a0, a1, a2, a3, a4, a5, a6, rfl, p0, p1, p2, p3, p4, p5, p6, q⟩ := F
  replace hs : a0 + sm < 64 := hs
  have q2 := Int.add_nonneg p1 p2
  have q3 := Int.add_nonneg q2 p3
  have q4 := Int.add_nonneg q3 p4
  have q5 := Int.add_nonneg q4 p5
  have q6 := Int.add_nonneg q5 p6
  rw [← q] at hs
  have l0 := part_lt hs q6
  have l6 := last_lt hs p0
  have l5 := part_lt l6 p6
  have l4 := part_lt l5 p5
  have l3 := part_lt l4 p4
  have l2 := part_lt l3 p3
  have d1 : enc [a0, a1, a2, a3, a4, a5, a6, f] / 2 ^ 6 = _ := (congrArg (· / 64) (horner a0 a1 a2 a3 a4 a5 a6 f)).symm.trans (quo64 ⟨p0, l0⟩)
  have d2 := quo_step d1 (quo64 ⟨p1, part_lt l2 p2⟩)
  have d3 := quo_step d2 (quo64 ⟨p2, last_lt l2 p1⟩)
  have d4 := quo_step d3 (quo64 ⟨p3, last_lt l3 q2⟩)
  have d5 := quo_step d4 (quo64 ⟨p4, last_lt l4 q3⟩)
  have d6 := quo_step d5 (quo64 ⟨p5, last_lt l5 q4⟩)
  rcases int6 hk with rfl | rfl | rfl | rfl | rfl | rfl
  · exact (congrArg (· % 64) d1).trans (rem64 ⟨p1, part_lt l2 p2⟩)
  · exact (congrArg (· % 64) d2).trans (rem64 ⟨p2, last_lt l2 p1⟩)
  · exact (congrArg (· % 64) d3).trans (rem64 ⟨p3, last_lt l3 q2⟩)
  · exact (congrArg (· % 64) d4).trans (rem64 ⟨p4, last_lt l4 q3⟩)
  · exact (congrArg (· % 64) d5).trans (rem64 ⟨p5, last_lt l5 q4⟩)
  · exact (congrArg (· % 64) d6).trans (rem64 ⟨p6, last_lt l6 q5⟩)
theorem ints_take {ys : List Value} {l : List Int} {g : Int → Int} {i : Nat} {x : Int} {t : Tok} (I : IntsAre ys ((l.take i).map g)) (e : l[i]? = some x) : IntsAre (ys ++ [.int (g x) t]) ((l.take (i + 1)).map g) := by
  rw [List.take_add_one, e, List.map_append]
  exact I.append (.cons _ _ .nil)
theorem ok_hex0 {t : Nat} : ∀ x ∈ [(Str.ofString "0x0", t)].map (·.1), PyData.strOk x = true := by
  show ∀ x ∈ [Str.ofString "0x0"], PyData.strOk x = true
  decide +kernel
theorem run_stop {odd : Int} {i : Nat} {h es : List Int} {a : Bool} (hi : i < 16) (hr : ready h = []) : run odd (16 - i) i h es a = (h, es, a) := by
  have e : 16 - i = (15 - i) + 1 := by omega
  rw [e, run_succ, if_pos hr]
theorem run_go {odd : Int} {i : Nat} {h es : List Int} {a : Bool} (hi : i < 16) (hr : ready h ≠ []) : run odd (16 - i) i h es a =
    run odd (16 - (i + 1)) ((i + 1 : Nat) : Int) (sow h (pick odd i (ready h))) (es ++ [pick odd i (ready h)]) (a || pick odd i (ready h) != (ready h).headD 0) := by
  have e : 16 - i = (16 - (i + 1)) + 1 := by omega
  rw [e, run_succ, if_neg hr]
  push_cast
  rfl
theorem TI.mono {b c : Nat} {vs : List Value} (h : TI b vs) (hbc : b ≤ c) : TI c vs := fun v hv => by
  obtain ⟨x, t, e1, e2, e3, e4⟩ := h v hv
  exact ⟨x, t, e1, e2, Nat.lt_of_lt_of_le e3 hbc, e4⟩
theorem news_sub2 {h₀ h : Heap} {L : Addr} {led rest : List (Addr × Obj)} {a b : Addr × Obj} (N : News h₀ L h led) (ha : a ∈ led) (hb : b ∈ led) (hr : ∀ p ∈ rest, p ∈ led) : News h₀ L h (a :: b :: rest) := fun p hp => by
  rcases List.mem_cons.mp hp with rfl | hp
  · exact N _ ha
  · rcases List.mem_cons.mp hp with rfl | hp
    · exact N _ hb
    · exact N p (hr p hp)
theorem TI.snoc {b : Nat} {vs : List Value} {x : Int} {t : Tok} (h : TI b vs) (h1 : t ≠ 0) (h2 : t < b) (h3 : smallInt x = true) : TI b (vs ++ [.int x t]) := fun v hv => by
  rcases List.mem_append.mp hv with hv | hv
  · exact h v hv
  · rw [List.mem_singleton.mp hv]
    exact ⟨x, t, rfl, h1, h2, h3⟩
theorem strs_at {qs : List (Str × Nat)} {j : Nat} {v : Value} (h : (strValues qs)[j]? = some v) : ∃ p, qs[j]? = some p ∧ v = .str p.1 p.2 := by
  unfold strValues at h
  rw [List.getElem?_map] at h
  cases e : qs[j]? with
  | none => rw [e] at h; simp at h
  | some p => rw [e] at h; simp at h; exact ⟨p, rfl, h.symm⟩
theorem ints_takeS {ys : List Value} {l : List Str} {g : Str → Int} {i : Nat} {x : Str} {t : Tok} (I : IntsAre ys ((l.take i).map g)) (e : l[i]? = some x) : IntsAre (ys ++ [.int (g x) t]) ((l.take (i + 1)).map g) := by
  rw [List.take_add_one, e, List.map_append]
  exact I.append (.cons _ _ .nil)
theorem small6 {x : Int} (h : 0 ≤ x ∧ x ≤ 6) : smallInt x = true := by
  have key : ∀ n : Nat, n < 7 → smallInt (n : Int) = true := by decide
  have := key x.toNat (by omega)
  rwa [Int.toNat_of_nonneg h.1] at this
theorem pow2p {p : Int} (h : 1 ≤ p ∧ p < 7) : (0 : Int) ≤ 2 ^ (6 * p).toNat ∧ (2 : Int) ^ (6 * p).toNat < 2 ^ 62 := by
  rcases int6 h with rfl | rfl | rfl | rfl | rfl | rfl <;> decide
theorem sow_enc {sm f : Int} {h : List Int} (F : Fair sm f h) {p : Int} (hp : 1 ≤ p ∧ p < 7) (ha : at' h p = p) : enc h - p * 2 ^ (6 * p).toNat + 2 ^ (6 * p).toNat / 63 = enc (sow h p) := by
  obtain ⟨a0, a1, a2, a3, a4, a5, a6, rfl, p0, p1, p2, p3, p4, p5, p6, q⟩ := F
  clear ha p0 p1 p2 p3 p4 p5 p6 q
  rcases int6 hp with rfl | rfl | rfl | rfl | rfl | rfl <;> clear hp
  · show a0 + 64 * a1 + 4096 * a2 + 262144 * a3 + 16777216 * a4 + 1073741824 * a5 + 68719476736 * a6 + 4398046511104 * f - 64 + 1 = (a0 + 1) + 64 * (a1 - 1) + 4096 * a2 + 262144 * a3 + 16777216 * a4 + 1073741824 * a5 + 68719476736 * a6 + 4398046511104 * f
    omega
  · show a0 + 64 * a1 + 4096 * a2 + 262144 * a3 + 16777216 * a4 + 1073741824 * a5 + 68719476736 * a6 + 4398046511104 * f - 8192 + 65 = (a0 + 1) + 64 * (a1 + 1) + 4096 * (a2 - 2) + 262144 * a3 + 16777216 * a4 + 1073741824 * a5 + 68719476736 * a6 + 4398046511104 * f
    omega
  · show a0 + 64 * a1 + 4096 * a2 + 262144 * a3 + 16777216 * a4 + 1073741824 * a5 + 68719476736 * a6 + 4398046511104 * f - 786432 + 4161 = (a0 + 1) + 64 * (a1 + 1) + 4096 * (a2 + 1) + 262144 * (a3 - 3) + 16777216 * a4 + 1073741824 * a5 + 68719476736 * a6 + 4398046511104 * f
    omega
  · show a0 + 64 * a1 + 4096 * a2 + 262144 * a3 + 16777216 * a4 + 1073741824 * a5 + 68719476736 * a6 + 4398046511104 * f - 67108864 + 266305 = (a0 + 1) + 64 * (a1 + 1) + 4096 * (a2 + 1) + 262144 * (a3 + 1) + 16777216 * (a4 - 4) + 1073741824 * a5 + 68719476736 * a6 + 4398046511104 * f
    omega
  · show a0 + 64 * a1 + 4096 * a2 + 262144 * a3 + 16777216 * a4 + 1073741824 * a5 + 68719476736 * a6 + 4398046511104 * f - 5368709120 + 17043521 = (a0 + 1) + 64 * (a1 + 1) + 4096 * (a2 + 1) + 262144 * (a3 + 1) + 16777216 * (a4 + 1) + 1073741824 * (a5 - 5) + 68719476736 * a6 + 4398046511104 * f
    omega
  · show a0 + 64 * a1 + 4096 * a2 + 262144 * a3 + 16777216 * a4 + 1073741824 * a5 + 68719476736 * a6 + 4398046511104 * f - 412316860416 + 1090785345 = (a0 + 1) + 64 * (a1 + 1) + 4096 * (a2 + 1) + 262144 * (a3 + 1) + 16777216 * (a4 + 1) + 1073741824 * (a5 + 1) + 68719476736 * (a6 - 6) + 4398046511104 * f
    omega
theorem off_three {I x y z : Addr} {a b c a' c' : Obj} {rest : List (Addr × Obj)} (off : Off I ((x, a) :: (y, b) :: (z, c) :: rest)) : Off I ((x, a') :: (y, b) :: (z, c') :: rest) := fun p hp => by
  rcases List.mem_cons.mp hp with rfl | hp
  · exact off (x, a) (.head _)
  · rcases List.mem_cons.mp hp with rfl | hp
    · exact off (y, b) (.tail _ (.head _))
    · rcases List.mem_cons.mp hp with rfl | hp
      · exact off (z, c) (.tail _ (.tail _ (.head _)))
      · exact off p (.tail _ (.tail _ (.tail _ hp)))
theorem news_four {h₀ h : Heap} {L : Addr} {led rest : List (Addr × Obj)} {a b c d : Addr × Obj} (N : News h₀ L h led) (ha : a ∈ led) (hb : b ∈ led) (hc : c ∈ led) (hd : d ∈ led) (hr : ∀ p ∈ rest, p ∈ led) : News h₀ L h (a :: b :: c :: d :: rest) := fun p hp => by
  rcases List.mem_cons.mp hp with rfl | hp
  · exact N _ ha
  · rcases List.mem_cons.mp hp with rfl | hp
    · exact N _ hb
    · exact news_sub2 N hc hd hr p hp
theorem played_c {bl : Addr} {bvs : List Value} {h : List Int} {bn : Nat} {sm f bs odd : Int} {bt ot : Tok}
   (B : Below A₀ base outer h₀) (Fm : Fr h₀ L s.heap m) (X : (Mine.hd.heap_39 w.params).In h₀) (N : News h₀ L s.heap news) (T : Top p loose mean mg mb h₀) (hk : cs.kind = .function)
   (hbl : (bl, listOf bvs.toArray bn) ∈ news) (hb : IntsAre bvs h) (hf : Fair sm f h) (hs : 0 ≤ sm ∧ sm < 16) (hff : 0 ≤ f ∧ f < 49) (ha : at' h 0 = f) (hbs : 0 ≤ bs ∧ bs < 6) (h0 : 449 ≤ s.toks)
   (hd : dp + 2 < recursionLimit) (hu : un + 200 < cLine)
   (ret : ∀ D el evs ec nt hp tk', IntsAre evs (run odd 16 0 h [] false).2.1 → TI tk' evs → (∀ p ∈ news, p.1 < el) → @LT.lt Nat _ el D → Fr h₀ L hp m →
     News h₀ L hp ((D, { cls := .type "tuple", data := .seq #[.int (enc (run odd 16 0 h [] false).1) nt, .ref el, .bool (run odd 16 0 h [] false).2.2] }) :: (el, listOf evs.toArray ec) :: news) → Q (.ref D) {s with heap := hp, toks := tk'}) :
   wpAny (model PySem.Challenge.rw_wj0037_01.row.prog w) (ktrTop dp un gd cn cs L a ccd cl outer) (call (.ref 170) [.ref bl, .int bs bt, .int odd ot]) Q E s := by
  have hLo : Lo s.toks s.toks := Nat.le_refl _
  have hlen : h.length = 8 := by
    obtain ⟨a0, a1, a2, a3, a4, a5, a6, rfl, _⟩ := hf
    rfl
  refine lo_rule hLo (Nat.le_refl _) (wpAny_call ?_)
  k_dflt (refine' cells_enter ?k1 ?k2 ?k3 ?k4 ?k5 ?kA ?kF ?kK ?k6 ?k7 ?k8 ?k9 ?kB ?kD ?_ ?c2 ?c3 ?c4; (case kA => exact rfl); (case kF => exact rfl); (case kK => assumption); (case k1 => k_asm); (case k2 => k_asm); (case k3 => k_asm); (case k4 => k_asm); (case k5 => k_asm); (case k6 => k_is); (case k7 => k_is); (case k8 => ktr_room); (case k9 => exact BindsTo.of_eq rfl); (case kB => exact rfl); (case kD => decide +kernel); (case c2 => exact rfl); (case c3 => exact rfl); (case c4 => exact rfl); k_whole; intro g' L' h' tk' cells' hle0 FG' F' N' Y' B' X' T' l1; k_cells Y'; (try simp only [List.cons_append, List.nil_append] at N'); (try dsimp only); (try k_lift B'); (try k_fold))
  have lLo : Lo s.toks tk' := hle0
  (rename Fr _ _ _ _ => lF)
  replace lF := fr_map (m' := fun y => if y = Str.ofString "odd" then some (.int odd ot) else none) lF (fun y => by with_unfolding_all rfl)
  iterate 11 walk_at "STEP"
  (rename Lo _ _ => lLo)
  refine names_call (by k_asm) (by k_asm) ?_
  intro nl0 hA kn tkA hk1 hk2 F1 N1 l2
  k_lt l2
  have lLo0 : s.toks ≤ kn := by
    have h1 := lLo
    have h2 := hk1
    unfold Lo at h1
    dsimp only at h2
    omega
  iterate 10 walk_at "STEP"
  k_dflt (refine' kmk_slice ?sF ?sN ?sl ?sp ?sq ?_ ?ss ?st ?sz; (case sF => k_asm); (case sN => k_asm); (case sl => exact News.isList (by k_asm) (.head _)); (case sp => kmk_part); (case sq => kmk_part); (case ss => with_unfolding_all rfl); (case st => kmk_pure); (case sz => exact Nat.le_of_ble_eq_true rfl))
  intro nl1 hA1 F1a lN l2a
  k_lt l2a
  rw [names_slice kn bs hbs] at lN
  iterate 1 walk_at "STEP"
  refine KMa.mul (by k_asm) (by k_asm) (News.isList lN (.head _)) (by decide) (by decide) ?hz (twice _) ?_
  (case hz => rw [show (2 : Int).toNat = 2 from rfl]; unfold strValues; rw [List.length_map, List.length_take]; omega)
  intro nl hB F2 N2 l3
  k_lt l3
  dsimp only
  iterate 1 walk_at "STEP"
  intro _
  dsimp only
  refine execs_cons_lo (b := kn + 12) (a := tkA) hk2 (by walk_at "LOLE") ?_
  intro tkB lLo
  (rename News _ _ _ _ => lN)
  replace lN := news_skip2 lN
  clear l2 l2a hk2
  iterate 11 walk_at "STEP"
  iterate 13 walk_at "STEP"
  (rename IsRange _ _ _ _ _ _ _ _ => lR)
  (rename Fr _ _ _ _ => lF)
  (rename News _ _ _ _ => lN)
  refine go_range 7 (fun i ys _ => IntsAre ys ((List.range i).map fun j => dig h (7 - j))) lR lF lN (by rfl) (by rfl) (by decide) .nil (by rfl) (by decide) (by rfl) (by rfl) ?_ ?_
  · rintro s₂ ⟨hp2, rfl⟩ i v ys oI I C oC D m₂ hq tk₀ tk hi rfl htk hJ hoC hm₂ F₁ N₁ off hne
    clear lF lN lR
    obtain ⟨k, hk⟩ : ∃ k : Int, 7 + (i : Int) * (-1) = k := ⟨_, rfl⟩
    rw [hk] at hm₂
    have hk7 : 0 ≤ k ∧ k < 8 := by omega
    iterate 14 walk_at "STEP"
    refine ksa_sub (by k_asm) (by walk_at "MEMB") hb hk7.1 (by omega) (by omega) ?_
    intro tb
    iterate 1 walk_at "STEP"
    refine EltF.intro (by k_asm) (by k_asm) fun _ => ?_
    rw [← hk]
    exact digs_succ hi hJ
  · rintro D ys hq tk₀ tk htk hI F₁ N₁ off
    k_lt off
    clear lF lN lR
    dsimp only
    iterate 7 walk_at "STEP"
    refine ksa_sub (by k_asm) (by walk_at "MEMB") hb (by decide) (by omega) (by omega) ?_
    intro tb
    iterate 5 walk_at "STEP"
    (rename IntsAre _ _ => lI)
    (rename News _ _ _ _ => lN)
    refine list_iter_call (by k_asm) lN (.head _) ?_
    intro it hi oI hli Fi Ni li
    clear lN
    have hoff : Off it _ := fun p hp => Nat.ne_of_lt (li p hp)
    k_lt li
    have hsm : ∀ k, k < 8 → 0 ≤ h.getD k 0 ∧ h.getD k 0 < 64 := fair_small hf hs.2 hff (by omega)
    obtain ⟨q1, q2, q3, q4⟩ := digs7 hlen hsm rfl
    iterate 2 walk_at "STEP"
    refine parse_varint_c (by k_asm) (by k_asm) (by k_asm) (by k_asm) (by k_asm) (by rfl) hoff hli (.head _) lI q1 q2 q3 (by ktr_room) (by ktr_units) ?_
    rw [q4]
    intro nt hj tkj Fj Nj
    clear hoff Ni
    replace Nj := news_tail (news_tail (news_tail Nj))
    iterate 30 walk_at "STEP"
    (rename IsRange _ _ _ _ _ _ _ _ => lR)
    (rename Fr _ _ _ _ => lF)
    (rename News _ _ _ _ => lN)
    refine go_range 8 (fun i ys _ => IntsAre ys ((List.range i).map fun j => h.getD j 0 * 64 ^ j)) lR lF lN (by rfl) (by rfl) (by decide) .nil (by rfl) (by decide) (by rfl) (by rfl) ?_ ?_
    · rintro s₂ ⟨hp2, rfl⟩ i v ys oI I C oC D m₂ hq tk₀ tk hi rfl htk hJ hoC hm₂ F₁ N₁ off hne
      clear lF lN lR
      obtain ⟨k, hk⟩ : ∃ k : Int, 0 + (i : Int) * 1 = k := ⟨_, rfl⟩
      rw [hk] at hm₂
      have hk7 : 0 ≤ k ∧ k < 8 := by omega
      iterate 4 walk_at "STEP"
      refine ksa_sub (by k_asm) (by walk_at "MEMB") hb hk7.1 (by omega) (by omega) ?_
      intro tb
      have hp1 := pow64 hk7
      have hp3 := hsm k.toNat (by omega)
      have hp4 : 0 ≤ h.getD k.toNat 0 ∧ h.getD k.toNat 0 < 2 ^ 62 := ⟨hp3.1, by omega⟩
      iterate 5 walk_at "STEP"
      refine EltF.intro (by k_asm) (by k_asm) fun _ => ?_
      rw [← hk]
      refine ints_range hJ ?_
      have e : (0 + (i : Int) * 1).toNat = i := by rw [Int.zero_add, Int.mul_one]; rfl
      rw [e]
    · rintro D ys hq tk₀ tk htk hI F₁ N₁ off
      k_lt off
      clear lF lN lR
      dsimp only
      iterate 2 walk_at "STEP"
      rw [sum_enc hlen]
      iterate 3 walk_at "STEP"
      · exact absurd rfl (by assumption)
      iterate 3 walk_at "STEP"
      (rename Fr _ _ _ _ => lF)
      (rename News _ _ _ _ => lN)
      (rename Lo _ _ => lLo)
      replace lN := news_tail lN
      clear hI off q1 q2 q3 q4 hli li
      obtain ⟨NV, hNV⟩ : ∃ NV, NV = strValues (((tagFrom kn all12).drop bs.toNat).take 7) ++ strValues (((tagFrom kn all12).drop bs.toNat).take 7) := ⟨_, rfl⟩
      rw [← hNV] at lN
      have hkn : 449 ≤ kn := by
        omega
      have hTS : ∀ x (u : Nat), (u < 449 ∨ kn + 12 ≤ u) → TS x u NV (sev bs.toNat) := fun x u hu => by rw [hNV]; exact seven_ts hkn x u hu
      clear hNV
      obtain ⟨el, oN, o3, o2, o1, hel1, hel2, eN, e3, e2, e1, lF, lN⟩ : ∃ el oN o3 o2 o1, @LT.lt Nat _ nl el ∧ @LT.lt Nat _ (L' + 1 + 1 + 1 + 1) el ∧ oN.data = Data.cell (some (.int (enc h) nt)) ∧ o3.data = Data.cell (some (.ref nl)) ∧ o2.data = Data.cell (some (.int bs bt)) ∧ o1.data = Data.cell (some (.ref bl)) ∧
          Fr _ _ _ (fun y => if y = Str.ofString "astray" then some (.bool false) else if y = Str.ofString "emptied" then some (.ref el) else if y = Str.ofString "odd" then some (.int odd ot) else none) ∧
          News _ _ _ ((el, W.listOf #[] 0) :: (nl, W.listOf NV.toArray 0) :: (L' + 1 + 1 + 1 + 1, oN) :: (L' + 1 + 1 + 1, o3) :: (L' + 1 + 1, o2) :: (L' + 1, o1) :: news) :=
        ⟨_, _, _, _, _, by omega, by omega, by assumption, by assumption, by with_unfolding_all assumption, by with_unfolding_all assumption, lF, lN⟩
      have hel3 : AllLt el news := allLt_of fun p hp => Nat.lt_trans (l1 p hp) (by omega)
      (with_unfolding_all refine for_range lF (by rfl) (by rfl) (by rfl) ?_)
      refine lo_rule lLo (by walk_at "LOLE") ?_
      iterate 8 walk_at "STEP"
      (rename Lo _ _ => lLo)
      (rename IsRange _ _ _ _ _ _ _ _ => lR)
      (rename Fr _ _ _ _ => lF)
      (rename News _ _ _ _ => lN)
      refine ⟨_, 0, 16, 16, _, _, _, _, _, fun i mm nx tk => ∃ hi es ai si evs ec oN nt' tv rv wv hv ov, kn + 12 ≤ tk ∧ run odd (16 - i) i hi es ai = run odd 16 0 h [] false ∧ Fair si f hi ∧ at' hi 0 + si = f + sm ∧
        nx = (el, W.listOf (List.toArray evs) ec) :: (nl, W.listOf NV.toArray 0) :: (L' + 1 + 1 + 1 + 1, oN) :: (L' + 1 + 1 + 1, o3) :: (L' + 1 + 1, o2) :: (L' + 1, o1) :: news ∧ oN.data = Data.cell (some (.int (enc hi) nt')) ∧
        IntsAre evs es ∧ TI tk evs ∧ es.length ≤ i ∧
        mm = (fun y => if y = Str.ofString "turn" then tv else if y = Str.ofString "ready" then rv else if y = Str.ofString "words" then wv else if y = Str.ofString "holes" then hv else if y = Str.ofString "hole" then ov else
          if y = Str.ofString "astray" then some (.bool ai) else if y = Str.ofString "emptied" then some (.ref el) else if y = Str.ofString "odd" then some (.int odd ot) else none), rfl, lR, by rfl, by rfl, lF, lN, ?_, ?_, ?_⟩
      · refine ⟨h, [], false, sm, [], 0, oN, nt, ?tv0, ?rv0, ?wv0, ?hv0, ?ov0, lLo, rfl, hf, by rw [ha], rfl, eN, .nil, (fun v hv => nomatch hv), Nat.le_refl _, map_ext [Str.ofString "turn", Str.ofString "ready", Str.ofString "words", Str.ofString "holes", Str.ofString "hole"] ?m1 ?m2⟩
        (case m1 => walk_at "MAPK")
        (case m2 => walk_at "MAPY")
      · rintro I i t m₁ nx oI hq tk₀ tk hi htk ⟨hh, es, ai, si, evs, ec, oM, nt', tv, rv, wv, hv, ov, g1, g2, g3, g4, rfl, g5, g6, g7, g8, rfl⟩ off F₁ N₁
        clear lF lN lR lLo
        have hkt : kn + 12 ≤ tk := Nat.le_trans g1 htk
        have hLo : Lo tk tk := Nat.le_refl _
        have hIe : @Ne Nat el I := off _ (.head _)
        have hIc : @Ne Nat (L' + 1 + 1 + 1 + 1) I := off _ (.tail _ (.tail _ (.head _)))
        have hen : 0 ≤ enc hh := fair_enc0 g3 hff.1
        iterate 11 walk_at "STEP"
        (rename IsRange _ _ _ _ _ _ _ _ => lR)
        (rename Fr _ _ _ _ => lF)
        (rename News _ _ _ _ => lN)
        refine go_range 6 (fun j ys _ => IntsAre ys (rdy hh j)) lR lF lN (by rfl) (by rfl) (by decide) .nil (by rfl) (by decide) (by rfl) (by rfl) ?_ ?_
        · rintro s₂ ⟨hp2, rfl⟩ j v ys oJ Ij C oC D m₂ hr tk₁ tk₂ hj rfl htk hJ hoC hm₂ F₁ N₁ off hne
          clear lF lN lR
          obtain ⟨k, hk⟩ : ∃ k : Int, 1 + (j : Int) * 1 = k := ⟨_, rfl⟩
          rw [hk] at hm₂
          have hk7 : 1 ≤ k ∧ k < 7 := by omega
          have hda := dig_at g3 (by omega) hff.1 hk7
          have hrs := rdy_succ (h := hh) hk
          iterate 29 walk_at "STEP"
          · (rename _ = k => hq1)
            rw [hda] at hq1
            rw [if_pos hq1] at hrs
            iterate 1 walk_at "STEP"
            refine EltF.intro (by k_asm) (by k_asm) fun _ => ?_
            rw [hrs]
            exact hJ.append (.cons _ _ .nil)
          · (rename ¬ _ = k => hq1)
            rw [hda] at hq1
            rw [if_neg hq1, List.append_nil] at hrs
            refine EltF.intro (by k_asm) (by k_asm) fun _ => ?_
            rw [hrs]
            exact hJ
        · rintro rl rvs hr tk₁ tk₂ htk₂ hI F₁ N₁ off₁
          clear lF lN lR
          rw [rdy6] at hI
          k_lt off₁
          dsimp only
          iterate 8 walk_at "STEP"
          (rename Lo _ _ => lLo)
          refine lo_rule lLo (by walk_at "LOLE") ?_
          iterate 6 walk_at "STEP"
          (rename Fr _ _ _ _ => lF)
          (rename News _ _ _ _ => lN)
          have hbb : bs.toNat < 6 := by omega
          have hbt : ((bs.toNat : Nat) : Int) = bs := by omega
          obtain ⟨FF, f1, f2, f3, f4, f5, f8, f9, f6, f7⟩ := flags_law hbb hh
          rw [hbt] at f2
          have hrl : rvs.length ≤ 6 := by rw [hI.length]; exact List.length_filter_le _ _
          refine go_list (fun j ys _ => IntsAre ys (((ready hh).take j).map fun k => (2 : Int) ^ (bs + k).toNat)) lF lN (.head _) (Nat.le_trans hrl (by rw [sizeLine_eq]; decide)) .nil (by rfl) (by decide) (by rfl) (by rfl) ?_ ?_
          · rintro s₂ ⟨hp2, rfl⟩ j v ys oJ Ij C oC D m₂ hs tk₁ tk₂ hj hv htk hJ hoC hm₂ F₁ N₁ off hne
            clear lF lN
            obtain ⟨x, t', rfl, hx⟩ := ints_get hI hv
            have hx6 : 1 ≤ x ∧ x < 7 := ready_rng (List.mem_of_getElem? hx)
            iterate 14 walk_at "STEP"
            exact EltF.intro (by k_asm) (by k_asm) fun _ => ints_take hJ hx
          · rintro wl wvs hs tk₁ tk₂ htk₃ hI2 F₁ N₁ off₂
            clear lF lN
            rw [List.take_of_length_le (Nat.le_of_eq hI.length.symm)] at hI2
            k_lt off₂
            dsimp only
            iterate 2 walk_at "STEP"
            rw [f2]
            iterate 3 walk_at "STEP"
            (rename Lo _ _ => lLo)
            refine pretty_flags_c (by k_asm) (by k_asm) (by k_asm) (by k_asm) (by k_asm) (by rfl) f1 (lo_ne lLo (by omega) (by walk_at "LOLE")) (by ktr_room) (by ktr_units) ?_
            intro pt hP tkP p1 p2 p3 FP NP
            rw [pretty_glued]
            iterate 5 walk_at "STEP"
            have w1 : kn + 12 ≤ tkP := by
              have z := lLo
              unfold Lo at z
              dsimp only at p1
              omega
            have w2 : pt < 449 ∨ kn + 12 ≤ pt := by
              rcases p3 with h | h
              · exact .inl h
              · refine .inr (Nat.le_trans ?_ h)
                have z := lLo
                unfold Lo at z
                dsimp only
                omega
            refine split_call (lo := kn + 12) (by k_asm) (by k_asm) f5 f3 f4 f9 p2 w2 (Nat.le_succ_of_le w1) (Nat.ne_of_gt (Nat.succ_pos _)) ?_
            intro wl qs hW tkW q1 q2 q3 FW NW lw
            k_lt lw
            clear w1 w2 p1 p2 p3 lLo
            iterate 12 walk_at "STEP"
            k_dflt (refine eq_texts (qs := [(Str.ofString "0x0", _)]) (by k_asm) (.tail _ (.head _)) (.head _) (by rw [q1]; exact f8) ok_hex0 (by ktr_units) ?_)
            rw [q1]
            iterate 3 walk_at "STEP"
            · have hre : ready hh = [] := Classical.byContradiction fun hne => (f7 hne).1 (by assumption)
              rw [hre] at hI
              obtain rfl : rvs = [] := IntsAre.nil_inv hI
              rw [run_stop hi hre] at g2
              iterate 30 walk_at "STEP"
              (rename Lo tk _ => lT)
              have lT2 := lT
              iterate 14 walk_at "STEP"
              (rename Lo tk _ => lT)
              (rename Fr h₀ L _ _ => kF)
              (rename News h₀ L _ _ => kN)
              refine ret _ el evs ec nt' _ _ (by rw [← g2]; exact g6) (g7.mono (Nat.le_trans htk (lo_le lT (Nat.le_refl _)))) (fun p hp => Nat.lt_trans (l1 p hp) (by omega)) (by omega) kF ?_
              rw [← g2]
              exact news_sub2 kN (.head _) (by walk_at "MEMB") fun p hp => by walk_at "MEMB"
            · have hre : ready hh ≠ [] := fun he => absurd (f6 he) (by assumption)
              obtain ⟨f7a, f7b, f7c⟩ := f7 hre
              iterate 2 walk_at "STEP"
              (rename Fr _ _ _ _ => lF)
              (rename News _ _ _ _ => lN)
              (rename Lo tk _ => lLo)
              have hql : (strValues qs).length ≤ 40 := by
                unfold strValues
                have := congrArg List.length q1
                rw [List.length_map] at this ⊢
                omega
              have hqe : (strValues qs).length = (wrds FF).length := by
                unfold strValues
                have := congrArg List.length q1
                rw [List.length_map] at this ⊢
                exact this
              refine go_list (fun j ys tk' => tk ≤ tk' ∧ TI tk' ys ∧ IntsAre ys (((wrds FF).take j).map fun x => (((sev bs.toNat).idxOf x : Nat) : Int))) lF lN (by walk_at "MEMB") (Nat.le_trans hql (by rw [sizeLine_eq]; decide)) ⟨lo_le lLo (by walk_at "LOLE"), (fun v hv => nomatch hv), .nil⟩ (by rfl) (by decide) (by rfl) (by rfl) ?_ ?_
              · rintro s₂ ⟨hp2, rfl⟩ j v ys oJ Ij C oC D m₂ hs2 tk₃ tk₄ hj hv htk4 ⟨hJ1, hJ2, hJ3⟩ hoC hm₂ F₁ N₁ off hne
                clear lF lN lLo
                obtain ⟨q, hq1, rfl⟩ := strs_at hv
                have hqw : (wrds FF)[j]? = some q.1 := by rw [← q1, List.getElem?_map, hq1]; rfl
                have hqt := q2 q (List.mem_of_getElem? hq1)
                have hix : 0 ≤ (((sev bs.toNat).idxOf q.1 : Nat) : Int) ∧ (((sev bs.toNat).idxOf q.1 : Nat) : Int) ≤ 6 := by
                  have hm : ((wrds FF).map fun x => (((sev bs.toNat).idxOf x : Nat) : Int))[j]? = some (((sev bs.toNat).idxOf q.1 : Nat) : Int) := by rw [List.getElem?_map, hqw]; rfl
                  rw [f7b] at hm
                  exact ⟨Int.natCast_nonneg _, Int.le_of_lt_add_one (ready_rng (List.mem_of_getElem? hm)).2⟩
                iterate 10 walk_at "STEP"
                refine indexOf_c (by k_asm) (by k_asm) (by k_asm) (by k_asm) (by k_asm) (by rfl) (by walk_at "MEMB") (hTS q.1 q.2 hqt.2) (f7c _ (List.mem_of_getElem? hqw)) hqt.1 (by ktr_room) (by ktr_units) ?_
                intro tx hX tkX b1 b2 FX NX
                refine EltF.intro FX NX fun hle => ⟨Nat.le_trans hJ1 (Nat.le_trans htk4 hle), TI.snoc (hJ2.mono (Nat.le_trans htk4 hle)) (Nat.ne_of_gt (Nat.lt_of_lt_of_le (by omega : 0 < tk) (Nat.le_trans hJ1 (Nat.le_trans htk4 b1)))) b2 (small6 hix), ints_takeS hJ3 hqw⟩
              · rintro hl hvs hs2 tk₃ tk₄ htk₄ ⟨hI3, hI4, hI5⟩ F₁ N₁ off₃
                clear lF lN lLo
                rw [hqe, List.take_of_length_le (Nat.le_refl _), f7b] at hI5
                k_lt off₃
                dsimp only
                have lLo : Lo tk tk₄ := Nat.le_trans hI3 htk₄
                iterate 2 walk_at "STEP"
                refine execs_cons_lo (b := tk₃) (a := tk₄) htk₄ (by walk_at "LOLE") ?_
                intro tkH hLoH
                iterate 17 walk_at "STEP"
                rw [decide_eq_false hre]
                obtain ⟨th, hth⟩ := first_int hI5 hre
                obtain ⟨hvne, tl, htl⟩ := last_int hI5 hre
                iterate 6 walk_at "STEP"
                have hpk : pick odd i (ready hh) = if (0 + (i : Int) = odd) then (ready hh).getLastD 0 else (ready hh).headD 0 := by
                  unfold pick
                  rw [Int.zero_add]
                have hpm := pick_mem (odd := odd) (t := (i : Int)) hre
                have hgo := run_go (odd := odd) (es := es) (a := ai) hi hre
                rw [g2] at hgo
                generalize pick odd (i : Int) (ready hh) = p at hpk hpm hgo
                generalize (ready hh).headD 0 = q0 at hpk hth hgo
                generalize (ready hh).getLastD 0 = q9 at hpk htl
                have hpa := (ready_mem hpm).2
                have hp7 : 1 ≤ p ∧ p < 7 := ready_rng hpm
                have hmx : 0 ≤ p ∧ p < 2 ^ 62 := ⟨Int.le_trans (by decide) hp7.1, Int.lt_trans hp7.2 (by decide)⟩
                have hez : evs.toArray.size ≤ sizeLine := by
                  rw [List.size_toArray, g6.length, sizeLine_eq]
                  omega
                refine join_keep (fun v => ∃ u, v = .int p u ∧ u ≠ 0 ∧ u < tk₃) ?_ ?_
                · iterate 7 walk_at "STEP"
                  · rw [if_pos (by assumption)] at hpk
                    iterate 5 walk_at "STEP"
                    refine item_last (by k_asm) (by walk_at "MEMB") hvne htl ?_
                    have := hI4.at htl
                    exact ⟨⟨tl, by rw [hpk], this.1, this.2.1⟩, _, by walk_at "LOLE", rfl⟩
                  · rw [if_neg (by assumption)] at hpk
                    iterate 3 walk_at "STEP"
                    refine item_at (by k_asm) (by walk_at "MEMB") (by decide) (by decide) hth ?_
                    have := hI4.at hth
                    exact ⟨⟨th, by rw [hpk], this.1, this.2.1⟩, _, by walk_at "LOLE", rfl⟩
                · rintro v tkp ⟨u, rfl, u1, u2⟩ hle
                  iterate 4 walk_at "STEP"
                  refine join_keep (fun v => v = .bool (ai || p != q0)) ?_ ?_
                  · iterate 4 walk_at "STEP"
                    · rename ai = true => hai
                      exact ⟨by rw [hai, Bool.true_or], _, by walk_at "LOLE", rfl⟩
                    · rename ai = false => hai
                      iterate 6 walk_at "STEP"
                      refine item_at (by k_asm) (by walk_at "MEMB") (by decide) (by decide) hth ?_
                      iterate 1 walk_at "STEP"
                      exact ⟨by rw [hai, Bool.false_or], _, by walk_at "LOLE", rfl⟩
                  · rintro v tkq rfl hleq
                    have hmy := pow2p hp7
                    iterate 29 walk_at "STEP"
                    iterate 3 walk_at "STEP"
                    iterate 53 walk_at "STEP"
                    (rename Lo tk₃ _ => kLo)
                    (rename Fr _ _ _ _ => kF)
                    (rename News _ _ _ _ => kN)
                    (rename _ = Data.cell _ => kE)
                    rw [sow_enc g3 hp7 hpa] at kE
                    rw [List.push_toArray] at kN
                    have hle3 : tk₃ ≤ _ := kLo
                    have hsf := sow_fair g3 hpm
                    refine ⟨_, _, _, _, rfl, kF, news_four kN (by walk_at "MEMB") (.tail _ ?me) (by walk_at "MEMB") ?mn fun p hp => ?mr, off_three off, sow hh p, es ++ [p], ai || p != q0, si - 1, evs ++ [.int p u], ec + 1, _, _, ?tv2, ?rv2, ?wv2, ?hv2, ?ov2,
                      Nat.le_trans hkt (Nat.le_trans hI3 hle3), hgo.symm, hsf.1, ?h7, rfl, kE, g6.append (.cons _ _ .nil), ?ti, ?ln, map_ext [Str.ofString "turn", Str.ofString "ready", Str.ofString "words", Str.ofString "holes", Str.ofString "hole", Str.ofString "astray"] ?m1 ?m2⟩
                    (case me => walk_at "MEMB")
                    (case mn => walk_at "MEMB")
                    (case mr => walk_at "MEMB")
                    (case h7 => rw [hsf.2]; omega)
                    (case ti => exact (g7.mono (Nat.le_trans htk (Nat.le_trans hI3 hle3))).snoc u1 (Nat.lt_of_lt_of_le u2 hle3) (small6 ⟨hmx.1, Int.le_of_lt_add_one hp7.2⟩))
                    (case ln => rw [List.length_append, List.length_singleton]; omega)
                    (case m1 => walk_at "MAPK")
                    (case m2 => walk_at "MAPY")
      · rintro m₁ nx hq tk₀ tk htk ⟨hh, es, ai, si, evs, ec, oM, nt', tv, rv, wv, hv, ov, g1, g2, g3, g4, rfl, g5, g6, g7, g8, rfl⟩ F₁ N₁
        clear lF lN lR lLo
        have hLo : Lo tk tk := Nat.le_refl _
        have g2' : (hh, es, ai) = run odd 16 0 h [] false := g2
        iterate 1 walk_at "STEP"
        (rename Lo tk _ => lT)
        have lT2 := lT
        iterate 14 walk_at "STEP"
        (rename Lo tk _ => lT)
        (rename Fr h₀ L _ _ => kF)
        (rename News h₀ L _ _ => kN)
        refine ret _ el evs ec nt' _ _ (by rw [← g2']; exact g6) (g7.mono (Nat.le_trans htk (lo_le lT (Nat.le_refl _)))) (fun p hp => Nat.lt_trans (l1 p hp) (by omega)) (by omega) kF ?_
        rw [← g2']
        exact news_sub2 kN (.head _) (by walk_at "MEMB") fun p hp => by walk_at "MEMB"
end

end part60
section part70
section
variable {w : World} {p : Program} {loose : List Str} {mean : ExcName → Option Value} {mg mb : Str → Option Value} {s : Shared} {Q E : Value → Shared → Prop}
theorem news_skip1 {h₀ h : Heap} {L : Addr} {a b : Addr × Obj} {rest : List (Addr × Obj)} (N : News h₀ L h (a :: b :: rest)) : News h₀ L h (a :: rest) := fun p hp => by
  rcases List.mem_cons.mp hp with rfl | hp
  · exact N _ (.head _)
  · exact N p (.tail _ (.tail _ hp))
theorem ints4 {ys : List Value} {a b c d : Int} (h : IntsAre ys [a, b, c, d]) : ∃ t0 t1 t2 t3, ys = [.int a t0, .int b t1, .int c t2, .int d t3] := by
  cases h with
  | cons _ t0 h =>
    cases h with
    | cons _ t1 h =>
      cases h with
      | cons _ t2 h =>
        cases h with
        | cons _ t3 h =>
          cases h
          exact ⟨t0, t1, t2, t3, rfl⟩
theorem fm6 (a : Int) : 0 ≤ a.fmod (10 ^ Int.toNat 6) ∧ a.fmod (10 ^ Int.toNat 6) < 1000000 := by
  have e : (10 : Int) ^ Int.toNat 6 = 1000000 := by decide
  rw [e, Int.fmod_eq_emod_of_nonneg _ (by decide)]
  omega
local macro_rules | `(tactic| walk_at "subscriptTail") => `(tactic| (k_here; (with_reducible show wpAny _ _ (subscriptTail _ _ (Value.ref _) (Value.int _ _)) _ _ _); k_dflt (refine item_at (by k_asm) (by walk_at "MEMB") (by decide) (by decide) (by exact rfl) ?_)))
local macro_rules | `(tactic| walk_at "binaryOp Mult str int") => `(tactic| (k_here; k_dflt (refine mul_sign (by first | exact sp_cps | exact tab_cps) (by omega) ?_); intro yM tM kM hyM))
local macro_rules | `(tactic| walk_at "TEXT") => `(tactic| first | with_reducible assumption | exact tab_list | exact end_list)
local macro_rules | `(tactic| walk_at "binaryOp Add str str") => `(tactic| (k_here; k_dflt (refine add_text (by walk_at "TEXT") (by walk_at "TEXT") (by simp only [List.length_append, List.length_replicate, List.length_cons, List.length_nil]; omega) ?_); intro yA tA kA hyA))
local macro_rules | `(tactic| walk_at "SUBL") => `(tactic| (repeat (first | exact List.forall_mem_nil _ | refine List.forall_mem_cons.mpr ⟨by walk_at "MEMB", ?_⟩)))
theorem counts_eq (s : Nat) (hs : s < 16) {f : Int} (hf : 0 ≤ f) : ((List.range 6).map fun j : Nat => (((run (-1) 16 0 (bd (s : Int) f) [] false).2.1.count (1 + (j : Int) * 1) : Nat) : Int)) =
    (List.range 6).map fun j : Nat => (blk (s : Int) (j + 1)).fdiv (1 + (j : Int) * 1) - (blk (s : Int) (j + 2)).fdiv (1 + (j : Int) * 1 + 1) := by
  refine List.map_congr_left fun j hj => ?_
  have hj6 : j < 6 := by simpa using hj
  have k := told_counts s hs hf (j + 1) (by omega) (by omega)
  have e : (1 + (j : Int) * 1) = ((j + 1 : Nat) : Int) := by omega
  rw [e, k, Int.fdiv_eq_ediv_of_nonneg _ (by omega), Int.fdiv_eq_ediv_of_nonneg _ (by omega)]
theorem q_true {Q : Value → Shared → Prop} {b : Bool} {s' : Shared} (hb : b = true) (h : Q (.bool true) s') : Q (.bool b) s' := hb ▸ h
theorem e64 {f s : Int} : f + s + f * 64 ^ Int.toNat 7 = f + s + 4398046511104 * f := by
  rw [show (64 : Int) ^ Int.toNat 7 = 4398046511104 from by decide]
  omega
theorem end_yes {le f s : Int} {P : Prop} {lost : Bool} (hlaw : le = f + s + 4398046511104 * f ↔ (P ∧ lost = false)) (hp : P) : ((le == f + s + f * 64 ^ Int.toNat 7) == !lost) = true := by
  rw [e64]
  by_cases hle : le = f + s + 4398046511104 * f
  · have := (hlaw.mp hle).2
    simp [hle, this]
  · have : lost = true := by
      cases lost
      · exact absurd (hlaw.mpr ⟨hp, rfl⟩) hle
      · rfl
    simp [hle, this]
theorem end_no {le f s : Int} {P : Prop} {lost : Bool} (hlaw : le = f + s + 4398046511104 * f ↔ (P ∧ lost = false)) (hp : ¬ P) : ((le == f + s + f * 64 ^ Int.toNat 7) == false) = true := by
  rw [e64]
  by_cases hle : le = f + s + 4398046511104 * f
  · exact absurd (hlaw.mp hle).1 hp
  · simp [hle]
theorem law_c {l : Addr} {vs : List Value} {ns : List Int} (X : (Mine.hd.heap_39 w.params).In s.heap) (T : Top p loose mean mg mb s.heap) (hl : s.heap.IsList l vs.toArray) (hi : IntsAre vs ns) (hlen : ns.length ≤ 63) (htk : 449 ≤ s.toks)
    (ret : ∀ h' tk', (∀ b o, s.heap.get? b = some o → h'.get? b = some o) → Q (.bool true) { s with heap := h', toks := tk' }) :
    wpAny (model PySem.Challenge.rw_wj0037_01.row.prog w) callerA (call (.ref 182) [.ref l]) Q E s := by
  k_dflt (refine' top_enter ?k1 ?k2 ?k6 ?k7 ?k9 ?kB ?kD ?_ ?c2 ?c3 ?c4; (case k1 => k_asm); (case k2 => k_asm); (case k6 => k_is); (case k7 => k_is); (case k9 => exact BindsTo.of_eq rfl); (case kB => exact rfl); (case kD => decide +kernel); (case c2 => exact rfl); (case c3 => exact rfl); (case c4 => exact rfl); k_whole; intro L' h' tk' cells' hle0 F' N' Y' B'; k_cells Y'; (try simp only [List.cons_append, List.nil_append] at N'); (try dsimp only); (try k_fold))
  have lLo : Lo 449 tk' := Nat.le_trans htk hle0
  (rename Fr _ _ _ _ => lF)
  replace lF := fr_map (m' := fun _ => none) lF (fun y => by with_unfolding_all rfl)
  iterate 1 walk_at "STEP"
  k_dflt (refine comp_pa lF (by with_unfolding_all rfl) (by with_unfolding_all rfl) (by rfl) (by decide) (by rfl) (by rfl) ?_)
  iterate 16 walk_at "STEP"
  (rename Fr _ _ _ _ => lF)
  (rename News _ _ _ _ => lN)
  refine go_enum (vs := [_, _, _, _]) (fun i ys _ => ∃ ds : List Int, IntsAre ys ds ∧ ds.length = i ∧ ∀ d ∈ ds, 0 ≤ d ∧ d < 1000000) lF lN (.head _) (by rw [sizeLine_eq]; exact (by decide : 4 ≤ 16777216)) ⟨[], .nil, rfl, fun d hd => nomatch hd⟩ (by rfl) (by decide) (by rfl) (by rfl) (by rfl) (by decide) ?_ ?_
  · rintro s₂ ⟨hp, rfl⟩ i t v ys C oC D m₂ hq tk₀ tk e oE it oI hv htk2 ⟨ds, hds, hdl, hdb⟩ hoC hmi hmc F₁ N₁ hltD hDC
    clear lF lN
    obtain ⟨st, t', rfl⟩ : ∃ st t', v = .int st t' := by
      match i, hv with
      | 0, hv => exact ⟨_, _, (Option.some.inj hv).symm⟩
      | 1, hv => exact ⟨_, _, (Option.some.inj hv).symm⟩
      | 2, hv => exact ⟨_, _, (Option.some.inj hv).symm⟩
      | 3, hv => exact ⟨_, _, (Option.some.inj hv).symm⟩
      | n + 4, hv => simp at hv
    have hi4 : (0 : Int) ≤ (i : Int) := by omega
    k_lt hltD
    iterate 15 walk_at "STEP"
    k_dflt (refine' kmk_slice3_lit (st := some 4) (its := vs.toArray) ?yF ?yN ?yl ?yp ?yq ?yk ?yo rfl ?_ ?ys ?yt ?yz; (case yF => k_asm); (case yN => k_asm); (case yl => exact Fr.lst (by k_asm) hl); (case yp => kmk_part); (case yq => kmk_part); (case yk => kmk_part); (case yo => decide); (case ys => with_unfolding_all rfl); (case yt => kmk_pure); (case yz => rw [List.size_toArray, hi.length, sizeLine_eq]; omega))
    intro DS hS FS NS ltS
    clear ltS
    iterate 1 walk_at "STEP"
    refine sumK (by rfl) FS NS (News.isList NS (.head _)) (hi.pick _ _ _) ?_
    intro hS2 tkS tS FS2 NS2
    clear FS NS
    replace NS2 := news_tail NS2
    iterate 6 walk_at "STEP"
    refine EltF.intro (by k_asm) (by k_asm) fun _ => ⟨ds ++ [_], hds.append (.cons _ _ .nil), by rw [List.length_append, hdl]; rfl, fun d hd => ?_⟩
    rcases List.mem_append.mp hd with hd | hd
    · exact hdb d hd
    · rw [List.mem_singleton.mp hd]
      exact fm6 _
  · rintro D ys hq tk₀ tk htk3 ⟨ds, hds, hdl, hdb⟩ F₁ N₁ hltD
    clear lF lN
    k_lt hltD
    obtain ⟨d0, d1, d2, d3, rfl⟩ : ∃ d0 d1 d2 d3, ds = [d0, d1, d2, d3] := by
      match ds, hdl with
      | [d0, d1, d2, d3], _ => exact ⟨d0, d1, d2, d3, rfl⟩
    obtain ⟨t0, t1, t2, t3, rfl⟩ := ints4 hds
    have b0 := hdb d0 (by simp)
    have b1 := hdb d1 (by simp)
    have b2 := hdb d2 (by simp)
    have b3 := hdb d3 (by simp)
    clear hdb hds hdl
    replace N₁ := news_skip1 N₁
    iterate 78 walk_at "STEP"
    (rename Fr _ _ _ _ => lF)
    (rename News _ _ _ _ => lN)
    (rename Lo _ _ => lLo)
    obtain ⟨bl, oS, oB, oE, tF, tH, tA, tb, tS, tS2, hbl1, hbl2, eS, eB, eE, lF, lN⟩ : ∃ bl oS oB oE tF tH tA tb tS tS2, @LT.lt Nat _ D bl ∧ @LT.lt Nat _ (L' + 1 + 1 + 1) bl ∧ oS.data = Data.cell (some (.ref l)) ∧ oB.data = Data.cell (some (.ref bl)) ∧ oE.data = Data.cell none ∧
        Fr _ _ _ (fun y => if y = Str.ofString "first" then some (.int ((d3.fdiv 16).fmod 49) tF) else if y = Str.ofString "behind" then some (.int ((d0.fdiv 288).fmod 3) tH) else if y = Str.ofString "ahead" then some (.int ((d0.fdiv 96).fmod 3) tA) else
          if y = Str.ofString "base" then some (.int ((d0.fdiv 16).fmod 6) tb) else if y = Str.ofString "stones" then some (.int (d0.fmod 16) tS) else if y = Str.ofString "drawn" then some (.ref D) else none) ∧
        News _ _ _ [(bl, W.listOf #[.int (d0.fmod 16) tS2] 0), (D, W.listOf #[.int d0 t0, .int d1 t1, .int d2 t2, .int d3 t3] 4), (L' + 1 + 1 + 1, oE), (L' + 1 + 1, oB), (L' + 1, oS)] :=
      ⟨_, _, _, _, _, _, _, _, _, _, by omega, by omega, by with_unfolding_all assumption, by with_unfolding_all assumption, by with_unfolding_all assumption, lF, lN⟩
    have hS : d0.fmod 16 = (((d0 % 16).toNat : Nat) : Int) := by rw [Int.fmod_eq_emod_of_nonneg _ (by decide)]; omega
    have hA : (d0.fdiv 96).fmod 3 = (((d0 / 96 % 3).toNat : Nat) : Int) := by rw [Int.fmod_eq_emod_of_nonneg _ (by decide), Int.fdiv_eq_ediv_of_nonneg _ (by decide)]; omega
    have hH : (d0.fdiv 288).fmod 3 = (((d0 / 288 % 3).toNat : Nat) : Int) := by rw [Int.fmod_eq_emod_of_nonneg _ (by decide), Int.fdiv_eq_ediv_of_nonneg _ (by decide)]; omega
    have hbs : 0 ≤ (d0.fdiv 16).fmod 6 ∧ (d0.fdiv 16).fmod 6 < 6 := by rw [Int.fmod_eq_emod_of_nonneg _ (by decide)]; omega
    have hff : 0 ≤ (d3.fdiv 16).fmod 49 ∧ (d3.fdiv 16).fmod 49 < 49 := by rw [Int.fmod_eq_emod_of_nonneg _ (by decide)]; omega
    have hsn : (d0 % 16).toNat < 16 := by omega
    have han : (d0 / 96 % 3).toNat < 3 := by omega
    have hhn : (d0 / 288 % 3).toNat < 3 := by omega
    rw [hS, hA, hH] at lF
    rw [hS] at lN
    clear hS hA hH
    generalize (d0 % 16).toNat = sn at lF lN hsn
    generalize (d0 / 96 % 3).toNat = an at lF han
    generalize (d0 / 288 % 3).toNat = hn at lF hhn
    generalize (d0.fdiv 16).fmod 6 = bs at lF hbs
    generalize (d3.fdiv 16).fmod 49 = f at lF hff
    (with_unfolding_all refine for_range lF (by rfl) (by rfl) (by rfl) ?_)
    refine lo_rule lLo (by walk_at "LOLE") ?_
    iterate 10 walk_at "STEP"
    (rename Lo _ _ => lLo)
    (rename IsRange _ _ _ _ _ _ _ _ => lR)
    (rename Fr _ _ _ _ => lF)
    (rename News _ _ _ _ => lN)
    refine ⟨_, 1, 8, 7, _, _, _, _, _, fun i mm nx tk => ∃ bvs bc wv sv, Lo 449 tk ∧ nx = [(bl, W.listOf (List.toArray bvs) bc), (D, W.listOf #[.int d0 t0, .int d1 t1, .int d2 t2, .int d3 t3] 4), (L' + 1 + 1 + 1, oE), (L' + 1 + 1, oB), (L' + 1, oS)] ∧
        IntsAre bvs ((List.range (i + 1)).map (blk (sn : Int))) ∧
        mm = (fun y => if y = Str.ofString "white" then wv else if y = Str.ofString "size" then sv else if y = Str.ofString "first" then some (.int f tF) else if y = Str.ofString "behind" then some (.int (hn : Nat) tH) else if y = Str.ofString "ahead" then some (.int (an : Nat) tA) else
          if y = Str.ofString "base" then some (.int bs tb) else if y = Str.ofString "stones" then some (.int (sn : Nat) tS) else if y = Str.ofString "drawn" then some (.ref D) else none), rfl, lR, by rfl, by rfl, lF, lN, ?_, ?_, ?_⟩
    · refine ⟨[.int (sn : Nat) tS2], 0, ?wv0, ?sv0, lLo, rfl, .cons _ _ .nil, map_ext [Str.ofString "white", Str.ofString "size"] ?m1 ?m2⟩
      (case m1 => walk_at "MAPK")
      (case m2 => walk_at "MAPY")
    · rintro I i t m₁ nx oI hq tk₀ tk hi' htk4 ⟨bvs, bc, wv, sv, g1, rfl, g2, rfl⟩ off F₁ N₁
      clear lF lN lR lLo
      have hLo : Lo 449 tk := Nat.le_trans g1 htk4
      have hIb : @Ne Nat bl I := off _ (.head _)
      have hlast := last_int g2 (by rw [List.range_succ, List.map_append]; simp)
      rw [show ((List.range (i + 1)).map (blk (sn : Int))).getLastD 0 = blk (sn : Int) i from by rw [List.range_succ, List.map_append]; simp] at hlast
      obtain ⟨c, hc, hcs⟩ := blk_nat sn i
      rw [hc] at hlast
      obtain ⟨hvne, tl, htl⟩ := hlast
      iterate 23 walk_at "STEP"
      k_dflt (refine item_last (by k_asm) (by walk_at "MEMB") hvne htl ?_)
      iterate 20 walk_at "STEP"
      (rename _ = _ ++ [120, 32, 9] => hz)
      rw [white_is] at hz
      obtain ⟨cnt, mm, hrun, hws⟩ := preOf_run (1 + (i : Int)) an c sn hn
      refine ws_c (by k_asm) (by k_asm) (by k_asm) (by k_asm) (by k_asm) (by rfl) hz (preOf_white _ _ _ _) (white_all _ _ _ _ _ hz) (by rw [preOf_len]; omega) (by ktr_room) (by ktr_units) ?_
      rw [hrun]
      intro x d DD U wvs k1 k2 k3 k4 k5 tn tt bt bsb hW tkW hIv hl1 hl2 hl3 hl4 FW NW
      simp only [wsL, List.cons_append, List.nil_append] at NW
      k_lt hl1
      k_lt2 hl2
      k_lt2 hl3
      k_lt2 hl4
      have hcl := wsRun_b (preOf an c sn hn)
      rw [hrun, preOf_len] at hcl
      have hbz : bvs.toArray.size ≤ sizeLine := by
        rw [List.size_toArray, g2.length, List.length_map, List.length_range, sizeLine_eq]
        omega
      iterate 21 walk_at "STEP"
      (rename News _ _ _ _ => kN)
      refine indent_c (by k_asm) (by k_asm) (by k_asm) kN (by k_asm) (by rfl) hIv (by omega) (by dsimp only at hcl ⊢; omega) (by ktr_room) (by ktr_units) ?_
      rw [il_wsum (by omega), hws]
      intro ti hI tkI FI NI
      simp only [wsL, List.cons_append, List.nil_append] at NI
      clear kN
      iterate 25 walk_at "STEP"
      (rename Fr _ _ _ _ => kF)
      (rename News _ _ _ _ => kN)
      (rename Lo 449 _ => kLo)
      rw [List.push_toArray] at kN
      have hval : (hn : Int) + (1 + (i : Int)) * ((c : Int) / (1 + (i : Int)) + (sn : Int) / (1 + (i : Int)) + ((an : Int) + 2)) - ((1 + (i : Int)) * ((an : Int) + 2 + (sn : Int).fdiv (1 + (i : Int))) + (hn : Int)) = blk (sn : Int) (i + 1) := by
        show _ = ((i : Int) + 1) * (blk (sn : Int) i / ((i : Int) + 1))
        rw [hc, Int.fdiv_eq_ediv_of_nonneg _ (by omega), Int.add_comm (i : Int) 1]
        exact white_val
      rw [hval] at kN
      refine ⟨_, _, _, _, rfl, kF, news_bl kN, off_head off, _, _, ?wv2, ?sv2, kLo, rfl, ints_range g2 rfl, map_ext [Str.ofString "white", Str.ofString "size"] ?n1 ?n2⟩
      (case n1 => walk_at "MAPK")
      (case n2 => walk_at "MAPY")
    · rintro m₁ nx hq tk₀ tk htk4 ⟨bvs, bc, wv, sv, g1, rfl, g2, rfl⟩ F₁ N₁
      clear lF lN lR lLo
      have hLo : Lo 449 tk := Nat.le_trans g1 htk4
      iterate 20 walk_at "STEP"
      (rename IsRange _ _ _ _ _ _ _ _ => lR)
      (rename Fr _ _ _ _ => lF)
      (rename News _ _ _ _ => lN)
      refine go_range 6 (fun j ys _ => IntsAre ys ((List.range j).map fun j => blk (sn : Int) (j + 1) - blk (sn : Int) (j + 2))) lR lF lN (by rfl) (by rfl) (by decide) .nil (by rfl) (by decide) (by rfl) (by rfl) ?_ ?_
      · rintro s₂ ⟨hp2, rfl⟩ j v ys oJ Ij C oC DD m₂ hr tk₁ tk₂ hj rfl htk5 hJ hoC hm₂ F₁ N₁ off hne
        clear lF lN lR
        obtain ⟨k, hk⟩ : ∃ k : Int, 1 + (j : Int) * 1 = k := ⟨_, rfl⟩
        rw [hk] at hm₂
        have hk7 : 1 ≤ k ∧ k < 7 := by omega
        iterate 8 walk_at "STEP"
        refine ksa_sub (by k_asm) (by walk_at "MEMB") g2 (by omega) (by rw [List.length_map, List.length_range]; omega) (by omega) ?_
        intro tb1
        rw [map_get (by omega)]
        iterate 7 walk_at "STEP"
        refine ksa_sub (by k_asm) (by walk_at "MEMB") g2 (by omega) (by rw [List.length_map, List.length_range]; omega) (by omega) ?_
        intro tb2
        rw [map_get (by omega)]
        iterate 3 walk_at "STEP"
        refine EltF.intro (by k_asm) (by k_asm) fun _ => ints_range hJ ?_
        have e1 : k.toNat = j + 1 := by omega
        have e2 : (k + 1).toNat = j + 2 := by omega
        rw [e1, e2]
      · rintro rl rvs hr tk₁ tk₂ htk₂ hI F₁ N₁ off₁
        clear lF lN lR
        k_lt off₁
        dsimp only
        iterate 41 walk_at "STEP"
        (rename IntsAre _ ([f] ++ _ ++ _) => lI)
        replace lI : IntsAre _ (bd (sn : Int) f) := lI
        have hbd := bd_fairf sn hsn hff.1
        (rename Lo 449 _ => lLo)
        (rename News _ _ _ _ => lN)
        refine lo_rule lLo (by walk_at "LOLE") ?_
        refine played_c (by k_asm) (by k_asm) (by k_asm) lN (by k_asm) (by rfl) (by walk_at "MEMB") lI hbd (by omega) hff rfl hbs (lo_le lLo (by walk_at "LOLE")) (by ktr_room) (by ktr_units) ?_
        intro D2 el evs ec nt hP tkP p1 p2 p3 p4 FP NP hLP
        replace hLP : 449 ≤ tkP := hLP
        rw [told_law sn hsn hff] at NP
        k_lt p3
        iterate 12 walk_at "STEP"
        refine execs_cons_lo (b := tkP + 1) (a := tkP + 1) (Nat.le_refl _) (by walk_at "LOLE") ?_
        intro tkC lLoC
        iterate 7 walk_at "STEP"
        · exfalso
          have e64 : (64 : Int) ^ Int.toNat 7 = 4398046511104 := by decide
          (rename (_ : Int) ≠ _ => hne)
          rw [e64] at hne
          omega
        iterate 6 walk_at "STEP"
        (rename Lo (tkP + 1) _ => lLo)
        refine lo_rule lLo (by walk_at "LOLE") ?_
        iterate 10 walk_at "STEP"
        (rename IsRange _ _ _ _ _ _ _ _ => lR)
        (rename Fr _ _ _ _ => lF)
        (rename News _ _ _ _ => lN)
        (rename Lo (tkP + 1) _ => lLo)
        have p2' : TI (tkP + 1) evs := p2.mono (Nat.le_succ _)
        have hcq := counts_eq sn hsn (f := f) hff.1
        generalize (run (-1) 16 0 (bd (sn : Int) f) [] false).2.1 = es at p1 hcq
        refine go_range 6 (fun j ys tk => tkP + 1 ≤ tk ∧ IntsAre ys ((List.range j).map fun j : Nat => ((es.count (1 + (j : Int) * 1) : Nat) : Int))) lR lF lN (by rfl) (by rfl) (by decide) ⟨lo_le lLo (by walk_at "LOLE"), .nil⟩ (by rfl) (by decide) (by rfl) (by rfl) ?_ ?_
        · rintro s₂ ⟨hp2, rfl⟩ j v ys oJ Ij C oC DD m₂ hr tk₁ tk₂ hj rfl htk5 ⟨hJ0, hJ⟩ hoC hm₂ F₁ N₁ off hne
          clear lF lN lR
          iterate 10 walk_at "STEP"
          refine countOf_c (by k_asm) (by k_asm) (by k_asm) (by k_asm) (by k_asm) (by rfl) (by walk_at "MEMB") p1 p2' hJ0 (Nat.ne_of_gt (Nat.lt_of_lt_of_le (Nat.succ_pos _) hJ0)) (by ktr_room) (by ktr_units) ?_
          intro tc hC tkC FC NC
          exact EltF.intro FC NC fun hle => ⟨Nat.le_trans hJ0 (Nat.le_trans htk5 hle), ints_range hJ rfl⟩
        · rintro cl cvs hr tk₁ tk₂ htk₂ ⟨hc0, hIc⟩ F₁ N₁ off₂
          clear lF lN lR
          k_lt off₂
          dsimp only
          iterate 10 walk_at "STEP"
          (rename IsRange _ _ _ _ _ _ _ _ => lR)
          (rename Fr _ _ _ _ => lF)
          (rename News _ _ _ _ => lN)
          refine go_range 6 (fun j ys _ => IntsAre ys ((List.range j).map fun j : Nat => (blk (sn : Int) (j + 1)).fdiv (1 + (j : Int) * 1) - (blk (sn : Int) (j + 2)).fdiv (1 + (j : Int) * 1 + 1))) lR lF lN (by rfl) (by rfl) (by decide) .nil (by rfl) (by decide) (by rfl) (by rfl) ?_ ?_
          · rintro s₂ ⟨hp2, rfl⟩ j v ys oJ Ij C oC DD m₂ hr tk₁ tk₂ hj rfl htk5 hJ hoC hm₂ F₁ N₁ off hne
            clear lF lN lR
            have e1 : (1 + (j : Int) * 1).toNat = j + 1 := by omega
            have e2 : (1 + (j : Int) * 1 + 1).toNat = j + 2 := by omega
            iterate 5 walk_at "STEP"
            refine ksa_sub (by k_asm) (by walk_at "MEMB") g2 (by omega) (by rw [List.length_map, List.length_range]; omega) (by omega) ?_
            intro tb1
            rw [map_get (by omega), e1]
            iterate 9 walk_at "STEP"
            refine ksa_sub (by k_asm) (by walk_at "MEMB") g2 (by omega) (by rw [List.length_map, List.length_range]; omega) (by omega) ?_
            intro tb2
            rw [map_get (by omega), e2]
            iterate 6 walk_at "STEP"
            exact EltF.intro (by k_asm) (by k_asm) fun _ => ints_range hJ rfl
          · rintro el2 evs2 hr tk₁ tk₂ htk₂ hIe F₁ N₁ off₃
            clear lF lN lR
            k_lt off₃
            dsimp only
            iterate 25 walk_at "STEP"
            (rename Lo (tkP + 1) _ => lLo2)
            refine changed_c (by k_asm) (by k_asm) (by k_asm) (by k_asm) (by k_asm) (by rfl) (by walk_at "MEMB") (.head _) lI (.cons _ _ (.cons _ _ .nil)) hbd (by simp only [List.forall_mem_cons, List.not_mem_nil, false_implies, implies_true, and_true]; exact ⟨b1, b2⟩) (by omega) (by ktr_room) (by ktr_units) ?_
            intro ol ovs on oh hO tkO oI' oF oA oL FO NO
            k_lt oL
            iterate 21 walk_at "STEP"
            (rename Lo (tkP + 1) _ => lLo2)
            (rename News _ _ _ _ => lN)
            have hodd : at' oh 0 = f := oA.trans rfl
            refine played_c (by k_asm) (by k_asm) (by k_asm) lN (by k_asm) (by rfl) (by walk_at "MEMB") oI' oF (by omega) hff hodd hbs (Nat.le_trans (Nat.le_succ_of_le hLP) (lo_le lLo2 (by walk_at "LOLE"))) (by ktr_room) (by ktr_units) ?_
            intro D3 el3 evs3 ec3 nt3 hP3 tkP3 r1 r2 r3 r4 FP3 NP3
            have hlaw := other_law (d3.fmod 16) sn hsn hff oF hodd
            obtain ⟨s', hF', hE'⟩ := run_fair (d3.fmod 16) 16 0 oh [] false _ oF
            have hnn := fair_enc0 hF' hff.1
            clear hF' hE' r1 r2
            rw [show ([d0, d1, d2, d3] : List Int).getD (Int.toNat 3) 0 = d3 from rfl] at NP3
            generalize enc (run (d3.fmod 16) 16 0 oh [] false).1 = le at hlaw hnn NP3
            generalize (run (d3.fmod 16) 16 0 oh [] false).2.2 = lost at hlaw NP3
            k_lt r3
            iterate 20 walk_at "STEP"
            iterate 16 walk_at "STEP"
            · iterate 6 walk_at "STEP"
              intro _
              (rename Fr _ _ _ _ => kF)
              exact q_true (end_yes hlaw (by assumption)) (ret _ _ kF.keep)
            · iterate 2 walk_at "STEP"
              (rename Fr _ _ _ _ => kF)
              refine q_true ?_ (ret _ _ kF.keep)
              rw [decide_eq_false (by assumption : ¬ oh = bd (sn : Int) f)]
              exact end_no hlaw (by assumption)
end

end part70
end Mine
namespace Mine
noncomputable def strQ (s : String) : Str := ⟨((PySem.W.S.toListS s).map Char.toNat).toArray⟩
theorem strQ_eq : @Str.ofString = strQ := by
  rw [Str.ofString_eq_byList]
  funext s
  unfold Str.ofStringByList strQ
  rw [PySem.W.S.toListS_eq]
noncomputable def viewF (p : Program) : Program := { p with main := { p.main with body := (((p.main.body.eraseIdx 17).eraseIdx 7).eraseIdx 3).eraseIdx 1 } }
noncomputable def looseF (S : String → Str) : List Str := [S "Whitespace", S "COMPILER_FLAG_NAMES"]
noncomputable def obs (s : Shared) : List (Option Obj) × Nat := (addrs.map s.heap.get?, s.toks)
noncomputable def val (w : World) : List (Option Obj) × Nat := ((hd.heap_39 w.params).map fun p => some p.2, 449)
theorem looked : (PySem.Challenge.rw_wj0037_01.row.wellSaid = true → PySem.Challenge.rw_wj0037_01.row.Holds) → PySem.Challenge.rw_wj0037_01.Holds := by
  intro h
  o_law
  exact h (by assumption)
/-- the run of the top as it is reckoned: by the twins -/
noncomputable def Ran (w : World) : Prop := ((openEnds PySem.W.Fast.tw14364793385576792824 PySem.W.Fast.tw18026177690787254005 w 2360).map fun s =>
    (PySem.W.Fast.tw4187177175401517315 (viewF PySem.W.Fast.tw18026177690787254005) (looseF strQ) (PySem.W.Fast.tw5923862056798008813 PySem.W.Fast.tw18026177690787254005.main.body) (fun s => xlAt (viewF PySem.W.Fast.tw18026177690787254005) [] s && recOk [] s) true s, obs s)) =
    some (openGood (viewF PySem.W.Fast.tw18026177690787254005) (looseF strQ), ((heapF PySem.W.Fast.tw18026177690787254005 strQ w.params).map fun p => some p.2, 449))
theorem ranF (w : World) : Ran (w.withFollow "special-get-raises" false) := by unfold Ran; kernel_rfl
theorem ranT (w : World) : Ran (w.withFollow "special-get-raises" true) := by unfold Ran; kernel_rfl
theorem left : LeftO PySem.Challenge.pw_wj0037_01 (viewF PySem.Challenge.pw_wj0037_01) (looseF Str.ofString) (fun s => xlAt (viewF PySem.Challenge.pw_wj0037_01) [] s && recOk [] s) obs val 2360 true := fun w => by
  have e : Ran w := byRow2 (P := Ran) "special-get-raises" ranF ranT w
  unfold val
  rw [heap_eq, strQ_eq, PySem.W.Fast.te18026177690787254005, PySem.W.Fast.te14364793385576792824, PySem.W.Fast.te4187177175401517315, PySem.W.Fast.te5923862056798008813]
  exact e
theorem left2 : LeftO PySem.Challenge.rw_wj0037_01.row.prog (viewF PySem.Challenge.pw_wj0037_01) (looseF Str.ofString) (fun s => xlAt (viewF PySem.Challenge.pw_wj0037_01) [] s && recOk (RowW.records PySem.Challenge.rw_wj0037_01.row.toRowW) s) obs val 2360 true := by
  have e1 : PySem.Challenge.rw_wj0037_01.row.prog = PySem.Challenge.pw_wj0037_01 := rfl
  have e2 : RowW.records PySem.Challenge.rw_wj0037_01.row.toRowW = [] := rfl
  rw [e1, e2]
  exact left
theorem fact {s : Shared} {w : World} (y : obs s = val w) : (hd.heap_39 w.params).In s.heap ∧ s.toks = 449 := by
  refine ⟨InK.of (K := hd.heap_39) (as := addrs) (fun _ => rfl) w s (congrArg Prod.fst y), congrArg Prod.snd y⟩
end Mine
open PySem.W.X PySem.W.ZRun
theorem PySem.Challenge.cw_wj0037_01_holds : PySem.Challenge.rw_wj0037_01.Holds := by
  w_on
  refine Mine.looked fun said => ?_
  refine holds_openX (r := PySem.Challenge.rw_wj0037_01.row) (q := Mine.viewF PySem.Challenge.pw_wj0037_01) (loose := Mine.looseF Str.ofString) (Xt := fun s => xlAt (Mine.viewF PySem.Challenge.pw_wj0037_01) [] s && recOk (RowW.records PySem.Challenge.rw_wj0037_01.row.toRowW) s) (XP := XL (Mine.viewF PySem.Challenge.pw_wj0037_01) []) (Yf := Mine.obs) (Ya := Mine.val) (N := 2360) ?hl
    (fun s e => xl_of s (Bool.and_eq_true_iff.mp e).1) XL.keeps (by rfl) (by rfl) (by rfl) (fun s e => recFacts_of (Bool.and_eq_true_iff.mp e).2) (by rfl) said (by decide +kernel) ⟨rfl, rfl, rfl, rfl, rfl, by decide +kernel⟩ ?hw ?hc
  (case hl => exact Mine.left2)
  (case hw => w_witness2)
  k_fill
  intro w s₀ s₁ mg mb G y fa o pm cd doc dV kV ho hd hcd hD hmg hg args vals as L hpre hlay hrd hwl hlo
  obtain ⟨KX0, ZT⟩ := Mine.fact y
  have KX := KX0.keeps (Laid.keeps L)
  clear y KX0
  refine Ground.open G ?_
  intro T B D TE TW
  wrow_args hpre hlay hrd hwl hlo
  have htk := script_toks L ZT
  x_fa T KX hmg
  refine Mine.law_c KX T (by assumption) (by assumption) (by omega) htk ?_
  intro h' tk' keep
  refine ⟨.inl ⟨_, _, [], rfl, fun _ => rfl, ReadsW.bool true, ?hp, fun _ => ⟨List.nodup_nil, fun _ hm => nomatch hm⟩⟩, ?old, rfl, .of_eq hg⟩
  case hp => first | rfl | wrow_post
  case old => exact .of_keep keep
