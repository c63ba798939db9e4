import PyProof.Rows.All
import Wide.All
import OpenK.AllK
import Wide.FinOn
import Flt.RightMore
import PySem.Challenge.RW_pe0241_01
open PySem PySem.W PyProof.Rows
set_option Elab.async false
set_option maxRecDepth 100000
set_option maxHeartbeats 8000000
set_option linter.unusedVariables false
namespace Mine
open PySem.Calls
/-! the text's own parts, told by their place -/
noncomputable def nth : List Stmt → Nat → Stmt
  | [], _ => .Pass ⟨0, 0, 0, 0⟩
  | s :: _, 0 => s
  | _ :: l, n + 1 => nth l n
noncomputable def top : List Stmt := PySem.Challenge.pw_pe0241_01.main.body
noncomputable def clsBody : Stmt → List Stmt
  | .ClassDef _ _ _ b _ _ _ _ _ _ _ => b
  | _ => []
noncomputable def pF : Stmt → Arguments
  | .FunctionDef _ p _ _ _ _ _ _ _ _ => p
  | _ => default
noncomputable def bF : Stmt → List Stmt
  | .FunctionDef _ _ b _ _ _ _ _ _ _ => b
  | _ => []
noncomputable def sF : Stmt → Scope
  | .FunctionDef _ _ _ _ _ _ s _ _ _ => s
  | _ => default
noncomputable def keepAt : List Nat → List Stmt → List Stmt
  | [], _ => []
  | i :: l, b => nth b i :: keepAt l b
noncomputable def cellNames : List (Str × NameKind) → List Str → List Str
  | [], acc => acc
  | (n, k) :: r, acc => if k == .cell then cellNames r (n :: acc) else cellNames r acc
theorem cells_nm : ∀ (names : List (Str × NameKind)) (n : Nat) (acc : List (Str × Addr)), (cellsFrom n names acc).map (·.1) = cellNames names (acc.map (·.1))
  | [], _, _ => rfl
  | (x, k) :: r, n, acc => by
    unfold cellsFrom cellNames
    split
    · exact cells_nm r (n + 1) ((x, n) :: acc)
    · exact cells_nm r n acc
theorem cells_nd {names : List (Str × NameKind)} (h : (cellNames names []).Nodup) : ∀ n, ((cellsFrom n names []).map (·.1)).Nodup := fun n => by
  rw [cells_nm]; exact h
noncomputable def heap3 : Params → Frag := fun P =>
  (nat_lit 3, { cls := Value.type "dict", data := Data.dict #[{ hash := PyData.keyHash P (Str.ofString "__name__"), key := Value.str (Str.ofString "__name__") 165, val := Value.str (Str.ofString "law_pe0241_01") 593 }, { hash := PyData.keyHash P (Str.ofString "__doc__"), key := Value.str (Str.ofString "__doc__") 166, val := Value.none }, { hash := PyData.keyHash P (Str.ofString "__package__"), key := Value.str (Str.ofString "__package__") 167, val := Value.none }, { hash := PyData.keyHash P (Str.ofString "__loader__"), key := Value.str (Str.ofString "__loader__") 168, val := Value.builtin "__main__.__loader__#opaque" }, { hash := PyData.keyHash P (Str.ofString "__spec__"), key := Value.str (Str.ofString "__spec__") 169, val := Value.none }, { hash := PyData.keyHash P (Str.ofString "__annotations__"), key := Value.str (Str.ofString "__annotations__") 170, val := Value.ref 6 }, { hash := PyData.keyHash P (Str.ofString "__builtins__"), key := Value.str (Str.ofString "__builtins__") 171, val := Value.ref 4 }, { hash := PyData.keyHash P (Str.ofString "__file__"), key := Value.str (Str.ofString "__file__") 173, val := Value.str (Str.ofString "/claim/cut.py") 172 }, { hash := PyData.keyHash P (Str.ofString "__cached__"), key := Value.str (Str.ofString "__cached__") 174, val := Value.none }, { hash := PyData.keyHash P (Str.ofString "_sre"), key := Value.str (Str.ofString "_sre") 275, val := Value.ref 12 }, { hash := PyData.keyHash P (Str.ofString "_wall"), key := Value.str (Str.ofString "_wall") 288, val := Value.ref 38 }, { hash := PyData.keyHash P (Str.ofString "_name_disallowed_re"), key := Value.str (Str.ofString "_name_disallowed_re") 316, val := Value.ref 43 }, { hash := PyData.keyHash P (Str.ofString "_value_disallowed_re"), key := Value.str (Str.ofString "_value_disallowed_re") 350, val := Value.ref 48 }, { hash := PyData.keyHash P (Str.ofString "Headers"), key := Value.str (Str.ofString "Headers") 507, val := Value.ref 171 }, { hash := PyData.keyHash P (Str.ofString "ONE_THIRD"), key := Value.str (Str.ofString "ONE_THIRD") 513, val := Value.float 4599676419421066581 512 }, { hash := PyData.keyHash P (Str.ofString "ONE_SIXTH"), key := Value.str (Str.ofString "ONE_SIXTH") 517, val := Value.float 4595172819793696085 516 }, { hash := PyData.keyHash P (Str.ofString "TWO_THIRD"), key := Value.str (Str.ofString "TWO_THIRD") 521, val := Value.float 4604180019048437077 520 }, { hash := PyData.keyHash P (Str.ofString "rgb_to_hls"), key := Value.str (Str.ofString "rgb_to_hls") 540, val := Value.ref 182 }, { hash := PyData.keyHash P (Str.ofString "hls_to_rgb"), key := Value.str (Str.ofString "hls_to_rgb") 551, val := Value.ref 189 }, { hash := PyData.keyHash P (Str.ofString "_v"), key := Value.str (Str.ofString "_v") 560, val := Value.ref 196 }, { hash := PyData.keyHash P (Str.ofString "rgb_to_hsv"), key := Value.str (Str.ofString "rgb_to_hsv") 578, val := Value.ref 203 }, { hash := PyData.keyHash P (Str.ofString "hsv_to_rgb"), key := Value.str (Str.ofString "hsv_to_rgb") 592, val := Value.ref 210 }, { hash := PyData.keyHash P (Str.ofString "_law_spot"), key := Value.str (Str.ofString "_law_spot") 604, val := Value.ref 217 }, { hash := PyData.keyHash P (Str.ofString "_law_rounded"), key := Value.str (Str.ofString "_law_rounded") 610, val := Value.ref 222 }, { hash := PyData.keyHash P (Str.ofString "_law_drawn"), key := Value.str (Str.ofString "_law_drawn") 620, val := Value.ref 229 }, { hash := PyData.keyHash P (Str.ofString "_law_turned"), key := Value.str (Str.ofString "_law_turned") 637, val := Value.ref 236 }, { hash := PyData.keyHash P (Str.ofString "_law_read"), key := Value.str (Str.ofString "_law_read") 643, val := Value.ref 241 }, { hash := PyData.keyHash P (Str.ofString "_law_plain"), key := Value.str (Str.ofString "_law_plain") 656, val := Value.ref 248 }, { hash := PyData.keyHash P (Str.ofString "_law_firsts"), key := Value.str (Str.ofString "_law_firsts") 662, val := Value.ref 253 }, { hash := PyData.keyHash P (Str.ofString "law"), key := Value.str (Str.ofString "law") 668, val := Value.ref 258 }] 30 }) ::
  (nat_lit 42, { cls := Value.type "tuple", data := Data.seq #[Value.int 14 0, Value.int 10 0, Value.int 4 0, Value.int 1 0, Value.int 1 0, Value.int 22 0, Value.int 0 0, Value.int 31 0, Value.int 16 0, Value.int 127 0, Value.int 0 0, Value.int 13 0, Value.int 7 0, Value.int 22 0, Value.int 0 0, Value.int 31 0, Value.int 16 0, Value.int 127 0, Value.int 0 0, Value.int 1 0] }) ::
  (nat_lit 43, { cls := Value.type "re.Pattern", data := Data.fields #[Value.str (Str.ofString "[\\x00-\\x1F\\x7F]") 292, Value.int 32 315, Value.int 0 0, Value.none, Value.none, Value.ref 42, Value.int 0 0] }) ::
  (nat_lit 47, { cls := Value.type "tuple", data := Data.seq #[Value.int 14 0, Value.int 14 0, Value.int 4 0, Value.int 1 0, Value.int 1 0, Value.int 9 0, Value.int 4294966783 0, Value.int 0 0, Value.int 0 0, Value.int 2147483648 0, Value.int 0 0, Value.int 0 0, Value.int 0 0, Value.int 0 0, Value.int 0 0, Value.int 13 0, Value.int 11 0, Value.int 9 0, Value.int 4294966783 0, Value.int 0 0, Value.int 0 0, Value.int 2147483648 0, Value.int 0 0, Value.int 0 0, Value.int 0 0, Value.int 0 0, Value.int 0 0, Value.int 1 0] }) ::
  (nat_lit 48, { cls := Value.type "re.Pattern", data := Data.fields #[Value.str (Str.ofString "[\\x00-\\x08\\x0A-\\x1F\\x7F]") 318, Value.int 32 349, Value.int 0 0, Value.none, Value.none, Value.ref 47, Value.int 0 0] }) ::
  (nat_lit 56, { cls := Value.type "tuple", data := Data.seq #[Value.none] }) ::
  (nat_lit 62, { cls := Value.type "code", data := Data.fields #[Value.str (Str.ofString "__init__") 363, Value.str (Str.ofString "Headers.__init__") 364, Value.str (Str.ofString "/claim/cut.py") 365, Value.int 10 0, Value.int 2 0, Value.int 0 0, Value.int 0 0, Value.int 3 0, Value.ref 57, Value.bool true, Value.int 276 0, Value.ref 58, Value.none, Value.ref 59, Value.ref 60, Value.ref 61, Value.int 370 0, Value.int 10 0, Value.str (Str.ofString "/claim/cut.py") 371] }) ::
  (nat_lit 63, { cls := Value.type "function", dict := none, data := Data.func { name := Str.ofString "__init__", qualname := Str.ofString "Headers.__init__", params := pF (nth (clsBody (nth top 5)) 0), body := FuncBody.stmts (bF (nth (clsBody (nth top 5)) 0)), scope := sF (nth (clsBody (nth top 5)) 0), globals := 3, closure := [], defaults := Value.ref 56, kwdefaults := Value.none, doc := Value.none, pyModule := Value.str (Str.ofString "cpy313.wsgiref.headers") 289, annotations := none, code := Value.ref 62, closureTuple := Value.none, builtins := 0 }, slots := #[] }) ::
  (nat_lit 69, { cls := Value.type "code", data := Data.fields #[Value.str (Str.ofString "_convert_string_type") 373, Value.str (Str.ofString "Headers._convert_string_type") 374, Value.str (Str.ofString "/claim/cut.py") 375, Value.int 20 0, Value.int 2 0, Value.int 0 0, Value.int 1 0, Value.int 3 0, Value.ref 64, Value.bool true, Value.int 276 0, Value.ref 65, Value.none, Value.ref 66, Value.ref 67, Value.ref 68, Value.int 380 0, Value.int 20 0, Value.str (Str.ofString "/claim/cut.py") 381] }) ::
  (nat_lit 70, { cls := Value.type "function", dict := none, data := Data.func { name := Str.ofString "_convert_string_type", qualname := Str.ofString "Headers._convert_string_type", params := pF (nth (clsBody (nth top 5)) 1), body := FuncBody.stmts (bF (nth (clsBody (nth top 5)) 1)), scope := sF (nth (clsBody (nth top 5)) 1), globals := 3, closure := [], defaults := Value.none, kwdefaults := Value.none, doc := Value.none, pyModule := Value.str (Str.ofString "cpy313.wsgiref.headers") 289, annotations := none, code := Value.ref 69, closureTuple := Value.none, builtins := 0 }, slots := #[] }) ::
  (nat_lit 111, { cls := Value.type "tuple", data := Data.seq #[Value.none] }) ::
  (nat_lit 117, { cls := Value.type "code", data := Data.fields #[Value.str (Str.ofString "get") 429, Value.str (Str.ofString "Headers.get") 430, Value.str (Str.ofString "/claim/cut.py") 431, Value.int 48 0, Value.int 3 0, Value.int 0 0, Value.int 0 0, Value.int 3 0, Value.ref 112, Value.bool true, Value.int 276 0, Value.ref 113, Value.none, Value.ref 114, Value.ref 115, Value.ref 116, Value.int 437 0, Value.int 48 0, Value.str (Str.ofString "/claim/cut.py") 438] }) ::
  (nat_lit 118, { cls := Value.type "function", dict := none, data := Data.func { name := Str.ofString "get", qualname := Str.ofString "Headers.get", params := pF (nth (clsBody (nth top 5)) 8), body := FuncBody.stmts (bF (nth (clsBody (nth top 5)) 8)), scope := sF (nth (clsBody (nth top 5)) 8), globals := 3, closure := [], defaults := Value.ref 111, kwdefaults := Value.none, doc := Value.none, pyModule := Value.str (Str.ofString "cpy313.wsgiref.headers") 289, annotations := none, code := Value.ref 117, closureTuple := Value.none, builtins := 0 }, slots := #[] }) ::
  (nat_lit 134, { cls := Value.type "code", data := Data.fields #[Value.str (Str.ofString "items") 452, Value.str (Str.ofString "Headers.items") 453, Value.str (Str.ofString "/claim/cut.py") 454, Value.int 61 0, Value.int 1 0, Value.int 0 0, Value.int 0 0, Value.int 3 0, Value.ref 129, Value.bool true, Value.int 276 0, Value.ref 130, Value.none, Value.ref 131, Value.ref 132, Value.ref 133, Value.int 456 0, Value.int 61 0, Value.str (Str.ofString "/claim/cut.py") 457] }) ::
  (nat_lit 135, { cls := Value.type "function", dict := none, data := Data.func { name := Str.ofString "items", qualname := Str.ofString "Headers.items", params := pF (nth (clsBody (nth top 5)) 11), body := FuncBody.stmts (bF (nth (clsBody (nth top 5)) 11)), scope := sF (nth (clsBody (nth top 5)) 11), globals := 3, closure := [], defaults := Value.none, kwdefaults := Value.none, doc := Value.none, pyModule := Value.str (Str.ofString "cpy313.wsgiref.headers") 289, annotations := none, code := Value.ref 134, closureTuple := Value.none, builtins := 0 }, slots := #[] }) ::
  (nat_lit 160, { cls := Value.type "code", data := Data.fields #[Value.str (Str.ofString "setdefault") 479, Value.str (Str.ofString "Headers.setdefault") 480, Value.str (Str.ofString "/claim/cut.py") 481, Value.int 73 0, Value.int 3 0, Value.int 0 0, Value.int 0 0, Value.int 3 0, Value.ref 155, Value.bool true, Value.int 276 0, Value.ref 156, Value.none, Value.ref 157, Value.ref 158, Value.ref 159, Value.int 486 0, Value.int 73 0, Value.str (Str.ofString "/claim/cut.py") 487] }) ::
  (nat_lit 161, { cls := Value.type "function", dict := none, data := Data.func { name := Str.ofString "setdefault", qualname := Str.ofString "Headers.setdefault", params := pF (nth (clsBody (nth top 5)) 15), body := FuncBody.stmts (bF (nth (clsBody (nth top 5)) 15)), scope := sF (nth (clsBody (nth top 5)) 15), globals := 3, closure := [], defaults := Value.none, kwdefaults := Value.none, doc := Value.none, pyModule := Value.str (Str.ofString "cpy313.wsgiref.headers") 289, annotations := none, code := Value.ref 160, closureTuple := Value.none, builtins := 0 }, slots := #[] }) ::
  (nat_lit 170, { cls := Value.type "dict", data := Data.dict #[{ hash := PyData.keyHash P (Str.ofString "__module__"), key := Value.str (Str.ofString "__module__") 358, val := Value.str (Str.ofString "cpy313.wsgiref.headers") 289 }, { hash := PyData.keyHash P (Str.ofString "__firstlineno__"), key := Value.str (Str.ofString "__firstlineno__") 362, val := Value.int 8 361 }, { hash := PyData.keyHash P (Str.ofString "__init__"), key := Value.str (Str.ofString "__init__") 372, val := Value.ref 63 }, { hash := PyData.keyHash P (Str.ofString "_convert_string_type"), key := Value.str (Str.ofString "_convert_string_type") 382, val := Value.ref 70 }, { hash := PyData.keyHash P (Str.ofString "__len__"), key := Value.str (Str.ofString "__len__") 389, val := Value.ref 77 }, { hash := PyData.keyHash P (Str.ofString "__setitem__"), key := Value.str (Str.ofString "__setitem__") 398, val := Value.ref 84 }, { hash := PyData.keyHash P (Str.ofString "__delitem__"), key := Value.str (Str.ofString "__delitem__") 404, val := Value.ref 89 }, { hash := PyData.keyHash P (Str.ofString "__getitem__"), key := Value.str (Str.ofString "__getitem__") 412, val := Value.ref 96 }, { hash := PyData.keyHash P (Str.ofString "__contains__"), key := Value.str (Str.ofString "__contains__") 420, val := Value.ref 103 }, { hash := PyData.keyHash P (Str.ofString "get_all"), key := Value.str (Str.ofString "get_all") 428, val := Value.ref 110 }, { hash := PyData.keyHash P (Str.ofString "get"), key := Value.str (Str.ofString "get") 439, val := Value.ref 118 }, { hash := PyData.keyHash P (Str.ofString "keys"), key := Value.str (Str.ofString "keys") 445, val := Value.ref 123 }, { hash := PyData.keyHash P (Str.ofString "values"), key := Value.str (Str.ofString "values") 451, val := Value.ref 128 }, { hash := PyData.keyHash P (Str.ofString "items"), key := Value.str (Str.ofString "items") 458, val := Value.ref 135 }, { hash := PyData.keyHash P (Str.ofString "__repr__"), key := Value.str (Str.ofString "__repr__") 465, val := Value.ref 142 }, { hash := PyData.keyHash P (Str.ofString "__str__"), key := Value.str (Str.ofString "__str__") 471, val := Value.ref 147 }, { hash := PyData.keyHash P (Str.ofString "__bytes__"), key := Value.str (Str.ofString "__bytes__") 478, val := Value.ref 154 }, { hash := PyData.keyHash P (Str.ofString "setdefault"), key := Value.str (Str.ofString "setdefault") 488, val := Value.ref 161 }, { hash := PyData.keyHash P (Str.ofString "add_header"), key := Value.str (Str.ofString "add_header") 498, val := Value.ref 168 }, { hash := PyData.keyHash P (Str.ofString "__static_attributes__"), key := Value.str (Str.ofString "__static_attributes__") 500, val := Value.ref 169 }, { hash := PyData.keyHash P (Str.ofString "__dict__"), key := Value.str (Str.ofString "__dict__") 502, val := Value.ref 172 }, { hash := PyData.keyHash P (Str.ofString "__weakref__"), key := Value.str (Str.ofString "__weakref__") 504, val := Value.ref 173 }, { hash := PyData.keyHash P (Str.ofString "__doc__"), key := Value.str (Str.ofString "__doc__") 505, val := Value.none }] 4 }) ::
  (nat_lit 171, { cls := Value.type "type", data := Data.cls { name := Str.ofString "Headers", bases := [Value.type "object"], mro := [Value.ref 171, Value.type "object"], ns := 170, qualname := Str.ofString "Headers" }, slots := #[none, none, some (Value.str (Str.ofString "Headers") 351), some (Value.str (Str.ofString "Headers") 359), some (Value.builtin "object.__new__"), some (Value.bool true)] }) ::
  (nat_lit 172, { cls := Value.type "getset_descriptor", data := Data.fields #[Value.str (Str.ofString "__dict__") 501, Value.ref 171, Value.builtin "function.__dict__", Value.builtin "function.__dict__#set"] }) ::
  (nat_lit 173, { cls := Value.type "getset_descriptor", data := Data.fields #[Value.str (Str.ofString "__weakref__") 503, Value.ref 171, Value.builtin "ExceptionGroup.__weakref__", Value.none] }) ::
  (nat_lit 181, { cls := Value.type "code", data := Data.fields #[Value.str (Str.ofString "rgb_to_hls") 522, Value.str (Str.ofString "rgb_to_hls") 523, Value.str (Str.ofString "/claim/cut.py") 524, Value.int 87 0, Value.int 3 0, Value.int 0 0, Value.int 0 0, Value.int 3 0, Value.ref 176, Value.bool true, Value.int 276 0, Value.ref 177, Value.none, Value.ref 178, Value.ref 179, Value.ref 180, Value.int 538 0, Value.int 87 0, Value.str (Str.ofString "/claim/cut.py") 539] }) ::
  (nat_lit 182, { cls := Value.type "function", dict := none, data := Data.func { name := Str.ofString "rgb_to_hls", qualname := Str.ofString "rgb_to_hls", params := pF (nth top 10), body := FuncBody.stmts (bF (nth top 10)), scope := sF (nth top 10), globals := 3, closure := [], defaults := Value.none, kwdefaults := Value.none, doc := Value.none, pyModule := Value.str (Str.ofString "cpy313.colorsys") 508, annotations := none, code := Value.ref 181, closureTuple := Value.none, builtins := 0 }, slots := #[] }) ::
  (nat_lit 188, { cls := Value.type "code", data := Data.fields #[Value.str (Str.ofString "hls_to_rgb") 541, Value.str (Str.ofString "hls_to_rgb") 542, Value.str (Str.ofString "/claim/cut.py") 543, Value.int 110 0, Value.int 3 0, Value.int 0 0, Value.int 0 0, Value.int 3 0, Value.ref 183, Value.bool true, Value.int 276 0, Value.ref 184, Value.none, Value.ref 185, Value.ref 186, Value.ref 187, Value.int 549 0, Value.int 110 0, Value.str (Str.ofString "/claim/cut.py") 550] }) ::
  (nat_lit 189, { cls := Value.type "function", dict := none, data := Data.func { name := Str.ofString "hls_to_rgb", qualname := Str.ofString "hls_to_rgb", params := pF (nth top 11), body := FuncBody.stmts (bF (nth top 11)), scope := sF (nth top 11), globals := 3, closure := [], defaults := Value.none, kwdefaults := Value.none, doc := Value.none, pyModule := Value.str (Str.ofString "cpy313.colorsys") 508, annotations := none, code := Value.ref 188, closureTuple := Value.none, builtins := 0 }, slots := #[] }) ::
  (nat_lit 195, { cls := Value.type "code", data := Data.fields #[Value.str (Str.ofString "_v") 552, Value.str (Str.ofString "_v") 553, Value.str (Str.ofString "/claim/cut.py") 554, Value.int 119 0, Value.int 3 0, Value.int 0 0, Value.int 0 0, Value.int 3 0, Value.ref 190, Value.bool true, Value.int 276 0, Value.ref 191, Value.none, Value.ref 192, Value.ref 193, Value.ref 194, Value.int 558 0, Value.int 119 0, Value.str (Str.ofString "/claim/cut.py") 559] }) ::
  (nat_lit 196, { cls := Value.type "function", dict := none, data := Data.func { name := Str.ofString "_v", qualname := Str.ofString "_v", params := pF (nth top 12), body := FuncBody.stmts (bF (nth top 12)), scope := sF (nth top 12), globals := 3, closure := [], defaults := Value.none, kwdefaults := Value.none, doc := Value.none, pyModule := Value.str (Str.ofString "cpy313.colorsys") 508, annotations := none, code := Value.ref 195, closureTuple := Value.none, builtins := 0 }, slots := #[] }) ::
  (nat_lit 202, { cls := Value.type "code", data := Data.fields #[Value.str (Str.ofString "rgb_to_hsv") 561, Value.str (Str.ofString "rgb_to_hsv") 562, Value.str (Str.ofString "/claim/cut.py") 563, Value.int 128 0, Value.int 3 0, Value.int 0 0, Value.int 0 0, Value.int 3 0, Value.ref 197, Value.bool true, Value.int 276 0, Value.ref 198, Value.none, Value.ref 199, Value.ref 200, Value.ref 201, Value.int 576 0, Value.int 128 0, Value.str (Str.ofString "/claim/cut.py") 577] }) ::
  (nat_lit 203, { cls := Value.type "function", dict := none, data := Data.func { name := Str.ofString "rgb_to_hsv", qualname := Str.ofString "rgb_to_hsv", params := pF (nth top 13), body := FuncBody.stmts (bF (nth top 13)), scope := sF (nth top 13), globals := 3, closure := [], defaults := Value.none, kwdefaults := Value.none, doc := Value.none, pyModule := Value.str (Str.ofString "cpy313.colorsys") 508, annotations := none, code := Value.ref 202, closureTuple := Value.none, builtins := 0 }, slots := #[] }) ::
  (nat_lit 209, { cls := Value.type "code", data := Data.fields #[Value.str (Str.ofString "hsv_to_rgb") 579, Value.str (Str.ofString "hsv_to_rgb") 580, Value.str (Str.ofString "/claim/cut.py") 581, Value.int 147 0, Value.int 3 0, Value.int 0 0, Value.int 0 0, Value.int 3 0, Value.ref 204, Value.bool true, Value.int 276 0, Value.ref 205, Value.none, Value.ref 206, Value.ref 207, Value.ref 208, Value.int 590 0, Value.int 147 0, Value.str (Str.ofString "/claim/cut.py") 591] }) ::
  (nat_lit 210, { cls := Value.type "function", dict := none, data := Data.func { name := Str.ofString "hsv_to_rgb", qualname := Str.ofString "hsv_to_rgb", params := pF (nth top 14), body := FuncBody.stmts (bF (nth top 14)), scope := sF (nth top 14), globals := 3, closure := [], defaults := Value.none, kwdefaults := Value.none, doc := Value.none, pyModule := Value.str (Str.ofString "cpy313.colorsys") 508, annotations := none, code := Value.ref 209, closureTuple := Value.none, builtins := 0 }, slots := #[] }) ::
  (nat_lit 216, { cls := Value.type "code", data := Data.fields #[Value.str (Str.ofString "_law_spot") 595, Value.str (Str.ofString "_law_spot") 596, Value.str (Str.ofString "/claim/cut.py") 597, Value.int 169 0, Value.int 2 0, Value.int 0 0, Value.int 0 0, Value.int 3 0, Value.ref 211, Value.bool true, Value.int 276 0, Value.ref 212, Value.none, Value.ref 213, Value.ref 214, Value.ref 215, Value.int 602 0, Value.int 169 0, Value.str (Str.ofString "/claim/cut.py") 603] }) ::
  (nat_lit 217, { cls := Value.type "function", dict := none, data := Data.func { name := Str.ofString "_law_spot", qualname := Str.ofString "_law_spot", params := pF (nth top 16), body := FuncBody.stmts (bF (nth top 16)), scope := sF (nth top 16), globals := 3, closure := [], defaults := Value.none, kwdefaults := Value.none, doc := Value.none, pyModule := Value.str (Str.ofString "law_pe0241_01") 593, annotations := none, code := Value.ref 216, closureTuple := Value.none, builtins := 0 }, slots := #[] }) ::
  (nat_lit 221, { cls := Value.type "code", data := Data.fields #[Value.str (Str.ofString "_law_rounded") 605, Value.str (Str.ofString "_law_rounded") 606, Value.str (Str.ofString "/claim/cut.py") 607, Value.int 175 0, Value.int 1 0, Value.int 0 0, Value.int 0 0, Value.int 3 0, Value.ref 218, Value.bool true, Value.int 276 0, Value.ref 219, Value.none, Value.none, Value.none, Value.ref 220, Value.int 608 0, Value.int 175 0, Value.str (Str.ofString "/claim/cut.py") 609] }) ::
  (nat_lit 222, { cls := Value.type "function", dict := none, data := Data.func { name := Str.ofString "_law_rounded", qualname := Str.ofString "_law_rounded", params := pF (nth top 17), body := FuncBody.stmts (bF (nth top 17)), scope := sF (nth top 17), globals := 3, closure := [], defaults := Value.none, kwdefaults := Value.none, doc := Value.none, pyModule := Value.str (Str.ofString "law_pe0241_01") 593, annotations := none, code := Value.ref 221, closureTuple := Value.none, builtins := 0 }, slots := #[] }) ::
  (nat_lit 228, { cls := Value.type "code", data := Data.fields #[Value.str (Str.ofString "_law_drawn") 611, Value.str (Str.ofString "_law_drawn") 612, Value.str (Str.ofString "/claim/cut.py") 613, Value.int 177 0, Value.int 2 0, Value.int 0 0, Value.int 0 0, Value.int 3 0, Value.ref 223, Value.bool true, Value.int 276 0, Value.ref 224, Value.none, Value.ref 225, Value.ref 226, Value.ref 227, Value.int 618 0, Value.int 177 0, Value.str (Str.ofString "/claim/cut.py") 619] }) ::
  (nat_lit 229, { cls := Value.type "function", dict := none, data := Data.func { name := Str.ofString "_law_drawn", qualname := Str.ofString "_law_drawn", params := pF (nth top 18), body := FuncBody.stmts (bF (nth top 18)), scope := sF (nth top 18), globals := 3, closure := [], defaults := Value.none, kwdefaults := Value.none, doc := Value.none, pyModule := Value.str (Str.ofString "law_pe0241_01") 593, annotations := none, code := Value.ref 228, closureTuple := Value.none, builtins := 0 }, slots := #[] }) ::
  (nat_lit 235, { cls := Value.type "code", data := Data.fields #[Value.str (Str.ofString "_law_turned") 621, Value.str (Str.ofString "_law_turned") 622, Value.str (Str.ofString "/claim/cut.py") 623, Value.int 181 0, Value.int 3 0, Value.int 0 0, Value.int 0 0, Value.int 3 0, Value.ref 230, Value.bool true, Value.int 276 0, Value.ref 231, Value.none, Value.ref 232, Value.ref 233, Value.ref 234, Value.int 635 0, Value.int 181 0, Value.str (Str.ofString "/claim/cut.py") 636] }) ::
  (nat_lit 236, { cls := Value.type "function", dict := none, data := Data.func { name := Str.ofString "_law_turned", qualname := Str.ofString "_law_turned", params := pF (nth top 19), body := FuncBody.stmts (bF (nth top 19)), scope := sF (nth top 19), globals := 3, closure := [], defaults := Value.none, kwdefaults := Value.none, doc := Value.none, pyModule := Value.str (Str.ofString "law_pe0241_01") 593, annotations := none, code := Value.ref 235, closureTuple := Value.none, builtins := 0 }, slots := #[] }) ::
  (nat_lit 240, { cls := Value.type "code", data := Data.fields #[Value.str (Str.ofString "_law_read") 638, Value.str (Str.ofString "_law_read") 639, Value.str (Str.ofString "/claim/cut.py") 640, Value.int 191 0, Value.int 3 0, Value.int 0 0, Value.int 0 0, Value.int 3 0, Value.ref 237, Value.bool true, Value.int 276 0, Value.ref 238, Value.none, Value.none, Value.none, Value.ref 239, Value.int 641 0, Value.int 191 0, Value.str (Str.ofString "/claim/cut.py") 642] }) ::
  (nat_lit 241, { cls := Value.type "function", dict := none, data := Data.func { name := Str.ofString "_law_read", qualname := Str.ofString "_law_read", params := pF (nth top 20), body := FuncBody.stmts (bF (nth top 20)), scope := sF (nth top 20), globals := 3, closure := [], defaults := Value.none, kwdefaults := Value.none, doc := Value.none, pyModule := Value.str (Str.ofString "law_pe0241_01") 593, annotations := none, code := Value.ref 240, closureTuple := Value.none, builtins := 0 }, slots := #[] }) ::
  (nat_lit 247, { cls := Value.type "code", data := Data.fields #[Value.str (Str.ofString "_law_plain") 644, Value.str (Str.ofString "_law_plain") 645, Value.str (Str.ofString "/claim/cut.py") 646, Value.int 194 0, Value.int 3 0, Value.int 0 0, Value.int 0 0, Value.int 3 0, Value.ref 242, Value.bool true, Value.int 276 0, Value.ref 243, Value.none, Value.ref 244, Value.ref 245, Value.ref 246, Value.int 654 0, Value.int 194 0, Value.str (Str.ofString "/claim/cut.py") 655] }) ::
  (nat_lit 248, { cls := Value.type "function", dict := none, data := Data.func { name := Str.ofString "_law_plain", qualname := Str.ofString "_law_plain", params := pF (nth top 21), body := FuncBody.stmts (bF (nth top 21)), scope := sF (nth top 21), globals := 3, closure := [], defaults := Value.none, kwdefaults := Value.none, doc := Value.none, pyModule := Value.str (Str.ofString "law_pe0241_01") 593, annotations := none, code := Value.ref 247, closureTuple := Value.none, builtins := 0 }, slots := #[] }) ::
  (nat_lit 252, { cls := Value.type "code", data := Data.fields #[Value.str (Str.ofString "_law_firsts") 657, Value.str (Str.ofString "_law_firsts") 658, Value.str (Str.ofString "/claim/cut.py") 659, Value.int 201 0, Value.int 2 0, Value.int 0 0, Value.int 0 0, Value.int 3 0, Value.ref 249, Value.bool true, Value.int 276 0, Value.ref 250, Value.none, Value.none, Value.none, Value.ref 251, Value.int 660 0, Value.int 201 0, Value.str (Str.ofString "/claim/cut.py") 661] }) ::
  (nat_lit 253, { cls := Value.type "function", dict := none, data := Data.func { name := Str.ofString "_law_firsts", qualname := Str.ofString "_law_firsts", params := pF (nth top 22), body := FuncBody.stmts (bF (nth top 22)), scope := sF (nth top 22), globals := 3, closure := [], defaults := Value.none, kwdefaults := Value.none, doc := Value.none, pyModule := Value.str (Str.ofString "law_pe0241_01") 593, annotations := none, code := Value.ref 252, closureTuple := Value.none, builtins := 0 }, slots := #[] }) ::
  (nat_lit 257, { cls := Value.type "code", data := Data.fields #[Value.str (Str.ofString "law") 663, Value.str (Str.ofString "law") 664, Value.str (Str.ofString "/claim/cut.py") 665, Value.int 226 0, Value.int 1 0, Value.int 0 0, Value.int 0 0, Value.int 3 0, Value.ref 254, Value.bool true, Value.int 276 0, Value.ref 255, Value.none, Value.none, Value.none, Value.ref 256, Value.int 666 0, Value.int 226 0, Value.str (Str.ofString "/claim/cut.py") 667] }) ::
  (nat_lit 258, { cls := Value.type "function", dict := none, data := Data.func { name := Str.ofString "law", qualname := Str.ofString "law", params := pF (nth top 23), body := FuncBody.stmts (bF (nth top 23)), scope := sF (nth top 23), globals := 3, closure := [], defaults := Value.none, kwdefaults := Value.none, doc := Value.none, pyModule := Value.str (Str.ofString "law_pe0241_01") 593, annotations := none, code := Value.ref 257, closureTuple := Value.none, builtins := 0 }, slots := #[] }) :: []
noncomputable def as3 : List Nat := [nat_lit 3, nat_lit 42, nat_lit 43, nat_lit 47, nat_lit 48, nat_lit 56, nat_lit 62, nat_lit 63, nat_lit 69, nat_lit 70, nat_lit 111, nat_lit 117, nat_lit 118, nat_lit 134, nat_lit 135, nat_lit 160, nat_lit 161, nat_lit 170, nat_lit 171, nat_lit 172, nat_lit 173, nat_lit 181, nat_lit 182, nat_lit 188, nat_lit 189, nat_lit 195, nat_lit 196, nat_lit 202, nat_lit 203, nat_lit 209, nat_lit 210, nat_lit 216, nat_lit 217, nat_lit 221, nat_lit 222, nat_lit 228, nat_lit 229, nat_lit 235, nat_lit 236, nat_lit 240, nat_lit 241, nat_lit 247, nat_lit 248, nat_lit 252, nat_lit 253, nat_lit 257, nat_lit 258]
noncomputable def view3 : Program := { PySem.Challenge.pw_pe0241_01 with main := { PySem.Challenge.pw_pe0241_01.main with body := keepAt [0, 1, 3, 4, 5, 7, 8, 9, 10, 11, 12, 13, 14, 16, 17, 18, 19, 20, 21, 22, 23] PySem.Challenge.pw_pe0241_01.main.body } }
noncomputable def loose3 : List Str := [Str.ofString "_name_disallowed_re", Str.ofString "_value_disallowed_re", Str.ofString "ONE_THIRD", Str.ofString "ONE_SIXTH", Str.ofString "TWO_THIRD"]
noncomputable def lv3 : List (Str × WData) := [(Str.ofString "ONE_THIRD", WData.float 4599676419421066581), (Str.ofString "ONE_SIXTH", WData.float 4595172819793696085), (Str.ofString "TWO_THIRD", WData.float 4604180019048437077)]
end Mine

open PySem PySem.W PyProof.Rows
set_option Elab.async false
set_option maxRecDepth 100000
set_option maxHeartbeats 0
set_option linter.unusedVariables false
namespace Mine
theorem hook_e (P : Params) : as3 = (heap3 P).map (·.1) := by kernel_rfl
theorem law_said : PySem.Challenge.rw_pe0241_01.wellSaid = true := by
  with_reducible delta OpenLaw.wellSaid
  repeat' (with_reducible apply look_both)
  all_goals (try (with_reducible delta OpenRow.wellSaid OpenRow.partSaid))
  all_goals (repeat' (with_reducible apply look_both))
  all_goals kernel_rfl
noncomputable def lawDef : DefRec := ⟨Str.ofString "law", pF (nth top 23), bF (nth top 23), sF (nth top 23), (nth top 23).pos⟩
theorem head3 (walk : WalkO view3 loose3 (XL view3 lv3) (kHook heap3 as3 hook_e).says PySem.Challenge.rw_pe0241_01.row.toRowW lawDef [] (fun f vs => PySem.call f vs)) : PySem.Challenge.rw_pe0241_01.Holds := by
  w_on
  refine holds_law law_said fun said => ?_
  refine PySem.W.holds_open (q := view3) (loose := loose3)
    (Xt := fun s => xlAt view3 lv3 s && recOk (RowW.records PySem.Challenge.rw_pe0241_01.row.toRowW) s) (XP := XL view3 lv3)
    (Yf := Hook.obs (kHook heap3 as3 hook_e)) (Ya := Hook.val (kHook heap3 as3 hook_e)) (YP := Hook.says (kHook heap3 as3 hook_e)) (d := lawDef) (kwd := [])
    (N := 2922) ?hl (Hook.of _) (Hook.keeps _) (fun s e => xl_of s (Bool.and_eq_true_iff.mp e).1) XL.keeps (by rfl) (by rfl) (by rfl) (fun s e => recFacts_of (Bool.and_eq_true_iff.mp e).2) (by rfl) (by first | assumption | decide +kernel) (by decide +kernel) ⟨rfl, rfl, rfl, rfl, rfl, by decide +kernel⟩ ?hw ?hc
  case hl =>
    intro w
    kernel_rfl
  case hw => w_witness2
  case hc => exact walk
end Mine

open PySem PySem.W PyProof.Rows
set_option Elab.async false
set_option maxRecDepth 100000
set_option linter.unusedVariables false
namespace Mine
open PySem.Calls

abbrev Mp := Addr → Option Obj
def Le (f f' : Mp) : Prop := ∀ b o, f b = some o → f' b = some o
def Sub (f : Mp) (h : Heap) : Prop := ∀ b o, f b = some o → h.get? b = some o
theorem Le.refl (f : Mp) : Le f f := fun _ _ e => e
theorem Le.trans {f g k : Mp} (a : Le f g) (b : Le g k) : Le f k := fun x o e => b x o (a x o e)

inductive D where
  | none
  | bool (b : Bool)
  | int (i : Int)
  | flt (x : UInt64)
  | str (s : Str)
  | lst (l : List D)
  | tup (l : List D)
  | rng (lo n : Nat)
  | edict
  | val (v : Value)

mutual
inductive Rd (f : Mp) : Value → D → Prop
  | none : Rd f .none .none
  | bool (b : Bool) : Rd f (.bool b) (.bool b)
  | int (i : Int) (t : Tok) : Rd f (.int i t) (.int i)
  | flt (x : UInt64) (t : Tok) : Rd f (.float x t) (.flt x)
  | str (x : Str) (t : Tok) : Rd f (.str x t) (.str x)
  | lst {a : Addr} {o : Obj} {n : Nat} {vs : List Value} {ds : List D} : f a = some o → o.cls = .type "list" → o.data = .seq vs.toArray n → RdL f vs ds → Rd f (.ref a) (.lst ds)
  | tup {a : Addr} {o : Obj} {n : Nat} {vs : List Value} {ds : List D} : f a = some o → o.cls = .type "tuple" → o.data = .seq vs.toArray n → RdL f vs ds → Rd f (.ref a) (.tup ds)
  | rng {a : Addr} {lo n : Nat} {t u v : Tok} : f a = some { cls := .type "range", dict := Option.none, data := .fields #[.int lo t, .int ((lo + n : Nat) : Int) u, .int 1 v], slots := #[] } → Rd f (.ref a) (.rng lo n)
  | edict {a : Addr} : f a = some { cls := .type "dict", data := .dict #[] } → (a == sysModules) = false → Rd f (.ref a) .edict
  | val (v : Value) : Rd f v (.val v)
inductive RdL (f : Mp) : List Value → List D → Prop
  | nil : RdL f [] []
  | cons {v : Value} {d : D} {vs : List Value} {ds : List D} : Rd f v d → RdL f vs ds → RdL f (v :: vs) (d :: ds)
end
/-- what a reading says of the value -/
def RdI (f : Mp) (v : Value) : D → Prop
  | .none => v = .none
  | .bool b => v = .bool b
  | .int i => ∃ t, v = .int i t
  | .flt x => ∃ t, v = .float x t
  | .str x => ∃ t, v = .str x t
  | .lst ds => ∃ a o n vs, v = .ref a ∧ f a = some o ∧ o.cls = .type "list" ∧ o.data = .seq (List.toArray vs) n ∧ RdL f vs ds
  | .tup ds => ∃ a o n vs, v = .ref a ∧ f a = some o ∧ o.cls = .type "tuple" ∧ o.data = .seq (List.toArray vs) n ∧ RdL f vs ds
  | .rng lo n => ∃ a t u w, v = .ref a ∧ f a = some { cls := .type "range", dict := Option.none, data := .fields #[.int lo t, .int ((lo + n : Nat) : Int) u, .int 1 w], slots := #[] }
  | .edict => ∃ a, v = .ref a ∧ f a = some { cls := .type "dict", data := .dict #[] } ∧ (a == sysModules) = false
  | .val w => v = w
theorem Rd.inv {f : Mp} {v : Value} {d : D} (r : Rd f v d) : RdI f v d := by
  cases r with
  | none => exact rfl
  | bool b => exact rfl
  | int i t => exact ⟨t, rfl⟩
  | flt x t => exact ⟨t, rfl⟩
  | str x t => exact ⟨t, rfl⟩
  | lst a b c r => exact ⟨_, _, _, _, rfl, a, b, c, r⟩
  | tup a b c r => exact ⟨_, _, _, _, rfl, a, b, c, r⟩
  | rng a => exact ⟨_, _, _, _, rfl, a⟩
  | edict a b => exact ⟨_, rfl, a, b⟩
  | val v => exact rfl
theorem Rd.isVal {f : Mp} {v w : Value} (r : Rd f v (.val w)) : w = v := Eq.symm r.inv
theorem RdL.ind {f : Mp} {N : List Value → List D → Prop} (nil : N [] []) (cons : ∀ {v : Value} {d : D} {vs : List Value} {ds : List D}, Rd f v d → RdL f vs ds → N vs ds → N (v :: vs) (d :: ds)) {vs : List Value} {ds : List D} (r : RdL f vs ds) : N vs ds :=
  RdL.rec (motive_1 := fun _ _ _ => True) (motive_2 := fun vs ds _ => N vs ds) trivial (fun _ => trivial) (fun _ _ => trivial) (fun _ _ => trivial) (fun _ _ => trivial) (fun _ _ _ _ _ => trivial) (fun _ _ _ _ _ => trivial) (fun _ => trivial) (fun _ _ => trivial) (fun _ => trivial) nil (fun a r _ ih => cons a r ih) r
theorem RdL.inv {f : Mp} {vs : List Value} {d : D} {ds : List D} (r : RdL f vs (d :: ds)) : ∃ v us, vs = v :: us ∧ Rd f v d ∧ RdL f us ds :=
  RdL.ind (N := fun vs es => es = d :: ds → ∃ v us, vs = v :: us ∧ Rd f v d ∧ RdL f us ds) (fun e => nomatch e) (fun a r _ e => by cases e; exact ⟨_, _, rfl, a, r⟩) r rfl
theorem RdL.inv0 {f : Mp} {vs : List Value} (r : RdL f vs []) : vs = [] :=
  RdL.ind (N := fun vs es => es = [] → vs = []) (fun _ => rfl) (fun _ _ _ e => nomatch e) r rfl
theorem Rd.mono {f f' : Mp} (le : Le f f') {v : Value} {d : D} (r : Rd f v d) : Rd f' v d :=
  Rd.rec (motive_1 := fun v d _ => Rd f' v d) (motive_2 := fun vs ds _ => RdL f' vs ds) .none .bool .int .flt .str (fun a b c _ r => .lst (le _ _ a) b c r) (fun a b c _ r => .tup (le _ _ a) b c r) (fun a => .rng (le _ _ a)) (fun a b => .edict (le _ _ a) b) .val .nil (fun _ _ a r => .cons a r) r
theorem RdL.mono {f f' : Mp} (le : Le f f') {vs : List Value} {ds : List D} (r : RdL f vs ds) : RdL f' vs ds :=
  RdL.ind .nil (fun a _ r => .cons (a.mono le) r) r
theorem RdL.length {f : Mp} {vs : List Value} {ds : List D} (r : RdL f vs ds) : vs.length = ds.length :=
  RdL.ind (N := fun vs ds => vs.length = ds.length) rfl (fun _ _ ih => congrArg (· + 1) ih) r
theorem RdL.get {f : Mp} {vs : List Value} {ds : List D} (r : RdL f vs ds) : ∀ {i : Nat} {d : D}, ds[i]? = some d → ∃ v, vs[i]? = some v ∧ Rd f v d :=
  RdL.ind (N := fun vs ds => ∀ {i : Nat} {d : D}, ds[i]? = some d → ∃ v, vs[i]? = some v ∧ Rd f v d) (fun e => nomatch e) (@fun _ _ _ _ a _ ih j _ e => by
    rcases j with _ | j
    · cases e; exact ⟨_, rfl, a⟩
    · exact ih e) r
theorem RdL.append {f : Mp} {vs us : List Value} {ds es : List D} (l : RdL f vs ds) (r : RdL f us es) : RdL f (vs ++ us) (ds ++ es) :=
  RdL.ind (N := fun vs ds => RdL f (vs ++ us) (ds ++ es)) r (fun a _ ih => .cons a ih) l
theorem RdL.snoc {f : Mp} {vs : List Value} {ds : List D} {v : Value} {d : D} (l : RdL f vs ds) (a : Rd f v d) : RdL f (vs ++ [v]) (ds ++ [d]) := l.append (.cons a .nil)
theorem RdL.take {f : Mp} {vs : List Value} {ds : List D} (n : Nat) (r : RdL f vs ds) : RdL f (vs.take n) (ds.take n) :=
  RdL.ind (N := fun vs ds => ∀ n, RdL f (vs.take n) (ds.take n)) (fun n => by cases n <;> exact .nil) (fun a _ ih n => match n with
    | 0 => .nil
    | n + 1 => .cons a (ih n)) r n
theorem RdL.drop {f : Mp} {vs : List Value} {ds : List D} (n : Nat) (r : RdL f vs ds) : RdL f (vs.drop n) (ds.drop n) :=
  RdL.ind (N := fun vs ds => ∀ n, RdL f (vs.drop n) (ds.drop n)) (fun n => by cases n <;> exact .nil) (fun a r ih n => by
    cases n with
    | zero => exact .cons a r
    | succ n => exact ih n) r n

inductive Slot where
  | unset
  | dat (d : D)
  | own (a : Addr) (ds : List D)
structure Hd where
  x : Addr
  H : Addr
  es : List (Str × Str)
structure St where
  vars : List (Str × Slot)
  hdr : Option Hd

inductive Put (x : Str) (sl : Slot) : List (Str × Slot) → List (Str × Slot) → Prop
  | head {s₀ : Slot} {r : List (Str × Slot)} : Put x sl ((x, s₀) :: r) ((x, sl) :: r)
  | tail {p : Str × Slot} {r r' : List (Str × Slot)} : Put x sl r r' → Put x sl (p :: r) (p :: r')
theorem Put.names {x : Str} {sl : Slot} {l l' : List (Str × Slot)} (h : Put x sl l l') : l'.map (·.1) = l.map (·.1) := by
  induction h with
  | head => rfl
  | tail _ ih => exact congrArg (_ :: ·) ih
theorem Put.hasName {x : Str} {sl : Slot} {l l' : List (Str × Slot)} (h : Put x sl l l') : x ∈ l.map (·.1) := by
  induction h with
  | head => exact .head _
  | tail _ ih => exact .tail _ ih
theorem Put.mem {x : Str} {sl : Slot} {l l' : List (Str × Slot)} (h : Put x sl l l') (nd : (l.map (·.1)).Nodup) : ∀ p ∈ l', p = (x, sl) ∨ (p ∈ l ∧ p.1 ≠ x) := by
  induction h with
  | head =>
    intro p hp
    rcases List.mem_cons.mp hp with e | e
    · exact .inl e
    · exact .inr ⟨.tail _ e, fun q => (List.nodup_cons.mp nd).1 (by have := List.mem_map_of_mem (f := Prod.fst) e; rw [q] at this; exact this)⟩
  | tail r ih =>
    intro p hp
    have nd' := List.nodup_cons.mp nd
    rcases List.mem_cons.mp hp with e | e
    · exact .inr ⟨e ▸ .head _, fun q => nd'.1 (by have := r.hasName; rw [← q, e] at this; exact this)⟩
    · exact (ih nd'.2 p e).imp id fun e => ⟨.tail _ e.1, e.2⟩

def Mp.add (f : Mp) (a : Addr) (o : Obj) : Mp := fun b => if b = a then some o else f b
theorem Mp.add_self (f : Mp) (a : Addr) (o : Obj) : Mp.add f a o a = some o := by simp [Mp.add]
theorem Mp.add_ne {f : Mp} {a b : Addr} {o : Obj} (h : b ≠ a) : Mp.add f a o b = f b := by simp [Mp.add, h]
theorem Le.add {f : Mp} {a : Addr} {o : Obj} (h : f a = none) : Le f (Mp.add f a o) := fun b o' e => by
  rw [Mp.add_ne]; exact e
  rintro rfl; rw [h] at e; cases e

structure Cx where
  prog : Program
  w : World
  K : Frag
  p : Program
  loose : List Str
  mean : ExcName → Option Value
  mg : Str → Option Value
  mb : Str → Option Value
  base : Heap
  s₀ : Shared
  C : Addr
  k : K.In base
  t : Top p loose mean mg mb base

structure Fm where
  env : Env
  A : Around
  lv : Nat
  own : Bool
  cap : List (Str × D)
  kind : env.scope.kind = .function
  glob : env.globals = mainGlobals
  blt : env.builtins = builtinsNs
  hand : A.handled = none
  depth : A.depth + lv < recursionLimit
  units : A.units + 8 * lv + 40 < cLine
  cells : env.cells.Pairwise fun x y => x.2 ≠ y.2

def SlotIs (f : Mp) (h : Heap) (ov : Option Value) : Slot → Prop
  | .unset => True
  | .dat d => ∃ v, ov = some v ∧ Rd f v d
  | .own a ds => ov = some (.ref a) ∧ ∃ vs : List Value, h.PlainList a vs.toArray ∧ RdL f vs ds
def VarIs (F : Fm) (h : Heap) (m : Str → Option Value) (x : Str) (ov : Option Value) : Prop :=
  (F.env.kindOf x = some .local ∧ ov = m x) ∨ (F.env.kindOf x = some .cell ∧ F.own = true ∧ ∃ c, F.env.cells.lookup x = some c ∧ h.IsCell c ov)
def entD (e : Str × Str) : D := .tup [.str e.1, .str e.2]
def HdIs (X : Cx) (f : Mp) (h : Heap) : Option Hd → Prop
  | none => True
  | some d => ∃ dx n hs t, f d.x = some (instObj X.C dx) ∧ f dx = some (dictOf [⟨hs, .str "_headers" t, .ref d.H⟩] n) ∧ ∃ vs : List Value, h.PlainList d.H vs.toArray ∧ RdL f vs (d.es.map entD)

structure Sat (X : Cx) (F : Fm) (st : St) (f P : Mp) (h : Heap) : Prop where
  sub : Sub f h
  pro : Sub P h
  base : ∀ b o, X.base.get? b = some o → f b = some o
  disj : ∀ b o, f b = some o → P b = none
  names : (st.vars.map (·.1)).Nodup
  vars : ∃ m, h.Ns F.env.locals m ∧ ∀ p ∈ st.vars, ∃ ov, VarIs F h m p.1 ov ∧ SlotIs f h ov p.2
  mL : f F.env.locals = none ∧ P F.env.locals = none
  mC : F.own = true → ∀ p ∈ F.env.cells, f p.2 = none ∧ P p.2 = none
  lC : F.own = true → ∀ p ∈ F.env.cells, ∃ v, h.IsCell p.2 v
  mO : ∀ p ∈ st.vars, ∀ a ds, p.2 = .own a ds → f a = none ∧ P a = none
  inj : ∀ p ∈ st.vars, ∀ q ∈ st.vars, ∀ a ds ds', p.2 = .own a ds → q.2 = .own a ds' → p.1 = q.1
  cap : ∀ p ∈ F.cap, ∃ c o v, F.env.cells.lookup p.1 = some c ∧ P c = some o ∧ o.data = .cell (some v) ∧ Rd f v p.2
  hdr : HdIs X f h st.hdr
  mH : ∀ d, st.hdr = some d → f d.H = none ∧ P d.H = none ∧ ∀ p ∈ st.vars, ∀ a ds, p.2 = .own a ds → a ≠ d.H

def Irr (F : Fm) (st : St) (f P : Mp) (x : Addr) : Prop :=
  f x = none ∧ P x = none ∧ F.env.locals ≠ x ∧ (F.own = true → ∀ p ∈ F.env.cells, p.2 ≠ x) ∧ (∀ p ∈ st.vars, ∀ a ds, p.2 = .own a ds → a ≠ x) ∧ (∀ d, st.hdr = some d → d.H ≠ x)

theorem mem_lookup {α : Type} {l : List (Str × α)} {n : Str} {c : α} (h : l.lookup n = some c) : (n, c) ∈ l := mem_of_lookup h

section
variable {X : Cx} {F : Fm} {st : St} {f P : Mp} {h h' : Heap} {a : Addr} {o : Obj}
theorem Sat.k (S : Sat X F st f P h) : X.K.In h := X.k.keeps fun b o e => S.sub b o (S.base b o e)
theorem Sat.t (S : Sat X F st f P h) : Top X.p X.loose X.mean X.mg X.mb h := X.t.keeps fun b o e => S.sub b o (S.base b o e)
theorem ns_at {h h' : Heap} {a : Addr} {m : Str → Option Value} (n : h.Ns a m) (hk : ∀ o, h.get? a = some o → h'.get? a = some o) : h'.Ns a m :=
  let ⟨o, es, ep, e, r⟩ := n; ⟨o, es, ep, hk o e, r⟩
theorem cell_at {h h' : Heap} {c : Addr} {v : Option Value} (n : h.IsCell c v) (hk : ∀ o, h.get? c = some o → h'.get? c = some o) : h'.IsCell c v :=
  let ⟨o, e, r⟩ := n; ⟨o, hk o e, r⟩
theorem Sat.move (S : Sat X F st f P h) (hk : ∀ b o, h.get? b = some o → h'.get? b = some o ∨ Irr F st f P b) : Sat X F st f P h' := by
  refine ⟨fun b o e => ?_, fun b o e => ?_, S.base, S.disj, S.names, ?_, S.mL, S.mC, fun q p hp => ?_, S.mO, S.inj, S.cap, ?_, S.mH⟩
  · rcases hk b o (S.sub b o e) with q | q
    · exact q
    · rw [q.1] at e; cases e
  · rcases hk b o (S.pro b o e) with q | q
    · exact q
    · rw [q.2.1] at e; cases e
  · obtain ⟨m, hn, hv⟩ := S.vars
    refine ⟨m, ns_at hn fun o e => ?_, fun p hp => ?_⟩
    · rcases hk _ o e with q | q
      · exact q
      · exact absurd rfl q.2.2.1
    · obtain ⟨ov, hvar, hsl⟩ := hv p hp
      refine ⟨ov, ?_, ?_⟩
      · rcases hvar with q | ⟨q1, q2, c, q3, q4⟩
        · exact .inl q
        · refine .inr ⟨q1, q2, c, q3, cell_at q4 fun o e => ?_⟩
          rcases hk _ o e with q | q
          · exact q
          · exact absurd rfl (q.2.2.2.1 q2 _ (mem_lookup q3))
      · cases hs : p.2 with
        | unset => trivial
        | dat d => rw [hs] at hsl; exact hsl
        | own a ds =>
          rw [hs] at hsl
          obtain ⟨e1, vs, e2, e3⟩ := hsl
          refine ⟨e1, vs, e2.at fun o e => ?_, e3⟩
          rcases hk _ o e with q | q
          · exact q
          · exact absurd rfl (q.2.2.2.2.1 p hp a ds hs)
  · obtain ⟨v, o, e, d⟩ := S.lC q p hp
    rcases hk _ o e with r | r
    · exact ⟨v, o, r, d⟩
    · exact absurd rfl (r.2.2.2.1 q p hp)
  · have hh := S.hdr
    cases hd : st.hdr with
    | none => trivial
    | some d =>
      rw [hd] at hh
      obtain ⟨dx, n, hs, t, e1, e2, vs, e3, e4⟩ := hh
      refine ⟨dx, n, hs, t, e1, e2, vs, e3.at fun o e => ?_, e4⟩
      rcases hk _ o e with q | q
      · exact q
      · exact absurd rfl (q.2.2.2.2.2 d hd)
theorem Sat.keep (S : Sat X F st f P h) (hk : ∀ b o, h.get? b = some o → h'.get? b = some o) : Sat X F st f P h' := S.move fun b o e => .inl (hk b o e)

theorem none_size {h : Heap} {a : Addr} (ha : h.objs.size ≤ a) : h.get? a = none := by
  cases e : h.get? a with
  | none => rfl
  | some o => exact absurd (Heap.lt_size e) (Nat.not_lt.mpr ha)
theorem Sub.none {f : Mp} {h : Heap} (s : Sub f h) {a : Addr} (ha : h.get? a = Option.none) : f a = Option.none := by
  cases e : f a with
  | none => rfl
  | some o => rw [s a o e] at ha; cases ha

theorem slot_mono {f f' : Mp} (le : Le f f') {h : Heap} {ov : Option Value} {sl : Slot} (s : SlotIs f h ov sl) : SlotIs f' h ov sl := by
  cases sl with
  | unset => trivial
  | dat d => obtain ⟨v, e, r⟩ := s; exact ⟨v, e, r.mono le⟩
  | own a ds => obtain ⟨e, vs, q, r⟩ := s; exact ⟨e, vs, q, r.mono le⟩
theorem hd_mono {f f' : Mp} (le : Le f f') {h : Heap} {hd : Option Hd} (s : HdIs X f h hd) : HdIs X f' h hd := by
  cases hd with
  | none => trivial
  | some d => obtain ⟨dx, n, hs, t, e1, e2, vs, e3, e4⟩ := s; exact ⟨dx, n, hs, t, le _ _ e1, le _ _ e2, vs, e3, e4.mono le⟩

/-- more is frozen: an object that is in no other part -/
theorem Sat.freeze (S : Sat X F st f P h) {a : Addr} {o : Obj} (ho : h.get? a = some o) (irr : Irr F st f P a) : Sat X F st (Mp.add f a o) P h := by
  have le : Le f (Mp.add f a o) := .add irr.1
  have ne : ∀ {b : Addr}, f b = none → b ≠ a → Mp.add f a o b = none := fun e q => by rw [Mp.add_ne q]; exact e
  refine ⟨fun b o' e => ?_, S.pro, fun b o' e => le b o' (S.base b o' e), fun b o' e => ?_, S.names, ?_, ⟨ne S.mL.1 irr.2.2.1, S.mL.2⟩, fun q p hp => ⟨ne (S.mC q p hp).1 (irr.2.2.2.1 q p hp), (S.mC q p hp).2⟩, S.lC,
    fun p hp b ds e => ⟨ne (S.mO p hp b ds e).1 (irr.2.2.2.2.1 p hp b ds e), (S.mO p hp b ds e).2⟩, S.inj, fun p hp => ?_, hd_mono le S.hdr, fun d hd => ⟨ne (S.mH d hd).1 (irr.2.2.2.2.2 d hd), (S.mH d hd).2⟩⟩
  · by_cases q : b = a
    · subst q; rw [Mp.add_self] at e; cases e; exact ho
    · rw [Mp.add_ne q] at e; exact S.sub b o' e
  · by_cases q : b = a
    · subst q; exact irr.2.1
    · rw [Mp.add_ne q] at e; exact S.disj b o' e
  · obtain ⟨m, hn, hv⟩ := S.vars
    refine ⟨m, hn, fun p hp => ?_⟩
    obtain ⟨ov, a1, a2⟩ := hv p hp
    exact ⟨ov, a1, slot_mono le a2⟩
  · obtain ⟨c, o', v, e1, e2, e3, e4⟩ := S.cap p hp
    exact ⟨c, o', v, e1, e2, e3, e4.mono le⟩
theorem Sat.fresh (S : Sat X F st f P h) : Irr F st f P h.objs.size := by
  have nn : h.get? h.objs.size = none := none_size (Nat.le_refl _)
  obtain ⟨m, hn, hv⟩ := S.vars
  refine ⟨S.sub.none nn, S.pro.none nn, Nat.ne_of_lt hn.lt, fun q p hp => ?_, fun p hp a ds e => ?_, fun d hd => ?_⟩
  · obtain ⟨v, e⟩ := S.lC q p hp
    exact Nat.ne_of_lt e.lt
  · obtain ⟨ov, a1, a2⟩ := hv p hp
    rw [e] at a2
    obtain ⟨_, vs, ⟨n, g⟩, _⟩ := a2
    exact Nat.ne_of_lt (Heap.lt_size g)
  · have hh := S.hdr
    rw [hd] at hh
    obtain ⟨dx, n, hs, t, e1, e2, vs, ⟨n', g⟩, e4⟩ := hh
    exact Nat.ne_of_lt (Heap.lt_size g)

theorem Sat.alloc (S : Sat X F st f P h) (o : Obj) (hf : o.isFreed = false := by with_unfolding_all rfl) : Sat X F st (Mp.add f h.objs.size o) P (h.push o) :=
  (S.keep fun b o' e => Heap.get?_push_of_some o e).freeze (Heap.get?_push_size _ hf) S.fresh
/-- an object is pinned -/
theorem Sat.pin (S : Sat X F st f P h) {a : Addr} {o : Obj} (ho : h.get? a = some o) (irr : Irr F st f P a) : Sat X F st f (Mp.add P a o) h := by
  have ne : ∀ {b : Addr}, P b = none → b ≠ a → Mp.add P a o b = none := fun e q => by rw [Mp.add_ne q]; exact e
  refine ⟨S.sub, fun b o' e => ?_, S.base, fun b o' e => ?_, S.names, S.vars, ⟨S.mL.1, ne S.mL.2 irr.2.2.1⟩, fun q p hp => ⟨(S.mC q p hp).1, ne (S.mC q p hp).2 (irr.2.2.2.1 q p hp)⟩, S.lC,
    fun p hp b ds e => ⟨(S.mO p hp b ds e).1, ne (S.mO p hp b ds e).2 (irr.2.2.2.2.1 p hp b ds e)⟩, S.inj, fun p hp => ?_, S.hdr, fun d hd => ⟨(S.mH d hd).1, ne (S.mH d hd).2.1 (irr.2.2.2.2.2 d hd), (S.mH d hd).2.2⟩⟩
  · by_cases q : b = a
    · subst q; rw [Mp.add_self] at e; cases e; exact ho
    · rw [Mp.add_ne q] at e; exact S.pro b o' e
  · refine ne (S.disj b o' e) ?_
    rintro rfl; rw [irr.1] at e; cases e
  · obtain ⟨c, o', v, e1, e2, e3, e4⟩ := S.cap p hp
    exact ⟨c, o', v, e1, Le.add irr.2.1 _ _ e2, e3, e4⟩
theorem Sat.pinned (S : Sat X F st f (Mp.add P a o) h) : h.get? a = some o := S.pro a o (Mp.add_self ..)
theorem Sat.unpin {a : Addr} {o : Obj} (S : Sat X F st f (Mp.add P a o) h) (hP : P a = none) (hc : ∀ v, o.data ≠ .cell (some v)) : Sat X F st f P h := by
  have ne : ∀ {b : Addr}, Mp.add P a o b = none → P b = none := fun {b} e => by
    by_cases q : b = a
    · subst q; exact hP
    · rwa [Mp.add_ne q] at e
  refine ⟨S.sub, fun b o' e => S.pro b o' (Le.add hP _ _ e), S.base, fun b o' e => ne (S.disj b o' e), S.names, S.vars, ⟨S.mL.1, ne S.mL.2⟩, fun q p hp => ⟨(S.mC q p hp).1, ne (S.mC q p hp).2⟩, S.lC,
    fun p hp b ds e => ⟨(S.mO p hp b ds e).1, ne (S.mO p hp b ds e).2⟩, S.inj, fun p hp => ?_, S.hdr, fun d hd => ⟨(S.mH d hd).1, ne (S.mH d hd).2.1, (S.mH d hd).2.2⟩⟩
  obtain ⟨c, o', v, e1, e2, e3, e4⟩ := S.cap p hp
  refine ⟨c, o', v, e1, ?_, e3, e4⟩
  by_cases q : c = a
  · subst q; rw [Mp.add_self] at e2; cases e2; exact absurd e3 (hc v)
  · rwa [Mp.add_ne q] at e2
theorem Sat.irr {a : Addr} {o : Obj} (S : Sat X F st f (Mp.add P a o) h) (hP : P a = none) : Irr F st f P a := by
  have ne : ∀ {b : Addr}, Mp.add P a o b = none → b ≠ a := fun {b} e q => by subst q; rw [Mp.add_self] at e; cases e
  refine ⟨?_, hP, ne S.mL.2, fun q p hp => ne (S.mC q p hp).2, fun p hp b ds e => ne (S.mO p hp b ds e).2, fun d hd => ne (S.mH d hd).2.1⟩
  cases e : f a with
  | none => rfl
  | some o' => have := S.disj a o' e; rw [Mp.add_self] at this; cases this
end
end Mine

open PySem PySem.W PyProof.Rows
set_option Elab.async false
set_option maxRecDepth 100000
set_option linter.unusedVariables false
namespace Mine
open PySem.Calls

def Same (X : Cx) (s : Shared) : Prop := ∃ h tk, s = { X.s₀ with heap := h, toks := tk }
theorem Same.next {X : Cx} {s : Shared} (e : Same X s) (h : Heap) (tk : Nat) : Same X { s with heap := h, toks := tk } := by
  obtain ⟨h', tk', rfl⟩ := e; exact ⟨h, tk, rfl⟩
def Post (X : Cx) (F : Fm) (P f : Mp) {α : Type} (Q : α → St → Mp → Prop) (v : α) (s' : Shared) : Prop := Same X s' ∧ ∃ f' st', Le f f' ∧ Sat X F st' f' P s'.heap ∧ Q v st' f'
def NoE (_ : Value) (_ : Shared) : Prop := False
def Wp (X : Cx) (F : Fm) {α : Type} (t : Sem α) (st : St) (f : Mp) (Q : α → St → Mp → Prop) : Prop :=
  ∀ P s, Same X s → Sat X F st f P s.heap → wpAny (model X.prog X.w) F.A t (Post X F P f Q) NoE s

section
variable {X : Cx} {F : Fm} {st : St} {f : Mp} {α β : Type}
theorem Post.mono {P : Mp} {Q Q' : α → St → Mp → Prop} {v : α} {s' : Shared} (h : Post X F P f Q v s') (hq : ∀ st' f', Le f f' → Q v st' f' → Q' v st' f') : Post X F P f Q' v s' :=
  let ⟨a, f', st', le, S', q⟩ := h; ⟨a, f', st', le, S', hq st' f' le q⟩
theorem Post.up {P f₁ : Mp} {Q : α → St → Mp → Prop} {v : α} {s' : Shared} (le : Le f f₁) (h : Post X F P f₁ Q v s') : Post X F P f Q v s' :=
  let ⟨a, f', st', le', r⟩ := h; ⟨a, f', st', le.trans le', r⟩
theorem Post.here {P : Mp} {Q : α → St → Mp → Prop} {v : α} {s' : Shared} (hs : Same X s') (S : Sat X F st f P s'.heap) (h : Q v st f) : Post X F P f Q v s' := ⟨hs, f, st, .refl f, S, h⟩
theorem Wp.mono {t : Sem α} {Q Q' : α → St → Mp → Prop} (h : Wp X F t st f Q) (hq : ∀ v st' f', Le f f' → Q v st' f' → Q' v st' f') : Wp X F t st f Q' := fun P s hs S =>
  wpAny_mono (h P s hs S) (fun v s' p => p.mono fun st' f' => hq v st' f') fun _ _ e => e
theorem Wp.pure {a : α} {Q : α → St → Mp → Prop} (h : Q a st f) : Wp X F (pure a) st f Q := fun P s hs S => wpAny_pure (.here hs S h)
/-- from a rule of the library: what it wants behind it -/
theorem Wp.then {t : Sem α} {Q : α → St → Mp → Prop} {P : Mp} {s : Shared} (h : Wp X F t st f Q) (hs : Same X s) (S : Sat X F st f P s.heap) {R : α → Shared → Prop}
    (hr : ∀ v s' f' st', Same X s' → Le f f' → Sat X F st' f' P s'.heap → Q v st' f' → R v s') : wpAny (model X.prog X.w) F.A t R NoE s :=
  wpAny_mono (h P s hs S) (fun v s' ⟨a, f', st', le, S', q⟩ => hr v s' f' st' a le S' q) fun _ _ e => e
/-- the last part of a piece -/
theorem Wp.last {t : Sem α} {Q : α → St → Mp → Prop} {P f₀ : Mp} {s : Shared} (h : Wp X F t st f Q) (le : Le f₀ f) (hs : Same X s) (S : Sat X F st f P s.heap) : wpAny (model X.prog X.w) F.A t (Post X F P f₀ Q) NoE s :=
  wpAny_mono (h P s hs S) (fun v s' p => p.up le) fun _ _ e => e
theorem Wp.bind {t : Sem α} {k : α → Sem β} {Q : β → St → Mp → Prop} (h : Wp X F t st f (fun v st' f' => Wp X F (k v) st' f' Q)) : Wp X F (t >>= k) st f Q := fun P s hs S =>
  wpAny_bind (h.then hs S fun v s' f' st' hs' le S' q => q.last le hs' S')
theorem Wp.toks {t : Sem α} {Q : α → St → Mp → Prop} (mk : Tok → α) (h : ∀ (s : Shared) (R : α → Shared → Prop), (∀ t k, R (mk t) { s with toks := k }) → wpAny (model X.prog X.w) F.A t R NoE s) (hq : ∀ t, Q (mk t) st f) : Wp X F t st f Q :=
  fun P s hs S => h s _ fun t k => .here (hs.next _ _) S (hq t)
end

theorem Fm.inter (F : Fm) : interactive F.env = false := by unfold interactive; rw [F.kind]; rfl
def Ev (X : Cx) (F : Fm) (e : Expr) (st : St) (Q : D → St → Prop) : Prop := ∀ f, Wp X F (eval e F.env) st f fun v st' f' => ∃ d, Rd f' v d ∧ Q d st'
def BinOk (X : Cx) (F : Fm) (op : Operator) (d₁ d₂ : D) (st : St) (Q : D → St → Prop) : Prop :=
  ∀ f v₁ v₂, Rd f v₁ d₁ → Rd f v₂ d₂ → Wp X F (binaryOp op v₁ v₂) st f fun v st' f' => ∃ d, Rd f' v d ∧ Q d st'
def CmpOk (X : Cx) (F : Fm) (op : CmpOp) (d₁ d₂ : D) (st : St) (Q : Bool → St → Prop) : Prop :=
  ∀ f v₁ v₂, Rd f v₁ d₁ → Rd f v₂ d₂ → Wp X F (compareOp op v₁ v₂) st f fun v st' f' => ∃ b, v = .bool b ∧ Q b st'
def Tst (X : Cx) (F : Fm) (e : Expr) (st : St) (Q : Bool → St → Prop) : Prop := ∀ f, Wp X F (isTrue e F.env (eval e F.env)) st f fun b st' _ => Q b st'
def TruOk (X : Cx) (F : Fm) (d : D) (st : St) (Q : Bool → St → Prop) : Prop := ∀ f v, Rd f v d → Wp X F (truthy v) st f fun b st' _ => Q b st'

section
variable {X : Cx} {F : Fm} {st : St} {Q : D → St → Prop}

theorem Ev.mono {e : Expr} {Q' : D → St → Prop} (h : Ev X F e st Q) (hq : ∀ d st', Q d st' → Q' d st') : Ev X F e st Q' := fun f => (h f).mono fun _ _ _ _ ⟨d, r, q⟩ => ⟨d, r, hq _ _ q⟩

theorem Ev.binop {l r : Expr} {op : Operator} {pos : Pos} (h : Ev X F l st fun d₁ st₁ => Ev X F r st₁ fun d₂ st₂ => BinOk X F op d₁ d₂ st₂ Q) : Ev X F (.BinOp l op r pos) st Q := fun f P s hs S =>
  wpAny_BinOp ((h f).then hs S fun v₁ s₁ f₁ st₁ hs₁ le₁ S₁ ⟨d₁, r₁, h₁⟩ => (h₁ f₁).then hs₁ S₁ fun v₂ s₂ f₂ st₂ hs₂ le₂ S₂ ⟨d₂, r₂, h₂⟩ =>
    (h₂ f₂ v₁ v₂ (r₁.mono le₂) r₂).last (le₁.trans le₂) hs₂ S₂)
theorem Ev.cmp {l r : Expr} {op : CmpOp} {pos : Pos} (h : Ev X F l st fun d₁ st₁ => Ev X F r st₁ fun d₂ st₂ => CmpOk X F op d₁ d₂ st₂ fun b st' => Q (.bool b) st')
    (hm : behindInMarks op r = false := by with_unfolding_all rfl) : Ev X F (.Compare l [op] [r] pos) st Q := fun f P s hs S =>
  wpAny_Compare1 ((h f).then hs S fun v₁ s₁ f₁ st₁ hs₁ le₁ S₁ ⟨d₁, r₁, h₁⟩ => (h₁ f₁).then hs₁ S₁ fun v₂ s₂ f₂ st₂ hs₂ le₂ S₂ ⟨d₂, r₂, h₂⟩ =>
    ((h₂ f₂ v₁ v₂ (r₁.mono le₂) r₂).mono fun v st' f' _ ⟨b, e, q⟩ => ⟨.bool b, e ▸ .bool b, q⟩).last (le₁.trans le₂) hs₂ S₂) hm
theorem Tst.cmp {l r : Expr} {op : CmpOp} {pos : Pos} {Q : Bool → St → Prop} (h : Ev X F l st fun d₁ st₁ => Ev X F r st₁ fun d₂ st₂ => CmpOk X F op d₁ d₂ st₂ Q)
    (hm : behindInMarks op r = false := by with_unfolding_all rfl) : Tst X F (.Compare l [op] [r] pos) st Q := fun f P s hs S =>
  wpAny_isTrue_Compare1 ((h f).then hs S fun v₁ s₁ f₁ st₁ hs₁ le₁ S₁ ⟨d₁, r₁, h₁⟩ => (h₁ f₁).then hs₁ S₁ fun v₂ s₂ f₂ st₂ hs₂ le₂ S₂ ⟨d₂, r₂, h₂⟩ =>
    (h₂ f₂ v₁ v₂ (r₁.mono le₂) r₂).then hs₂ S₂ fun v s' f' st' hs' le' S' ⟨b, e, q⟩ => e ▸ wpAny_truthy_bool ⟨hs', f', st', (le₁.trans le₂).trans le', S', q⟩) hm
theorem Ev.ifexp {t b o : Expr} {pos : Pos} (h : Tst X F t st fun c st' => if c then Ev X F b st' Q else Ev X F o st' Q) : Ev X F (.IfExp t b o pos) st Q := fun f => by
  show Wp X F (isTrue t F.env (eval t F.env) >>= fun c => if c then eval b F.env else eval o F.env) st f _
  refine Wp.bind ((h f).mono fun c st' f' le q => ?_)
  cases c
  · exact q f'
  · exact q f'
theorem Tst.plain {e : Expr} {Q : Bool → St → Prop} (he : ∀ env whole, isTrue e env whole = (do let v ← whole; standAt e.pos; holding [v] (truthy v))) (h : Ev X F e st fun d st' => TruOk X F d st' Q) : Tst X F e st Q := fun f P s hs S => by
  rw [he]
  exact wpAny_bind ((h f).then hs S fun v s₁ f₁ st₁ hs₁ le₁ S₁ ⟨d, r, q⟩ => wpAny_bind (wpAny_standAt (wpAny_holding ((q f₁ v r).last le₁ hs₁ S₁))))
theorem TruOk.bool {b : Bool} {Q : Bool → St → Prop} (h : Q b st) : TruOk X F (.bool b) st Q := fun f v r => by
  cases r
  exact fun P s hs S => wpAny_truthy_bool ⟨hs, f, st, .refl f, S, h⟩

theorem Ev.c_int {i : Int} {k : Nat} {pos : Pos} (h : Q (.int i) st) : Ev X F (.Constant (.int i) k pos) st Q := fun f =>
  Wp.toks (fun t => .int i t) (fun s R h => wpAny_Constant_int (h _ _)) fun t => ⟨_, .int i t, h⟩
theorem Ev.c_flt {x : UInt64} {k : Nat} {pos : Pos} (h : Q (.flt x) st) : Ev X F (.Constant (.float x) k pos) st Q := fun f =>
  Wp.toks (fun t => .float x t) (fun s R h => wpAny_Constant_float (h _ _)) fun t => ⟨_, .flt x t, h⟩
theorem Ev.c_str {x : Str} {k : Nat} {pos : Pos} (h : Q (.str x) st) : Ev X F (.Constant (.str x) k pos) st Q := fun f =>
  Wp.toks (fun t => .str x t) (fun s R h => Constant_str (h _ _)) fun t => ⟨_, .str x t, h⟩
theorem Ev.c_bool {b : Bool} {k : Nat} {pos : Pos} (h : Q (.bool b) st) : Ev X F (.Constant (.bool b) k pos) st Q := fun f => Wp.pure ⟨_, .bool b, h⟩
theorem Ev.c_none {k : Nat} {pos : Pos} (h : Q .none st) : Ev X F (.Constant .none k pos) st Q := fun f => Wp.pure ⟨_, .none, h⟩

theorem Sat.var {st : St} {f P : Mp} {h : Heap} (S : Sat X F st f P h) {x : Str} {sl : Slot} (hm : (x, sl) ∈ st.vars) : ∃ m ov, h.Ns F.env.locals m ∧ VarIs F h m x ov ∧ SlotIs f h ov sl := by
  obtain ⟨m, hn, hv⟩ := S.vars
  obtain ⟨ov, a, b⟩ := hv _ hm
  exact ⟨m, ov, hn, a, b⟩
theorem load_var {m : Str → Option Value} {s : Shared} {x : Str} {v : Value} {R : Value → Shared → Prop} (hn : s.heap.Ns F.env.locals m) (hv : VarIs F s.heap m x (some v)) (h : R v s) :
    wpAny (model X.prog X.w) F.A (loadName F.env x) R NoE s := by
  rcases hv with ⟨a, b⟩ | ⟨a, _, c, b, d⟩
  · exact wpAny_loadName_local F.kind a hn b.symm h
  · exact wpAny_loadName_cell F.kind a b d h
theorem Ev.name {x : Str} {d : D} {pos : Pos} (hm : (x, Slot.dat d) ∈ st.vars) (h : Q d st) (hd : (x == ("__debug__" : Str)) = false := by decide) : Ev X F (.Name x pos) st Q := fun f P s hs S => by
  obtain ⟨m, ov, hn, hv, v, rfl, r⟩ := S.var hm
  exact wpAny_Name (load_var hn hv ⟨hs, f, st, .refl f, S, d, r, h⟩) hd
theorem Ev.cap {x : Str} {d : D} {pos : Pos} (hm : (x, d) ∈ F.cap) (h : Q d st) (hk : F.env.kindOf x = some .cell ∨ F.env.kindOf x = some .free) (hd : (x == ("__debug__" : Str)) = false := by decide) (hc : (x == ("__classdict__" : Str)) = false := by decide) : Ev X F (.Name x pos) st Q := fun f P s hs S => by
  obtain ⟨c, o, v, e1, e2, e3, r⟩ := S.cap _ hm
  have hcell : s.heap.IsCell c (some v) := ⟨o, S.pro c o e2, e3⟩
  rcases hk with hk | hk
  · exact wpAny_Name (wpAny_loadName_cell F.kind hk e1 hcell ⟨hs, f, st, .refl f, S, d, r, h⟩) hd
  · exact wpAny_Name (wpAny_loadName_free F.kind hk e1 hcell ⟨hs, f, st, .refl f, S, d, r, h⟩ hc) hd
theorem Ev.glob {x : Str} {v : Value} {pos : Pos} (he : nsIn X.K mainGlobals x = some (some v)) (h : Q (.val v) st) (hx : F.env.kindOf x = some .globalImplicit) (hd : (x == ("__debug__" : Str)) = false := by decide) : Ev X F (.Name x pos) st Q := fun f P s hs S => by
  refine Name_function_global F.kind hx (loadGlobal_global (mg := X.mg) (F.glob ▸ S.t.g) (mg_of X.k X.t.g he) ⟨hs, f, st, .refl f, S, _, .val v, h⟩) hd
theorem Ev.blt {x : Str} {v : Value} {pos : Pos} (he : nsIn X.K mainGlobals x = some none) (hv : bootBuiltins x = some v) (hn : x ≠ "__name__") (h : Q (.val v) st) (hx : F.env.kindOf x = some .globalImplicit) (hd : (x == ("__debug__" : Str)) = false := by decide) : Ev X F (.Name x pos) st Q := fun f P s hs S => by
  refine Name_function_global F.kind hx (loadGlobal_builtin (mg := X.mg) (F.glob ▸ S.t.g) (mg_none_of X.k X.t.g he) (F.blt ▸ S.t.b) ((S.t.builtins x hn).trans hv) ⟨hs, f, st, .refl f, S, _, .val v, h⟩) hd
end
end Mine

open PySem PySem.W PyProof.Rows
set_option Elab.async false
set_option maxRecDepth 100000
set_option linter.unusedVariables false
namespace Mine
open PySem.Calls

section
variable {X : Cx} {F : Fm} {st : St} {Q : D → St → Prop}

/-- an operation on values that are no objects: a rule of the library that only takes tokens -/
theorem BinOk.of {op : Operator} {d₁ d₂ : D} {mk : Tok → Value} {d : D} (hd : ∀ f t, Rd f (mk t) d)
    (h : ∀ f v₁ v₂, Rd f v₁ d₁ → Rd f v₂ d₂ → ∀ (s : Shared) (R : Value → Shared → Prop), (∀ t k, R (mk t) { s with toks := k }) → wpAny (model X.prog X.w) F.A (binaryOp op v₁ v₂) R NoE s) (hq : Q d st) : BinOk X F op d₁ d₂ st Q := fun f v₁ v₂ r₁ r₂ =>
  Wp.toks mk (h f v₁ v₂ r₁ r₂) fun t => ⟨d, hd f t, hq⟩
theorem CmpOk.of {op : CmpOp} {d₁ d₂ : D} {b : Bool} {Q : Bool → St → Prop}
    (h : ∀ f v₁ v₂, Rd f v₁ d₁ → Rd f v₂ d₂ → ∀ (s : Shared) (R : Value → Shared → Prop), R (.bool b) s → wpAny (model X.prog X.w) F.A (compareOp op v₁ v₂) R NoE s) (hq : Q b st) : CmpOk X F op d₁ d₂ st Q := fun f v₁ v₂ r₁ r₂ =>
  fun P s hs S => h f v₁ v₂ r₁ r₂ s _ (.here hs S ⟨b, rfl, hq⟩)

theorem b_addI {a b : Int} (h : Q (.int (a + b)) st) : BinOk X F .Add (.int a) (.int b) st Q :=
  .of (mk := fun t => .int (a + b) t) (fun _ t => .int _ t) (fun f v₁ v₂ r₁ r₂ s R hR => by obtain ⟨_, rfl⟩ := r₁.inv; obtain ⟨_, rfl⟩ := r₂.inv; exact AutoIntOps.add_0 (hR _ _)) h
theorem b_subI {a b : Int} (h : Q (.int (a - b)) st) : BinOk X F .Sub (.int a) (.int b) st Q :=
  .of (mk := fun t => .int (a - b) t) (fun _ t => .int _ t) (fun f v₁ v₂ r₁ r₂ s R hR => by obtain ⟨_, rfl⟩ := r₁.inv; obtain ⟨_, rfl⟩ := r₂.inv; exact AutoIntOps.sub_0 (hR _ _)) h
theorem b_mulI {a b : Int} (hm : IntMulOk a b) (h : Q (.int (a * b)) st) : BinOk X F .Mult (.int a) (.int b) st Q :=
  .of (mk := fun t => .int (a * b) t) (fun _ t => .int _ t) (fun f v₁ v₂ r₁ r₂ s R hR => by obtain ⟨_, rfl⟩ := r₁.inv; obtain ⟨_, rfl⟩ := r₂.inv; exact AutoIntOps.mul_0 (hR _ _) hm) h
theorem b_modI {a b : Int} (hb : b ≠ 0) (h : Q (.int (a.fmod b)) st) : BinOk X F .Mod (.int a) (.int b) st Q :=
  .of (mk := fun t => .int (a.fmod b) t) (fun _ t => .int _ t) (fun f v₁ v₂ r₁ r₂ s R hR => by obtain ⟨_, rfl⟩ := r₁.inv; obtain ⟨_, rfl⟩ := r₂.inv; exact mod_int' hb (hR _ _)) h
theorem b_divI {a b : Int} (hb : b ≠ 0) (hs : b.natAbs < 1073741824) (h : Q (.int (a.fdiv b)) st) : BinOk X F .FloorDiv (.int a) (.int b) st Q :=
  .of (mk := fun t => .int (a.fdiv b) t) (fun _ t => .int _ t) (fun f v₁ v₂ r₁ r₂ s R hR => by
    obtain ⟨_, rfl⟩ := r₁.inv; obtain ⟨_, rfl⟩ := r₂.inv; exact AutoIntOps.floordiv_1 (by simpa using hb) (by rw [PyProof.noPylong_small hs]; exact Bool.false_ne_true) (hR _ _)) h
theorem b_powI {a n : Int} (hn : 0 ≤ n) (hsz : (Builtin.Int.intBits a : Int) * n ≤ 2 ^ 27) (h : Q (.int (a ^ n.toNat)) st) : BinOk X F .Pow (.int a) (.int n) st Q :=
  .of (mk := fun t => .int (a ^ n.toNat) t) (fun _ t => .int _ t) (fun f v₁ v₂ r₁ r₂ s R hR => by obtain ⟨_, rfl⟩ := r₁.inv; obtain ⟨_, rfl⟩ := r₂.inv; exact pow_int hn hsz (hR _ _)) h
/-- a / b of two ints -/
def qdiv (a b : Int) : UInt64 := Float64.ofFrac (decide (a < 0) != decide (b < 0)) a.natAbs b.natAbs
theorem b_quoI {a b : Int} (hb : b ≠ 0) (hi : Float64.isInf (qdiv a b) = false) (h : Q (.flt (qdiv a b)) st) : BinOk X F .Div (.int a) (.int b) st Q :=
  .of (mk := fun t => .float (qdiv a b) t) (fun _ t => .flt _ t) (fun f v₁ v₂ r₁ r₂ s R hR => by
    obtain ⟨_, rfl⟩ := r₁.inv; obtain ⟨_, rfl⟩ := r₂.inv; exact AutoIntOps.truediv_2 (by simpa using hb) (by show ¬ Float64.isInf (qdiv a b) = true; rw [hi]; exact Bool.false_ne_true) (hR _ _)) h
theorem b_addF {a b : UInt64} (h : Q (.flt (Float64.add a b)) st) : BinOk X F .Add (.flt a) (.flt b) st Q :=
  .of (mk := fun t => .float _ t) (fun _ t => .flt _ t) (fun f v₁ v₂ r₁ r₂ s R hR => by obtain ⟨_, rfl⟩ := r₁.inv; obtain ⟨_, rfl⟩ := r₂.inv; exact AutoFloatOps.add_0 (hR _ _)) h
theorem b_subF {a b : UInt64} (h : Q (.flt (Float64.sub a b)) st) : BinOk X F .Sub (.flt a) (.flt b) st Q :=
  .of (mk := fun t => .float _ t) (fun _ t => .flt _ t) (fun f v₁ v₂ r₁ r₂ s R hR => by obtain ⟨_, rfl⟩ := r₁.inv; obtain ⟨_, rfl⟩ := r₂.inv; exact AutoFloatOps.sub_0 (hR _ _)) h
theorem b_mulF {a b : UInt64} (h : Q (.flt (Float64.mul a b)) st) : BinOk X F .Mult (.flt a) (.flt b) st Q :=
  .of (mk := fun t => .float _ t) (fun _ t => .flt _ t) (fun f v₁ v₂ r₁ r₂ s R hR => by obtain ⟨_, rfl⟩ := r₁.inv; obtain ⟨_, rfl⟩ := r₂.inv; exact AutoFloatOps.mul_0 (hR _ _)) h
theorem b_divF {a b : UInt64} (hb : Float64.isZero b = false) (h : Q (.flt (Float64.div a b)) st) : BinOk X F .Div (.flt a) (.flt b) st Q :=
  .of (mk := fun t => .float _ t) (fun _ t => .flt _ t) (fun f v₁ v₂ r₁ r₂ s R hR => by obtain ⟨_, rfl⟩ := r₁.inv; obtain ⟨_, rfl⟩ := r₂.inv; exact AutoFloatOps.truediv_1 (by rw [hb]; exact Bool.false_ne_true) (hR _ _)) h
theorem b_modF {a b : UInt64} (hb : Float64.isZero b = false) (h : Q (.flt (Float64.divmod a b).2) st) : BinOk X F .Mod (.flt a) (.flt b) st Q :=
  .of (mk := fun t => .float _ t) (fun _ t => .flt _ t) (fun f v₁ v₂ r₁ r₂ s R hR => by obtain ⟨_, rfl⟩ := r₁.inv; obtain ⟨_, rfl⟩ := r₂.inv; exact AutoFloatOps.mod_1 (by rw [hb]; exact Bool.false_ne_true) (hR _ _)) h
theorem b_subFI {a : UInt64} {n : Int} (hn : n.natAbs < 2 ^ 1023) (h : Q (.flt (Float64.sub a (Float64.ofInt n))) st) : BinOk X F .Sub (.flt a) (.int n) st Q :=
  .of (mk := fun t => .float _ t) (fun _ t => .flt _ t) (fun f v₁ v₂ r₁ r₂ s R hR => by obtain ⟨_, rfl⟩ := r₁.inv; obtain ⟨_, rfl⟩ := r₂.inv; exact sub_fi_fits hn (hR _ _)) h
theorem b_mulIF {a : UInt64} {n : Int} (hn : n.natAbs < 2 ^ 1023) (h : Q (.flt (Float64.mul (Float64.ofInt n) a)) st) : BinOk X F .Mult (.int n) (.flt a) st Q :=
  .of (mk := fun t => .float _ t) (fun _ t => .flt _ t) (fun f v₁ v₂ r₁ r₂ s R hR => by obtain ⟨_, rfl⟩ := r₁.inv; obtain ⟨_, rfl⟩ := r₂.inv; exact mul_if_fits hn (hR _ _)) h
theorem b_subIF {a : UInt64} {n : Int} (hn : n.natAbs < 2 ^ 1023) (h : Q (.flt (Float64.sub (Float64.ofInt n) a)) st) : BinOk X F .Sub (.int n) (.flt a) st Q :=
  .of (mk := fun t => .float _ t) (fun _ t => .flt _ t) (fun f v₁ v₂ r₁ r₂ s R hR => by obtain ⟨_, rfl⟩ := r₁.inv; obtain ⟨_, rfl⟩ := r₂.inv; exact AutoFloatOps.sub_if_1 (Float64.ofInt_fits hn) (hR _ _)) h

variable {B : Bool → St → Prop}
theorem c_ltI {a b : Int} (h : B (decide (a < b)) st) : CmpOk X F .Lt (.int a) (.int b) st B := .of (fun f v₁ v₂ r₁ r₂ s R hR => by obtain ⟨_, rfl⟩ := r₁.inv; obtain ⟨_, rfl⟩ := r₂.inv; exact lt_int hR) h
theorem c_leI {a b : Int} (h : B (decide (a ≤ b)) st) : CmpOk X F .LtE (.int a) (.int b) st B := .of (fun f v₁ v₂ r₁ r₂ s R hR => by obtain ⟨_, rfl⟩ := r₁.inv; obtain ⟨_, rfl⟩ := r₂.inv; exact le_int hR) h
theorem c_gtI {a b : Int} (h : B (decide (b < a)) st) : CmpOk X F .Gt (.int a) (.int b) st B := .of (fun f v₁ v₂ r₁ r₂ s R hR => by obtain ⟨_, rfl⟩ := r₁.inv; obtain ⟨_, rfl⟩ := r₂.inv; exact gt_int hR) h
theorem c_eqI {a b : Int} (h : B (decide (a = b)) st) : CmpOk X F .Eq (.int a) (.int b) st B := .of (fun f v₁ v₂ r₁ r₂ s R hR => by obtain ⟨_, rfl⟩ := r₁.inv; obtain ⟨_, rfl⟩ := r₂.inv; exact eq_int hR) h
def feq (a b : UInt64) : Bool := Float64.cmp a b == some Ordering.eq
def flt (a b : UInt64) : Bool := Float64.cmp a b == some Ordering.lt
def fle (a b : UInt64) : Bool := Float64.cmp a b == some Ordering.lt || Float64.cmp a b == some Ordering.eq
theorem c_eqF {a b : UInt64} (h : B (feq a b) st) : CmpOk X F .Eq (.flt a) (.flt b) st B := .of (fun f v₁ v₂ r₁ r₂ s R hR => by obtain ⟨_, rfl⟩ := r₁.inv; obtain ⟨_, rfl⟩ := r₂.inv; exact AutoFloatOps.eq_0 hR) h
theorem c_ltF {a b : UInt64} (h : B (flt a b) st) : CmpOk X F .Lt (.flt a) (.flt b) st B := .of (fun f v₁ v₂ r₁ r₂ s R hR => by obtain ⟨_, rfl⟩ := r₁.inv; obtain ⟨_, rfl⟩ := r₂.inv; exact AutoFloatOps.lt_0 hR) h
theorem c_leF {a b : UInt64} (h : B (fle a b) st) : CmpOk X F .LtE (.flt a) (.flt b) st B := .of (fun f v₁ v₂ r₁ r₂ s R hR => by obtain ⟨_, rfl⟩ := r₁.inv; obtain ⟨_, rfl⟩ := r₂.inv; exact AutoFloatOps.le_0 hR) h
theorem c_eqS {a b : Str} (h : B (a == b) st) : CmpOk X F .Eq (.str a) (.str b) st B := .of (fun f v₁ v₂ r₁ r₂ s R hR => by obtain ⟨_, rfl⟩ := r₁.inv; obtain ⟨_, rfl⟩ := r₂.inv; exact eq_str hR) h

mutual
def D.py : D → PyData
  | .bool b => .bool b
  | .int i => .int i
  | .str s => .str s
  | .lst l => .list (pyAll l)
  | .tup l => .tuple (pyAll l)
  | _ => .none
def pyAll : List D → List PyData
  | [] => []
  | d :: r => d.py :: pyAll r
end
mutual
def D.ok : D → Bool
  | .none => true
  | .bool _ => true
  | .int _ => true
  | .str s => PyData.strOk s
  | .lst l => okAll l
  | .tup l => okAll l
  | _ => false
def okAll : List D → Bool
  | [] => true
  | d :: r => d.ok && okAll r
end
theorem okAll_cons {d : D} {ds : List D} (h : okAll (d :: ds) = true) : d.ok = true ∧ okAll ds = true := Bool.and_eq_true_iff.mp h
theorem Rd.reads {f : Mp} {h : Heap} (sub : Sub f h) {v : Value} {d : D} (r : Rd f v d) : d.ok = true → ∃ as, Reads h v d.py as := by
  refine Rd.rec (motive_1 := fun v d _ => d.ok = true → ∃ as, Reads h v d.py as) (motive_2 := fun vs ds _ => okAll ds = true → ∃ as, ReadsAll h vs (pyAll ds) as) (fun _ => ⟨_, .none⟩) (fun b _ => ⟨_, .bool b⟩) (fun i t _ => ⟨_, .int i t⟩) (fun _ _ e => ?_) (fun x t _ => ⟨_, .str x t⟩) (fun a b c _ ih hk => ?_) (fun a b c _ ih hk => ?_) (fun _ e => ?_) (fun _ _ e => ?_) (fun _ e => ?_) (fun _ => ⟨_, .nil⟩) (fun _ _ ih ih' hk => ?_) r
  · exact nomatch (show false = true from e)
  · obtain ⟨as, q⟩ := ih hk
    exact ⟨_, .list (sub _ _ a) b c q⟩
  · obtain ⟨as, q⟩ := ih hk
    exact ⟨_, .tuple (sub _ _ a) b c q⟩
  · exact nomatch (show false = true from e)
  · exact nomatch (show false = true from e)
  · exact nomatch (show false = true from e)
  · obtain ⟨as, q⟩ := ih (okAll_cons hk).1
    obtain ⟨bs, p⟩ := ih' (okAll_cons hk).2
    exact ⟨_, .cons q p⟩
mutual
theorem ok_lay : ∀ (d : D), d.ok = true → d.py.canLay0 = true
  | .none, _ => rfl
  | .bool _, _ => rfl
  | .int _, _ => rfl
  | .str s, h => by simpa [D.py, PyData.canLay0, D.ok] using h
  | .lst l, h => by rw [D.py, PyData.canLay0]; exact ok_layAll l (by simpa [D.ok] using h)
  | .tup l, h => by rw [D.py, PyData.canLay0]; exact ok_layAll l (by simpa [D.ok] using h)
  | .flt _, h => by simp [D.ok] at h
  | .rng _ _, h => by simp [D.ok] at h
  | .edict, h => by simp [D.ok] at h
  | .val _, h => by simp [D.ok] at h
theorem ok_layAll : ∀ (l : List D), okAll l = true → PyData.canLayAll0 (pyAll l) = true
  | [], _ => rfl
  | d :: r, h => by
    have h' := okAll_cons h
    rw [pyAll, PyData.canLayAll0, ok_lay d h'.1, ok_layAll r h'.2]; rfl
end
theorem c_eqD {d₁ d₂ : D} (h₁ : d₁.ok = true) (h₂ : d₂.ok = true) (hdp : d₁.py.depth ≤ 30) (h : B (PyData.eqv d₁.py d₂.py) st) : CmpOk X F .Eq d₁ d₂ st B := fun f v₁ v₂ r₁ r₂ P s hs S => by
  obtain ⟨as, q₁⟩ := r₁.reads S.sub h₁
  obtain ⟨bs, q₂⟩ := r₂.reads S.sub h₂
  exact SeqAt.compareEq_reads q₁ q₂ (ok_lay _ h₁) (ok_lay _ h₂) (by have := F.units; omega) (.here hs S ⟨_, rfl, h⟩)
theorem c_neD {d₁ d₂ : D} (h₁ : d₁.ok = true) (h₂ : d₂.ok = true) (hdp : d₁.py.depth ≤ 30) (h : B (!PyData.eqv d₁.py d₂.py) st) : CmpOk X F .NotEq d₁ d₂ st B := fun f v₁ v₂ r₁ r₂ P s hs S => by
  obtain ⟨as, q₁⟩ := r₁.reads S.sub h₁
  obtain ⟨bs, q₂⟩ := r₂.reads S.sub h₂
  exact SeqAt.compareNe_reads q₁ q₂ (ok_lay _ h₁) (ok_lay _ h₂) (by have := F.units; omega) (.here hs S ⟨_, rfl, h⟩)
/-- is it None -/
def D.isN : D → Option Bool
  | .none => some true
  | .val _ => Option.none
  | _ => some false
theorem isN_plain {f : Mp} {v : Value} {d : D} {b : Bool} (r : Rd f v d) (e : d.isN = some b) : plainIs v .none = true ∧ (v == .none) = b := by
  cases r <;> first | (cases e; exact ⟨rfl, rfl⟩) | cases e
theorem c_isNone {d : D} {b : Bool} (e : d.isN = some b) (h : B b st) : CmpOk X F .Is d .none st B := fun f v₁ v₂ r₁ r₂ P s hs S => by
  have e2 : v₂ = .none := r₂.inv
  subst e2
  obtain ⟨p, e⟩ := isN_plain r₁ e
  exact wpAny_is_plain p (.here hs S ⟨b, by rw [e], h⟩)
theorem c_isNotNone {d : D} {b : Bool} (e : d.isN = some b) (h : B (!b) st) : CmpOk X F .IsNot d .none st B := fun f v₁ v₂ r₁ r₂ P s hs S => by
  have e2 : v₂ = .none := r₂.inv
  subst e2
  obtain ⟨p, e⟩ := isN_plain r₁ e
  exact wpAny_isNot_plain p (.here hs S ⟨!b, by rw [e], h⟩)
theorem c_isTypeSame {n : String} (h : B true st) : CmpOk X F .Is (.val (.type n)) (.val (.type n)) st B := fun f v₁ v₂ r₁ r₂ P s hs S => by
  have e1 : v₁ = .type n := r₁.inv
  have e2 : v₂ = .type n := r₂.inv
  subst e1 e2
  exact wpAny_is_self rfl (.here hs S ⟨true, rfl, h⟩)
theorem c_isNotTypeSame {n : String} (h : B false st) : CmpOk X F .IsNot (.val (.type n)) (.val (.type n)) st B := fun f v₁ v₂ r₁ r₂ P s hs S => by
  have e1 : v₁ = .type n := r₁.inv
  have e2 : v₂ = .type n := r₂.inv
  subst e1 e2
  exact wpAny_isNot_self rfl (.here hs S ⟨false, rfl, h⟩)
end
end Mine

open PySem PySem.W PyProof.Rows
set_option Elab.async false
set_option maxRecDepth 100000
set_option linter.unusedVariables false
namespace Mine
open PySem.Calls

def EvA (X : Cx) (F : Fm) (pos : Pos) (es : List Expr) (st : St) (Q : List D → St → Prop) : Prop :=
  ∀ f, Wp X F (spliced (backTo pos (starEach es F.env))) st f fun vs st' f' => ∃ ds, RdL f' vs ds ∧ vs.length = es.length ∧ Q ds st'
def SubOk (X : Cx) (F : Fm) (value slice : Expr) (d i : D) (st : St) (Q : D → St → Prop) : Prop :=
  ∀ f o iv, Rd f o d → Rd f iv i → Wp X F (subscriptTail value slice o iv) st f fun v st' f' => ∃ d, Rd f' v d ∧ Q d st'
section
variable {X : Cx} {F : Fm} {st : St} {Q : D → St → Prop} {R : List D → St → Prop} {pos : Pos}
theorem EvA.nil (h : R [] st) : EvA X F pos [] st R := fun f => Wp.pure ⟨[], .nil, rfl, h⟩
theorem EvA.cons {e : Expr} {rest : List Expr} (h : Ev X F e st fun d st₁ => EvA X F pos rest st₁ fun ds st₂ => R (d :: ds) st₂)
    (he : starEach (e :: rest) F.env = (false, eval e F.env) :: starEach rest F.env := by with_unfolding_all rfl) : EvA X F pos (e :: rest) st R := fun f P s hs S => by
  rw [he]
  show wpAny _ _ (spliced ((false, eval e F.env) :: backTo pos (starEach rest F.env))) _ _ _
  exact spliced_cons ((h f).then hs S fun v s₁ f₁ st₁ hs₁ le₁ S₁ ⟨d, r, q⟩ => (q f₁).then hs₁ S₁ fun vs s₂ f₂ st₂ hs₂ le₂ S₂ ⟨ds, rs, hl, q₂⟩ =>
    ⟨hs₂, f₂, st₂, le₁.trans le₂, S₂, d :: ds, .cons (r.mono le₂) rs, by rw [List.length_cons, List.length_cons, hl], q₂⟩)

theorem new_seq {T : String} {its : Array Value} {f P : Mp} {s : Shared} {G : Value → St → Mp → Prop} (hs : Same X s) (S : Sat X F st f P s.heap)
    (hq : ∀ f' a o, Le f f' → f' a = some o → o.cls = .type T → o.data = .seq its 0 → G (.ref a) st f') :
    Post X F P f G (.ref s.heap.objs.size) { s with heap := s.heap.push { cls := .type T, data := .seq its } } :=
  ⟨hs.next _ _, _, st, .add S.fresh.1, S.alloc _, hq _ _ _ (.add S.fresh.1) (Mp.add_self ..) rfl rfl⟩
theorem Ev.list {es : List Expr} (h : EvA X F pos es st fun ds st' => Q (.lst ds) st') (hsz : es.length ≤ 1000 := by decide) : Ev X F (.List es pos) st Q := fun f P s hs S => by
  show wpAny _ _ (do standAt pos; newList (← spliced (backTo pos (starEach es F.env)))) _ _ _
  refine wpAny_bind (wpAny_standAt (wpAny_bind ((h f).then hs S fun vs s₁ f₁ st₁ hs₁ le₁ S₁ ⟨ds, rs, hl, q⟩ => ?_)))
  exact wpAny_newList (Post.up le₁ (new_seq hs₁ S₁ fun f' a o le e1 e2 e3 => ⟨.lst ds, .lst e1 e2 e3 (rs.mono le), q⟩)) (by rw [hl, sizeLine_eq]; omega)
theorem Ev.tuple {es : List Expr} {k : Nat} (h : EvA X F pos es st fun ds st' => Q (.tup ds) st') (hsz : es.length ≤ 1000 := by decide) : Ev X F (.Tuple es k pos) st Q := fun f P s hs S => by
  show wpAny _ _ (do standAt pos; newTuple (← spliced (backTo pos (starEach es F.env)))) _ _ _
  refine wpAny_bind (wpAny_standAt (wpAny_bind ((h f).then hs S fun vs s₁ f₁ st₁ hs₁ le₁ S₁ ⟨ds, rs, hl, q⟩ => ?_)))
  exact wpAny_newTuple (Post.up le₁ (new_seq hs₁ S₁ fun f' a o le e1 e2 e3 => ⟨.tup ds, .tup e1 e2 e3 (rs.mono le), q⟩)) (by rw [hl, sizeLine_eq]; omega)

theorem Ev.sub {value slice : Expr} (h : Ev X F value st fun d st₁ => Ev X F slice st₁ fun i st₂ => SubOk X F value slice d i st₂ Q) : Ev X F (.Subscript value slice pos) st Q := fun f P s hs S =>
  Subscript_ ((h f).then hs S fun v₁ s₁ f₁ st₁ hs₁ le₁ S₁ ⟨d₁, r₁, h₁⟩ => (h₁ f₁).then hs₁ S₁ fun v₂ s₂ f₂ st₂ hs₂ le₂ S₂ ⟨d₂, r₂, h₂⟩ =>
    (h₂ f₂ v₁ v₂ (r₁.mono le₂) r₂).last (le₁.trans le₂) hs₂ S₂)
theorem s_lst {value slice : Expr} {ds : List D} {k : Int} {d : D} (h0 : 0 ≤ k) (h1 : k < 2 ^ 63) (hx : ds[k.toNat]? = some d) (h : Q d st)
    (hs : ∀ o i, subscripted slice false o i = operate [o, i] (getItem o i) := by intro _ _; with_unfolding_all rfl) : SubOk X F value slice (.lst ds) (.int k) st Q := fun f o iv r₁ r₂ P s hs' S => by
  obtain ⟨t, rfl⟩ := r₂.inv
  obtain ⟨_, _, _, _, rfl, e1, e2, e3, rs⟩ := r₁.inv
  obtain ⟨v, hv, rv⟩ := rs.get hx
  have hl : s.heap.IsList _ _ := ⟨_, S.sub _ _ e1, e2, _, e3⟩
  exact tail_any hl.typeIs slot_list_getitem.lookup (wpAny_getItem_list hl h0 h1 (by simpa using hv) (.here hs' S ⟨d, rv, h⟩)) (hs _ _)
theorem seqIdx {k : Int} {n : Nat} (h0 : 0 ≤ k) (h1 : k.toNat < n) : seqIndex? k n = some k.toNat := by
  unfold seqIndex?
  have e : (if k < 0 then k + n else k) = k := if_neg (by omega)
  simp only [e]
  rw [if_pos]
  simp; omega
theorem s_tup {value slice : Expr} {ds : List D} {k : Int} {d : D} (h0 : 0 ≤ k) (h1 : k < 2 ^ 63) (hx : ds[k.toNat]? = some d) (h : Q d st)
    (hs : ∀ o i, subscripted slice false o i = operate [o, i] (getItem o i) := by intro _ _; with_unfolding_all rfl) : SubOk X F value slice (.tup ds) (.int k) st Q := fun f o iv r₁ r₂ P s hs' S => by
  obtain ⟨t, rfl⟩ := r₂.inv
  obtain ⟨_, _, _, _, rfl, e1, e2, e3, rs⟩ := r₁.inv
  obtain ⟨v, hv, rv⟩ := rs.get hx
  have hl : IsTup s.heap _ _ := ⟨_, S.sub _ _ e1, e2, _, e3⟩
  have hlt := (List.getElem?_eq_some_iff.mp hv).1
  exact tail_any hl.typeIs slot_tuple_getitem.lookup (PyProof.Rows.getItem_tuple hl (by omega) h1 (seqIdx h0 (by simpa using hlt)) (by simpa using hv) (.here hs' S ⟨d, rv, h⟩)) (hs _ _)
theorem s_str {value slice : Expr} {x : Str} {k : Int} (h0 : fitsSsize k = true) (h1 : (Txt.charAt x k).isSome = true) (h : Q (.str (Txt.item x k)) st)
    (hs : ∀ o i, subscripted slice false o i = operate [o, i] (getItem o i) := by intro _ _; with_unfolding_all rfl) : SubOk X F value slice (.str x) (.int k) st Q := fun f o iv r₁ r₂ P s hs' S => by
  obtain ⟨t, rfl⟩ := r₂.inv
  obtain ⟨u, rfl⟩ := r₁.inv
  exact tail_any (T := "str") (typeIs_str s x u) PySem.F.slot_str_getitem.lookup (SB.getItem h0 h1 (.here (hs'.next _ _) S ⟨_, .str _ _, h⟩)) (hs _ _)

/-- a bound of a slice -/
def EvO (X : Cx) (F : Fm) (e : Option Expr) (st : St) (Q : Option Int → St → Prop) : Prop := ∀ f, Wp X F (evalPart e F.env) st f fun v st' f' => ∃ o, IsPart v o ∧ Q o st'
theorem EvO.none {R : Option Int → St → Prop} (h : R .none st) : EvO X F .none st R := fun f => Wp.pure ⟨_, .none, h⟩
theorem EvO.some {e : Expr} {R : Option Int → St → Prop} (h : Ev X F e st fun d st' => ∃ i, d = .int i ∧ R (.some i) st') : EvO X F (.some e) st R := fun f => (h f).mono fun v st' f' le ⟨d, r, i, e, q⟩ => by
  subst e; obtain ⟨_, rfl⟩ := r.inv; exact ⟨_, .int _ _, q⟩
def pick (ds : List D) (lo hi : Option Int) : List D := (ds.drop (lo.elim 0 (clipAt ds.length))).take (hi.elim ds.length (clipAt ds.length) - lo.elim 0 (clipAt ds.length))
theorem Ev.slice {value : Expr} {lower upper : Option Expr} {p : Pos}
    (h : Ev X F value st fun d st₁ => EvO X F lower st₁ fun lo st₂ => EvO X F upper st₂ fun hi st₃ => ∃ ds, d = .lst ds ∧ ds.length ≤ 1000000 ∧ Q (.lst (pick ds lo hi)) st₃) :
    Ev X F (.Subscript value (.Slice lower upper .none p) pos) st Q := fun f P s hs S => by
  refine Subscript_ ((h f).then hs S fun v₁ s₁ f₁ st₁ hs₁ le₁ S₁ ⟨d₁, r₁, h₁⟩ => wpAny_Slice ((h₁ f₁).then hs₁ S₁ fun v₂ s₂ f₂ st₂ hs₂ le₂ S₂ ⟨lo, r₂, h₂⟩ => (h₂ f₂).then hs₂ S₂ fun v₃ s₃ f₃ st₃ hs₃ le₃ S₃ ⟨hi, r₃, h₃⟩ => ?_))
  obtain ⟨ds, rfl, hlen, q⟩ := h₃
  refine wpAny_pure ?_
  obtain ⟨a, o, n, vs, rfl, e1, e2, e3, rs⟩ := r₁.inv
  have e1' := le₃ _ _ (le₂ _ _ e1)
  have rs' := (rs.mono le₂).mono le₃
  have S₄ := S₃.keep (h' := s₃.heap.push { cls := .type "slice", data := .fields #[v₂, v₃, .none] }) fun b o e => Heap.get?_push_of_some _ e
  have hl : (s₃.heap.push { cls := .type "slice", data := .fields #[v₂, v₃, .none] }).IsList a vs.toArray := ⟨_, S₄.sub _ _ e1', e2, _, e3⟩
  refine tail_any (s := { s₃ with heap := s₃.heap.push { cls := .type "slice", data := .fields #[v₂, v₃, .none] } }) (ops := [.ref s₃.heap.objs.size, .ref a]) hl.typeIs slot_list_getitem.lookup (wpAny_getItem_list_slice hl (Heap.IsSliceOf.new ..) r₂ r₃ .none (by simp) ?_ (by have := rs.length; simp; rw [sizeLine_eq]; omega)) rfl
  refine Post.up ((le₁.trans le₂).trans le₃) (new_seq (hs₃.next _ _) S₄ fun f' b ob le g1 g2 g3 => ⟨_, .lst (n := 0) (vs := (vs.drop (lo.elim 0 (clipAt ds.length))).take (hi.elim ds.length (clipAt ds.length) - lo.elim 0 (clipAt ds.length))) g1 g2 ?_ (((rs'.mono le).drop _).take _), q⟩)
  rw [g3, slicePick_plain]
  have hlen' := rs.length
  simp [hlen']
theorem pick_from {ds : List D} {k : Int} (h : 0 ≤ k) : pick ds (.some k) .none = ds.drop k.toNat := by
  obtain ⟨n, rfl⟩ : ∃ n : Nat, k = n := ⟨k.toNat, by omega⟩
  simp only [pick, Option.elim, clipAt_nat, Int.toNat_natCast]
  rcases Nat.le_total n ds.length with q | q
  · rw [Nat.min_eq_left q, List.take_of_length_le (by simp)]
  · rw [Nat.min_eq_right q, List.drop_of_length_le (Nat.le_refl _), List.drop_of_length_le q]; simp
theorem pick_upto {ds : List D} {k : Int} (h : 0 ≤ k) : pick ds .none (.some k) = ds.take k.toNat := by
  obtain ⟨n, rfl⟩ : ∃ n : Nat, k = n := ⟨k.toNat, by omega⟩
  simp only [pick, Option.elim, clipAt_nat, Int.toNat_natCast, List.drop_zero, Nat.sub_zero]
  rcases Nat.le_total n ds.length with q | q
  · rw [Nat.min_eq_left q]
  · rw [Nat.min_eq_right q, List.take_of_length_le (Nat.le_refl _), List.take_of_length_le q]
theorem pick_mid {ds : List D} {k l : Int} (h : 0 ≤ k) (h' : k ≤ l) : pick ds (.some k) (.some l) = (ds.drop k.toNat).take (l.toNat - k.toNat) := by
  obtain ⟨n, rfl⟩ : ∃ n : Nat, k = n := ⟨k.toNat, by omega⟩
  obtain ⟨m, rfl⟩ : ∃ n : Nat, l = n := ⟨l.toNat, by omega⟩
  simp only [pick, Option.elim, clipAt_nat, Int.toNat_natCast]
  have hnm : n ≤ m := by omega
  rcases Nat.le_total m ds.length with q | q
  · rw [Nat.min_eq_left q, Nat.min_eq_left (Nat.le_trans hnm q)]
  · rw [Nat.min_eq_right q]
    rcases Nat.le_total n ds.length with p | p
    · rw [Nat.min_eq_left p, List.take_of_length_le (by simp), List.take_of_length_le (by simp; omega)]
    · rw [Nat.min_eq_right p, List.drop_of_length_le (Nat.le_refl _), List.drop_of_length_le p]; simp
theorem b_addL {as bs : List D} (hsz : as.length + bs.length ≤ 1000000) (h : Q (.lst (as ++ bs)) st) : BinOk X F .Add (.lst as) (.lst bs) st Q := fun f v₁ v₂ r₁ r₂ P s hs S => by
  obtain ⟨a, o, n, vs, rfl, e1, e2, e3, rs⟩ := r₁.inv
  obtain ⟨b, o', n', us, rfl, g1, g2, g3, qs⟩ := r₂.inv
  have h1 := S.sub _ _ e1
  have h2 := S.sub _ _ g1
  obtain ⟨cls, dd, data, sl⟩ := o
  obtain ⟨cls2, dd2, data2, sl2⟩ := o'
  simp only at e2 e3 g2 g3
  subst e2 e3 g2 g3
  have hl := rs.length
  have hl' := qs.length
  refine concat_meets ⟨_, h1, rfl⟩ ⟨_, h2, rfl⟩ noFill_list_add seq_list_add PySem.F.slot_list_add PySem.F.entry_list_add (PySem.F.args_list_add_2 _ _)
    (list_addW a b vs.toArray us.toArray n n' dd dd2 sl sl2 (by simp; rw [sizeLine_eq]; omega)) ⟨h1, h2, ?_⟩
  exact new_seq hs S fun f' c oc le k1 k2 k3 => ⟨_, .lst (n := 0) (vs := vs ++ us) k1 k2 (by rw [k3]; simp) ((rs.mono le).append (qs.mono le)), h⟩
theorem t_lst {ds : List D} {B : Bool → St → Prop} (hsz : ds.length ≤ 1000000) (h : B (!ds.isEmpty) st) : TruOk X F (.lst ds) st B := fun f v r P s hs S => by
  obtain ⟨a, o, n, vs, rfl, e1, e2, e3, rs⟩ := r.inv
  have hl : s.heap.IsList a vs.toArray := ⟨_, S.sub _ _ e1, e2, _, e3⟩
  have hlen := rs.length
  refine wpAny_truthy_list hl (by simp; omega) (.here (hs.next _ _) S ?_)
  have : vs.toArray.isEmpty = ds.isEmpty := by
    cases vs <;> cases ds <;> simp_all
  rw [this]; exact h
theorem Ev.or2 {x y : Expr} (h : Ev X F x st fun d st₁ => TruOk X F d st₁ fun b st₂ => if b then Q d st₂ else Ev X F y st₂ Q) : Ev X F (.BoolOp .Or [x, y] pos) st Q := fun f P s hs S =>
  wpAny_Or2 ((h f).then hs S fun v₁ s₁ f₁ st₁ hs₁ le₁ S₁ ⟨d₁, r₁, h₁⟩ => (h₁ f₁ v₁ r₁).then hs₁ S₁ fun b s₂ f₂ st₂ hs₂ le₂ S₂ q => by
    cases b
    · exact (q f₂).last (le₁.trans le₂) hs₂ S₂
    · exact ⟨hs₂, f₂, st₂, le₁.trans le₂, S₂, d₁, r₁.mono le₂, q⟩)
theorem Tst.or2 {x y : Expr} {B : Bool → St → Prop} (h : Tst X F x st fun b st₁ => if b then B true st₁ else Tst X F y st₁ B) : Tst X F (.BoolOp .Or [x, y] pos) st B := fun f => by
  show Wp X F (isTrue x F.env (eval x F.env) >>= fun c => _) st f _
  refine Wp.bind ((h f).mono fun c st' f' le q => ?_)
  cases c
  · show Wp X F (isTrue y F.env (eval y F.env) >>= fun c => _) st' f' _
    refine Wp.bind ((q f').mono fun c' st'' f'' le' q' => ?_)
    cases c'
    · exact Wp.pure q'
    · exact Wp.pure q'
  · exact Wp.pure q
end
end Mine

open PySem PySem.W PyProof.Rows
set_option Elab.async false
set_option maxRecDepth 100000
set_option linter.unusedVariables false
namespace Mine
open PySem.Calls

theorem ns_ne_cell {h : Heap} {L c : Addr} {m : Str → Option Value} {v : Option Value} (hn : h.Ns L m) (hc : h.IsCell c v) : L ≠ c := by
  rintro rfl
  obtain ⟨o, es, ep, e, d, _⟩ := hn
  obtain ⟨o', e', d'⟩ := hc
  rw [e] at e'; cases e'; rw [d] at d'; cases d'
theorem ns_ne_list {h : Heap} {L a : Addr} {m : Str → Option Value} {vs : Array Value} (hn : h.Ns L m) (hl : h.PlainList a vs) : a ≠ L := by
  rintro rfl
  obtain ⟨o, es, ep, e, d, _⟩ := hn
  obtain ⟨n, e'⟩ := hl
  rw [e] at e'; cases e'; cases d
theorem cell_ne_list {h : Heap} {c a : Addr} {v : Option Value} {vs : Array Value} (hc : h.IsCell c v) (hl : h.PlainList a vs) : a ≠ c := by
  rintro rfl
  obtain ⟨o, e, d⟩ := hc
  obtain ⟨n, e'⟩ := hl
  rw [e] at e'; cases e'; cases d

section
variable {X : Cx} {F : Fm} {st : St} {f P : Mp} {h h' : Heap}
theorem slot_same {z : Addr} {ov : Option Value} {sl : Slot} (hs : Heap.SameBut z h h') (hz : ∀ a vs, h.PlainList a vs → a ≠ z) (q : SlotIs f h ov sl) : SlotIs f h' ov sl := by
  cases sl with
  | unset => trivial
  | dat d => exact q
  | own a ds => obtain ⟨e, vs, q, r⟩ := q; exact ⟨e, vs, q.extBut hs.extBut (hz _ _ q), r⟩
theorem Sat.store_gen (S : Sat X F st f P h) {x : Str} {sl : Slot} {vs' : List (Str × Slot)} (hput : Put x sl st.vars vs') {z : Addr} (hs : Heap.SameBut z h h') (fz : f z = none) (Pz : P z = none)
    (hzH : ∀ d, st.hdr = some d → d.H ≠ z) (hC : F.own = true → ∀ p ∈ F.env.cells, ∃ v, h'.IsCell p.2 v)
    (hsl : ∀ a ds, sl = .own a ds → f a = none ∧ P a = none ∧ (∀ p ∈ st.vars, ∀ ds', p.2 = .own a ds' → p.1 = x) ∧ ∀ d, st.hdr = some d → a ≠ d.H)
    (hv : ∃ m, h'.Ns F.env.locals m ∧ ∀ p ∈ vs', ∃ ov, VarIs F h' m p.1 ov ∧ SlotIs f h' ov p.2) : Sat X F ⟨vs', st.hdr⟩ f P h' := by
  have kp : ∀ {g : Mp} {b : Addr} {o : Obj}, g z = none → g b = some o → Sub g h → h'.get? b = some o := fun gz e sub => by
    rw [hs.2 _ (by rintro rfl; rw [gz] at e; cases e)]; exact sub _ _ e
  have mem := hput.mem S.names
  refine ⟨fun b o e => kp fz e S.sub, fun b o e => kp Pz e S.pro, S.base, S.disj, by rw [hput.names]; exact S.names, hv, S.mL, S.mC, hC, fun p hp a ds e => ?_, fun p hp q hq a ds ds' e e' => ?_, S.cap, ?_, fun d hd => ⟨(S.mH d hd).1, (S.mH d hd).2.1, fun p hp a ds e => ?_⟩⟩
  · rcases mem p hp with rfl | ⟨hp, _⟩
    · exact ⟨(hsl a ds e).1, (hsl a ds e).2.1⟩
    · exact S.mO p hp a ds e
  · rcases mem p hp with rfl | ⟨hp, _⟩ <;> rcases mem q hq with rfl | ⟨hq, _⟩
    · rfl
    · exact ((hsl a ds e).2.2.1 q hq ds' e').symm
    · exact (hsl a ds' e').2.2.1 p hp ds e
    · exact S.inj p hp q hq a ds ds' e e'
  · have hh := S.hdr
    cases hd : st.hdr with
    | none => trivial
    | some d =>
      rw [hd] at hh
      obtain ⟨dx, n, hs', t, e1, e2, vs, e3, e4⟩ := hh
      exact ⟨dx, n, hs', t, e1, e2, vs, e3.extBut hs.extBut (hzH d hd), e4⟩
  · rcases mem p hp with rfl | ⟨hp, _⟩
    · exact (hsl a ds e).2.2.2 d hd
    · exact (S.mH d hd).2.2 p hp a ds e

theorem Sat.hne (S : Sat X F st f P h) {z : Addr} (hz : ∀ a vs, h.PlainList a vs → a ≠ z) : ∀ d, st.hdr = some d → d.H ≠ z := fun d hd => by
  have hh := S.hdr
  rw [hd] at hh
  obtain ⟨dx, n, hs', t, e1, e2, vs, e3, e4⟩ := hh
  exact hz _ _ e3
theorem Put.old {x : Str} {sl : Slot} : ∀ {l l' : List (Str × Slot)}, Put x sl l l' → ∃ s₀, (x, s₀) ∈ l
  | _, _, .head => ⟨_, .head _⟩
  | _, _, .tail r => let ⟨s, h⟩ := r.old; ⟨s, .tail _ h⟩
theorem store_ok {s : Shared} (S : Sat X F st f P s.heap) {x : Str} {sl : Slot} {vs' : List (Str × Slot)} (hput : Put x sl st.vars vs') {v : Value} (hv : SlotIs f s.heap (some v) sl)
    (hsl : ∀ a ds, sl = .own a ds → f a = none ∧ P a = none ∧ (∀ p ∈ st.vars, ∀ ds', p.2 = .own a ds' → p.1 = x) ∧ ∀ d, st.hdr = some d → a ≠ d.H)
    {R : Unit → Shared → Prop} (k : ∀ h' tk, Sat X F ⟨vs', st.hdr⟩ f P h' → R () { s with heap := h', toks := tk }) : wpAny (model X.prog X.w) F.A (storeName F.env x v) R NoE s := by
  obtain ⟨s₀, hm⟩ := hput.old
  have mem := hput.mem S.names
  obtain ⟨m, hn, hvars⟩ := S.vars
  obtain ⟨ov, hvar, _⟩ := hvars _ hm
  rcases hvar with ⟨hk, _⟩ | ⟨hk, hown, c, hc, hcell⟩
  · have hk' : F.env.kindOf x = some .local := hk
    refine wpAny_storeName_local hk' hn (fun h' hn' hs' => k h' _ ?_) (by rw [F.kind]; rfl)
    have hz : ∀ a vs, s.heap.PlainList a vs → a ≠ F.env.locals := fun a vs q => ns_ne_list hn q
    refine S.store_gen hput hs' S.mL.1 S.mL.2 (S.hne hz) (fun q p hp => ?_) hsl ⟨_, hn', fun p hp => ?_⟩
    · obtain ⟨u, e⟩ := S.lC q p hp
      exact ⟨u, e.sameBut hs' (Ne.symm (ns_ne_cell hn e))⟩
    · rcases mem p hp with rfl | ⟨hp, hne⟩
      · exact ⟨some v, .inl ⟨hk', (if_pos rfl).symm⟩, slot_same hs' hz hv⟩
      · obtain ⟨ov, q, r⟩ := hvars p hp
        refine ⟨ov, ?_, slot_same hs' hz r⟩
        rcases q with ⟨q1, q2⟩ | ⟨q1, q2, c, q3, q4⟩
        · exact .inl ⟨q1, by rw [q2]; exact (if_neg hne).symm⟩
        · exact .inr ⟨q1, q2, c, q3, q4.sameBut hs' (Ne.symm (ns_ne_cell hn q4))⟩
  · have hk' : F.env.kindOf x = some .cell := hk
    refine wpAny_storeName_cell F.kind hk' hc hcell fun h' hc' hs' => k h' _ ?_
    have hz : ∀ a vs, s.heap.PlainList a vs → a ≠ c := fun a vs q => cell_ne_list hcell q
    have hcm := S.mC hown _ (mem_lookup hc)
    refine S.store_gen hput hs' hcm.1 hcm.2 (S.hne hz) (fun q p hp => ?_) hsl ⟨m, hn.sameBut hs' (ns_ne_cell hn hcell), fun p hp => ?_⟩
    · obtain ⟨u, e⟩ := S.lC q p hp
      by_cases e' : p.2 = c
      · exact ⟨_, e'.symm ▸ hc'⟩
      · exact ⟨u, e.sameBut hs' e'⟩
    · rcases mem p hp with rfl | ⟨hp, hne⟩
      · exact ⟨some v, .inr ⟨hk', hown, c, hc, hc'⟩, slot_same hs' hz hv⟩
      · obtain ⟨ov, q, r⟩ := hvars p hp
        refine ⟨ov, ?_, slot_same hs' hz r⟩
        rcases q with ⟨q1, q2⟩ | ⟨q1, q2, c', q3, q4⟩
        · exact .inl ⟨q1, q2⟩
        · refine .inr ⟨q1, q2, c', q3, q4.sameBut hs' fun e => hne (name_of_addr F.cells (mem_lookup q3) (e ▸ mem_lookup hc))⟩
end

def FlQ (Qn : St → Prop) (Qr : D → St → Prop) (fl : Flow) (st : St) (f : Mp) : Prop := match fl with
  | .next => Qn st
  | .ret v => ∃ d, Rd f v d ∧ Qr d st
  | _ => False
def X1 (X : Cx) (F : Fm) (c : Stmt) (st : St) (Qn : St → Prop) (Qr : D → St → Prop) : Prop := ∀ f, Wp X F (exec c F.env) st f (FlQ Qn Qr)
def Xs (X : Cx) (F : Fm) (cs : List Stmt) (st : St) (Qn : St → Prop) (Qr : D → St → Prop) : Prop := ∀ f, Wp X F (execs cs F.env) st f (FlQ Qn Qr)
def Asg (X : Cx) (F : Fm) (t : Expr) (d : D) (st : St) (Q : St → Prop) : Prop := ∀ f v, Rd f v d → Wp X F (assign t F.env v) st f fun _ st' _ => Q st'
def Asgs (X : Cx) (F : Fm) (ts : List Expr) (ds : List D) (st : St) (Q : St → Prop) : Prop := ∀ f vs, RdL f vs ds → Wp X F (assignInOrder ((assignEach ts F.env).map (·.2)) vs) st f fun _ st' _ => Q st'

section
variable {X : Cx} {F : Fm} {st : St} {Qn : St → Prop} {Qr : D → St → Prop} {pos : Pos}
theorem Xs.nil (h : Qn st) : Xs X F [] st Qn Qr := fun f => Wp.pure h
theorem Xs.cons {c : Stmt} {rest : List Stmt} (h : X1 X F c st (fun st' => Xs X F rest st' Qn Qr) Qr) : Xs X F (c :: rest) st Qn Qr := fun f P s hs S =>
  wpAny_execs_cons ((h f).then hs S fun fl s' f' st' hs' le S' q => by
    cases fl with
    | next => exact Wp.last (q f') le hs' S'
    | ret v => exact ⟨hs', f', st', le, S', q⟩
    | _ => exact q.elim)
theorem Xs.mono {cs : List Stmt} {Qn' : St → Prop} {Qr' : D → St → Prop} (h : Xs X F cs st Qn Qr) (hn : ∀ st, Qn st → Qn' st) (hr : ∀ d st, Qr d st → Qr' d st) : Xs X F cs st Qn' Qr' := fun f =>
  (h f).mono fun fl st' f' _ q => by
    cases fl with
    | next => exact hn _ q
    | ret v => obtain ⟨d, r, q⟩ := q; exact ⟨d, r, hr _ _ q⟩
    | _ => exact q
theorem Asg.name {x : Str} {d : D} {vs' : List (Str × Slot)} {Q : St → Prop} (hput : Put x (.dat d) st.vars vs') (h : Q ⟨vs', st.hdr⟩) : Asg X F (.Name x pos) d st Q := fun f v r P s hs S =>
  wpAny_assign_Name (store_ok S hput ⟨v, rfl, r⟩ (fun a ds e => by cases e) fun h' tk S' => .here (hs.next _ _) S' h)
theorem Asgs.nil {Q : St → Prop} {ds : List D} (h : Q st) : Asgs X F [] ds st Q := fun f vs _ => by
  show Wp X F (assignInOrder [] vs) st f _
  unfold assignInOrder
  exact Wp.pure h
theorem Asgs.cons {t : Expr} {ts : List Expr} {d : D} {ds : List D} {Q : St → Prop} (h : Asg X F t d st fun st₁ => Asgs X F ts ds st₁ Q)
    (he : assignEach (t :: ts) F.env = (false, assign t F.env) :: assignEach ts F.env := by with_unfolding_all rfl) : Asgs X F (t :: ts) (d :: ds) st Q := fun f vs r P s hs S => by
  obtain ⟨v, vs, rfl, r, rs⟩ := r.inv
  rw [he]
  show wpAny _ _ (assignInOrder (assign t F.env :: (assignEach ts F.env).map (·.2)) (v :: vs)) _ _ _
  unfold assignInOrder
  exact wpAny_bind (wpAny_holding ((h f v r).then hs S fun _ s₁ f₁ st₁ hs₁ le₁ S₁ q => (q f₁ vs (rs.mono le₁)).last le₁ hs₁ S₁))
theorem ext_keep {h h' : Heap} (e : Heap.ExtBut h.objs.size h h') : ∀ b o, h.get? b = some o → h'.get? b = some o := fun b o g => e b o (Nat.ne_of_lt (Heap.lt_size g)) g
theorem Asg.tupT {ts : List Expr} {k : Nat} {ds : List D} {Q : St → Prop} (hn : (assignEach ts F.env).length = ds.length) (hst : (assignEach ts F.env).findIdx? (·.1) = none) (h : Asgs X F ts ds st Q) : Asg X F (.Tuple ts k pos) (.tup ds) st Q := fun f v r P s hs S => by
  obtain ⟨a, o, n, vs, rfl, e1, e2, e3, rs⟩ := r.inv
  have ht : IsTup s.heap a vs.toArray := ⟨_, S.sub _ _ e1, e2, _, e3⟩
  refine assign_Tuple_tuple F.hand ht (by rw [hn, List.size_toArray, rs.length]) hst fun h' e => ?_
  exact (h f vs rs).last (.refl f) (hs.next _ _) (S.keep (ext_keep e))

theorem draw_list {prog : Program} {w : World} {A : Around} {E : Value → Shared → Prop} {t I : Addr} {items : Array Value} (hne : t ≠ I) : ∀ (n i : Nat) (s : Shared) (Q : List Value → Shared → Prop), s.heap.IsListIter I t i → s.heap.IsList t items → i + n ≤ items.size →
    (∀ h', h'.IsListIter I t (i + n) → Heap.SameBut I s.heap h' → Q ((items.toList.drop i).take n) { s with heap := h' }) → wpAny (model prog w) A (draw (.ref I) n) Q E s
  | 0, i, s, Q, hit, _, _, hQ => by unfold draw; exact wpAny_pure (by simpa using hQ s.heap hit (.refl ..))
  | n + 1, i, s, Q, hit, ht, hle, hQ => by
    have hlt : i < items.size := by omega
    unfold draw
    refine wpAny_bind (wpAny_pyNext_list_item hit ht (x := items[i]) (by simp [hlt]) fun h₁ hit₁ hs₁ => ?_)
    refine wpAny_bind (wpAny_holding (draw_list hne n (i + 1) _ _ hit₁ (ht.extBut hs₁.extBut hne) (by omega) fun h₂ hit₂ hs₂ => wpAny_pure ?_))
    have hd : items.toList.drop i = items[i] :: items.toList.drop (i + 1) := by simp [List.drop_eq_getElem_cons, hlt]
    have := hQ h₂ (by rw [show i + (n + 1) = i + 1 + n by omega]; exact hit₂) (hs₁.trans hs₂)
    rw [hd, List.take_succ_cons] at this
    exact this
theorem unpackItems_list {prog : Program} {w : World} {A : Around} {E : Value → Shared → Prop} {s : Shared} {t : Addr} {items : Array Value} {Q : List Value → Shared → Prop} (hh : A.handled = none) (ht : s.heap.IsList t items)
    (hQ : ∀ h', Heap.ExtBut s.heap.objs.size s.heap h' → Q items.toList { s with heap := h' }) : wpAny (model prog w) A (unpackItems (.ref t) items.size none) Q E s := by
  have hlt : t ≠ s.heap.objs.size := by obtain ⟨o, ho, _⟩ := ht; exact Nat.ne_of_lt (Heap.lt_size ho)
  unfold unpackItems
  refine wpAny_bind ?_
  unfold notIterableAtAll
  refine wpAny_bind (wpAny_specialOf ht.typeIs slot_list_iter.lookup ?_)
  refine wpAny_pure ?_
  simp only [Bool.false_eq_true, if_false]
  refine wpAny_bind (wpAny_holding (wpAny_pyIter_list ht ?_))
  refine wpAny_bind (wpAny_holding (draw_list hlt items.size 0 _ _ ⟨_, Heap.get?_push_size _ rfl, rfl, rfl⟩ (ht.push _) (by omega) fun h₁ hit₁ hs₁ => ?_))
  have hall : List.take items.size (List.drop 0 items.toList) = items.toList := by
    rw [List.drop_zero]; exact List.take_of_length_le (by simp)
  rw [hall]
  rw [if_neg (by simp)]
  have ht₁ : h₁.IsList t items := (ht.push _).extBut hs₁.extBut hlt
  refine wpAny_bind (wpAny_holding (wpAny_pyNext_list_end hh hit₁ ht₁ (by simp) fun h₂ he₂ => ?_))
  simp only [Option.isSome_none, Bool.false_eq_true, if_false]
  refine wpAny_pure (hQ h₂ fun b o hb e => he₂ b o hb (hs₁.extBut b o hb (Heap.get?_push_of_some _ e)))
theorem Asg.tupL {ts : List Expr} {k : Nat} {ds : List D} {Q : St → Prop} (hn : (assignEach ts F.env).length = ds.length) (hst : (assignEach ts F.env).findIdx? (·.1) = none) (h : Asgs X F ts ds st Q) : Asg X F (.Tuple ts k pos) (.lst ds) st Q := fun f v r P s hs S => by
  obtain ⟨a, o, n, vs, rfl, e1, e2, e3, rs⟩ := r.inv
  have ht : s.heap.IsList a vs.toArray := ⟨_, S.sub _ _ e1, e2, _, e3⟩
  rw [assign_Tuple]
  refine wpAny_bind (wpAny_standAt ?_)
  unfold unpack
  have hn' : (assignEach ts F.env).length = vs.toArray.size := by rw [hn, List.size_toArray, rs.length]
  rw [hn', hst]
  refine wpAny_bind (wpAny_holding (unpackItems_list F.hand ht fun h' e => ?_))
  exact (h f vs rs).last (.refl f) (hs.next _ _) (S.keep (ext_keep e))

theorem X1.assign {x : Str} {px : Pos} {e : Expr} (h : Ev X F e st fun d st₁ => ∃ vs', Put x (.dat d) st₁.vars vs' ∧ Qn ⟨vs', st₁.hdr⟩)
    (hsw : swapsWith e (some (.Name x px)) pos.line F.env = pure false := by with_unfolding_all rfl) : X1 X F (.Assign [.Name x px] e pos) st Qn Qr := fun f P s hs S =>
  wpAny_Assign_Name ((h f).then hs S fun v s₁ f₁ st₁ hs₁ le₁ S₁ ⟨d, r, vs', hput, q⟩ => store_ok S₁ hput ⟨v, rfl, r⟩ (fun a ds e => by cases e) fun h' tk S' => ⟨hs₁.next _ _, f₁, _, le₁, S', q⟩) hsw
theorem X1.assignT {ts : List Expr} {k : Nat} {px : Pos} {e : Expr} (h : Ev X F e st fun d st₁ => Asg X F (.Tuple ts k px) d st₁ Qn)
    (hs : swapsWithSole [.Tuple ts k px] e pos.line F.env = pure false := by with_unfolding_all rfl) (hw : swappedStores [.Tuple ts k px] e F.env = pure none := by with_unfolding_all rfl) : X1 X F (.Assign [.Tuple ts k px] e pos) st Qn Qr := fun f P s hs' S =>
  Assign_Tuple ((h f).then hs' S fun v s₁ f₁ st₁ hs₁ le₁ S₁ ⟨d, r, q⟩ => (q f₁ v r).then hs₁ S₁ fun _ s₂ f₂ st₂ hs₂ le₂ S₂ q => ⟨hs₂, f₂, st₂, le₁.trans le₂, S₂, q⟩) hs hw
theorem X1.ret {e : Expr} (h : Ev X F e st Qr) : X1 X F (.Return (some e) pos) st Qn Qr := fun f P s hs S =>
  wpAny_Return_some ((h f).then hs S fun v s₁ f₁ st₁ hs₁ le₁ S₁ q => ⟨hs₁, f₁, st₁, le₁, S₁, q⟩)
theorem X1.if {t : Expr} {b o : List Stmt} (h : Tst X F t st fun c st' => if c then Xs X F b st' Qn Qr else Xs X F o st' Qn Qr) : X1 X F (.If t b o pos) st Qn Qr := fun f P s hs S =>
  wpAny_If ((h f).then hs S fun c s₁ f₁ st₁ hs₁ le₁ S₁ q => by
    cases c
    · exact Wp.last (q f₁) le₁ hs₁ S₁
    · exact Wp.last (q f₁) le₁ hs₁ S₁)
theorem X1.aug {x : Str} {px : Pos} {op : Operator} {e : Expr} {d₀ : D} (hx : (x, Slot.dat d₀) ∈ st.vars)
    (h : Ev X F e st fun d st₁ => ∀ f v₁ v₂, Rd f v₁ d₀ → Rd f v₂ d → Wp X F (inplaceOp op v₁ v₂) st₁ f fun v st₂ f' => ∃ d, Rd f' v d ∧ ∃ vs', Put x (.dat d) st₂.vars vs' ∧ Qn ⟨vs', st₂.hdr⟩) :
    X1 X F (.AugAssign (.Name x px) op e pos) st Qn Qr := fun f P s hs S => by
  obtain ⟨m, ov, hn, hv, v, rfl, r⟩ := S.var hx
  exact wpAny_AugAssign_Name (load_var hn hv ((h f).then hs S fun v₂ s₁ f₁ st₁ hs₁ le₁ S₁ ⟨d, r₂, q⟩ => (q f₁ v v₂ (r.mono le₁) r₂).then hs₁ S₁ fun u s₂ f₂ st₂ hs₂ le₂ S₂ ⟨d', r', vs', hput, q'⟩ =>
    store_ok S₂ hput ⟨u, rfl, r'⟩ (fun a ds e => by cases e) fun h' tk S' => ⟨hs₂.next _ _, f₂, _, le₁.trans le₂, S', q'⟩))
theorem i_subI {a b : Int} {f : Mp} {v₁ v₂ : Value} {G : Value → St → Mp → Prop} (r₁ : Rd f v₁ (.int a)) (r₂ : Rd f v₂ (.int b)) (h : ∀ t, G (.int (a - b) t) st f) : Wp X F (inplaceOp .Sub v₁ v₂) st f G := by
  obtain ⟨_, rfl⟩ := r₁.inv
  obtain ⟨_, rfl⟩ := r₂.inv
  exact Wp.toks (fun t => .int (a - b) t) (fun s R hR => AutoIntOps.isub_0 (hR _ _)) h
/-- a new list of its own: «x = []» -/
theorem X1.newOwn {x : Str} {px p : Pos} (h : ∀ a, ∃ vs', Put x (.own a []) st.vars vs' ∧ Qn ⟨vs', st.hdr⟩) : X1 X F (.Assign [.Name x px] (.List [] p) pos) st Qn Qr := fun f P s hs S => by
  refine wpAny_Assign_Name ?_
  show wpAny _ _ (do standAt p; newList (← spliced (backTo p (starEach [] F.env)))) _ _ _
  refine wpAny_bind (wpAny_standAt (wpAny_bind (spliced_nil (wpAny_newList ?_ (by decide)))))
  obtain ⟨vs', hput, q⟩ := h s.heap.objs.size
  have irr := S.fresh
  have S' := S.keep (h' := s.heap.push { cls := .type "list", data := .seq ([] : List Value).toArray }) fun b o e => Heap.get?_push_of_some _ e
  refine store_ok (s := { s with heap := s.heap.push { cls := .type "list", data := .seq ([] : List Value).toArray } }) S' hput ⟨rfl, [], ⟨0, Heap.get?_push_size _ rfl⟩, .nil⟩ (fun a ds e => ?_) fun h' tk S'' => .here (hs.next _ _) S'' q
  cases e
  exact ⟨irr.1, irr.2.1, fun p hp ds' e => absurd rfl (irr.2.2.2.2.1 p hp _ ds' e), fun d hd e => irr.2.2.2.2.2 d hd e.symm⟩
end
end Mine

open PySem PySem.W PyProof.Rows
set_option Elab.async false
set_option maxRecDepth 100000
set_option linter.unusedVariables false
namespace Mine
open PySem.Calls

structure Iter (X : Cx) (A : Around) (Hp : Mp → Heap → Prop) (I : Addr) (ds : List D) (It : Nat → Obj → Prop) : Prop where
  item : ∀ i d (s : Shared) (f : Mp) (R : Option Value → Shared → Prop), ds[i]? = some d → Hp f s.heap → (∃ o, s.heap.get? I = some o ∧ It i o) →
    (∀ v h' tk o', Rd f v d → It (i + 1) o' → h'.get? I = some o' → Heap.SameBut I s.heap h' → R (some v) { s with heap := h', toks := tk }) → wpAny (model X.prog X.w) A (pyNext (.ref I)) R NoE s
  done : ∀ (s : Shared) (f : Mp) (R : Option Value → Shared → Prop), Hp f s.heap → (∃ o, s.heap.get? I = some o ∧ It ds.length o) →
    (∀ h', Heap.ExtBut I s.heap h' → R none { s with heap := h' }) → wpAny (model X.prog X.w) A (pyNext (.ref I)) R NoE s
  nocell : ∀ i o, It i o → ∀ v, o.data ≠ .cell v
  free : ∀ i o target v (s : Shared) (R : Unit → Shared → Prop), s.heap.get? I = some o → It i o → R () s → wpAny (model X.prog X.w) A (letOwnedTupleGo target (.ref I) v) R NoE s
  self : ∀ i o (s : Shared) (R : Value → Shared → Prop), s.heap.get? I = some o → It i o → R (.ref I) s → wpAny (model X.prog X.w) A (pyIter (.ref I)) R NoE s

def Frz (f : Mp) (f₁ : Mp) (h : Heap) : Prop := Le f f₁ ∧ Sub f₁ h
def D.items : D → Option (List D)
  | .lst l => some l
  | .tup l => some l
  | .rng lo n => if lo ≤ 1 then some ((List.range n).map fun i : Nat => .int ((lo + i : Nat) : Int)) else Option.none
  | _ => Option.none

section
variable {X : Cx} {A : Around} {f : Mp} {I : Addr}
def plainIter (n : String) : Bool := !(["enumerate", "zip", "dict_itemiterator", "dict_reverseitemiterator", "odict_iterator", "itertools.zip_longest", "itertools.pairwise"].contains n)
theorem tuple_go {o : Obj} {n : String} {vs : Array Value} {target : Expr} {v : Value} {s : Shared} {R : Unit → Shared → Prop} (ho : s.heap.get? I = some o) (hc : o.cls = .type n) (hd : o.data = .fields vs) (hn : plainIter n = true) (h : R () s) :
    wpAny (model X.prog X.w) A (letOwnedTupleGo target (.ref I) v) R NoE s := by
  have key : ∀ a : Addr, wpAny (model X.prog X.w) A (do
      let o ← load I
      match o.cls, o.data with
      | .type n, .fields vs =>
        if ["enumerate", "zip", "dict_itemiterator", "dict_reverseitemiterator", "odict_iterator", "itertools.zip_longest", "itertools.pairwise"].contains n && vs[0]? == some (rawInt a) then
          rule "for.unpacks-the-owned-tuple"
          updateField I 0 .none
      | _, _ => pure ()) R NoE s := fun a => by
    refine wpAny_bind (wpAny_load ho ?_)
    rw [hc, hd]
    have hn' : (["enumerate", "zip", "dict_itemiterator", "dict_reverseitemiterator", "odict_iterator", "itertools.zip_longest", "itertools.pairwise"].contains n) = false := by
      unfold plainIter at hn; rw [Bool.not_eq_true'] at hn; exact hn
    show wpAny _ A (if (["enumerate", "zip", "dict_itemiterator", "dict_reverseitemiterator", "odict_iterator", "itertools.zip_longest", "itertools.pairwise"].contains n && _) = true then _ else _) R NoE s
    rw [hn', Bool.false_and, if_neg Bool.false_ne_true]
    exact wpAny_pure h
  unfold letOwnedTupleGo
  split
  · cases v <;> first | exact wpAny_pure h | exact key _
  · cases v <;> first | exact wpAny_pure h | exact key _
  · exact wpAny_pure h
end

section
variable {X : Cx} {F : Fm} {st : St} {f P : Mp}
theorem Sat.pinNew {h : Heap} (S : Sat X F st f P h) (o : Obj) (hf : o.isFreed = false := by with_unfolding_all rfl) : Sat X F st f (Mp.add P h.objs.size o) (h.push o) :=
  (S.keep fun b o' e => Heap.get?_push_of_some o e).pin (Heap.get?_push_size _ hf) S.fresh
/-- the pinned object is changed -/
theorem Sat.repin {h h' : Heap} {a : Addr} {o o' : Obj} (S : Sat X F st f (Mp.add P a o) h) (hP : P a = none) (hs : Heap.ExtBut a h h') (ho : h'.get? a = some o') (hc : ∀ v, o.data ≠ .cell (some v)) : Sat X F st f (Mp.add P a o') h' := by
  have irr := S.irr hP
  have S₁ := S.unpin hP hc
  have S₂ : Sat X F st f P h' := S₁.move fun b ob e => by
    by_cases q : b = a
    · subst q; exact .inr irr
    · exact .inl (hs b ob q e)
  exact S₂.pin ho irr

theorem iter_list {a I : Addr} {o : Obj} {n : Nat} {vs : List Value} {ds : List D} (hI : a ≠ I) (e1 : f a = some o) (e2 : o.cls = .type "list") (e3 : o.data = .seq vs.toArray n) (rs : RdL f vs ds) (hh : F.A.handled = none) :
    Iter X F.A (Frz f) I ds fun i ob => ob.cls = .type "list_iterator" ∧ ob.data = .fields #[.ref a, .int i 0] where
  item := fun i d s f₁ R hd sub ⟨ob, ho, hc, hdt⟩ k => by
    obtain ⟨v, hv, rv⟩ := rs.get hd
    refine wpAny_pyNext_list_item (l := a) (i := i) ⟨ob, ho, hc, hdt⟩ ⟨o, sub.2 _ _ (sub.1 _ _ e1), e2, n, e3⟩ (by simpa using hv) fun h' ⟨o', g1, g2, g3⟩ hs => k v h' _ o' (rv.mono sub.1) ⟨g2, g3⟩ g1 hs
  done := fun s f₁ R sub ⟨ob, ho, hc, hdt⟩ k => wpAny_pyNext_list_end hh (l := a) ⟨ob, ho, hc, hdt⟩ ⟨o, sub.2 _ _ (sub.1 _ _ e1), e2, n, e3⟩ (by simp [rs.length]) fun h' e => k h' e
  nocell := fun i o h v e => by rw [h.2] at e; cases e
  free := fun i o target v s R ho h k => tuple_go ho h.1 h.2 (by decide) k
  self := fun i o s R ho h k => wpAny_pyIter_listiter ⟨o, ho, h.1, h.2⟩ k
theorem iter_tuple {a I : Addr} {o : Obj} {n : Nat} {vs : List Value} {ds : List D} (hI : a ≠ I) (e1 : f a = some o) (e2 : o.cls = .type "tuple") (e3 : o.data = .seq vs.toArray n) (rs : RdL f vs ds) (hh : F.A.handled = none) :
    Iter X F.A (Frz f) I ds fun i ob => ob.cls = .type "tuple_iterator" ∧ ob.data = .fields #[.ref a, .int i 0] where
  item := fun i d s f₁ R hd sub ⟨ob, ho, hc, hdt⟩ k => by
    obtain ⟨v, hv, rv⟩ := rs.get hd
    refine next_tuple_item (t := a) (i := i) ⟨ob, ho, hc, hdt⟩ ⟨o, sub.2 _ _ (sub.1 _ _ e1), e2, n, e3⟩ (by simpa using hv) fun h' ⟨o', g1, g2, g3⟩ hs => k v h' _ o' (rv.mono sub.1) ⟨g2, g3⟩ g1 hs
  done := fun s f₁ R sub ⟨ob, ho, hc, hdt⟩ k => next_tuple_end hh (t := a) ⟨ob, ho, hc, hdt⟩ ⟨o, sub.2 _ _ (sub.1 _ _ e1), e2, n, e3⟩ (by simp [rs.length]) fun h' e => k h' e
  nocell := fun i o h v e => by rw [h.2] at e; cases e
  free := fun i o target v s R ho h k => tuple_go ho h.1 h.2 (by decide) k
  self := fun i o s R ho h k => wpAny_pyIter_tupleiter (t := a) (i := i) ⟨o, ho, h.1, h.2⟩ k
theorem iter_range {I : Addr} {lo n : Nat} (hh : F.A.handled = none) :
    Iter X F.A (Frz f) I ((List.range n).map fun i : Nat => D.int ((lo + i : Nat) : Int)) fun i ob => ob = { cls := .type "range_iterator", dict := none, data := .fields #[rawInt ((lo + i : Nat) : Int), rawInt ((n : Int) - i), rawInt 1], slots := #[] } ∧ i ≤ n where
  item := fun i d s f₁ R hd sub ⟨ob, ho, hc, hi⟩ k => by
    subst hc
    have hlt : i < n := by
      have := (List.getElem?_eq_some_iff.mp hd).1
      simpa using this
    have hd' : d = .int ((lo + i : Nat) : Int) := by
      rw [List.getElem?_map, List.getElem?_range hlt] at hd
      exact (Option.some.inj hd).symm
    subst hd'
    refine wpAny_pyNext_range_item (x := ((lo + i : Nat) : Int)) (left := n - i) (step := 1) ho (by omega) fun h' g hs => ?_
    refine k _ h' _ _ (.int _ _) ⟨rfl, hlt⟩ ?_ hs
    have e : ((n : Int) - i - 1) = (n : Int) - ((i + 1 : Nat) : Int) := by omega
    have e' : (((lo + i : Nat) : Int) + 1) = ((lo + (i + 1) : Nat) : Int) := by omega
    rw [← e, ← e']; exact g
  done := fun s f₁ R sub ⟨ob, ho, hc, hi⟩ k => by
    subst hc
    refine wpAny_pyNext_range_end hh ho (by simp) fun h' e => k h' e
  nocell := fun i o h v e => by rw [h.1] at e; cases e
  free := fun i o target v s R ho h k => tuple_go ho (n := "range_iterator") (vs := #[rawInt ((lo + i : Nat) : Int), rawInt ((n : Int) - i), rawInt 1]) (by rw [h.1]) (by rw [h.1]) (by decide) k
  self := fun i o s R ho h k => wpAny_pyIter_rangeiter (x := ((lo + i : Nat) : Int)) (left := n - i) (step := 1) (by obtain ⟨rfl, _⟩ := h; exact ho) k

theorem small_range (lo n : Nat) (h : lo + n ≤ 1000001) : Builtin.Range.small lo ((lo + n : Nat) : Int) 1 = true ∧ Builtin.Range.rangeSize lo ((lo + n : Nat) : Int) 1 = n := by
  have e : Builtin.Range.rangeSize lo ((lo + n : Nat) : Int) 1 = n := by
    unfold Builtin.Range.rangeSize
    rw [if_pos (by decide)]
    by_cases q : (lo : Int) < ((lo + n : Nat) : Int)
    · rw [if_pos q, Int.ediv_one]; omega
    · rw [if_neg q]; omega
  refine ⟨?_, e⟩
  unfold Builtin.Range.small
  rw [e]
  have fits : ∀ i : Int, 0 ≤ i → i ≤ 1000001 → Builtin.Range.rangeFitsLong i = true := fun i h1 h2 => by
    unfold Builtin.Range.rangeFitsLong
    rw [Bool.and_eq_true]
    constructor <;> rw [decide_eq_true_eq] <;> omega
  rw [fits lo (by omega) (by omega), fits ((lo + n : Nat) : Int) (by omega) (by omega), fits 1 (by omega) (by omega), if_pos (by decide), fits (((lo + n : Nat) : Int) + (1 - 1)) (by omega) (by omega)]
  simp [fits n (by omega) (by omega)]
theorem iter_of {d : D} {ds : List D} {v : Value} {s : Shared} {R : Value → Shared → Prop} (hd : d.items = some ds) (hlen : ds.length ≤ 1000000) (r : Rd f v d) (hs : Same X s) (S : Sat X F st f P s.heap)
    (k : ∀ I o It s', Same X s' → Sat X F st f (Mp.add P I o) s'.heap → P I = none → Iter X F.A (Frz f) I ds It → It 0 o → R (.ref I) s') : wpAny (model X.prog X.w) F.A (pyIter v) R NoE s := by
  have fr := S.fresh
  cases r with
  | @lst a o n vs ds' e1 e2 e3 rs =>
    cases hd
    have hl : s.heap.IsList a vs.toArray := ⟨_, S.sub _ _ e1, e2, _, e3⟩
    refine wpAny_pyIter_list hl (k _ _ _ _ (hs.next _ _) (S.pinNew _) fr.2.1 (iter_list ?_ e1 e2 e3 rs F.hand) ⟨rfl, rfl⟩)
    exact Nat.ne_of_lt (Heap.lt_size (S.sub _ _ e1))
  | @tup a o n vs ds' e1 e2 e3 rs =>
    cases hd
    have hl : s.heap.IsTuple a vs.toArray := ⟨_, S.sub _ _ e1, e2, _, e3⟩
    refine wpAny_pyIter_tuple hl (k _ _ _ _ (hs.next _ _) (S.pinNew _) fr.2.1 (iter_tuple ?_ e1 e2 e3 rs F.hand) ⟨rfl, rfl⟩)
    exact Nat.ne_of_lt (Heap.lt_size (S.sub _ _ e1))
  | @rng a lo n t u v e1 =>
    have hd' : (if lo ≤ 1 then some ((List.range n).map fun i : Nat => D.int ((lo + i : Nat) : Int)) else Option.none) = some ds := hd
    have hlo : lo ≤ 1 := Decidable.byContradiction fun hno => by rw [if_neg hno] at hd'; cases hd'
    rw [if_pos hlo] at hd'
    cases hd'
    have hn : n ≤ 1000000 := by simpa using hlen
    obtain ⟨h1, h2⟩ := small_range lo n (by omega)
    refine wpAny_pyIter_range (S.sub _ _ e1) h1 (k _ _ _ _ (hs.next _ _) (S.pinNew _) fr.2.1 (iter_range F.hand) ⟨?_, Nat.zero_le _⟩)
    rw [h2]; simp
  | _ => cases hd

def LoopJ (X : Cx) (F : Fm) (J : St → Prop) (t : Expr) (body : List Stmt) (Qn : St → Prop) (Qr : D → St → Prop) : List D → St → Prop
  | [], st => J st ∧ Qn st
  | d :: ds, st => J st ∧ Asg X F t d st fun st₁ => Xs X F body st₁ (fun st₂ => LoopJ X F J t body Qn Qr ds st₂) Qr
theorem LoopJ.j {J : St → Prop} {t : Expr} {body : List Stmt} {Qn : St → Prop} {Qr : D → St → Prop} : ∀ {ds : List D} {st : St}, LoopJ X F J t body Qn Qr ds st → J st
  | [], _, h => h.1
  | _ :: _, _, h => h.1
def Loop (X : Cx) (F : Fm) (t : Expr) (body : List Stmt) (Qn : St → Prop) (Qr : D → St → Prop) : List D → St → Prop
  | [], st => Qn st
  | d :: ds, st => Asg X F t d st fun st₁ => Xs X F body st₁ (fun st₂ => Loop X F t body Qn Qr ds st₂) Qr

theorem noE {α : Type} {M : Model} {A : Around} {t : Sem α} {Q : α → Shared → Prop} {E : Value → Shared → Prop} {s : Shared} (h : wpAny M A t Q NoE s) : wpAny M A t Q E s := wpAny_mono h (fun _ _ q => q) fun _ _ e => e.elim

def ForI (X : Cx) (F : Fm) (J : St → Prop) (t : Expr) (body : List Stmt) (Qn : St → Prop) (Qr : D → St → Prop) (I : Addr) (ds : List D) (It : Nat → Obj → Prop) (f P : Mp) (n : Nat) (s' : Shared) : Prop :=
  ∃ i f₁ st₁ o₁, Same X s' ∧ Le f f₁ ∧ Sat X F st₁ f₁ (Mp.add P I o₁) s'.heap ∧ It i o₁ ∧ i ≤ ds.length ∧ LoopJ X F J t body Qn Qr (ds.drop i) st₁ ∧ n = ds.length - i
theorem for_loop {t : Expr} {body : List Stmt} {Qn : St → Prop} {Qr : D → St → Prop} {I : Addr} {o : Obj} {ds : List D} {It : Nat → Obj → Prop} {s : Shared} {f₀ : Mp} (le₀ : Le f₀ f) (hs : Same X s) (S : Sat X F st f (Mp.add P I o) s.heap) (hP : P I = none) {Hp : Mp → Heap → Prop} {J : St → Prop} (W : Iter X F.A Hp I ds It) (hI : It 0 o) (hJ : ∀ st₁ f₁ P₁ h, J st₁ → Le f f₁ → Sat X F st₁ f₁ P₁ h → Hp f₁ h)
    (h : LoopJ X F J t body Qn Qr ds st) {R : Result → Shared → Prop} (hR : ∀ fl s', Post X F P f₀ (FlQ Qn Qr) fl s' → R (.ok fl) s') : codeAny (model X.prog X.w) F.A (.forLoop t (.ref I) body [] F.env) R s := by
  refine codeAny_forLoop_any (ForI X F J t body Qn Qr I ds It f P) (fun n s' hi => ?_) ds.length
    ⟨0, f, st, o, hs, .refl f, S, hI, Nat.zero_le _, by rw [List.drop_zero]; exact h, rfl⟩
  obtain ⟨i, f₁, st₁, o₁, hs₁, le₁, S₁, hI₁, hle, hL, rfl⟩ := hi
  have hsub : Hp f₁ s'.heap := hJ st₁ f₁ _ _ hL.j le₁ S₁
  have nc : ∀ v, o₁.data ≠ .cell (some v) := fun v => W.nocell i o₁ hI₁ _
  rcases Nat.lt_or_ge i ds.length with hlt | hge
  · rw [List.drop_eq_getElem_cons hlt] at hL
    refine noE (W.item i _ s' f₁ _ (List.getElem?_eq_getElem hlt) hsub ⟨o₁, S₁.pinned, hI₁⟩ fun v h' tk o' rv hI' ho' hsb => ?_)
    have S₂ : Sat X F st₁ f₁ (Mp.add P I o') h' := S₁.repin hP hsb.extBut ho' nc
    refine noE (W.free (i + 1) o' t v _ _ ho' hI' ?_)
    refine noE (Wp.then (hL.2 f₁ v rv) (hs₁.next h' tk) S₂ fun _ s₃ f₃ st₃ hs₃ le₃ S₃ q => noE (Wp.then (q f₃) hs₃ S₃ fun fl s₄ f₄ st₄ hs₄ le₄ S₄ q₄ => ?_))
    cases fl with
    | next => exact ⟨ds.length - (i + 1), Nat.sub_lt_sub_left hlt (Nat.lt_succ_self i), i + 1, f₄, st₄, o', hs₄, (le₁.trans le₃).trans le₄, S₄, hI', hlt, q₄, rfl⟩
    | ret v => exact hR _ _ ⟨hs₄, f₄, st₄, le₀.trans ((le₁.trans le₃).trans le₄), S₄.unpin hP fun v => W.nocell _ _ hI' _, q₄⟩
    | brk => exact q₄.elim
    | cont => exact q₄.elim
  · obtain rfl := Nat.le_antisymm hle hge
    rw [List.drop_of_length_le (Nat.le_refl _)] at hL
    refine noE (W.done s' f₁ _ hsub ⟨o₁, S₁.pinned, hI₁⟩ fun h' hx => ?_)
    refine wpAny_execs_nil (hR _ _ ⟨hs₁.next _ _, f₁, st₁, le₀.trans le₁, ?_, hL.2⟩)
    have irr := S₁.irr hP
    exact (S₁.unpin hP nc).move fun b ob e => by
      by_cases q : b = I
      · subst q; exact .inr irr
      · exact .inl (hx b ob q e)
theorem Loop.toJ {t : Expr} {body : List Stmt} {Qn : St → Prop} {Qr : D → St → Prop} : ∀ {ds : List D} {st : St}, Loop X F t body Qn Qr ds st → LoopJ X F (fun _ => True) t body Qn Qr ds st
  | [], _, h => ⟨trivial, h⟩
  | _ :: _, _, h => ⟨trivial, fun f v r => (h f v r).mono fun _ st₁ f₁ _ q => q.mono (fun _ q => Loop.toJ q) fun _ _ q => q⟩
theorem X1.for {t iter : Expr} {body : List Stmt} {pos : Pos} {Qn : St → Prop} {Qr : D → St → Prop} (h : Ev X F iter st fun d st₁ => ∃ ds, d.items = some ds ∧ ds.length ≤ 1000000 ∧ Loop X F t body Qn Qr ds st₁)
    (hf : ∀ x, foldedSetIterable iter F.env x = pure x := by intro _; with_unfolding_all rfl) : X1 X F (.For t iter body [] pos) st Qn Qr := fun f P s hs S => by
  refine wpAny_For ((h f).then hs S fun v s₁ f₁ st₁ hs₁ le₁ S₁ ⟨d, r, ds, hd, hlen, hL⟩ => iter_of hd hlen r hs₁ S₁ fun I o It s' hs' S' hP W hI => ?_) hf
  exact for_loop le₁ hs' S' hP W hI (fun st₁ f₁ P₁ h _ le S => ⟨le, S.sub⟩) hL.toJ fun fl s'' q => q
end
end Mine

open PySem PySem.W PyProof.Rows
set_option Elab.async false
set_option maxRecDepth 100000
set_option linter.unusedVariables false
namespace Mine
open PySem.Calls

structure SatC (X : Cx) (hd : Option Hd) (f P : Mp) (h : Heap) : Prop where
  sub : Sub f h
  pro : Sub P h
  base : ∀ b o, X.base.get? b = some o → f b = some o
  disj : ∀ b o, f b = some o → P b = none
  hdr : HdIs X f h hd
  mH : ∀ d, hd = some d → f d.H = none ∧ P d.H = none
theorem SatC.k {X : Cx} {hd : Option Hd} {f P : Mp} {h : Heap} (S : SatC X hd f P h) : X.K.In h := X.k.keeps fun b o e => S.sub b o (S.base b o e)
theorem SatC.t {X : Cx} {hd : Option Hd} {f P : Mp} {h : Heap} (S : SatC X hd f P h) : Top X.p X.loose X.mean X.mg X.mb h := X.t.keeps fun b o e => S.sub b o (S.base b o e)
def AOk (lv : Nat) (A : Around) : Prop := A.handled = none ∧ A.depth + lv < recursionLimit ∧ A.units + 8 * lv + 40 < cLine
inductive RdK (f : Mp) : List (Str × Value) → List (Str × D) → Prop
  | nil : RdK f [] []
  | cons {n : Str} {v : Value} {d : D} {vs : List (Str × Value)} {ds : List (Str × D)} : Rd f v d → RdK f vs ds → RdK f ((n, v) :: vs) ((n, d) :: ds)
def FnPost (X : Cx) (f P : Mp) (R : D → Option Hd → Prop) (r : Result) (s' : Shared) : Prop :=
  ∃ v d hd' f', r = .ok (.ret v) ∧ Same X s' ∧ Le f f' ∧ SatC X hd' f' P s'.heap ∧ Rd f' v d ∧ R d hd'
def Fn (X : Cx) (lv : Nat) (fa : Addr) (ds : List D) (ks : List (Str × D)) (hd : Option Hd) (R : D → Option Hd → Prop) : Prop :=
  ∀ A f P s vs kw, AOk lv A → Same X s → SatC X hd f P s.heap → RdL f vs ds → RdK f kw ks → codeAny (model X.prog X.w) A (.call (.ref fa) ⟨vs, kw⟩) (FnPost X f P R) s

section
variable {X : Cx} {F : Fm} {st : St} {f P : Mp} {h h' : Heap}
/-- what a callee must leave as it is -/
def Mut (F : Fm) (st : St) (b : Addr) : Prop := b = F.env.locals ∨ (F.own = true ∧ ∃ p ∈ F.env.cells, p.2 = b) ∨ (∃ p ∈ st.vars, ∃ ds, p.2 = .own b ds)
noncomputable def Prot (F : Fm) (st : St) (P : Mp) (h : Heap) : Mp := fun b =>
  open Classical in if Mut F st b then h.get? b else P b
theorem prot_of {b : Addr} (q : Mut F st b) : Prot F st P h b = h.get? b := by
  unfold Prot; rw [if_pos q]
theorem prot_not {b : Addr} (q : ¬(Mut F st b)) : Prot F st P h b = P b := by
  unfold Prot; rw [if_neg q]
theorem Sat.mut (S : Sat X F st f P h) {b : Addr} (q : Mut F st b) : f b = none ∧ P b = none ∧ ∃ o, h.get? b = some o := by
  obtain ⟨m, hn, hv⟩ := S.vars
  rcases q with rfl | ⟨q, p, hp, rfl⟩ | ⟨p, hp, ds, e⟩
  · obtain ⟨o, _, _, g, _⟩ := hn
    exact ⟨S.mL.1, S.mL.2, o, g⟩
  · obtain ⟨v, o, g, _⟩ := S.lC q p hp
    exact ⟨(S.mC q p hp).1, (S.mC q p hp).2, o, g⟩
  · obtain ⟨ov, _, r⟩ := hv p hp
    rw [e] at r
    obtain ⟨_, vs, ⟨n, g⟩, _⟩ := r
    exact ⟨(S.mO p hp b ds e).1, (S.mO p hp b ds e).2, _, g⟩
theorem Sat.notH (S : Sat X F st f P h) {d : Hd} (hd : st.hdr = some d) : ¬(Mut F st d.H) := by
  have hh := S.hdr
  rw [hd] at hh
  obtain ⟨dx, n, hs, t, e1, e2, vs, e3, e4⟩ := hh
  rintro (q | ⟨q, p, hp, e⟩ | ⟨p, hp, ds, e⟩)
  · obtain ⟨m, hn, hv⟩ := S.vars
    exact ns_ne_list hn e3 q
  · obtain ⟨v, c⟩ := S.lC q p hp
    exact cell_ne_list c e3 e.symm
  · exact (S.mH d hd).2.2 p hp _ ds e rfl

theorem Sat.toC (S : Sat X F st f P h) : SatC X st.hdr f (Prot F st P h) h := by
  refine ⟨S.sub, fun b o e => ?_, S.base, fun b o e => ?_, S.hdr, fun d hd => ⟨(S.mH d hd).1, by rw [prot_not (S.notH hd)]; exact (S.mH d hd).2.1⟩⟩
  · open Classical in by_cases q : Mut F st b
    · rw [prot_of q] at e; exact e
    · rw [prot_not q] at e; exact S.pro b o e
  · open Classical in by_cases q : Mut F st b
    · have := (S.mut q).1; rw [e] at this; cases this
    · rw [prot_not q]; exact S.disj b o e
theorem Sat.ofC {f' : Mp} {hd' : Option Hd} (S : Sat X F st f P h) (le : Le f f') (C : SatC X hd' f' (Prot F st P h) h') : Sat X F ⟨st.vars, hd'⟩ f' P h' := by
  have kp : ∀ {b : Addr}, (Mut F st b) → f' b = none ∧ ∀ o, h.get? b = some o → h'.get? b = some o := fun {b} q => by
    refine ⟨?_, fun o e => C.pro b o (by rw [prot_of q]; exact e)⟩
    cases e : f' b with
    | none => rfl
    | some o =>
      have := C.disj b o e
      rw [prot_of q] at this
      obtain ⟨o', g⟩ := (S.mut q).2.2
      rw [g] at this; cases this
  have pk : ∀ {b : Addr}, Prot F st P h b = none → P b = none := fun {b} e => by
    open Classical in by_cases q : Mut F st b
    · exact (S.mut q).2.1
    · rwa [prot_not q] at e
  obtain ⟨m, hn, hv⟩ := S.vars
  have kL := kp (.inl rfl)
  refine ⟨C.sub, fun b o e => ?_, C.base, fun b o e => pk (C.disj b o e), S.names, ⟨m, ns_at hn kL.2, fun p hp => ?_⟩, ⟨kL.1, S.mL.2⟩, fun q p hp => ⟨(kp (.inr (.inl ⟨q, p, hp, rfl⟩))).1, (S.mC q p hp).2⟩,
    fun q p hp => ?_, fun p hp a ds e => ⟨(kp (.inr (.inr ⟨p, hp, ds, e⟩))).1, (S.mO p hp a ds e).2⟩, S.inj, fun p hp => ?_, C.hdr, fun d hd => ⟨(C.mH d hd).1, pk (C.mH d hd).2, fun p hp a ds e q => ?_⟩⟩
  · refine C.pro b o ?_
    rw [prot_not]; exact e
    intro q; rw [(S.mut q).2.1] at e; cases e
  · obtain ⟨ov, a1, a2⟩ := hv p hp
    refine ⟨ov, ?_, ?_⟩
    · rcases a1 with q | ⟨q1, q2, c, q3, q4⟩
      · exact .inl q
      · exact .inr ⟨q1, q2, c, q3, cell_at q4 (kp (.inr (.inl ⟨q2, _, mem_lookup q3, rfl⟩))).2⟩
    · cases hs : p.2 with
      | unset => trivial
      | dat d => rw [hs] at a2; obtain ⟨v, e, r⟩ := a2; exact ⟨v, e, r.mono le⟩
      | own a ds => rw [hs] at a2; obtain ⟨e, vs, q, r⟩ := a2; exact ⟨e, vs, q.at (kp (.inr (.inr ⟨p, hp, ds, hs⟩))).2, r.mono le⟩
  · obtain ⟨v, c⟩ := S.lC q p hp
    exact ⟨v, cell_at c (kp (.inr (.inl ⟨q, p, hp, rfl⟩))).2⟩
  · obtain ⟨c, o, v, e1, e2, e3, e4⟩ := S.cap p hp
    exact ⟨c, o, v, e1, e2, e3, e4.mono le⟩
  · have := (C.mH d hd).2
    rw [← q, prot_of (st := st) (.inr (.inr ⟨p, hp, ds, e⟩))] at this
    obtain ⟨o', g⟩ := (S.mut (.inr (.inr ⟨p, hp, ds, e⟩))).2.2
    rw [g] at this; cases this
theorem Fm.aok (F : Fm) {lv : Nat} (h : lv ≤ F.lv) : AOk lv F.A := ⟨F.hand, by have := F.depth; omega, by have := F.units; omega⟩
/-- a def is called, its arguments at hand -/
theorem Fn.use {lv : Nat} {fa : Addr} {ds : List D} {ks : List (Str × D)} {R : D → Option Hd → Prop} (H : Fn X lv fa ds ks st.hdr R) (hlv : lv ≤ F.lv) {vs : List Value} {kw : List (Str × Value)} (rs : RdL f vs ds) (rk : RdK f kw ks) :
    Wp X F (call (.ref fa) vs kw) st f fun v st' f' => ∃ d, Rd f' v d ∧ ∃ hd', st' = ⟨st.vars, hd'⟩ ∧ R d hd' := fun P s hs S => by
  refine wpAny_call (codeAny_mono (H F.A f (Prot F st P s.heap) s vs kw (F.aok hlv) hs S.toC rs rk) fun r s' q => ?_)
  obtain ⟨v, d, hd', f', rfl, hs', le, C, rv, hR⟩ := q
  exact ⟨hs', f', _, le, S.ofC le C, d, rv, hd', rfl, hR⟩
variable {Q : D → St → Prop} {pos : Pos}
theorem Ev.call {x : Str} {p : Pos} {fa : Addr} {e : Expr} {rest : List Expr} {lv : Nat} (hf : nsIn X.K mainGlobals x = some (some (.ref fa))) (hx : F.env.kindOf x = some .globalImplicit) (hk : keepIn X.K (.ref fa) = true) (hlv : lv ≤ F.lv)
    (h : EvA X F pos (e :: rest) st fun ds st₁ => Fn X lv fa ds [] st₁.hdr fun d hd' => Q d ⟨st₁.vars, hd'⟩)
    (he : starEach (e :: rest) F.env = (false, eval e F.env) :: starEach rest F.env := by with_unfolding_all rfl) (hpl : (backTo pos (starEach rest F.env)).any (·.1) = false := by with_unfolding_all rfl) (hd : (x == ("__debug__" : Str)) = false := by decide) :
    Ev X F (.Call (.Name x p) (e :: rest) [] pos) st Q := fun f P s hs S => by
  show wpAny _ _ (do callWith pos (← eval (.Name x p) F.env) [] (backTo pos (starEach (e :: rest) F.env)) (backToKw pos (keywordEach [] F.env))) _ _ _
  refine wpAny_bind (Wp.then (Ev.glob (Q := fun d st' => d = .val (.ref fa) ∧ st' = st) hf ⟨rfl, rfl⟩ hx hd f) hs S fun v s₁ f₁ st₁ hs₁ le₁ S₁ ⟨d, r, e1, e2⟩ => ?_)
  subst e1 e2
  have e0 := r.isVal
  subst e0
  refine callWith_K X.k hk ((h f₁).then hs₁ S₁ fun vs s₂ f₂ st₂ hs₂ le₂ S₂ ⟨ds, rs, hl, H⟩ => ⟨S₂.k, ?_⟩) he hpl
  exact (Fn.use H hlv rs .nil).then hs₂ S₂ fun v s₃ f₃ st₃ hs₃ le₃ S₃ ⟨d, r, hd', e, q⟩ => ⟨hs₃, f₃, st₃, (le₁.trans le₂).trans le₃, S₃, d, r, e ▸ q⟩
end

/-- the slots at a call's start -/
def slots (bds : List (Str × D)) (rest : List Str) : List (Str × Slot) := bds.map (fun p => (p.1, Slot.dat p.2)) ++ rest.map fun n => (n, Slot.unset)
theorem bindL_at {k : Str → Option NameKind} {binds : List (Str × Value)} {m : Str → Option Value} {x : Str} (h : x ∉ binds.map (·.1)) : bindL k binds m x = m x := by
  induction binds generalizing m with
  | nil => rfl
  | cons p r ih =>
    unfold bindL
    rw [ih (fun q => h (.tail _ q))]
    split
    · exact if_neg fun (e : x = p.1) => h (e ▸ .head _)
    · rfl
theorem bindC_at {k : Str → Option NameKind} {binds : List (Str × Value)} {m : Str → Option Value} {x : Str} (h : x ∉ binds.map (·.1)) : bindC k binds m x = m x := by
  induction binds generalizing m with
  | nil => rfl
  | cons p r ih =>
    unfold bindC
    rw [ih (fun q => h (.tail _ q))]
    split
    · rfl
    · exact if_neg fun (e : x = p.1) => h (e ▸ .head _)
theorem bindL_mem {k : Str → Option NameKind} {binds : List (Str × Value)} {m : Str → Option Value} {x : Str} {v : Value} (nd : (binds.map (·.1)).Nodup) (hm : (x, v) ∈ binds) (hk : k x = some .local) : bindL k binds m x = some v := by
  induction binds generalizing m with
  | nil => cases hm
  | cons p r ih =>
    have nd' := List.nodup_cons.mp nd
    unfold bindL
    rcases List.mem_cons.mp hm with e | e
    · subst e
      rw [bindL_at nd'.1, if_pos hk]
      exact if_pos rfl
    · exact ih nd'.2 e
theorem bindC_mem {k : Str → Option NameKind} {binds : List (Str × Value)} {m : Str → Option Value} {x : Str} {v : Value} (nd : (binds.map (·.1)).Nodup) (hm : (x, v) ∈ binds) (hk : k x = some .cell) : bindC k binds m x = some v := by
  induction binds generalizing m with
  | nil => cases hm
  | cons p r ih =>
    have nd' := List.nodup_cons.mp nd
    unfold bindC
    rcases List.mem_cons.mp hm with e | e
    · subst e
      rw [bindC_at nd'.1, if_neg (by rw [hk]; decide)]
      exact if_pos rfl
    · exact ih nd'.2 e
theorem RdK.names {f : Mp} {vs : List (Str × Value)} {ds : List (Str × D)} (r : RdK f vs ds) : vs.map (·.1) = ds.map (·.1) := by
  induction r with
  | nil => rfl
  | cons _ _ ih => exact congrArg (_ :: ·) ih
theorem RdK.mem {f : Mp} {vs : List (Str × Value)} {ds : List (Str × D)} (r : RdK f vs ds) {x : Str} {d : D} (h : (x, d) ∈ ds) : ∃ v, (x, v) ∈ vs ∧ Rd f v d := by
  induction r with
  | nil => cases h
  | cons a _ ih =>
    rcases List.mem_cons.mp h with e | e
    · cases e; exact ⟨_, .head _, a⟩
    · obtain ⟨v, h1, h2⟩ := ih e; exact ⟨v, .tail _ h1, h2⟩
theorem slots_own {bds : List (Str × D)} {rest : List Str} {p : Str × Slot} (hp : p ∈ slots bds rest) {a : Addr} {ds : List D} (e : p.2 = .own a ds) : False := by
  rcases List.mem_append.mp hp with hp | hp <;> obtain ⟨q, hq, rfl⟩ := List.mem_map.mp hp <;> cases e
theorem slots_names (bds : List (Str × D)) (rest : List Str) : (slots bds rest).map (·.1) = bds.map (·.1) ++ rest := by
  unfold slots
  rw [List.map_append, List.map_map, List.map_map]
  exact congrArg _ (List.map_id _)

section
variable {X : Cx}
theorem Fn.enter {lv : Nat} {fa : Addr} {ds : List D} {ks : List (Str × D)} {hd : Option Hd} {R : D → Option Hd → Prop} {oc : Value} {od : Option Addr} {osl : Array (Option Value)} {fd : FuncData} {body : List Stmt} {bds : List (Str × D)} {rest : List Str}
    (ho : X.K.lookup fa = some ⟨oc, od, .func fd, osl⟩) (hcd : codeIn X.K fd.code fd.qualname = true) (hbody : fd.body = .stmts body) (hclo : fd.closure = []) (hgl : fd.globals = mainGlobals) (hbl : fd.builtins = builtinsNs)
    (hbind : ∀ f P s vs kw, SatC X hd f P s.heap → RdL f vs ds → RdK f kw ks → ∃ binds, BindsTo s fd ⟨vs, kw⟩ binds ∧ RdK f binds bds)
    (hkinds : ((bds.map (·.1) ++ rest).all fun n => fd.scope.names.lookup n == some .local || fd.scope.names.lookup n == some .cell) = true) (hnd : (bds.map (·.1) ++ rest).Nodup)
    (hcn : ∀ n, ((cellsFrom n fd.scope.names []).map (·.1)).Nodup)
    (hco : fd.scope.isCoroutine = false) (hgen : fd.scope.isGenerator = false) (hk : fd.scope.kind = .function)
    (h : ∀ (F : Fm) (L : Addr), F.lv = lv → F.own = true → F.cap = [] → F.env = callEnvC fd L fa → Xs X F body ⟨slots bds rest, hd⟩ (fun st => R .none st.hdr) (fun d st => R d st.hdr)) : Fn X (lv + 1) fa ds ks hd R := fun A f P s vs kw hA hs S rs rk => by
  obtain ⟨binds, hb, rb⟩ := hbind f P s vs kw S rs rk
  have hlim : s.heap.NoLimit := S.t.nolimit
  have hn1 : binds.map (·.1) = bds.map (·.1) := rb.names
  have hall : ∀ n ∈ bds.map (·.1) ++ rest, fd.scope.names.lookup n = some .local ∨ fd.scope.names.lookup n = some .cell := fun n hn => by
    have := List.all_eq_true.mp hkinds n hn
    rcases Bool.or_eq_true_iff.mp this with q | q
    · exact .inl (by simpa using q)
    · exact .inr (by simpa using q)
  refine codeAny_call_function (by have := hA.2.1; omega) (S.k _ _ ho) rfl hco hgen hbody (codeRec_of S.k hcd) (hb _ _ _ _ ?_)
  rw [hclo]
  refine wpAny_newFunctionEnv_cells hk (fun x hx => ?_) fun env he s' x => ?_
  · rcases hall x.1 (List.mem_append_left _ (hn1 ▸ List.mem_map_of_mem hx)) with q | q
    · exact .inl q
    · exact .inr ⟨q, cellsFrom_some _ _ _ (.inl q)⟩
  subst he
  obtain ⟨h₁, tk, rfl, _⟩ := x.done
  have hkp := x.toInCall.keep
  refine ⟨hlim.keeps hkp, codeAny_func ?_⟩
  let F : Fm := { env := callEnvC fd s.heap.objs.size fa, A := A.deeper (callEnvC fd s.heap.objs.size fa), lv := lv, own := true, cap := [], kind := hk, glob := hgl, blt := hbl, hand := hA.1, depth := by have := hA.2.1; show A.depth + 1 + lv < _; omega, units := by have := hA.2.2; show A.units + 3 + 8 * lv + 40 < _; omega, cells := x.apart }
  have key := h F s.heap.objs.size rfl rfl rfl rfl
  have fresh : ∀ {b : Addr}, s.heap.objs.size ≤ b → f b = none ∧ P b = none := fun {b} hb => ⟨S.sub.none (none_size hb), S.pro.none (none_size hb)⟩
  have cellAb : ∀ p ∈ F.env.cells, s.heap.objs.size ≤ p.2 := fun p hp => Nat.le_of_lt (x.above p.1 p.2 hp)
  have nodupB : (binds.map (·.1)).Nodup := by rw [hn1]; exact (List.nodup_append.mp hnd).1
  have lookC : ∀ n, fd.scope.names.lookup n = some .cell → ∃ c, F.env.cells.lookup n = some c := fun n hn => Option.isSome_iff_exists.mp (cellsFrom_some _ _ _ (.inl hn))
  have memC : ∀ p ∈ F.env.cells, F.env.cells.lookup p.1 = some p.2 := fun p hp => lookup_of_mem_nodup (hcn _) hp
  have hSat : Sat X F ⟨slots bds rest, hd⟩ f P h₁ := by
    refine ⟨fun b o e => hkp _ _ (S.sub b o e), fun b o e => hkp _ _ (S.pro b o e), S.base, S.disj, ?_, ⟨_, x.toInCall.ns, fun p hp => ?_⟩, fresh (Nat.le_refl _), fun _ p hp => fresh (cellAb p hp), fun _ p hp => ⟨_, x.cell _ _ (memC p hp)⟩, fun p hp a ds e => ?_, fun p hp q hq a ds ds' e e' => ?_, fun p hp => (nomatch hp), ?_, fun d hd' => ⟨(S.mH d hd').1, (S.mH d hd').2, fun p hp a ds e => ?_⟩⟩
    · show ((slots bds rest).map (·.1)).Nodup
      rw [slots_names]; exact hnd
    · rcases List.mem_append.mp hp with hp | hp
      · obtain ⟨q, hq, rfl⟩ := List.mem_map.mp hp
        obtain ⟨v, hv, rv⟩ := rb.mem (x := q.1) (d := q.2) hq
        rcases hall q.1 (List.mem_append_left _ (List.mem_map_of_mem hq)) with z | z
        · exact ⟨some v, .inl ⟨z, (bindL_mem nodupB hv z).symm⟩, v, rfl, rv⟩
        · obtain ⟨c, hc⟩ := lookC _ z
          exact ⟨some v, .inr ⟨z, rfl, c, hc, (bindC_mem (k := F.env.kindOf) (m := fun _ => none) nodupB hv z) ▸ x.cell _ _ hc⟩, v, rfl, rv⟩
      · obtain ⟨n, hn, rfl⟩ := List.mem_map.mp hp
        rcases hall n (List.mem_append_right _ hn) with z | z
        · exact ⟨_, .inl ⟨z, rfl⟩, trivial⟩
        · obtain ⟨c, hc⟩ := lookC _ z
          exact ⟨_, .inr ⟨z, rfl, c, hc, x.cell _ _ hc⟩, trivial⟩
    · exact (slots_own hp e).elim
    · exact (slots_own hp e).elim
    · have hh := S.hdr
      cases hd with
      | none => trivial
      | some d =>
        obtain ⟨dx, n, hs', t, e1, e2, vs, e3, e4⟩ := hh
        exact ⟨dx, n, hs', t, e1, e2, vs, e3.at fun o e => hkp _ _ e, e4⟩
    · exact (slots_own hp e).elim
  refine noE ((key f).then (hs.next _ _) hSat fun fl s' f' st' hs' le S' q => ?_)
  have fin : ∀ (v : Value) (d : D), Rd f' v d → R d st'.hdr → FnPost X f P R (.ok (.ret v)) s' := fun v d rv hR =>
    ⟨v, d, st'.hdr, f', rfl, hs', le, ⟨S'.sub, S'.pro, S'.base, S'.disj, S'.hdr, fun d hd => ⟨(S'.mH d hd).1, (S'.mH d hd).2.1⟩⟩, rv, hR⟩
  cases fl with
  | next => exact fin .none .none .none q
  | ret v => obtain ⟨d, r, q⟩ := q; exact fin v d r q
  | _ => exact q.elim
end
end Mine

open PySem PySem.W PyProof.Rows
set_option Elab.async false
set_option maxRecDepth 100000
set_option linter.unusedVariables false
namespace Mine
open PySem.Calls

inductive Has (x : Str) (sl : Slot) : List (Str × Slot) → Prop
  | head {r : List (Str × Slot)} : Has x sl ((x, sl) :: r)
  | tail {p : Str × Slot} {r : List (Str × Slot)} : Has x sl r → Has x sl (p :: r)
theorem Has.mem {x : Str} {sl : Slot} : ∀ {l : List (Str × Slot)}, Has x sl l → (x, sl) ∈ l
  | _, .head => .head _
  | _, .tail r => .tail _ r.mem
inductive HasC (x : Str) (d : D) : List (Str × D) → Prop
  | head {r : List (Str × D)} : HasC x d ((x, d) :: r)
  | tail {p : Str × D} {r : List (Str × D)} : HasC x d r → HasC x d (p :: r)
theorem HasC.mem {x : Str} {d : D} : ∀ {l : List (Str × D)}, HasC x d l → (x, d) ∈ l
  | _, .head => .head _
  | _, .tail r => .tail _ r.mem
def PutK (x : Str) (sl : Slot) (l : List (Str × Slot)) (k : List (Str × Slot) → Prop) : Prop := ∃ vs', Put x sl l vs' ∧ k vs'
theorem putK {x : Str} {sl : Slot} {l l' : List (Str × Slot)} {k : List (Str × Slot) → Prop} (h : Put x sl l l') (q : k l') : PutK x sl l k := ⟨l', h, q⟩
def Both (c : Bool) (p q : Prop) : Prop := (c = true → p) ∧ (c = false → q)
theorem both {c : Bool} {p q : Prop} (h : c = true → p) (h' : c = false → q) : Both c p q := ⟨h, h'⟩
theorem both_t {p q : Prop} (h : p) : Both true p q := ⟨fun _ => h, fun e => by cases e⟩
theorem both_f {p q : Prop} (h : q) : Both false p q := ⟨(fun e => by cases e), fun _ => h⟩
section
variable {X : Cx} {F : Fm} {st : St} {Q : D → St → Prop} {Qn : St → Prop} {Qr : D → St → Prop} {pos : Pos}
theorem e_name {x : Str} {d : D} (hm : Has x (.dat d) st.vars) (h : Q d st) (hd : (x == ("__debug__" : Str)) = false := by decide) : Ev X F (.Name x pos) st Q := Ev.name hm.mem h hd
theorem e_globV {x : Str} {v : Value} {d : D} (he : nsIn X.K mainGlobals x = some (some v)) (hr : ∀ f, Rd f v d) (hx : F.env.kindOf x = some .globalImplicit) (h : Q d st) (hd : (x == ("__debug__" : Str)) = false := by decide) : Ev X F (.Name x pos) st Q := fun f P s hs S => by
  refine Name_function_global F.kind hx (loadGlobal_global (mg := X.mg) (F.glob ▸ S.t.g) (mg_of X.k X.t.g he) (.here hs S ⟨_, hr f, h⟩)) hd
theorem fn_enter {lv : Nat} {fa : Addr} {ds : List D} {ks : List (Str × D)} {hd : Option Hd} {R : D → Option Hd → Prop} {oc : Value} {od : Option Addr} {osl : Array (Option Value)} {fd : FuncData} {body : List Stmt} (bn : List Str) (bv : List D) (rest : List Str)
    (ho : X.K.lookup fa = some ⟨oc, od, .func fd, osl⟩) (hcd : codeIn X.K fd.code fd.qualname = true) (hbody : fd.body = .stmts body)
    (hbind : ∀ f P s vs kw, SatC X hd f P s.heap → RdL f vs ds → RdK f kw ks → ∃ binds, BindsTo s fd ⟨vs, kw⟩ binds ∧ RdK f binds (bn.zip bv))
    (hkinds : ((bn ++ rest).all fun n => fd.scope.names.lookup n == some .local || fd.scope.names.lookup n == some .cell) = true) (hnd : (bn ++ rest).Nodup)
    (hcn : ∀ n, ((cellsFrom n fd.scope.names []).map (·.1)).Nodup)
    (h : ∀ (F : Fm) (L : Addr), F.lv = lv → F.own = true → F.cap = [] → F.env = callEnvC fd L fa → Xs X F body ⟨slots (bn.zip bv) rest, hd⟩ (fun st => R .none st.hdr) (fun d st => R d st.hdr))
    (hl : bn.length = bv.length := by with_unfolding_all rfl) (hclo : fd.closure = [] := by with_unfolding_all rfl) (hgl : fd.globals = mainGlobals := by with_unfolding_all rfl) (hbl : fd.builtins = builtinsNs := by with_unfolding_all rfl) (hco : fd.scope.isCoroutine = false := by with_unfolding_all rfl) (hgen : fd.scope.isGenerator = false := by with_unfolding_all rfl) (hk : fd.scope.kind = .function := by with_unfolding_all rfl) : Fn X (lv + 1) fa ds ks hd R := by
  have e : (bn.zip bv).map (·.1) = bn := List.map_fst_zip (Nat.le_of_eq hl)
  exact Fn.enter ho hcd hbody hclo hgl hbl hbind (by rw [e]; exact hkinds) (by rw [e]; exact hnd) hcn hco hgen hk h
/-- the two ways of a test -/
theorem x_if {t : Expr} {b o : List Stmt} (h : Tst X F t st fun c st' => Both c (Xs X F b st' Qn Qr) (Xs X F o st' Qn Qr)) : X1 X F (.If t b o pos) st Qn Qr := X1.if fun f => (h f).mono fun c st' f' _ q => by
  cases c
  · exact q.2 rfl
  · exact q.1 rfl
theorem e_ifexp {t b o : Expr} (h : Tst X F t st fun c st' => Both c (Ev X F b st' Q) (Ev X F o st' Q)) : Ev X F (.IfExp t b o pos) st Q := Ev.ifexp fun f => (h f).mono fun c st' f' _ q => by
  cases c
  · exact q.2 rfl
  · exact q.1 rfl
theorem x_assign {x : Str} {px : Pos} {e : Expr} (h : Ev X F e st fun d st₁ => PutK x (.dat d) st₁.vars fun vs' => Qn ⟨vs', st₁.hdr⟩)
    (hsw : swapsWith e (some (.Name x px)) pos.line F.env = pure false := by with_unfolding_all rfl) : X1 X F (.Assign [.Name x px] e pos) st Qn Qr := X1.assign h hsw
theorem x_aug {x : Str} {px : Pos} {op : Operator} {e : Expr} {d₀ : D} (hx : Has x (.dat d₀) st.vars)
    (h : Ev X F e st fun d st₁ => ∀ f v₁ v₂, Rd f v₁ d₀ → Rd f v₂ d → Wp X F (inplaceOp op v₁ v₂) st₁ f fun v st₂ f' => ∃ d, Rd f' v d ∧ PutK x (.dat d) st₂.vars fun vs' => Qn ⟨vs', st₂.hdr⟩) :
    X1 X F (.AugAssign (.Name x px) op e pos) st Qn Qr := X1.aug hx.mem h
theorem x_new {x : Str} {px p : Pos} (h : ∀ a, PutK x (.own a []) st.vars fun vs' => Qn ⟨vs', st.hdr⟩) : X1 X F (.Assign [.Name x px] (.List [] p) pos) st Qn Qr := X1.newOwn h
theorem a_name {x : Str} {d : D} {R : St → Prop} (h : PutK x (.dat d) st.vars fun vs' => R ⟨vs', st.hdr⟩) : Asg X F (.Name x pos) d st R := let ⟨_, hp, q⟩ := h; Asg.name hp q
theorem rdl1 {f : Mp} {vs : List Value} {a : D} (r : RdL f vs [a]) : ∃ x, vs = [x] ∧ Rd f x a := by
  obtain ⟨x, _, rfl, p, r⟩ := r.inv; cases r.inv0; exact ⟨_, rfl, p⟩
theorem rdl2 {f : Mp} {vs : List Value} {a b : D} (r : RdL f vs [a, b]) : ∃ x y, vs = [x, y] ∧ Rd f x a ∧ Rd f y b := by
  obtain ⟨_, _, rfl, p, r⟩ := r.inv; obtain ⟨y, rfl, q⟩ := rdl1 r; exact ⟨_, y, rfl, p, q⟩
theorem rdl3 {f : Mp} {vs : List Value} {a b c : D} (r : RdL f vs [a, b, c]) : ∃ x y z, vs = [x, y, z] ∧ Rd f x a ∧ Rd f y b ∧ Rd f z c := by
  obtain ⟨_, _, rfl, p, r⟩ := r.inv; obtain ⟨y, z, rfl, q⟩ := rdl2 r; exact ⟨_, y, z, rfl, p, q⟩
end
end Mine

open PySem PySem.W PyProof.Rows
set_option Elab.async false
set_option maxRecDepth 100000
set_option linter.unusedVariables false
namespace Mine
open PySem.Calls

def BltOk (X : Cx) (F : Fm) (v : Value) (ds : List D) (st : St) (Q : D → St → Prop) : Prop :=
  ∀ f vs, RdL f vs ds → Wp X F (call v vs) st f fun r st' f' => ∃ d, Rd f' r d ∧ Q d st'
structure Blt (X : Cx) (x : Str) (v : Value) : Prop where
  g : nsIn X.K mainGlobals x = some none
  b : bootBuiltins x = some v
  n : x ≠ "__name__"
structure Knd (F : Fm) (names : List (Str × NameKind)) : Prop where
  loc : ∀ x, names.lookup x = some .local → F.env.kindOf x = some .local
  cel : ∀ x, names.lookup x = some .cell → F.env.kindOf x = some .cell
  glob : ∀ x, names.lookup x = some .globalImplicit → F.env.kindOf x = some .globalImplicit
  free : ∀ x, names.lookup x = some .free → F.env.kindOf x = some .cell ∨ F.env.kindOf x = some .free
theorem Knd.of {F : Fm} {fd : FuncData} {L fa : Addr} (h : F.env = callEnvC fd L fa) : Knd F fd.scope.names := by
  have e : ∀ x, F.env.kindOf x = fd.scope.names.lookup x := fun x => by rw [h]; rfl
  exact ⟨fun x q => (e x).trans q, fun x q => (e x).trans q, fun x q => (e x).trans q, fun x q => .inr ((e x).trans q)⟩

section
variable {X : Cx} {F : Fm} {st : St} {Q : D → St → Prop} {pos : Pos}
theorem callWith_any {M : Model} {A : Around} {E : Value → Shared → Prop} {s : Shared} {v : Value} {first : List Value} {args : List (Bool × Sem Value)} {R : Value → Shared → Prop} (hv : ∀ a, v ≠ .ref a) (hplain : args.any (·.1) = false)
    (h : wpAny M A (evalArgs v true args []) (fun a s₁ => wpAny M A (call v (first ++ a.pos) a.kw) R E s₁) E s) : wpAny M A (callWith pos v first args []) R E s := by
  unfold callWith
  refine wpAny_bind (wpAny_holding (wpAny_mono h (fun a s₁ h₁ => wpAny_bind (wpAny_standAt ?_)) fun _ _ x => x))
  simp only [hplain, List.any_nil, Bool.or_false]
  have hk : keeperOf v = pure .machine := by
    unfold keeperOf
    cases v <;> first | rfl | exact absurd rfl (hv _)
  rw [hk]
  refine wpAny_bind (wpAny_pure ?_)
  exact wpAny_bind (wpAny_mono h₁ (fun r s₂ hr => wpAny_bind (wpAny_holding (wpAny_point (wpAny_pure hr)))) fun _ _ x => x)
theorem e_callB {x : Str} {p : Pos} {v : Value} {e : Expr} {rest : List Expr} (hb : Blt X x v) (hx : F.env.kindOf x = some .globalImplicit) (h : EvA X F pos (e :: rest) st fun ds st₁ => BltOk X F v ds st₁ Q)
    (hv : ∀ a, v ≠ .ref a := by with_unfolding_all (intro a e; cases e))
    (he : starEach (e :: rest) F.env = (false, eval e F.env) :: starEach rest F.env := by with_unfolding_all rfl) (hpl : (backTo pos (starEach rest F.env)).any (·.1) = false := by with_unfolding_all rfl) (hd : (x == ("__debug__" : Str)) = false := by decide) :
    Ev X F (.Call (.Name x p) (e :: rest) [] pos) st Q := fun f P s hs S => by
  show wpAny _ _ (do callWith pos (← eval (.Name x p) F.env) [] (backTo pos (starEach (e :: rest) F.env)) (backToKw pos (keywordEach [] F.env))) _ _ _
  refine wpAny_bind (Wp.then (Ev.blt (Q := fun d st' => d = .val v ∧ st' = st) hb.g hb.b hb.n ⟨rfl, rfl⟩ hx hd f) hs S fun u s₁ f₁ st₁ hs₁ le₁ S₁ ⟨d, r, e1, e2⟩ => ?_)
  subst e1 e2
  have e0 := r.isVal
  subst e0
  have key := h f₁
  rw [he] at key ⊢
  refine callWith_any hv (by show (false || (backTo pos (starEach rest F.env)).any (·.1)) = false; rw [hpl]; rfl) (evalArgs_plain (key.then hs₁ S₁ fun vs s₂ f₂ st₂ hs₂ le₂ S₂ ⟨ds, rs, hl, H⟩ => ?_))
  exact (H f₂ vs rs).last (le₁.trans le₂) hs₂ S₂

theorem k_len {ds : List D} (hsz : ds.length ≤ 1000000) (h : Q (.int ds.length) st) : BltOk X F (.builtin "len") [.lst ds] st Q := fun f vs rs P s hs S => by
  obtain ⟨x, rfl, r⟩ := rdl1 rs
  obtain ⟨a, o, n, us, rfl, e1, e2, e3, rs⟩ := r.inv
  have hl : s.heap.IsList a us.toArray := ⟨_, S.sub _ _ e1, e2, _, e3⟩
  have hlen := rs.length
  refine call_len_list hl (by simp; omega) (.here (hs.next _ _) S ⟨.int ds.length, ?_, h⟩)
  simp only [List.size_toArray, hlen]
  exact .int _ _
/-- int of a float -/
def trunc (x : UInt64) : Int := Flt.toInt Float64.truncOf x
theorem k_intF {x : UInt64} (hx : Float64.isFinite x = true) (h : Q (.int (trunc x)) st) : BltOk X F (.type "int") [.flt x] st Q := fun f vs rs P s hs S => by
  obtain ⟨v, rfl, r⟩ := rdl1 rs
  obtain ⟨_, rfl⟩ := r.inv
  refine Flt.call_int_float3 F.hand (fun q => ?_) (fun q => ?_) fun _ => .here (hs.next _ _) S ⟨_, .int _ _, h⟩
  · exfalso; unfold Float64.isNaN at q; unfold Float64.isFinite at hx; split at q <;> simp_all
  · exfalso; unfold Float64.isInf at q; unfold Float64.isFinite at hx; split at q <;> simp_all
theorem k_strI {a : Int} (ha : a.natAbs.log2 < 1920) (h : Q (.str (Str.ofString (toString a))) st) : BltOk X F (.type "str") [.int a] st Q := fun f vs rs P s hs S => by
  obtain ⟨v, rfl, r⟩ := rdl1 rs
  obtain ⟨_, rfl⟩ := r.inv
  exact PySem.P.str_of_int ha (.here (hs.next _ _) S ⟨_, .str _ _, h⟩)
theorem k_range {n : Int} (hn : 0 ≤ n) (h : Q (.rng 0 n.toNat) st) : BltOk X F (.type "range") [.int n] st Q := fun f vs rs P s hs S => by
  obtain ⟨v, rfl, r⟩ := rdl1 rs
  obtain ⟨k, rfl⟩ : ∃ k : Nat, n = k := ⟨n.toNat, by omega⟩
  obtain ⟨tk, rfl⟩ := r.inv
  have e : ((0 + k : Nat) : Int) = k := by omega
  refine call_range_1 ⟨hs.next _ _, _, st, .add S.fresh.1, S.alloc _, .rng 0 k, Rd.rng (t := s.toks) (u := tk) (v := s.toks + 1) ?_, h⟩
  rw [e]
  exact Mp.add_self ..
/-- «range(1, n + 1)» -/
theorem k_range2 {n : Nat} (h : Q (.rng 1 n) st) : BltOk X F (.type "range") [.int 1, .int ((n : Int) + 1)] st Q := fun f vs rs P s hs S => by
  obtain ⟨v, w, rfl, r, r'⟩ := rdl2 rs
  obtain ⟨tk, rfl⟩ := r.inv
  obtain ⟨tk', rfl⟩ := r'.inv
  have e : ((1 + n : Nat) : Int) = (n : Int) + 1 := by omega
  refine call_range_2 ⟨hs.next _ _, _, st, .add S.fresh.1, S.alloc _, .rng 1 n, Rd.rng (t := tk) (u := tk') (v := s.toks) ?_, h⟩
  rw [e]
  exact Mp.add_self ..
theorem k_typeStr {x : Str} (h : Q (.val (.type "str")) st) : BltOk X F (.type "type") [.str x] st Q := fun f vs rs P s hs S => by
  obtain ⟨v, rfl, r⟩ := rdl1 rs
  obtain ⟨_, rfl⟩ := r.inv
  exact call_type_of (typeIs_str s x _) rfl (.here hs S ⟨_, .val _, h⟩)
theorem k_max2 {a b : Int} (h : Q (.int (if b > a then b else a)) st) : BltOk X F (.builtin "max") [.int a, .int b] st Q := fun f vs rs P s hs S => by
  obtain ⟨v, u, rfl, r, r'⟩ := rdl2 rs
  obtain ⟨_, rfl⟩ := r.inv
  obtain ⟨_, rfl⟩ := r'.inv
  refine max_two_ints F.hand fun h' tk hk => .here (hs.next _ _) (S.keep hk) ⟨_, ?_, h⟩
  split <;> exact .int _ _
theorem k_min2 {a b : Int} (h : Q (.int (if b < a then b else a)) st) : BltOk X F (.builtin "min") [.int a, .int b] st Q := fun f vs rs P s hs S => by
  obtain ⟨v, u, rfl, r, r'⟩ := rdl2 rs
  obtain ⟨_, rfl⟩ := r.inv
  obtain ⟨_, rfl⟩ := r'.inv
  refine min_two_ints F.hand fun h' tk hk => .here (hs.next _ _) (S.keep hk) ⟨_, ?_, h⟩
  split <;> exact .int _ _

/-- the ints of a list -/
theorem ints_of {f : Mp} : ∀ {ns : List Int} {us : List Value}, RdL f us (ns.map D.int) → ∃ xs : Array (Int × Tok), us.toArray = intItems xs ∧ xs.size = ns.length ∧ ∀ i, i < ns.length → ns[i]? = some (numAt xs i) := fun {ns us} r => by
  induction ns generalizing us with
  | nil => obtain rfl := r.inv0; exact ⟨#[], by simp [intItems], rfl, fun i h => by simp at h⟩
  | cons n ns ih =>
    obtain ⟨_, _, rfl, a, r2⟩ := r.inv
    obtain ⟨t, rfl⟩ := a.inv
    obtain ⟨xs, e1, e2, e3⟩ := ih r2
    refine ⟨(⟨(n, t) :: xs.toList⟩ : Array _), ?_, by simp [e2], fun i h => ?_⟩
    · apply Array.ext'
      have e1' := congrArg Array.toList e1
      simp [intItems] at e1' ⊢
      exact e1'
    · cases i with
      | zero => simp [numAt]
      | succ i =>
        have := e3 i (by simpa using h)
        simpa [numAt] using this
theorem k_minL {ns : List Int} (hne : ns ≠ []) (h : ∀ m ∈ ns, (∀ x ∈ ns, m ≤ x) → Q (.int m) st) : BltOk X F (.builtin "min") [.lst (ns.map D.int)] st Q := fun f vs rs P s hs S => by
  obtain ⟨v, rfl, r⟩ := rdl1 rs
  obtain ⟨a, o, n, us, rfl, e1, e2, e3, rs⟩ := r.inv
  obtain ⟨xs, hx, hsz, hat⟩ := ints_of rs
  have hpos : 0 < ns.length := List.length_pos_iff.mpr hne
  have hl : s.heap.IsList a (intItems xs) := hx ▸ ⟨_, S.sub _ _ e1, e2, _, e3⟩
  refine min_intList F.hand hl (by omega) fun v h' tk hv hk => ?_
  obtain ⟨hb1, hb2⟩ := argBest_lt (numAt xs) (xs.size - 1)
  obtain ⟨t, rfl⟩ := intItems_at hv
  refine .here (hs.next _ _) (S.keep hk) ⟨_, .int _ t, h _ ?_ fun x hx => ?_⟩
  · exact List.mem_of_getElem? (hat _ (by omega))
  · obtain ⟨i, hi, rfl⟩ := List.mem_iff_getElem.mp hx
    have := hat i hi
    rw [List.getElem?_eq_getElem hi] at this
    rw [Option.some.inj this]
    exact hb2 i (by omega)
theorem of_intsAre {f : Mp} : ∀ {us : List Value} {ns : List Int}, IntsAre us ns → RdL f us (ns.map D.int)
  | _, _, .nil => .nil
  | _, _, .cons n t r => .cons (.int n t) (of_intsAre r)
/-- the greatest, the least of three floats, as max and min take them -/
def fgt (a b : UInt64) : Bool := Float64.cmp a b == some Ordering.gt
def fmax3 (a b c : UInt64) : UInt64 := if fgt b a then (if fgt c b then c else b) else (if fgt c a then c else a)
def fmin3 (a b c : UInt64) : UInt64 := if flt b a then (if flt c b then c else b) else (if flt c a then c else a)
theorem cmpF {op : CmpOp} {prog : Program} {w : World} {A : Around} {vs : Array Value} {g : Nat → UInt64} (bt : UInt64 → UInt64 → Bool)
    (hop : ∀ (a b : UInt64) (t u : Tok) (s : Shared) (Q : Value → Shared → Prop) (E : Value → Shared → Prop), Q (.bool (bt a b)) s → wpAny (model prog w) A (richCompare op (Value.float a t) (Value.float b u)) Q E s)
    (hg : ∀ i v, vs[i]? = some v → ∃ t, v = Value.float (g i) t) : CmpOf prog w A op (fun i v => vs[i]? = some v) (fun i j => bt (g i) (g j)) := fun i j vi vj s Q E hi hj h => by
  obtain ⟨t, rfl⟩ := hg i vi hi
  obtain ⟨u, rfl⟩ := hg j vj hj
  exact hop _ _ _ _ _ _ _ h
def g3 (a b c : UInt64) (i : Nat) : UInt64 := if i = 0 then a else if i = 1 then b else c
def v3 (a b c : UInt64) (ta tb tc : Tok) : Array Value := #[.float a ta, .float b tb, .float c tc]
def sel3 (bt : UInt64 → UInt64 → Bool) (a b c : UInt64) : UInt64 := if bt b a then (if bt c b then c else b) else (if bt c a then c else a)
theorem best3 {bt : UInt64 → UInt64 → Bool} {a b c : UInt64} {ta tb tc : Tok} {v : Value} {f : Mp} (hP : (v3 a b c ta tb tc)[argBest (fun i j => bt (g3 a b c i) (g3 a b c j)) 2]? = some v) : Rd f v (.flt (sel3 bt a b c)) := by
  have e : argBest (fun i j => bt (g3 a b c i) (g3 a b c j)) 2 = if bt b a then (if bt c b then 2 else 1) else (if bt c a then 2 else 0) := by
    show (if bt c (g3 a b c (if bt b a then 1 else 0)) then 2 else (if bt b a then 1 else 0)) = _
    cases bt b a <;> rfl
  rw [e] at hP
  unfold sel3
  split at hP <;> split at hP <;> cases hP <;> simp only [*, if_true, Bool.false_eq_true, if_false] <;> exact .flt _ _
theorem k_best3 {op : CmpOp} {a b c : UInt64} {ta tb tc : Tok} {f : Mp} {s : Shared} {R : Value → Shared → Prop} {E : Value → Shared → Prop} (bt : UInt64 → UInt64 → Bool)
    (hop : ∀ (a b : UInt64) (t u : Tok) (s : Shared) (Q : Value → Shared → Prop) (E : Value → Shared → Prop), Q (.bool (bt a b)) s → wpAny (model X.prog X.w) F.A.in1 (richCompare op (Value.float a t) (Value.float b u)) Q E s)
    (hR : ∀ v h' tk, Rd f v (.flt (sel3 bt a b c)) → (∀ d o, s.heap.get? d = some o → h'.get? d = some o) → R v { s with heap := h', toks := tk }) :
    wpAny (model X.prog X.w) F.A.in1 (pyIter (.ref s.heap.objs.size)) (fun it s₂ => ∃ I fp wr n P St bt, it = .ref I ∧ Walks X.prog X.w F.A.in1 I fp wr n P St ∧ St 0 s₂.heap ∧ (∀ b ∈ fp, b < s₂.heap.objs.size) ∧ 0 < n ∧ CmpOf X.prog X.w F.A.in1 op P bt ∧
      ∀ v h' tk, P (argBest bt (n - 1)) v → (∀ b o, b ∉ wr → s₂.heap.get? b = some o → h'.get? b = some o) → R v { s₂ with heap := h', toks := tk }) E
      { s with heap := s.heap.push { cls := .type "tuple", data := .seq (v3 a b c ta tb tc) } } := by
  generalize hv : v3 a b c ta tb tc = vs
  have hT : (s.heap.push { cls := .type "tuple", data := .seq vs }).IsTuple s.heap.objs.size vs := ⟨_, Heap.get?_push_size _ rfl, rfl, 0, rfl⟩
  refine wpAny_pyIter_tuple hT ?_
  have hsz : (s.heap.push { cls := .type "tuple", data := .seq vs }).objs.size = s.heap.objs.size + 1 := Heap.size_push ..
  have h3 : vs.size = 3 := hv ▸ rfl
  refine ⟨_, [_, s.heap.objs.size], [_], _, _, _, _, rfl, Walks.tuple (A := F.A.in1) F.hand _ s.heap.objs.size (by rw [hsz]; exact Nat.ne_of_lt (Nat.lt_succ_self _)) vs,
    ⟨⟨_, Heap.get?_push_size _ rfl, rfl, rfl⟩, hT.push _⟩, fun d hd => ?_, h3 ▸ Nat.zero_lt_succ _, cmpF (g := g3 a b c) bt hop (fun i v hi => ?_), fun v h' tk hP hk => ?_⟩
  · show d < ((s.heap.push _).push _).objs.size
    rw [Heap.size_push, hsz]
    rcases List.mem_cons.mp hd with rfl | hd
    · rw [hsz]; exact Nat.lt_succ_self _
    · rcases List.mem_cons.mp hd with rfl | hd
      · exact Nat.lt_succ_of_lt (Nat.lt_succ_self _)
      · cases hd
  · subst hv
    match i, hi with
    | 0, hv => cases hv; exact ⟨_, rfl⟩
    | 1, hv => cases hv; exact ⟨_, rfl⟩
    | 2, hv => cases hv; exact ⟨_, rfl⟩
  · refine hR v h' tk (best3 (ta := ta) (tb := tb) (tc := tc) ?_) fun d o e => ?_
    · rw [h3, ← hv] at hP; exact hP
    · refine hk d o (fun hm => ?_) (Heap.get?_push_of_some _ (Heap.get?_push_of_some _ e))
      rcases List.mem_cons.mp hm with e1 | hm
      · have := Heap.lt_size e; rw [e1, hsz] at this; exact Nat.lt_irrefl _ (Nat.lt_of_succ_lt this)
      · cases hm
theorem k_max3F {a b c : UInt64} (h : Q (.flt (fmax3 a b c)) st) : BltOk X F (.builtin "max") [.flt a, .flt b, .flt c] st Q := fun f vs rs P s hs S => by
  obtain ⟨v, u, w, rfl, r1, r2, r3⟩ := rdl3 rs
  obtain ⟨ta, rfl⟩ := r1.inv; obtain ⟨tb, rfl⟩ := r2.inv; obtain ⟨tc, rfl⟩ := r3.inv
  exact call_max_three (k_best3 fgt (fun a b t u s Q E h => AutoFloatOps.gt_0 h) fun v h' tk r hk => .here (hs.next _ _) (S.keep hk) ⟨_, r, h⟩)
theorem k_min3F {a b c : UInt64} (h : Q (.flt (fmin3 a b c)) st) : BltOk X F (.builtin "min") [.flt a, .flt b, .flt c] st Q := fun f vs rs P s hs S => by
  obtain ⟨v, u, w, rfl, r1, r2, r3⟩ := rdl3 rs
  obtain ⟨ta, rfl⟩ := r1.inv; obtain ⟨tb, rfl⟩ := r2.inv; obtain ⟨tc, rfl⟩ := r3.inv
  exact call_min_three (k_best3 flt (fun a b t u s Q E h => AutoFloatOps.lt_0 h) fun v h' tk r hk => .here (hs.next _ _) (S.keep hk) ⟨_, r, h⟩)
end
end Mine

open PySem PySem.W PyProof.Rows
set_option Elab.async false
set_option maxRecDepth 100000
set_option linter.unusedVariables false
namespace Mine
open PySem.Calls

/-- a method call of the short form -/
theorem meth_core {M : Model} {A : Around} {E : Value → Shared → Prop} {s : Shared} {env : Env} {o : Expr} {name : Str} {apos pos : Pos} {args : List Expr} {kws : List Keyword} {Q : Value → Shared → Prop}
    (hbase : attributeBase o name env (eval o env) = eval o env) (hform : methodCallForm (args.length + kws.length) (backTo pos (starEach args env)) (backToKw pos (keywordEach kws env)) = true) (hline : (apos.endLine == pos.line) = true)
    (h : wpAny M A (eval o env) (fun ov s₁ => wpAny M A (getMethod ov name (do return (← importBound o env).getD true)) (fun x s₂ => wpAny M A (callWith pos x.1 x.2 (backTo pos (starEach args env)) (backToKw pos (keywordEach kws env))) Q E s₂) E s₁) E s) :
    wpAny M A (eval (.Call (.Attribute o name apos) args kws pos) env) Q E s := by
  rw [arm_eval_Call, hbase]
  refine wpAny_bind (wpAny_mono h (fun ov s₁ h₁ => ?_) fun _ _ e => e)
  refine wpAny_bind (wpAny_standAt ?_)
  have hpos : methodCallPos true o env apos pos = pure pos := by unfold methodCallPos; simp [hline]
  unfold methodCall
  rw [hform]
  refine wpAny_bind (wpAny_holding ?_)
  show wpAny M A (getMethod ov name _) _ _ _
  refine wpAny_mono h₁ (fun x s₂ h₂ => ?_) fun _ _ e => e
  obtain ⟨fv, first⟩ := x
  exact wpAny_bind (wpAny_of_eq hpos h₂)

section
variable {X : Cx} {F : Fm} {st : St} {Q : D → St → Prop} {Qn : St → Prop} {Qr : D → St → Prop} {pos apos : Pos}
theorem evalArgs_none {M : Model} {A : Around} {E : Value → Shared → Prop} {s : Shared} {v : Value} {R : Args → Shared → Prop} (h : R ⟨[], []⟩ s) : wpAny M A (evalArgs v true [] []) R E s :=
  evalArgs_kw_nil rfl (wpAny_evalAll_nil h)
theorem e_lower {o : Expr} (h : Ev X F o st fun d st₁ => ∃ x, d = .str x ∧ x.length ≤ 100000 ∧ Q (.str (Txt.lower x)) st₁)
    (hbase : attributeBase o "lower" F.env (eval o F.env) = eval o F.env := by with_unfolding_all rfl) (hline : (apos.endLine == pos.line) = true := by with_unfolding_all rfl) : Ev X F (.Call (.Attribute o "lower" apos) [] [] pos) st Q := fun f P s hs S => by
  refine meth_core hbase rfl hline ((h f).then hs S fun v s₁ f₁ st₁ hs₁ le₁ S₁ ⟨d, r, x, e, hl, q⟩ => ?_)
  subst e
  obtain ⟨t, rfl⟩ := r.inv
  refine getMethod_builtin (typeIs_str s₁ x t) PySem.F.plainAttrs_str PySem.F.slot_str_lower PySem.F.type_str_lower (fun a e => by cases e) ?_
  refine callWith_builtin rfl (evalArgs_none ?_)
  exact SCL.lower (by omega) fun _ => ⟨hs₁.next _ _, f₁, st₁, le₁, S₁, _, .str _ _, q⟩
theorem strs_of {f : Mp} : ∀ {us : List Value} {ys : List Str}, RdL f us (ys.map D.str) → StrsAre us ys := fun {us ys} r => by
  induction ys generalizing us with
  | nil => obtain rfl := r.inv0; exact .nil
  | cons y ys ih =>
    obtain ⟨_, _, rfl, a, r2⟩ := r.inv
    obtain ⟨t, rfl⟩ := a.inv
    exact .cons _ _ (ih r2)
theorem e_join {o e : Expr} (h : Ev X F o st fun d st₁ => ∃ sep, d = .str sep ∧ sep.length ≤ 64 ∧ Ev X F e st₁ fun d' st₂ => ∃ ys : List Str, d' = .lst (ys.map D.str) ∧ (ys.map (·.length)).sum + ys.length * 64 ≤ 16777216 ∧ Q (.str (Txt.join sep ys)) st₂)
    (hbase : attributeBase o "join" F.env (eval o F.env) = eval o F.env := by with_unfolding_all rfl) (hline : (apos.endLine == pos.line) = true := by with_unfolding_all rfl)
    (he : starEach [e] F.env = [(false, eval e F.env)] := by with_unfolding_all rfl) : Ev X F (.Call (.Attribute o "join" apos) [e] [] pos) st Q := fun f P s hs S => by
  refine meth_core hbase (by rw [he]; rfl) hline ((h f).then hs S fun v s₁ f₁ st₁ hs₁ le₁ S₁ ⟨d, r, sep, e1, hl, q⟩ => ?_)
  subst e1
  obtain ⟨t, rfl⟩ := r.inv
  refine getMethod_builtin (typeIs_str s₁ sep t) PySem.F.plainAttrs_str PySem.F.slot_str_join PySem.F.type_str_join (fun a e => by cases e) ?_
  rw [he]
  refine callWith_builtin rfl (evalArgs_plain (spliced_cons ((q f₁).then hs₁ S₁ fun v₂ s₂ f₂ st₂ hs₂ le₂ S₂ ⟨d₂, r₂, ys, e2, hok, q₂⟩ => spliced_nil ?_)))
  subst e2
  obtain ⟨a, ob, n, us, rfl, g1, g2, g3, rs⟩ := r₂.inv
  have hli : s₂.heap.IsList a us.toArray := ⟨_, S₂.sub _ _ g1, g2, _, g3⟩
  exact join_listC hli (by simpa using strs_of rs) hl hok fun t' k => ⟨hs₂.next _ _, f₂, st₂, le₁.trans le₂, S₂, _, .str _ _, q₂⟩

/-- a slot is told anew, the heap as it is -/
theorem Sat.reslot {st : St} {f P : Mp} {h : Heap} (S : Sat X F st f P h) {x : Str} {sl : Slot} {vs' : List (Str × Slot)} (hput : Put x sl st.vars vs')
    (hsl : ∀ a ds, sl = .own a ds → f a = none ∧ P a = none ∧ (∀ p ∈ st.vars, ∀ ds', p.2 = .own a ds' → p.1 = x) ∧ ∀ d, st.hdr = some d → a ≠ d.H)
    (hv : ∀ s₀ ov, (x, s₀) ∈ st.vars → SlotIs f h ov s₀ → SlotIs f h ov sl) : Sat X F ⟨vs', st.hdr⟩ f P h := by
  obtain ⟨m, hn, hvars⟩ := S.vars
  obtain ⟨s₀, hm⟩ := hput.old
  refine S.store_gen hput (Heap.SameBut.refl F.env.locals h) S.mL.1 S.mL.2 (S.hne fun a vs q => ns_ne_list hn q) S.lC hsl ⟨m, hn, fun p hp => ?_⟩
  rcases hput.mem S.names p hp with rfl | ⟨hp, _⟩
  · obtain ⟨ov, a, b⟩ := hvars _ hm
    exact ⟨ov, a, hv s₀ ov hm b⟩
  · exact hvars p hp
theorem Put.via {x : Str} {sl : Slot} (t : Slot) : ∀ {l l' : List (Str × Slot)}, Put x sl l l' → ∃ l₁, Put x t l l₁ ∧ Put x sl l₁ l'
  | _, _, .head => ⟨_, .head, .head⟩
  | _, _, .tail r => let ⟨l₁, a, b⟩ := r.via t; ⟨_, .tail a, .tail b⟩
/-- a list of one's own is read: it is frozen -/
theorem e_frz {x : Str} {a : Addr} {ds : List D} (hm : Has x (.own a ds) st.vars) (h : PutK x (.dat (.lst ds)) st.vars fun vs' => Q (.lst ds) ⟨vs', st.hdr⟩) (hd : (x == ("__debug__" : Str)) = false := by decide) : Ev X F (.Name x pos) st Q := fun f P s hs S => by
  obtain ⟨vs', hput, q⟩ := h
  obtain ⟨m, ov, hn, hv, e, vs, ⟨n, hl⟩, rs⟩ := S.var hm.mem
  subst e
  obtain ⟨l₁, p1, p2⟩ := hput.via .unset
  have S₁ := S.reslot p1 (fun a ds e => by cases e) (fun _ _ _ _ => trivial)
  have uniq : ∀ p ∈ l₁, ∀ b ds', p.2 = .own b ds' → b ≠ a := fun p hp b ds' e q => by
    subst q
    rcases p1.mem S.names p hp with rfl | ⟨hp, hne⟩
    · cases e
    · exact hne (S.inj p hp _ hm.mem b ds' ds e rfl)
  have irr : Irr F ⟨l₁, st.hdr⟩ f P a := by
    refine ⟨(S.mO _ hm.mem a ds rfl).1, (S.mO _ hm.mem a ds rfl).2, Ne.symm (ns_ne_list hn ⟨n, hl⟩), fun o p hp => ?_, uniq, fun d hd => Ne.symm ((S.mH d hd).2.2 _ hm.mem a ds rfl)⟩
    obtain ⟨v, c⟩ := S.lC o p hp
    exact Ne.symm (cell_ne_list c ⟨n, hl⟩)
  have S₂ := S₁.freeze hl irr
  have r : Rd (Mp.add f a { cls := .type "list", data := .seq vs.toArray n }) (.ref a) (.lst ds) := .lst (Mp.add_self ..) rfl rfl (rs.mono (.add irr.1))
  have S₃ : Sat X F ⟨vs', st.hdr⟩ (Mp.add f a { cls := .type "list", data := .seq vs.toArray n }) P s.heap := by
    obtain ⟨m₂, hn₂, hv₂⟩ := S₂.vars
    refine S₂.store_gen p2 (Heap.SameBut.refl F.env.locals s.heap) S₂.mL.1 S₂.mL.2 (S₂.hne fun a vs q => ns_ne_list hn₂ q) S₂.lC (fun a ds e => by cases e) ⟨m, hn, fun p hp => ?_⟩
    rcases p2.mem S₂.names p hp with rfl | ⟨hp, hne⟩
    · exact ⟨_, hv, _, rfl, r⟩
    · rcases p1.mem S.names p hp with rfl | ⟨hp, _⟩
      · exact absurd rfl hne
      · obtain ⟨m', hn', hv'⟩ := S.vars
        have hmm : m' = m := by
          obtain ⟨o, es, ep, g1, g2, g3, g4⟩ := hn
          obtain ⟨o', es', ep', k1, k2, k3, k4⟩ := hn'
          rw [g1] at k1; cases k1
          rw [g2] at k2; cases k2
          funext y; rw [← g4, ← k4]
        subst hmm
        obtain ⟨ov, z1, z2⟩ := hv' p hp
        exact ⟨ov, z1, slot_mono (.add irr.1) z2⟩
  exact wpAny_Name (load_var hn hv ⟨hs, _, _, .add irr.1, S₃, _, r, q⟩) hd

theorem Sat.grow {st : St} {f P : Mp} {h h' : Heap} (S : Sat X F st f P h) {x : Str} {a : Addr} {ds ds' : List D} {vs' : List (Str × Slot)} {us : List Value} (hm : (x, Slot.own a ds) ∈ st.vars) (hput : Put x (.own a ds') st.vars vs') (hs : Heap.SameBut a h h') (hl : h'.PlainList a us.toArray) (r : RdL f us ds') :
    Sat X F ⟨vs', st.hdr⟩ f P h' := by
  obtain ⟨m, hn, hvars⟩ := S.vars
  obtain ⟨ov, hov, ⟨e0, vs0, hl0, _⟩⟩ := hvars _ hm
  have m1 := S.mO _ hm a ds rfl
  have hLa : F.env.locals ≠ a := Ne.symm (ns_ne_list hn hl0)
  refine S.store_gen hput hs m1.1 m1.2 (fun d hd => Ne.symm ((S.mH d hd).2.2 _ hm a ds rfl)) (fun o p hp => ?_) (fun b ds'' e => ?_) ⟨m, hn.sameBut hs hLa, fun p hp => ?_⟩
  · obtain ⟨v, c⟩ := S.lC o p hp
    exact ⟨v, c.sameBut hs (Ne.symm (cell_ne_list c hl0))⟩
  · cases e
    exact ⟨m1.1, m1.2, fun p hp ds'' e => S.inj p hp _ hm a ds'' ds e rfl, fun d hd => (S.mH d hd).2.2 _ hm a ds rfl⟩
  · have vk : ∀ {y : Str} {ov : Option Value}, VarIs F h m y ov → VarIs F h' m y ov := fun q => by
      rcases q with q | ⟨q1, q2, c, q3, q4⟩
      · exact .inl q
      · exact .inr ⟨q1, q2, c, q3, q4.sameBut hs (Ne.symm (cell_ne_list q4 hl0))⟩
    rcases hput.mem S.names p hp with rfl | ⟨hp, hne⟩
    · exact ⟨ov, vk hov, e0, us, hl, r⟩
    · obtain ⟨ov', z1, z2⟩ := hvars p hp
      refine ⟨ov', vk z1, ?_⟩
      cases hsl : p.2 with
      | unset => trivial
      | dat d => rw [hsl] at z2; exact z2
      | own b ds'' =>
        rw [hsl] at z2
        obtain ⟨e, vs, q, r⟩ := z2
        refine ⟨e, vs, q.extBut hs.extBut ?_, r⟩
        rintro rfl
        exact hne (S.inj p hp _ hm b ds'' ds hsl rfl)
theorem x_append {x : Str} {px cpos : Pos} {e : Expr} {a : Addr} {ds : List D} (hm : Has x (.own a ds) st.vars)
    (h : Ev X F e st fun d st₁ => Has x (.own a ds) st₁.vars ∧ PutK x (.own a (ds ++ [d])) st₁.vars fun vs' => Qn ⟨vs', st₁.hdr⟩) (hsz : ds.length ≤ 1000000)
    (hline : (apos.endLine == cpos.line) = true := by with_unfolding_all rfl) (he : starEach [e] F.env = [(false, eval e F.env)] := by with_unfolding_all rfl) (hd : (x == ("__debug__" : Str)) = false := by decide) :
    X1 X F (.Expr (.Call (.Attribute (.Name x px) "append" apos) [e] [] cpos) pos) st Qn Qr := fun f P s hs S => by
  obtain ⟨m, ov, hn, hv, e0, vs, ⟨n, hl⟩, rs⟩ := S.var hm.mem
  subst e0
  refine wpAny_Expr (meth_core rfl (by rw [he]; rfl) hline (wpAny_Name (load_var hn hv ?_) hd)) F.inter
  refine getMethod_list_append (o := { cls := .type "list", data := .seq vs.toArray n }) hl rfl rfl ?_
  rw [he]
  refine callWith_builtin rfl (evalArgs_plain (spliced_cons ((h f).then hs S fun v s₁ f₁ st₁ hs₁ le₁ S₁ ⟨d, r, hm₁, vs', hput, q⟩ => spliced_nil ?_)))
  obtain ⟨m₁, ov₁, hn₁, hv₁, e1, vs₁, hl₁, rs₁⟩ := S₁.var hm₁.mem
  refine wpAny_list_append_plain hl₁ (fun h' hl' hs' => ⟨hs₁.next _ _, f₁, _, le₁, S₁.grow hm₁.mem hput hs' (us := vs₁ ++ [v]) (by simpa using hl') (rs₁.snoc r), q⟩) ?_
  have := rs₁.length
  simp; rw [sizeLine_eq]; omega
end
end Mine

open PySem PySem.W PyProof.Rows
set_option Elab.async false
set_option maxRecDepth 100000
set_option linter.unusedVariables false
namespace Mine
open PySem.Calls

abbrev lobj (us : List Value) (n : Nat) : Obj := { cls := .type "list", data := .seq us.toArray n }
theorem Mp.add_comm {P : Mp} {a b : Addr} {o o' : Obj} (h : a ≠ b) : Mp.add (Mp.add P a o) b o' = Mp.add (Mp.add P b o') a o := by
  funext x
  unfold Mp.add
  by_cases h1 : x = b <;> by_cases h2 : x = a <;> simp_all
def Ifs (X : Cx) (F : Fm) (ifs : List Expr) (st : St) (B : Bool → St → Prop) : Prop := match ifs with
  | [] => B true st
  | [c] => Tst X F c st B
  | _ => False
def CItems (X : Cx) (F : Fm) (t : Expr) (ifs : List Expr) (inner : List D → St → (List D → St → Prop) → Prop) (K : List D → St → Prop) : List D → List D → St → Prop
  | [], acc, st => K acc st
  | d :: ds, acc, st => Asg X F t d st fun st₁ => Ifs X F ifs st₁ fun b st₂ => Both b (inner acc st₂ fun acc' st₃ => CItems X F t ifs inner K ds acc' st₃) (CItems X F t ifs inner K ds acc st₂)
def CItemsJ (X : Cx) (F : Fm) (J : St → Prop) (t : Expr) (ifs : List Expr) (inner : List D → St → (List D → St → Prop) → Prop) (K : List D → St → Prop) : List D → List D → St → Prop
  | [], acc, st => J st ∧ K acc st
  | d :: ds, acc, st => J st ∧ Asg X F t d st fun st₁ => Ifs X F ifs st₁ fun b st₂ => Both b (inner acc st₂ fun acc' st₃ => CItemsJ X F J t ifs inner K ds acc' st₃) (CItemsJ X F J t ifs inner K ds acc st₂)
theorem CItemsJ.j {X : Cx} {F : Fm} {J : St → Prop} {t : Expr} {ifs : List Expr} {inner : List D → St → (List D → St → Prop) → Prop} {K : List D → St → Prop} : ∀ {ds acc : List D} {st : St}, CItemsJ X F J t ifs inner K ds acc st → J st
  | [], _, _, h => h.1
  | _ :: _, _, _, h => h.1
theorem Ifs.mono {X : Cx} {F : Fm} {ifs : List Expr} {st : St} {B B' : Bool → St → Prop} (h : Ifs X F ifs st B) (hb : ∀ b st, B b st → B' b st) : Ifs X F ifs st B' := by
  match ifs, h with
  | [], h => exact hb _ _ h
  | [c], h => exact fun f => Wp.mono (h f) fun b st' f' _ q => hb _ _ q
theorem CItems.toJ {X : Cx} {F : Fm} {t : Expr} {ifs : List Expr} {inner : List D → St → (List D → St → Prop) → Prop} {K : List D → St → Prop} (hm : ∀ acc st K K', (∀ acc st, K acc st → K' acc st) → inner acc st K → inner acc st K') :
    ∀ {ds acc : List D} {st : St}, CItems X F t ifs inner K ds acc st → CItemsJ X F (fun _ => True) t ifs inner K ds acc st
  | [], _, _, h => ⟨trivial, h⟩
  | _ :: _, _, _, h => ⟨trivial, fun f v r => (h f v r).mono fun _ st₁ f₁ _ q => q.mono fun b st q => ⟨fun e => hm _ _ _ _ (fun _ _ q => q.toJ hm) (q.1 e), fun e => (q.2 e).toJ hm⟩⟩
/-- a piece of a comprehension's turn: it adds to the list at hand -/
def ActPost (X : Cx) (F : Fm) (L : Addr) (P f : Mp) (K : List D → St → Prop) (s' : Shared) : Prop :=
  Same X s' ∧ ∃ f' st' acc' us' n', Le f f' ∧ Sat X F st' f' (Mp.add P L (lobj us' n')) s'.heap ∧ RdL f' us' acc' ∧ acc'.length ≤ 1000000 ∧ K acc' st'
def Act (X : Cx) (F : Fm) (L : Addr) (act : Sem Unit) (acc : List D) (st : St) (K : List D → St → Prop) : Prop :=
  ∀ f P s us n, Same X s → P L = none → Sat X F st f (Mp.add P L (lobj us n)) s.heap → RdL f us acc → acc.length ≤ 1000000 → wpAny (model X.prog X.w) F.A act (fun _ s' => ActPost X F L P f K s') NoE s

section
variable {X : Cx} {F : Fm} {st : St} {f P : Mp}
theorem lobj_nocell (us : List Value) (n : Nat) : ∀ v, (lobj us n).data ≠ .cell v := fun v e => by cases e

/-- what stands at a turn's head -/
def CompI (X : Cx) (F : Fm) (J : St → Prop) (t : Expr) (ifs : List Expr) (inner : List D → St → (List D → St → Prop) → Prop) (K : List D → St → Prop) (I L : Addr) (ds : List D) (It : Nat → Obj → Prop) (f P : Mp) (k : Nat) (s' : Shared) : Prop :=
  ∃ i f₁ st₁ o₁ us₁ n₁ acc₁, Same X s' ∧ Le f f₁ ∧ Sat X F st₁ f₁ (Mp.add (Mp.add P L (lobj us₁ n₁)) I o₁) s'.heap ∧ It i o₁ ∧ RdL f₁ us₁ acc₁ ∧ acc₁.length ≤ 1000000 ∧ i ≤ ds.length ∧ CItemsJ X F J t ifs inner K (ds.drop i) acc₁ st₁ ∧ k = ds.length - i
theorem comp_ifs {X : Cx} {F : Fm} {ifs : List Expr} {st : St} {f P : Mp} {s : Shared} {B : Bool → St → Prop} {R : Bool → Shared → Prop} (q : Ifs X F ifs st B) (hs : Same X s) (S : Sat X F st f P s.heap)
    (h : ∀ (b : Bool) (s₄ : Shared) (f₄ : Mp) (st₄ : St), Same X s₄ → Le f f₄ → Sat X F st₄ f₄ P s₄.heap → B b st₄ → R b s₄) :
    wpAny (model X.prog X.w) F.A (forIn ifs true fun c ok => do if ok then pure (.yield (← isTrue c F.env (eval c F.env))) else pure (.yield ok)) R NoE s := by
  cases ifs with
  | nil => exact wpAny_pure (h true s f st hs (.refl _) S q)
  | cons c r =>
    cases r with
    | nil =>
      rw [List.forIn_cons]
      refine wpAny_bind (wpAny_bind (Wp.then (q f) hs S fun b s₄ f₄ st₄ hs₄ le₄ S₄ hb => ?_))
      exact wpAny_pure (wpAny_pure (h b s₄ f₄ st₄ hs₄ le₄ S₄ hb))
    | cons c' r => exact q.elim
theorem comp_loop {e : Expr} {dp : Nat} {t iter : Expr} {ifs : List Expr} {act : Sem Unit} {I L : Addr} {o : Obj} {ds : List D} {It : Nat → Obj → Prop} {s : Shared} {us : List Value} {n : Nat} {acc : List D} {inner : List D → St → (List D → St → Prop) → Prop} {K : List D → St → Prop} {R : Result → Shared → Prop} {f₀ : Mp}
    (hturn : compTurn e dp (.ref I) (.ref L) F.env = (do
      standAt iter.pos
      match ← pyNext (.ref I) with
      | none => pure (.done .next)
      | some v =>
        letOwnedTupleGo t (.ref I) v
        assign t F.env v
        let mut ok := true
        for c in ifs do
          if ok then ok ← isTrue c F.env (eval c F.env)
        if ok then act
        again (.compLoop e dp (.ref I) (.ref L) F.env)))
    (hden : denote table (.compLoop e dp (.ref I) (.ref L) F.env) = (compTurn e dp (.ref I) (.ref L) F.env).onRaise (fun x => do noteFrame x F.env; theTreesLotGoes x))
    (hq : (Code.compLoop e dp (.ref I) (.ref L) F.env).quiet = true) (hun : ∀ A : Around, A.under (.compLoop e dp (.ref I) (.ref L) F.env) = A)
    (hinner : ∀ acc st K, inner acc st K → Act X F L act acc st K) (le₀ : Le f₀ f)
    (hs : Same X s) (hIL : I ≠ L) (hPI : P I = none) (hPL : P L = none) (S : Sat X F st f (Mp.add (Mp.add P L (lobj us n)) I o) s.heap) {Hp : Mp → Heap → Prop} {J : St → Prop} (W : Iter X F.A Hp I ds It) (hI : It 0 o) (hJ : ∀ st₁ f₁ P₁ h, J st₁ → Le f f₁ → Sat X F st₁ f₁ P₁ h → Hp f₁ h) (ra : RdL f us acc) (hacc : acc.length ≤ 1000000)
    (h : CItemsJ X F J t ifs inner K ds acc st) (hR : ∀ s', ActPost X F L P f₀ K s' → R (.ok .next) s') : codeAny (model X.prog X.w) F.A (.compLoop e dp (.ref I) (.ref L) F.env) R s := by
  refine codeAny_loop hq (CompI X F J t ifs inner K I L ds It f P) (fun k s' hi => ?_) ds.length
    ⟨0, f, st, o, us, n, acc, hs, .refl f, S, hI, ra, hacc, Nat.zero_le _, by rw [List.drop_zero]; exact h, rfl⟩
  obtain ⟨i, f₁, st₁, o₁, us₁, n₁, acc₁, hs₁, le₁, S₁, hI₁, ra₁, hacc₁, hle, hL, rfl⟩ := hi
  rw [hun]
  show wpAny _ _ (denote table (.compLoop e dp (.ref I) (.ref L) F.env)) _ _ _
  rw [hden]
  refine wpAny_noted ?_
  rw [hturn]
  have hPLI : (Mp.add P L (lobj us₁ n₁)) I = none := by rw [Mp.add_ne hIL]; exact hPI
  have hsub : Hp f₁ s'.heap := hJ st₁ f₁ _ _ hL.j le₁ S₁
  have nc : ∀ v, o₁.data ≠ .cell (some v) := fun v => W.nocell i o₁ hI₁ _
  refine wpAny_bind (wpAny_standAt (wpAny_bind ?_))
  rcases Nat.lt_or_ge i ds.length with hlt | hge
  · rw [List.drop_eq_getElem_cons hlt] at hL
    refine noE (W.item i _ s' f₁ _ (List.getElem?_eq_getElem hlt) hsub ⟨o₁, S₁.pinned, hI₁⟩ fun v h' tk o' rv hI' ho' hsb => ?_)
    have S₂ : Sat X F st₁ f₁ (Mp.add (Mp.add P L (lobj us₁ n₁)) I o') h' := S₁.repin hPLI hsb.extBut ho' nc
    refine wpAny_bind (noE (W.free (i + 1) o' t v _ _ ho' hI' ?_))
    refine wpAny_bind (noE (Wp.then (hL.2 f₁ v rv) (hs₁.next h' tk) S₂ fun _ s₃ f₃ st₃ hs₃ le₃ S₃ q => ?_))
    have hm : ds.length - (i + 1) < ds.length - i := Nat.sub_lt_sub_left hlt (Nat.lt_succ_self i)
    refine wpAny_bind (noE (comp_ifs q hs₃ S₃ fun b s₄ f₄ st₄ hs₄ le₄ S₄ hb => ?_))
    cases b with
    | false => exact wpAny_pure ⟨rfl, _, hm, i + 1, f₄, st₄, o', us₁, n₁, acc₁, hs₄, (le₁.trans le₃).trans le₄, S₄, hI', ra₁.mono (le₃.trans le₄), hacc₁, hlt, hb.2 rfl, rfl⟩
    | true =>
      rw [Mp.add_comm (Ne.symm hIL)] at S₄
      refine wpAny_bind (noE (wpAny_mono (hinner _ _ _ (hb.1 rfl) f₄ (Mp.add P I o') s₄ us₁ n₁ hs₄ (by rw [Mp.add_ne (Ne.symm hIL)]; exact hPL) S₄ (ra₁.mono (le₃.trans le₄)) hacc₁) (fun _ s₅ q₅ => ?_) fun _ _ e => e))
      obtain ⟨hs₅, f₅, st₅, acc₅, us₅, n₅, le₅, S₅, ra₅, hacc₅, q₅⟩ := q₅
      rw [Mp.add_comm hIL] at S₅
      exact wpAny_pure ⟨rfl, _, hm, i + 1, f₅, st₅, o', us₅, n₅, acc₅, hs₅, ((le₁.trans le₃).trans le₄).trans le₅, S₅, hI', ra₅, hacc₅, hlt, q₅, rfl⟩
  · obtain rfl := Nat.le_antisymm hle hge
    rw [List.drop_of_length_le (Nat.le_refl _)] at hL
    refine noE (W.done s' f₁ _ hsub ⟨o₁, S₁.pinned, hI₁⟩ fun h' hx => ?_)
    refine wpAny_pure (hR _ ⟨hs₁.next _ _, f₁, st₁, acc₁, us₁, n₁, le₀.trans le₁, ?_, ra₁, hacc₁, hL.2⟩)
    have irr := S₁.irr hPLI
    exact (S₁.unpin hPLI nc).move fun b ob e => by
      by_cases q : b = I
      · subst q; exact .inr irr
      · exact .inl (hx b ob q e)
/-- the last clause's element -/
theorem act_elt {elt : Expr} {L : Addr} {acc : List D} {K : List D → St → Prop} (h : Ev X F elt st fun d st' => (acc ++ [d]).length ≤ 1000000 ∧ K (acc ++ [d]) st') : Act X F L (do let _ ← call (.builtin "list.append") [.ref L, ← eval elt F.env]) acc st K := fun f P s us n hs hP S ra hacc => by
  refine wpAny_bind ((h f).then hs S fun v s₁ f₁ st₁ hs₁ le₁ S₁ ⟨d, r, hl, q⟩ => wpAny_bind ?_)
  have hlen := ra.length
  refine wpAny_list_append_plain (items := us.toArray) ⟨n, S₁.pinned⟩ (fun h' hl' hs' => ?_) (by simp; rw [sizeLine_eq]; omega)
  obtain ⟨n', hl'⟩ := hl'
  have hl'' : h'.get? L = some (lobj (us ++ [v]) n') := by simpa using hl'
  exact wpAny_pure ⟨hs₁.next _ _, f₁, st₁, acc ++ [d], us ++ [v], n', le₁, S₁.repin hP hs'.extBut hl'' (fun v => lobj_nocell _ _ _), (ra.mono le₁).snoc r, hl, q⟩
end
end Mine

open PySem PySem.W PyProof.Rows
set_option Elab.async false
set_option maxRecDepth 100000
set_option linter.unusedVariables false
namespace Mine
open PySem.Calls

def freeNames : List (Str × NameKind) → List Str
  | [] => []
  | (n, k) :: r => if k == .free then n :: freeNames r else freeNames r
theorem fn_pos {n : Str} {k : NameKind} {r : List (Str × NameKind)} (h : (k == .free) = true) : freeNames ((n, k) :: r) = n :: freeNames r := by
  show (if (k == .free) = true then n :: freeNames r else freeNames r) = _
  rw [if_pos h]
theorem fn_neg {n : Str} {k : NameKind} {r : List (Str × NameKind)} (h : ¬(k == .free) = true) : freeNames ((n, k) :: r) = freeNames r := by
  show (if (k == .free) = true then n :: freeNames r else freeNames r) = _
  rw [if_neg h]
def clOf (cells : List (Str × Addr)) : List (Str × NameKind) → List (Str × Addr) → List (Str × Addr)
  | [], acc => acc
  | (n, k) :: r, acc => if k == .free then clOf cells r ((n, (cells.lookup n).getD 0) :: acc) else clOf cells r acc
theorem clOf_names (cells : List (Str × Addr)) : ∀ (names : List (Str × NameKind)) (acc : List (Str × Addr)), (clOf cells names acc).map (·.1) = (freeNames names).reverse ++ acc.map (·.1)
  | [], acc => by simp [clOf, freeNames]
  | (n, k) :: r, acc => by
    unfold clOf
    by_cases h : (k == .free) = true
    · rw [if_pos h, clOf_names cells r, fn_pos h]
      simp
    · rw [if_neg h, clOf_names cells r, fn_neg h]
theorem clOf_mem (cells : List (Str × Addr)) : ∀ (names : List (Str × NameKind)) (acc : List (Str × Addr)) (p : Str × Addr), p ∈ clOf cells names acc → p ∈ acc ∨ (p.1 ∈ freeNames names ∧ p.2 = (cells.lookup p.1).getD 0)
  | [], acc, p, h => .inl h
  | (n, k) :: r, acc, p, h => by
    unfold clOf at h
    by_cases q : (k == .free) = true
    · rw [if_pos q] at h
      rcases clOf_mem cells r _ p h with e | e
      · rcases List.mem_cons.mp e with e | e
        · subst e; exact .inr ⟨by rw [fn_pos q]; exact .head _, rfl⟩
        · exact .inl e
      · exact .inr ⟨by rw [fn_pos q]; exact .tail _ e.1, e.2⟩
    · rw [if_neg q] at h
      rcases clOf_mem cells r _ p h with e | e
      · exact .inl e
      · exact .inr ⟨by rw [fn_neg q]; exact e.1, e.2⟩
theorem closure_eq {scope : Scope} {env : Env} (h : ∀ n ∈ freeNames scope.names, ∃ c, env.cells.lookup n = some c) : closureFor scope env = pure (clOf env.cells scope.names []) := by
  unfold closureFor
  have key : ∀ (names : List (Str × NameKind)) (acc : List (Str × Addr)), (∀ n ∈ freeNames names, ∃ c, env.cells.lookup n = some c) →
      (forIn names acc fun (x : Str × NameKind) (cs : List (Str × Addr)) => if (x.2 == .free) = true then (do let c ← cellOf env x.1; pure (ForInStep.yield ((x.1, c) :: cs))) else pure (ForInStep.yield cs)) = (pure (clOf env.cells names acc) : Sem (List (Str × Addr))) := by
    intro names
    induction names with
    | nil => intro acc _; rw [List.forIn_nil]; rfl
    | cons p r ih =>
      obtain ⟨n, k⟩ := p
      intro acc hn
      rw [List.forIn_cons]
      unfold clOf
      by_cases q : (k == .free) = true
      · obtain ⟨c, hc⟩ := hn n (by rw [fn_pos q]; exact .head _)
        simp only [q, if_true]
        have e : cellOf env n = pure c := by unfold cellOf; rw [hc]
        rw [e, hc]
        simp only [pure_bind, Option.getD_some]
        exact ih _ fun m hm => hn m (by rw [fn_pos q]; exact .tail _ hm)
      · simp only [q]
        exact ih _ fun m hm => hn m (by rw [fn_neg q]; exact hm)
  have := key scope.names [] h
  first
    | (refine Eq.trans (congrArg (fun t => t >>= pure) this) ?_; rfl)
    | (refine Eq.trans ?_ this; rfl)
    | exact this
theorem lookup_relabel {env : Env} {k : NameKind} (hk : (k == NameKind.free) = false) : ∀ {names : List (Str × NameKind)} {x : Str}, names.lookup x = some k →
    (names.map fun (n, k) => if (k == NameKind.free && env.scope.kind == .function && env.kindOf n == some .cell) then (n, NameKind.cell) else (n, k)).lookup x = some k
  | [], x, h => by cases h
  | (n, j) :: r, x, h => by
    rw [List.lookup_cons] at h
    by_cases hx : (x == n) = true
    · simp only [hx] at h
      cases h
      simp only [List.map_cons, hk, Bool.false_and, Bool.false_eq_true, if_false, List.lookup_cons, hx]
    · have hx' : (x == n) = false := by simpa using hx
      simp only [hx'] at h
      have ih := lookup_relabel (env := env) hk h
      simp only [List.map_cons]
      split <;> (simp only [List.lookup_cons, hx']; exact ih)
theorem lookup_relabel_free {env : Env} : ∀ {names : List (Str × NameKind)} {x : Str}, names.lookup x = some .free →
    (names.map fun (n, k) => if (k == NameKind.free && env.scope.kind == .function && env.kindOf n == some .cell) then (n, NameKind.cell) else (n, k)).lookup x = some .cell ∨ (names.map fun (n, k) => if (k == NameKind.free && env.scope.kind == .function && env.kindOf n == some .cell) then (n, NameKind.cell) else (n, k)).lookup x = some .free
  | [], x, h => by cases h
  | (n, j) :: r, x, h => by
    rw [List.lookup_cons] at h
    by_cases hx : (x == n) = true
    · simp only [hx] at h
      cases h
      simp only [List.map_cons]
      split
      · exact .inl (by simp only [List.lookup_cons, hx])
      · exact .inr (by simp only [List.lookup_cons, hx])
    · have hx' : (x == n) = false := by simpa using hx
      simp only [hx'] at h
      have ih := lookup_relabel_free (env := env) h
      simp only [List.map_cons]
      split <;> (simp only [List.lookup_cons, hx']; exact ih)
inductive CapL (vars : List (Str × Slot)) : List Str → List (Str × D) → Prop
  | nil : CapL vars [] []
  | cons {n : Str} {d : D} {ns : List Str} {cs : List (Str × D)} : Has n (.dat d) vars → CapL vars ns cs → CapL vars (n :: ns) ((n, d) :: cs)
theorem CapL.mem {vars : List (Str × Slot)} : ∀ {ns : List Str} {cs : List (Str × D)}, CapL vars ns cs → ∀ p ∈ cs, p.1 ∈ ns ∧ (p.1, Slot.dat p.2) ∈ vars
  | _, _, .nil, _, h => nomatch h
  | _, _, .cons a r, p, h => by
    rcases List.mem_cons.mp h with e | e
    · subst e; exact ⟨.head _, a.mem⟩
    · exact ⟨.tail _ (r.mem p e).1, (r.mem p e).2⟩

theorem CapL.has {vars : List (Str × Slot)} : ∀ {ns : List Str} {cs : List (Str × D)}, CapL vars ns cs → ∀ n ∈ ns, ∃ p ∈ cs, p.1 = n
  | _, _, .nil, _, h => nomatch h
  | _, _, .cons a r, n, h => by
    rcases List.mem_cons.mp h with e | e
    · exact ⟨_, .head _, e.symm⟩
    · obtain ⟨p, hp, q⟩ := r.has n e; exact ⟨p, .tail _ hp, q⟩
theorem nodup_rev {α : Type} {l : List α} (h : l.Nodup) : l.reverse.Nodup := (List.reverse_perm l).nodup_iff.mpr h
section
variable {X : Cx} {F : Fm} {st : St} {f P : Mp}
/-- what is asked of a comprehension's scope -/
structure ScOk (scope : Scope) (names : List (Str × NameKind)) (ts : List Str) : Prop where
  kind : scope.kind = .function
  nocell : ∀ x ∈ scope.names, x.2 ≠ .cell
  locs : ∀ x ∈ scope.names, x.2 = .local → scope.names.lookup x.1 = some .local
  tgt : ∀ x ∈ ts, scope.names.lookup x = some .local
  tnd : ts.Nodup
  fnd : (freeNames scope.names).Nodup
  free : ∀ n ∈ freeNames scope.names, names.lookup n = some .cell
def scOk (scope : Scope) (names : List (Str × NameKind)) (ts : List Str) : Bool :=
  decide (scope.kind = .function) && scope.names.all (fun x => !(x.2 == .cell)) && scope.names.all (fun x => !(x.2 == .local) || scope.names.lookup x.1 == some .local) && ts.all (fun x => scope.names.lookup x == some .local) && decide ts.Nodup && decide (freeNames scope.names).Nodup && (freeNames scope.names).all fun n => names.lookup n == some .cell
theorem ScOk.of {scope : Scope} {names : List (Str × NameKind)} {ts : List Str} (h : scOk scope names ts = true) : ScOk scope names ts := by
  unfold scOk at h
  simp only [Bool.and_eq_true, decide_eq_true_eq, List.all_eq_true, Bool.or_eq_true, Bool.not_eq_true', beq_iff_eq] at h
  obtain ⟨⟨⟨⟨⟨⟨h1, h2⟩, h3⟩, h4⟩, h5⟩, h6⟩, h7⟩ := h
  refine ⟨h1, fun x hx e => ?_, fun x hx e => ?_, h4, h5, h6, h7⟩
  · have := h2 x hx; rw [e] at this; exact absurd this (by decide)
  · rcases h3 x hx with q | q
    · rw [e] at q; exact absurd q (by decide)
    · exact q
def tslots (ts : List Str) : List (Str × Slot) := ts.map fun n => (n, Slot.unset)

/-- the comprehension's own frame -/
theorem comp_frame {scope : Scope} {names : List (Str × NameKind)} {ts : List Str} {caps : List (Str × D)} {h : Heap} (S : Sat X F st f P h) (kn : Knd F names) (sc : ScOk scope names ts) (hc : CapL st.vars (freeNames scope.names) caps) (how : F.own = true) :
    (∀ n ∈ freeNames scope.names, ∃ c, F.env.cells.lookup n = some c) ∧ ∀ C, ∃ F' : Fm, F'.env = compEnvC scope (clOf F.env.cells scope.names []) C F.env ∧ F'.A = F.A ∧ F'.lv = F.lv ∧ F'.own = false ∧ F'.cap = caps ∧ Knd F' scope.names := by
  obtain ⟨m, hn, hv⟩ := S.vars
  have look : ∀ n ∈ freeNames scope.names, ∃ c, F.env.cells.lookup n = some c := fun n hn => by
    have hk := kn.cel n (sc.free n hn)
    obtain ⟨p, hp, rfl⟩ := hc.has n hn
    obtain ⟨ov, q, _⟩ := hv _ (hc.mem p hp).2
    rcases q with ⟨q, _⟩ | ⟨_, _, c, q, _⟩
    · have : F.env.kindOf p.1 = some .local := q
      rw [hk] at this; cases this
    · exact ⟨c, q⟩
  refine ⟨look, fun C => ⟨{ env := compEnvC scope (clOf F.env.cells scope.names []) C F.env, A := F.A, lv := F.lv, own := false, cap := caps, kind := sc.kind, glob := F.glob, blt := F.blt, hand := F.hand, depth := F.depth, units := F.units, cells := ?_ }, rfl, rfl, rfl, rfl, rfl, ⟨fun x q => lookup_relabel_local q, fun x q => ?_, fun x q => lookup_relabel rfl q, fun x q => lookup_relabel_free q⟩⟩⟩
  · have nd : ((clOf F.env.cells scope.names []).map (·.1)).Nodup := by
      rw [clOf_names]; simpa using (nodup_rev sc.fnd)
    have pw : (clOf F.env.cells scope.names []).Pairwise fun x y => x.1 ≠ y.1 := List.pairwise_map.mp nd
    refine pw.imp_of_mem fun {x y} hx hy hne e => hne ?_
    have at' : ∀ p ∈ clOf F.env.cells scope.names [], (p.1, p.2) ∈ F.env.cells := fun p hp => by
      rcases clOf_mem _ _ _ p hp with q | ⟨q1, q2⟩
      · cases q
      · obtain ⟨c, hc⟩ := look p.1 q1
        rw [hc] at q2
        rw [q2]; exact mem_lookup hc
    exact name_of_addr F.cells (at' x hx) (by have := at' y hy; rw [← e] at this; exact this)
  · exfalso
    exact sc.nocell _ (mem_lookup q) rfl

/-- from the frame's state to the comprehension's, at its start -/
theorem comp_enter {F' : Fm} {scope : Scope} {names : List (Str × NameKind)} {ts : List Str} {caps : List (Str × D)} {h h' : Heap} {C : Addr} (S : Sat X F st f P h) (kn : Knd F names) (sc : ScOk scope names ts) (hc : CapL st.vars (freeNames scope.names) caps) (how : F.own = true)
    (he : F'.env = compEnvC scope (clOf F.env.cells scope.names []) C F.env) (how' : F'.own = false) (hcap : F'.cap = caps) (k' : Knd F' scope.names) (hk : ∀ b o, h.get? b = some o → h'.get? b = some o) (hC : h.objs.size ≤ C) (hn : h'.Ns C fun _ => none) :
    Sat X F' ⟨tslots ts, st.hdr⟩ f (Prot F st P h) h' := by
  have SC := S.toC
  have fresh : ∀ {b : Addr}, h.objs.size ≤ b → f b = none ∧ Prot F st P h b = none := fun {b} hb => ⟨SC.sub.none (none_size hb), SC.pro.none (none_size hb)⟩
  have hL : F'.env.locals = C := by rw [he]; rfl
  obtain ⟨m, hnF, hv⟩ := S.vars
  refine ⟨fun b o e => hk _ _ (SC.sub b o e), fun b o e => hk _ _ (SC.pro b o e), SC.base, SC.disj, ?_, ⟨_, hL ▸ hn, fun p hp => ?_⟩, by rw [hL]; exact fresh hC, (fun q => by rw [how'] at q; cases q), (fun q => by rw [how'] at q; cases q), fun p hp a ds e => ?_, fun p hp q hq a ds ds' e => ?_, fun p hp => ?_, ?_, fun d hd => ⟨(SC.mH d hd).1, (SC.mH d hd).2, fun p hp a ds e => ?_⟩⟩
  · have : (tslots ts).map (·.1) = ts := by simp [tslots, Function.comp_def]
    show ((tslots ts).map (·.1)).Nodup
    rw [this]; exact sc.tnd
  · obtain ⟨n, hn', rfl⟩ := List.mem_map.mp hp
    exact ⟨none, .inl ⟨k'.loc n (sc.tgt n hn'), rfl⟩, trivial⟩
  · obtain ⟨n, hn', rfl⟩ := List.mem_map.mp hp; cases e
  · obtain ⟨n, hn', rfl⟩ := List.mem_map.mp hp; cases e
  · rw [hcap] at hp
    obtain ⟨h1, h2⟩ := hc.mem p hp
    obtain ⟨ov, q, r⟩ := hv _ h2
    obtain ⟨v, rfl, rv⟩ := r
    have hkc := kn.cel p.1 (sc.free p.1 h1)
    rcases q with ⟨q, _⟩ | ⟨_, _, c, q, ⟨o, g, hd⟩⟩
    · have : F.env.kindOf p.1 = some .local := q
      rw [hkc] at this; cases this
    · refine ⟨c, o, v, ?_, ?_, hd, rv⟩
      · rw [he]
        show (clOf F.env.cells scope.names []).lookup p.1 = some c
        refine lookup_of_mem_nodup (by rw [clOf_names]; simpa using (nodup_rev sc.fnd)) ?_
        have hm : p.1 ∈ (clOf F.env.cells scope.names []).map (·.1) := by rw [clOf_names]; simpa using h1
        obtain ⟨y, hy, e⟩ := List.mem_map.mp hm
        rcases clOf_mem _ _ _ y hy with z | ⟨_, z⟩
        · cases z
        · have q' : List.lookup y.1 F.env.cells = some c := by rw [e]; exact q
          rw [q'] at z
          have : y = (p.1, c) := Prod.ext e z
          rw [← this]; exact hy
      · rw [prot_of (.inr (.inl ⟨how, _, mem_lookup q, rfl⟩))]; exact g
  · have hh := S.hdr
    show HdIs X f h' st.hdr
    cases hd : st.hdr with
    | none => trivial
    | some d =>
      rw [hd] at hh
      obtain ⟨dx, n, hs', t, e1, e2, vs, e3, e4⟩ := hh
      exact ⟨dx, n, hs', t, e1, e2, vs, e3.at fun o e => hk _ _ e, e4⟩
  · obtain ⟨n, hn', rfl⟩ := List.mem_map.mp hp; cases e
end
end Mine

open PySem PySem.W PyProof.Rows
set_option Elab.async false
set_option maxRecDepth 100000
set_option linter.unusedVariables false
namespace Mine
open PySem.Calls

section
variable {X : Cx} {F : Fm} {st : St} {f P : Mp}
/-- an address behind all that was there -/
theorem Sat.irrNew {h : Heap} (S : Sat X F st f P h) {a : Addr} (ha : h.objs.size ≤ a) : Irr F st f P a := by
  have hz : h.get? a = none := none_size ha
  have lt : ∀ {b : Addr} {o : Obj}, h.get? b = some o → b ≠ a := fun q => Nat.ne_of_lt (Nat.lt_of_lt_of_le (Heap.lt_size q) ha)
  obtain ⟨m, hn, hv⟩ := S.vars
  refine ⟨S.sub.none hz, S.pro.none hz, ?_, fun q p hp => ?_, fun p hp a ds e => ?_, fun d hd => ?_⟩
  · obtain ⟨o, _, _, g, _⟩ := hn; exact lt g
  · obtain ⟨v, o, g, _⟩ := S.lC q p hp; exact lt g
  · obtain ⟨ov, _, r⟩ := hv p hp
    rw [e] at r
    obtain ⟨_, vs, ⟨n, g⟩, _⟩ := r
    exact lt g
  · have hh := S.hdr
    rw [hd] at hh
    obtain ⟨dx, n, hs, t, e1, e2, vs, ⟨n', g⟩, e4⟩ := hh
    exact lt g
theorem Sat.toC' (S : Sat X F st f P h) : SatC X st.hdr f P h := ⟨S.sub, S.pro, S.base, S.disj, S.hdr, fun d hd => ⟨(S.mH d hd).1, (S.mH d hd).2.1⟩⟩

/-- back in the frame: the list made is frozen, the comprehension's names are pinned -/
theorem comp_back {F' : Fm} {st' : St} {f' : Mp} {h h' : Heap} {L C : Addr} {us : List Value} {n : Nat} {acc : List D} (S : Sat X F st f P h) (le : Le f f') (S' : Sat X F' st' f' (Mp.add (Prot F st P h) L (lobj us n)) h') (ra : RdL f' us acc) (hL : h.objs.size ≤ L) (hC : h.objs.size ≤ C) (hCL : C ≠ L) (heC : F'.env.locals = C) :
    ∃ f'' oC, Le f' f'' ∧ Rd f'' (.ref L) (.lst acc) ∧ Sat X F ⟨st.vars, st'.hdr⟩ f'' (Mp.add P C oC) h' ∧ P C = none ∧ (∃ m, Heap.Ns h' C m) ∧ (∀ v, oC.data ≠ .cell v) := by
  have irrL := S.irrNew hL
  have irrC := S.irrNew hC
  have hPL : Prot F st P h L = none := S.toC.pro.none (none_size hL)
  have S₁ := S'.unpin hPL (fun v => lobj_nocell _ _ _)
  have S₂ := S.ofC le S₁.toC'
  obtain ⟨m, hnC, _⟩ := S'.vars
  rw [heC] at hnC
  have fC : f' C = none := by rw [← heC]; exact S'.mL.1
  have fL : f' L = none := (S'.irr hPL).1
  have nH : ∀ d, st'.hdr = some d → d.H ≠ L ∧ d.H ≠ C := fun d hd => ⟨fun e => ?_, fun e => ?_⟩
  rotate_left
  · have := (S'.mH d hd).2.1
    rw [e, Mp.add_self] at this; cases this
  · have hh := S'.hdr
    rw [hd] at hh
    obtain ⟨dx, n, hs, t, e1, e2, vs, e3, e4⟩ := hh
    exact ns_ne_list hnC (e ▸ e3) rfl
  have irrL' : Irr F ⟨st.vars, st'.hdr⟩ f' P L := ⟨fL, irrL.2.1, irrL.2.2.1, irrL.2.2.2.1, irrL.2.2.2.2.1, fun d hd => (nH d hd).1⟩
  have irrC' : Irr F ⟨st.vars, st'.hdr⟩ (Mp.add f' L (lobj us n)) P C := ⟨by rw [Mp.add_ne hCL]; exact fC, irrC.2.1, irrC.2.2.1, irrC.2.2.2.1, irrC.2.2.2.2.1, fun d hd => (nH d hd).2⟩
  have S₃ := S₂.freeze S'.pinned irrL'
  obtain ⟨oC, es, ep, g, gd, gr⟩ := hnC
  refine ⟨_, oC, .add fL, .lst (Mp.add_self ..) rfl rfl (ra.mono (.add fL)), S₃.pin g irrC', irrC.2.1, ⟨m, oC, es, ep, g, gd, gr⟩, fun v e => ?_⟩
  rw [gd] at e; cases e

/-- a comprehension's iterator and its turns -/
def CompIt (X : Cx) (F : Fm) (scope : Scope) (ts : List Str) (t iter : Expr) (ifs : List Expr) (inner : Fm → List D → St → (List D → St → Prop) → Prop) (Q : D → St → Prop) (f P : Mp) (s : Shared) : Prop :=
  wpAny (model X.prog X.w) F.A (eval iter F.env) (fun v s₁ => wpAny (model X.prog X.w) F.A (pyIter v) (fun it s₂ => ∃ I o It Hp J f₁ st₁ ds caps, it = .ref I ∧ Same X s₂ ∧ Le f f₁ ∧ Sat X F st₁ f₁ (Mp.add P I o) s₂.heap ∧ P I = none ∧ Iter X F.A Hp I ds It ∧ It 0 o ∧
    CapL st₁.vars (freeNames scope.names) caps ∧ (∀ (F' : Fm) st' f₂ P₁ h, J st' → Le f₁ f₂ → Sat X F' st' f₂ P₁ h → Hp f₂ h) ∧
    ∀ F' : Fm, F'.lv = F.lv → F'.cap = caps → Knd F' scope.names → CItemsJ X F' J t ifs (inner F') (fun acc st' => Q (.lst acc) ⟨st₁.vars, st'.hdr⟩) ds [] ⟨tslots ts, st₁.hdr⟩) NoE s₁) NoE s
/-- a comprehension's run -/
theorem comp_run {e elt t iter : Expr} {ifs : List Expr} {rest : List Comprehension} {scope : Scope} {pos : Pos} {names : List (Str × NameKind)} {ts : List Str} {act : Addr → Env → Sem Unit} {inner : Fm → List D → St → (List D → St → Prop) → Prop} {Q : D → St → Prop}
    (he : e = .ListComp elt (⟨t, iter, ifs, 0⟩ :: rest) scope pos)
    (hturn : ∀ I L env, compTurn e 0 (.ref I) (.ref L) env = (do
      standAt iter.pos
      match ← pyNext (.ref I) with
      | none => pure (.done .next)
      | some v =>
        letOwnedTupleGo t (.ref I) v
        assign t env v
        let mut ok := true
        for c in ifs do
          if ok then ok ← isTrue c env (eval c env)
        if ok then act L env
        again (.compLoop e 0 (.ref I) (.ref L) env)))
    (kn : Knd F names) (how : F.own = true) (sc : ScOk scope names ts) (hf0 : ∀ n ∈ freeNames scope.names, n ∈ st.vars.map (·.1))
    (hinner : ∀ (F' : Fm) L acc st K, inner F' acc st K → Act X F' L (act L F'.env) acc st K)
    (hfold : ∀ x, foldedSetIterable iter F.env x = pure x)
    {use : Option (Value → Sem Unit)} {R : Value → Shared → Prop} {s : Shared} (hs : Same X s) (S : Sat X F st f P s.heap) (h : CompIt X F scope ts t iter ifs inner Q f P s)
    (hend : ∀ s' f' st' C L acc oC, Same X s' → Le f f' → Sat X F st' f' (Mp.add P C oC) s'.heap → P C = none → (∃ m, s'.heap.Ns C m) → (∀ v, oC.data ≠ .cell v) → Rd f' (.ref L) (.lst acc) → Q (.lst acc) st' → compPost (model X.prog X.w) F.A NoE use R (.ref L) C (.ok .next) s') :
    wpAny (model X.prog X.w) F.A (comprehension e scope F.env (firstIterPos (⟨t, iter, ifs, 0⟩ :: rest) pos) (newList []) false (eval iter F.env) use) R NoE s := by
  subst he
  have look : ∀ n ∈ freeNames scope.names, ∃ c, F.env.cells.lookup n = some c := fun n hn => by
    obtain ⟨m, _, hv⟩ := S.vars
    obtain ⟨p, hp, rfl⟩ := List.mem_map.mp (hf0 n hn)
    obtain ⟨ov, q, _⟩ := hv p hp
    have hk := kn.cel p.1 (sc.free p.1 hn)
    rcases q with ⟨q, _⟩ | ⟨_, _, c, q, _⟩
    · have : F.env.kindOf p.1 = some .local := q
      rw [hk] at this; cases this
    · exact ⟨c, q⟩
  refine wpAny_comprehension_free rfl hfold (closure_eq look) sc.kind sc.locs (wpAny_mono h (fun v s₁ h₁ => wpAny_mono h₁ (fun it s₂ h₂ => ?_) fun _ _ e => e) fun _ _ e => e)
  obtain ⟨I, o, It, Hp, J, f₁, st₁, ds, caps, rfl, hs₂, le₁, S₂, hPI, W, hI, hcap, hJ, hitems⟩ := h₂
  refine wpAny_newList (wpAny_newFunctionEnv sc.nocell (by intro y hy; cases hy) (fun h₁ hns₁ hsb₁ => ?_) sc.kind) (by decide)
  dsimp only at hns₁ hsb₁ ⊢
  have nc : ∀ v, o.data ≠ .cell (some v) := fun v => W.nocell 0 o hI _
  have irrI := S₂.irr hPI
  have S₃ := S₂.unpin hPI nc
  -- the heaps
  generalize hH2 : s₂.heap.push { cls := .type "list", dict := none, data := .seq ([] : List Value).toArray } = H2 at hns₁ hsb₁ ⊢
  have hC : H2.objs.size = s₂.heap.objs.size + 1 := by rw [← hH2, Heap.size_push]
  have hCL : H2.objs.size ≠ s₂.heap.objs.size := by rw [hC]; exact Nat.succ_ne_self _
  have old2 : ∀ b o, s₂.heap.get? b = some o → H2.get? b = some o := fun b o e => hH2 ▸ Heap.get?_push_of_some _ e
  have old : ∀ b o, H2.get? b = some o → h₁.get? b = some o := fun b o e => hsb₁.extBut b o (Nat.ne_of_lt (Heap.lt_size e)) (Heap.get?_push_of_some _ e)
  have hLat : h₁.get? s₂.heap.objs.size = some (lobj [] 0) := old _ _ (hH2 ▸ Heap.get?_push_size _ rfl)
  obtain ⟨_, hF'⟩ := comp_frame S₃ kn sc hcap how
  obtain ⟨F', hE, hA, hlv, hown, hcp, hkn⟩ := hF' H2.objs.size
  have S₄ : Sat X F' ⟨tslots ts, st₁.hdr⟩ f₁ (Prot F st₁ P s₂.heap) h₁ := comp_enter S₃ kn sc hcap how hE hown hcp hkn (fun b o e => old b o (old2 b o e)) (by rw [hC]; exact Nat.le_succ _) hns₁
  have hLoc : F'.env.locals = H2.objs.size := by rw [hE]; rfl
  have nH : ∀ d, st₁.hdr = some d → d.H < s₂.heap.objs.size := fun d hd => by
    have hh := S₃.hdr
    rw [hd] at hh
    obtain ⟨dx, n, hs, t, e1, e2, vs, ⟨n', g⟩, e4⟩ := hh
    exact Heap.lt_size g
  have protI : Prot F st₁ P s₂.heap I = none := by
    rw [prot_not]; exact hPI
    rintro (q | ⟨q, p, hp, e⟩ | ⟨p, hp, ds, e⟩)
    · exact irrI.2.2.1 q.symm
    · exact irrI.2.2.2.1 q p hp e
    · exact irrI.2.2.2.2.1 p hp _ ds e rfl
  have ltI : I < s₂.heap.objs.size := Heap.lt_size S₂.pinned
  have protL : Prot F st₁ P s₂.heap s₂.heap.objs.size = none := S₃.toC.pro.none (none_size (Nat.le_refl _))
  have novars : ∀ p ∈ (tslots ts), ∀ a ds, p.2 = Slot.own a ds → False := fun p hp a ds e => by
    obtain ⟨n, hn', rfl⟩ := List.mem_map.mp hp; cases e
  have S₅ : Sat X F' ⟨tslots ts, st₁.hdr⟩ f₁ (Mp.add (Prot F st₁ P s₂.heap) s₂.heap.objs.size (lobj [] 0)) h₁ := S₄.pin hLat
    ⟨S₃.fresh.1, protL, by rw [hLoc]; exact hCL, (fun q => by rw [hown] at q; cases q), fun p hp a ds e => (novars p hp a ds e).elim, fun d hd => Nat.ne_of_lt (nH d hd)⟩
  have S₆ : Sat X F' ⟨tslots ts, st₁.hdr⟩ f₁ (Mp.add (Mp.add (Prot F st₁ P s₂.heap) s₂.heap.objs.size (lobj [] 0)) I o) h₁ := S₅.pin (old _ _ (old2 _ _ S₂.pinned))
    ⟨irrI.1, by rw [Mp.add_ne (Nat.ne_of_lt ltI)]; exact protI, by rw [hLoc, hC]; exact Ne.symm (Nat.ne_of_lt (Nat.lt_succ_of_lt ltI)), (fun q => by rw [hown] at q; cases q), fun p hp a ds e => (novars p hp a ds e).elim, fun d hd => irrI.2.2.2.2.2 d hd⟩
  have loop : codeAny (model X.prog X.w) F.A (.compLoop (.ListComp elt (⟨t, iter, ifs, 0⟩ :: rest) scope pos) 0 (.ref I) (.ref s₂.heap.objs.size) F'.env) (compPost (model X.prog X.w) F.A NoE use R (.ref s₂.heap.objs.size) H2.objs.size)
      { s₂ with heap := h₁, toks := s₂.toks + ([] : List (Str × Value)).length } := by
    have W' : Iter X F'.A Hp I ds It := hA ▸ W
    rw [← hA]
    refine comp_loop (s := { s₂ with heap := h₁, toks := s₂.toks + ([] : List (Str × Value)).length }) (hturn I s₂.heap.objs.size F'.env) rfl rfl (fun A => Around.under_of_weight rfl) (hinner F' _) (.refl f₁) (hs₂.next _ _) (Nat.ne_of_lt ltI) protI protL S₆ W' hI (hJ F') .nil (Nat.zero_le _) (hitems F' hlv hcp hkn) fun s' q => ?_
    obtain ⟨hs', f', st', acc', us', n', le', S', ra', hacc', q'⟩ := q
    obtain ⟨f'', oC, le'', rL, SF, hPC, hm, hoc⟩ := comp_back S₃ le' S' ra' (Nat.le_refl _) (by rw [hC]; exact Nat.le_succ _) hCL hLoc
    rw [hA]
    exact hend s' f'' _ H2.objs.size _ acc' oC hs' ((le₁.trans le').trans le'') SF hPC hm hoc rL q'
  have hcenv : ({ newEnv scope H2.objs.size F.env.globals (clOf F.env.cells scope.names []) F.env.qual none .none (some F.env) (newEnv scope H2.objs.size F.env.globals (clOf F.env.cells scope.names []) F.env.qual none .none (some F.env) 0).builtins with scope := relabel scope F.env } : Env) = F'.env := by rw [hE]; rfl
  refine codeAny_compStart_list ?_ (noE ?_)
  · rw [hE] at loop; exact loop
  · refine W.self 0 o _ _ (old _ _ (old2 _ _ S₂.pinned)) hI ?_
    rw [hE] at loop; exact loop
end
end Mine

open PySem PySem.W PyProof.Rows
set_option Elab.async false
set_option maxRecDepth 100000
set_option linter.unusedVariables false
namespace Mine
open PySem.Calls

/-- a comprehension's run, as its two users take it -/
def CompOk (X : Cx) (F : Fm) (e : Expr) (gens : List Comprehension) (iter : Expr) (scope : Scope) (pos : Pos) (st : St) (Q : D → St → Prop) : Prop :=
  ∀ (f P : Mp) (use : Option (Value → Sem Unit)) (R : Value → Shared → Prop) (s : Shared), Same X s → Sat X F st f P s.heap →
    (∀ s' f' st' C L acc oC, Same X s' → Le f f' → Sat X F st' f' (Mp.add P C oC) s'.heap → P C = none → (∃ m, s'.heap.Ns C m) → (∀ v, oC.data ≠ .cell v) → Rd f' (.ref L) (.lst acc) → Q (.lst acc) st' → compPost (model X.prog X.w) F.A NoE use R (.ref L) C (.ok .next) s') →
    wpAny (model X.prog X.w) F.A (comprehension e scope F.env (firstIterPos gens pos) (newList []) false (eval iter F.env) use) R NoE s

def act1 (elt : Expr) (L : Addr) (env : Env) : Sem Unit := do let _ ← call (.builtin "list.append") [.ref L, ← eval elt env]
def act2 (e iter : Expr) (L : Addr) (env : Env) : Sem Unit := do
  let x ← eval iter env
  standAt iter.pos
  let x ← foldedSetIterable iter env x
  let _ ← runOwn (.compStart e 1 (← holding [x] (pyIter x)) (.ref L) env) env

section
variable {X : Cx} {F : Fm} {st : St} {Q : D → St → Prop} {Qn : St → Prop} {Qr : D → St → Prop} {pos : Pos}

theorem turn1 (elt t iter : Expr) (ifs : List Expr) (scope : Scope) (pos : Pos) (I L : Addr) (env : Env) :
    compTurn (.ListComp elt [⟨t, iter, ifs, 0⟩] scope pos) 0 (.ref I) (.ref L) env = (do
      standAt iter.pos
      match ← pyNext (.ref I) with
      | none => pure (.done .next)
      | some v =>
        letOwnedTupleGo t (.ref I) v
        assign t env v
        let mut ok := true
        for c in ifs do
          if ok then ok ← isTrue c env (eval c env)
        if ok then act1 elt L env
        again (.compLoop (.ListComp elt [⟨t, iter, ifs, 0⟩] scope pos) 0 (.ref I) (.ref L) env)) := by rfl
theorem turn2 (elt t iter t' iter' : Expr) (ifs ifs' : List Expr) (scope : Scope) (pos : Pos) (I L : Addr) (env : Env) :
    compTurn (.ListComp elt [⟨t, iter, ifs, 0⟩, ⟨t', iter', ifs', 0⟩] scope pos) 1 (.ref I) (.ref L) env = (do
      standAt iter'.pos
      match ← pyNext (.ref I) with
      | none => pure (.done .next)
      | some v =>
        letOwnedTupleGo t' (.ref I) v
        assign t' env v
        let mut ok := true
        for c in ifs' do
          if ok then ok ← isTrue c env (eval c env)
        if ok then act1 elt L env
        again (.compLoop (.ListComp elt [⟨t, iter, ifs, 0⟩, ⟨t', iter', ifs', 0⟩] scope pos) 1 (.ref I) (.ref L) env)) := by rfl
theorem turn20 (elt t iter t' iter' : Expr) (ifs ifs' : List Expr) (scope : Scope) (pos : Pos) (I L : Addr) (env : Env) :
    compTurn (.ListComp elt [⟨t, iter, ifs, 0⟩, ⟨t', iter', ifs', 0⟩] scope pos) 0 (.ref I) (.ref L) env = (do
      standAt iter.pos
      match ← pyNext (.ref I) with
      | none => pure (.done .next)
      | some v =>
        letOwnedTupleGo t (.ref I) v
        assign t env v
        let mut ok := true
        for c in ifs do
          if ok then ok ← isTrue c env (eval c env)
        if ok then act2 (.ListComp elt [⟨t, iter, ifs, 0⟩, ⟨t', iter', ifs', 0⟩] scope pos) iter' L env
        again (.compLoop (.ListComp elt [⟨t, iter, ifs, 0⟩, ⟨t', iter', ifs', 0⟩] scope pos) 0 (.ref I) (.ref L) env)) := by
  first
  | rfl
  | (unfold act2
     simp only [bind_assoc, pure_bind]
     rfl)

theorem start1 {prog : Program} {w : World} {A : Around} {R : Result → Shared → Prop} {s : Shared} {elt t iter t' iter' : Expr} {ifs ifs' : List Expr} {scope : Scope} {pos : Pos} {it acc : Value} {env : Env}
    (h0 : codeAny (model prog w) A (.compLoop (.ListComp elt [⟨t, iter, ifs, 0⟩, ⟨t', iter', ifs', 0⟩] scope pos) 1 it acc env) R s)
    (h : wpAny (model prog w) A (pyIter it) (fun it' s' => codeAny (model prog w) A (.compLoop (.ListComp elt [⟨t, iter, ifs, 0⟩, ⟨t', iter', ifs', 0⟩] scope pos) 1 it' acc env) R s')
      (notedBy (model prog w) A env fun x s' => R (.error x) s') s) :
    codeAny (model prog w) A (.compStart (.ListComp elt [⟨t, iter, ifs, 0⟩, ⟨t', iter', ifs', 0⟩] scope pos) 1 it acc env) R s := by
  refine codeAny_of_tree ?_
  show wpAny _ _ ((compStart (.ListComp elt [⟨t, iter, ifs, 0⟩, ⟨t', iter', ifs', 0⟩] scope pos) 1 it acc env).onRaise (fun x => do noteFrame x env; standAt theWindowsPlace)) _ _ s
  refine wpAny_notedAt ?_
  unfold compStart
  show wpAny _ _ (ask >>= _) _ _ s
  refine wpAny_bind (wpAny_askSetting (wpAny_ite ?_))
  split
  · first
      | exact wpAny_bind (wpAny_pure (wpAny_pure (And.intro rfl h0)))
      | exact wpAny_pure (And.intro rfl h0)
  · first
      | exact wpAny_bind (wpAny_rule (wpAny_bind (wpAny_standAt (wpAny_bind (wpAny_mono h (fun it' s' h' => wpAny_pure (And.intro rfl h')) fun _ _ x => x)))))
      | (refine wpAny_bind (wpAny_rule ?_); show wpAny _ _ (standAt iter'.pos >>= _) _ _ s; exact wpAny_bind (wpAny_standAt (wpAny_bind (wpAny_mono h (fun it' s' h' => wpAny_pure (And.intro rfl h')) fun _ _ x => x))))

/-- the last clause -/
def InE (X : Cx) (elt : Expr) (F : Fm) (acc : List D) (st : St) (K : List D → St → Prop) : Prop := Ev X F elt st fun d st' => (acc ++ [d]).length ≤ 1000000 ∧ K (acc ++ [d]) st'
/-- a second clause -/
def InC (X : Cx) (elt t iter : Expr) (ifs : List Expr) (F : Fm) (acc : List D) (st : St) (K : List D → St → Prop) : Prop :=
  Ev X F iter st fun d st₁ => ∃ ds, d.items = some ds ∧ ds.length ≤ 1000000 ∧ CItems X F t ifs (InE X elt F) K ds acc st₁

theorem CItems.mono {t : Expr} {ifs : List Expr} {inner : List D → St → (List D → St → Prop) → Prop} (hm : ∀ acc st K K', (∀ acc st, K acc st → K' acc st) → inner acc st K → inner acc st K') {K K' : List D → St → Prop} (hk : ∀ acc st, K acc st → K' acc st) :
    ∀ {ds acc : List D} {st : St}, CItems X F t ifs inner K ds acc st → CItems X F t ifs inner K' ds acc st
  | [], _, _, h => hk _ _ h
  | _ :: _, _, _, h => fun f v r => (h f v r).mono fun _ st₁ f₁ _ q => q.mono fun b st q => ⟨fun e => hm _ _ _ _ (fun _ _ q => q.mono hm hk) (q.1 e), fun e => (q.2 e).mono hm hk⟩
theorem inE_mono {elt : Expr} : ∀ acc st (K K' : List D → St → Prop), (∀ acc st, K acc st → K' acc st) → InE X elt F acc st K → InE X elt F acc st K' := fun acc st K K' hk h => h.mono fun d st' q => ⟨q.1, hk _ _ q.2⟩
theorem inC_mono {elt t iter : Expr} {ifs : List Expr} : ∀ acc st (K K' : List D → St → Prop), (∀ acc st, K acc st → K' acc st) → InC X elt t iter ifs F acc st K → InC X elt t iter ifs F acc st K' := fun acc st K K' hk h =>
  h.mono fun d st' ⟨ds, h1, h2, h3⟩ => ⟨ds, h1, h2, h3.mono inE_mono hk⟩
theorem act_in {elt t iter t' iter' : Expr} {ifs ifs' : List Expr} {scope : Scope} {L : Addr} {acc : List D} {K : List D → St → Prop}
    (hf : ∀ env x, foldedSetIterable iter' env x = pure x) (h : InC X elt t' iter' ifs' F acc st K) : Act X F L (act2 (.ListComp elt [⟨t, iter, ifs, 0⟩, ⟨t', iter', ifs', 0⟩] scope pos) iter' L F.env) acc st K := fun f P s us n hs hP S ra hacc => by
  unfold act2
  refine wpAny_bind ((h f).then hs S fun v s₁ f₁ st₁ hs₁ le₁ S₁ ⟨d, r, ds, hd, hlen, hL⟩ => wpAny_bind (wpAny_standAt (wpAny_bind (wpAny_of_eq (hf _ _) (wpAny_bind (wpAny_holding (iter_of hd hlen r hs₁ S₁ fun I o It s₂ hs₂ S₂ hPI W hI => ?_)))))))
  have hIL : I ≠ L := by rintro rfl; rw [Mp.add_self] at hPI; cases hPI
  have hPI' : P I = none := by rwa [Mp.add_ne hIL] at hPI
  refine wpAny_bind (wpAny_runOwn ?_)
  have loop : codeAny (model X.prog X.w) F.A (.compLoop (.ListComp elt [⟨t, iter, ifs, 0⟩, ⟨t', iter', ifs', 0⟩] scope pos) 1 (.ref I) (.ref L) F.env) (fun r s' => match r with | .ok _ => wpAny (model X.prog X.w) F.A (pure ()) (fun _ s' => ActPost X F L P f K s') NoE s' | .error e => cameBackBy (model X.prog X.w) F.A F.env NoE e s') s₂ :=
    comp_loop (turn2 ..) rfl rfl (fun A => Around.under_of_weight rfl) (inner := InE X elt F) (fun acc st K q => act_elt q) le₁ hs₂ hIL hPI' hP S₂ W hI (fun st₁ f₁ P₁ h _ le S => ⟨le, S.sub⟩) (ra.mono le₁) hacc (hL.toJ inE_mono) fun s' q => wpAny_pure q
  refine start1 loop (noE ?_)
  exact W.self 0 o _ _ S₂.pinned hI loop

theorem compIt_of {scope : Scope} {ts : List Str} {t iter : Expr} {ifs : List Expr} {inner : Fm → List D → St → (List D → St → Prop) → Prop} (hm : ∀ F' acc st K K', (∀ acc st, K acc st → K' acc st) → inner F' acc st K → inner F' acc st K')
    (h : Ev X F iter st fun d st₁ => ∃ ds caps, d.items = some ds ∧ ds.length ≤ 1000000 ∧ CapL st₁.vars (freeNames scope.names) caps ∧
      ∀ F' : Fm, F'.lv = F.lv → F'.cap = caps → Knd F' scope.names → CItems X F' t ifs (inner F') (fun acc st' => Q (.lst acc) ⟨st₁.vars, st'.hdr⟩) ds [] ⟨tslots ts, st₁.hdr⟩)
    {f P : Mp} {s : Shared} (hs : Same X s) (S : Sat X F st f P s.heap) : CompIt X F scope ts t iter ifs inner Q f P s :=
  (h f).then hs S fun v s₁ f₁ st₁ hs₁ le₁ S₁ ⟨d, r, ds, caps, hd, hlen, hcap, hitems⟩ => iter_of hd hlen r hs₁ S₁ fun I o It s₂ hs₂ S₂ hPI W hI =>
    ⟨I, o, It, Frz f₁, fun _ => True, f₁, st₁, ds, caps, rfl, hs₂, le₁, S₂, hPI, W, hI, hcap, fun F' st' f₂ P₁ h _ le S => ⟨le, S.sub⟩, fun F' a b c => (hitems F' a b c).toJ (hm F')⟩
theorem comp1 {elt t iter : Expr} {ifs : List Expr} {scope : Scope} {names : List (Str × NameKind)} {ts : List Str}
    (kn : Knd F names) (how : F.own = true) (sc : ScOk scope names ts) (hf0 : ∀ n ∈ freeNames scope.names, n ∈ st.vars.map (·.1)) (hfold : ∀ x, foldedSetIterable iter F.env x = pure x)
    (h : Ev X F iter st fun d st₁ => ∃ ds caps, d.items = some ds ∧ ds.length ≤ 1000000 ∧ CapL st₁.vars (freeNames scope.names) caps ∧
      ∀ F' : Fm, F'.lv = F.lv → F'.cap = caps → Knd F' scope.names → CItems X F' t ifs (InE X elt F') (fun acc st' => Q (.lst acc) ⟨st₁.vars, st'.hdr⟩) ds [] ⟨tslots ts, st₁.hdr⟩) :
    CompOk X F (.ListComp elt [⟨t, iter, ifs, 0⟩] scope pos) [⟨t, iter, ifs, 0⟩] iter scope pos st Q := fun f P use R s hs S hend =>
  comp_run rfl (fun I L env => turn1 ..) kn how sc hf0 (inner := InE X elt) (fun F' L acc st K q => act_elt q) hfold hs S (compIt_of (fun F' => inE_mono) h hs S) hend
theorem comp2 {elt t iter t' iter' : Expr} {ifs ifs' : List Expr} {scope : Scope} {names : List (Str × NameKind)} {ts : List Str}
    (kn : Knd F names) (how : F.own = true) (sc : ScOk scope names ts) (hf0 : ∀ n ∈ freeNames scope.names, n ∈ st.vars.map (·.1)) (hfold : ∀ x, foldedSetIterable iter F.env x = pure x) (hf : ∀ env x, foldedSetIterable iter' env x = pure x)
    (h : Ev X F iter st fun d st₁ => ∃ ds caps, d.items = some ds ∧ ds.length ≤ 1000000 ∧ CapL st₁.vars (freeNames scope.names) caps ∧
      ∀ F' : Fm, F'.lv = F.lv → F'.cap = caps → Knd F' scope.names → CItems X F' t ifs (InC X elt t' iter' ifs' F') (fun acc st' => Q (.lst acc) ⟨st₁.vars, st'.hdr⟩) ds [] ⟨tslots ts, st₁.hdr⟩) :
    CompOk X F (.ListComp elt [⟨t, iter, ifs, 0⟩, ⟨t', iter', ifs', 0⟩] scope pos) [⟨t, iter, ifs, 0⟩, ⟨t', iter', ifs', 0⟩] iter scope pos st Q := fun f P use R s hs S hend =>
  comp_run rfl (fun I L env => turn20 ..) kn how sc hf0 (inner := InC X elt t' iter' ifs') (fun F' L acc st K q => act_in hf q) hfold hs S (compIt_of (fun F' => inC_mono) h hs S) hend

/-- the names of the comprehension are gone -/
theorem comp_gone {f P : Mp} {h h' : Heap} {C : Addr} {oC : Obj} (S : Sat X F st f (Mp.add P C oC) h) (hP : P C = none) (hoc : ∀ v, oC.data ≠ .cell v) (hs : Heap.SameBut C h h') : Sat X F st f P h' := by
  have irr := S.irr hP
  refine (S.unpin hP fun v => hoc _).move fun b o e => ?_
  by_cases q : b = C
  · subst q; exact .inr irr
  · exact .inl (hs.extBut b o q e)
theorem e_comp {elt t iter : Expr} {ifs : List Expr} {rest : List Comprehension} {scope : Scope} (h : CompOk X F (.ListComp elt (⟨t, iter, ifs, 0⟩ :: rest) scope pos) (⟨t, iter, ifs, 0⟩ :: rest) iter scope pos st Q) : Ev X F (.ListComp elt (⟨t, iter, ifs, 0⟩ :: rest) scope pos) st Q := fun f P s hs S => by
  rw [eval_ListComp]
  refine h f P none _ s hs S fun s' f' st' C L acc oC hs' le S' hP hm hoc r q => ?_
  obtain ⟨m, hm⟩ := hm
  exact ⟨m, hm, fun h' hsb => ⟨hs'.next _ _, f', st', le, comp_gone S' hP hoc hsb, _, r, q⟩⟩
theorem swaps_eq {elt : Expr} {gens : List Comprehension} {scope : Scope} {x : Str} {px : Pos} {l : Nat} {env : Env} : swapsWith (.ListComp elt gens scope pos) (some (.Name x px)) l env =
    pure (env.blockKind == .function && env.kindOf x == some .local && px.line == pos.line && !(scope.names.any fun (n, k) => n == x && (k == .local || k == .cell))) := rfl
theorem x_compL {x : Str} {px : Pos} {elt t iter : Expr} {ifs : List Expr} {rest : List Comprehension} {scope : Scope} {spos : Pos} (hk : F.env.kindOf x = some .local) (hnm : (scope.names.any fun (n, k) => n == x && (k == .local || k == .cell)) = false)
    (h : CompOk X F (.ListComp elt (⟨t, iter, ifs, 0⟩ :: rest) scope pos) (⟨t, iter, ifs, 0⟩ :: rest) iter scope pos st fun d st₁ => PutK x (.dat d) st₁.vars fun vs' => Qn ⟨vs', st₁.hdr⟩) (hln : (px.line == pos.line) = true := by with_unfolding_all rfl) :
    X1 X F (.Assign [.Name x px] (.ListComp elt (⟨t, iter, ifs, 0⟩ :: rest) scope pos) spos) st Qn Qr := fun f P s hs S => by
  have hb : F.env.blockKind = .function := by unfold Env.blockKind; rw [F.kind]; rfl
  rw [exec_Assign_Name_used _ _ _ _ (by rw [swaps_eq, hk, hb, hln, hnm]; rfl)]
  refine wpAny_bind (wpAny_standAt (wpAny_bind ?_))
  show wpAny _ _ (do let _ ← comprehension (.ListComp elt (⟨t, iter, ifs, 0⟩ :: rest) scope pos) scope F.env _ (newList []) false (eval iter F.env) (some (assign (.Name x px) F.env))) _ _ s
  refine wpAny_bind (wpAny_mono (h f P (some (assign (.Name x px) F.env)) (fun _ s' => Post X F P f (FlQ Qn Qr) .next s') s hs S fun s' f' st' C L acc oC hs' le S' hP hm hoc r q => ?_) (fun _ s' hq => wpAny_pure (wpAny_pure hq)) fun _ _ e => e)
  obtain ⟨vs', hput, q⟩ := q
  show wpAny _ _ (assign (.Name x px) F.env (.ref L)) _ _ _
  obtain ⟨m, hm⟩ := hm
  refine wpAny_assign_Name (store_ok S' hput ⟨_, rfl, r⟩ (fun a ds e => by cases e) fun h' tk S'' => ?_)
  have hg : h'.get? C = some oC := S''.pinned
  obtain ⟨o, es, ep, g1, g2⟩ := hm
  have e0 : oC = o := Option.some.inj (S'.pinned.symm.trans g1)
  refine ⟨m, ⟨o, es, ep, e0 ▸ hg, g2⟩, fun h'' hsb => ⟨hs'.next _ _, f', _, le, comp_gone S'' hP hoc hsb, q⟩⟩

/-- a comprehension's items, one turn after the other -/
theorem citems_fold {F' : Fm} {t : Expr} {ifs : List Expr} {inner : List D → St → (List D → St → Prop) → Prop} {K : List D → St → Prop} (Good : St → Prop) (G : D → List D) :
    ∀ (ds acc : List D) (st : St), (∀ d ∈ ds, ∀ acc st K, Good st → acc.length + (G d).length ≤ 1000000 → (∀ st', Good st' → K (acc ++ G d) st') → Asg X F' t d st fun st₁ => Ifs X F' ifs st₁ fun b st₂ => Both b (inner acc st₂ K) (K acc st₂)) →
    Good st → acc.length + (ds.flatMap G).length ≤ 1000000 → (∀ st', Good st' → K (acc ++ ds.flatMap G) st') → CItems X F' t ifs inner K ds acc st
  | [], acc, st, _, hg, _, hk => by
    have := hk st hg
    simpa [CItems] using this
  | d :: ds, acc, st, hstep, hg, hlen, hk => by
    have hl : (List.flatMap G (d :: ds)).length = (G d).length + (List.flatMap G ds).length := by simp
    refine hstep d (.head _) acc st _ hg (by omega) fun st' hg' => ?_
    refine citems_fold Good G ds (acc ++ G d) st' (fun d' hd' => hstep d' (.tail _ hd')) hg' (by simp only [List.length_append]; omega) fun st'' hg'' => ?_
    have := hk st'' hg''
    simpa [List.append_assoc] using this
end
end Mine

open PySem PySem.W PyProof.Rows
set_option Elab.async false
set_option maxRecDepth 100000
set_option linter.unusedVariables false
namespace Mine
open PySem.Calls PySem.Builtin PySem.Builtin.Re

theorem plainAttrs_re : PlainAttrs "re.Pattern" :=
  ⟨⟨"object.__getattribute__", by rw [typeLookup_type, builtinLookup_eq_fast]; kernel_rfl, by decide +kernel⟩, by rw [typeLookup_type, builtinLookup_eq_fast]; kernel_rfl⟩
theorem slot_re_search : PySem.Slot "re.Pattern" "search" "re.Pattern.search" :=
  .of (owner := "re.Pattern") (n := "search") (by rw [typeLookup_type, builtinLookup_eq_fast]; kernel_rfl) (by decide +kernel) (by decide +kernel) (by decide +kernel)
    (by first | exact .inl (by decide +kernel) | exact .inr (by decide +kernel)) (by rw [isSubtype_type]; kernel_rfl)
theorem type_re_search : typeOf (.builtin "re.Pattern.search") = pure (.type "method_descriptor") := by show builtinType _ = _; rw [builtinType_eq_fast]; kernel_rfl
theorem entry_re_search : entryFor table "re.Pattern.search" = some Builtin.«re.Pattern.search» := entryFor_of_tree (by kernel_rfl)
theorem args_re_search (a b : Value) : argsOk "re.Pattern.search" ⟨[a, b], []⟩ := by unfold argsOk; kernel_rfl

/-- the first set of a pattern takes none of the text's signs -/
def NoHit (code : Array Nat) (x : Str) : Prop := ∀ c ∈ x.cps, ∀ seen, ∃ seen', Sre.inSet code c code.size 5 true seen = .ok (false, seen')
theorem admitted_none {m : Sre.M} (h : ∀ c ∈ m.text, ∀ seen, ∃ seen', Sre.inSet m.code c m.code.size 5 true seen = .ok (false, seen')) (hl : m.lim ≤ m.text.size) : ∀ (fuel s : Nat) (seen : Sre.Seen), ∃ seen', Sre.M.admitted m fuel s seen = .ok (none, seen')
  | 0, _, seen => ⟨seen, rfl⟩
  | fuel + 1, s, seen => by
    unfold Sre.M.admitted
    by_cases q : s ≥ m.lim
    · rw [if_pos q]; exact ⟨_, rfl⟩
    · rw [if_neg q]
      have hs : s < m.text.size := by omega
      obtain ⟨seen', e⟩ := h (m.text.getD s 0) (by rw [Array.getD_eq_getD_getElem?, Array.getElem?_eq_getElem hs]; exact Array.getElem_mem hs) seen
      rw [e]
      exact admitted_none h hl fuel (s + 1) seen'
/-- a pattern with a first set -/
structure PatOk (code : Array Nat) : Prop where
  op : Sre.ops[code.getD 0 0]? = some .INFO
  flag : code.getD 2 0 = 4
theorem attempt_none {m : Sre.M} {s₀ : Nat} {first : Bool} (hf : m.hasFirstSet = true) (h : ∀ c ∈ m.text, ∀ seen, ∃ seen', Sre.inSet m.code c m.code.size 5 true seen = .ok (false, seen')) (hl : m.lim ≤ m.text.size) (e4 : m.frames = []) (e5 : m.outcome = none) :
    (m.attemptFrom s₀ first).answer = some false ∧ (m.attemptFrom s₀ first).frames = [] ∧ (m.attemptFrom s₀ first).outcome = none := by
  unfold Sre.M.attemptFrom
  rw [hf, Bool.not_true, if_neg Bool.false_ne_true]
  obtain ⟨seen', e⟩ := admitted_none h hl (m.lim + 1 - s₀) s₀ m.seen
  rw [e]
  exact ⟨rfl, e4, e5⟩
theorem search_fails {code text : Array Nat} {groups : Nat} (hc : PatOk code) (h : ∀ c ∈ text, ∀ seen, ∃ seen', Sre.inSet code c code.size 5 true seen = .ok (false, seen')) :
    ∃ m : Sre.M, Sre.forSearch code text groups (min (0 : Int).toNat text.size) (min (2 ^ 63 - 1 : Int).toNat text.size) false = m ∧ m.answer = some false ∧ m.frames = [] ∧ m.outcome = none := by
  refine ⟨_, rfl, ?_⟩
  unfold Sre.forSearch
  dsimp only
  split
  · exact ⟨rfl, rfl, rfl⟩
  · refine attempt_none ?_ h (Nat.min_le_right _ _) rfl rfl
    unfold Sre.M.hasFirstSet
    show ((match Sre.ops[code.getD 0 0]? with | some .INFO => true | _ => false) && code.getD 2 0 == 4) = true
    rw [hc.op, hc.flag]; decide
section
variable {M : Model} {A : Around} {E : Value → Shared → Prop} {s : Shared}
theorem rules_loop {f : Nat → Bool} {g : Nat → String} {Q : PUnit → Shared → Prop} (hq : Q ⟨⟩ s) : ∀ l : List Nat, wpAny M A (forIn l PUnit.unit fun i (_ : PUnit) => if f i = true then (do
    rule (g i)
    pure (ForInStep.yield PUnit.unit)) else pure (ForInStep.yield PUnit.unit)) Q E s
  | [] => by rw [List.forIn_nil]; exact wpAny_pure hq
  | i :: l => by
    rw [List.forIn_cons]
    refine wpAny_bind ?_
    split
    · exact wpAny_bind (wpAny_rule (wpAny_pure (rules_loop hq l)))
    · exact wpAny_pure (rules_loop hq l)
theorem drive_fail {m : Sre.M} (h1 : m.answer = some false) (h2 : m.frames = []) (h3 : m.outcome = none) {Q : Option Sre.M → Shared → Prop} (hq : Q none s) : wpAny M A (reRunToEnd m) Q E s := by
  unfold reRunToEnd
  have e : ∃ m', m.runFor reTurnSteps = m' ∧ m'.outcome = some .failed := by
    refine ⟨_, rfl, ?_⟩
    show (Sre.M.runFor 4 m).outcome = _
    have s1 : m.step = { m with outcome := some .failed } := by
      unfold Sre.M.step
      rw [h3, h1, h2]; rfl
    have r1 : Sre.M.runFor 4 m = Sre.M.runFor 3 m.step := by
      rw [Sre.M.runFor]; rw [h3]; rfl
    rw [r1, s1]
    rfl
  obtain ⟨m', e1, e2⟩ := e
  refine wpAny_bind ?_
  show wpAny M A (reDrive (2 ^ 64 - 1 + 1) m) _ _ _
  unfold reDrive
  rw [e1]
  dsimp only
  rw [e2, if_pos (by rfl)]
  refine wpAny_pure (wpAny_bind (rules_loop ?_ _))
  rw [e2]
  exact wpAny_pure hq
end
/-- a compiled pattern among the frozen objects -/
structure ReAt (K : Frag) (p : Addr) (code : Array Nat) : Prop where
  ex : ∃ (c : Addr) (a b : Value) (u v : Tok) (sl sl' : Array (Option Value)) (items : Array Value) (n : Nat) (cl : Value), K.lookup p = some ⟨.type "re.Pattern", none, .fields #[a, b, .int 0 u, .none, .none, .ref c, .int 0 v], sl⟩ ∧ K.lookup c = some ⟨cl, none, .seq items n, sl'⟩ ∧ (items.map reRawOf).map (·.toNat) = code
theorem re_named (v : Value) : reNamed "re.Pattern.search" "search" ["string", "pos", "endpos"] 1 [v] [] = pure [some v, none, none] := by rfl
theorem re_call {prog : Program} {w : World} {A : Around} {E : Value → Shared → Prop} {s : Shared} {K : Frag} {p : Addr} {code : Array Nat} {x : Str} {t : Tok} {Q : Value → Shared → Prop} (X : K.In s.heap) (hr : ReAt K p code) (hc : PatOk code) (hx : NoHit code x) (hq : Q .none s) :
    wpAny (model prog w) A (call (.builtin "re.Pattern.search") [.ref p, .str x t]) Q E s := by
  obtain ⟨c, a, b, u, v, sl, sl', items, n, cl, h1, h2, h3⟩ := hr.ex
  have hT : s.TypeIs (.ref p) "re.Pattern" := ⟨_, X _ _ h1, rfl⟩
  refine wpAny_call (codeAny_call_builtin slot_re_search.plain entry_re_search (slot_re_search.check _ _ _ _ _ _ _ _ hT (args_re_search _ _) ?_))
  unfold Builtin.«re.Pattern.search» reTarget
  dsimp only
  refine wpAny_bind (wpAny_bind ?_)
  rw [re_named]
  refine wpAny_pure ?_
  dsimp only
  refine wpAny_bind (wpAny_pure (wpAny_bind (wpAny_pure (wpAny_bind ?_))))
  show wpAny _ _ (load p >>= _) _ _ _
  refine wpAny_bind (wpAny_load (X _ _ h1) (wpAny_pure (wpAny_bind ?_)))
  show wpAny _ _ (pure (x.cps, 0)) _ _ _
  refine wpAny_pure ?_
  dsimp only
  rw [if_neg (by show ¬ (true && false) = true; decide), if_neg (by show ¬ (false && true) = true; decide)]
  refine wpAny_bind ?_
  show wpAny _ _ (pure ()) _ _ _
  refine wpAny_pure (wpAny_bind ?_)
  show wpAny _ _ ((load c >>= fun o => match o.data with | .seq xs _ => pure (some xs) | _ => pure none) >>= fun r => pure ((r.getD #[]).map reRawOf)) _ _ _
  refine wpAny_bind (wpAny_bind (wpAny_load (X _ _ h2) (wpAny_pure (wpAny_pure (wpAny_pure ?_)))))
  unfold reAnswer
  obtain ⟨m, e1, e2, e3, e4⟩ := search_fails (groups := 0) hc hx
  have e1' : Sre.forSearch ((items.map reRawOf).map (·.toNat)) x.cps 0 (min (0 : Int).toNat x.cps.size) (min (2 ^ 63 - 1 : Int).toNat x.cps.size) false = m := by rw [h3]; exact e1
  show wpAny _ _ (reRunToEnd (Sre.forSearch ((items.map reRawOf).map (·.toNat)) x.cps 0 (min (0 : Int).toNat x.cps.size) (min (2 ^ 63 - 1 : Int).toNat x.cps.size) false) >>= _) _ _ _
  rw [e1']
  refine wpAny_bind (drive_fail e2 e3 e4 ?_)
  exact wpAny_pure hq
section
variable {X : Cx} {F : Fm} {st : St} {Q : D → St → Prop} {Qn : St → Prop} {Qr : D → St → Prop} {pos apos : Pos}
theorem e_search {o e : Expr} (h : Ev X F o st fun d st₁ => ∃ p code, d = .val (.ref p) ∧ ReAt X.K p code ∧ PatOk code ∧ Ev X F e st₁ fun d' st₂ => ∃ x, d' = .str x ∧ NoHit code x ∧ Q .none st₂)
    (hbase : attributeBase o "search" F.env (eval o F.env) = eval o F.env := by with_unfolding_all rfl) (hline : (apos.endLine == pos.line) = true := by with_unfolding_all rfl)
    (he : starEach [e] F.env = [(false, eval e F.env)] := by with_unfolding_all rfl) : Ev X F (.Call (.Attribute o "search" apos) [e] [] pos) st Q := fun f P s hs S => by
  refine meth_core hbase (by rw [he]; rfl) hline ((h f).then hs S fun v s₁ f₁ st₁ hs₁ le₁ S₁ ⟨d, r, p, code, e1, hr, hc, q⟩ => ?_)
  subst e1
  have e0 := r.isVal
  subst e0
  obtain ⟨c, a, b, u, v, sl, sl', items, n, cl, h1, h2, h3⟩ := hr.ex
  have hT : s₁.TypeIs (.ref p) "re.Pattern" := ⟨_, S₁.k _ _ h1, rfl⟩
  refine getMethod_builtin hT plainAttrs_re slot_re_search type_re_search (fun a e => by cases e; exact ⟨_, S₁.k _ _ h1, rfl⟩) ?_
  rw [he]
  refine callWith_builtin rfl (evalArgs_plain (spliced_cons ((q f₁).then hs₁ S₁ fun v₂ s₂ f₂ st₂ hs₂ le₂ S₂ ⟨d₂, r₂, x, e2, hx, q₂⟩ => spliced_nil ?_)))
  subst e2
  obtain ⟨t, rfl⟩ := r₂.inv
  exact re_call S₂.k hr hc hx ⟨hs₂, f₂, st₂, le₁.trans le₂, S₂, _, .none, q₂⟩
theorem t_none {B : Bool → St → Prop} (h : B false st) : TruOk X F .none st B := fun f v r P s hs S => by
  have e0 : v = .none := r.inv
  subst e0
  exact wpAny_pure (.here hs S h)
end
def nameCode : Array Nat := #[14, 10, 4, 1, 1, 22, 0, 31, 16, 127, 0, 13, 7, 22, 0, 31, 16, 127, 0, 1]
def valueCode : Array Nat := #[14, 14, 4, 1, 1, 9, 4294966783, 0, 0, 2147483648, 0, 0, 0, 0, 0, 13, 11, 9, 4294966783, 0, 0, 2147483648, 0, 0, 0, 0, 0, 1]
theorem pat_name : PatOk nameCode := ⟨rfl, rfl⟩
theorem pat_value : PatOk valueCode := ⟨rfl, rfl⟩
/-- plain signs -/
def Plain (x : Str) : Prop := ∀ c ∈ x.cps, 32 ≤ c ∧ c < 127
theorem all_c (p : Nat → Prop) (h : ∀ k : Fin 95, p (k.val + 32)) : ∀ c, 32 ≤ c ∧ c < 127 → p c := fun c hc => by
  have := h ⟨c - 32, by omega⟩
  have e : c - 32 + 32 = c := by omega
  simpa [e] using this
theorem hit_name : ∀ c, 32 ≤ c ∧ c < 127 → ∀ seen, ∃ seen', Sre.inSet nameCode c nameCode.size 5 true seen = .ok (false, seen') := fun c hc seen => by
  refine ⟨((seen.add 22).add 16).add 0, ?_⟩
  show (if (decide (0 ≤ c) && decide (c ≤ 31)) = true then _ else _) = _
  rw [if_neg (by simp; omega)]
  show (if (c == 127) = true then _ else _) = _
  rw [if_neg (by simp; omega)]
  rfl
theorem hit_value : ∀ c, 32 ≤ c ∧ c < 127 → ∀ seen, ∃ seen', Sre.inSet valueCode c valueCode.size 5 true seen = .ok (false, seen') := by
  have key : ∀ k : Fin 95, (decide (k.val + 32 < 256) && (valueCode.getD (5 + (1 + (k.val + 32) / 32)) 0).testBit ((k.val + 32) % 32)) = false := by decide +kernel
  intro c hc seen
  refine ⟨(seen.add 9).add 0, ?_⟩
  show (if (decide (c < 256) && (valueCode.getD (5 + (1 + c / 32)) 0).testBit (c % 32)) = true then _ else _) = _
  rw [all_c (fun c => (decide (c < 256) && (valueCode.getD (5 + (1 + c / 32)) 0).testBit (c % 32)) = false) key c hc, if_neg Bool.false_ne_true]
  rfl
theorem Plain.name {x : Str} (h : Plain x) : NoHit nameCode x := fun c hc => hit_name c (h c hc)
theorem Plain.value {x : Str} (h : Plain x) : NoHit valueCode x := fun c hc => hit_value c (h c hc)
end Mine

open PySem PySem.W PyProof.Rows
set_option Elab.async false
set_option maxRecDepth 100000
set_option linter.unusedVariables false
namespace Mine
open PySem.Calls

/-- the class of the one object -/
structure ClsOk (X : Cx) : Prop where
  get : plainGet X.K X.C "" = true
  dict : hasDictIn X.K X.C = true
  hdr : findIn X.K (.ref X.C) "_headers" = some none
structure MethOk (X : Cx) (m : Str) (f : Addr) : Prop where
  find : findIn X.K (.ref X.C) m = some (some (.ref f))
  fn : isFn X.K (.ref f) = true
  keep : keepIn X.K (.ref f) = true
  ne : ((("_headers" : Str) : Str) == m) = false

theorem plain_isList {h : Heap} {a : Addr} {vs : Array Value} (p : h.PlainList a vs) : h.IsList a vs := let ⟨n, e⟩ := p; ⟨_, e, rfl, n, rfl⟩
section
variable {X : Cx} {F : Fm} {st : St} {Q : D → St → Prop} {Qn : St → Prop} {Qr : D → St → Prop} {pos apos : Pos} {f P : Mp}
theorem Sat.inst {h : Heap} (S : Sat X F st f P h) {d : Hd} (hd : st.hdr = some d) : ∃ dx n hs t, InstAt h d.x (instObj X.C dx) X.C (some (dictOf [⟨hs, .str "_headers" t, .ref d.H⟩] n)) := by
  have hh := S.hdr
  rw [hd] at hh
  obtain ⟨dx, n, hs, t, e1, e2, vs, e3, e4⟩ := hh
  exact ⟨dx, n, hs, t, S.sub _ _ e1, rfl, rfl, S.sub _ _ e2⟩
theorem Sat.hlist {h : Heap} (S : Sat X F st f P h) {d : Hd} (hd : st.hdr = some d) : ∃ vs : List Value, h.PlainList d.H vs.toArray ∧ RdL f vs (d.es.map entD) := by
  have hh := S.hdr
  rw [hd] at hh
  obtain ⟨dx, n, hs, t, e1, e2, vs, e3, e4⟩ := hh
  exact ⟨vs, e3, e4⟩
/-- «self._headers» -/
theorem e_hdrs {x : Str} {px : Pos} {d : Hd} (C : ClsOk X) (hm : Has x (.dat (.val (.ref d.x))) st.vars) (hd : st.hdr = some d) (h : Q (.val (.ref d.H)) st) (hdb : (x == ("__debug__" : Str)) = false := by decide) :
    Ev X F (.Attribute (.Name x px) "_headers" pos) st Q := fun f P s hs S => by
  refine Attribute_name (Wp.then (e_name (Q := fun d' st' => d' = .val (.ref d.x) ∧ st' = st) hm ⟨rfl, rfl⟩ hdb f) hs S fun v s₁ f₁ st₁ hs₁ le₁ S₁ ⟨d', r, e1, e2⟩ => ?_)
  subst e1 e2
  have e0 := r.isVal
  subst e0
  obtain ⟨dx, n, hs', t, I⟩ := S₁.inst hd
  refine get_value S₁.k I (plainGet_of C.get).1 (findObj_own C.dict C.hdr rfl ?_) rfl ⟨hs₁.next _ _, f₁, _, le₁, S₁, _, .val _, h⟩
  rw [lookIn_dict]
  rfl
theorem shadow_none {m : Str} {hs : Int} {t : Tok} {H : Addr} {n : Nat} (h : ((("_headers" : Str) : Str) == m) = false) : shadowIn (some (dictOf [⟨hs, .str "_headers" t, .ref H⟩] n)) m = some false := by
  show Option.map (fun x => x.isSome) (getL m [⟨hs, .str "_headers" t, .ref H⟩]) = _
  unfold getL
  have : (Value.str "_headers" t).isStr m = false := h
  simp [this, DictEntry.refKey]
theorem meth_get {m : Str} {fa : Addr} {d : Hd} {s : Shared} {pl : Sem Bool} {R : Value × List Value → Shared → Prop} (C : ClsOk X) (M : MethOk X m fa) (S : Sat X F st f P s.heap) (hd : st.hdr = some d) (h : R (.ref fa, [.ref d.x]) s) :
    wpAny (model X.prog X.w) F.A (getMethod (.ref d.x) m pl) R NoE s := by
  obtain ⟨dx, n, hs', t, I⟩ := S.inst hd
  exact method_fn S.k I (plainGet_of C.get).1 (plainGet_of C.get).2 M.find (beq_iff_eq.mp M.fn) (shadow_none M.ne) h
/-- «table.m(e, ...)» -/
theorem e_meth {x m : Str} {px : Pos} {d : Hd} {fa : Addr} {e : Expr} {rest : List Expr} {lv : Nat} (C : ClsOk X) (M : MethOk X m fa) (hm : Has x (.dat (.val (.ref d.x))) st.vars) (hd : st.hdr = some d) (hlv : lv ≤ F.lv)
    (h : EvA X F pos (e :: rest) st fun ds st₁ => Fn X lv fa (.val (.ref d.x) :: ds) [] st₁.hdr fun d hd' => Q d ⟨st₁.vars, hd'⟩)
    (hform : methodCallForm ((e :: rest).length + 0) (backTo pos (starEach (e :: rest) F.env)) (backToKw pos (keywordEach [] F.env)) = true := by with_unfolding_all rfl) (hline : (apos.endLine == pos.line) = true := by with_unfolding_all rfl)
    (he : starEach (e :: rest) F.env = (false, eval e F.env) :: starEach rest F.env := by with_unfolding_all rfl) (hpl : (backTo pos (starEach rest F.env)).any (·.1) = false := by with_unfolding_all rfl) (hdb : (x == ("__debug__" : Str)) = false := by decide) :
    Ev X F (.Call (.Attribute (.Name x px) m apos) (e :: rest) [] pos) st Q := fun f P s hs S => by
  refine meth_core rfl hform hline (Wp.then (e_name (Q := fun d' st' => d' = .val (.ref d.x) ∧ st' = st) hm ⟨rfl, rfl⟩ hdb f) hs S fun v s₁ f₁ st₁ hs₁ le₁ S₁ ⟨d', r, e1, e2⟩ => ?_)
  subst e1 e2
  have e0 := r.isVal
  subst e0
  refine meth_get C M S₁ hd ?_
  refine callWith_K X.k M.keep ((h f₁).then hs₁ S₁ fun vs s₂ f₂ st₂ hs₂ le₂ S₂ ⟨ds, rs, hl, H⟩ => ⟨S₂.k, ?_⟩) he hpl
  exact (Fn.use H hlv (.cons (.val _) rs) .nil).then hs₂ S₂ fun v s₃ f₃ st₃ hs₃ le₃ S₃ ⟨d, r, hd', e, q⟩ => ⟨hs₃, f₃, st₃, (le₁.trans le₂).trans le₃, S₃, d, r, e ▸ q⟩
theorem e_meth0 {x m : Str} {px : Pos} {d : Hd} {fa : Addr} {lv : Nat} (C : ClsOk X) (M : MethOk X m fa) (hm : Has x (.dat (.val (.ref d.x))) st.vars) (hd : st.hdr = some d) (hlv : lv ≤ F.lv)
    (h : Fn X lv fa [.val (.ref d.x)] [] st.hdr fun d hd' => Q d ⟨st.vars, hd'⟩) (hline : (apos.endLine == pos.line) = true := by with_unfolding_all rfl) (hdb : (x == ("__debug__" : Str)) = false := by decide) :
    Ev X F (.Call (.Attribute (.Name x px) m apos) [] [] pos) st Q := fun f P s hs S => by
  refine meth_core rfl rfl hline (Wp.then (e_name (Q := fun d' st' => d' = .val (.ref d.x) ∧ st' = st) hm ⟨rfl, rfl⟩ hdb f) hs S fun v s₁ f₁ st₁ hs₁ le₁ S₁ ⟨d', r, e1, e2⟩ => ?_)
  subst e1 e2
  have e0 := r.isVal
  subst e0
  refine meth_get C M S₁ hd (callWith_K0 S₁.k M.keep ?_)
  exact (Fn.use h hlv (.cons (.val _) .nil) .nil).then hs₁ S₁ fun v s₃ f₃ st₃ hs₃ le₃ S₃ ⟨d, r, hd', e, q⟩ => ⟨hs₃, f₃, st₃, le₁.trans le₃, S₃, d, r, e ▸ q⟩
/-- «self.m(e, key=k)» -/
theorem e_methK {x m key : Str} {px pk : Pos} {d : Hd} {fa : Addr} {e k : Expr} {lv : Nat} (C : ClsOk X) (M : MethOk X m fa) (hm : Has x (.dat (.val (.ref d.x))) st.vars) (hd : st.hdr = some d) (hlv : lv ≤ F.lv)
    (h : Ev X F e st fun d₁ st₁ => Ev X F k st₁ fun d₂ st₂ => Fn X lv fa [.val (.ref d.x), d₁] [(key, d₂)] st₂.hdr fun d hd' => Q d ⟨st₂.vars, hd'⟩)
    (hform : methodCallForm (1 + 1) (backTo pos (starEach [e] F.env)) (backToKw pos (keywordEach [⟨some key, k, pk⟩] F.env)) = true := by with_unfolding_all rfl) (hline : (apos.endLine == pos.line) = true := by with_unfolding_all rfl)
    (he : starEach [e] F.env = [(false, eval e F.env)] := by with_unfolding_all rfl) (hdb : (x == ("__debug__" : Str)) = false := by decide) :
    Ev X F (.Call (.Attribute (.Name x px) m apos) [e] [⟨some key, k, pk⟩] pos) st Q := fun f P s hs S => by
  refine meth_core rfl hform hline (Wp.then (e_name (Q := fun d' st' => d' = .val (.ref d.x) ∧ st' = st) hm ⟨rfl, rfl⟩ hdb f) hs S fun v s₁ f₁ st₁ hs₁ le₁ S₁ ⟨d', r, e1, e2⟩ => ?_)
  subst e1 e2
  have e0 := r.isVal
  subst e0
  refine meth_get C M S₁ hd (callWith_of (P := fun h => X.K.In h) (by rw [he]; rfl) (keeps_K M.keep) (evalArgs_kw2 rfl ?_ he))
  rw [he]
  refine spliced_cons ((h f₁).then hs₁ S₁ fun v₂ s₂ f₂ st₂ hs₂ le₂ S₂ ⟨d₂, r₂, q₂⟩ => spliced_nil (kwAll_cons ((q₂ f₂).then hs₂ S₂ fun v₃ s₃ f₃ st₃ hs₃ le₃ S₃ ⟨d₃, r₃, q₃⟩ => kwAll_nil ⟨S₃.k, ?_⟩)))
  exact (Fn.use q₃ hlv (.cons (.val _) (.cons (r₂.mono le₃) .nil)) (.cons r₃ .nil)).then hs₃ S₃ fun v s₄ f₄ st₄ hs₄ le₄ S₄ ⟨d, r, hd', e, q⟩ => ⟨hs₄, f₄, st₄, ((le₁.trans le₂).trans le₃).trans le₄, S₄, d, r, e ▸ q⟩

/-- a slice of all of the list -/
theorem e_hslice {value : Expr} {p : Pos} (h : Ev X F value st fun dd st₁ => ∃ d, st₁.hdr = some d ∧ dd = .val (.ref d.H) ∧ d.es.length ≤ 1000000 ∧ Q (.lst (d.es.map entD)) st₁) :
    Ev X F (.Subscript value (.Slice .none .none .none p) pos) st Q := fun f P s hs S => by
  refine Subscript_ ((h f).then hs S fun v₁ s₁ f₁ st₁ hs₁ le₁ S₁ ⟨dd, r₁, d, hd, e1, hlen, q⟩ => wpAny_Slice ?_)
  subst e1
  have e0 := r₁.isVal
  subst e0
  refine wpAny_pure (wpAny_pure (wpAny_pure ?_))
  obtain ⟨vs, hl, rs⟩ := S₁.hlist hd
  have S₂ := S₁.keep (h' := s₁.heap.push { cls := .type "slice", data := .fields #[.none, .none, .none] }) fun b o e => Heap.get?_push_of_some _ e
  have hl₂ : (s₁.heap.push { cls := .type "slice", data := .fields #[.none, .none, .none] }).IsList d.H vs.toArray := (plain_isList hl).push _
  have hvl : vs.length = d.es.length := by rw [rs.length, List.length_map]
  refine tail_any (s := { s₁ with heap := s₁.heap.push { cls := .type "slice", data := .fields #[.none, .none, .none] } }) (ops := [.ref s₁.heap.objs.size, .ref d.H]) hl₂.typeIs slot_list_getitem.lookup (wpAny_getItem_list_slice hl₂ (Heap.IsSliceOf.new ..) .none .none .none (by simp) ?_ (by simp; rw [sizeLine_eq]; omega)) rfl
  refine Post.up le₁ (new_seq (hs₁.next _ _) S₂ fun f' b ob le g1 g2 g3 => ⟨_, .lst (n := 0) (vs := vs) g1 g2 ?_ (rs.mono le), q⟩)
  rw [g3, slicePick_plain]
  simp

def HIt (H : Addr) (i : Nat) (ob : Obj) : Prop := ob.cls = .type "list_iterator" ∧ ob.data = .fields #[.ref H, .int i 0]
def HHp (d : Hd) (f : Mp) (h : Heap) : Prop := ∃ vs : List Value, h.PlainList d.H vs.toArray ∧ RdL f vs (d.es.map entD)
theorem iter_hdr {I : Addr} {d : Hd} (hh : F.A.handled = none) : Iter X F.A (HHp d) I (d.es.map entD) (HIt d.H) where
  item := fun i dd s f₁ R hd hp ⟨ob, ho, hc, hdt⟩ k => by
    obtain ⟨vs, hl, rs⟩ := hp
    obtain ⟨v, hv, rv⟩ := rs.get hd
    refine wpAny_pyNext_list_item (l := d.H) (i := i) ⟨ob, ho, hc, hdt⟩ (plain_isList hl) (by simpa using hv) fun h' ⟨o', g1, g2, g3⟩ hs => k v h' _ o' rv ⟨g2, g3⟩ g1 hs
  done := fun s f₁ R hp ⟨ob, ho, hc, hdt⟩ k => by
    obtain ⟨vs, hl, rs⟩ := hp
    exact wpAny_pyNext_list_end hh (l := d.H) ⟨ob, ho, hc, hdt⟩ (plain_isList hl) (by simp [rs.length]) fun h' e => k h' e
  nocell := fun i o h v e => by rw [h.2] at e; cases e
  free := fun i o target v s R ho h k => tuple_go ho h.1 h.2 (by decide) k
  self := fun i o s R ho h k => wpAny_pyIter_listiter ⟨o, ho, h.1, h.2⟩ k
theorem iter_ofH {d : Hd} {s : Shared} {R : Value → Shared → Prop} (hs : Same X s) (S : Sat X F st f P s.heap) (hd : st.hdr = some d)
    (k : ∀ I o s', Same X s' → Sat X F st f (Mp.add P I o) s'.heap → P I = none → Iter X F.A (HHp d) I (d.es.map entD) (HIt d.H) → HIt d.H 0 o → R (.ref I) s') : wpAny (model X.prog X.w) F.A (pyIter (.ref d.H)) R NoE s := by
  have fr := S.fresh
  obtain ⟨vs, hl, rs⟩ := S.hlist hd
  exact wpAny_pyIter_list (plain_isList hl) (k _ _ _ (hs.next _ _) (S.pinNew _) fr.2.1 (iter_hdr F.hand) ⟨rfl, rfl⟩)
theorem x_forH {t iter : Expr} {body : List Stmt} (h : Ev X F iter st fun dd st₁ => ∃ d, st₁.hdr = some d ∧ dd = .val (.ref d.H) ∧ LoopJ X F (fun st => st.hdr = some d) t body Qn Qr (d.es.map entD) st₁)
    (hf : ∀ x, foldedSetIterable iter F.env x = pure x := by intro _; with_unfolding_all rfl) : X1 X F (.For t iter body [] pos) st Qn Qr := fun f P s hs S => by
  refine wpAny_For ((h f).then hs S fun v s₁ f₁ st₁ hs₁ le₁ S₁ ⟨dd, r, d, hd, e1, hL⟩ => ?_) hf
  subst e1
  have e0 := r.isVal
  subst e0
  refine iter_ofH hs₁ S₁ hd fun I o s' hs' S' hP W hI => ?_
  exact for_loop le₁ hs' S' hP W hI (fun st₁ f₁ P₁ h hj le S => S.hlist hj) hL fun fl s'' q => q
theorem Sat.growH {h h' : Heap} (S : Sat X F st f P h) {d : Hd} {es' : List (Str × Str)} {us : List Value} (hd : st.hdr = some d) (hs : Heap.SameBut d.H h h') (hl : h'.PlainList d.H us.toArray) (r : RdL f us (es'.map entD)) :
    Sat X F ⟨st.vars, some ⟨d.x, d.H, es'⟩⟩ f P h' := by
  obtain ⟨m, hn, hvars⟩ := S.vars
  obtain ⟨vs0, hl0, _⟩ := S.hlist hd
  have m1 := S.mH d hd
  have kp : ∀ {g : Mp} {b : Addr} {o : Obj}, g d.H = none → g b = some o → Sub g h → h'.get? b = some o := fun gz e sub => by
    rw [hs.2 _ (by rintro rfl; rw [gz] at e; cases e)]; exact sub _ _ e
  refine ⟨fun b o e => kp m1.1 e S.sub, fun b o e => kp m1.2.1 e S.pro, S.base, S.disj, S.names, ⟨m, hn.sameBut hs (Ne.symm (ns_ne_list hn hl0)), fun p hp => ?_⟩, S.mL, S.mC, fun o p hp => ?_, S.mO, S.inj, S.cap, ?_, fun d' hd' => ?_⟩
  · obtain ⟨ov, z1, z2⟩ := hvars p hp
    refine ⟨ov, ?_, ?_⟩
    · rcases z1 with q | ⟨q1, q2, c, q3, q4⟩
      · exact .inl q
      · exact .inr ⟨q1, q2, c, q3, q4.sameBut hs (Ne.symm (cell_ne_list q4 hl0))⟩
    · cases hsl : p.2 with
      | unset => trivial
      | dat d => rw [hsl] at z2; exact z2
      | own b ds'' =>
        rw [hsl] at z2
        obtain ⟨e, vs, q, r⟩ := z2
        exact ⟨e, vs, q.extBut hs.extBut (m1.2.2 p hp b ds'' hsl), r⟩
  · obtain ⟨v, c⟩ := S.lC o p hp
    exact ⟨v, c.sameBut hs (Ne.symm (cell_ne_list c hl0))⟩
  · have hh := S.hdr
    rw [hd] at hh
    obtain ⟨dx, n, hs', t, e1, e2, vs, e3, e4⟩ := hh
    exact ⟨dx, n, hs', t, e1, e2, us, hl, r⟩
  · cases hd'
    exact m1
/-- «self._headers.append(e)» -/
theorem x_hadd {o e : Expr} {cpos : Pos}
    (h : Ev X F o st fun dd st₁ => ∃ d, st₁.hdr = some d ∧ dd = .val (.ref d.H) ∧ Ev X F e st₁ fun d' st₂ => st₂.hdr = some d ∧ d.es.length ≤ 1000000 ∧ ∃ a b, d' = .tup [.str a, .str b] ∧ Qn ⟨st₂.vars, some ⟨d.x, d.H, d.es ++ [(a, b)]⟩⟩)
    (hbase : attributeBase o "append" F.env (eval o F.env) = eval o F.env := by with_unfolding_all rfl) (hline : (apos.endLine == cpos.line) = true := by with_unfolding_all rfl) (he : starEach [e] F.env = [(false, eval e F.env)] := by with_unfolding_all rfl) :
    X1 X F (.Expr (.Call (.Attribute o "append" apos) [e] [] cpos) pos) st Qn Qr := fun f P s hs S => by
  refine wpAny_Expr (meth_core hbase (by rw [he]; rfl) hline ((h f).then hs S fun v s₁ f₁ st₁ hs₁ le₁ S₁ ⟨dd, r, d, hd, e1, q⟩ => ?_)) F.inter
  subst e1
  have e0 := r.isVal
  subst e0
  obtain ⟨vs, ⟨n, hl⟩, rs⟩ := S₁.hlist hd
  refine getMethod_list_append (o := { cls := .type "list", data := .seq vs.toArray n }) hl rfl rfl ?_
  rw [he]
  refine callWith_builtin rfl (evalArgs_plain (spliced_cons ((q f₁).then hs₁ S₁ fun v s₂ f₂ st₂ hs₂ le₂ S₂ ⟨d', r, hd₂, hsz, a, b, e2, q⟩ => spliced_nil ?_)))
  subst e2
  obtain ⟨vs₂, hl₂, rs₂⟩ := S₂.hlist hd₂
  refine wpAny_list_append_plain hl₂ (fun h' hl' hs' => ⟨hs₂.next _ _, f₂, _, le₁.trans le₂, S₂.growH hd₂ hs' (us := vs₂ ++ [v]) (by simpa using hl') ?_, q⟩) ?_
  · rw [List.map_append]
    exact rs₂.snoc r
  · have := rs₂.length
    simp at this
    simp; rw [sizeLine_eq]; omega
end
end Mine

open PySem PySem.W PyProof.Rows
set_option Elab.async false
set_option maxRecDepth 100000
set_option linter.unusedVariables false
namespace Mine
open PySem.Calls

/-- an attribute is set on a new object -/
theorem osa_fresh {prog : Program} {w : World} {A : Around} {s : Shared} {K : Frag} {x C dx : Addr} {name : Str} {v : Value} {tk : Tok} {R : Result → Shared → Prop} (X : K.In s.heap) (hx : s.heap.get? x = some (instObj C dx)) (D : s.heap.get? dx = some emptyDict)
    (hp : plainOver K C = true) (ht : takerIn K C name = some none) (hh : hasDictIn K C = true)
    (h : ∀ h' hsh t n, Heap.SameBut dx s.heap h' → h'.get? dx = some (dictOf [⟨hsh, .str name t, v⟩] n) → R (.ok (.ret .none)) { s with heap := h', toks := s.toks + 1 }) :
    codeAny (model prog w) A (.call (.builtin "object.__setattr__") ⟨[.ref x, .str name tk, v], []⟩) R s := by
  have I : InstAt s.heap x (instObj C dx) C (some emptyDict) := ⟨hx, rfl, rfl, D⟩
  refine osa_open X I hp ht fun b => ?_
  obtain ⟨cd, hc, hd'⟩ := any_some hh
  refine wpAny_bind (wpAny_pure (wpAny_bind (wpAny_bind (wpAny_loadPart hx (wpAny_bind ((looks_clsIn X hc).here ?_))))))
  rw [hd']
  refine wpAny_pure (a := some dx) (wpAny_bind (wpAny_pure (wpAny_bind ?_)))
  unfold nsSet
  refine wpAny_bind (wpAny_bind (wpAny_askSetting (wpAny_pure (wpAny_bind (wpAny_mkText (wpAny_bind (wpAny_loadPart D ?_)))))))
  dsimp only
  have c : ((!(#[] : Array DictEntry).any (fun x => x.key.isStr name)) && (#[] : Array DictEntry).any (fun x => x.refKey)) = false := by simp
  rw [aRefKeyMayBeTheName_at, c]
  have put : Obj.putName name (PyData.keyHash w.params name) (.str name s.toks) v emptyDict = dictOf [⟨PyData.keyHash w.params name, .str name s.toks, v⟩] 1 := by
    have := putName_dict name (PyData.keyHash w.params name) (.str name s.toks) v [] 0
    exact this
  have D' : (s.heap.update dx (Obj.putName name (PyData.keyHash w.params name) (.str name s.toks) v)).get? dx = some (dictOf [⟨PyData.keyHash w.params name, .str name s.toks, v⟩] 1) := by
    rw [← put]; exact Heap.get?_update_self _ D (by rw [put]; rfl)
  have SB : Heap.SameBut dx s.heap (s.heap.update dx (Obj.putName name (PyData.keyHash w.params name) (.str name s.toks) v)) := by
    refine ⟨?_, fun b hb => Heap.get?_update_ne _ _ _ _ hb⟩
    simp
  refine wpAny_updatePart (s := { s with toks := s.toks + 1 }) D ?_
  refine wpAny_bind (wpAny_lookBehind D' (pastItsLine_dict (by rw [List.size_toArray, sizeLine_eq]; simp)) ?_)
  exact wpAny_pure (h _ _ _ _ SB D')
theorem set_fresh {prog : Program} {w : World} {A : Around} {E : Value → Shared → Prop} {s : Shared} {K : Frag} {x C dx : Addr} {name : Str} {v : Value} {Q : Unit → Shared → Prop} (X : K.In s.heap) (hx : s.heap.get? x = some (instObj C dx)) (D : s.heap.get? dx = some emptyDict)
    (hs : findIn K (.ref C) "__setattr__" = some (some (.builtin "object.__setattr__"))) (hp : plainOver K C = true) (ht : takerIn K C name = some none) (hh : hasDictIn K C = true)
    (h : ∀ h' hsh t n, Heap.SameBut dx s.heap h' → h'.get? dx = some (dictOf [⟨hsh, .str name t, v⟩] n) → Q () { s with heap := h', toks := s.toks + 2 }) :
    wpAny (model prog w) A (setAttr (.ref x) name v) Q E s := by
  have I : InstAt s.heap x (instObj C dx) C (some emptyDict) := ⟨hx, rfl, rfl, D⟩
  exact set_plain X I hs (osa_fresh (s := { s with toks := s.toks + 1 }) X hx D hp ht hh fun h' hsh t n a b => h h' hsh t n a b)
theorem mem_uniq {α : Type} {l : List (Str × α)} {n : Str} {a b : α} (hn : (l.map (·.1)).Nodup) (ha : (n, a) ∈ l) (hb : (n, b) ∈ l) : a = b := by
  induction l with
  | nil => cases ha
  | cons p r ih =>
    have nd := List.nodup_cons.mp hn
    rcases List.mem_cons.mp ha with e | e <;> rcases List.mem_cons.mp hb with e' | e'
    · rw [← e] at e'; exact (Prod.mk.inj e').2.symm
    · subst e; exact absurd (List.mem_map_of_mem (f := Prod.fst) e') nd.1
    · subst e'; exact absurd (List.mem_map_of_mem (f := Prod.fst) e) nd.1
    · exact ih nd.2 e e'

section
variable {X : Cx} {F : Fm} {st : St} {Q : D → St → Prop} {Qn : St → Prop} {Qr : D → St → Prop} {pos apos : Pos} {f P : Mp}

theorem satC_none {f P : Mp} {h h' : Heap} (S : SatC X none f P h) (hk : ∀ b o, h.get? b = some o → h'.get? b = some o) : SatC X none f P h' :=
  ⟨fun b o e => hk _ _ (S.sub b o e), fun b o e => hk _ _ (S.pro b o e), S.base, S.disj, trivial, fun d e => by cases e⟩
theorem satC_pin {f P : Mp} {h : Heap} {a : Addr} {o : Obj} (S : SatC X none f P h) (ha : f a = none) (ho : h.get? a = some o) : SatC X none f (Mp.add P a o) h := by
  refine ⟨S.sub, fun b o' e => ?_, S.base, fun b o' e => ?_, trivial, fun d e => by cases e⟩
  · by_cases q : b = a
    · subst q; rw [Mp.add_self] at e; cases e; exact ho
    · rw [Mp.add_ne q] at e; exact S.pro b o' e
  · rw [Mp.add_ne (by rintro rfl; rw [ha] at e; cases e)]; exact S.disj b o' e
theorem satC_frz {f P : Mp} {h : Heap} {a : Addr} {o : Obj} (S : SatC X none f P h) (ha : f a = none) (hP : P a = none) (ho : h.get? a = some o) : SatC X none (Mp.add f a o) P h := by
  refine ⟨fun b o' e => ?_, S.pro, fun b o' e => Le.add ha _ _ (S.base b o' e), fun b o' e => ?_, trivial, fun d e => by cases e⟩
  · by_cases q : b = a
    · subst q; rw [Mp.add_self] at e; cases e; exact ho
    · rw [Mp.add_ne q] at e; exact S.sub b o' e
  · by_cases q : b = a
    · subst q; exact hP
    · rw [Mp.add_ne q] at e; exact S.disj b o' e

/-- a def is entered -/
theorem enter_raw {lv : Nat} {fa : Addr} {hd : Option Hd} {oc : Value} {od : Option Addr} {osl : Array (Option Value)} {fd : FuncData} {body : List Stmt} {bds : List (Str × D)} {rest : List Str} {A : Around} {f P : Mp} {s : Shared} {args : Args} {R : Result → Shared → Prop}
    (ho : X.K.lookup fa = some ⟨oc, od, .func fd, osl⟩) (hcd : codeIn X.K fd.code fd.qualname = true) (hbody : fd.body = .stmts body) (hclo : fd.closure = []) (hgl : fd.globals = mainGlobals) (hbl : fd.builtins = builtinsNs)
    (hA : AOk (lv + 1) A) (hs : Same X s) (S : SatC X hd f P s.heap) 
    (hb : ∀ (R' : List (Str × Value) → Shared → Prop) (E' : Value → Shared → Prop), (∀ binds s₁ f₁, Same X s₁ → Le f f₁ → SatC X hd f₁ P s₁.heap → RdK f₁ binds bds → R' binds s₁) → wpAny (model X.prog X.w) A.in1 (bindArgs fd args) R' E' s)
    (hkinds : ((bds.map (·.1) ++ rest).all fun n => fd.scope.names.lookup n == some .local || fd.scope.names.lookup n == some .cell) = true) (hnd : (bds.map (·.1) ++ rest).Nodup)
    (hcn : ∀ n, ((cellsFrom n fd.scope.names []).map (·.1)).Nodup)
    (hco : fd.scope.isCoroutine = false) (hgen : fd.scope.isGenerator = false) (hk : fd.scope.kind = .function)
    (h : ∀ (F : Fm) (L : Addr) s' f₁, Le f f₁ → F.lv = lv → F.own = true → F.cap = [] → F.env = callEnvC fd L fa → Same X s' → Sat X F ⟨slots bds rest, hd⟩ f₁ P s'.heap →
      wpAny (model X.prog X.w) F.A (execs body F.env) (fun fl s'' => match fl with | .ret v => R (.ok (.ret v)) s'' | .next => R (.ok (.ret .none)) s'' | _ => False) NoE s') : codeAny (model X.prog X.w) A (.call (.ref fa) args) R s := by
  have hall : ∀ n ∈ bds.map (·.1) ++ rest, fd.scope.names.lookup n = some .local ∨ fd.scope.names.lookup n = some .cell := fun n hn => by
    have := List.all_eq_true.mp hkinds n hn
    rcases Bool.or_eq_true_iff.mp this with q | q
    · exact .inl (by simpa using q)
    · exact .inr (by simpa using q)
  refine codeAny_call_function (by have := hA.2.1; omega) (S.k _ _ ho) rfl hco hgen hbody (codeRec_of S.k hcd) (hb _ _ fun binds s₁ f₁ hs₁ le₁ S₁ rb => ?_)
  clear hs S
  have hlim : s₁.heap.NoLimit := S₁.t.nolimit
  have hn1 : binds.map (·.1) = bds.map (·.1) := rb.names
  rw [hclo]
  refine wpAny_newFunctionEnv_cells hk (fun x hx => ?_) fun env he s' x => ?_
  · rcases hall x.1 (List.mem_append_left _ (hn1 ▸ List.mem_map_of_mem hx)) with q | q
    · exact .inl q
    · exact .inr ⟨q, cellsFrom_some _ _ _ (.inl q)⟩
  subst he
  obtain ⟨h₁, tk, rfl, _⟩ := x.done
  have hkp := x.toInCall.keep
  refine ⟨hlim.keeps hkp, codeAny_func ?_⟩
  let F : Fm := { env := callEnvC fd s₁.heap.objs.size fa, A := A.deeper (callEnvC fd s₁.heap.objs.size fa), lv := lv, own := true, cap := [], kind := hk, glob := hgl, blt := hbl, hand := hA.1, depth := by have := hA.2.1; show A.depth + 1 + lv < _; omega, units := by have := hA.2.2; show A.units + 3 + 8 * lv + 40 < _; omega, cells := x.apart }
  have fresh : ∀ {b : Addr}, s₁.heap.objs.size ≤ b → f₁ b = none ∧ P b = none := fun {b} hb => ⟨S₁.sub.none (none_size hb), S₁.pro.none (none_size hb)⟩
  have cellAb : ∀ p ∈ F.env.cells, s₁.heap.objs.size ≤ p.2 := fun p hp => Nat.le_of_lt (x.above p.1 p.2 hp)
  have nodupB : (binds.map (·.1)).Nodup := by rw [hn1]; exact (List.nodup_append.mp hnd).1
  have lookC : ∀ n, fd.scope.names.lookup n = some .cell → ∃ c, F.env.cells.lookup n = some c := fun n hn => Option.isSome_iff_exists.mp (cellsFrom_some _ _ _ (.inl hn))
  have memC : ∀ p ∈ F.env.cells, F.env.cells.lookup p.1 = some p.2 := fun p hp => lookup_of_mem_nodup (hcn _) hp
  have hSat : Sat X F ⟨slots bds rest, hd⟩ f₁ P h₁ := by
    refine ⟨fun b o e => hkp _ _ (S₁.sub b o e), fun b o e => hkp _ _ (S₁.pro b o e), S₁.base, S₁.disj, ?_, ⟨_, x.toInCall.ns, fun p hp => ?_⟩, fresh (Nat.le_refl _), fun _ p hp => fresh (cellAb p hp), fun _ p hp => ⟨_, x.cell _ _ (memC p hp)⟩, fun p hp a ds e => ?_, fun p hp q hq a ds ds' e e' => ?_, fun p hp => (nomatch hp), ?_, fun d hd' => ⟨(S₁.mH d hd').1, (S₁.mH d hd').2, fun p hp a ds e => ?_⟩⟩
    · have : (slots bds rest).map (·.1) = bds.map (·.1) ++ rest := by simp [slots, Function.comp_def]
      show ((slots bds rest).map (·.1)).Nodup
      rw [this]; exact hnd
    · rcases List.mem_append.mp hp with hp | hp
      · obtain ⟨q, hq, rfl⟩ := List.mem_map.mp hp
        obtain ⟨v, hv, rv⟩ := rb.mem (x := q.1) (d := q.2) hq
        rcases hall q.1 (List.mem_append_left _ (List.mem_map_of_mem hq)) with z | z
        · exact ⟨some v, .inl ⟨z, (bindL_mem nodupB hv z).symm⟩, v, rfl, rv⟩
        · obtain ⟨c, hc⟩ := lookC _ z
          exact ⟨some v, .inr ⟨z, rfl, c, hc, (bindC_mem (k := F.env.kindOf) (m := fun _ => none) nodupB hv z) ▸ x.cell _ _ hc⟩, v, rfl, rv⟩
      · obtain ⟨n, hn, rfl⟩ := List.mem_map.mp hp
        rcases hall n (List.mem_append_right _ hn) with z | z
        · exact ⟨_, .inl ⟨z, rfl⟩, trivial⟩
        · obtain ⟨c, hc⟩ := lookC _ z
          exact ⟨_, .inr ⟨z, rfl, c, hc, x.cell _ _ hc⟩, trivial⟩
    · exfalso
      rcases List.mem_append.mp hp with hp | hp <;> obtain ⟨q, hq, rfl⟩ := List.mem_map.mp hp <;> cases e
    · exfalso
      rcases List.mem_append.mp hp with hp | hp <;> obtain ⟨q, hq, rfl⟩ := List.mem_map.mp hp <;> cases e
    · have hh := S₁.hdr
      cases hd with
      | none => trivial
      | some d =>
        obtain ⟨dx, n, hs', t, e1, e2, vs, e3, e4⟩ := hh
        exact ⟨dx, n, hs', t, e1, e2, vs, e3.at fun o e => hkp _ _ e, e4⟩
    · exfalso
      rcases List.mem_append.mp hp with hp | hp <;> obtain ⟨q, hq, rfl⟩ := List.mem_map.mp hp <;> cases e
  refine noE (wpAny_mono (h F s₁.heap.objs.size _ f₁ le₁ rfl rfl rfl rfl (hs₁.next _ _) hSat) (fun fl s' q => ?_) fun _ _ e => e)
  cases fl with
  | next => exact q
  | ret v => exact q
  | _ => exact q.elim

theorem binds_of {fd : FuncData} {args : Args} {binds : List (Str × Value)} {bds : List (Str × D)} {hd : Option Hd} {A : Around} {f P : Mp} {s : Shared} (hs : Same X s) (S : SatC X hd f P s.heap) (hb : BindsTo s fd args binds) (rb : RdK f binds bds) :
    ∀ (R' : List (Str × Value) → Shared → Prop) (E' : Value → Shared → Prop), (∀ binds s₁ f₁, Same X s₁ → Le f f₁ → SatC X hd f₁ P s₁.heap → RdK f₁ binds bds → R' binds s₁) → wpAny (model X.prog X.w) A.in1 (bindArgs fd args) R' E' s :=
  fun R' E' h => hb _ _ _ _ (h binds s f hs (.refl f) S rb)
/-- the object and its list stand -/
theorem Sat.mkHdr {vars vars' : List (Str × Slot)} {h : Heap} {x dx H : Addr} {hN : Str} {hs : Int} {t : Tok} {n : Nat} (S : Sat X F ⟨vars, none⟩ f P h) (hm : (hN, Slot.own H []) ∈ vars) (hput : Put hN (.dat (.val (.ref H))) vars vars')
    (e1 : f x = some (instObj X.C dx)) (e2 : f dx = some (dictOf [⟨hs, .str "_headers" t, .ref H⟩] n)) : Sat X F ⟨vars', some ⟨x, H, []⟩⟩ f P h := by
  have S₁ := S.reslot hput (fun a ds e => by cases e) (fun s₀ ov hm' hsl => by
    have : s₀ = .own H [] := mem_uniq S.names hm' hm
    subst this
    exact ⟨_, hsl.1, .val _⟩)
  have hO := S.mO _ hm H [] rfl
  obtain ⟨m, hn, hv⟩ := S.vars
  obtain ⟨ov, _, ⟨_, vs, hl, rs⟩⟩ := hv _ hm
  refine ⟨S₁.sub, S₁.pro, S₁.base, S₁.disj, S₁.names, S₁.vars, S₁.mL, S₁.mC, S₁.lC, S₁.mO, S₁.inj, S₁.cap, ⟨dx, n, hs, t, e1, e2, vs, hl, by cases rs; exact .nil⟩, fun d hd => ?_⟩
  cases hd
  refine ⟨hO.1, hO.2, fun p hp a ds e q => ?_⟩
  subst q
  rcases hput.mem S.names p hp with rfl | ⟨hp, hne⟩
  · cases e
  · exact hne (S.inj p hp _ hm a ds [] e rfl)

structure InitOk (X : Cx) (cn : Str) (fI : Addr) : Prop where
  glob : nsIn X.K mainGlobals cn = some (some (.ref X.C))
  keep : keepIn X.K (.ref X.C) = true
  makes : makesIn X.K X.C = true
  init : findIn X.K (.ref X.C) "__init__" = some (some (.ref fI))
  fn : typeIn X.K (.ref fI) = some (.type "function")
  set : findIn X.K (.ref X.C) "__setattr__" = some (some (.builtin "object.__setattr__"))
  over : plainOver X.K X.C = true
  taker : takerIn X.K X.C "_headers" = some none
  dict : hasDictIn X.K X.C = true

theorem e_headers {cn sN hN : Str} {p p1 p2 p3 p4 : Pos} {fI : Addr} {lv : Nat} {oc : Value} {od : Option Addr} {osl : Array (Option Value)} {fd : FuncData} {s1 s2 s4 : Stmt} {rest : List Str} (I : InitOk X cn fI) (hx : F.env.kindOf cn = some .globalImplicit) (hlv : lv + 2 ≤ F.lv) (hdr : st.hdr = none)
    (ho : X.K.lookup fI = some ⟨oc, od, .func fd, osl⟩) (hcd : codeIn X.K fd.code fd.qualname = true) (hbody : fd.body = .stmts [s1, s2, .Assign [.Attribute (.Name sN p1) "_headers" p2] (.Name hN p3) p4, s4]) (hclo : fd.closure = []) (hgl : fd.globals = mainGlobals) (hbl : fd.builtins = builtinsNs)
    (hbind : ∀ (s : Shared) (x : Addr), X.K.In s.heap → BindsTo s fd ⟨[.ref x], []⟩ [(sN, .ref x), (hN, .none)])
    (hkinds : (([sN, hN] ++ rest).all fun n => fd.scope.names.lookup n == some .local || fd.scope.names.lookup n == some .cell) = true) (hnd : ([sN, hN] ++ rest).Nodup)
    (hcn : ∀ n, ((cellsFrom n fd.scope.names []).map (·.1)).Nodup)
    (hco : fd.scope.isCoroutine = false) (hgen : fd.scope.isGenerator = false) (hk : fd.scope.kind = .function)
    (h12 : ∀ (F : Fm) (L x : Addr), F.lv = lv → F.own = true → F.cap = [] → F.env = callEnvC fd L fI → X1 X F s1 ⟨slots [(sN, .val (.ref x)), (hN, .none)] rest, none⟩ (fun st₁ => X1 X F s2 st₁ (fun st => ∃ H, st = ⟨(sN, .dat (.val (.ref x))) :: (hN, .own H []) :: rest.map (fun n => (n, Slot.unset)), none⟩) (fun _ _ => False)) (fun _ _ => False))
    (h4 : ∀ (F : Fm) (L x H : Addr), F.lv = lv → F.own = true → F.cap = [] → F.env = callEnvC fd L fI → X1 X F s4 ⟨(sN, .dat (.val (.ref x))) :: (hN, .dat (.val (.ref H))) :: rest.map (fun n => (n, Slot.unset)), some ⟨x, H, []⟩⟩ (fun st => st.hdr = some ⟨x, H, []⟩) (fun _ _ => False))
    (h : ∀ x H, Q (.val (.ref x)) ⟨st.vars, some ⟨x, H, []⟩⟩) (hd : (cn == ("__debug__" : Str)) = false := by decide) (hd1 : (sN == ("__debug__" : Str)) = false := by decide) (hd2 : (hN == ("__debug__" : Str)) = false := by decide) :
    Ev X F (.Call (.Name cn p) [] [] pos) st Q := fun f P s hs S => by
  show wpAny _ _ (do callWith pos (← eval (.Name cn p) F.env) [] (backTo pos (starEach [] F.env)) (backToKw pos (keywordEach [] F.env))) _ _ _
  refine wpAny_bind (Wp.then (Ev.glob (Q := fun d st' => d = .val (.ref X.C) ∧ st' = st) I.glob ⟨rfl, rfl⟩ hx hd f) hs S fun v s₁ f₁ st₁ hs₁ le₁ S₁ ⟨d, r, e1, e2⟩ => ?_)
  subst e1 e2
  have e0 := r.isVal
  subst e0
  refine callWith_K0 S₁.k I.keep (wpAny_call ?_)
  have SC := S₁.toC
  rw [hdr] at SC
  obtain ⟨hh, g, dr, t, os⟩ := s₁
  have K₁ := S₁.k
  refine make_core (makes_of K₁ I.makes) (looks_findIn K₁ I.init) (fun self => bind_fn K₁ self I.fn) (.inl rfl) ?_
  have hA : AOk (lv + 1) (F.A.under (.builtin "type.__call__" ⟨[.ref X.C], []⟩)) := by
    have d1 : (F.A.under (.builtin "type.__call__" ⟨[.ref X.C], []⟩)).depth = F.A.depth + 1 := rfl
    have d2 : (F.A.under (.builtin "type.__call__" ⟨[.ref X.C], []⟩)).units = F.A.units + 1 := rfl
    refine ⟨F.hand, ?_, ?_⟩
    · rw [d1]; have := F.depth; omega
    · rw [d2]; have := F.units; omega
  have hz : hh.objs.size < hh.objs.size + 1 := Nat.lt_succ_self _
  have k1 : ∀ b o, hh.get? b = some o → (hh.push emptyDict).get? b = some o := fun b o e => Heap.get?_push_of_some _ e
  have k2 : ∀ b o, (hh.push emptyDict).get? b = some o → ((hh.push emptyDict).push (instObj X.C hh.objs.size)).get? b = some o := fun b o e => Heap.get?_push_of_some _ e
  have gd : ((hh.push emptyDict).push (instObj X.C hh.objs.size)).get? hh.objs.size = some emptyDict := k2 _ _ (Heap.get?_push_size _ rfl)
  have gx : ((hh.push emptyDict).push (instObj X.C hh.objs.size)).get? (hh.objs.size + 1) = some (instObj X.C hh.objs.size) := by
    have := Heap.get?_push_size (o := instObj X.C hh.objs.size) (hh.push emptyDict) rfl
    rwa [Heap.size_push] at this
  have fd0 : f₁ hh.objs.size = none := SC.sub.none (none_size (Nat.le_refl _))
  have fx0 : f₁ (hh.objs.size + 1) = none := SC.sub.none (none_size (Nat.le_succ _))
  have pd0 : Prot F st₁ P hh hh.objs.size = none := SC.pro.none (none_size (Nat.le_refl _))
  have px0 : Prot F st₁ P hh (hh.objs.size + 1) = none := SC.pro.none (none_size (Nat.le_succ _))
  have SC₁ := satC_none SC (fun b o e => k2 b o (k1 b o e))
  have SC₂ := satC_frz SC₁ fx0 px0 gx
  have SC₃ := satC_pin SC₂ (a := hh.objs.size) (by rw [Mp.add_ne (Nat.ne_of_lt hz)]; exact fd0) gd
  refine enter_raw (bds := [(sN, .val (.ref (hh.objs.size + 1))), (hN, .none)]) (rest := rest) ho hcd hbody hclo hgl hbl hA (hs₁.next _ _) SC₃ (binds_of (hs₁.next _ _) SC₃ (hbind _ _ SC₃.k) (.cons (.val _) (.cons .none .nil))) hkinds hnd hcn hco hgen hk fun F' L s₂ f₂ le₂ a1 a2 a3 a4 hs₂ S₂ => ?_
  have c12 := h12 F' L (hh.objs.size + 1) a1 a2 a3 a4
  have key : ∀ s₃, Post X F' (Mp.add (Prot F st₁ P hh) hh.objs.size emptyDict) (Mp.add f₁ (hh.objs.size + 1) (instObj X.C hh.objs.size)) (FlQ (fun st => ∃ H, st = ⟨(sN, .dat (.val (.ref (hh.objs.size + 1)))) :: (hN, .own H []) :: rest.map (fun n => (n, Slot.unset)), none⟩) (fun _ _ => False)) .next s₃ →
      wpAny (model X.prog X.w) F'.A (execs [.Assign [.Attribute (.Name sN p1) "_headers" p2] (.Name hN p3) p4, s4] F'.env) (fun fl s'' => match fl with
        | .ret v => InitBack (hh.objs.size + 1) (fun r s' => match r with | .ok (.ret v) => Post X F P f (fun v st' f' => ∃ d, Rd f' v d ∧ Q d st') v s' | .ok _ => False | .error e => NoE e s') (.ok (.ret v)) s''
        | .next => InitBack (hh.objs.size + 1) (fun r s' => match r with | .ok (.ret v) => Post X F P f (fun v st' f' => ∃ d, Rd f' v d ∧ Q d st') v s' | .ok _ => False | .error e => NoE e s') (.ok (.ret .none)) s''
        | _ => False) NoE s₃ := fun s₃ ⟨hs₃, f₃, st₃, le₃, S₃, H, e⟩ => by
    subst e
    refine wpAny_execs_cons ?_
    refine plainObj_wpAny_Assign_Attribute ?_
    obtain ⟨m, ov, hn, hv, e0, vs, ⟨nn, hl⟩, rs⟩ := S₃.var (x := hN) (.tail _ (.head _))
    subst e0
    refine wpAny_Name (load_var hn hv ?_) hd2
    obtain ⟨m', ov', hn', hv', v', e0', r'⟩ := S₃.var (x := sN) (.head _)
    subst e0'
    have e0 := r'.isVal
    subst e0
    refine wpAny_Name (load_var hn' hv' ?_) hd1
    have fxx : f₃ (hh.objs.size + 1) = some (instObj X.C hh.objs.size) := le₃ _ _ (Mp.add_self ..)
    refine set_fresh S₃.k (S₃.sub _ _ fxx) S₃.pinned I.set I.over I.taker I.dict fun h' hsh tt nn hsb hdx => ?_
    have irr := S₃.irr pd0
    have S₄ : Sat X F' _ f₃ (Prot F st₁ P hh) h' := (S₃.unpin pd0 (fun v e => by cases e)).move fun b ob e => by
      by_cases q : b = hh.objs.size
      · subst q; exact .inr irr
      · exact .inl (hsb.extBut b ob q e)
    have S₅ := S₄.freeze hdx irr
    have S₆ := S₅.mkHdr (x := hh.objs.size + 1) (hN := hN) (H := H) (.tail _ (.head _)) (.tail .head) (by rw [Mp.add_ne (Nat.succ_ne_self _)]; exact fxx) (Mp.add_self ..)
    refine wpAny_execs_cons ((h4 F' L (hh.objs.size + 1) H a1 a2 a3 a4 _).then (hs₃.next _ _) S₆ fun fl s₇ f₇ st₇ hs₇ le₇ S₇ q => ?_)
    cases fl with
    | next =>
      refine wpAny_execs_nil ⟨rfl, hs₇, f₇, ⟨st₁.vars, some ⟨hh.objs.size + 1, H, []⟩⟩, ?_, ?_, .val (.ref (hh.objs.size + 1)), .val _, h _ _⟩
      · exact le₁.trans ((Le.add fx0).trans (le₃.trans ((Le.add irr.1).trans le₇)))
      · have C := S₇.toC'
        rw [q] at C
        exact S₁.ofC ((Le.add fx0).trans (le₃.trans ((Le.add irr.1).trans le₇))) C
    | ret v => obtain ⟨d, _, q⟩ := q; exact q.elim
    | _ => exact q.elim
  refine wpAny_execs_cons ((c12 _).then hs₂ S₂ fun fl s₃ f₃ st₃ hs₃ le₃ S₃ q => ?_)
  cases fl with
  | next =>
    refine wpAny_execs_cons ((q f₃).then hs₃ S₃ fun fl s₄ f₄ st₄ hs₄ le₄ S₄ q => ?_)
    cases fl with
    | next => exact key s₄ ⟨hs₄, f₄, st₄, le₂.trans (le₃.trans le₄), S₄, q⟩
    | ret v => obtain ⟨d, _, q⟩ := q; exact q.elim
    | _ => exact q.elim
  | ret v => obtain ⟨d, _, q⟩ := q; exact q.elim
  | _ => exact q.elim
end
end Mine

open PySem PySem.W PyProof.Rows
set_option Elab.async false
set_option maxRecDepth 100000
set_option linter.unusedVariables false
namespace Mine
open PySem.Calls

section
variable {X : Cx} {F : Fm} {st : St} {Q : D → St → Prop} {Qn : St → Prop} {Qr : D → St → Prop} {pos apos : Pos} {f P : Mp}
/-- «x = b if t else []» -/
theorem x_newIf {x : Str} {px p pp : Pos} {t b : Expr} (h : Tst X F t st fun c st₁ => c = false ∧ ∀ a, PutK x (.own a []) st₁.vars fun vs' => Qn ⟨vs', st₁.hdr⟩) : X1 X F (.Assign [.Name x px] (.IfExp t b (.List [] p) pp) pos) st Qn Qr := fun f P s hs S => by
  refine wpAny_Assign_Name ?_
  show wpAny _ _ (isTrue t F.env (eval t F.env) >>= fun c => if c then eval b F.env else eval (.List [] p) F.env) _ _ _
  refine wpAny_bind ((h f).then hs S fun c s₁ f₁ st₁ hs₁ le₁ S₁ ⟨e, q⟩ => ?_)
  subst e
  show wpAny _ _ (do standAt p; newList (← spliced (backTo p (starEach [] F.env)))) _ _ _
  refine wpAny_bind (wpAny_standAt (wpAny_bind (spliced_nil (wpAny_newList ?_ (by decide)))))
  obtain ⟨vs', hput, q⟩ := q s₁.heap.objs.size
  have irr := S₁.fresh
  have S' := S₁.keep (h' := s₁.heap.push { cls := .type "list", data := .seq ([] : List Value).toArray }) fun b o e => Heap.get?_push_of_some _ e
  refine store_ok (s := { s₁ with heap := s₁.heap.push { cls := .type "list", data := .seq ([] : List Value).toArray } }) S' hput ⟨rfl, [], ⟨0, Heap.get?_push_size _ rfl⟩, .nil⟩ (fun a ds e => ?_) fun h' tk S'' => ⟨hs₁.next _ _, f₁, _, le₁, S'', q⟩
  cases e
  exact ⟨irr.1, irr.2.1, fun p hp ds' e => absurd rfl (irr.2.2.2.2.1 p hp _ ds' e), fun d hd e => irr.2.2.2.2.2 d hd e.symm⟩
/-- a list of one's own, read as a bare value -/
theorem e_ownV {x : Str} {a : Addr} {ds : List D} (hm : Has x (.own a ds) st.vars) (h : Q (.val (.ref a)) st) (hd : (x == ("__debug__" : Str)) = false := by decide) : Ev X F (.Name x pos) st Q := fun f P s hs S => by
  obtain ⟨m, ov, hn, hv, e, vs, hl, rs⟩ := S.var hm.mem
  subst e
  exact wpAny_Name (load_var hn hv ⟨hs, _, _, .refl _, S, _, .val _, h⟩) hd
theorem k_typeOwn {x : Str} {a : Addr} {ds : List D} (hm : Has x (.own a ds) st.vars) (h : Q (.val (.type "list")) st) : BltOk X F (.type "type") [.val (.ref a)] st Q := fun f vs rs P s hs S => by
  obtain ⟨v, rfl, r⟩ := rdl1 rs
  have e0 := r.isVal
  subst e0
  obtain ⟨m, ov, hn, hv, e, vs, ⟨n, hl⟩, rs⟩ := S.var hm.mem
  exact call_type_of (x := .ref a) ⟨_, hl, rfl⟩ rfl (.here hs S ⟨_, .val _, h⟩)
/-- a while loop, by an invariant and a measure -/
theorem x_while {test : Expr} {body : List Stmt} (I : Nat → St → Prop) (n : Nat) (h0 : I n st)
    (h : ∀ n st, I n st → Tst X F test st fun c st₁ => Both c (Xs X F body st₁ (fun st₂ => ∃ m, m < n ∧ I m st₂) Qr) (Qn st₁)) : X1 X F (.While test body [] pos) st Qn Qr := fun f P s hs S => by
  refine wpAny_While (codeAny_whileLoop (fun k s' => ∃ f₁ st₁, Same X s' ∧ Le f f₁ ∧ Sat X F st₁ f₁ P s'.heap ∧ I k st₁) (fun k s' ⟨f₁, st₁, hs₁, le₁, S₁, hI⟩ => ?_) n ⟨f, st, hs, .refl f, S, h0⟩)
  refine noE ((h k st₁ hI f₁).then hs₁ S₁ fun c s₂ f₂ st₂ hs₂ le₂ S₂ q => ?_)
  cases c with
  | false => exact wpAny_execs_nil ⟨hs₂, f₂, st₂, le₁.trans le₂, S₂, q.2 rfl⟩
  | true =>
    refine noE ((q.1 rfl f₂).then hs₂ S₂ fun fl s₃ f₃ st₃ hs₃ le₃ S₃ q₃ => ?_)
    cases fl with
    | next => obtain ⟨m, hm, hI'⟩ := q₃; exact ⟨m, hm, f₃, st₃, hs₃, (le₁.trans le₂).trans le₃, S₃, hI'⟩
    | ret v => exact ⟨hs₃, f₃, st₃, (le₁.trans le₂).trans le₃, S₃, q₃⟩
    | brk => exact q₃.elim
    | cont => exact q₃.elim

theorem pyAll_any (d : D) : ∀ l : List D, ((pyAll l).any fun y => PyData.eqv y d.py) = l.any fun y => PyData.eqv y.py d.py
  | [] => rfl
  | a :: r => by rw [pyAll, List.any_cons, List.any_cons, pyAll_any d r]
theorem c_inL {d : D} {l : List D} {B : Bool → St → Prop} (h₁ : d.ok = true) (h₂ : okAll l = true) (hdp : d.py.depth ≤ 30) (h : B (l.any fun y => PyData.eqv y.py d.py) st) : CmpOk X F .In d (.lst l) st B := fun f v₁ v₂ r₁ r₂ P s hs S => by
  obtain ⟨as, q₁⟩ := r₁.reads S.sub h₁
  obtain ⟨bs, q₂⟩ := r₂.reads S.sub (by simpa [D.ok] using h₂)
  rw [D.py] at q₂
  exact SeqAt.in_list_reads q₂ q₁ (ok_layAll _ h₂) (ok_lay _ h₁) (by have := F.units; omega) (.here hs S ⟨_, rfl, by rw [pyAll_any]; exact h⟩)
theorem c_ninL {d : D} {l : List D} {B : Bool → St → Prop} (h₁ : d.ok = true) (h₂ : okAll l = true) (hdp : d.py.depth ≤ 30) (h : B (!l.any fun y => PyData.eqv y.py d.py) st) : CmpOk X F .NotIn d (.lst l) st B := fun f v₁ v₂ r₁ r₂ P s hs S => by
  obtain ⟨as, q₁⟩ := r₁.reads S.sub h₁
  obtain ⟨bs, q₂⟩ := r₂.reads S.sub (by simpa [D.ok] using h₂)
  rw [D.py] at q₂
  exact SeqAt.notIn_list_reads q₂ q₁ (ok_layAll _ h₂) (ok_lay _ h₁) (by have := F.units; omega) (.here hs S ⟨_, rfl, by rw [pyAll_any]; exact h⟩)
end
end Mine

open PySem PySem.W PyProof.Rows
set_option Elab.async false
set_option maxRecDepth 100000
set_option linter.unusedVariables false
namespace Mine
open PySem.Calls
section
variable {X : Cx} {F : Fm} {st : St} {Q : D → St → Prop} {Qn : St → Prop} {Qr : D → St → Prop} {pos apos : Pos} {f P : Mp}
/-- a list of one's own is frozen, in thought alone -/
theorem Sat.frz {h : Heap} (S : Sat X F st f P h) {x : Str} {a : Addr} {ds : List D} {vs' : List (Str × Slot)} (hm : Has x (.own a ds) st.vars) (hput : Put x (.dat (.lst ds)) st.vars vs') : ∃ f', Le f f' ∧ Sat X F ⟨vs', st.hdr⟩ f' P h := by
  obtain ⟨m, ov, hn, hv, e, vs, ⟨n, hl⟩, rs⟩ := S.var hm.mem
  subst e
  obtain ⟨l₁, p1, p2⟩ := hput.via .unset
  have S₁ := S.reslot p1 (fun a ds e => by cases e) (fun _ _ _ _ => trivial)
  have uniq : ∀ p ∈ l₁, ∀ b ds', p.2 = .own b ds' → b ≠ a := fun p hp b ds' e q => by
    subst q
    rcases p1.mem S.names p hp with rfl | ⟨hp, hne⟩
    · cases e
    · exact hne (S.inj p hp _ hm.mem b ds' ds e rfl)
  have irr : Irr F ⟨l₁, st.hdr⟩ f P a := by
    refine ⟨(S.mO _ hm.mem a ds rfl).1, (S.mO _ hm.mem a ds rfl).2, Ne.symm (ns_ne_list hn ⟨n, hl⟩), fun o p hp => ?_, uniq, fun d hd => Ne.symm ((S.mH d hd).2.2 _ hm.mem a ds rfl)⟩
    obtain ⟨v, c⟩ := S.lC o p hp
    exact Ne.symm (cell_ne_list c ⟨n, hl⟩)
  have S₂ := S₁.freeze hl irr
  have r : Rd (Mp.add f a { cls := .type "list", data := .seq vs.toArray n }) (.ref a) (.lst ds) := .lst (Mp.add_self ..) rfl rfl (rs.mono (.add irr.1))
  refine ⟨Mp.add f a { cls := .type "list", data := .seq vs.toArray n }, .add irr.1, ?_⟩
  obtain ⟨m₂, hn₂, hv₂⟩ := S₂.vars
  refine S₂.store_gen p2 (Heap.SameBut.refl F.env.locals h) S₂.mL.1 S₂.mL.2 (S₂.hne fun a vs q => ns_ne_list hn₂ q) S₂.lC (fun a ds e => by cases e) ⟨m, hn, fun p hp => ?_⟩
  rcases p2.mem S₂.names p hp with rfl | ⟨hp, hne⟩
  · exact ⟨_, hv, _, rfl, r⟩
  · rcases p1.mem S.names p hp with rfl | ⟨hp, _⟩
    · exact absurd rfl hne
    · obtain ⟨m', hn', hv'⟩ := S.vars
      have hmm : m' = m := by
        obtain ⟨o, es, ep, g1, g2, g3, g4⟩ := hn
        obtain ⟨o', es', ep', k1, k2, k3, k4⟩ := hn'
        rw [g1] at k1; cases k1
        rw [g2] at k2; cases k2
        funext y; rw [← g4, ← k4]
      subst hmm
      obtain ⟨ov, z1, z2⟩ := hv' p hp
      exact ⟨ov, z1, slot_mono (.add irr.1) z2⟩
theorem x_ghost {c : Stmt} {x : Str} {a : Addr} {ds : List D} (hm : Has x (.own a ds) st.vars) (h : PutK x (.dat (.lst ds)) st.vars fun vs' => X1 X F c ⟨vs', st.hdr⟩ Qn Qr) : X1 X F c st Qn Qr := fun f P s hs S => by
  obtain ⟨vs', hput, q⟩ := h
  obtain ⟨f', le, S'⟩ := S.frz hm hput
  exact (q f').last le hs S'

end
end Mine

open PySem PySem.W PyProof.Rows
set_option Elab.async false
set_option maxRecDepth 100000
set_option linter.unusedVariables false
namespace Mine
open PySem.Calls
theorem in_of {fns ns : List Str} {l : List Str} (hfn : l = fns) (hin : (fns.all fun n => ns.contains n) = true) : ∀ n ∈ l, n ∈ ns := fun n hn => by
  subst hfn
  have := List.all_eq_true.mp hin n hn
  simpa using this
section
variable {X : Cx} {F : Fm} {st : St} {Q : D → St → Prop} {Qn : St → Prop} {Qr : D → St → Prop} {pos apos : Pos} {f P : Mp}
theorem e_cap {x : Str} {d : D} {caps : List (Str × D)} (hc : F.cap = caps) (hm : HasC x d caps) (hk : F.env.kindOf x = some .cell ∨ F.env.kindOf x = some .free) (h : Q d st) (hd : (x == ("__debug__" : Str)) = false := by decide) (hcd : (x == ("__classdict__" : Str)) = false := by decide) : Ev X F (.Name x pos) st Q :=
  Ev.cap (hc ▸ hm.mem) h hk hd hcd
/-- the items of a comprehension's first clause -/
def CDo (X : Cx) (F : Fm) (t : Expr) (ifs : List Expr) (inner : Fm → List D → St → (List D → St → Prop) → Prop) (names : List (Str × NameKind)) (fns ts : List Str) (Q : D → St → Prop) (d : D) (st₁ : St) : Prop :=
  ∃ ds caps, d.items = some ds ∧ ds.length ≤ 1000000 ∧ CapL st₁.vars fns caps ∧ ∀ F' : Fm, F'.lv = F.lv → F'.cap = caps → Knd F' names → CItems X F' t ifs (inner F') (fun acc st' => Q (.lst acc) ⟨st₁.vars, st'.hdr⟩) ds [] ⟨tslots ts, st₁.hdr⟩
theorem cdo {t : Expr} {ifs : List Expr} {inner : Fm → List D → St → (List D → St → Prop) → Prop} {names : List (Str × NameKind)} {fns ts : List Str} {d : D} {st₁ : St} (ds : List D) (caps : List (Str × D)) (h1 : d.items = some ds) (h2 : ds.length ≤ 1000000) (h3 : CapL st₁.vars fns caps)
    (h : ∀ F' : Fm, F'.lv = F.lv → F'.cap = caps → Knd F' names → CItems X F' t ifs (inner F') (fun acc st' => Q (.lst acc) ⟨st₁.vars, st'.hdr⟩) ds [] ⟨tslots ts, st₁.hdr⟩) : CDo X F t ifs inner names fns ts Q d st₁ := ⟨ds, caps, h1, h2, h3, h⟩
theorem comp1' {elt t iter : Expr} {ifs : List Expr} {scope : Scope} {names : List (Str × NameKind)} (ts fns ns : List Str) (kn : Knd F names) (how : F.own = true) (hsc : scOk scope names ts = true) (hfn : freeNames scope.names = fns) (hns : st.vars.map (·.1) = ns) (hin : (fns.all fun n => ns.contains n) = true)
    (hfold : ∀ x, foldedSetIterable iter F.env x = pure x) (h : Ev X F iter st fun d st₁ => CDo X F t ifs (InE X elt) scope.names fns ts Q d st₁) :
    CompOk X F (.ListComp elt [⟨t, iter, ifs, 0⟩] scope pos) [⟨t, iter, ifs, 0⟩] iter scope pos st Q :=
  comp1 kn how (ScOk.of hsc) (by rw [hns]; exact in_of hfn hin) hfold (by rw [hfn]; exact h)
theorem comp2' {elt t iter t' iter' : Expr} {ifs ifs' : List Expr} {scope : Scope} {names : List (Str × NameKind)} (ts fns ns : List Str) (kn : Knd F names) (how : F.own = true) (hsc : scOk scope names ts = true) (hfn : freeNames scope.names = fns) (hns : st.vars.map (·.1) = ns) (hin : (fns.all fun n => ns.contains n) = true)
    (hfold : ∀ x, foldedSetIterable iter F.env x = pure x) (hf : ∀ env x, foldedSetIterable iter' env x = pure x) (h : Ev X F iter st fun d st₁ => CDo X F t ifs (InC X elt t' iter' ifs') scope.names fns ts Q d st₁) :
    CompOk X F (.ListComp elt [⟨t, iter, ifs, 0⟩, ⟨t', iter', ifs', 0⟩] scope pos) [⟨t, iter, ifs, 0⟩, ⟨t', iter', ifs', 0⟩] iter scope pos st Q :=
  comp2 kn how (ScOk.of hsc) (by rw [hns]; exact in_of hfn hin) hfold hf (by rw [hfn]; exact h)
/-- one turn of a clause with a name, a test and an element -/
theorem citems_name {F' : Fm} {x : Str} {px : Pos} {elt : Expr} {ifs : List Expr} {hd : Option Hd} {K : List D → St → Prop} {ds : List D} (p : D → Bool) (g : D → D)
    (hlen : ds.length ≤ 1000000)
    (hc : ∀ d ∈ ds, ∀ B : Bool → St → Prop, B (p d) ⟨[(x, .dat d)], hd⟩ → Ifs X F' ifs ⟨[(x, .dat d)], hd⟩ B)
    (hg : ∀ d ∈ ds, p d = true → ∀ Q : D → St → Prop, Q (g d) ⟨[(x, .dat d)], hd⟩ → Ev X F' elt ⟨[(x, .dat d)], hd⟩ Q)
    (hK : ∀ sl, K ((ds.filter p).map g) ⟨[(x, sl)], hd⟩) : CItems X F' (.Name x px) ifs (InE X elt F') K ds [] ⟨tslots [x], hd⟩ := by
  have hfm : ds.flatMap (fun d => if p d then [g d] else []) = (ds.filter p).map g := by
    clear hlen hc hg hK
    induction ds with
    | nil => rfl
    | cons d ds ih => rw [List.flatMap_cons, ih, List.filter_cons]; split <;> simp
  refine citems_fold (fun st => ∃ sl, st = ⟨[(x, sl)], hd⟩) (fun d => if p d then [g d] else []) ds [] _ (fun d hd' acc st K hgood hl hk => ?_) ⟨.unset, rfl⟩ ?_ (fun st' ⟨sl, e⟩ => by subst e; rw [hfm]; exact hK sl)
  · obtain ⟨sl, rfl⟩ := hgood
    refine a_name ⟨_, .head, hc d hd' _ ?_⟩
    refine both (fun hp => ?_) (fun hp => ?_)
    · refine hg d hd' hp _ ?_
      rw [hp] at hl hk
      exact ⟨by simpa using hl, hk _ ⟨_, rfl⟩⟩
    · rw [hp] at hk
      have := hk ⟨[(x, .dat d)], hd⟩ ⟨_, rfl⟩
      simpa using this
  · rw [hfm]
    have := List.length_filter_le p ds
    simp; omega
end
end Mine

open PySem PySem.W PyProof.Rows
set_option Elab.async false
set_option maxRecDepth 100000
set_option linter.unusedVariables false
namespace Mine
open PySem.Calls
structure FnAt (X : Cx) (x : Str) (fa : Addr) (lv : Nat) : Prop where
  g : nsIn X.K mainGlobals x = some (some (.ref fa))
  k : keepIn X.K (.ref fa) = true
theorem lv1 {F : Fm} {lv n : Nat} (h : F.lv = n) (hl : Nat.ble lv n = true) : lv ≤ F.lv := h ▸ Nat.le_of_ble_eq_true hl
theorem lv2 {F F' : Fm} {lv n : Nat} (h' : F'.lv = F.lv) (h : F.lv = n) (hl : Nat.ble lv n = true) : lv ≤ F'.lv := h' ▸ lv1 h hl
section
variable {X : Cx} {F : Fm} {st : St} {Q : D → St → Prop} {pos : Pos}
theorem e_callF {x : Str} {p : Pos} {fa : Addr} {e : Expr} {rest : List Expr} {lv : Nat} (G : FnAt X x fa lv) (hx : F.env.kindOf x = some .globalImplicit) (hlv : lv ≤ F.lv)
    (h : EvA X F pos (e :: rest) st fun ds st₁ => Fn X lv fa ds [] st₁.hdr fun d hd' => Q d ⟨st₁.vars, hd'⟩)
    (he : starEach (e :: rest) F.env = (false, eval e F.env) :: starEach rest F.env := by with_unfolding_all rfl) (hpl : (backTo pos (starEach rest F.env)).any (·.1) = false := by with_unfolding_all rfl) (hd : (x == ("__debug__" : Str)) = false := by decide) :
    Ev X F (.Call (.Name x p) (e :: rest) [] pos) st Q := Ev.call G.g hx G.k hlv h he hpl hd
theorem e_fc {x : Str} {v : UInt64} (g : ∃ t, nsIn X.K mainGlobals x = some (some (.float v t))) (hx : F.env.kindOf x = some .globalImplicit) (h : Q (.flt v) st) (hd : (x == ("__debug__" : Str)) = false := by decide) : Ev X F (.Name x pos) st Q :=
  let ⟨_, g⟩ := g
  e_globV g (fun _ => Rd.flt _ _) hx h hd
theorem e_blt {x : Str} {v : Value} (b : Blt X x v) (hx : F.env.kindOf x = some .globalImplicit) (h : Q (.val v) st) (hd : (x == ("__debug__" : Str)) = false := by decide) : Ev X F (.Name x pos) st Q := Ev.blt b.g b.b b.n h hx hd
theorem e_gl {x : Str} {v : Value} (he : nsIn X.K mainGlobals x = some (some v)) (hx : F.env.kindOf x = some .globalImplicit) (h : Q (.val v) st) (hd : (x == ("__debug__" : Str)) = false := by decide) : Ev X F (.Name x pos) st Q := Ev.glob he h hx hd
theorem s_lstI {value slice : Expr} {ds : List D} {k : Int} {d : D} (hk : (decide (0 ≤ k) && decide (k < 1000)) = true) (hx : ds[k.toNat]? = some d) (hs : ∀ o i, subscripted slice false o i = operate [o, i] (getItem o i)) (h : Q d st) : SubOk X F value slice (.lst ds) (.int k) st Q := by
  obtain ⟨h1, h2⟩ := Bool.and_eq_true_iff.mp hk
  exact s_lst (of_decide_eq_true h1) (Int.lt_trans (of_decide_eq_true h2) (by decide)) hx h hs
/-! the same rules, what is plain said first -/
section
variable {R : List D → St → Prop} {Qn : St → Prop} {Qr : D → St → Prop} {B : Bool → St → Prop}
theorem evList {es : List Expr} (hsz : Nat.ble es.length 1000 = true) (h : EvA X F pos es st fun ds st' => Q (.lst ds) st') : Ev X F (.List es pos) st Q := Ev.list h (Nat.le_of_ble_eq_true hsz)
theorem evTuple {es : List Expr} {k : Nat} (hsz : Nat.ble es.length 1000 = true) (h : EvA X F pos es st fun ds st' => Q (.tup ds) st') : Ev X F (.Tuple es k pos) st Q := Ev.tuple h (Nat.le_of_ble_eq_true hsz)
end
theorem pow2_sz {n : Int} (h : n ≤ 1000) : (Builtin.Int.intBits 2 : Int) * n ≤ 2 ^ 27 := by
  rw [show ((Builtin.Int.intBits 2 : Nat) : Int) = 2 by decide +kernel]; omega
/-- what an operation gives, and what it asks for -/
inductive BinT : Operator → D → D → Prop → D → Prop
  | addF (a b : UInt64) : BinT .Add (.flt a) (.flt b) True (.flt (Float64.add a b))
  | subF (a b : UInt64) : BinT .Sub (.flt a) (.flt b) True (.flt (Float64.sub a b))
  | mulF (a b : UInt64) : BinT .Mult (.flt a) (.flt b) True (.flt (Float64.mul a b))
  | divF (a b : UInt64) : BinT .Div (.flt a) (.flt b) (Float64.isZero b = false) (.flt (Float64.div a b))
  | modF (a b : UInt64) : BinT .Mod (.flt a) (.flt b) (Float64.isZero b = false) (.flt (Float64.divmod a b).2)
  | addI (a b : Int) : BinT .Add (.int a) (.int b) True (.int (a + b))
  | subI (a b : Int) : BinT .Sub (.int a) (.int b) True (.int (a - b))
  | mulI (a b : Int) : BinT .Mult (.int a) (.int b) (IntMulOk a b) (.int (a * b))
  | modI (a b : Int) : BinT .Mod (.int a) (.int b) (b ≠ 0) (.int (a.fmod b))
  | divI (a b : Int) : BinT .FloorDiv (.int a) (.int b) (b ≠ 0 ∧ b.natAbs < 1073741824) (.int (a.fdiv b))
  | quoI (a b : Int) : BinT .Div (.int a) (.int b) (b ≠ 0 ∧ Float64.isInf (qdiv a b) = false) (.flt (qdiv a b))
  | subFI (a : UInt64) (n : Int) : BinT .Sub (.flt a) (.int n) (n.natAbs < 2 ^ 1023) (.flt (Float64.sub a (Float64.ofInt n)))
  | mulIF (n : Int) (a : UInt64) : BinT .Mult (.int n) (.flt a) (n.natAbs < 2 ^ 1023) (.flt (Float64.mul (Float64.ofInt n) a))
  | subIF (n : Int) (a : UInt64) : BinT .Sub (.int n) (.flt a) (n.natAbs < 2 ^ 1023) (.flt (Float64.sub (Float64.ofInt n) a))
  | powI (n : Int) : BinT .Pow (.int 2) (.int n) (0 ≤ n ∧ n ≤ 1000) (.int (2 ^ n.toNat))
theorem b_gen {op : Operator} {d₁ d₂ d : D} {p : Prop} (t : BinT op d₁ d₂ p d) (hp : p) (h : Q d st) : BinOk X F op d₁ d₂ st Q := by
  cases t with
  | addF => exact b_addF h
  | subF => exact b_subF h
  | mulF => exact b_mulF h
  | divF => exact b_divF hp h
  | modF => exact b_modF hp h
  | addI => exact b_addI h
  | subI => exact b_subI h
  | mulI => exact b_mulI hp h
  | modI => exact b_modI hp h
  | divI => exact b_divI hp.1 hp.2 h
  | quoI => exact b_quoI hp.1 hp.2 h
  | subFI => exact b_subFI hp h
  | mulIF => exact b_mulIF hp h
  | subIF => exact b_subIF hp h
  | powI n => exact b_powI hp.1 (pow2_sz hp.2) h
inductive CmpT : CmpOp → D → D → Bool → Prop
  | ltF (a b : UInt64) : CmpT .Lt (.flt a) (.flt b) (flt a b)
  | leF (a b : UInt64) : CmpT .LtE (.flt a) (.flt b) (fle a b)
  | eqF (a b : UInt64) : CmpT .Eq (.flt a) (.flt b) (feq a b)
  | eqI (a b : Int) : CmpT .Eq (.int a) (.int b) (decide (a = b))
  | ltI (a b : Int) : CmpT .Lt (.int a) (.int b) (decide (a < b))
  | leI (a b : Int) : CmpT .LtE (.int a) (.int b) (decide (a ≤ b))
  | gtI (a b : Int) : CmpT .Gt (.int a) (.int b) (decide (b < a))
  | eqS (a b : Str) : CmpT .Eq (.str a) (.str b) (a == b)
theorem c_gen {op : CmpOp} {d₁ d₂ : D} {b : Bool} {B : Bool → St → Prop} (t : CmpT op d₁ d₂ b) (h : B b st) : CmpOk X F op d₁ d₂ st B := by
  cases t with
  | ltF => exact c_ltF h
  | leF => exact c_leF h
  | eqF => exact c_eqF h
  | eqI => exact c_eqI h
  | ltI => exact c_ltI h
  | leI => exact c_leI h
  | gtI => exact c_gtI h
  | eqS => exact c_eqS h
def constD : Const → Option D
  | .int i => some (.int i)
  | .float x => some (.flt x)
  | .str x => some (.str x)
  | .bool b => some (.bool b)
  | .none => some .none
  | _ => Option.none
theorem Ev.c_any {c : Const} {k : Nat} {d : D} (e : constD c = some d) (h : Q d st) : Ev X F (.Constant c k pos) st Q := by
  cases c with
  | int i => cases e; exact Ev.c_int h
  | float x => cases e; exact Ev.c_flt h
  | str x => cases e; exact Ev.c_str h
  | bool b => cases e; exact Ev.c_bool h
  | none => cases e; exact Ev.c_none h
  | _ => cases e
theorem RdK.inv0 {f : Mp} {kw : List (Str × Value)} (r : RdK f kw []) : kw = [] := List.map_eq_nil_iff.mp r.names
theorem bind1 {hd : Option Hd} {fd : FuncData} {n : Str} {a : D} (hb : ∀ s x, BindsTo s fd ⟨[x], []⟩ [(n, x)]) (f P : Mp) (s : Shared) (vs : List Value) (kw : List (Str × Value)) (_ : SatC X hd f P s.heap) (rs : RdL f vs [a]) (rk : RdK f kw []) : ∃ binds, BindsTo s fd ⟨vs, kw⟩ binds ∧ RdK f binds ([n].zip [a]) := by
  obtain ⟨x, rfl, r⟩ := rdl1 rs
  rw [rk.inv0]
  exact ⟨_, hb _ _, .cons r .nil⟩
theorem bind2 {hd : Option Hd} {fd : FuncData} {n m : Str} {a b : D} (hb : ∀ s x y, BindsTo s fd ⟨[x, y], []⟩ [(n, x), (m, y)]) (f P : Mp) (s : Shared) (vs : List Value) (kw : List (Str × Value)) (_ : SatC X hd f P s.heap) (rs : RdL f vs [a, b]) (rk : RdK f kw []) : ∃ binds, BindsTo s fd ⟨vs, kw⟩ binds ∧ RdK f binds ([n, m].zip [a, b]) := by
  obtain ⟨x, y, rfl, r, r'⟩ := rdl2 rs
  rw [rk.inv0]
  exact ⟨_, hb _ _ _, .cons r (.cons r' .nil)⟩
theorem bind3 {hd : Option Hd} {fd : FuncData} {n m l : Str} {a b c : D} (hb : ∀ s x y z, BindsTo s fd ⟨[x, y, z], []⟩ [(n, x), (m, y), (l, z)]) (f P : Mp) (s : Shared) (vs : List Value) (kw : List (Str × Value)) (_ : SatC X hd f P s.heap) (rs : RdL f vs [a, b, c]) (rk : RdK f kw []) : ∃ binds, BindsTo s fd ⟨vs, kw⟩ binds ∧ RdK f binds ([n, m, l].zip [a, b, c]) := by
  obtain ⟨x, y, z, rfl, r, r', r''⟩ := rdl3 rs
  rw [rk.inv0]
  exact ⟨_, hb _ _ _ _, .cons r (.cons r' (.cons r'' .nil))⟩
end
end Mine

open PySem PySem.W PyProof.Rows
set_option Elab.async false
set_option maxRecDepth 100000
set_option linter.unusedVariables false
namespace Mine
open PySem.Calls
theorem mulL {a b : Int} (h : a.natAbs < 1000000000000) : IntMulOk a b := IntMulOk.of_left (intBits_le_iff.mpr (Nat.lt_trans h (by decide)))
theorem mulR {a b : Int} (h : b.natAbs < 1000000000000) : IntMulOk a b := IntMulOk.of_right (intBits_le_iff.mpr (Nat.lt_trans h (by decide)))
section
variable {X : Cx} {F : Fm} {st : St} {Q : D → St → Prop} {pos : Pos}
theorem loop_inv {t : Expr} {body : List Stmt} {Qn : St → Prop} {Qr : D → St → Prop} (Inv : List D → St → Prop)
    (hstep : ∀ d ds st, Inv (d :: ds) st → Asg X F t d st fun st₁ => Xs X F body st₁ (fun st₂ => Inv ds st₂) Qr) (hend : ∀ st, Inv [] st → Qn st) : ∀ (ds : List D) (st : St), Inv ds st → Loop X F t body Qn Qr ds st
  | [], st, h => hend st h
  | d :: ds, st, h => fun f v r => (hstep d ds st h f v r).mono fun _ st₁ f₁ _ q => q.mono (fun _ q => loop_inv Inv hstep hend ds _ q) fun _ _ q => q
theorem loopJ_inv {J : St → Prop} {t : Expr} {body : List Stmt} {Qn : St → Prop} {Qr : D → St → Prop} (Inv : List D → St → Prop) (hJ : ∀ ds st, Inv ds st → J st)
    (hstep : ∀ d ds st, Inv (d :: ds) st → Asg X F t d st fun st₁ => Xs X F body st₁ (fun st₂ => Inv ds st₂) Qr) (hend : ∀ st, Inv [] st → Qn st) : ∀ (ds : List D) (st : St), Inv ds st → LoopJ X F J t body Qn Qr ds st
  | [], st, h => ⟨hJ _ _ h, hend st h⟩
  | d :: ds, st, h => ⟨hJ _ _ h, fun f v r => (hstep d ds st h f v r).mono fun _ st₁ f₁ _ q => q.mono (fun _ q => loopJ_inv Inv hJ hstep hend ds _ q) fun _ _ q => q⟩
theorem x_subI {x : Str} {px : Pos} {e : Expr} {a : Int} {Qn : St → Prop} {Qr : D → St → Prop} (hx : Has x (.dat (.int a)) st.vars) (h : Ev X F e st fun d st₁ => ∃ b, d = .int b ∧ PutK x (.dat (.int (a - b))) st₁.vars fun vs' => Qn ⟨vs', st₁.hdr⟩) :
    X1 X F (.AugAssign (.Name x px) .Sub e pos) st Qn Qr := x_aug hx fun f => (h f).mono fun v st' f' _ ⟨d, r, b, e, q⟩ => ⟨d, r, fun f v₁ v₂ r₁ r₂ => i_subI r₁ (e ▸ r₂) fun t => ⟨_, .int _ _, q⟩⟩
end
end Mine

open PySem PySem.W PyProof.Rows
set_option Elab.async false
set_option maxRecDepth 100000
set_option linter.unusedVariables false
namespace Mine
/-- the floats of colorsys -/
def vF (m1 m2 hue₀ : UInt64) : UInt64 :=
  let hue := (Float64.divmod hue₀ 4607182418800017408).2
  if flt hue 4595172819793696085 then Float64.add m1 (Float64.mul (Float64.mul (Float64.sub m2 m1) hue) 4618441417868443648)
  else if flt hue 4602678819172646912 then m2
  else if flt hue 4604180019048437077 then Float64.add m1 (Float64.mul (Float64.mul (Float64.sub m2 m1) (Float64.sub 4604180019048437077 hue)) 4618441417868443648)
  else m1
structure T3 where
  a : UInt64
  b : UInt64
  c : UInt64
def T3.d (t : T3) : D := .tup [.flt t.a, .flt t.b, .flt t.c]
def hueF (r g b maxc rangec : UInt64) : UInt64 :=
  let rc := Float64.div (Float64.sub maxc r) rangec
  let gc := Float64.div (Float64.sub maxc g) rangec
  let bc := Float64.div (Float64.sub maxc b) rangec
  let h := if feq r maxc then Float64.sub bc gc else if feq g maxc then Float64.sub (Float64.add 4611686018427387904 rc) bc else Float64.sub (Float64.add 4616189618054758400 gc) rc
  (Float64.divmod (Float64.div h 4618441417868443648) 4607182418800017408).2
def toHls (r g b : UInt64) : T3 :=
  let maxc := fmax3 r g b
  let minc := fmin3 r g b
  let sumc := Float64.add maxc minc
  let rangec := Float64.sub maxc minc
  let l := Float64.div sumc 4611686018427387904
  if feq minc maxc then ⟨0, l, 0⟩ else
    ⟨hueF r g b maxc rangec, l, if fle l 4602678819172646912 then Float64.div rangec sumc else Float64.div rangec (Float64.sub (Float64.sub 4611686018427387904 maxc) minc)⟩
structure HlsOk (r g b : UInt64) : Prop where
  rng : feq (fmin3 r g b) (fmax3 r g b) = false → Float64.isZero (Float64.sub (fmax3 r g b) (fmin3 r g b)) = false
  lo : feq (fmin3 r g b) (fmax3 r g b) = false → fle (Float64.div (Float64.add (fmax3 r g b) (fmin3 r g b)) 4611686018427387904) 4602678819172646912 = true → Float64.isZero (Float64.add (fmax3 r g b) (fmin3 r g b)) = false
  hi : feq (fmin3 r g b) (fmax3 r g b) = false → fle (Float64.div (Float64.add (fmax3 r g b) (fmin3 r g b)) 4611686018427387904) 4602678819172646912 = false → Float64.isZero (Float64.sub (Float64.sub 4611686018427387904 (fmax3 r g b)) (fmin3 r g b)) = false
def ofHls (h l s : UInt64) : T3 :=
  if feq s 0 then ⟨l, l, l⟩ else
    let m2 := if fle l 4602678819172646912 then Float64.mul l (Float64.add 4607182418800017408 s) else Float64.sub (Float64.add l s) (Float64.mul l s)
    let m1 := Float64.sub (Float64.mul 4611686018427387904 l) m2
    ⟨vF m1 m2 (Float64.add h 4599676419421066581), vF m1 m2 h, vF m1 m2 (Float64.sub h 4599676419421066581)⟩
def toHsv (r g b : UInt64) : T3 :=
  let maxc := fmax3 r g b
  let minc := fmin3 r g b
  let rangec := Float64.sub maxc minc
  if feq minc maxc then ⟨0, 0, maxc⟩ else ⟨hueF r g b maxc rangec, Float64.div rangec maxc, maxc⟩
structure HsvOk (r g b : UInt64) : Prop where
  rng : feq (fmin3 r g b) (fmax3 r g b) = false → Float64.isZero (Float64.sub (fmax3 r g b) (fmin3 r g b)) = false
  mx : feq (fmin3 r g b) (fmax3 r g b) = false → Float64.isZero (fmax3 r g b) = false
def ofHsv (h s v : UInt64) : T3 :=
  if feq s 0 then ⟨v, v, v⟩ else
    let h6 := Float64.mul h 4618441417868443648
    let i := trunc h6
    let f := Float64.sub h6 (Float64.ofInt i)
    let p := Float64.mul v (Float64.sub 4607182418800017408 s)
    let q := Float64.mul v (Float64.sub 4607182418800017408 (Float64.mul s f))
    let t := Float64.mul v (Float64.sub 4607182418800017408 (Float64.mul s (Float64.sub 4607182418800017408 f)))
    let i := i.fmod 6
    if i = 0 then ⟨v, t, p⟩ else if i = 1 then ⟨q, v, p⟩ else if i = 2 then ⟨p, v, t⟩ else if i = 3 then ⟨p, q, v⟩ else if i = 4 then ⟨t, p, v⟩ else ⟨v, p, q⟩
structure OfHsvOk (h : UInt64) : Prop where
  fin : Float64.isFinite (Float64.mul h 4618441417868443648) = true
  sml : (trunc (Float64.mul h 4618441417868443648)).natAbs < 2 ^ 1023
end Mine

open PySem PySem.W PyProof.Rows
set_option Elab.async false
set_option compiler.extract_closed false
set_option maxRecDepth 100000
set_option maxHeartbeats 8000000
set_option linter.unusedVariables false
namespace Mine
open PySem.Calls
def dummy (r : OpenLaw) (k : Params → Frag) : Prop := True
theorem fillIt : dummy PySem.Challenge.rw_pe0241_01 heap3 := by
  k_fill
  trivial
structure CC (X : Cx) : Prop where
  k : X.K = heap3 X.w.params
  c : X.C = 171
section
variable {X : Cx} (C : CC X)
include C
theorem g_ONE_THIRD : ∃ t, nsIn X.K mainGlobals "ONE_THIRD" = some (some (.float 4599676419421066581 t)) := ⟨_, by rw [C.k]; k_is⟩
theorem g_ONE_SIXTH : ∃ t, nsIn X.K mainGlobals "ONE_SIXTH" = some (some (.float 4595172819793696085 t)) := ⟨_, by rw [C.k]; k_is⟩
theorem g_TWO_THIRD : ∃ t, nsIn X.K mainGlobals "TWO_THIRD" = some (some (.float 4604180019048437077 t)) := ⟨_, by rw [C.k]; k_is⟩
theorem f_rgb_to_hls : FnAt X "rgb_to_hls" 182 1 := ⟨by rw [C.k]; k_is, by rw [C.k]; k_is⟩
theorem f_hls_to_rgb : FnAt X "hls_to_rgb" 189 2 := ⟨by rw [C.k]; k_is, by rw [C.k]; k_is⟩
theorem f__v : FnAt X "_v" 196 1 := ⟨by rw [C.k]; k_is, by rw [C.k]; k_is⟩
theorem f_rgb_to_hsv : FnAt X "rgb_to_hsv" 203 1 := ⟨by rw [C.k]; k_is, by rw [C.k]; k_is⟩
theorem f_hsv_to_rgb : FnAt X "hsv_to_rgb" 210 1 := ⟨by rw [C.k]; k_is, by rw [C.k]; k_is⟩
theorem f__law_spot : FnAt X "_law_spot" 217 1 := ⟨by rw [C.k]; k_is, by rw [C.k]; k_is⟩
theorem f__law_rounded : FnAt X "_law_rounded" 222 1 := ⟨by rw [C.k]; k_is, by rw [C.k]; k_is⟩
theorem f__law_drawn : FnAt X "_law_drawn" 229 2 := ⟨by rw [C.k]; k_is, by rw [C.k]; k_is⟩
theorem f__law_turned : FnAt X "_law_turned" 236 3 := ⟨by rw [C.k]; k_is, by rw [C.k]; k_is⟩
theorem f__law_read : FnAt X "_law_read" 241 1 := ⟨by rw [C.k]; k_is, by rw [C.k]; k_is⟩
theorem f__law_plain : FnAt X "_law_plain" 248 1 := ⟨by rw [C.k]; k_is, by rw [C.k]; k_is⟩
theorem f__law_firsts : FnAt X "_law_firsts" 253 1 := ⟨by rw [C.k]; k_is, by rw [C.k]; k_is⟩
theorem f_law : FnAt X "law" 258 4 := ⟨by rw [C.k]; k_is, by rw [C.k]; k_is⟩
theorem b_max : Blt X "max" (.builtin "max") := ⟨by rw [C.k]; k_is, by kernel_rfl, by decide⟩
theorem b_min : Blt X "min" (.builtin "min") := ⟨by rw [C.k]; k_is, by kernel_rfl, by decide⟩
theorem b_int : Blt X "int" (.type "int") := ⟨by rw [C.k]; k_is, by kernel_rfl, by decide⟩
theorem b_str : Blt X "str" (.type "str") := ⟨by rw [C.k]; k_is, by kernel_rfl, by decide⟩
theorem b_len : Blt X "len" (.builtin "len") := ⟨by rw [C.k]; k_is, by kernel_rfl, by decide⟩
theorem b_range : Blt X "range" (.type "range") := ⟨by rw [C.k]; k_is, by kernel_rfl, by decide⟩
theorem b_type : Blt X "type" (.type "type") := ⟨by rw [C.k]; k_is, by kernel_rfl, by decide⟩
theorem b_list : Blt X "list" (.type "list") := ⟨by rw [C.k]; k_is, by kernel_rfl, by decide⟩
theorem re_name : ReAt X.K 43 nameCode := ⟨_, _, _, _, _, _, _, _, _, _, by rw [C.k]; k_is, by rw [C.k]; k_is, by decide +kernel⟩
theorem g_name_re : nsIn X.K mainGlobals "_name_disallowed_re" = some (some (.ref 43)) := by rw [C.k]; k_is
theorem re_value : ReAt X.K 48 valueCode := ⟨_, _, _, _, _, _, _, _, _, _, by rw [C.k]; k_is, by rw [C.k]; k_is, by decide +kernel⟩
theorem g_value_re : nsIn X.K mainGlobals "_value_disallowed_re" = some (some (.ref 48)) := by rw [C.k]; k_is
theorem cls_ok : ClsOk X := ⟨by rw [C.k, C.c]; k_is, by rw [C.k, C.c]; k_is, by rw [C.k, C.c]; k_is⟩
theorem m__convert_string_type : MethOk X "_convert_string_type" 70 := ⟨by rw [C.k, C.c]; k_is, by rw [C.k]; k_is, by rw [C.k]; k_is, by decide⟩
theorem m_get : MethOk X "get" 118 := ⟨by rw [C.k, C.c]; k_is, by rw [C.k]; k_is, by rw [C.k]; k_is, by decide⟩
theorem m_items : MethOk X "items" 135 := ⟨by rw [C.k, C.c]; k_is, by rw [C.k]; k_is, by rw [C.k]; k_is, by decide⟩
theorem m_setdefault : MethOk X "setdefault" 161 := ⟨by rw [C.k, C.c]; k_is, by rw [C.k]; k_is, by rw [C.k]; k_is, by decide⟩
theorem init_ok : InitOk X "Headers" 63 := ⟨by rw [C.k, C.c]; k_is, by rw [C.k, C.c]; k_is, by rw [C.k, C.c]; k_is, by rw [C.k, C.c]; k_is, by rw [C.k]; k_is, by rw [C.k, C.c]; k_is, by rw [C.k, C.c]; k_is, by rw [C.k, C.c]; k_is, by rw [C.k, C.c]; k_is⟩
end
end Mine

open PySem PySem.W PyProof.Rows
set_option Elab.async false
set_option compiler.extract_closed false
set_option maxRecDepth 100000
set_option maxHeartbeats 8000000
set_option linter.unusedVariables false
namespace Mine
open PySem.Calls
theorem fill_L : dummy PySem.Challenge.rw_pe0241_01 heap3 := by
  k_fill
  trivial
local macro_rules | `(tactic| walk_at "m_at") => `(tactic| with_reducible repeat' first | exact Has.head | exact Put.head | exact HasC.head | apply Has.tail | apply Put.tail | apply HasC.tail)
local macro_rules | `(tactic| walk_at "m_knd") => `(tactic| ((first | refine Knd.glob (by assumption) _ ?_ | refine Knd.free (by assumption) _ ?_); decide +kernel))
local macro_rules | `(tactic| walk_at "m_lv") => `(tactic| (first | (refine lv1 (by assumption) ?_; decide +kernel) | (refine lv2 (by assumption) (by assumption) ?_; decide +kernel)))
local macro_rules | `(tactic| walk_at "m_nm") => `(tactic| first
  | refine e_name (by walk_at "m_at") ?_
  | refine e_cap (by assumption) (by walk_at "m_at") (by walk_at "m_knd") ?_
  | refine e_fc (by walk_at "m_fc") (by walk_at "m_knd") ?_
  | refine e_blt (by walk_at "m_fb") (by walk_at "m_knd") ?_
  | refine e_gl (by walk_at "m_gl") (by walk_at "m_knd") ?_)
local macro_rules | `(tactic| walk_at "m_call") => `(tactic| first
  | refine e_callF (by walk_at "m_fa") (by walk_at "m_knd") (by walk_at "m_lv") ?_
  | refine e_callB (by walk_at "m_fb") (by walk_at "m_knd") ?_)
local macro_rules | `(tactic| walk_at "m_div") => `(tactic| first | assumption | decide +kernel | exact HlsOk.rng (by assumption) (by assumption) | exact HlsOk.lo (by assumption) (by assumption) (by assumption) | exact HlsOk.hi (by assumption) (by assumption) (by assumption) | exact HsvOk.rng (by assumption) (by assumption) | exact HsvOk.mx (by assumption) (by assumption) | exact OfHsvOk.sml (by assumption) | exact OfHsvOk.fin (by assumption) | exact IntMulOk.of_left (by decide) | exact mulL (by omega) | exact mulR (by omega) | exact ⟨by omega, by omega⟩)
local macro_rules | `(tactic| walk_at "m_ev") => `(tactic| first
  | ((with_reducible show Ev ..); first
    | ((with_reducible show Ev _ _ (Expr.Name ..) ..); walk_at "m_nm")
    | ((with_reducible show Ev _ _ (Expr.Call (Expr.Name ..) ..) ..); walk_at "m_call")
    | ((with_reducible show Ev _ _ (Expr.BinOp ..) ..); refine Ev.binop ?_)
    | ((with_reducible show Ev _ _ (Expr.Constant ..) ..); refine Ev.c_any rfl ?_)
    | ((with_reducible show Ev _ _ (Expr.Compare ..) ..); refine Ev.cmp ?_)
    | ((with_reducible show Ev _ _ (Expr.Tuple ..) ..); refine evTuple rfl ?_)
    | ((with_reducible show Ev _ _ (Expr.List ..) ..); refine evList rfl ?_)
    | ((with_reducible show Ev _ _ (Expr.IfExp ..) ..); refine e_ifexp ?_)
    | ((with_reducible show Ev _ _ (Expr.Subscript ..) ..); walk_at "m_sub"))
  | ((with_reducible show EvA _ _ _ [] ..); refine EvA.nil ?_)
  | ((with_reducible show EvA ..); refine EvA.cons ?_)
  | ((with_reducible show BinOk ..); refine b_gen (by constructor) (by walk_at "m_div") ?_)
  | ((with_reducible show CmpOk ..); refine c_gen (by constructor) ?_)
  | ((with_reducible show BltOk ..); walk_at "m_blt")
  | ((with_reducible show SubOk ..); walk_at "m_subok")
  | ((with_reducible show Xs _ _ [] ..); refine Xs.nil ?_)
  | ((with_reducible show Xs ..); refine Xs.cons ?_)
  | ((with_reducible show X1 ..); first
    | ((with_reducible show X1 _ _ (Stmt.Assign [Expr.Name ..] (Expr.List [] _) _) ..); refine x_new (fun a => ?_))
    | ((with_reducible show X1 _ _ (Stmt.Assign [Expr.Name ..] ..) ..); refine x_assign ?_)
    | ((with_reducible show X1 _ _ (Stmt.Assign ..) ..); refine X1.assignT ?_)
    | ((with_reducible show X1 _ _ (Stmt.Return ..) ..); refine X1.ret ?_)
    | ((with_reducible show X1 _ _ (Stmt.If ..) ..); refine x_if ?_))
  | ((with_reducible show Asg ..); first
    | ((with_reducible show Asg _ _ (Expr.Name ..) ..); refine a_name ?_)
    | ((with_reducible show Asg _ _ _ (D.tup _) ..); refine Asg.tupT rfl rfl ?_)
    | refine Asg.tupL rfl rfl ?_)
  | ((with_reducible show Asgs _ _ [] ..); refine Asgs.nil ?_)
  | ((with_reducible show Asgs ..); refine Asgs.cons ?_)
  | ((with_reducible show PutK ..); apply putK; (case h => walk_at "m_at"))
  | ((with_reducible show Tst _ _ (Expr.Compare ..) ..); refine Tst.cmp ?_)
  | ((with_reducible show Tst _ _ (Expr.Name ..) ..); refine Tst.plain (fun _ _ => rfl) ?_))
local macro_rules | `(tactic| walk_at "m_both") => `(tactic| ((with_reducible show Both ..); refine both (fun hc => ?_) (fun hc => ?_)))
local macro_rules | `(tactic| walk_at "m_blt") => `(tactic| first | refine k_max3F ?_ | refine k_min3F ?_ | refine k_intF (by walk_at "m_div") ?_)
local macro_rules | `(tactic| walk_at "m_fa") => `(tactic| ((first | apply f_rgb_to_hls | apply f_hls_to_rgb | apply f__v | apply f_rgb_to_hsv | apply f_hsv_to_rgb | apply f__law_spot | apply f__law_rounded | apply f__law_drawn | apply f__law_turned | apply f__law_read | apply f__law_plain | apply f__law_firsts) <;> assumption))
local macro_rules | `(tactic| walk_at "m_fb") => `(tactic| ((first | apply b_max | apply b_min | apply b_int | apply b_str | apply b_len | apply b_range | apply b_type | apply b_list) <;> assumption))
local macro_rules | `(tactic| walk_at "m_fc") => `(tactic| ((first | apply g_ONE_THIRD | apply g_ONE_SIXTH | apply g_TWO_THIRD) <;> assumption))
local macro_rules | `(tactic| walk_at "m_gl") => `(tactic| ((first | apply g_name_re | apply g_value_re) <;> assumption))
section
theorem v_ct {X : Cx} (C : CC X) (m1 m2 hue : UInt64) {hd : Option Hd} {R : D → Option Hd → Prop} (h : R (.flt (vF m1 m2 hue)) hd) : Fn X 1 196 [.flt m1, .flt m2, .flt hue] [] hd R := by
  refine fn_enter [Str.ofString "m1", Str.ofString "m2", Str.ofString "hue"] [.flt m1, .flt m2, .flt hue] [] (by rw [C.k]; k_is) (by rw [C.k]; k_is) rfl ?_ (by decide +kernel) (by decide +kernel) (by intro n; exact List.nodup_nil) ?_
  · exact bind3 fun _ _ _ _  => BindsTo.of_eq (by rfl)
  intro F L h1 h2 h3 h4
  have kn := Knd.of h4
  clear h4
  show Xs X F (_ :: _) ⟨[(Str.ofString "m1", .dat (.flt m1)), (Str.ofString "m2", .dat (.flt m2)), (Str.ofString "hue", .dat (.flt hue))], hd⟩ _ _
  repeat' first | walk_at "m_ev" | walk_at "m_both"
  all_goals (show R _ hd; simpa only [vF, *, if_true, Bool.false_eq_true, if_false] using h)

theorem ofHls_ct {X : Cx} (C : CC X) (hh l s : UInt64) {hd : Option Hd} {R : D → Option Hd → Prop} (h : R (ofHls hh l s).d hd) : Fn X 2 189 [.flt hh, .flt l, .flt s] [] hd R := by
  refine fn_enter [Str.ofString "h", Str.ofString "l", Str.ofString "s"] [.flt hh, .flt l, .flt s] [Str.ofString "m2", Str.ofString "m1"] (by rw [C.k]; k_is) (by rw [C.k]; k_is) rfl ?_ (by decide +kernel) (by decide +kernel) (by intro n; exact List.nodup_nil) ?_
  · exact bind3 fun _ _ _ _  => BindsTo.of_eq (by rfl)
  intro F L h1 h2 h3 h4
  have kn := Knd.of h4
  clear h4
  show Xs X F (_ :: _) ⟨[(Str.ofString "h", .dat (.flt hh)), (Str.ofString "l", .dat (.flt l)), (Str.ofString "s", .dat (.flt s)), (Str.ofString "m2", .unset), (Str.ofString "m1", .unset)], hd⟩ _ _
  repeat' first | walk_at "m_ev" | walk_at "m_both" | ((with_reducible show Fn ..); refine v_ct C _ _ _ ?_)
  all_goals (show R _ hd; simpa only [ofHls, T3.d, *, if_true, Bool.false_eq_true, if_false] using h)

theorem toHls_ct {X : Cx} (C : CC X) (r g b : UInt64) (ok : HlsOk r g b) {hd : Option Hd} {R : D → Option Hd → Prop} (h : R (toHls r g b).d hd) : Fn X 1 182 [.flt r, .flt g, .flt b] [] hd R := by
  refine fn_enter [Str.ofString "r", Str.ofString "g", Str.ofString "b"] [.flt r, .flt g, .flt b] [Str.ofString "maxc", Str.ofString "minc", Str.ofString "sumc", Str.ofString "rangec", Str.ofString "l", Str.ofString "s", Str.ofString "rc", Str.ofString "gc", Str.ofString "bc", Str.ofString "h"] (by rw [C.k]; k_is) (by rw [C.k]; k_is) rfl ?_ (by decide +kernel) (by decide +kernel) (by intro n; exact List.nodup_nil) ?_
  · exact bind3 fun _ _ _ _  => BindsTo.of_eq (by rfl)
  intro F L h1 h2 h3 h4
  have kn := Knd.of h4
  clear h4
  show Xs X F (_ :: _) ⟨[(Str.ofString "r", .dat (.flt r)), (Str.ofString "g", .dat (.flt g)), (Str.ofString "b", .dat (.flt b)), (Str.ofString "maxc", .unset), (Str.ofString "minc", .unset), (Str.ofString "sumc", .unset), (Str.ofString "rangec", .unset), (Str.ofString "l", .unset), (Str.ofString "s", .unset), (Str.ofString "rc", .unset), (Str.ofString "gc", .unset), (Str.ofString "bc", .unset), (Str.ofString "h", .unset)], hd⟩ _ _
  repeat' first | walk_at "m_ev" | walk_at "m_both"
  all_goals (show R _ hd; simpa only [toHls, hueF, T3.d, *, if_true, Bool.false_eq_true, if_false] using h)
theorem toHsv_ct {X : Cx} (C : CC X) (r g b : UInt64) (ok : HsvOk r g b) {hd : Option Hd} {R : D → Option Hd → Prop} (h : R (toHsv r g b).d hd) : Fn X 1 203 [.flt r, .flt g, .flt b] [] hd R := by
  refine fn_enter [Str.ofString "r", Str.ofString "g", Str.ofString "b"] [.flt r, .flt g, .flt b] [Str.ofString "maxc", Str.ofString "minc", Str.ofString "rangec", Str.ofString "v", Str.ofString "s", Str.ofString "rc", Str.ofString "gc", Str.ofString "bc", Str.ofString "h"] (by rw [C.k]; k_is) (by rw [C.k]; k_is) rfl ?_ (by decide +kernel) (by decide +kernel) (by intro n; exact List.nodup_nil) ?_
  · exact bind3 fun _ _ _ _  => BindsTo.of_eq (by rfl)
  intro F L h1 h2 h3 h4
  have kn := Knd.of h4
  clear h4
  show Xs X F (_ :: _) ⟨[(Str.ofString "r", .dat (.flt r)), (Str.ofString "g", .dat (.flt g)), (Str.ofString "b", .dat (.flt b)), (Str.ofString "maxc", .unset), (Str.ofString "minc", .unset), (Str.ofString "rangec", .unset), (Str.ofString "v", .unset), (Str.ofString "s", .unset), (Str.ofString "rc", .unset), (Str.ofString "gc", .unset), (Str.ofString "bc", .unset), (Str.ofString "h", .unset)], hd⟩ _ _
  repeat' first | walk_at "m_ev" | walk_at "m_both"
  all_goals (show R _ hd; simpa only [toHsv, hueF, T3.d, *, if_true, Bool.false_eq_true, if_false] using h)
theorem ofHsv_ct {X : Cx} (C : CC X) (hh s v : UInt64) (ok : feq s 0 = false → OfHsvOk hh) {hd : Option Hd} {R : D → Option Hd → Prop} (h : R (ofHsv hh s v).d hd) : Fn X 1 210 [.flt hh, .flt s, .flt v] [] hd R := by
  refine fn_enter [Str.ofString "h", Str.ofString "s", Str.ofString "v"] [.flt hh, .flt s, .flt v] [Str.ofString "i", Str.ofString "f", Str.ofString "p", Str.ofString "q", Str.ofString "t"] (by rw [C.k]; k_is) (by rw [C.k]; k_is) rfl ?_ (by decide +kernel) (by decide +kernel) (by intro n; exact List.nodup_nil) ?_
  · exact bind3 fun _ _ _ _  => BindsTo.of_eq (by rfl)
  intro F L h1 h2 h3 h4
  have kn := Knd.of h4
  clear h4
  show Xs X F (_ :: _) ⟨[(Str.ofString "h", .dat (.flt hh)), (Str.ofString "s", .dat (.flt s)), (Str.ofString "v", .dat (.flt v)), (Str.ofString "i", .unset), (Str.ofString "f", .unset), (Str.ofString "p", .unset), (Str.ofString "q", .unset), (Str.ofString "t", .unset)], hd⟩ _ _
  refine Xs.cons (x_if (Tst.cmp ?_))
  repeat' walk_at "m_ev"
  refine both (fun hc => ?_) (fun hc => ?_)
  · repeat' walk_at "m_ev"
    show R _ hd; simpa only [ofHsv, T3.d, *, if_true, Bool.false_eq_true, if_false] using h
  have ok' := ok hc
  have lo : 0 ≤ (trunc (Float64.mul hh 4618441417868443648)).fmod 6 := Int.fmod_nonneg_of_pos _ (by decide)
  have up : (trunc (Float64.mul hh 4618441417868443648)).fmod 6 < 6 := Int.fmod_lt_of_pos _ (by decide)
  repeat' first | walk_at "m_ev" | walk_at "m_both"
  all_goals simp only [decide_eq_true_eq, decide_eq_false_iff_not] at *
  all_goals first
    | (exfalso; omega)
    | (show R _ hd; simpa only [ofHsv, T3.d, *, if_true, Bool.false_eq_true, if_false, Int.reduceEq, reduceIte] using h)
end
section
structure Sp where
  h : Int
  s : Int
  l : Int
def Sp.d (p : Sp) : D := .tup [.int p.h, .int p.s, .int p.l]
def shOf (n : Int) : Int := 2 - (n.fdiv 8).fmod 3
def lvOf (n : Int) : Int := 2 - (n.fdiv 24).fmod 3
def spotOf (n p : Int) : Sp := if shOf n * lvOf n = 0 then ⟨0, 0, lvOf n⟩ else ⟨n.fmod p, shOf n, lvOf n⟩
theorem slv_rng (n : Int) : (0 ≤ shOf n ∧ shOf n ≤ 2) ∧ 0 ≤ lvOf n ∧ lvOf n ≤ 2 := by
  have h : ∀ m : Int, 0 ≤ m.fmod 3 ∧ m.fmod 3 < 3 := fun m => ⟨Int.fmod_nonneg_of_pos _ (by decide), Int.fmod_lt_of_pos _ (by decide)⟩
  have a := h (n.fdiv 8); have b := h (n.fdiv 24)
  unfold shOf lvOf; omega
theorem spot_ct {X : Cx} (C : CC X) (n p : Int) (hp : p ≠ 0) {hd : Option Hd} {R : D → Option Hd → Prop} (h : R (spotOf n p).d hd) : Fn X 1 217 [.int n, .int p] [] hd R := by
  refine fn_enter [Str.ofString "number", Str.ofString "parts"] [.int n, .int p] [Str.ofString "share", Str.ofString "level"] (by rw [C.k]; k_is) (by rw [C.k]; k_is) rfl ?_ (by decide +kernel) (by decide +kernel) (by intro n; exact List.nodup_nil) ?_
  · exact bind2 fun _ _ _ => BindsTo.of_eq (by rfl)
  intro F L h1 h2 h3 h4
  have kn := Knd.of h4
  clear h4
  show Xs X F (_ :: _) ⟨[(Str.ofString "number", .dat (.int n)), (Str.ofString "parts", .dat (.int p)), (Str.ofString "share", .unset), (Str.ofString "level", .unset)], hd⟩ _ _
  unfold spotOf at h
  repeat' walk_at "m_ev"
  rw [show 2 - (n.fdiv 8).fmod 3 = shOf n from rfl]
  repeat' walk_at "m_ev"
  rw [show 2 - (n.fdiv 24).fmod 3 = lvOf n from rfl]
  have sl := slv_rng n
  repeat' walk_at "m_ev"
  refine both (fun hb => ?_) (fun hb => ?_)
  · rw [if_pos (of_decide_eq_true hb)] at h
    repeat' walk_at "m_ev"
    exact h
  · rw [if_neg (of_decide_eq_false hb)] at h
    repeat' walk_at "m_ev"
    exact h
def rnd (x : UInt64) : Int := trunc (Float64.add (Float64.mul (Float64.ofInt 16) x) 4602678819172646912)
def RndOk (x : UInt64) : Prop := Float64.isFinite (Float64.add (Float64.mul (Float64.ofInt 16) x) 4602678819172646912) = true
def T3.rnd (t : T3) : List Int := [Mine.rnd t.a, Mine.rnd t.b, Mine.rnd t.c]
def T3.ok (t : T3) : Prop := RndOk t.a ∧ RndOk t.b ∧ RndOk t.c
theorem rounded_ct {X : Cx} (C : CC X) (t : T3) (ok : t.ok) {hd : Option Hd} {R : D → Option Hd → Prop} (h : R (.lst (t.rnd.map .int)) hd) : Fn X 1 222 [t.d] [] hd R := by
  refine fn_enter [Str.ofString "painted"] [t.d] [] (by rw [C.k]; k_is) (by rw [C.k]; k_is) rfl ?_ (by decide +kernel) (by decide +kernel) (by intro n; exact List.nodup_nil) ?_
  · exact bind1 fun _ _ => BindsTo.of_eq (by rfl)
  intro F L h1 h2 h3 h4
  have kn := Knd.of h4
  clear h4
  show Xs X F (_ :: _) ⟨[(Str.ofString "painted", .dat t.d)], hd⟩ _ _
  refine Xs.cons (X1.ret (e_comp (comp1' [Str.ofString "part"] [] [Str.ofString "painted"] kn h2 (by decide +kernel) (by decide +kernel) rfl (by decide +kernel) (by intro _; rfl) ?_)))
  walk_at "m_ev"
  refine cdo [.flt t.a, .flt t.b, .flt t.c] [] rfl (by simp) .nil fun F' l1 l2 l3 => ?_
  refine citems_name (fun _ => true) (fun d => match d with | .flt x => .int (rnd x) | _ => .none) (by simp) (fun d hd B hB => hB) (fun d hd' hp Q hQ => ?_) (fun sl => ?_)
  · have hx : ∃ x, d = .flt x ∧ RndOk x := by
      rcases List.mem_cons.mp hd' with rfl | hd'
      · exact ⟨_, rfl, ok.1⟩
      rcases List.mem_cons.mp hd' with rfl | hd'
      · exact ⟨_, rfl, ok.2.1⟩
      rcases List.mem_cons.mp hd' with rfl | hd'
      · exact ⟨_, rfl, ok.2.2⟩
      cases hd'
    obtain ⟨x, rfl, hx⟩ := hx
    repeat' walk_at "m_ev"
    exact hQ
  · exact h
theorem inf_ok {n pl : Int} (h0 : pl ≠ 0) (h : Float64.isInf (qdiv n pl) = false) : pl ≠ 0 ∧ Float64.isInf (qdiv n pl) = false := ⟨h0, h⟩
/-- what is asked of a spot painted -/
structure DrawOk (n p : Int) (c : List Int) : Prop where
  i1 : Float64.isInf (qdiv (n.fmod p) p) = false
  i2 : Float64.isInf (qdiv (shOf n) 2) = false
  i3 : Float64.isInf (qdiv (lvOf n) 2) = false
  of : OfHsvOk (qdiv (n.fmod p) p)
  ok : (ofHsv (qdiv (n.fmod p) p) (qdiv (shOf n) 2) (qdiv (lvOf n) 2)).ok
  eq : (ofHsv (qdiv (n.fmod p) p) (qdiv (shOf n) 2) (qdiv (lvOf n) 2)).rnd = c
theorem drawn_ct {X : Cx} (C : CC X) (n p : Int) (hp : p ≠ 0) (c : List Int) (ok : DrawOk n p c) {hd : Option Hd} {R : D → Option Hd → Prop} (h : R (.lst (c.map .int)) hd) : Fn X 2 229 [.int n, .int p] [] hd R := by
  refine fn_enter [Str.ofString "number", Str.ofString "parts"] [.int n, .int p] [Str.ofString "share", Str.ofString "level"] (by rw [C.k]; k_is) (by rw [C.k]; k_is) rfl ?_ (by decide +kernel) (by decide +kernel) (by intro n; exact List.nodup_nil) ?_
  · exact bind2 fun _ _ _ => BindsTo.of_eq (by rfl)
  intro F L h1 h2 h3 h4
  have kn := Knd.of h4
  clear h4
  show Xs X F (_ :: _) ⟨[(Str.ofString "number", .dat (.int n)), (Str.ofString "parts", .dat (.int p)), (Str.ofString "share", .unset), (Str.ofString "level", .unset)], hd⟩ _ _
  have i1 := inf_ok hp ok.i1
  have i2 := inf_ok (by decide) ok.i2
  have i3 := inf_ok (by decide) ok.i3
  repeat' walk_at "m_ev"
  rw [show 2 - (n.fdiv 8).fmod 3 = shOf n from rfl]
  repeat' walk_at "m_ev"
  rw [show 2 - (n.fdiv 24).fmod 3 = lvOf n from rfl]
  repeat' walk_at "m_ev"
  refine ofHsv_ct C _ _ _ (fun _ => ok.of) ?_
  repeat' walk_at "m_ev"
  refine rounded_ct C (ofHsv (qdiv (n.fmod p) p) (qdiv (shOf n) 2) (qdiv (lvOf n) 2)) ok.ok ?_
  rw [ok.eq]
  exact h
structure I3 where
  r : Int
  g : Int
  b : Int
def I3.l (c : I3) : List Int := [c.r, c.g, c.b]
def I3.d (c : I3) : D := .lst (c.l.map .int)
def turnT (p : Int) (even : Bool) (c : I3) : T3 :=
  if even then ofHsv (Float64.add (toHsv (qdiv c.r 16) (qdiv c.g 16) (qdiv c.b 16)).a (qdiv 1 p)) (toHsv (qdiv c.r 16) (qdiv c.g 16) (qdiv c.b 16)).b (toHsv (qdiv c.r 16) (qdiv c.g 16) (qdiv c.b 16)).c
  else ofHls (Float64.add (toHls (qdiv c.r 16) (qdiv c.g 16) (qdiv c.b 16)).a (qdiv 1 p)) (toHls (qdiv c.r 16) (qdiv c.g 16) (qdiv c.b 16)).b (toHls (qdiv c.r 16) (qdiv c.g 16) (qdiv c.b 16)).c
/-- what is asked of a colour turned on -/
structure TurnOk (p : Int) (even : Bool) (c c' : I3) : Prop where
  i0 : Float64.isInf (qdiv 1 p) = false
  i1 : Float64.isInf (qdiv c.r 16) = false
  i2 : Float64.isInf (qdiv c.g 16) = false
  i3 : Float64.isInf (qdiv c.b 16) = false
  hsv : even = true → HsvOk (qdiv c.r 16) (qdiv c.g 16) (qdiv c.b 16)
  of : even = true → feq (toHsv (qdiv c.r 16) (qdiv c.g 16) (qdiv c.b 16)).b 0 = false → OfHsvOk (Float64.add (toHsv (qdiv c.r 16) (qdiv c.g 16) (qdiv c.b 16)).a (qdiv 1 p))
  hls : even = false → HlsOk (qdiv c.r 16) (qdiv c.g 16) (qdiv c.b 16)
  ok : (turnT p even c).ok
  eq : (turnT p even c).rnd = c'.l
inductive TurnL (p : Int) (even : Bool) : List I3 → List I3 → Prop
  | nil : TurnL p even [] []
  | cons {c c' : I3} {cs cs' : List I3} : TurnOk p even c c' → TurnL p even cs cs' → TurnL p even (c :: cs) (c' :: cs')
theorem turned_ct {X : Cx} (C : CC X) (cs cs' : List I3) (p t : Int) (hp : p ≠ 0) (hcs : cs.length ≤ 100) (ok : TurnL p (decide (t.fmod 2 = 0)) cs cs') {hd : Option Hd} {R : D → Option Hd → Prop} (h : R (.lst (cs'.map I3.d)) hd) :
    Fn X 3 236 [.lst (cs.map I3.d), .int p, .int t] [] hd R := by
  refine fn_enter [Str.ofString "colours", Str.ofString "parts", Str.ofString "turn"] [.lst (cs.map I3.d), .int p, .int t] [Str.ofString "after", Str.ofString "red", Str.ofString "green", Str.ofString "blue", Str.ofString "hue", Str.ofString "share", Str.ofString "level", Str.ofString "light"] (by rw [C.k]; k_is) (by rw [C.k]; k_is) rfl ?_ (by decide +kernel) (by decide +kernel) (by intro n; exact List.nodup_nil) ?_
  · exact bind3 fun _ _ _ _ => BindsTo.of_eq (by rfl)
  intro F L h1 h2 h3 h4
  have kn := Knd.of h4
  clear h4
  show Xs X F (_ :: _) ⟨[(Str.ofString "colours", .dat (.lst (cs.map I3.d))), (Str.ofString "parts", .dat (.int p)), (Str.ofString "turn", .dat (.int t)), (Str.ofString "after", .unset), (Str.ofString "red", .unset), (Str.ofString "green", .unset), (Str.ofString "blue", .unset), (Str.ofString "hue", .unset), (Str.ofString "share", .unset), (Str.ofString "level", .unset), (Str.ofString "light", .unset)], hd⟩ _ _
  refine Xs.cons (x_new fun a => ?_)
  repeat' walk_at "m_ev"
  refine X1.for ?_
  repeat' walk_at "m_ev"
  refine ⟨_, rfl, by simp; omega, ?_⟩
  refine loop_inv (fun ds st => ∃ (us us' : List I3) (acc : List D) (v1 v2 v3 v4 v5 v6 v7 : Slot), ds = us.map I3.d ∧ TurnL p (decide (t.fmod 2 = 0)) us us' ∧ acc ++ us'.map I3.d = cs'.map I3.d ∧ acc.length + us.length ≤ 100 ∧
    st = ⟨[(Str.ofString "colours", .dat (.lst (cs.map I3.d))), (Str.ofString "parts", .dat (.int p)), (Str.ofString "turn", .dat (.int t)), (Str.ofString "after", .own a acc), (Str.ofString "red", v1), (Str.ofString "green", v2), (Str.ofString "blue", v3), (Str.ofString "hue", v4), (Str.ofString "share", v5), (Str.ofString "level", v6), (Str.ofString "light", v7)], hd⟩) ?_ ?_ _ _ ⟨cs, cs', [], _, _, _, _, _, _, _, rfl, ok, rfl, by simpa using hcs, rfl⟩
  · rintro dd ds st ⟨us, us', acc, v1, v2, v3, v4, v5, v6, v7, e1, e2, e3, e4, rfl⟩
    cases e2 with
    | nil => cases e1
    | @cons c c' us us' ok1 okr =>
      cases e1
      have i0 := inf_ok hp ok1.i0
      have i1 := inf_ok (show (16 : Int) ≠ 0 by decide) ok1.i1
      have i2 := inf_ok (show (16 : Int) ≠ 0 by decide) ok1.i2
      have i3 := inf_ok (show (16 : Int) ≠ 0 by decide) ok1.i3
      have hacc : acc.length ≤ 1000000 := by simp at e4; omega
      have e3' : (acc ++ [c'.d]) ++ us'.map I3.d = cs'.map I3.d := by rw [← e3]; simp
      have e4' : (acc ++ [c'.d]).length + us.length ≤ 100 := by simp at e4 ⊢; omega
      show Asg X F _ (.lst [.int c.r, .int c.g, .int c.b]) _ _
      repeat' walk_at "m_ev"
      refine both (fun hb => ?_) (fun hb => ?_)
      · rw [hb] at ok1
        repeat' walk_at "m_ev"
        refine toHsv_ct C _ _ _ (ok1.hsv rfl) ?_
        show Asg X F _ (.tup [.flt (toHsv (qdiv c.r 16) (qdiv c.g 16) (qdiv c.b 16)).a, .flt (toHsv (qdiv c.r 16) (qdiv c.g 16) (qdiv c.b 16)).b, .flt (toHsv (qdiv c.r 16) (qdiv c.g 16) (qdiv c.b 16)).c]) _ _
        repeat' walk_at "m_ev"
        refine x_append (by walk_at "m_at") ?_ hacc
        repeat' walk_at "m_ev"
        refine ofHsv_ct C _ _ _ (ok1.of rfl) ?_
        repeat' walk_at "m_ev"
        refine rounded_ct C (turnT p true c) ok1.ok ?_
        rw [ok1.eq]
        refine ⟨by walk_at "m_at", ?_⟩
        repeat' walk_at "m_ev"
        exact ⟨us, us', acc ++ [c'.d], _, _, _, _, _, _, _, rfl, okr, e3', e4', rfl⟩
      · rw [hb] at ok1
        repeat' walk_at "m_ev"
        refine toHls_ct C _ _ _ (ok1.hls rfl) ?_
        show Asg X F _ (.tup [.flt (toHls (qdiv c.r 16) (qdiv c.g 16) (qdiv c.b 16)).a, .flt (toHls (qdiv c.r 16) (qdiv c.g 16) (qdiv c.b 16)).b, .flt (toHls (qdiv c.r 16) (qdiv c.g 16) (qdiv c.b 16)).c]) _ _
        repeat' walk_at "m_ev"
        refine x_append (by walk_at "m_at") ?_ hacc
        repeat' walk_at "m_ev"
        refine ofHls_ct C _ _ _ ?_
        repeat' walk_at "m_ev"
        refine rounded_ct C (turnT p false c) ok1.ok ?_
        rw [ok1.eq]
        refine ⟨by walk_at "m_at", ?_⟩
        repeat' walk_at "m_ev"
        exact ⟨us, us', acc ++ [c'.d], _, _, _, _, _, _, _, rfl, okr, e3', e4', rfl⟩
  · rintro st ⟨us, us', acc, v1, v2, v3, v4, v5, v6, v7, e1, e2, e3, e4, rfl⟩
    cases e2 with
    | cons _ _ => cases e1
    | nil =>
      refine Xs.cons (X1.ret (e_frz (by walk_at "m_at") ?_))
      walk_at "m_ev"
      have ea : acc = cs'.map I3.d := by rw [← e3]; simp
      subst ea
      exact h
end
section
def signsOf (g : Bool) : Str := if g then Str.ofString "ABCDEFGHIJKLMNOPQ" else Str.ofString "abcdefghijklmnopq"
def spell (g : Bool) (c : List Int) : Str := Txt.join (Str.ofString "") (c.map fun n => Txt.item (signsOf g) (n.fmod 17))
theorem sign_ok (g : Bool) (n : Int) : fitsSsize (n.fmod 17) = true ∧ (Txt.charAt (signsOf g) (n.fmod 17)).isSome = true ∧ (Txt.item (signsOf g) (n.fmod 17)).length ≤ 1 := by
  have lo : 0 ≤ n.fmod 17 := Int.fmod_nonneg_of_pos _ (by decide)
  have up : n.fmod 17 < 17 := Int.fmod_lt_of_pos _ (by decide)
  have key : ∀ k : Fin 17, ∀ g : Bool, fitsSsize (k.val : Int) = true ∧ (Txt.charAt (signsOf g) (k.val : Int)).isSome = true ∧ (Txt.item (signsOf g) (k.val : Int)).length ≤ 1 := by decide +kernel
  have := key ⟨(n.fmod 17).toNat, by omega⟩ g
  have e : (((n.fmod 17).toNat : Nat) : Int) = n.fmod 17 := Int.toNat_of_nonneg lo
  simp only [e] at this
  exact this
theorem sum_len (g : Bool) : ∀ c : List Int, ((c.map fun n => Txt.item (signsOf g) (n.fmod 17)).map (·.length)).sum ≤ c.length
  | [] => Nat.le_refl _
  | n :: c => by
    have h := sum_len g c
    have h1 := (sign_ok g n).2.2
    simp only [List.map_cons, List.sum_cons, List.length_cons] at h ⊢
    omega
/-- the ring read off from a spot on -/
def rot {α : Type} (cs : List α) (k : Nat) : List α := cs.drop k ++ cs.take k
def flat (cs : List I3) : List Int := cs.flatMap I3.l
theorem flat_len (cs : List I3) : (flat cs).length = 3 * cs.length := by
  unfold flat
  induction cs with
  | nil => rfl
  | cons c cs ih => rw [List.flatMap_cons, List.length_append, ih, List.length_cons]; show 3 + _ = _; omega
theorem rot_len {α : Type} (cs : List α) (k : Nat) : (rot cs k).length = cs.length := by
  unfold rot; rw [List.length_append, List.length_drop, List.length_take]; omega
/-- one letter, and a colour's letters -/
def sgn1 (g : Bool) : D → D
  | .int n => .str (Txt.item (signsOf g) (n.fmod 17))
  | _ => .none
def rowD (g : Bool) : D → List D
  | .lst ds => ds.map (sgn1 g)
  | _ => []
theorem rowD_len (g : Bool) : ∀ us : List I3, ((us.map I3.d).flatMap (rowD g)).length = 3 * us.length
  | [] => rfl
  | c :: us => by rw [List.map_cons, List.flatMap_cons, List.length_append, rowD_len g us, List.length_cons]; show 3 + _ = _; omega
theorem rowD_eq (g : Bool) : ∀ us : List I3, (us.map I3.d).flatMap (rowD g) = ((flat us).map fun n => Txt.item (signsOf g) (n.fmod 17)).map D.str
  | [] => rfl
  | c :: us => by rw [List.map_cons, List.flatMap_cons, rowD_eq g us]; unfold flat; rw [List.flatMap_cons, List.map_append, List.map_append]; rfl
theorem read_ct {X : Cx} (C : CC X) (cs : List I3) (k : Nat) (g : Bool) (hcs : cs.length ≤ 100) {hd : Option Hd} {R : D → Option Hd → Prop} (h : R (.str (spell g (flat (rot cs k)))) hd) : Fn X 1 241 [.lst (cs.map I3.d), .int k, .bool g] [] hd R := by
  refine fn_enter [Str.ofString "colours", Str.ofString "start", Str.ofString "great"] [.lst (cs.map I3.d), .int k, .bool g] [Str.ofString "signs"] (by rw [C.k]; k_is) (by rw [C.k]; k_is) rfl ?_ (by decide +kernel) (by decide +kernel) (cells_nd (by decide +kernel)) ?_
  · exact bind3 fun _ _ _ _ => BindsTo.of_eq (by rfl)
  intro F L h1 h2 h3 h4
  have kn := Knd.of h4
  clear h4
  show Xs X F (_ :: _) ⟨[(Str.ofString "colours", .dat (.lst (cs.map I3.d))), (Str.ofString "start", .dat (.int k)), (Str.ofString "great", .dat (.bool g)), (Str.ofString "signs", .unset)], hd⟩ _ _
  have ea : pick (cs.map I3.d) (.some (k : Int)) .none ++ pick (cs.map I3.d) .none (.some (k : Int)) = (rot cs k).map I3.d := by
    rw [pick_from (by omega), pick_upto (by omega), Int.toNat_natCast, ← List.map_drop, ← List.map_take, ← List.map_append]; rfl
  unfold spell at h
  have hl := rot_len cs k
  have hfl := flat_len (rot cs k)
  have hpl : (pick (cs.map I3.d) (.some (k : Int)) .none).length + (pick (cs.map I3.d) .none (.some (k : Int))).length ≤ 1000000 := by
    rw [← List.length_append, ea, List.length_map, hl]; omega
  repeat' walk_at "m_ev"
  refine TruOk.bool (both (fun hb => ?_) (fun hb => ?_))
  all_goals repeat' walk_at "m_ev"
  all_goals first
    | rw [show Str.ofString "ABCDEFGHIJKLMNOPQ" = signsOf g by rw [hb]; rfl]
    | rw [show Str.ofString "abcdefghijklmnopq" = signsOf g by rw [hb]; rfl]
  all_goals
    refine e_join ?_
    walk_at "m_ev"
    refine ⟨_, rfl, by decide, ?_⟩
    refine e_comp (comp2' [Str.ofString "colour", Str.ofString "part"] [Str.ofString "signs"] [Str.ofString "colours", Str.ofString "start", Str.ofString "great", Str.ofString "signs"] kn h2 (by decide +kernel) (by decide +kernel) rfl (by decide +kernel) (by intro _; rfl) (by intro _ _; rfl) ?_)
    refine Ev.binop (Ev.slice ?_)
    walk_at "m_ev"
    refine EvO.some ?_
    walk_at "m_ev"
    refine ⟨_, rfl, EvO.none ⟨_, rfl, by simp; omega, ?_⟩⟩
    refine Ev.slice ?_
    walk_at "m_ev"
    refine EvO.none (EvO.some ?_)
    walk_at "m_ev"
    refine ⟨_, rfl, _, rfl, by simp; omega, ?_⟩
    refine b_addL hpl ?_
    rw [ea]
    refine cdo _ [(Str.ofString "signs", _)] rfl (by simp; omega) (.cons (by walk_at "m_at") .nil) fun F' l1 l2 l3 => ?_
    refine citems_fold (fun st => ∃ sl sl2, st = ⟨[(Str.ofString "colour", sl), (Str.ofString "part", sl2)], hd⟩) (rowD g) _ _ _ (fun d hd' acc2 st2 K hgood hl2 hK => ?_) ⟨_, _, rfl⟩ ?_ (fun st2 ⟨sl, sl2, e⟩ => ?_)
    · obtain ⟨sl, sl2, rfl⟩ := hgood
      obtain ⟨c, hc, rfl⟩ := List.mem_map.mp hd'
      walk_at "m_ev"
      walk_at "m_ev"
      refine both_t ?_
      show Ev X F' _ _ _
      repeat' walk_at "m_ev"
      refine ⟨c.l.map .int, rfl, by show 3 ≤ 1000000; decide, ?_⟩
      refine citems_fold (fun st => ∃ sl2, st = ⟨[(Str.ofString "colour", .dat c.d), (Str.ofString "part", sl2)], hd⟩) (fun d => [sgn1 g d]) _ _ _ (fun d2 hd2 acc3 st3 K3 hgood3 hl3 hK3 => ?_) ⟨_, rfl⟩ ?_ (fun st4 ⟨sl4, e⟩ => ?_)
      · obtain ⟨sl3, rfl⟩ := hgood3
        obtain ⟨n, hn, rfl⟩ := List.mem_map.mp hd2
        walk_at "m_ev"
        walk_at "m_ev"
        refine both_t ?_
        show Ev X F' _ _ _
        refine Ev.sub ?_
        repeat' walk_at "m_ev"
        refine s_str (sign_ok g n).1 (sign_ok g n).2.1 ?_
        exact ⟨by simpa using hl3, hK3 _ ⟨_, rfl⟩⟩
      · exact hl2
      · subst e
        exact hK ⟨[(Str.ofString "colour", .dat c.d), (Str.ofString "part", sl4)], hd⟩ ⟨_, _, rfl⟩
    · rw [rowD_len, hl]; simp; omega
    · subst e
      refine ⟨(flat (rot cs k)).map fun n => Txt.item (signsOf g) (n.fmod 17), by rw [List.nil_append, rowD_eq], ?_, ?_⟩
      rotate_left
      · exact h
      have := sum_len g (flat (rot cs k))
      rw [List.length_map]
      omega
end
section

theorem conv_ct {X : Cx} (C : CC X) (self : Value) (v : Str) (b : Bool) (hv : Plain v) {hd : Option Hd} {R : D → Option Hd → Prop} (h : R (.str v) hd) : Fn X 1 70 [.val self, .str v] [("name", .bool b)] hd R := by
  refine fn_enter [Str.ofString "self", Str.ofString "value", Str.ofString "name"] [.val self, .str v, .bool b] [Str.ofString "regex"] (by rw [C.k]; k_is) (by rw [C.k]; k_is) rfl ?_ (by decide +kernel) (by decide +kernel) (by intro n; exact List.nodup_nil) ?_
  · intro f P s vs kw S rs rk
    obtain ⟨x, y, rfl, a, b'⟩ := rdl2 rs
    cases rk with
    | cons c rk =>
      cases rk
      exact ⟨_, BindsTo.of_eq (by rfl), .cons a (.cons b' (.cons c .nil))⟩
  intro F L h1 h2 h3 h4
  have kn := Knd.of h4
  clear h4
  show Xs X F (_ :: _) ⟨[(Str.ofString "self", .dat (.val self)), (Str.ofString "value", .dat (.str v)), (Str.ofString "name", .dat (.bool b)), (Str.ofString "regex", .unset)], hd⟩ _ _
  repeat' walk_at "m_ev"
  refine k_typeStr ?_
  repeat' walk_at "m_ev"
  refine c_isTypeSame (both_t ?_)
  repeat' walk_at "m_ev"
  refine TruOk.bool (both (fun hb => ?_) (fun hb => ?_))
  · repeat' walk_at "m_ev"
    refine Tst.plain (fun _ _ => rfl) (e_search ?_)
    walk_at "m_ev"
    refine ⟨_, _, rfl, re_name C, pat_name, ?_⟩
    walk_at "m_ev"
    refine ⟨_, rfl, hv.name, t_none (both_f ?_)⟩
    repeat' walk_at "m_ev"
    exact h
  · repeat' walk_at "m_ev"
    refine Tst.plain (fun _ _ => rfl) (e_search ?_)
    walk_at "m_ev"
    refine ⟨_, _, rfl, re_value C, pat_value, ?_⟩
    walk_at "m_ev"
    refine ⟨_, rfl, hv.value, t_none (both_f ?_)⟩
    repeat' walk_at "m_ev"
    exact h
theorem e_new {X : Cx} (C : CC X) {F : Fm} {st : St} {Q : D → St → Prop} {p pos : Pos} (hx : F.env.kindOf "Headers" = some .globalImplicit) (hlv : 2 ≤ F.lv) (hdr : st.hdr = none) (h : ∀ x H, Q (.val (.ref x)) ⟨st.vars, some ⟨x, H, []⟩⟩) : Ev X F (.Call (.Name "Headers" p) [] [] pos) st Q := by
  refine e_headers (sN := "self") (hN := "headers") (rest := [Str.ofString "k", Str.ofString "v"]) (lv := 0) (init_ok C) hx hlv hdr (by rw [C.k]; k_is) (by rw [C.k]; k_is) rfl rfl rfl rfl ?_ (by decide +kernel) (by decide +kernel) (by intro n; exact List.nodup_nil) rfl rfl rfl ?_ ?_ h
  · intro s x hK
    refine BindsTo.of_defaults rfl (hK _ _ (by rw [C.k]; k_is)) rfl rfl rfl
  · intro F L x h1 h2 h3 h4
    have kn := Knd.of h4
    clear h4
    show X1 X F _ ⟨[(Str.ofString "self", .dat (.val (.ref x))), (Str.ofString "headers", .dat .none), (Str.ofString "k", .unset), (Str.ofString "v", .unset)], none⟩ _ _
    refine x_newIf (Tst.cmp ?_)
    repeat' walk_at "m_ev"
    refine c_isNotNone rfl ⟨rfl, fun a => ?_⟩
    repeat' walk_at "m_ev"
    refine e_ownV (by walk_at "m_at") ?_
    refine EvA.nil (k_typeOwn (x := "headers") (by walk_at "m_at") ?_)
    repeat' walk_at "m_ev"
    refine c_isNotTypeSame (both_f ?_)
    repeat' walk_at "m_ev"
    exact ⟨a, rfl⟩
  · intro F L x H h1 h2 h3 h4
    have kn := Knd.of h4
    clear h4
    show X1 X F _ ⟨[(Str.ofString "self", .dat (.val (.ref x))), (Str.ofString "headers", .dat (.val (.ref H))), (Str.ofString "k", .unset), (Str.ofString "v", .unset)], some ⟨x, H, []⟩⟩ _ _
    refine x_if (Tst.plain (fun _ _ => rfl) ?_)
    walk_at "m_ev"
    refine TruOk.bool (both_t ?_)
    refine Xs.cons (x_forH ?_)
    walk_at "m_ev"
    refine ⟨⟨x, H, []⟩, rfl, rfl, rfl, ?_⟩
    exact Xs.nil rfl
def getOf (es : List (Str × Str)) (nm : Str) : D := match es with
  | [] => .none
  | e :: r => if Txt.lower e.1 == nm then .str e.2 else getOf r nm
theorem get_ct {X : Cx} (C : CC X) (d : Hd) (nm : Str) (hn : Plain (Txt.lower nm)) (hk : ∀ e ∈ d.es, e.1.length ≤ 100000) (hnl : nm.length ≤ 100000) {R : D → Option Hd → Prop} (h : R (getOf d.es (Txt.lower nm)) (some d)) :
    Fn X 2 118 [.val (.ref d.x), .str nm] [] (some d) R := by
  refine fn_enter [Str.ofString "self", Str.ofString "name", Str.ofString "default"] [.val (.ref d.x), .str nm, .none] [Str.ofString "k", Str.ofString "v"] (by rw [C.k]; k_is) (by rw [C.k]; k_is) rfl ?_ (by decide +kernel) (by decide +kernel) (by intro n; exact List.nodup_nil) ?_
  · intro f P s vs kw S rs rk
    obtain ⟨x, y, rfl, a, b⟩ := rdl2 rs
    rw [rk.inv0]
    exact ⟨_, BindsTo.of_defaults rfl (S.k _ _ (by rw [C.k]; k_is)) rfl rfl rfl, .cons a (.cons b (.cons .none .nil))⟩
  intro F L h1 h2 h3 h4
  have kn := Knd.of h4
  clear h4
  show Xs X F (_ :: _) ⟨[(Str.ofString "self", .dat (.val (.ref d.x))), (Str.ofString "name", .dat (.str nm)), (Str.ofString "default", .dat .none), (Str.ofString "k", .unset), (Str.ofString "v", .unset)], some d⟩ _ _
  refine Xs.cons (x_assign (e_methK (cls_ok C) (m__convert_string_type C) (by walk_at "m_at") rfl (lv := 1) (by walk_at "m_lv") (e_lower ?_)))
  walk_at "m_ev"
  refine ⟨nm, rfl, hnl, ?_⟩
  walk_at "m_ev"
  refine conv_ct C _ _ _ hn ?_
  walk_at "m_ev"
  refine Xs.cons (x_forH (e_hdrs (cls_ok C) (by walk_at "m_at") rfl ⟨d, rfl, rfl, ?_⟩))
  refine loopJ_inv (fun ds st => ∃ (es : List (Str × Str)) (s1 s2 : Slot), ds = es.map entD ∧ (∀ e ∈ es, e.1.length ≤ 100000) ∧ getOf es (Txt.lower nm) = getOf d.es (Txt.lower nm) ∧
    st = ⟨[(Str.ofString "self", .dat (.val (.ref d.x))), (Str.ofString "name", .dat (.str (Txt.lower nm))), (Str.ofString "default", .dat .none), (Str.ofString "k", s1), (Str.ofString "v", s2)], some d⟩) ?_ ?_ ?_ _ _ ⟨d.es, _, _, rfl, hk, rfl, rfl⟩
  · rintro ds st ⟨es, s1, s2, _, _, _, rfl⟩; rfl
  · rintro dd ds st ⟨es, s1, s2, e1, e2, e3, rfl⟩
    cases es with
    | nil => cases e1
    | cons e es =>
      cases e1
      show Asg X F _ (.tup [.str e.1, .str e.2]) _ _
      repeat' walk_at "m_ev"
      refine e_lower ?_
      walk_at "m_ev"
      refine ⟨_, rfl, e2 e (.head _), ?_⟩
      repeat' walk_at "m_ev"
      rw [getOf] at e3
      refine both (fun hb => ?_) (fun hb => ?_)
      · rw [if_pos hb] at e3
        repeat' walk_at "m_ev"
        show R (.str e.2) (some d)
        rw [e3]; exact h
      · rw [if_neg (by rw [hb]; decide)] at e3
        repeat' walk_at "m_ev"
        exact ⟨es, _, _, rfl, fun e' he => e2 e' (.tail _ he), e3, rfl⟩
  · rintro st ⟨es, s1, s2, e1, e2, e3, rfl⟩
    cases es with
    | cons e es => cases e1
    | nil =>
      repeat' walk_at "m_ev"
      show R .none (some d)
      rw [← e3] at h; exact h
theorem items_ct {X : Cx} (C : CC X) (d : Hd) (hl : d.es.length ≤ 1000000) {R : D → Option Hd → Prop} (h : R (.lst (d.es.map entD)) (some d)) : Fn X 1 135 [.val (.ref d.x)] [] (some d) R := by
  refine fn_enter [Str.ofString "self"] [.val (.ref d.x)] [] (by rw [C.k]; k_is) (by rw [C.k]; k_is) rfl ?_ (by decide +kernel) (by decide +kernel) (by intro n; exact List.nodup_nil) ?_
  · exact bind1 fun _ _  => BindsTo.of_eq (by rfl)
  intro F L h1 h2 h3 h4
  have kn := Knd.of h4
  clear h4
  show Xs X F (_ :: _) ⟨[(Str.ofString "self", .dat (.val (.ref d.x)))], some d⟩ _ _
  refine Xs.cons (X1.ret (e_hslice (e_hdrs (cls_ok C) (by walk_at "m_at") rfl ⟨d, rfl, rfl, hl, h⟩)))
theorem getOf_cases (es : List (Str × Str)) (nm : Str) : getOf es nm = .none ∨ ∃ w, getOf es nm = .str w := by
  induction es with
  | nil => exact .inl rfl
  | cons e es ih =>
    rw [getOf]
    split
    · exact .inr ⟨_, rfl⟩
    · exact ih
theorem set_ct {X : Cx} (C : CC X) (d : Hd) (nm v : Str) (hn : Plain nm) (hnl : Plain (Txt.lower nm)) (hv : Plain v) (hk : ∀ e ∈ d.es, e.1.length ≤ 100000) (hl : nm.length ≤ 100000) (hes : d.es.length ≤ 1000000) {R : D → Option Hd → Prop}
    (h1 : getOf d.es (Txt.lower nm) = .none → R (.str v) (some ⟨d.x, d.H, d.es ++ [(nm, v)]⟩)) (h2 : ∀ w, getOf d.es (Txt.lower nm) = .str w → R (.str w) (some d)) :
    Fn X 3 161 [.val (.ref d.x), .str nm, .str v] [] (some d) R := by
  refine fn_enter [Str.ofString "self", Str.ofString "name", Str.ofString "value"] [.val (.ref d.x), .str nm, .str v] [Str.ofString "result"] (by rw [C.k]; k_is) (by rw [C.k]; k_is) rfl ?_ (by decide +kernel) (by decide +kernel) (by intro n; exact List.nodup_nil) ?_
  · exact bind3 fun _ _ _ _ => BindsTo.of_eq (by rfl)
  intro F L h1' h2' h3 h4
  have kn := Knd.of h4
  clear h4
  show Xs X F (_ :: _) ⟨[(Str.ofString "self", .dat (.val (.ref d.x))), (Str.ofString "name", .dat (.str nm)), (Str.ofString "value", .dat (.str v)), (Str.ofString "result", .unset)], some d⟩ _ _
  refine Xs.cons (x_assign (e_meth (cls_ok C) (m_get C) (by walk_at "m_at") rfl (lv := 2) (by walk_at "m_lv") ?_))
  repeat' walk_at "m_ev"
  refine get_ct C d nm hnl hk hl ?_
  rcases getOf_cases d.es (Txt.lower nm) with e | ⟨w, e⟩
  · have h := h1 e
    rw [e]
    repeat' walk_at "m_ev"
    refine c_isNone rfl (both_t ?_)
    refine Xs.cons (x_hadd (e_hdrs (cls_ok C) (by walk_at "m_at") rfl ⟨d, rfl, rfl, ?_⟩))
    walk_at "m_ev"
    refine EvA.cons (e_methK (cls_ok C) (m__convert_string_type C) (by walk_at "m_at") rfl (lv := 1) (by walk_at "m_lv") ?_)
    repeat' walk_at "m_ev"
    refine conv_ct C _ _ _ hn ?_
    refine EvA.cons (e_methK (cls_ok C) (m__convert_string_type C) (by walk_at "m_at") rfl (lv := 1) (by walk_at "m_lv") ?_)
    repeat' walk_at "m_ev"
    refine conv_ct C _ _ _ hv ?_
    repeat' walk_at "m_ev"
    refine ⟨rfl, hes, nm, v, rfl, ?_⟩
    repeat' walk_at "m_ev"
    exact h
  · have h := h2 w e
    rw [e]
    repeat' walk_at "m_ev"
    refine c_isNone rfl (both_f ?_)
    repeat' walk_at "m_ev"
    exact h
end
section
def min2 (a b : Int) : Int := if b < a then b else a
def max2 (a b : Int) : Int := if b > a then b else a
def angOf (h t p : Int) : Int := (h + t).fmod p * (24 : Int).fdiv p
def cornC (A s l c : Int) : Int := 8 * l - s * l * max2 0 (min2 4 (min2 ((A - c).fmod 24) ((c - A).fmod 24) - 4))
def plainC (sp : Sp) (t p : Int) : I3 := ⟨cornC (angOf sp.h t p) sp.s sp.l 0, cornC (angOf sp.h t p) sp.s sp.l 8, cornC (angOf sp.h t p) sp.s sp.l 16⟩
theorem ang_mul {h t p : Int} (hp : 1 ≤ p ∧ p ≤ 8) : IntMulOk ((h + t).fmod p) ((24 : Int).fdiv p) := by
  have lo : 0 ≤ (h + t).fmod p := Int.fmod_nonneg_of_pos _ (by omega)
  have up : (h + t).fmod p < p := Int.fmod_lt_of_pos _ (by omega)
  exact mulL (by omega)
local macro_rules | `(tactic| walk_at "m_sub") => `(tactic| refine Ev.sub ?_)
local macro_rules | `(tactic| walk_at "m_subok") => `(tactic| refine s_tup (by decide) (by decide) rfl ?_)
local macro_rules | `(tactic| walk_at "m_blt") => `(tactic| first | refine k_min2 ?_ | refine k_max2 ?_)
theorem plain_ct {X : Cx} (C : CC X) (sp : Sp) (p t : Int) (hp : 1 ≤ p ∧ p ≤ 8) (hs : 0 ≤ sp.s ∧ sp.s ≤ 2) (hl : 0 ≤ sp.l ∧ sp.l ≤ 2) {hd : Option Hd} {R : D → Option Hd → Prop} (h : R (plainC sp t p).d hd) : Fn X 1 248 [sp.d, .int p, .int t] [] hd R := by
  refine fn_enter [Str.ofString "spot", Str.ofString "parts", Str.ofString "turn"] [sp.d, .int p, .int t] [Str.ofString "angle", Str.ofString "colour", Str.ofString "corner", Str.ofString "way"] (by rw [C.k]; k_is) (by rw [C.k]; k_is) rfl ?_ (by decide +kernel) (by decide +kernel) (by intro n; exact List.nodup_nil) ?_
  · exact bind3 fun _ _ _ _ => BindsTo.of_eq (by rfl)
  intro F L h1 h2 h3 h4
  have kn := Knd.of h4
  clear h4
  show Xs X F (_ :: _) ⟨[(Str.ofString "spot", .dat (.tup [.int sp.h, .int sp.s, .int sp.l])), (Str.ofString "parts", .dat (.int p)), (Str.ofString "turn", .dat (.int t)), (Str.ofString "angle", .unset), (Str.ofString "colour", .unset), (Str.ofString "corner", .unset), (Str.ofString "way", .unset)], hd⟩ _ _
  have hp0 : p ≠ 0 := by omega
  have i1 := ang_mul (h := sp.h) (t := t) hp
  have i2 : IntMulOk sp.s sp.l := mulL (by omega)
  repeat' walk_at "m_ev"
  rename_i a
  rw [show (sp.h + t).fmod p * (24 : Int).fdiv p = angOf sp.h t p from rfl]
  generalize hA : angOf sp.h t p = A at *
  have h' : R (.lst (([0, 8, 16].map fun c => cornC A sp.s sp.l c).map .int)) hd := by rw [← hA]; exact h
  refine X1.for ?_
  repeat' walk_at "m_ev"
  refine ⟨_, rfl, by decide, ?_⟩
  refine loop_inv (fun ds st => ∃ (cs : List Int) (acc : List D) (v1 v2 : Slot), ds = cs.map D.int ∧ acc ++ (cs.map fun c => cornC A sp.s sp.l c).map D.int = ([0, 8, 16].map fun c => cornC A sp.s sp.l c).map D.int ∧ acc.length ≤ 3 ∧
    st = ⟨[(Str.ofString "spot", .dat (.tup [.int sp.h, .int sp.s, .int sp.l])), (Str.ofString "parts", .dat (.int p)), (Str.ofString "turn", .dat (.int t)), (Str.ofString "angle", .dat (.int A)), (Str.ofString "colour", .own a acc), (Str.ofString "corner", v1), (Str.ofString "way", v2)], hd⟩) ?_ ?_ _ _ ⟨[0, 8, 16], [], _, _, rfl, rfl, by decide, rfl⟩
  · rintro dd ds st ⟨cs, acc, v1, v2, e1, e2, e3, rfl⟩
    cases cs with
    | nil => cases e1
    | cons c cs =>
      cases e1
      have e2' : (acc ++ [D.int (cornC A sp.s sp.l c)]) ++ (cs.map fun c => cornC A sp.s sp.l c).map D.int = ([0, 8, 16].map fun c => cornC A sp.s sp.l c).map D.int := by rw [← e2]; simp
      have e3' : (acc ++ [D.int (cornC A sp.s sp.l c)]).length ≤ 3 := by have := congrArg List.length e2'; simp at this ⊢; omega
      have e4 : acc.length ≤ 1000000 := by omega
      walk_at "m_ev"
      walk_at "m_ev"
      refine Xs.cons ?_
      repeat' walk_at "m_ev"
      refine x_append (by walk_at "m_at") ?_ e4
      repeat' walk_at "m_ev"
      refine ⟨by walk_at "m_at", ?_⟩
      repeat' walk_at "m_ev"
      exact ⟨cs, acc ++ [D.int (cornC A sp.s sp.l c)], _, _, rfl, e2', e3', rfl⟩
  · rintro st ⟨cs, acc, v1, v2, e1, e2, e3, rfl⟩
    cases cs with
    | cons _ _ => cases e1
    | nil =>
      repeat' walk_at "m_ev"
      refine e_frz (by walk_at "m_at") ?_
      walk_at "m_ev"
      have ea : acc = ([0, 8, 16].map fun c => cornC A sp.s sp.l c).map D.int := by rw [← e2]; simp
      rw [ea]
      exact h'
end
section
theorem X1.mono {X : Cx} {F : Fm} {st : St} {Qn : St → Prop} {Qr : D → St → Prop} {c : Stmt} {Qn' : St → Prop} (h : X1 X F c st Qn Qr) (hn : ∀ st, Qn st → Qn' st) : X1 X F c st Qn' Qr := fun f =>
  (h f).mono fun fl st' f' _ q => by
    cases fl with
    | next => exact hn _ q
    | ret v => exact q
    | brk => exact q
    | cont => exact q
/-- one statement up to what is asked of it, then the rest -/
theorem Xs.step {X : Cx} {F : Fm} {st : St} {Qn : St → Prop} {Qr : D → St → Prop} {c : Stmt} {rest : List Stmt} (S : St → Prop) (h : X1 X F c st S Qr) (k : ∀ st', S st' → Xs X F rest st' Qn Qr) : Xs X F (c :: rest) st Qn Qr := Xs.cons (h.mono k)
theorem ok_ints : ∀ l : List Int, okAll (l.map D.int) = true
  | [] => rfl
  | a :: l => by rw [List.map_cons, okAll, ok_ints l]; rfl
theorem any_ints (a : Int) : ∀ l : List Int, ((l.map D.int).any fun y => PyData.eqv y.py (D.int a).py) = decide (a ∈ l)
  | [] => rfl
  | b :: l => by
    rw [List.map_cons, List.any_cons, any_ints a l]
    show ((b == a) || decide (a ∈ l)) = _
    by_cases h : a = b
    · subst h; simp
    · have h' : ¬ b = a := fun e => h e.symm
      simp [h, h']
theorem eqv_sp (a b : Sp) : PyData.eqv a.d.py b.d.py = true ↔ a = b := by
  obtain ⟨x, y, z⟩ := a
  obtain ⟨u, v, w⟩ := b
  simp [Sp.d, D.py, pyAll, PyData.eqv, PyData.eqvAll]
def sameB (l l' : List Sp) : Bool := PyData.eqvAll (pyAll (l.map Sp.d)) (pyAll (l'.map Sp.d))
theorem sameB_iff : ∀ l l' : List Sp, sameB l l' = true ↔ l = l'
  | [], [] => by simp [sameB, pyAll, PyData.eqvAll]
  | [], b :: l' => by simp [sameB, pyAll, PyData.eqvAll]
  | a :: l, [] => by simp [sameB, pyAll, PyData.eqvAll]
  | a :: l, b :: l' => by
    have ih := sameB_iff l l'
    unfold sameB at ih ⊢
    rw [List.map_cons, List.map_cons, pyAll, pyAll, PyData.eqvAll, Bool.and_eq_true, eqv_sp, ih, List.cons.injEq]
theorem ok_sps : ∀ l : List Sp, okAll (l.map Sp.d) = true
  | [] => rfl
  | a :: l => by rw [List.map_cons, okAll, ok_sps l]; rfl
theorem dp_sps : ∀ l : List Sp, PyData.depthAll (pyAll (l.map Sp.d)) ≤ 3
  | [] => by simp [pyAll, PyData.depthAll]
  | a :: l => by
    have h1 : a.d.py.depth ≤ 2 := by simp [Sp.d, D.py, pyAll, PyData.depth, PyData.depthAll]
    have h2 := dp_sps l
    simp only [List.map_cons, pyAll, PyData.depthAll]
    omega
theorem dp_spl (l : List Sp) : (D.lst (l.map Sp.d)).py.depth ≤ 30 := by
  have := dp_sps l
  simp only [D.py, PyData.depth]; omega
/-- the spot at a place round the ring -/
def rgI (rg : List Sp) (i : Int) : Sp := rg.getD (i.fmod rg.length).toNat ⟨0, 0, 0⟩
def isCol (rg : List Sp) (i : Int) : Bool := decide (0 < (rgI rg i).s)
def colL (rg : List Sp) : List Int := ((List.range rg.length).filter fun k : Nat => isCol rg k).map fun k : Nat => (k : Int)
def seek (c : Int → Bool) (k : Int) : Int → Nat → Int
  | m, 0 => m
  | m, f + 1 => if c (k - m) then m else seek c k (m + 1) f
def prevOf (rg : List Sp) (k : Int) : Int := k - seek (isCol rg) k 1 (rg.length - 1)
def wayOf (rg : List Sp) (p k : Int) : Int := if isCol rg k then ((rgI rg k).h - (rgI rg (prevOf rg k)).h).fmod p else 0
def way3 (rg : List Sp) (p k : Int) : Sp := ⟨wayOf rg p k, (rgI rg k).s, (rgI rg k).l⟩
def waysOf (rg : List Sp) (p : Int) (k : Nat) : List Sp := (List.range k).map fun j : Nat => way3 rg p j
/-- the least step after which the ways come back -/
structure PerOk (rg : List Sp) (p : Int) (per : Nat) : Prop where
  pos : 1 ≤ per
  le : per ≤ rg.length
  eq : rot (waysOf rg p rg.length) per = waysOf rg p rg.length
  min : ∀ k, 1 ≤ k → k ≤ rg.length → rot (waysOf rg p rg.length) k = waysOf rg p rg.length → per ≤ k
def leanOf (rg : List Sp) (p : Int) (per : Nat) : Int := match colL rg with
  | [] => 0
  | c :: _ => ((rgI rg (c + per)).h - (rgI rg c).h).fmod p
def whenOf (rg : List Sp) (p : Int) (per : Nat) (t k j : Int) : Int := if (colL rg).isEmpty then 0 else (t + (k.fdiv per - j) * leanOf rg p per).fmod p
def alike (rg : List Sp) (p : Int) (per : Nat) (t k : Int) (m : Nat) : List Int := (List.range m).map fun j : Nat => whenOf rg p per t k j * rg.length + j * per + k.fmod per
def minOf : List Int → Int
  | [] => 0
  | a :: l => if l.isEmpty then a else if minOf l < a then minOf l else a
def turnsOf (rg : List Sp) (per : Nat) : Nat := ((rg.length : Int).fdiv per).toNat
def firstF (rg : List Sp) (p : Int) (per : Nat) (i : Nat) : Int := minOf (alike rg p per ((i / rg.length : Nat) : Int) ((i % rg.length : Nat) : Int) (turnsOf rg per))
theorem minOf_spec : ∀ l : List Int, l ≠ [] → minOf l ∈ l ∧ ∀ x ∈ l, minOf l ≤ x
  | [], h => (h rfl).elim
  | [a], _ => by simp [minOf]
  | a :: b :: l, _ => by
    obtain ⟨h1, h2⟩ := minOf_spec (b :: l) (by simp)
    rw [minOf, show (b :: l).isEmpty = false from rfl, if_neg Bool.false_ne_true]
    split
    · refine ⟨.tail _ h1, fun x hx => ?_⟩
      rcases List.mem_cons.mp hx with rfl | hx
      · omega
      · exact h2 x hx
    · refine ⟨.head _, fun x hx => ?_⟩
      rcases List.mem_cons.mp hx with rfl | hx
      · exact Int.le_refl _
      · have := h2 x hx; omega
theorem minOf_is {l : List Int} {m : Int} (h : m ∈ l) (h' : ∀ x ∈ l, m ≤ x) : m = minOf l := by
  obtain ⟨h1, h2⟩ := minOf_spec l (List.ne_nil_of_mem h)
  have := h2 m h; have := h' _ h1; omega
theorem fmod_nat {n : Nat} (hn : 0 < n) (i : Int) : ∃ k : Nat, i.fmod n = k ∧ k < n := by
  have lo : 0 ≤ i.fmod n := Int.fmod_nonneg_of_pos _ (by omega)
  have up : i.fmod n < n := Int.fmod_lt_of_pos _ (by omega)
  exact ⟨(i.fmod n).toNat, by omega, by omega⟩
theorem fmod_lt {n k : Nat} (h : k < n) : (k : Int).fmod n = k := by
  rw [Int.fmod_eq_emod_of_nonneg _ (by omega)]; exact Int.emod_eq_of_lt (by omega) (by omega)
theorem rg_fm {rg : List Sp} (hn : 0 < rg.length) (i : Int) : rgI rg (i.fmod rg.length) = rgI rg i := by
  obtain ⟨k, e, hk⟩ := fmod_nat hn i
  unfold rgI
  rw [e, fmod_lt hk]
theorem rg_at {rg : List Sp} (hn : 0 < rg.length) (i : Int) : (rg.map Sp.d)[(i.fmod rg.length).toNat]? = some (rgI rg i).d := by
  obtain ⟨k, e, hk⟩ := fmod_nat hn i
  unfold rgI
  rw [e, Int.toNat_natCast, List.getElem?_map, List.getD_eq_getElem?_getD, List.getElem?_eq_getElem hk]
  rfl
theorem rg_atN {rg : List Sp} {k : Nat} (hk : k < rg.length) : (rg.map Sp.d)[((k : Nat) : Int).toNat]? = some (rgI rg k).d := by
  have := rg_at (rg := rg) (by omega) k
  rwa [fmod_lt hk] at this
theorem col_nat {rg : List Sp} {x : Int} (h : x ∈ colL rg) : ∃ k : Nat, x = k ∧ k < rg.length ∧ isCol rg k = true := by
  unfold colL at h
  obtain ⟨k, hk, rfl⟩ := List.mem_map.mp h
  obtain ⟨h1, h2⟩ := List.mem_filter.mp hk
  exact ⟨k, rfl, List.mem_range.mp h1, h2⟩
theorem mem_colN {rg : List Sp} {k : Nat} (hk : k < rg.length) : decide ((k : Int) ∈ colL rg) = isCol rg k := by
  rw [Bool.eq_iff_iff, decide_eq_true_eq]
  constructor
  · intro h
    obtain ⟨j, e, _, hj⟩ := col_nat h
    rw [e]; exact hj
  · intro h
    exact List.mem_map.mpr ⟨k, List.mem_filter.mpr ⟨List.mem_range.mpr hk, h⟩, rfl⟩
theorem mem_col {rg : List Sp} (hn : 0 < rg.length) (i : Int) : decide (i.fmod rg.length ∈ colL rg) = isCol rg i := by
  obtain ⟨k, e, hk⟩ := fmod_nat hn i
  rw [e, mem_colN hk, ← e]
  unfold isCol; rw [rg_fm hn]
theorem isCol_sub {rg : List Sp} (hn : 0 < rg.length) (i : Int) : isCol rg (i - rg.length) = isCol rg i := by
  unfold isCol rgI
  rw [show (i - (rg.length : Int)).fmod rg.length = i.fmod rg.length by
    rw [Int.fmod_eq_emod_of_nonneg _ (by omega), Int.fmod_eq_emod_of_nonneg _ (by omega), Int.sub_emod, Int.emod_self, Int.sub_zero, Int.emod_emod]]
theorem seek_hit {c : Int → Bool} {k m : Int} (h : c (k - m) = true) : ∀ f, seek c k m f = m
  | 0 => rfl
  | f + 1 => by rw [seek, if_pos h]
theorem seek_miss {c : Int → Bool} {k m : Int} {f : Nat} (h : c (k - m) = false) : seek c k m (f + 1) = seek c k (m + 1) f := by
  rw [seek, if_neg (by rw [h]; decide)]
theorem ways_len (rg : List Sp) (p : Int) (k : Nat) : (waysOf rg p k).length = k := by simp [waysOf]
theorem ways_succ (rg : List Sp) (p : Int) (k : Nat) : waysOf rg p (k + 1) = waysOf rg p k ++ [way3 rg p k] := by
  unfold waysOf; rw [List.range_succ, List.map_append]; rfl
end
section
local macro_rules | `(tactic| walk_at "m_sub") => `(tactic| refine Ev.sub ?_)
theorem col_filter (rg : List Sp) : ((((List.range rg.length).map fun i : Nat => D.int ((0 + i : Nat) : Int)).filter fun d => match d with | .int k => isCol rg k | _ => false).map id) = (colL rg).map D.int := by
  unfold colL
  rw [List.map_id, List.filter_map, List.map_map]
  have e : ((fun d => match d with | D.int k => isCol rg k | _ => false) ∘ fun i : Nat => D.int ((0 + i : Nat) : Int)) = fun k : Nat => isCol rg k := by
    funext k; simp
  rw [e]
  refine List.map_congr_left fun k _ => ?_
  simp
theorem least_filter (ws : List Sp) (n : Nat) : ((((List.range n).map fun i : Nat => D.int ((1 + i : Nat) : Int)).filter fun d => match d with | .int k => sameB (rot ws k.toNat) ws | _ => false).map id) = (((List.range n).filter fun i : Nat => sameB (rot ws (1 + i)) ws).map fun i : Nat => ((1 + i : Nat) : Int)).map D.int := by
  rw [List.map_id, List.filter_map, List.map_map]
  rfl
theorem rot_all {α : Type} (l : List α) : rot l l.length = l := by simp [rot]
theorem least_ne {ws : List Sp} {n : Nat} (hn : 0 < n) (hw : ws.length = n) : (((List.range n).filter fun i : Nat => sameB (rot ws (1 + i)) ws).map fun i : Nat => ((1 + i : Nat) : Int)) ≠ [] := by
  refine List.ne_nil_of_mem (a := ((1 + (n - 1) : Nat) : Int)) (List.mem_map.mpr ⟨n - 1, List.mem_filter.mpr ⟨List.mem_range.mpr (by omega), ?_⟩, rfl⟩)
  rw [sameB_iff, show 1 + (n - 1) = ws.length by omega]
  exact rot_all ws
theorem least_ok {rg : List Sp} {p : Int} {ws : List Sp} {m : Int} (hws : waysOf rg p rg.length = ws) (hn : 0 < rg.length) (hm : m ∈ (((List.range rg.length).filter fun i : Nat => sameB (rot ws (1 + i)) ws).map fun i : Nat => ((1 + i : Nat) : Int)))
    (hmin : ∀ x ∈ (((List.range rg.length).filter fun i : Nat => sameB (rot ws (1 + i)) ws).map fun i : Nat => ((1 + i : Nat) : Int)), m ≤ x) : ∃ per : Nat, m = per ∧ PerOk rg p per := by
  subst hws
  obtain ⟨i, hi, rfl⟩ := List.mem_map.mp hm
  obtain ⟨h1, h2⟩ := List.mem_filter.mp hi
  have h1 := List.mem_range.mp h1
  refine ⟨1 + i, rfl, by omega, by omega, (sameB_iff _ _).mp h2, fun k hk hk' hr => ?_⟩
  have := hmin ((1 + (k - 1) : Nat) : Int) (List.mem_map.mpr ⟨k - 1, List.mem_filter.mpr ⟨List.mem_range.mpr (by omega), by rw [sameB_iff, show 1 + (k - 1) = k by omega]; exact hr⟩, rfl⟩)
  omega
theorem lean_rng {rg : List Sp} {P per : Nat} (hp : 1 ≤ P) : 0 ≤ leanOf rg P per ∧ leanOf rg P per < P := by
  unfold leanOf
  split
  · omega
  · exact ⟨Int.fmod_nonneg_of_pos _ (by omega), Int.fmod_lt_of_pos _ (by omega)⟩
theorem turns_is {rg : List Sp} {per : Nat} : turnsOf rg per = rg.length / per := by
  unfold turnsOf
  rw [Int.fdiv_eq_ediv_of_nonneg _ (by omega), ← Int.natCast_ediv, Int.toNat_natCast]
theorem turns_rng {rg : List Sp} {per : Nat} (h1 : 1 ≤ per) (h2 : per ≤ rg.length) : 0 ≤ (rg.length : Int).fdiv per ∧ 1 ≤ turnsOf rg per ∧ turnsOf rg per ≤ rg.length := by
  rw [turns_is, Int.fdiv_eq_ediv_of_nonneg _ (by omega), ← Int.natCast_ediv]
  exact ⟨Int.natCast_nonneg _, Nat.div_pos h2 h1, Nat.div_le_self _ _⟩
theorem alike_len (rg : List Sp) (p : Int) (per : Nat) (t k : Int) (m : Nat) : (alike rg p per t k m).length = m := by simp [alike]
theorem alike_succ (rg : List Sp) (p : Int) (per : Nat) (t k : Int) (m : Nat) : alike rg p per t k (m + 1) = alike rg p per t k m ++ [whenOf rg p per t k m * rg.length + m * per + k.fmod per] := by
  unfold alike; rw [List.range_succ, List.map_append]; rfl
theorem firsts_ct {X : Cx} (C : CC X) (rg : List Sp) (P : Nat) (hn : 0 < rg.length) (hn' : rg.length ≤ 6) (hp : 1 ≤ P ∧ P ≤ 8) (hh : ∀ i, 0 ≤ (rgI rg i).h ∧ (rgI rg i).h ≤ 8) {hd : Option Hd} {R : D → Option Hd → Prop}
    (h : ∀ per, PerOk rg P per → R (.lst ((List.range (P * rg.length)).map fun i => D.int (firstF rg P per i))) hd) : Fn X 1 253 [.lst (rg.map Sp.d), .int P] [] hd R := by
  refine fn_enter [Str.ofString "ring", Str.ofString "parts"] [.lst (rg.map Sp.d), .int P] [Str.ofString "size", Str.ofString "coloured", Str.ofString "ways", Str.ofString "k", Str.ofString "way", Str.ofString "ahead", Str.ofString "least", Str.ofString "lean", Str.ofString "firsts", Str.ofString "turn", Str.ofString "alike", Str.ofString "j", Str.ofString "when"] (by rw [C.k]; k_is) (by rw [C.k]; k_is) rfl ?_ (by decide +kernel) (by decide +kernel) (cells_nd (by decide +kernel)) ?_
  · exact bind2 fun _ _ _ => BindsTo.of_eq (by rfl)
  intro F L h1 h2 h3 h4
  have kn := Knd.of h4
  clear h4
  show Xs X F (_ :: _) ⟨[(Str.ofString "ring", .dat (.lst (rg.map Sp.d))), (Str.ofString "parts", .dat (.int P)), (Str.ofString "size", .unset), (Str.ofString "coloured", .unset), (Str.ofString "ways", .unset), (Str.ofString "k", .unset), (Str.ofString "way", .unset), (Str.ofString "ahead", .unset), (Str.ofString "least", .unset), (Str.ofString "lean", .unset), (Str.ofString "firsts", .unset), (Str.ofString "turn", .unset), (Str.ofString "alike", .unset), (Str.ofString "j", .unset), (Str.ofString "when", .unset)], hd⟩ _ _
  have hn0 : (rg.length : Int) ≠ 0 := by omega
  have hP0 : (P : Int) ≠ 0 := by omega
  refine Xs.cons ?_
  repeat' walk_at "m_ev"
  refine k_len (by simp; omega) ?_
  rw [List.length_map]
  walk_at "m_ev"
  refine Xs.cons (x_compL (kn.loc _ (by decide +kernel)) (by decide +kernel) (comp1' [Str.ofString "k"] [Str.ofString "ring"] [Str.ofString "ring", Str.ofString "parts", Str.ofString "size", Str.ofString "coloured", Str.ofString "ways", Str.ofString "k", Str.ofString "way", Str.ofString "ahead", Str.ofString "least", Str.ofString "lean", Str.ofString "firsts", Str.ofString "turn", Str.ofString "alike", Str.ofString "j", Str.ofString "when"] kn h2 (by decide +kernel) (by decide +kernel) rfl (by decide +kernel) (by intro _; rfl) ?_))
  repeat' walk_at "m_ev"
  refine k_range (by omega) ?_
  refine cdo ((List.range rg.length).map fun i : Nat => D.int ((0 + i : Nat) : Int)) [(Str.ofString "ring", _)] rfl (by simp; omega) (.cons (by walk_at "m_at") .nil) fun F' l1 l2 l3 => ?_
  refine citems_name (fun d => match d with | .int k => isCol rg k | _ => false) id (by simp; omega) (fun d hd' B hB => ?_) (fun d hd' hp' Q hQ => ?_) (fun sl => ?_)
  · obtain ⟨k, hk, rfl⟩ := List.mem_map.mp hd'
    have hk' := List.mem_range.mp hk
    show Tst X F' _ _ _
    repeat' walk_at "m_ev"
    refine s_lst (d := (rgI rg ((0 + k : Nat) : Int)).d) (by omega) (by omega) (by rw [Nat.zero_add]; exact rg_atN hk') ?_
    walk_at "m_ev"
    refine s_tup (d := .int (rgI rg ((0 + k : Nat) : Int)).s) (by decide) (by decide) rfl ?_
    repeat' walk_at "m_ev"
    exact hB
  · walk_at "m_ev"
    exact hQ
  show PutK _ (.dat (.lst _)) _ _
  rw [col_filter]
  walk_at "m_ev"
  refine Xs.cons (x_new fun a => ?_)
  walk_at "m_ev"
  refine Xs.step (fun st => ∃ (v1 v2 v3 : Slot), st = ⟨[(Str.ofString "ring", .dat (.lst (rg.map Sp.d))), (Str.ofString "parts", .dat (.int P)), (Str.ofString "size", .dat (.int rg.length)), (Str.ofString "coloured", .dat (.lst ((colL rg).map .int))), (Str.ofString "ways", .own a ((waysOf rg P rg.length).map Sp.d)), (Str.ofString "k", v1), (Str.ofString "way", v2), (Str.ofString "ahead", v3), (Str.ofString "least", .unset), (Str.ofString "lean", .unset), (Str.ofString "firsts", .unset), (Str.ofString "turn", .unset), (Str.ofString "alike", .unset), (Str.ofString "j", .unset), (Str.ofString "when", .unset)], hd⟩) ?_ ?_
  · refine X1.for ?_
    repeat' walk_at "m_ev"
    refine k_range (by omega) ?_
    refine ⟨_, rfl, by simp; omega, ?_⟩
    refine loop_inv (fun ds st => ∃ (k m : Nat) (v1 v2 v3 : Slot), ds = ((List.range m).map fun i : Nat => D.int ((k + i : Nat) : Int)) ∧ k + m = rg.length ∧ st = ⟨[(Str.ofString "ring", .dat (.lst (rg.map Sp.d))), (Str.ofString "parts", .dat (.int P)), (Str.ofString "size", .dat (.int rg.length)), (Str.ofString "coloured", .dat (.lst ((colL rg).map .int))), (Str.ofString "ways", .own a ((waysOf rg P k).map Sp.d)), (Str.ofString "k", v1), (Str.ofString "way", v2), (Str.ofString "ahead", v3), (Str.ofString "least", .unset), (Str.ofString "lean", .unset), (Str.ofString "firsts", .unset), (Str.ofString "turn", .unset), (Str.ofString "alike", .unset), (Str.ofString "j", .unset), (Str.ofString "when", .unset)], hd⟩) ?_ ?_ _ _ ⟨0, rg.length, _, _, _, by simp, by omega, rfl⟩
    · rintro dd ds st ⟨k, m, v1, v2, v3, e1, e2, rfl⟩
      cases m with
      | zero => cases e1
      | succ m =>
        rw [List.range_succ_eq_map, List.map_cons] at e1
        obtain ⟨rfl, rfl⟩ := List.cons.inj e1
        rw [show ((k + 0 : Nat) : Int) = (k : Int) from rfl]
        have hk : k < rg.length := by omega
        walk_at "m_ev"
        walk_at "m_ev"
        refine Xs.cons ?_
        walk_at "m_ev"
        walk_at "m_ev"
        walk_at "m_ev"
        refine Xs.step (fun st => ∃ (v3 : Slot), st = ⟨[(Str.ofString "ring", .dat (.lst (rg.map Sp.d))), (Str.ofString "parts", .dat (.int P)), (Str.ofString "size", .dat (.int rg.length)), (Str.ofString "coloured", .dat (.lst ((colL rg).map .int))), (Str.ofString "ways", .own a ((waysOf rg P k).map Sp.d)), (Str.ofString "k", .dat (.int k)), (Str.ofString "way", .dat (.int (wayOf rg P k))), (Str.ofString "ahead", v3), (Str.ofString "least", .unset), (Str.ofString "lean", .unset), (Str.ofString "firsts", .unset), (Str.ofString "turn", .unset), (Str.ofString "alike", .unset), (Str.ofString "j", .unset), (Str.ofString "when", .unset)], hd⟩) ?_ ?_
        · repeat' walk_at "m_ev"
          refine c_inL rfl (ok_ints _) (by simp [D.py, PyData.depth]) ?_
          rw [any_ints, mem_colN hk]
          refine both (fun hb => ?_) (fun hb => ?_)
          · repeat' walk_at "m_ev"
            refine x_while (fun f st => ∃ m : Int, m + f = rg.length ∧ 1 ≤ m ∧ seek (isCol rg) k m f = seek (isCol rg) k 1 (rg.length - 1) ∧ st = ⟨[(Str.ofString "ring", .dat (.lst (rg.map Sp.d))), (Str.ofString "parts", .dat (.int P)), (Str.ofString "size", .dat (.int rg.length)), (Str.ofString "coloured", .dat (.lst ((colL rg).map .int))), (Str.ofString "ways", .own a ((waysOf rg P k).map Sp.d)), (Str.ofString "k", .dat (.int k)), (Str.ofString "way", .dat (.int 0)), (Str.ofString "ahead", .dat (.int (k - m))), (Str.ofString "least", .unset), (Str.ofString "lean", .unset), (Str.ofString "firsts", .unset), (Str.ofString "turn", .unset), (Str.ofString "alike", .unset), (Str.ofString "j", .unset), (Str.ofString "when", .unset)], hd⟩) (rg.length - 1) ⟨1, by omega, by omega, rfl, rfl⟩ ?_
            rintro f st ⟨m, e1, e2, e3, rfl⟩
            repeat' walk_at "m_ev"
            refine c_ninL rfl (ok_ints _) (by simp [D.py, PyData.depth]) ?_
            rw [any_ints, mem_col hn]
            refine both (fun hc => ?_) (fun hc => ?_)
            · have hc' : isCol rg (k - m) = false := by simpa using hc
              cases f with
              | zero =>
                exfalso
                rw [show m = rg.length by omega, isCol_sub hn, hb] at hc'
                cases hc'
              | succ f =>
                refine Xs.cons (x_subI (by walk_at "m_at") ?_)
                repeat' walk_at "m_ev"
                refine ⟨1, rfl, ?_⟩
                repeat' walk_at "m_ev"
                refine ⟨f, by omega, m + 1, by omega, by omega, by rw [← e3, seek_miss hc'], ?_⟩
                rw [show (k : Int) - m - 1 = k - (m + 1) by omega]
            · have hc' : isCol rg (k - m) = true := by simpa using hc
              have e4 : (k : Int) - m = prevOf rg k := by unfold prevOf; rw [← e3, seek_hit hc']
              rw [e4]
              repeat' walk_at "m_ev"
              refine s_lst (d := (rgI rg k).d) (by omega) (by omega) (rg_atN hk) ?_
              walk_at "m_ev"
              refine s_tup (d := .int (rgI rg k).h) (by decide) (by decide) rfl ?_
              repeat' walk_at "m_ev"
              refine s_lst (d := (rgI rg (prevOf rg k)).d) (Int.fmod_nonneg_of_pos _ (by omega)) (Int.lt_trans (Int.fmod_lt_of_pos _ (by omega : (0 : Int) < rg.length)) (by omega)) (rg_at hn _) ?_
              walk_at "m_ev"
              refine s_tup (d := .int (rgI rg (prevOf rg k)).h) (by decide) (by decide) rfl ?_
              repeat' walk_at "m_ev"
              have ew : wayOf rg P k = ((rgI rg k).h - (rgI rg (prevOf rg k)).h).fmod P := by rw [wayOf, if_pos hb]
              rw [ew]
              exact ⟨_, rfl⟩
          · repeat' walk_at "m_ev"
            have ew : wayOf rg P k = 0 := by rw [wayOf, if_neg (by rw [hb]; decide)]
            rw [ew]
            exact ⟨_, rfl⟩
        · rintro st ⟨v3, rfl⟩
          refine Xs.cons (x_append (by walk_at "m_at") ?_ (by rw [List.length_map, ways_len]; omega))
          repeat' walk_at "m_ev"
          refine s_lst (d := (rgI rg k).d) (by omega) (by omega) (rg_atN hk) ?_
          walk_at "m_ev"
          refine s_tup (d := .int (rgI rg k).s) (by decide) (by decide) rfl ?_
          repeat' walk_at "m_ev"
          refine s_lst (d := (rgI rg k).d) (by omega) (by omega) (rg_atN hk) ?_
          walk_at "m_ev"
          refine s_tup (d := .int (rgI rg k).l) (by decide) (by decide) rfl ?_
          repeat' walk_at "m_ev"
          refine ⟨by walk_at "m_at", ?_⟩
          have ew : (waysOf rg P k).map Sp.d ++ [D.tup [.int (wayOf rg P k), .int (rgI rg k).s, .int (rgI rg k).l]] = (waysOf rg P (k + 1)).map Sp.d := by rw [ways_succ, List.map_append]; rfl
          rw [ew]
          repeat' walk_at "m_ev"
          exact ⟨k + 1, m, _, _, _, by rw [List.map_map]; refine List.map_congr_left fun i _ => ?_; show D.int _ = D.int _; congr 2; omega, by omega, rfl⟩
    · rintro st ⟨k, m, v1, v2, v3, e1, e2, rfl⟩
      have hm : m = 0 := by have := congrArg List.length e1; simp at this; omega
      obtain rfl : k = rg.length := by omega
      exact ⟨_, _, _, rfl⟩
  rintro st ⟨v1, v2, v3, rfl⟩
  generalize hws : waysOf rg P rg.length = ws
  have hwl : ws.length = rg.length := by rw [← hws, ways_len]
  refine Xs.cons (x_ghost (x := Str.ofString "ways") (by walk_at "m_at") ?_)
  repeat' walk_at "m_ev"
  refine e_comp (comp1' [Str.ofString "k"] [Str.ofString "ways"] [Str.ofString "ring", Str.ofString "parts", Str.ofString "size", Str.ofString "coloured", Str.ofString "ways", Str.ofString "k", Str.ofString "way", Str.ofString "ahead", Str.ofString "least", Str.ofString "lean", Str.ofString "firsts", Str.ofString "turn", Str.ofString "alike", Str.ofString "j", Str.ofString "when"] kn h2 (by decide +kernel) (by decide +kernel) rfl (by decide +kernel) (by intro _; rfl) ?_)
  repeat' walk_at "m_ev"
  refine k_range2 ?_
  refine cdo ((List.range rg.length).map fun i : Nat => D.int ((1 + i : Nat) : Int)) [(Str.ofString "ways", _)] rfl (by simp; omega) (.cons (by walk_at "m_at") .nil) fun F' l1 l2 l3 => ?_
  refine citems_name (fun d => match d with | .int k => sameB (rot ws k.toNat) ws | _ => false) id (by simp; omega) (fun d hd' B hB => ?_) (fun d hd' hp' Q hQ => ?_) (fun sl => ?_)
  · obtain ⟨i, hi, rfl⟩ := List.mem_map.mp hd'
    have hi' := List.mem_range.mp hi
    have ea : pick (ws.map Sp.d) (.some ((1 + i : Nat) : Int)) .none ++ pick (ws.map Sp.d) .none (.some ((1 + i : Nat) : Int)) = (rot ws (1 + i)).map Sp.d := by
      rw [pick_from (by omega), pick_upto (by omega), Int.toNat_natCast, ← List.map_drop, ← List.map_take, ← List.map_append]; rfl
    have hpl : (pick (ws.map Sp.d) (.some ((1 + i : Nat) : Int)) .none).length + (pick (ws.map Sp.d) .none (.some ((1 + i : Nat) : Int))).length ≤ 1000000 := by
      rw [← List.length_append, ea, List.length_map, rot_len]; omega
    show Tst X F' _ _ _
    refine Tst.cmp (Ev.binop (Ev.slice ?_))
    walk_at "m_ev"
    refine EvO.some ?_
    walk_at "m_ev"
    refine ⟨_, rfl, EvO.none ⟨_, rfl, by simp; omega, ?_⟩⟩
    refine Ev.slice ?_
    walk_at "m_ev"
    refine EvO.none (EvO.some ?_)
    walk_at "m_ev"
    refine ⟨_, rfl, _, rfl, by simp; omega, ?_⟩
    refine b_addL hpl ?_
    rw [ea]
    walk_at "m_ev"
    refine c_eqD (by rw [D.ok]; exact ok_sps _) (by rw [D.ok]; exact ok_sps _) (dp_spl _) ?_
    exact hB
  · walk_at "m_ev"
    exact hQ
  rw [least_filter]
  walk_at "m_ev"
  refine k_minL (least_ne (by omega) hwl) fun m hm hmin => ?_
  obtain ⟨per, rfl, ok⟩ := least_ok (p := P) hws (by omega) hm hmin
  have hR := h per ok
  have hle := ok.le
  have hpos := ok.pos
  have hper0 : (per : Int) ≠ 0 := by omega
  have hln := lean_rng (rg := rg) (P := P) (per := per) hp.1
  have htn := turns_rng hpos hle
  have hcl6 : (colL rg).length ≤ 6 := by
    unfold colL; rw [List.length_map]
    exact Nat.le_trans (List.length_filter_le _ _) (by rw [List.length_range]; omega)
  clear hm hmin h ok
  walk_at "m_ev"
  refine Xs.cons ?_
  walk_at "m_ev"
  walk_at "m_ev"
  walk_at "m_ev"
  refine Xs.step (fun st => st = ⟨[(Str.ofString "ring", .dat (.lst (rg.map Sp.d))), (Str.ofString "parts", .dat (.int P)), (Str.ofString "size", .dat (.int rg.length)), (Str.ofString "coloured", .dat (.lst ((colL rg).map .int))), (Str.ofString "ways", .dat (.lst (ws.map Sp.d))), (Str.ofString "k", v1), (Str.ofString "way", v2), (Str.ofString "ahead", v3), (Str.ofString "least", .dat (.int per)), (Str.ofString "lean", .dat (.int (leanOf rg P per))), (Str.ofString "firsts", .unset), (Str.ofString "turn", .unset), (Str.ofString "alike", .unset), (Str.ofString "j", .unset), (Str.ofString "when", .unset)], hd⟩) ?_ ?_
  · repeat' walk_at "m_ev"
    refine t_lst (by rw [List.length_map]; omega) ?_
    rcases hcl : colL rg with _ | ⟨c, cr⟩
    · refine both_f ?_
      walk_at "m_ev"
      have el : leanOf rg P per = 0 := by unfold leanOf; rw [hcl]
      rw [el]
    · refine both_t ?_
      have el : leanOf rg P per = ((rgI rg (c + per)).h - (rgI rg c).h).fmod P := by unfold leanOf; rw [hcl]
      obtain ⟨c', rfl, hc1, hc2⟩ := col_nat (rg := rg) (x := c) (by rw [hcl]; exact .head _)
      repeat' walk_at "m_ev"
      refine s_lstI (by decide) rfl (fun _ _ => rfl) ?_
      repeat' walk_at "m_ev"
      refine s_lst (d := (rgI rg ((c' : Int) + per)).d) (Int.fmod_nonneg_of_pos _ (by omega)) (Int.lt_trans (Int.fmod_lt_of_pos _ (by omega : (0 : Int) < rg.length)) (by omega)) (rg_at hn _) ?_
      walk_at "m_ev"
      refine s_tup (d := .int (rgI rg ((c' : Int) + per)).h) (by decide) (by decide) rfl ?_
      repeat' walk_at "m_ev"
      refine s_lstI (by decide) rfl (fun _ _ => rfl) ?_
      refine s_lst (d := (rgI rg c').d) (by omega) (by omega) (rg_atN hc1) ?_
      walk_at "m_ev"
      refine s_tup (d := .int (rgI rg c').h) (by decide) (by decide) rfl ?_
      repeat' walk_at "m_ev"
      rw [el]
  rintro st rfl
  refine Xs.cons (x_new fun b => ?_)
  walk_at "m_ev"
  refine Xs.cons (X1.for ?_)
  repeat' walk_at "m_ev"
  refine k_range (by omega) ?_
  refine ⟨_, rfl, by simp; omega, ?_⟩
  refine loop_inv (fun ds st => ∃ (t m : Nat) (v1 v4 v5 v6 v7 : Slot), ds = ((List.range m).map fun i : Nat => D.int ((t + i : Nat) : Int)) ∧ t + m = P ∧ st = ⟨[(Str.ofString "ring", .dat (.lst (rg.map Sp.d))), (Str.ofString "parts", .dat (.int P)), (Str.ofString "size", .dat (.int rg.length)), (Str.ofString "coloured", .dat (.lst ((colL rg).map .int))), (Str.ofString "ways", .dat (.lst (ws.map Sp.d))), (Str.ofString "k", v1), (Str.ofString "way", v2), (Str.ofString "ahead", v3), (Str.ofString "least", .dat (.int per)), (Str.ofString "lean", .dat (.int (leanOf rg P per))), (Str.ofString "firsts", .own b ((List.range (t * rg.length)).map fun i => D.int (firstF rg P per i))), (Str.ofString "turn", v4), (Str.ofString "alike", v5), (Str.ofString "j", v6), (Str.ofString "when", v7)], hd⟩) ?_ ?_ _ _ ⟨0, P, _, _, _, _, _, by simp, by omega, by rw [Nat.zero_mul]; rfl⟩
  · rintro dd ds st ⟨t, m, v1, v4, v5, v6, v7, e1, e2, rfl⟩
    cases m with
    | zero => cases e1
    | succ m =>
      rw [List.range_succ_eq_map, List.map_cons] at e1
      obtain ⟨rfl, rfl⟩ := List.cons.inj e1
      rw [show ((t + 0 : Nat) : Int) = (t : Int) from rfl]
      walk_at "m_ev"
      walk_at "m_ev"
      refine Xs.step (fun st => ∃ (v1 v5 v6 v7 : Slot), st = ⟨[(Str.ofString "ring", .dat (.lst (rg.map Sp.d))), (Str.ofString "parts", .dat (.int P)), (Str.ofString "size", .dat (.int rg.length)), (Str.ofString "coloured", .dat (.lst ((colL rg).map .int))), (Str.ofString "ways", .dat (.lst (ws.map Sp.d))), (Str.ofString "k", v1), (Str.ofString "way", v2), (Str.ofString "ahead", v3), (Str.ofString "least", .dat (.int per)), (Str.ofString "lean", .dat (.int (leanOf rg P per))), (Str.ofString "firsts", .own b ((List.range (t * rg.length + rg.length)).map fun i => D.int (firstF rg P per i))), (Str.ofString "turn", .dat (.int t)), (Str.ofString "alike", v5), (Str.ofString "j", v6), (Str.ofString "when", v7)], hd⟩) ?_ ?_
      · refine X1.for ?_
        repeat' walk_at "m_ev"
        refine k_range (by omega) ?_
        refine ⟨_, rfl, by simp; omega, ?_⟩
        refine loop_inv (fun ds st => ∃ (k m : Nat) (v1 v5 v6 v7 : Slot), ds = ((List.range m).map fun i : Nat => D.int ((k + i : Nat) : Int)) ∧ k + m = rg.length ∧ st = ⟨[(Str.ofString "ring", .dat (.lst (rg.map Sp.d))), (Str.ofString "parts", .dat (.int P)), (Str.ofString "size", .dat (.int rg.length)), (Str.ofString "coloured", .dat (.lst ((colL rg).map .int))), (Str.ofString "ways", .dat (.lst (ws.map Sp.d))), (Str.ofString "k", v1), (Str.ofString "way", v2), (Str.ofString "ahead", v3), (Str.ofString "least", .dat (.int per)), (Str.ofString "lean", .dat (.int (leanOf rg P per))), (Str.ofString "firsts", .own b ((List.range (t * rg.length + k)).map fun i => D.int (firstF rg P per i))), (Str.ofString "turn", .dat (.int t)), (Str.ofString "alike", v5), (Str.ofString "j", v6), (Str.ofString "when", v7)], hd⟩) ?_ ?_ _ _ ⟨0, rg.length, _, _, _, _, by simp, by omega, rfl⟩
        · rintro dd ds st ⟨k, m, v1, v5, v6, v7, e1, e2, rfl⟩
          cases m with
          | zero => cases e1
          | succ m =>
            rw [List.range_succ_eq_map, List.map_cons] at e1
            obtain ⟨rfl, rfl⟩ := List.cons.inj e1
            rw [show ((k + 0 : Nat) : Int) = (k : Int) from rfl]
            have hk : k < rg.length := by omega
            have htk : t * rg.length + k ≤ 1000000 := by
              have : t * rg.length ≤ 8 * 6 := Nat.mul_le_mul (by omega) hn'
              omega
            walk_at "m_ev"
            walk_at "m_ev"
            refine Xs.cons (x_new fun g => ?_)
            walk_at "m_ev"
            refine Xs.step (fun st => ∃ (v6 v7 : Slot), st = ⟨[(Str.ofString "ring", .dat (.lst (rg.map Sp.d))), (Str.ofString "parts", .dat (.int P)), (Str.ofString "size", .dat (.int rg.length)), (Str.ofString "coloured", .dat (.lst ((colL rg).map .int))), (Str.ofString "ways", .dat (.lst (ws.map Sp.d))), (Str.ofString "k", .dat (.int k)), (Str.ofString "way", v2), (Str.ofString "ahead", v3), (Str.ofString "least", .dat (.int per)), (Str.ofString "lean", .dat (.int (leanOf rg P per))), (Str.ofString "firsts", .own b ((List.range (t * rg.length + k)).map fun i => D.int (firstF rg P per i))), (Str.ofString "turn", .dat (.int t)), (Str.ofString "alike", .own g ((alike rg P per t k (turnsOf rg per)).map D.int)), (Str.ofString "j", v6), (Str.ofString "when", v7)], hd⟩) ?_ ?_
            · refine X1.for ?_
              repeat' walk_at "m_ev"
              refine k_range htn.1 ?_
              refine ⟨_, rfl, by simp only [List.length_map, List.length_range]; exact Nat.le_trans htn.2.2 (by omega), ?_⟩
              refine loop_inv (fun ds st => ∃ (j m : Nat) (v6 v7 : Slot), ds = ((List.range m).map fun i : Nat => D.int ((j + i : Nat) : Int)) ∧ j + m = turnsOf rg per ∧ st = ⟨[(Str.ofString "ring", .dat (.lst (rg.map Sp.d))), (Str.ofString "parts", .dat (.int P)), (Str.ofString "size", .dat (.int rg.length)), (Str.ofString "coloured", .dat (.lst ((colL rg).map .int))), (Str.ofString "ways", .dat (.lst (ws.map Sp.d))), (Str.ofString "k", .dat (.int k)), (Str.ofString "way", v2), (Str.ofString "ahead", v3), (Str.ofString "least", .dat (.int per)), (Str.ofString "lean", .dat (.int (leanOf rg P per))), (Str.ofString "firsts", .own b ((List.range (t * rg.length + k)).map fun i => D.int (firstF rg P per i))), (Str.ofString "turn", .dat (.int t)), (Str.ofString "alike", .own g ((alike rg P per t k j).map D.int)), (Str.ofString "j", v6), (Str.ofString "when", v7)], hd⟩) ?_ ?_ _ _ ⟨0, turnsOf rg per, _, _, by simp only [Nat.zero_add]; rfl, by omega, rfl⟩
              · rintro dd ds st ⟨j, m, v6, v7, e1, e2, rfl⟩
                cases m with
                | zero => cases e1
                | succ m =>
                  rw [List.range_succ_eq_map, List.map_cons] at e1
                  obtain ⟨rfl, rfl⟩ := List.cons.inj e1
                  rw [show ((j + 0 : Nat) : Int) = (j : Int) from rfl]
                  have hj6 : j ≤ 6 := by have := htn.2.2; omega
                  walk_at "m_ev"
                  walk_at "m_ev"
                  refine Xs.step (fun st => st = ⟨[(Str.ofString "ring", .dat (.lst (rg.map Sp.d))), (Str.ofString "parts", .dat (.int P)), (Str.ofString "size", .dat (.int rg.length)), (Str.ofString "coloured", .dat (.lst ((colL rg).map .int))), (Str.ofString "ways", .dat (.lst (ws.map Sp.d))), (Str.ofString "k", .dat (.int k)), (Str.ofString "way", v2), (Str.ofString "ahead", v3), (Str.ofString "least", .dat (.int per)), (Str.ofString "lean", .dat (.int (leanOf rg P per))), (Str.ofString "firsts", .own b ((List.range (t * rg.length + k)).map fun i => D.int (firstF rg P per i))), (Str.ofString "turn", .dat (.int t)), (Str.ofString "alike", .own g ((alike rg P per t k j).map D.int)), (Str.ofString "j", .dat (.int j)), (Str.ofString "when", .dat (.int (whenOf rg P per t k j)))], hd⟩) ?_ ?_
                  · repeat' walk_at "m_ev"
                    refine t_lst (by rw [List.length_map]; omega) ?_
                    refine both (fun hb => ?_) (fun hb => ?_)
                    · have ew : whenOf rg P per t k j = ((t : Int) + ((k : Int).fdiv per - j) * leanOf rg P per).fmod P := by
                        unfold whenOf; rw [if_neg]
                        simpa using hb
                      repeat' walk_at "m_ev"
                      rw [ew]
                    · have ew : whenOf rg P per t k j = 0 := by
                        unfold whenOf; rw [if_pos]
                        simpa using hb
                      repeat' walk_at "m_ev"
                      rw [ew]
                  · rintro st rfl
                    refine Xs.cons (x_append (by walk_at "m_at") ?_ (by rw [List.length_map, alike_len]; omega))
                    repeat' walk_at "m_ev"
                    refine ⟨by walk_at "m_at", ?_⟩
                    have ea : (alike rg P per t k j).map D.int ++ [D.int (whenOf rg P per t k j * rg.length + j * per + (k : Int).fmod per)] = (alike rg P per t k (j + 1)).map D.int := by rw [alike_succ, List.map_append]; rfl
                    rw [ea]
                    repeat' walk_at "m_ev"
                    exact ⟨j + 1, m, _, _, by rw [List.map_map]; refine List.map_congr_left fun i _ => ?_; show D.int _ = D.int _; congr 2; omega, by omega, rfl⟩
              · rintro st ⟨j, m, v6, v7, e1, e2, rfl⟩
                have hm : m = 0 := by have := congrArg List.length e1; simp at this; omega
                obtain rfl : j = turnsOf rg per := by omega
                exact ⟨_, _, rfl⟩
            · rintro st ⟨v6, v7, rfl⟩
              refine Xs.cons (x_append (by walk_at "m_at") ?_ (by rw [List.length_map, List.length_range]; omega))
              repeat' walk_at "m_ev"
              refine e_frz (by walk_at "m_at") ?_
              repeat' walk_at "m_ev"
              refine k_minL (List.ne_nil_of_length_pos (by rw [alike_len]; omega)) fun x hx hmin => ?_
              obtain rfl := minOf_is hx hmin
              refine ⟨by walk_at "m_at", ?_⟩
              have ef : ((List.range (t * rg.length + k)).map fun i => D.int (firstF rg P per i)) ++ [D.int (minOf (alike rg P per t k (turnsOf rg per)))] = (List.range (t * rg.length + (k + 1))).map fun i => D.int (firstF rg P per i) := by
                rw [← Nat.add_assoc, List.range_succ, List.map_append, List.map_singleton]
                unfold firstF
                rw [show (t * rg.length + k) / rg.length = t by rw [Nat.mul_comm, Nat.mul_add_div hn, Nat.div_eq_of_lt hk, Nat.add_zero], show (t * rg.length + k) % rg.length = k by rw [Nat.mul_comm, Nat.mul_add_mod, Nat.mod_eq_of_lt hk]]
              rw [ef]
              repeat' walk_at "m_ev"
              exact ⟨k + 1, m, _, _, _, _, by rw [List.map_map]; refine List.map_congr_left fun i _ => ?_; show D.int _ = D.int _; congr 2; omega, by omega, rfl⟩
        · rintro st ⟨k, m, v1, v5, v6, v7, e1, e2, rfl⟩
          have hm : m = 0 := by have := congrArg List.length e1; simp at this; omega
          obtain rfl : k = rg.length := by omega
          exact ⟨_, _, _, _, rfl⟩
      · rintro st ⟨v1, v5, v6, v7, rfl⟩
        repeat' walk_at "m_ev"
        exact ⟨t + 1, m, _, _, _, _, _, by rw [List.map_map]; refine List.map_congr_left fun i _ => ?_; show D.int _ = D.int _; congr 2; omega, by omega, by rw [Nat.succ_mul]⟩
  · rintro st ⟨t, m, v1, v4, v5, v6, v7, e1, e2, rfl⟩
    have hm : m = 0 := by have := congrArg List.length e1; simp at this; omega
    obtain rfl : t = P := by omega
    refine Xs.cons (X1.ret (e_frz (by walk_at "m_at") ?_))
    walk_at "m_ev"
    exact hR
end
section
def base (g : Bool) : Nat := if g then 65 else 97
theorem item_eq (g : Bool) (n : Int) : Txt.item (signsOf g) (n.fmod 17) = ⟨#[base g + (n.fmod 17).toNat]⟩ := by
  have lo : 0 ≤ n.fmod 17 := Int.fmod_nonneg_of_pos _ (by decide)
  have up : n.fmod 17 < 17 := Int.fmod_lt_of_pos _ (by decide)
  have key : ∀ k : Fin 17, ∀ g : Bool, Txt.item (signsOf g) (k.val : Int) = ⟨#[base g + k.val]⟩ := by decide +kernel
  have := key ⟨(n.fmod 17).toNat, by omega⟩ g
  have e : (((n.fmod 17).toNat : Nat) : Int) = n.fmod 17 := Int.toNat_of_nonneg lo
  simp only [e] at this
  exact this
theorem glued_single (f : Int → Nat) : ∀ c : List Int, Str.join ⟨#[]⟩ (c.map fun n => (⟨#[f n]⟩ : Str)) = ⟨(c.map f).toArray⟩
  | [] => rfl
  | n :: c => by
    rw [List.map_cons, PyProof.Rows.join_nil_cons, glued_single f c]
    show (⟨#[f n] ++ (c.map f).toArray⟩ : Str) = _
    simp
theorem spell_eq (g : Bool) (c : List Int) : spell g c = ⟨(c.map fun n => base g + (n.fmod 17).toNat).toArray⟩ := by
  unfold spell Txt.join
  rw [PySem.StrLaws.glued_eq_join]
  have e : (c.map fun n => Txt.item (signsOf g) (n.fmod 17)) = c.map fun n => (⟨#[base g + (n.fmod 17).toNat]⟩ : Str) := List.map_congr_left fun n _ => item_eq g n
  rw [e]
  exact glued_single _ c
theorem base_lt (g : Bool) (n : Int) : 32 ≤ base g + (n.fmod 17).toNat ∧ base g + (n.fmod 17).toNat < 127 := by
  have lo : 0 ≤ n.fmod 17 := Int.fmod_nonneg_of_pos _ (by decide)
  have up : n.fmod 17 < 17 := Int.fmod_lt_of_pos _ (by decide)
  unfold base
  split <;> omega
theorem spell_plain (g : Bool) (c : List Int) : Plain (spell g c) := by
  rw [spell_eq]
  intro x hx
  have hx' : x ∈ (c.map fun n => base g + (n.fmod 17).toNat) := by simpa using hx
  obtain ⟨n, _, rfl⟩ := List.mem_map.mp hx'
  exact base_lt g n
theorem spell_lower (g : Bool) (c : List Int) : Txt.lower (spell g c) = spell false c := by
  have hp := spell_plain g c
  rw [PyProof.Rows.lower_ascii (fun x hx => by have := hp x (by simpa using hx); omega), spell_eq, spell_eq]
  have e : ∀ n : Int, PyProof.Rows.lo1 (base g + (n.fmod 17).toNat) = base false + (n.fmod 17).toNat := fun n => by
    have lo : 0 ≤ n.fmod 17 := Int.fmod_nonneg_of_pos _ (by decide)
    have up : n.fmod 17 < 17 := Int.fmod_lt_of_pos _ (by decide)
    unfold PyProof.Rows.lo1 base
    cases g
    · rw [if_neg (by simp; omega)]
    · rw [if_pos (by simp; omega)]; simp; omega
  simp [e]
theorem spell_length (g : Bool) (c : List Int) : (spell g c).length = c.length := by
  rw [spell_eq]; simp [Str.length]
def pstr (place : Int) : Str := Str.ofString (toString place)
theorem pstr_ok (place : Int) (h : 0 ≤ place ∧ place ≤ 48) : Plain (pstr place) ∧ (pstr place).length ≤ 100 ∧ place.natAbs.log2 < 1920 := by
  have key : ∀ k : Fin 49, ((pstr (k.val : Int)).cps.all fun c => decide (32 ≤ c ∧ c < 127)) = true ∧ (pstr (k.val : Int)).length ≤ 100 ∧ (k.val : Int).natAbs.log2 < 1920 := by decide +kernel
  have := key ⟨place.toNat, by omega⟩
  have e : ((place.toNat : Nat) : Int) = place := Int.toNat_of_nonneg h.1
  simp only [e] at this
  refine ⟨fun c hc => ?_, this.2⟩
  have := Array.all_eq_true_iff_forall_mem.mp this.1 c hc
  simpa using this
def nowC (rg : List Sp) (P t : Nat) : List I3 := rg.map fun sp => plainC sp t P
/-- what is read at a step -/
def rdC (rg : List Sp) (P i : Nat) : List Int := flat (rot (nowC rg P (i / rg.length)) (i % rg.length))
def oddB (i : Nat) : Bool := decide ((i : Int).fmod 2 = 1)
def entL (rg : List Sp) (P i : Nat) : Str × Str := (spell (oddB i) (rdC rg P i), pstr i)
def tabL (rg : List Sp) (P : Nat) (fs : Nat → Int) : Nat → List (Str × Str)
  | 0 => []
  | i + 1 => if fs i = i then tabL rg P fs i ++ [entL rg P i] else tabL rg P fs i
/-- what is asked of the firsts -/
structure LawOk (rg : List Sp) (P : Nat) (fs : Nat → Int) : Prop where
  rng : ∀ i < P * rg.length, 0 ≤ fs i ∧ fs i ≤ 48
  new : ∀ i < P * rg.length, fs i = i → getOf (tabL rg P fs i) (spell false (rdC rg P i)) = .none
  old : ∀ i < P * rg.length, fs i ≠ i → getOf (tabL rg P fs i) (spell false (rdC rg P i)) = .str (pstr (fs i))
  got : ∀ i < P * rg.length, getOf (tabL rg P fs (i + 1)) (spell false (rdC rg P i)) = .str (pstr (fs i))
def PsOk (P : Nat) : Prop := P = 1 ∨ P = 2 ∨ P = 4 ∨ P = 8
structure PC1 : Prop where
  draw : ∀ P, PsOk P → ∀ n : Int, DrawOk n P (plainC (spotOf n P) 0 P).l
  turn : ∀ P, PsOk P → ∀ (n : Int) (t : Nat), t < P → TurnOk P (decide ((t : Int).fmod 2 = 0)) (plainC (spotOf n P) t P) (plainC (spotOf n P) (t + 1 : Nat) P)
  back : ∀ P, PsOk P → ∀ n : Int, plainC (spotOf n P) P P = plainC (spotOf n P) 0 P
  law : ∀ P, PsOk P → ∀ nm : List Int, nm ≠ [] → nm.length ≤ 6 → ∀ per, PerOk (nm.map fun n => spotOf n P) P per → LawOk (nm.map fun n => spotOf n P) P (firstF (nm.map fun n => spotOf n P) P per)
theorem turnL_of {P : Nat} {even : Bool} {t : Nat} {rg : List Sp} (h : ∀ sp ∈ rg, TurnOk P even (plainC sp t P) (plainC sp (t + 1 : Nat) P)) : TurnL P even (nowC rg P t) (nowC rg P (t + 1)) := by
  unfold nowC
  induction rg with
  | nil => exact .nil
  | cons sp rg ih => exact .cons (h sp (.head _)) (ih fun sp' hs => h sp' (.tail _ hs))
theorem now_len (rg : List Sp) (P t : Nat) : (nowC rg P t).length = rg.length := by simp [nowC]
theorem rd_at {rg : List Sp} {P t k : Nat} (hk : k < rg.length) : flat (rot (nowC rg P t) k) = rdC rg P (t * rg.length + k) := by
  have hn : 0 < rg.length := by omega
  unfold rdC
  rw [show (t * rg.length + k) / rg.length = t by rw [Nat.mul_comm, Nat.mul_add_div hn, Nat.div_eq_of_lt hk, Nat.add_zero], show (t * rg.length + k) % rg.length = k by rw [Nat.mul_comm, Nat.mul_add_mod, Nat.mod_eq_of_lt hk]]
theorem rd_len (rg : List Sp) (P i : Nat) : (rdC rg P i).length = 3 * rg.length := by
  unfold rdC; rw [flat_len, rot_len, now_len]
theorem tab_len (rg : List Sp) (P : Nat) (fs : Nat → Int) : ∀ i, (tabL rg P fs i).length ≤ i
  | 0 => Nat.le_refl _
  | i + 1 => by
    have := tab_len rg P fs i
    rw [tabL]; split
    · rw [List.length_append]; simp; omega
    · omega
theorem tab_mem {rg : List Sp} {P : Nat} {fs : Nat → Int} {e : Str × Str} : ∀ {i}, e ∈ tabL rg P fs i → ∃ j, j < i ∧ e = entL rg P j
  | 0, h => nomatch h
  | i + 1, h => by
    rw [tabL] at h
    split at h
    · rcases List.mem_append.mp h with h | h
      · obtain ⟨j, h1, h2⟩ := tab_mem h; exact ⟨j, by omega, h2⟩
      · exact ⟨i, by omega, List.mem_singleton.mp h⟩
    · obtain ⟨j, h1, h2⟩ := tab_mem h; exact ⟨j, by omega, h2⟩
theorem Plain.strOk {x : Str} (h : Plain x) : PyData.strOk x = true := by
  unfold PyData.strOk
  exact Array.all_eq_true_iff_forall_mem.mpr fun c hc => by have := h c hc; simp; omega
theorem ent_plain {rg : List Sp} {P : Nat} {fs : Nat → Int} {i : Nat} (hi : i ≤ 48) {e : Str × Str} (h : e ∈ tabL rg P fs i) : Plain e.1 ∧ Plain e.2 := by
  obtain ⟨j, h1, rfl⟩ := tab_mem h
  exact ⟨spell_plain _ _, (pstr_ok _ ⟨by omega, by omega⟩).1⟩
theorem dp_all {n : Nat} : ∀ l : List D, (∀ d ∈ l, d.py.depth ≤ n) → PyData.depthAll (pyAll l) ≤ n
  | [], _ => by simp [pyAll, PyData.depthAll]
  | d :: l, h => by
    have h1 := h d (.head _)
    have h2 := dp_all l fun d hd => h d (.tail _ hd)
    simp only [pyAll, PyData.depthAll]
    omega
theorem dp_lst {l : List D} {n : Nat} (h : ∀ d ∈ l, d.py.depth ≤ n) : (D.lst l).py.depth ≤ n + 1 := by
  have := dp_all l h
  simp only [D.py, PyData.depth]; omega
theorem okAll_map {α : Type} (f : α → D) (l : List α) (h : ∀ x ∈ l, (f x).ok = true) : (D.lst (l.map f)).ok = true := by
  rw [D.ok]
  induction l with
  | nil => rfl
  | cons x l ih => rw [List.map_cons, okAll, h x (.head _), ih fun y hy => h y (.tail _ hy)]; rfl
theorem entD_ok (e : Str × Str) (h1 : Plain e.1) (h2 : Plain e.2) : (entD e).ok = true := by
  simp [entD, D.ok, okAll, h1.strOk, h2.strOk]
theorem dp_entD (e : Str × Str) : (entD e).py.depth ≤ 3 := by simp [entD, D.py, pyAll, PyData.depth, PyData.depthAll]
theorem c_eqSame {X : Cx} {F : Fm} {st : St} {B : Bool → St → Prop} {d : D} (hk : d.ok = true) (hdp : d.py.depth ≤ 30) (h : B true st) : CmpOk X F .Eq d d st B :=
  c_eqD hk hk hdp (by rw [SeqAt.eqv_refl _ (ok_lay d hk)]; exact h)
theorem c_neSame {X : Cx} {F : Fm} {st : St} {B : Bool → St → Prop} {d : D} (hk : d.ok = true) (hdp : d.py.depth ≤ 30) (h : B false st) : CmpOk X F .NotEq d d st B :=
  c_neD hk hk hdp (by rw [SeqAt.eqv_refl _ (ok_lay d hk)]; exact h)
def twice (x : Int) : D := .tup [.str (pstr x), .str (pstr x)]
theorem twice_ok (x : Int) (h : Plain (pstr x)) : (twice x).ok = true := by
  simp [twice, D.ok, okAll, h.strOk]
theorem dp_twice (x : Int) : (twice x).py.depth ≤ 3 := by simp [twice, D.py, pyAll, PyData.depth, PyData.depthAll]
theorem I3_ok (c : I3) : c.d.ok = true := rfl
theorem dp_I3 (c : I3) : c.d.py.depth ≤ 3 := by simp [I3.d, I3.l, D.py, pyAll, PyData.depth, PyData.depthAll]
theorem spot_rng (n : Int) (p : Nat) (hp : 1 ≤ p ∧ p ≤ 8) : (0 ≤ (spotOf n p).h ∧ (spotOf n p).h ≤ 8) ∧ (0 ≤ (spotOf n p).s ∧ (spotOf n p).s ≤ 2) ∧ 0 ≤ (spotOf n p).l ∧ (spotOf n p).l ≤ 2 := by
  have sl := slv_rng n
  have lo : 0 ≤ n.fmod p := Int.fmod_nonneg_of_pos _ (by omega)
  have up : n.fmod p < p := Int.fmod_lt_of_pos _ (by omega)
  unfold spotOf
  split <;> simp only [] <;> omega
end
section
local macro_rules | `(tactic| walk_at "m_sub") => `(tactic| first | ((with_reducible show Ev _ _ (Expr.Subscript _ (Expr.Slice ..) _) ..); refine Ev.slice ?_) | refine Ev.sub ?_)
def toldL (fs : Nat → Int) (i : Nat) : List D := (List.range i).map fun j => twice (fs j)
theorem told_len (fs : Nat → Int) (i : Nat) : (toldL fs i).length = i := by simp [toldL]
theorem step_lt {t P n k : Nat} (ht : t < P) (hk : k < n) : t * n + k < P * n := by
  have h : (t + 1) * n ≤ P * n := Nat.mul_le_mul_right n ht
  rw [Nat.succ_mul] at h; omega
theorem per_ex {rg : List Sp} {p : Int} (hn : 0 < rg.length) : ∃ per, PerOk rg p per := by
  obtain ⟨h1, h2⟩ := minOf_spec _ (least_ne hn (ways_len rg p rg.length))
  obtain ⟨per, _, h⟩ := least_ok rfl hn h1 h2
  exact ⟨per, h⟩
theorem per_one {rg : List Sp} {p : Int} {a b : Nat} (h : PerOk rg p a) (h' : PerOk rg p b) : a = b :=
  Nat.le_antisymm (h.min b h'.pos h'.le h'.eq) (h'.min a h.pos h.le h.eq)
theorem hue_rng {rg : List Sp} (h : ∀ sp ∈ rg, 0 ≤ sp.h ∧ sp.h ≤ 8) (i : Int) : 0 ≤ (rgI rg i).h ∧ (rgI rg i).h ≤ 8 := by
  unfold rgI
  rw [List.getD_eq_getElem?_getD]
  rcases e : rg[(i.fmod rg.length).toNat]? with _ | sp
  · exact ⟨by decide, by decide⟩
  · exact h sp (List.mem_of_getElem? e)
theorem law_ct {X : Cx} (C : CC X) (pc : PC1) (ns : List Int) (hns : ns.length ≤ 63) {R : D → Option Hd → Prop} (h : ∀ hd, R (.bool true) hd) : Fn X 4 258 [.lst (ns.map .int)] [] none R := by
  refine fn_enter [Str.ofString "script"] [.lst (ns.map .int)] [Str.ofString "parts", Str.ofString "numbers", Str.ofString "size", Str.ofString "begun", Str.ofString "table", Str.ofString "told", Str.ofString "now", Str.ofString "turn", Str.ofString "start", Str.ofString "step", Str.ofString "answer", Str.ofString "ring", Str.ofString "firsts", Str.ofString "due", Str.ofString "plain"] (by rw [C.k]; k_is) (by rw [C.k]; k_is) rfl ?_ (by decide +kernel) (by decide +kernel) (cells_nd (by decide +kernel)) ?_
  · exact bind1 fun _ _ => BindsTo.of_eq (by rfl)
  intro F L h1 h2 h3 h4
  have kn := Knd.of h4
  clear h4
  show Xs X F (_ :: _) ⟨[(Str.ofString "script", .dat (.lst (ns.map .int))), (Str.ofString "parts", .unset), (Str.ofString "numbers", .unset), (Str.ofString "size", .unset), (Str.ofString "begun", .unset), (Str.ofString "table", .unset), (Str.ofString "told", .unset), (Str.ofString "now", .unset), (Str.ofString "turn", .unset), (Str.ofString "start", .unset), (Str.ofString "step", .unset), (Str.ofString "answer", .unset), (Str.ofString "ring", .unset), (Str.ofString "firsts", .unset), (Str.ofString "due", .unset), (Str.ofString "plain", .unset)], none⟩ _ _
  refine Xs.step (fun st => ∃ P : Nat, PsOk P ∧ st = ⟨[(Str.ofString "script", .dat (.lst (ns.map .int))), (Str.ofString "parts", .dat (.int P)), (Str.ofString "numbers", .unset), (Str.ofString "size", .unset), (Str.ofString "begun", .unset), (Str.ofString "table", .unset), (Str.ofString "told", .unset), (Str.ofString "now", .unset), (Str.ofString "turn", .unset), (Str.ofString "start", .unset), (Str.ofString "step", .unset), (Str.ofString "answer", .unset), (Str.ofString "ring", .unset), (Str.ofString "firsts", .unset), (Str.ofString "due", .unset), (Str.ofString "plain", .unset)], none⟩) ?_ ?_
  · repeat' walk_at "m_ev"
    refine t_lst (by rw [List.length_map]; omega) ?_
    have fin : ∀ a : Int, a.fmod 4 = 0 ∨ a.fmod 4 = 1 ∨ a.fmod 4 = 2 ∨ a.fmod 4 = 3 := fun a => by
      have lo : 0 ≤ a.fmod 4 := Int.fmod_nonneg_of_pos _ (by decide)
      have up : a.fmod 4 < 4 := Int.fmod_lt_of_pos _ (by decide)
      omega
    cases ns with
    | nil =>
      refine both_f ?_
      repeat' walk_at "m_ev"
      refine s_lstI (by decide) rfl (fun _ _ => rfl) ?_
      repeat' walk_at "m_ev"
      exact ⟨4, by unfold PsOk; omega, rfl⟩
    | cons a ns =>
      refine both_t ?_
      repeat' walk_at "m_ev"
      refine s_lstI (by decide) rfl (fun _ _ => rfl) ?_
      repeat' walk_at "m_ev"
      rcases fin a with e | e | e | e <;> rw [e] <;> refine s_lstI (by decide) rfl (fun _ _ => rfl) ?_ <;> walk_at "m_ev"
      · exact ⟨4, by unfold PsOk; omega, rfl⟩
      · exact ⟨8, by unfold PsOk; omega, rfl⟩
      · exact ⟨2, by unfold PsOk; omega, rfl⟩
      · exact ⟨1, by unfold PsOk; omega, rfl⟩
  rintro st ⟨P, hP, rfl⟩
  have hP8 : 1 ≤ P ∧ P ≤ 8 := by unfold PsOk at hP; omega
  have hP0 : (P : Int) ≠ 0 := by omega
  refine Xs.step (fun st => ∃ nm : List Int, nm ≠ [] ∧ nm.length ≤ 6 ∧ st = ⟨[(Str.ofString "script", .dat (.lst (ns.map .int))), (Str.ofString "parts", .dat (.int P)), (Str.ofString "numbers", .dat (.lst (nm.map .int))), (Str.ofString "size", .unset), (Str.ofString "begun", .unset), (Str.ofString "table", .unset), (Str.ofString "told", .unset), (Str.ofString "now", .unset), (Str.ofString "turn", .unset), (Str.ofString "start", .unset), (Str.ofString "step", .unset), (Str.ofString "answer", .unset), (Str.ofString "ring", .unset), (Str.ofString "firsts", .unset), (Str.ofString "due", .unset), (Str.ofString "plain", .unset)], none⟩) ?_ ?_
  · have hcap : 0 ≤ (if (16 : Int).fdiv P < 6 then (16 : Int).fdiv P else 6) ∧ (if (16 : Int).fdiv P < 6 then (16 : Int).fdiv P else 6) ≤ 6 := by
      have : (0 : Int) ≤ (16 : Int).fdiv P := by rcases hP with rfl | rfl | rfl | rfl <;> decide
      split <;> omega
    refine x_assign (Ev.or2 (Ev.slice ?_))
    walk_at "m_ev"
    refine EvO.some ?_
    walk_at "m_ev"
    refine ⟨_, rfl, EvO.some ?_⟩
    repeat' walk_at "m_ev"
    refine k_min2 ?_
    walk_at "m_ev"
    generalize (if (16 : Int).fdiv P < 6 then (16 : Int).fdiv P else 6) = cap at hcap ⊢
    refine ⟨_, rfl, _, rfl, by simp; omega, ?_⟩
    have ep : pick (ns.map D.int) (.some 1) (.some (1 + cap)) = ((ns.drop 1).take ((1 + cap).toNat - 1)).map D.int := by
      rw [pick_mid (by decide) (by omega), List.map_take, List.map_drop]; rfl
    rw [ep]
    have hl6 : ((ns.drop 1).take ((1 + cap).toNat - 1)).length ≤ 6 := by rw [List.length_take]; omega
    generalize (ns.drop 1).take ((1 + cap).toNat - 1) = l at hl6 ⊢
    refine t_lst (by rw [List.length_map]; omega) ?_
    cases l with
    | nil =>
      show Ev X F _ _ _
      repeat' walk_at "m_ev"
      exact ⟨[1, 3], by simp, by decide, rfl⟩
    | cons a l =>
      show PutK _ (.dat (.lst ((a :: l).map .int))) _ _
      walk_at "m_ev"
      exact ⟨a :: l, by simp, hl6, rfl⟩
  rintro st ⟨nm, hnm, hnl, rfl⟩
  obtain ⟨rg, hrg⟩ : ∃ rg, (nm.map fun n => spotOf n P) = rg := ⟨_, rfl⟩
  have hlen : rg.length = nm.length := by rw [← hrg, List.length_map]
  have hn : 0 < rg.length := by rw [hlen]; exact List.length_pos_iff.mpr hnm
  have hn6 : rg.length ≤ 6 := by omega
  have hN : P * rg.length ≤ 8 * 6 := Nat.mul_le_mul hP8.2 hn6
  refine Xs.cons ?_
  repeat' walk_at "m_ev"
  refine k_len (by rw [List.length_map]; omega) ?_
  rw [List.length_map, ← hlen]
  walk_at "m_ev"
  refine Xs.cons (x_compL (kn.loc _ (by decide +kernel)) (by decide +kernel) (comp1' [Str.ofString "number"] [Str.ofString "parts"] [Str.ofString "script", Str.ofString "parts", Str.ofString "numbers", Str.ofString "size", Str.ofString "begun", Str.ofString "table", Str.ofString "told", Str.ofString "now", Str.ofString "turn", Str.ofString "start", Str.ofString "step", Str.ofString "answer", Str.ofString "ring", Str.ofString "firsts", Str.ofString "due", Str.ofString "plain"] kn h2 (by decide +kernel) (by decide +kernel) rfl (by decide +kernel) (by intro _; rfl) ?_))
  walk_at "m_ev"
  refine cdo (nm.map .int) [(Str.ofString "parts", _)] rfl (by rw [List.length_map]; omega) (.cons (by walk_at "m_at") .nil) fun F' l1 l2 l3 => ?_
  refine citems_name (fun _ => true) (fun d => match d with | .int n => (plainC (spotOf n P) 0 P).d | _ => .none) (by rw [List.length_map]; omega) (fun d hd B hB => hB) (fun d hd' hp' Q hQ => ?_) (fun sl => ?_)
  · obtain ⟨n, hn1, rfl⟩ := List.mem_map.mp hd'
    repeat' walk_at "m_ev"
    exact drawn_ct C n P hP0 _ (pc.draw P hP n) hQ
  have ebeg : (((nm.map D.int).filter fun _ => true).map fun d => match d with | .int n => (plainC (spotOf n P) 0 P).d | _ => .none) = (nowC rg P 0).map I3.d := by
    rw [List.filter_eq_self.mpr (fun _ _ => rfl), List.map_map, ← hrg, nowC, List.map_map, List.map_map]; rfl
  rw [ebeg]
  walk_at "m_ev"
  refine Xs.cons ?_
  walk_at "m_ev"
  refine e_new C (by walk_at "m_knd") (by walk_at "m_lv") rfl fun x H => ?_
  walk_at "m_ev"
  refine Xs.cons (x_new fun ad => ?_)
  walk_at "m_ev"
  refine Xs.cons ?_
  walk_at "m_ev"
  walk_at "m_ev"
  walk_at "m_ev"
  obtain ⟨per, hper⟩ := per_ex (p := P) hn
  obtain ⟨fs, hfs⟩ : ∃ fs, firstF rg P per = fs := ⟨_, rfl⟩
  have ok : LawOk rg P fs := by
    have := pc.law P hP nm hnm hnl per (by rw [hrg]; exact hper)
    rwa [hrg, hfs] at this
  have htb : ∀ i, i ≤ 48 → ∀ e ∈ tabL rg P fs i, e.1.length ≤ 100000 := fun i hi e he => by
    obtain ⟨j, _, rfl⟩ := tab_mem he
    show (spell _ _).length ≤ _
    rw [spell_length, rd_len]; omega
  have htl : ∀ i, i ≤ 48 → (tabL rg P fs i).length ≤ 1000000 := fun i hi => Nat.le_trans (tab_len _ _ _ _) (by omega)
  have hrl : ∀ g i, (spell g (rdC rg P i)).length ≤ 100000 := fun g i => by rw [spell_length, rd_len]; omega
  have hsp : ∀ sp ∈ rg, (0 ≤ sp.h ∧ sp.h ≤ 8) ∧ (0 ≤ sp.s ∧ sp.s ≤ 2) ∧ 0 ≤ sp.l ∧ sp.l ≤ 2 := fun sp hm => by
    rw [← hrg] at hm
    obtain ⟨n, _, rfl⟩ := List.mem_map.mp hm
    exact spot_rng n P hP8
  refine Xs.step (fun st => ∃ (v1 v2 v3 v4 : Slot), st = ⟨[(Str.ofString "script", .dat (.lst (ns.map .int))), (Str.ofString "parts", .dat (.int P)), (Str.ofString "numbers", .dat (.lst (nm.map .int))), (Str.ofString "size", .dat (.int rg.length)), (Str.ofString "begun", .dat (.lst ((nowC rg P 0).map I3.d))), (Str.ofString "table", .dat (.val (.ref x))), (Str.ofString "told", .own ad (toldL fs (P * rg.length))), (Str.ofString "now", .dat (.lst ((nowC rg P P).map I3.d))), (Str.ofString "turn", v1), (Str.ofString "start", v2), (Str.ofString "step", v3), (Str.ofString "answer", v4), (Str.ofString "ring", .unset), (Str.ofString "firsts", .unset), (Str.ofString "due", .unset), (Str.ofString "plain", .unset)], some ⟨x, H, tabL rg P fs (P * rg.length)⟩⟩) ?_ ?_
  · refine X1.for ?_
    repeat' walk_at "m_ev"
    refine k_range (by omega) ?_
    refine ⟨_, rfl, by simp; omega, ?_⟩
    refine loop_inv (fun ds st => ∃ (t m : Nat) (v1 v2 v3 v4 : Slot), ds = ((List.range m).map fun i : Nat => D.int ((t + i : Nat) : Int)) ∧ t + m = P ∧ st = ⟨[(Str.ofString "script", .dat (.lst (ns.map .int))), (Str.ofString "parts", .dat (.int P)), (Str.ofString "numbers", .dat (.lst (nm.map .int))), (Str.ofString "size", .dat (.int rg.length)), (Str.ofString "begun", .dat (.lst ((nowC rg P 0).map I3.d))), (Str.ofString "table", .dat (.val (.ref x))), (Str.ofString "told", .own ad (toldL fs (t * rg.length))), (Str.ofString "now", .dat (.lst ((nowC rg P t).map I3.d))), (Str.ofString "turn", v1), (Str.ofString "start", v2), (Str.ofString "step", v3), (Str.ofString "answer", v4), (Str.ofString "ring", .unset), (Str.ofString "firsts", .unset), (Str.ofString "due", .unset), (Str.ofString "plain", .unset)], some ⟨x, H, tabL rg P fs (t * rg.length)⟩⟩) ?_ ?_ _ _ ⟨0, P, _, _, _, _, by simp, by omega, by rw [Nat.zero_mul]; rfl⟩
    · rintro dd ds st ⟨t, m, v1, v2, v3, v4, e1, e2, rfl⟩
      cases m with
      | zero => cases e1
      | succ m =>
        rw [List.range_succ_eq_map, List.map_cons] at e1
        obtain ⟨rfl, rfl⟩ := List.cons.inj e1
        rw [show ((t + 0 : Nat) : Int) = (t : Int) from rfl]
        have htP : t < P := by omega
        walk_at "m_ev"
        walk_at "m_ev"
        refine Xs.step (fun st => ∃ (v2 v3 v4 : Slot), st = ⟨[(Str.ofString "script", .dat (.lst (ns.map .int))), (Str.ofString "parts", .dat (.int P)), (Str.ofString "numbers", .dat (.lst (nm.map .int))), (Str.ofString "size", .dat (.int rg.length)), (Str.ofString "begun", .dat (.lst ((nowC rg P 0).map I3.d))), (Str.ofString "table", .dat (.val (.ref x))), (Str.ofString "told", .own ad (toldL fs (t * rg.length + rg.length))), (Str.ofString "now", .dat (.lst ((nowC rg P t).map I3.d))), (Str.ofString "turn", .dat (.int t)), (Str.ofString "start", v2), (Str.ofString "step", v3), (Str.ofString "answer", v4), (Str.ofString "ring", .unset), (Str.ofString "firsts", .unset), (Str.ofString "due", .unset), (Str.ofString "plain", .unset)], some ⟨x, H, tabL rg P fs (t * rg.length + rg.length)⟩⟩) ?_ ?_
        · refine X1.for ?_
          repeat' walk_at "m_ev"
          refine k_range (by omega) ?_
          refine ⟨_, rfl, by simp; omega, ?_⟩
          refine loop_inv (fun ds st => ∃ (k m : Nat) (v2 v3 v4 : Slot), ds = ((List.range m).map fun i : Nat => D.int ((k + i : Nat) : Int)) ∧ k + m = rg.length ∧ st = ⟨[(Str.ofString "script", .dat (.lst (ns.map .int))), (Str.ofString "parts", .dat (.int P)), (Str.ofString "numbers", .dat (.lst (nm.map .int))), (Str.ofString "size", .dat (.int rg.length)), (Str.ofString "begun", .dat (.lst ((nowC rg P 0).map I3.d))), (Str.ofString "table", .dat (.val (.ref x))), (Str.ofString "told", .own ad (toldL fs (t * rg.length + k))), (Str.ofString "now", .dat (.lst ((nowC rg P t).map I3.d))), (Str.ofString "turn", .dat (.int t)), (Str.ofString "start", v2), (Str.ofString "step", v3), (Str.ofString "answer", v4), (Str.ofString "ring", .unset), (Str.ofString "firsts", .unset), (Str.ofString "due", .unset), (Str.ofString "plain", .unset)], some ⟨x, H, tabL rg P fs (t * rg.length + k)⟩⟩) ?_ ?_ _ _ ⟨0, rg.length, _, _, _, by simp, by omega, rfl⟩
          · rintro dd ds st ⟨k, m, v2, v3, v4, e1, e2, rfl⟩
            cases m with
            | zero => cases e1
            | succ m =>
              rw [List.range_succ_eq_map, List.map_cons] at e1
              obtain ⟨rfl, rfl⟩ := List.cons.inj e1
              rw [show ((k + 0 : Nat) : Int) = (k : Int) from rfl]
              have hk : k < rg.length := by omega
              have hrd := rd_at (P := P) (t := t) hk
              have hi : t * rg.length + k < P * rg.length := step_lt htP hk
              have es : (t : Int) * rg.length + k = ((t * rg.length + k : Nat) : Int) := by rw [Int.natCast_add, Int.natCast_mul]
              obtain ⟨i, hit⟩ : ∃ i, t * rg.length + k = i := ⟨_, rfl⟩
              rw [hit] at hrd hi es ⊢
              have hi48 : i < 48 := by omega
              walk_at "m_ev"
              walk_at "m_ev"
              refine Xs.step (fun st => st = ⟨[(Str.ofString "script", .dat (.lst (ns.map .int))), (Str.ofString "parts", .dat (.int P)), (Str.ofString "numbers", .dat (.lst (nm.map .int))), (Str.ofString "size", .dat (.int rg.length)), (Str.ofString "begun", .dat (.lst ((nowC rg P 0).map I3.d))), (Str.ofString "table", .dat (.val (.ref x))), (Str.ofString "told", .own ad (toldL fs i)), (Str.ofString "now", .dat (.lst ((nowC rg P t).map I3.d))), (Str.ofString "turn", .dat (.int t)), (Str.ofString "start", .dat (.int k)), (Str.ofString "step", .dat (.int i)), (Str.ofString "answer", v4), (Str.ofString "ring", .unset), (Str.ofString "firsts", .unset), (Str.ofString "due", .unset), (Str.ofString "plain", .unset)], some ⟨x, H, tabL rg P fs i⟩⟩) ?_ ?_
              · repeat' walk_at "m_ev"
                rw [es]
              rintro st rfl
              refine Xs.step (fun st => st = ⟨[(Str.ofString "script", .dat (.lst (ns.map .int))), (Str.ofString "parts", .dat (.int P)), (Str.ofString "numbers", .dat (.lst (nm.map .int))), (Str.ofString "size", .dat (.int rg.length)), (Str.ofString "begun", .dat (.lst ((nowC rg P 0).map I3.d))), (Str.ofString "table", .dat (.val (.ref x))), (Str.ofString "told", .own ad (toldL fs i)), (Str.ofString "now", .dat (.lst ((nowC rg P t).map I3.d))), (Str.ofString "turn", .dat (.int t)), (Str.ofString "start", .dat (.int k)), (Str.ofString "step", .dat (.int i)), (Str.ofString "answer", .dat (.str (pstr (fs i)))), (Str.ofString "ring", .unset), (Str.ofString "firsts", .unset), (Str.ofString "due", .unset), (Str.ofString "plain", .unset)], some ⟨x, H, tabL rg P fs (i + 1)⟩⟩) ?_ ?_
              · refine x_assign (e_meth (cls_ok C) (m_setdefault C) (by walk_at "m_at") rfl (lv := 3) (by walk_at "m_lv") ?_)
                repeat' walk_at "m_ev"
                refine read_ct C (nowC rg P t) k _ (by rw [now_len]; omega) ?_
                rw [hrd]
                repeat' walk_at "m_ev"
                refine k_strI (pstr_ok _ ⟨by omega, by omega⟩).2.2 ?_
                repeat' walk_at "m_ev"
                refine set_ct C ⟨x, H, tabL rg P fs i⟩ _ _ (spell_plain _ _) (by rw [spell_lower]; exact spell_plain _ _) (pstr_ok (i : Int) ⟨by omega, by omega⟩).1 (htb i (by omega)) (hrl _ _) (htl i (by omega)) (fun e => ?_) (fun w e => ?_)
                · rw [spell_lower] at e
                  by_cases hf : fs i = i
                  · have et : tabL rg P fs i ++ [(spell (decide ((i : Int).fmod 2 = 1)) (rdC rg P i), pstr i)] = tabL rg P fs (i + 1) := by rw [tabL, if_pos hf]; rfl
                    show PutK _ (.dat (.str (pstr i))) _ (fun vs' => (⟨vs', some ⟨x, H, tabL rg P fs i ++ [(spell (decide ((i : Int).fmod 2 = 1)) (rdC rg P i), pstr i)]⟩⟩ : St) = _)
                    rw [et, hf]
                    walk_at "m_ev"
                    rfl
                  · rw [ok.old i hi hf] at e; cases e
                · rw [spell_lower] at e
                  by_cases hf : fs i = i
                  · rw [ok.new i hi hf] at e; cases e
                  · rw [ok.old i hi hf] at e
                    cases e
                    rw [tabL, if_neg hf]
                    walk_at "m_ev"
                    rfl
              · rintro st rfl
                refine Xs.cons (x_append (by walk_at "m_at") ?_ (by rw [told_len]; omega))
                repeat' walk_at "m_ev"
                refine e_meth (cls_ok C) (m_get C) (by walk_at "m_at") rfl (lv := 2) (by walk_at "m_lv") ?_
                repeat' walk_at "m_ev"
                refine read_ct C (nowC rg P t) k _ (by rw [now_len]; omega) ?_
                rw [hrd]
                repeat' walk_at "m_ev"
                refine get_ct C ⟨x, H, tabL rg P fs (i + 1)⟩ _ (by rw [spell_lower]; exact spell_plain _ _) (htb _ (by omega)) (hrl _ _) ?_
                rw [spell_lower]
                have eg := ok.got i hi
                show EvA X F _ _ _ _
                rw [eg]
                repeat' walk_at "m_ev"
                refine ⟨by walk_at "m_at", ?_⟩
                have et : toldL fs i ++ [D.tup [.str (pstr (fs i)), .str (pstr (fs i))]] = toldL fs (i + 1) := by unfold toldL; rw [List.range_succ, List.map_append]; rfl
                rw [et]
                repeat' walk_at "m_ev"
                exact ⟨k + 1, m, _, _, _, by rw [List.map_map]; refine List.map_congr_left fun i _ => ?_; show D.int _ = D.int _; congr 2; omega, by omega, by rw [← hit, Nat.add_assoc]⟩
          · rintro st ⟨k, m, v2, v3, v4, e1, e2, rfl⟩
            have hm : m = 0 := by have := congrArg List.length e1; simp at this; omega
            obtain rfl : k = rg.length := by omega
            exact ⟨_, _, _, rfl⟩
        · rintro st ⟨v2, v3, v4, rfl⟩
          refine Xs.cons ?_
          repeat' walk_at "m_ev"
          refine turned_ct C (nowC rg P t) (nowC rg P (t + 1)) P t hP0 (by rw [now_len]; omega) (turnL_of fun sp hm => ?_) ?_
          · rw [← hrg] at hm
            obtain ⟨n, _, rfl⟩ := List.mem_map.mp hm
            exact pc.turn P hP n t htP
          repeat' walk_at "m_ev"
          exact ⟨t + 1, m, _, _, _, _, by rw [List.map_map]; refine List.map_congr_left fun i _ => ?_; show D.int _ = D.int _; congr 2; omega, by omega, by rw [Nat.succ_mul]⟩
    · rintro st ⟨t, m, v1, v2, v3, v4, e1, e2, rfl⟩
      have hm : m = 0 := by have := congrArg List.length e1; simp at this; omega
      obtain rfl : t = P := by omega
      exact ⟨_, _, _, _, rfl⟩
  rintro st ⟨v1, v2, v3, v4, rfl⟩
  have eback : nowC rg P P = nowC rg P 0 := by
    unfold nowC
    refine List.map_congr_left fun sp hm => ?_
    rw [← hrg] at hm
    obtain ⟨n, _, rfl⟩ := List.mem_map.mp hm
    exact pc.back P hP n
  rw [eback]
  refine Xs.cons (x_compL (kn.loc _ (by decide +kernel)) (by decide +kernel) (comp1' [Str.ofString "number"] [Str.ofString "parts"] [Str.ofString "script", Str.ofString "parts", Str.ofString "numbers", Str.ofString "size", Str.ofString "begun", Str.ofString "table", Str.ofString "told", Str.ofString "now", Str.ofString "turn", Str.ofString "start", Str.ofString "step", Str.ofString "answer", Str.ofString "ring", Str.ofString "firsts", Str.ofString "due", Str.ofString "plain"] kn h2 (by decide +kernel) (by decide +kernel) rfl (by decide +kernel) (by intro _; rfl) ?_))
  walk_at "m_ev"
  refine cdo (nm.map .int) [(Str.ofString "parts", _)] rfl (by rw [List.length_map]; omega) (.cons (by walk_at "m_at") .nil) fun F' l1 l2 l3 => ?_
  refine citems_name (fun _ => true) (fun d => match d with | .int n => (spotOf n P).d | _ => .none) (by rw [List.length_map]; omega) (fun d hd B hB => hB) (fun d hd' hp' Q hQ => ?_) (fun sl => ?_)
  · obtain ⟨n, hn1, rfl⟩ := List.mem_map.mp hd'
    repeat' walk_at "m_ev"
    exact spot_ct C n P hP0 hQ
  have ering : (((nm.map D.int).filter fun _ => true).map fun d => match d with | .int n => (spotOf n P).d | _ => .none) = rg.map Sp.d := by
    rw [List.filter_eq_self.mpr (fun _ _ => rfl), List.map_map, ← hrg, List.map_map]; rfl
  rw [ering]
  walk_at "m_ev"
  refine Xs.cons ?_
  repeat' walk_at "m_ev"
  refine firsts_ct C rg P hn hn6 hP8 (hue_rng fun sp hm => (hsp sp hm).1) fun per' hper' => ?_
  obtain rfl := per_one hper hper'
  rw [hfs]
  walk_at "m_ev"
  refine Xs.cons ?_
  walk_at "m_ev"
  refine Tst.or2 (Tst.cmp ?_)
  refine e_frz (by walk_at "m_at") ?_
  walk_at "m_ev"
  refine e_comp (comp1' [Str.ofString "k"] [] [Str.ofString "script", Str.ofString "parts", Str.ofString "numbers", Str.ofString "size", Str.ofString "begun", Str.ofString "table", Str.ofString "told", Str.ofString "now", Str.ofString "turn", Str.ofString "start", Str.ofString "step", Str.ofString "answer", Str.ofString "ring", Str.ofString "firsts", Str.ofString "due", Str.ofString "plain"] kn h2 (by decide +kernel) (by decide +kernel) rfl (by decide +kernel) (by intro _; rfl) ?_)
  walk_at "m_ev"
  refine cdo ((List.range (P * rg.length)).map fun i => D.int (fs i)) [] rfl (by rw [List.length_map, List.length_range]; omega) .nil fun F' l1 l2 l3 => ?_
  refine citems_name (fun _ => true) (fun d => match d with | .int a => twice a | _ => .none) (by rw [List.length_map, List.length_range]; omega) (fun d hd B hB => hB) (fun d hd' hp' Q hQ => ?_) (fun sl => ?_)
  · obtain ⟨i, hi, rfl⟩ := List.mem_map.mp hd'
    have hr := ok.rng i (List.mem_range.mp hi)
    repeat' walk_at "m_ev"
    refine k_strI (pstr_ok _ hr).2.2 ?_
    repeat' walk_at "m_ev"
    refine k_strI (pstr_ok _ hr).2.2 ?_
    repeat' walk_at "m_ev"
    exact hQ
  have etold : ((((List.range (P * rg.length)).map fun i => D.int (fs i)).filter fun _ => true).map fun d => match d with | .int a => twice a | _ => .none) = toldL fs (P * rg.length) := by
    rw [List.filter_eq_self.mpr (fun _ _ => rfl), List.map_map]; rfl
  rw [etold]
  refine c_neSame (okAll_map _ _ fun i hi => twice_ok _ (pstr_ok _ (ok.rng i (List.mem_range.mp hi))).1) (Nat.le_trans (dp_lst (n := 3) fun d hd => by obtain ⟨i, _, rfl⟩ := List.mem_map.mp hd; exact dp_twice _) (by decide)) ?_
  refine Tst.cmp ?_
  repeat' walk_at "m_ev"
  refine c_neSame (okAll_map _ _ fun c _ => I3_ok c) (Nat.le_trans (dp_lst (n := 3) fun d hd => by obtain ⟨c, _, rfl⟩ := List.mem_map.mp hd; exact dp_I3 c) (by decide)) ?_
  refine both_f ?_
  walk_at "m_ev"
  refine Xs.cons (x_new fun ae => ?_)
  walk_at "m_ev"
  refine Xs.step (fun st => ∃ (v1 v2 v3 v4 v5 : Slot), st = ⟨[(Str.ofString "script", .dat (.lst (ns.map .int))), (Str.ofString "parts", .dat (.int P)), (Str.ofString "numbers", .dat (.lst (nm.map .int))), (Str.ofString "size", .dat (.int rg.length)), (Str.ofString "begun", .dat (.lst ((nowC rg P 0).map I3.d))), (Str.ofString "table", .dat (.val (.ref x))), (Str.ofString "told", .dat (.lst (toldL fs (P * rg.length)))), (Str.ofString "now", .dat (.lst ((nowC rg P 0).map I3.d))), (Str.ofString "turn", v1), (Str.ofString "start", v2), (Str.ofString "step", v3), (Str.ofString "answer", v4), (Str.ofString "ring", .dat (.lst (rg.map Sp.d))), (Str.ofString "firsts", .dat (.lst ((List.range (P * rg.length)).map fun i => D.int (fs i)))), (Str.ofString "due", .own ae ((tabL rg P fs (P * rg.length)).map entD)), (Str.ofString "plain", v5)], some ⟨x, H, tabL rg P fs (P * rg.length)⟩⟩) ?_ ?_
  · refine X1.for ?_
    repeat' walk_at "m_ev"
    rw [← Int.natCast_mul]
    refine k_range (by omega) ?_
    refine ⟨_, rfl, by rw [List.length_map, List.length_range, Int.toNat_natCast]; omega, ?_⟩
    refine loop_inv (fun ds st => ∃ (i m : Nat) (v3 v5 : Slot), ds = ((List.range m).map fun j : Nat => D.int ((i + j : Nat) : Int)) ∧ i + m = P * rg.length ∧ st = ⟨[(Str.ofString "script", .dat (.lst (ns.map .int))), (Str.ofString "parts", .dat (.int P)), (Str.ofString "numbers", .dat (.lst (nm.map .int))), (Str.ofString "size", .dat (.int rg.length)), (Str.ofString "begun", .dat (.lst ((nowC rg P 0).map I3.d))), (Str.ofString "table", .dat (.val (.ref x))), (Str.ofString "told", .dat (.lst (toldL fs (P * rg.length)))), (Str.ofString "now", .dat (.lst ((nowC rg P 0).map I3.d))), (Str.ofString "turn", v1), (Str.ofString "start", v2), (Str.ofString "step", v3), (Str.ofString "answer", v4), (Str.ofString "ring", .dat (.lst (rg.map Sp.d))), (Str.ofString "firsts", .dat (.lst ((List.range (P * rg.length)).map fun i => D.int (fs i)))), (Str.ofString "due", .own ae ((tabL rg P fs i).map entD)), (Str.ofString "plain", v5)], some ⟨x, H, tabL rg P fs (P * rg.length)⟩⟩) ?_ ?_ _ _ ⟨0, P * rg.length, _, _, by simp only [Int.toNat_natCast], by omega, rfl⟩
    · rintro dd ds st ⟨i, m, v3, v5, e1, e2, rfl⟩
      cases m with
      | zero => cases e1
      | succ m =>
        rw [List.range_succ_eq_map, List.map_cons] at e1
        obtain ⟨rfl, rfl⟩ := List.cons.inj e1
        rw [show ((i + 0 : Nat) : Int) = (i : Int) from rfl]
        have hi : i < P * rg.length := by omega
        have hi48 : i < 48 := by omega
        have hn0 : (rg.length : Int) ≠ 0 := by omega
        walk_at "m_ev"
        walk_at "m_ev"
        refine Xs.cons ?_
        repeat' walk_at "m_ev"
        refine s_lst (d := .int (fs i)) (by omega) (by omega) (by rw [Int.toNat_natCast, List.getElem?_map, List.getElem?_range hi]; rfl) ?_
        repeat' walk_at "m_ev"
        refine both (fun hb => ?_) (fun hb => ?_)
        · have hf : fs i = i := by simpa using hb
          have em : (i : Int).fmod rg.length = ((i % rg.length : Nat) : Int) := by rw [Int.fmod_eq_emod_of_nonneg _ (by omega), Int.natCast_emod]
          have ed : (i : Int).fdiv rg.length = ((i / rg.length : Nat) : Int) := by rw [Int.fdiv_eq_ediv_of_nonneg _ (by omega), Int.natCast_ediv]
          refine Xs.cons (x_compL (kn.loc _ (by decide +kernel)) (by decide +kernel) (comp1' [Str.ofString "spot"] [Str.ofString "parts", Str.ofString "size", Str.ofString "step"] [Str.ofString "script", Str.ofString "parts", Str.ofString "numbers", Str.ofString "size", Str.ofString "begun", Str.ofString "table", Str.ofString "told", Str.ofString "now", Str.ofString "turn", Str.ofString "start", Str.ofString "step", Str.ofString "answer", Str.ofString "ring", Str.ofString "firsts", Str.ofString "due", Str.ofString "plain"] kn h2 (by decide +kernel) (by decide +kernel) rfl (by decide +kernel) (by intro _; rfl) ?_))
          walk_at "m_ev"
          refine cdo (rg.map Sp.d) [(Str.ofString "parts", _), (Str.ofString "size", _), (Str.ofString "step", _)] rfl (by rw [List.length_map]; omega) (.cons (by walk_at "m_at") (.cons (by walk_at "m_at") (.cons (by walk_at "m_at") .nil))) fun F' l1 l2 l3 => ?_
          refine citems_name (fun _ => true) (fun d => match d with | .tup [.int a, .int b, .int c] => (plainC ⟨a, b, c⟩ ((i / rg.length : Nat) : Int) P).d | _ => .none) (by rw [List.length_map]; omega) (fun d hd B hB => hB) (fun d hd' hp' Q hQ => ?_) (fun sl => ?_)
          · obtain ⟨sp, hm, rfl⟩ := List.mem_map.mp hd'
            repeat' walk_at "m_ev"
            rw [ed]
            exact plain_ct C sp P _ ⟨by omega, by omega⟩ (hsp sp hm).2.1 (hsp sp hm).2.2 hQ
          have epl : (((rg.map Sp.d).filter fun _ => true).map fun d => match d with | .tup [.int a, .int b, .int c] => (plainC ⟨a, b, c⟩ ((i / rg.length : Nat) : Int) P).d | _ => .none) = (nowC rg P (i / rg.length)).map I3.d := by
            rw [List.filter_eq_self.mpr (fun _ _ => rfl), List.map_map, nowC, List.map_map]; rfl
          rw [epl]
          walk_at "m_ev"
          refine Xs.cons (x_append (by walk_at "m_at") ?_ (by rw [List.length_map]; exact htl i (by omega)))
          repeat' walk_at "m_ev"
          rw [em]
          repeat' walk_at "m_ev"
          refine read_ct C (nowC rg P (i / rg.length)) (i % rg.length) _ (by rw [now_len]; omega) ?_
          repeat' walk_at "m_ev"
          refine k_strI (pstr_ok _ ⟨by omega, by omega⟩).2.2 ?_
          repeat' walk_at "m_ev"
          refine ⟨by walk_at "m_at", ?_⟩
          have et : (tabL rg P fs i).map entD ++ [D.tup [.str (spell (decide ((i : Int).fmod 2 = 1)) (flat (rot (nowC rg P (i / rg.length)) (i % rg.length)))), .str (pstr i)]] = (tabL rg P fs (i + 1)).map entD := by rw [tabL, if_pos hf, List.map_append]; rfl
          show PutK _ (.own ae ((tabL rg P fs i).map entD ++ [D.tup [.str (spell (decide ((i : Int).fmod 2 = 1)) (flat (rot (nowC rg P (i / rg.length)) (i % rg.length)))), .str (pstr i)]])) _ _
          rw [et]
          repeat' walk_at "m_ev"
          exact ⟨i + 1, m, _, _, by rw [List.map_map]; refine List.map_congr_left fun i _ => ?_; show D.int _ = D.int _; congr 2; omega, by omega, rfl⟩
        · have hf : fs i ≠ i := by simpa using hb
          repeat' walk_at "m_ev"
          exact ⟨i + 1, m, _, _, by rw [List.map_map]; refine List.map_congr_left fun i _ => ?_; show D.int _ = D.int _; congr 2; omega, by omega, by rw [tabL, if_neg hf]⟩
    · rintro st ⟨i, m, v3, v5, e1, e2, rfl⟩
      have hm : m = 0 := by have := congrArg List.length e1; simp at this; omega
      obtain rfl : i = P * rg.length := by omega
      exact ⟨_, _, _, _, _, rfl⟩
  rintro st ⟨v1, v2, v3, v4, v5, rfl⟩
  refine Xs.cons (X1.ret (Ev.cmp ?_))
  refine e_meth0 (cls_ok C) (m_items C) (by walk_at "m_at") rfl (lv := 1) (by walk_at "m_lv") (items_ct C ⟨x, H, tabL rg P fs (P * rg.length)⟩ (htl _ (by omega)) ?_)
  refine e_frz (by walk_at "m_at") ?_
  walk_at "m_ev"
  refine c_eqSame (okAll_map _ _ fun e he => entD_ok e (ent_plain (by omega) he).1 (ent_plain (by omega) he).2) (Nat.le_trans (dp_lst (n := 3) fun d hd => by obtain ⟨e, _, rfl⟩ := List.mem_map.mp hd; exact dp_entD e) (by decide)) ?_
  exact h _
end
end Mine

open PySem PySem.W PyProof.Rows
set_option Elab.async false
set_option maxRecDepth 100000
set_option maxHeartbeats 1500000
set_option linter.unusedVariables false
namespace Mine
open PySem.Float64
/-! law 1's floats, each case by the kernel -/
def ofB (x : UInt64) : Bool := Float64.isFinite (Float64.mul x 4618441417868443648) && Nat.blt (trunc (Float64.mul x 4618441417868443648)).natAbs 1000
def okB (t : T3) : Bool := Float64.isFinite (Float64.add (Float64.mul (Float64.ofInt 16) t.a) 4602678819172646912) && Float64.isFinite (Float64.add (Float64.mul (Float64.ofInt 16) t.b) 4602678819172646912) && Float64.isFinite (Float64.add (Float64.mul (Float64.ofInt 16) t.c) 4602678819172646912)
theorem ofB_ok {x : UInt64} (h : ofB x = true) : OfHsvOk x := by
  unfold ofB at h
  obtain ⟨h1, h2⟩ := Bool.and_eq_true_iff.mp h
  exact ⟨h1, Nat.lt_of_lt_of_le (Nat.blt_eq.mp h2) (by decide +kernel)⟩
theorem okB_ok {t : T3} (h : okB t = true) : t.ok := by
  unfold okB at h
  rw [Bool.and_eq_true, Bool.and_eq_true] at h
  exact ⟨h.1.1, h.1.2, h.2⟩
theorem nb {b : Bool} (h : (!b) = true) : b = false := by simpa using h
/-- a float worked out before it is handed on -/
def forceN (n : Nat) (k : Nat → Bool) : Bool := Nat.rec (k 0) (fun m _ => k (m + 1)) n
theorem forceN_eq (n : Nat) (k : Nat → Bool) : forceN n k = k n := by cases n <;> rfl
def forceU (x : UInt64) (k : UInt64 → Bool) : Bool := forceN x.toNat fun n => k (UInt64.ofNat n)
theorem forceU_eq (x : UInt64) (k : UInt64 → Bool) : forceU x k = k x := by
  unfold forceU; rw [forceN_eq, UInt64.ofNat_toNat]
def outB (t : T3) (l : List Int) : Bool := forceU t.a fun a => forceU t.b fun b => forceU t.c fun c => okB ⟨a, b, c⟩ && decide (T3.rnd ⟨a, b, c⟩ = l)
theorem outB_ok {t : T3} {l : List Int} (h : outB t l = true) : t.ok ∧ t.rnd = l := by
  unfold outB at h
  rw [forceU_eq, forceU_eq, forceU_eq] at h
  obtain ⟨a, b⟩ := Bool.and_eq_true_iff.mp h
  exact ⟨okB_ok a, of_decide_eq_true b⟩
def hueK (r g b maxc rangec : UInt64) (k : UInt64 → Bool) : Bool :=
  forceU (Float64.div (Float64.sub maxc r) rangec) fun rc => forceU (Float64.div (Float64.sub maxc g) rangec) fun gc => forceU (Float64.div (Float64.sub maxc b) rangec) fun bc =>
  forceU (if feq r maxc then Float64.sub bc gc else if feq g maxc then Float64.sub (Float64.add 4611686018427387904 rc) bc else Float64.sub (Float64.add 4616189618054758400 gc) rc) fun h =>
  forceU (Float64.divmod (Float64.div h 4618441417868443648) 4607182418800017408).2 k
theorem hueK_eq (r g b maxc rangec : UInt64) (k : UInt64 → Bool) : hueK r g b maxc rangec k = k (hueF r g b maxc rangec) := by
  unfold hueK; simp only [forceU_eq]; rfl
def vK (m1 m2 hue0 : UInt64) (k : UInt64 → Bool) : Bool :=
  forceU (Float64.divmod hue0 4607182418800017408).2 fun hue =>
  forceU (if flt hue 4595172819793696085 then Float64.add m1 (Float64.mul (Float64.mul (Float64.sub m2 m1) hue) 4618441417868443648)
  else if flt hue 4602678819172646912 then m2
  else if flt hue 4604180019048437077 then Float64.add m1 (Float64.mul (Float64.mul (Float64.sub m2 m1) (Float64.sub 4604180019048437077 hue)) 4618441417868443648)
  else m1) k
theorem vK_eq (m1 m2 hue0 : UInt64) (k : UInt64 → Bool) : vK m1 m2 hue0 k = k (vF m1 m2 hue0) := by
  unfold vK; simp only [forceU_eq]; rfl
def hlsK (h l s : UInt64) (k : T3 → Bool) : Bool :=
  if feq s 0 then k ⟨l, l, l⟩ else
    forceU (if fle l 4602678819172646912 then Float64.mul l (Float64.add 4607182418800017408 s) else Float64.sub (Float64.add l s) (Float64.mul l s)) fun m2 =>
    forceU (Float64.sub (Float64.mul 4611686018427387904 l) m2) fun m1 =>
    vK m1 m2 (Float64.add h 4599676419421066581) fun a => vK m1 m2 h fun b => vK m1 m2 (Float64.sub h 4599676419421066581) fun c => k ⟨a, b, c⟩
theorem hlsK_eq (h l s : UInt64) (k : T3 → Bool) : hlsK h l s k = k (ofHls h l s) := by
  unfold hlsK ofHls; simp only [forceU_eq, vK_eq]; split <;> rfl
def hsvK (h s v : UInt64) (k : T3 → Bool) : Bool :=
  if feq s 0 then k ⟨v, v, v⟩ else
    forceU (Float64.mul h 4618441417868443648) fun h6 =>
    forceU (Float64.sub h6 (Float64.ofInt (trunc h6))) fun f =>
    forceU (Float64.mul v (Float64.sub 4607182418800017408 s)) fun p =>
    forceU (Float64.mul v (Float64.sub 4607182418800017408 (Float64.mul s f))) fun q =>
    forceU (Float64.mul v (Float64.sub 4607182418800017408 (Float64.mul s (Float64.sub 4607182418800017408 f)))) fun t =>
    k (if (trunc h6).fmod 6 = 0 then ⟨v, t, p⟩ else if (trunc h6).fmod 6 = 1 then ⟨q, v, p⟩ else if (trunc h6).fmod 6 = 2 then ⟨p, v, t⟩ else if (trunc h6).fmod 6 = 3 then ⟨p, q, v⟩ else if (trunc h6).fmod 6 = 4 then ⟨t, p, v⟩ else ⟨v, p, q⟩)
theorem hsvK_eq (h s v : UInt64) (k : T3 → Bool) : hsvK h s v k = k (ofHsv h s v) := by
  unfold hsvK ofHsv; simp only [forceU_eq]; split <;> rfl
def drawB (p h s l : Int) : Bool :=
  forceU (qdiv h p) fun u => forceU (qdiv s 2) fun x => forceU (qdiv l 2) fun y => !Float64.isInf u && (!Float64.isInf x && (!Float64.isInf y && (ofB u && hsvK u x y fun t =>
    outB t (plainC (if s * l = 0 then ⟨0, 0, l⟩ else ⟨h, s, l⟩) 0 p).l)))
theorem draw_of {n p : Int} (h : drawB p (n.fmod p) (shOf n) (lvOf n) = true) : DrawOk n p (plainC (spotOf n p) 0 p).l := by
  unfold drawB at h
  simp only [forceU_eq, hsvK_eq] at h
  obtain ⟨a, h⟩ := Bool.and_eq_true_iff.mp h
  obtain ⟨b, h⟩ := Bool.and_eq_true_iff.mp h
  obtain ⟨c, h⟩ := Bool.and_eq_true_iff.mp h
  obtain ⟨d, h⟩ := Bool.and_eq_true_iff.mp h
  have o := outB_ok h
  exact ⟨nb a, nb b, nb c, ofB_ok d, o.1, o.2⟩
def turnB (p : Int) (even : Bool) (c c' : I3) : Bool :=
  forceU (qdiv 1 p) fun q => forceU (qdiv c.r 16) fun r => forceU (qdiv c.g 16) fun g => forceU (qdiv c.b 16) fun b =>
  forceU (fmax3 r g b) fun mx => forceU (fmin3 r g b) fun mn => forceU (Float64.sub mx mn) fun rg =>
  !Float64.isInf q && (!Float64.isInf r && (!Float64.isInf g && (!Float64.isInf b &&
    (if even then
      (if feq mn mx then outB (ofHsv (Float64.add 0 q) 0 mx) c'.l
       else !Float64.isZero rg && (!Float64.isZero mx && hueK r g b mx rg fun u => forceU (Float64.add u q) fun h => forceU (Float64.div rg mx) fun s => ofB h && hsvK h s mx fun t => outB t c'.l))
     else forceU (Float64.add mx mn) fun sm => forceU (Float64.div sm 4611686018427387904) fun l =>
      (if feq mn mx then outB (ofHls (Float64.add 0 q) l 0) c'.l
       else forceU (Float64.sub (Float64.sub 4611686018427387904 mx) mn) fun rest => !Float64.isZero rg && (!Float64.isZero sm && (!Float64.isZero rest && hueK r g b mx rg fun u => forceU (Float64.add u q) fun h => forceU (if fle l 4602678819172646912 then Float64.div rg sm else Float64.div rg rest) fun s => hlsK h l s fun t => outB t c'.l)))))))
theorem toHsv_neg {r g b : UInt64} (h : feq (fmin3 r g b) (fmax3 r g b) = false) : toHsv r g b = ⟨hueF r g b (fmax3 r g b) (Float64.sub (fmax3 r g b) (fmin3 r g b)), Float64.div (Float64.sub (fmax3 r g b) (fmin3 r g b)) (fmax3 r g b), fmax3 r g b⟩ := by
  unfold toHsv; rw [if_neg (by rw [h]; decide)]
theorem toHsv_pos {r g b : UInt64} (h : feq (fmin3 r g b) (fmax3 r g b) = true) : toHsv r g b = ⟨0, 0, fmax3 r g b⟩ := by
  unfold toHsv; rw [if_pos h]
theorem toHls_neg {r g b : UInt64} (h : feq (fmin3 r g b) (fmax3 r g b) = false) : toHls r g b = ⟨hueF r g b (fmax3 r g b) (Float64.sub (fmax3 r g b) (fmin3 r g b)), Float64.div (Float64.add (fmax3 r g b) (fmin3 r g b)) 4611686018427387904,
    if fle (Float64.div (Float64.add (fmax3 r g b) (fmin3 r g b)) 4611686018427387904) 4602678819172646912 then Float64.div (Float64.sub (fmax3 r g b) (fmin3 r g b)) (Float64.add (fmax3 r g b) (fmin3 r g b)) else Float64.div (Float64.sub (fmax3 r g b) (fmin3 r g b)) (Float64.sub (Float64.sub 4611686018427387904 (fmax3 r g b)) (fmin3 r g b))⟩ := by
  unfold toHls; rw [if_neg (by rw [h]; decide)]
theorem toHls_pos {r g b : UInt64} (h : feq (fmin3 r g b) (fmax3 r g b) = true) : toHls r g b = ⟨0, Float64.div (Float64.add (fmax3 r g b) (fmin3 r g b)) 4611686018427387904, 0⟩ := by
  unfold toHls; rw [if_pos h]
theorem turn_of {p : Int} {even : Bool} {c c' : I3} (h : turnB p even c c' = true) : TurnOk p even c c' := by
  unfold turnB at h
  simp only [forceU_eq, hueK_eq, hsvK_eq, hlsK_eq] at h
  obtain ⟨a, h⟩ := Bool.and_eq_true_iff.mp h
  obtain ⟨b, h⟩ := Bool.and_eq_true_iff.mp h
  obtain ⟨d, h⟩ := Bool.and_eq_true_iff.mp h
  obtain ⟨e, h⟩ := Bool.and_eq_true_iff.mp h
  cases even with
  | true =>
    rw [if_pos rfl] at h
    rcases hq : feq (fmin3 (qdiv c.r 16) (qdiv c.g 16) (qdiv c.b 16)) (fmax3 (qdiv c.r 16) (qdiv c.g 16) (qdiv c.b 16)) with _ | _
    · rw [if_neg (by rw [hq]; decide)] at h
      obtain ⟨f, h⟩ := Bool.and_eq_true_iff.mp h
      obtain ⟨g, h⟩ := Bool.and_eq_true_iff.mp h
      obtain ⟨y, o⟩ := Bool.and_eq_true_iff.mp h
      have o := outB_ok o
      have et := toHsv_neg hq
      refine ⟨nb a, nb b, nb d, nb e, fun _ => ⟨fun _ => nb f, fun _ => nb g⟩, fun _ z => ?_, (fun q => nomatch q), ?_, ?_⟩
      · rw [et]; exact ofB_ok y
      · unfold turnT; rw [if_pos rfl, et]; exact o.1
      · unfold turnT; rw [if_pos rfl, et]; exact o.2
    · rw [if_pos hq] at h
      have o := outB_ok h
      have et := toHsv_pos hq
      refine ⟨nb a, nb b, nb d, nb e, fun _ => ⟨fun z => by rw [hq] at z; (cases z), fun z => by rw [hq] at z; (cases z)⟩, fun _ z => ?_, (fun q => nomatch q), ?_, ?_⟩
      · rw [et] at z; exact absurd (show feq 0 0 = false from z) (by decide +kernel)
      · unfold turnT; rw [if_pos rfl, et]; exact o.1
      · unfold turnT; rw [if_pos rfl, et]; exact o.2
  | false =>
    rw [if_neg Bool.false_ne_true] at h
    rcases hq : feq (fmin3 (qdiv c.r 16) (qdiv c.g 16) (qdiv c.b 16)) (fmax3 (qdiv c.r 16) (qdiv c.g 16) (qdiv c.b 16)) with _ | _
    · rw [if_neg (by rw [hq]; decide)] at h
      obtain ⟨f, h⟩ := Bool.and_eq_true_iff.mp h
      obtain ⟨g, h⟩ := Bool.and_eq_true_iff.mp h
      obtain ⟨i, h⟩ := Bool.and_eq_true_iff.mp h
      have o := outB_ok h
      have et := toHls_neg hq
      refine ⟨nb a, nb b, nb d, nb e, (fun q => nomatch q), (fun q => nomatch q), fun _ => ⟨fun _ => nb f, fun _ _ => nb g, fun _ _ => nb i⟩, ?_, ?_⟩
      · unfold turnT; rw [if_neg Bool.false_ne_true, et]; exact o.1
      · unfold turnT; rw [if_neg Bool.false_ne_true, et]; exact o.2
    · rw [if_pos hq] at h
      have o := outB_ok h
      have et := toHls_pos hq
      refine ⟨nb a, nb b, nb d, nb e, (fun q => nomatch q), (fun q => nomatch q), fun _ => ⟨fun z => by rw [hq] at z; (cases z), fun z => by rw [hq] at z; (cases z), fun z => by rw [hq] at z; (cases z)⟩, ?_, ?_⟩
      · unfold turnT; rw [if_neg Bool.false_ne_true, et]; exact o.1
      · unfold turnT; rw [if_neg Bool.false_ne_true, et]; exact o.2
def allB (n : Nat) (f : Nat → Bool) : Bool := Nat.rec true (fun k r => f k && r) n
theorem allB_ok {f : Nat → Bool} : ∀ {n : Nat}, allB n f = true → ∀ k < n, f k = true
  | 0, _, k, h => nomatch h
  | n + 1, h, k, hk => by
    have h' : (f n && allB n f) = true := h
    obtain ⟨a, b⟩ := Bool.and_eq_true_iff.mp h'
    rcases Nat.lt_succ_iff_lt_or_eq.mp hk with q | q
    · exact allB_ok b k q
    · rw [q]; exact a
def drawAll (P : Nat) : Bool := allB P fun h => allB 3 fun s => allB 3 fun l => drawB P h s l
def turnAll (P : Nat) : Bool := allB P fun h => allB 3 fun s => allB 3 fun l => (Nat.beq s 0 && Nat.blt 0 h) || ((Nat.beq l 0 && Nat.blt 0 s) || (turnB P true (plainC ⟨h, s, l⟩ 0 P) (plainC ⟨h, s, l⟩ 1 P) && (Nat.beq P 1 || turnB P false (plainC ⟨h, s, l⟩ 0 P) (plainC ⟨h, s, l⟩ 1 P))))
theorem dw1 : drawAll 1 = true := by decide +kernel
theorem dw2 : drawAll 2 = true := by decide +kernel
theorem dw4 : drawAll 4 = true := by decide +kernel
theorem dw8 : drawAll 8 = true := by decide +kernel
theorem tw1 : turnAll 1 = true := by decide +kernel
theorem tw2 : turnAll 2 = true := by decide +kernel
theorem tw4 : turnAll 4 = true := by decide +kernel
theorem tw8 : turnAll 8 = true := by decide +kernel
theorem drawP {P : Nat} (h : PsOk P) : drawAll P = true := by
  rcases h with rfl | rfl | rfl | rfl
  · exact dw1
  · exact dw2
  · exact dw4
  · exact dw8
theorem turnP {P : Nat} (h : PsOk P) : turnAll P = true := by
  rcases h with rfl | rfl | rfl | rfl
  · exact tw1
  · exact tw2
  · exact tw4
  · exact tw8
theorem nat3 {x : Int} (h : 0 ≤ x ∧ x ≤ 2) : ∃ k : Nat, x = k ∧ k < 3 := ⟨x.toNat, by omega, by omega⟩
theorem pc_draw (P : Nat) (hP : PsOk P) (n : Int) : DrawOk n P (plainC (spotOf n P) 0 P).l := by
  refine draw_of ?_
  have h := drawP hP
  have hn : 0 < P := by unfold PsOk at hP; omega
  obtain ⟨k, e1, hk⟩ := fmod_nat hn n
  obtain ⟨s, e2, hs⟩ := nat3 (slv_rng n).1
  obtain ⟨l, e3, hl⟩ := nat3 (slv_rng n).2
  rw [e1, e2, e3]
  exact allB_ok (allB_ok (allB_ok h k hk) s hs) l hl
theorem plain_shift (sp : Sp) (t P : Int) : plainC sp t P = plainC ⟨(sp.h + t).fmod P, sp.s, sp.l⟩ 0 P := by
  unfold plainC angOf
  simp only [Int.add_zero, Int.fmod_fmod]
theorem fmod_add1 (a P : Int) : ((a.fmod P) + 1).fmod P = (a + 1).fmod P := by
  rw [Int.add_fmod, Int.fmod_fmod, ← Int.add_fmod]
theorem plain_shift1 (sp : Sp) (t P : Int) : plainC sp (t + 1) P = plainC ⟨(sp.h + t).fmod P, sp.s, sp.l⟩ 1 P := by
  unfold plainC angOf
  simp only [fmod_add1, Int.add_assoc]
theorem plain_grey (h l t P : Int) : plainC ⟨h, 0, l⟩ t P = plainC ⟨0, 0, l⟩ t P := by
  unfold plainC cornC
  simp only [Int.zero_mul]
theorem spot_grey (n : Int) (P : Int) : (spotOf n P).s = 0 ∨ (1 ≤ (spotOf n P).s ∧ 1 ≤ (spotOf n P).l) := by
  have sl := slv_rng n
  unfold spotOf
  split
  · exact .inl rfl
  · rename_i h
    right
    have h1 : shOf n ≠ 0 := fun e => h (by rw [e, Int.zero_mul])
    have h2 : lvOf n ≠ 0 := fun e => h (by rw [e, Int.mul_zero])
    simp only []
    omega
theorem pc_turn (P : Nat) (hP : PsOk P) (n : Int) (t : Nat) (ht : t < P) : TurnOk P (decide ((t : Int).fmod 2 = 0)) (plainC (spotOf n P) t P) (plainC (spotOf n P) (t + 1 : Nat) P) := by
  refine turn_of ?_
  have h := turnP hP
  have hn : 0 < P := by unfold PsOk at hP; omega
  obtain ⟨k, e1, hk⟩ := fmod_nat hn ((spotOf n P).h + t)
  have hr := spot_rng n P (by unfold PsOk at hP; omega)
  have hg := spot_grey n P
  obtain ⟨s, e2, hs⟩ := nat3 hr.2.1
  obtain ⟨l, e3, hl⟩ := nat3 hr.2.2
  rw [show ((t + 1 : Nat) : Int) = (t : Int) + 1 from rfl, plain_shift1, plain_shift, e1, e2, e3]
  rw [e2, e3] at hg
  have key : (turnB P true (plainC ⟨k, s, l⟩ 0 P) (plainC ⟨k, s, l⟩ 1 P) && (Nat.beq P 1 || turnB P false (plainC ⟨k, s, l⟩ 0 P) (plainC ⟨k, s, l⟩ 1 P))) = true := by
    rcases hg with q | q
    · have : s = 0 := by omega
      subst this
      rw [show ((0 : Nat) : Int) = 0 from rfl, plain_grey, plain_grey k]
      exact allB_ok (allB_ok (allB_ok h 0 hn) 0 hs) l hl |> fun z => by
        have z' : (false || ((Nat.beq l 0 && false) || (turnB P true (plainC ⟨0, 0, l⟩ 0 P) (plainC ⟨0, 0, l⟩ 1 P) && (Nat.beq P 1 || turnB P false (plainC ⟨0, 0, l⟩ 0 P) (plainC ⟨0, 0, l⟩ 1 P))))) = true := z
        rwa [Bool.and_false, Bool.false_or, Bool.false_or] at z'
    · have z := allB_ok (allB_ok (allB_ok h k hk) s hs) l hl
      have e : Nat.beq s 0 = false := Bool.eq_false_iff.mpr fun y => by have := Nat.eq_of_beq_eq_true y; omega
      have e' : Nat.beq l 0 = false := Bool.eq_false_iff.mpr fun y => by have := Nat.eq_of_beq_eq_true y; omega
      simp only [e, e', Bool.false_and, Bool.false_or] at z
      exact z
  obtain ⟨a, b⟩ := Bool.and_eq_true_iff.mp key
  by_cases q : (t : Int).fmod 2 = 0
  · rw [decide_eq_true q]; exact a
  · rw [decide_eq_false q]
    rcases Bool.or_eq_true_iff.mp b with b | b
    · have : P = 1 := Nat.eq_of_beq_eq_true b
      have : t = 0 := by omega
      subst this
      exact (q rfl).elim
    · exact b
theorem pc_back (P : Nat) (hP : PsOk P) (n : Int) : plainC (spotOf n P) P P = plainC (spotOf n P) 0 P := by
  unfold plainC angOf
  rw [show ((spotOf n P).h + P).fmod P = ((spotOf n P).h + 0).fmod P by rw [Int.add_zero, Int.add_fmod, Int.fmod_self, Int.add_zero, Int.fmod_fmod]]
end Mine

open PySem PySem.W PyProof.Rows
set_option Elab.async false
set_option maxRecDepth 100000
set_option maxHeartbeats 800000
set_option linter.unusedVariables false
namespace Mine
/-! the ring's periods -/
theorem rg_per (rg : List Sp) (i z : Int) : rgI rg (i + rg.length * z) = rgI rg i := by
  unfold rgI; rw [Int.add_mul_fmod_self_left]
theorem rg_add (rg : List Sp) (i : Int) : rgI rg (i + rg.length) = rgI rg i := by
  have := rg_per rg i 1; rwa [Int.mul_one] at this
/-- the ring moved on by d is the ring with its hues moved on by e -/
def ShE (rg : List Sp) (P d e : Int) : Prop := ∀ x : Int, (rgI rg (x + d)).s = (rgI rg x).s ∧ (rgI rg (x + d)).l = (rgI rg x).l ∧ (isCol rg x = true → P ∣ (rgI rg (x + d)).h - (rgI rg x).h - e)
theorem ShE.col {rg : List Sp} {P d e : Int} (h : ShE rg P d e) (x : Int) : isCol rg (x + d) = isCol rg x := by
  unfold isCol; rw [(h x).1]
theorem ShE.add {rg : List Sp} {P d e d' e' : Int} (h : ShE rg P d e) (h' : ShE rg P d' e') : ShE rg P (d + d') (e + e') := fun x => by
  obtain ⟨a, b, c⟩ := h x
  obtain ⟨a', b', c'⟩ := h' (x + d)
  rw [← Int.add_assoc]
  refine ⟨a'.trans a, b'.trans b, fun hc => ?_⟩
  obtain ⟨z, hz⟩ := c hc
  obtain ⟨w, hw⟩ := c' (by rw [h.col]; exact hc)
  exact ⟨z + w, by rw [Int.mul_add]; omega⟩
theorem ShE.neg {rg : List Sp} {P d e : Int} (h : ShE rg P d e) : ShE rg P (-d) (-e) := fun x => by
  obtain ⟨a, b, c⟩ := h (x + -d)
  have e1 : x + -d + d = x := by omega
  have ec := h.col (x + -d)
  rw [e1] at a b c ec
  refine ⟨a.symm, b.symm, fun hc => ?_⟩
  obtain ⟨z, hz⟩ := c (by rw [← ec]; exact hc)
  exact ⟨-z, by rw [Int.mul_neg]; omega⟩
theorem ShE.zero (rg : List Sp) (P : Int) : ShE rg P 0 0 := fun x => by
  rw [Int.add_zero]; exact ⟨rfl, rfl, fun _ => ⟨0, by omega⟩⟩
theorem ShE.len (rg : List Sp) (P : Int) : ShE rg P rg.length 0 := fun x => by
  rw [rg_add]; exact ⟨rfl, rfl, fun _ => ⟨0, by omega⟩⟩
theorem ShE.congr {rg : List Sp} {P d e e' : Int} (h : ShE rg P d e) (he : P ∣ e - e') : ShE rg P d e' := fun x => by
  obtain ⟨a, b, c⟩ := h x
  refine ⟨a, b, fun hc => ?_⟩
  obtain ⟨z, hz⟩ := c hc
  obtain ⟨w, hw⟩ := he
  exact ⟨z + w, by rw [Int.mul_add]; omega⟩
theorem ShE.grey {rg : List Sp} {P d e : Int} (h : ShE rg P d e) (hg : ∀ x, isCol rg x = false) (e' : Int) : ShE rg P d e' := fun x => by
  obtain ⟨a, b, c⟩ := h x
  exact ⟨a, b, fun hc => by rw [hg x] at hc; cases hc⟩
theorem ShE.uniq {rg : List Sp} {P d e e' x : Int} (h : ShE rg P d e) (h' : ShE rg P d e') (hc : isCol rg x = true) : P ∣ e - e' := by
  obtain ⟨z, hz⟩ := (h x).2.2 hc
  obtain ⟨w, hw⟩ := (h' x).2.2 hc
  exact ⟨w - z, by rw [Int.mul_sub]; omega⟩
theorem ShE.mulN {rg : List Sp} {P d e : Int} (h : ShE rg P d e) : ∀ m : Nat, ShE rg P (m * d) (m * e)
  | 0 => by rw [show ((0 : Nat) : Int) = 0 from rfl, Int.zero_mul, Int.zero_mul]; exact .zero rg P
  | m + 1 => by
    have := (h.mulN m).add h
    rw [show ((m + 1 : Nat) : Int) = (m : Int) + 1 from rfl, Int.add_mul, Int.add_mul, Int.one_mul, Int.one_mul]; exact this
theorem ShE.mul {rg : List Sp} {P d e : Int} (h : ShE rg P d e) (m : Int) : ShE rg P (m * d) (m * e) := by
  rcases Int.le_total 0 m with q | q
  · obtain ⟨k, rfl⟩ : ∃ k : Nat, m = k := ⟨m.toNat, by omega⟩
    exact h.mulN k
  · obtain ⟨k, rfl⟩ : ∃ k : Nat, m = -(k : Int) := ⟨(-m).toNat, by omega⟩
    rw [Int.neg_mul, Int.neg_mul]
    exact (h.mulN k).neg
theorem seek_spec {c : Int → Bool} {k : Int} : ∀ (f : Nat) (m : Int), c (k - (m + f)) = true → m ≤ seek c k m f ∧ seek c k m f ≤ m + f ∧ c (k - seek c k m f) = true ∧ ∀ j, m ≤ j → j < seek c k m f → c (k - j) = false
  | 0, m, h => by
    rw [seek]
    rw [show m + ((0 : Nat) : Int) = m from Int.add_zero m] at h ⊢
    exact ⟨Int.le_refl _, Int.le_refl _, h, fun j a b => by omega⟩
  | f + 1, m, h => by
    rcases hc : c (k - m) with _ | _
    · rw [seek_miss hc]
      obtain ⟨a, b, d, e⟩ := seek_spec f (m + 1) (by rw [show m + 1 + (f : Int) = m + ((f + 1 : Nat) : Int) by omega]; exact h)
      refine ⟨by omega, by omega, d, fun j h1 h2 => ?_⟩
      rcases Int.lt_or_eq_of_le h1 with q | q
      · exact e j (by omega) h2
      · rw [← q]; exact hc
    · rw [seek_hit hc]
      exact ⟨Int.le_refl _, by omega, hc, fun j a b => by omega⟩
theorem seek_congr {c : Int → Bool} {k k' : Int} (h : ∀ j, c (k' - j) = c (k - j)) : ∀ (f : Nat) (m : Int), seek c k' m f = seek c k m f
  | 0, m => rfl
  | f + 1, m => by rw [seek, seek, h m, seek_congr h f (m + 1)]
theorem prev_spec {rg : List Sp} (hn : 0 < rg.length) {x : Int} (hc : isCol rg x = true) : isCol rg (prevOf rg x) = true ∧ prevOf rg x < x ∧ ∀ m : Int, 1 ≤ m → isCol rg (x - m) = true → x - m ≤ prevOf rg x := by
  have h := seek_spec (c := isCol rg) (k := x) (rg.length - 1) 1 (by rw [show (1 : Int) + ((rg.length - 1 : Nat) : Int) = rg.length by omega, isCol_sub hn]; exact hc)
  obtain ⟨a, b, d, e⟩ := h
  unfold prevOf
  refine ⟨d, by omega, fun m h1 h2 => ?_⟩
  rcases Int.lt_or_le m (seek (isCol rg) x 1 (rg.length - 1)) with q | q
  · rw [e m h1 q] at h2; cases h2
  · omega
theorem prev_shift {rg : List Sp} {P d e : Int} (h : ShE rg P d e) (x : Int) : prevOf rg (x + d) = prevOf rg x + d := by
  unfold prevOf
  rw [seek_congr (k := x) (k' := x + d) fun j => by rw [show x + d - j = (x - j) + d by omega, h.col]]
  omega
/-- the ways come back after d -/
def Wy (rg : List Sp) (P d : Int) : Prop := ∀ x : Int, way3 rg P (x + d) = way3 rg P x
theorem fmod_of_dvd {a b P : Int} (h : P ∣ a - b) : a.fmod P = b.fmod P := by
  obtain ⟨z, hz⟩ := h
  rw [show a = b + P * z by omega, Int.add_mul_fmod_self_left]
theorem dvd_of_fmod {a b P : Int} (h : a.fmod P = b.fmod P) : P ∣ a - b := by
  have h1 := Int.mul_fdiv_add_fmod a P
  have h2 := Int.mul_fdiv_add_fmod b P
  exact ⟨a.fdiv P - b.fdiv P, by rw [Int.mul_sub]; omega⟩
theorem wy_of {rg : List Sp} (hn : 0 < rg.length) {P d e : Int} (h : ShE rg P d e) : Wy rg P d := fun x => by
  obtain ⟨a, b, c⟩ := h x
  unfold way3
  rw [a, b, Sp.mk.injEq]
  refine ⟨?_, rfl, rfl⟩
  unfold wayOf
  rw [h.col]
  rcases hc : isCol rg x with _ | _
  · rfl
  · rw [if_pos rfl, if_pos rfl, prev_shift h]
    refine fmod_of_dvd ?_
    obtain ⟨z, hz⟩ := c hc
    obtain ⟨w, hw⟩ := (h (prevOf rg x)).2.2 (prev_spec hn hc).1
    exact ⟨z - w, by rw [Int.mul_sub]; omega⟩
theorem way3_inj {rg : List Sp} {P x y : Int} (h : way3 rg P x = way3 rg P y) : wayOf rg P x = wayOf rg P y ∧ (rgI rg x).s = (rgI rg y).s ∧ (rgI rg x).l = (rgI rg y).l := by
  unfold way3 at h
  rwa [Sp.mk.injEq] at h
theorem Wy.chain {rg : List Sp} (hn : 0 < rg.length) {P d : Int} (h : Wy rg P d) (hcol : ∀ x, isCol rg (x + d) = isCol rg x) (hprev : ∀ x, prevOf rg (x + d) = prevOf rg x + d) {x0 : Int} (h0 : isCol rg x0 = true) :
    ∀ (b m : Nat), m ≤ b → isCol rg (x0 + m) = true → P ∣ ((rgI rg (x0 + m + d)).h - (rgI rg (x0 + m)).h) - ((rgI rg (x0 + d)).h - (rgI rg x0).h)
  | b, 0, _, _ => by rw [show x0 + ((0 : Nat) : Int) = x0 from Int.add_zero x0]; exact ⟨0, by omega⟩
  | 0, m + 1, hb, _ => by omega
  | b + 1, m + 1, hb, hc => by
    obtain ⟨p1, p2, p3⟩ := prev_spec hn hc
    have p4 := p3 ((m + 1 : Nat) : Int) (by omega) (by rw [show x0 + ((m + 1 : Nat) : Int) - ((m + 1 : Nat) : Int) = x0 by omega]; exact h0)
    obtain ⟨j, hj⟩ : ∃ j : Nat, prevOf rg (x0 + ((m + 1 : Nat) : Int)) = x0 + j := ⟨(prevOf rg (x0 + ((m + 1 : Nat) : Int)) - x0).toNat, by omega⟩
    have ih := Wy.chain hn h hcol hprev h0 b j (by omega) (by rw [← hj]; exact p1)
    have hw := (way3_inj (h (x0 + ((m + 1 : Nat) : Int)))).1
    unfold wayOf at hw
    rw [hcol, if_pos hc, if_pos hc, hprev, hj] at hw
    obtain ⟨z, hz⟩ := dvd_of_fmod hw
    obtain ⟨w, hw⟩ := ih
    exact ⟨z + w, by rw [Int.mul_add]; omega⟩
theorem she_of {rg : List Sp} (hn : 0 < rg.length) {P d : Int} (h : Wy rg P d) : ∃ e, ShE rg P d e := by
  have lab : ∀ x, (rgI rg (x + d)).s = (rgI rg x).s ∧ (rgI rg (x + d)).l = (rgI rg x).l := fun x => (way3_inj (h x)).2
  have hcol : ∀ x, isCol rg (x + d) = isCol rg x := fun x => by unfold isCol; rw [(lab x).1]
  have hprev : ∀ x, prevOf rg (x + d) = prevOf rg x + d := fun x => by
    unfold prevOf
    rw [seek_congr (k := x) (k' := x + d) fun j => by rw [show x + d - j = (x - j) + d by omega, hcol]]
    omega
  by_cases hx : ∃ x, isCol rg x = true
  · obtain ⟨x0, h0⟩ := hx
    refine ⟨(rgI rg (x0 + d)).h - (rgI rg x0).h, fun x => ⟨(lab x).1, (lab x).2, fun hc => ?_⟩⟩
    obtain ⟨m, hm, _⟩ := fmod_nat hn (x - x0)
    have hx : x = x0 + m + rg.length * (x - x0).fdiv rg.length := by
      have := Int.mul_fdiv_add_fmod (x - x0) rg.length
      omega
    have e1 : rgI rg x = rgI rg (x0 + m) := by rw [hx, rg_per]
    have e2 : rgI rg (x + d) = rgI rg (x0 + m + d) := by
      rw [show x + d = (x0 + m + d) + rg.length * (x - x0).fdiv rg.length by omega, rg_per]
    have hc' : isCol rg (x0 + m) = true := by rw [← hc]; unfold isCol; rw [e1]
    rw [e1, e2]
    exact h.chain hn hcol hprev h0 m m (Nat.le_refl _) hc'
  · refine ⟨0, fun x => ⟨(lab x).1, (lab x).2, fun hc => (hx ⟨x, hc⟩).elim⟩⟩
theorem wy_iff {rg : List Sp} (hn : 0 < rg.length) {P d : Int} : Wy rg P d ↔ ∃ e, ShE rg P d e := ⟨she_of hn, fun ⟨e, h⟩ => wy_of hn h⟩
theorem wy_len {rg : List Sp} (hn : 0 < rg.length) (P x z : Int) : way3 rg P (x + rg.length * z) = way3 rg P x := by
  have := wy_of hn ((ShE.len rg P).mul z) x
  rwa [Int.mul_comm z] at this
theorem ways_at {rg : List Sp} {P : Int} {n j : Nat} (hj : j < n) : (waysOf rg P n)[j]? = some (way3 rg P j) := by
  unfold waysOf
  rw [List.getElem?_map, List.getElem?_range hj]; rfl
theorem rot_at {α : Type} {l : List α} {k j : Nat} (hk : k ≤ l.length) (hj : j < l.length) : (rot l k)[j]? = l[if j + k < l.length then j + k else j + k - l.length]? := by
  unfold rot
  rw [List.getElem?_append]
  rw [List.length_drop]
  by_cases q : j + k < l.length
  · rw [if_pos (by omega), if_pos q, List.getElem?_drop, Nat.add_comm]
  · rw [if_neg (by omega), if_neg q, List.getElem?_take, if_pos (by omega)]
    congr 1
    omega
theorem rot_ways {rg : List Sp} (hn : 0 < rg.length) {P : Int} {k : Nat} (hk : k ≤ rg.length) : rot (waysOf rg P rg.length) k = waysOf rg P rg.length ↔ Wy rg P k := by
  have hl := ways_len rg P rg.length
  have at_ : ∀ j, j < rg.length → (rot (waysOf rg P rg.length) k)[j]? = some (way3 rg P (j + k)) := fun j hj => by
    rw [rot_at (by omega) (by omega), hl]
    by_cases q : j + k < rg.length
    · rw [if_pos q, ways_at q]; rfl
    · rw [if_neg q, ways_at (by omega), ← wy_len hn P _ 1]
      congr 2
      omega
  constructor
  · intro h x
    obtain ⟨j, hj, hj'⟩ := fmod_nat hn x
    have hx : x = j + rg.length * x.fdiv rg.length := by
      have := Int.mul_fdiv_add_fmod x rg.length
      omega
    have e := at_ j hj'
    rw [h, ways_at hj'] at e
    rw [show x + k = ((j : Int) + k) + rg.length * x.fdiv rg.length by omega, wy_len hn, ← Option.some.inj e]
    conv => rhs; rw [hx]
    rw [wy_len hn]
  · intro h
    refine List.ext_getElem? fun j => ?_
    by_cases hj : j < rg.length
    · rw [at_ j hj, ways_at hj, h]
    · rw [List.getElem?_eq_none (by rw [rot_len]; omega), List.getElem?_eq_none (by omega)]
theorem per_dvd {rg : List Sp} (hn : 0 < rg.length) {P : Int} {per : Nat} (h : PerOk rg P per) {d : Int} : (∃ e, ShE rg P d e) ↔ (per : Int) ∣ d := by
  have hp := (wy_iff hn).mp ((rot_ways hn h.le).mp h.eq)
  obtain ⟨e0, he⟩ := hp
  have h1 := h.pos
  constructor
  · rintro ⟨e, hd⟩
    have hr : ShE rg P (d - d / per * per) (e - d / per * e0) := by
      have := hd.add (he.mul (d / per)).neg
      rwa [← Int.sub_eq_add_neg, ← Int.sub_eq_add_neg] at this
    have hm : d - d / per * per = d % per := by have := Int.ediv_mul_add_emod d per; omega
    rw [hm] at hr
    have lo := Int.emod_nonneg d (show (per : Int) ≠ 0 by omega)
    have up := Int.emod_lt_of_pos d (show (0 : Int) < per by omega)
    obtain ⟨r, hr'⟩ : ∃ r : Nat, d % per = r := ⟨(d % per).toNat, by omega⟩
    rw [hr'] at hr
    have hle := h.le
    by_cases q : r = 0
    · exact Int.dvd_of_emod_eq_zero (by omega)
    · have := h.min r (by omega) (by omega) ((rot_ways hn (by omega)).mpr (wy_of hn hr))
      omega
  · rintro ⟨z, rfl⟩
    have := he.mul z
    rw [Int.mul_comm z] at this
    exact ⟨_, this⟩
end Mine

open PySem PySem.W PyProof.Rows
set_option Elab.async false
set_option maxRecDepth 100000
set_option maxHeartbeats 800000
set_option linter.unusedVariables false
namespace Mine
/-! what is read, and when it is read again -/
def mx3 (c : I3) : Int := max2 c.r (max2 c.g c.b)
def mn3 (c : I3) : Int := min2 c.r (min2 c.g c.b)
def decS (c : I3) : Int := if mx3 c = mn3 c then 0 else ((mx3 c - mn3 c) * 2).fdiv (mx3 c)
def decL (c : I3) : Int := (mx3 c).fdiv 8
def decA (c : I3) : Int :=
  let u := (mx3 c - mn3 c).fdiv 4
  let a := (c.r - mn3 c).fdiv u
  let b := (c.g - mn3 c).fdiv u
  let d := (c.b - mn3 c).fdiv u
  (if d = 0 then b + 4 - a else if a = 0 then 12 + d - b else 20 + a - d).fmod 24
def colA (A s l : Int) : I3 := ⟨cornC A s l 0, cornC A s l 8, cornC A s l 16⟩
def in16 (x : Int) : Bool := decide (0 ≤ x ∧ x ≤ 16)
def decB (A s l : Int) : Bool := decide (decS (colA A s l) = s) && (decide (decL (colA A s l) = l) && (decide (decA (colA A s l) = A) && (in16 (colA A s l).r && (in16 (colA A s l).g && in16 (colA A s l).b))))
theorem dec_all : (allB 24 fun A => allB 2 fun s => allB 2 fun l => decB A ((s : Int) + 1) ((l : Int) + 1)) = true := by decide +kernel
structure I3.In (c : I3) : Prop where
  r : 0 ≤ c.r ∧ c.r ≤ 16
  g : 0 ≤ c.g ∧ c.g ≤ 16
  b : 0 ≤ c.b ∧ c.b ≤ 16
theorem dec_ok {A s l : Int} (hA : 0 ≤ A ∧ A < 24) (hs : 1 ≤ s ∧ s ≤ 2) (hl : 1 ≤ l ∧ l ≤ 2) : decS (colA A s l) = s ∧ decL (colA A s l) = l ∧ decA (colA A s l) = A ∧ (colA A s l).In := by
  obtain ⟨a, rfl, ha⟩ : ∃ a : Nat, A = a ∧ a < 24 := ⟨A.toNat, by omega, by omega⟩
  obtain ⟨u, rfl, hu⟩ : ∃ u : Nat, s = (u : Int) + 1 ∧ u < 2 := ⟨(s - 1).toNat, by omega, by omega⟩
  obtain ⟨v, rfl, hv⟩ : ∃ v : Nat, l = (v : Int) + 1 ∧ v < 2 := ⟨(l - 1).toNat, by omega, by omega⟩
  have h := allB_ok (allB_ok (allB_ok dec_all a ha) u hu) v hv
  unfold decB in16 at h
  simp only [Bool.and_eq_true, decide_eq_true_eq] at h
  obtain ⟨h1, h2, h3, h4, h5, h6⟩ := h
  exact ⟨h1, h2, h3, h4, h5, h6⟩
theorem col_grey (A l : Int) : colA A 0 l = ⟨8 * l, 8 * l, 8 * l⟩ := by
  unfold colA cornC
  simp only [Int.zero_mul, Int.sub_zero]
theorem dec_grey {A l : Int} (hl : 0 ≤ l ∧ l ≤ 2) : decS (colA A 0 l) = 0 ∧ decL (colA A 0 l) = l ∧ (colA A 0 l).In := by
  rw [col_grey]
  have e : mx3 ⟨8 * l, 8 * l, 8 * l⟩ = 8 * l := by unfold mx3 max2; simp
  have e' : mn3 ⟨8 * l, 8 * l, 8 * l⟩ = 8 * l := by unfold mn3 min2; simp
  refine ⟨by unfold decS; rw [e, e', if_pos rfl], ?_, ⟨by simp only []; omega, by simp only []; omega, by simp only []; omega⟩⟩
  unfold decL; rw [e, Int.fdiv_eq_ediv_of_nonneg _ (by decide)]; omega
/-- a spot as the law makes them -/
structure Sp.Ok (sp : Sp) : Prop where
  l : 0 ≤ sp.l ∧ sp.l ≤ 2
  s : 0 ≤ sp.s ∧ sp.s ≤ 2
  g : sp.s = 0 ∨ (1 ≤ sp.s ∧ 1 ≤ sp.l)
theorem plain_colA (sp : Sp) (t P : Int) : plainC sp t P = colA (angOf sp.h t P) sp.s sp.l := rfl
theorem ang_rng {P : Nat} (hP : PsOk P) (h t : Int) : 0 ≤ angOf h t P ∧ angOf h t P < 24 := by
  have hn : 0 < P := by unfold PsOk at hP; omega
  obtain ⟨k, e, hk⟩ := fmod_nat hn (h + t)
  unfold angOf
  rw [e]
  rcases hP with rfl | rfl | rfl | rfl
  · rw [show (24 : Int).fdiv ((1 : Nat) : Int) = 24 from rfl]; omega
  · rw [show (24 : Int).fdiv ((2 : Nat) : Int) = 12 from rfl]; omega
  · rw [show (24 : Int).fdiv ((4 : Nat) : Int) = 6 from rfl]; omega
  · rw [show (24 : Int).fdiv ((8 : Nat) : Int) = 3 from rfl]; omega
theorem ang_inj {P : Nat} (hP : PsOk P) {h t h' t' : Int} (e : angOf h t P = angOf h' t' P) : (h + t).fmod P = (h' + t').fmod P := by
  unfold angOf at e
  rcases hP with rfl | rfl | rfl | rfl
  · rw [show (24 : Int).fdiv ((1 : Nat) : Int) = 24 from rfl] at e; omega
  · rw [show (24 : Int).fdiv ((2 : Nat) : Int) = 12 from rfl] at e; omega
  · rw [show (24 : Int).fdiv ((4 : Nat) : Int) = 6 from rfl] at e; omega
  · rw [show (24 : Int).fdiv ((8 : Nat) : Int) = 3 from rfl] at e; omega
theorem plain_in {P : Nat} (hP : PsOk P) {sp : Sp} (ok : sp.Ok) (t : Int) : (plainC sp t P).In := by
  rw [plain_colA]
  rcases ok.g with q | q
  · rw [q]; exact (dec_grey ok.l).2.2
  · exact (dec_ok (ang_rng hP _ _) ⟨q.1, ok.s.2⟩ ⟨q.2, ok.l.2⟩).2.2.2
theorem plain_dec {P : Nat} (hP : PsOk P) {sp : Sp} (ok : sp.Ok) (t : Int) : decS (plainC sp t P) = sp.s ∧ decL (plainC sp t P) = sp.l ∧ (0 < sp.s → decA (plainC sp t P) = angOf sp.h t P) := by
  rw [plain_colA]
  rcases ok.g with q | q
  · rw [q]; exact ⟨(dec_grey ok.l).1, (dec_grey ok.l).2.1, fun h => by omega⟩
  · have := dec_ok (ang_rng hP sp.h t) ⟨q.1, ok.s.2⟩ ⟨q.2, ok.l.2⟩
    exact ⟨this.1, this.2.1, fun _ => this.2.2.1⟩
theorem plain_iff {P : Nat} (hP : PsOk P) {sp sp' : Sp} (ok : sp.Ok) (ok' : sp'.Ok) (t t' : Int) :
    plainC sp t P = plainC sp' t' P ↔ sp'.s = sp.s ∧ sp'.l = sp.l ∧ (0 < sp.s → (P : Int) ∣ sp'.h - sp.h - (t - t')) := by
  have d := plain_dec hP ok t
  have d' := plain_dec hP ok' t'
  constructor
  · intro e
    rw [← e] at d'
    refine ⟨d'.1.symm.trans d.1, d'.2.1.symm.trans d.2.1, fun h => ?_⟩
    have ea := (d'.2.2 (by rw [← d'.1, d.1]; exact h)).symm.trans (d.2.2 h)
    obtain ⟨z, hz⟩ := dvd_of_fmod (ang_inj hP ea)
    exact ⟨z, by omega⟩
  · rintro ⟨e1, e2, e3⟩
    rw [plain_colA, plain_colA, e1, e2]
    rcases ok.g with q | q
    · rw [q, col_grey, col_grey]
    · obtain ⟨z, hz⟩ := e3 (by omega)
      have : (sp'.h + t').fmod P = (sp.h + t).fmod P := fmod_of_dvd ⟨z, by omega⟩
      unfold angOf
      rw [this]
theorem flat_inj : ∀ {l l' : List I3}, flat l = flat l' → l = l'
  | [], [], _ => rfl
  | [], c :: l', h => by cases h
  | c :: l, [], h => by cases h
  | c :: l, c' :: l', h => by
    have h' : c.r :: c.g :: c.b :: flat l = c'.r :: c'.g :: c'.b :: flat l' := h
    injection h' with a h'
    injection h' with b h'
    injection h' with d h'
    rw [flat_inj h']
    obtain ⟨r, g, b⟩ := c
    obtain ⟨r', g', b'⟩ := c'
    simp only [] at a b d
    rw [a, b, d]
theorem now_at {rg : List Sp} {P t j : Nat} (hj : j < rg.length) : (nowC rg P t)[j]? = some (plainC (rgI rg j) t P) := by
  unfold nowC rgI
  rw [List.getElem?_map, fmod_lt hj, Int.toNat_natCast, List.getD_eq_getElem?_getD, List.getElem?_eq_getElem hj]
  rfl
theorem rotn_at {rg : List Sp} {P t k j : Nat} (hk : k ≤ rg.length) (hj : j < rg.length) : (rot (nowC rg P t) k)[j]? = some (plainC (rgI rg (k + j)) t P) := by
  rw [rot_at (by rw [now_len]; exact hk) (by rw [now_len]; exact hj), now_len]
  by_cases q : j + k < rg.length
  · rw [if_pos q, now_at q, show ((j + k : Nat) : Int) = (k : Int) + j by omega]
  · rw [if_neg q, now_at (by omega), ← rg_add rg ((j + k - rg.length : Nat) : Int), show ((j + k - rg.length : Nat) : Int) + rg.length = (k : Int) + j by omega]
theorem okI {rg : List Sp} (h : ∀ sp ∈ rg, sp.Ok) (i : Int) : (rgI rg i).Ok := by
  unfold rgI
  rw [List.getD_eq_getElem?_getD]
  rcases e : rg[(i.fmod rg.length).toNat]? with _ | sp
  · exact ⟨by decide, by decide, .inl rfl⟩
  · exact h sp (List.mem_of_getElem? e)
theorem rd_iff {rg : List Sp} (hn : 0 < rg.length) (h : ∀ sp ∈ rg, sp.Ok) {P : Nat} (hP : PsOk P) {t k t' k' : Nat} (hk : k < rg.length) (hk' : k' < rg.length) :
    flat (rot (nowC rg P t) k) = flat (rot (nowC rg P t') k') ↔ ShE rg P ((k' : Int) - k) ((t : Int) - t') := by
  constructor
  · intro e x
    have e := flat_inj e
    obtain ⟨j, hj, hj'⟩ := fmod_nat hn (x - k)
    have hx : x = (k + j) + rg.length * (x - k).fdiv rg.length := by
      have := Int.mul_fdiv_add_fmod (x - k) rg.length
      omega
    have e1 : rgI rg x = rgI rg (k + j) := by rw [hx, rg_per]
    have e2 : rgI rg (x + (k' - k)) = rgI rg (k' + j) := by
      rw [show x + ((k' : Int) - k) = (k' + j) + rg.length * (x - k).fdiv rg.length by omega, rg_per]
    have ep := rotn_at (P := P) (t := t) (k := k) (by omega) hj'
    rw [e, rotn_at (by omega) hj'] at ep
    have := (plain_iff hP (okI h _) (okI h _) _ _).mp (Option.some.inj ep).symm
    rw [e1, e2]
    refine ⟨this.1, this.2.1, fun hc => this.2.2 ?_⟩
    unfold isCol at hc
    rw [e1] at hc
    exact of_decide_eq_true hc
  · intro e
    congr 1
    refine List.ext_getElem? fun j => ?_
    by_cases hj : j < rg.length
    · rw [rotn_at (by omega) hj, rotn_at (by omega) hj]
      congr 1
      obtain ⟨a, b, c⟩ := e ((k : Int) + j)
      rw [show (k : Int) + j + (k' - k) = k' + j by omega] at a b c
      exact (plain_iff hP (okI h _) (okI h _) _ _).mpr ⟨a, b, fun q => c (decide_eq_true q)⟩
    · rw [List.getElem?_eq_none (by rw [rot_len, now_len]; omega), List.getElem?_eq_none (by rw [rot_len, now_len]; omega)]
end Mine

open PySem PySem.W PyProof.Rows
set_option Elab.async false
set_option maxRecDepth 100000
set_option maxHeartbeats 800000
set_option linter.unusedVariables false
namespace Mine
/-! the firsts are the first steps with that reading -/
theorem col_nil {rg : List Sp} (hn : 0 < rg.length) (h : colL rg = []) (x : Int) : isCol rg x = false := by
  rw [← mem_col hn, h]; exact decide_eq_false (by simp)
theorem she_lean {rg : List Sp} (hn : 0 < rg.length) {P per : Nat} (h : PerOk rg P per) : ShE rg P per (leanOf rg P per) := by
  obtain ⟨e, he⟩ := (per_dvd hn h (d := per)).mpr ⟨1, by omega⟩
  rcases hc : colL rg with _ | ⟨c, r⟩
  · exact he.grey (col_nil hn hc) _
  · have hl : leanOf rg P per = ((rgI rg (c + per)).h - (rgI rg c).h).fmod P := by unfold leanOf; rw [hc]
    obtain ⟨k, rfl, hk, hcol⟩ := col_nat (rg := rg) (x := c) (by rw [hc]; exact .head _)
    obtain ⟨z, hz⟩ := (he k).2.2 hcol
    obtain ⟨w, hw⟩ := dvd_of_fmod (a := (rgI rg ((k : Int) + per)).h - (rgI rg k).h) (b := leanOf rg P per) (P := P) (by rw [hl, Int.fmod_fmod])
    exact he.congr ⟨w - z, by rw [Int.mul_sub]; omega⟩
theorem when_rng {rg : List Sp} {P per : Nat} (hP : 0 < P) (t k j : Int) : ∃ w : Nat, whenOf rg P per t k j = w ∧ w < P := by
  unfold whenOf
  split
  · exact ⟨0, rfl, hP⟩
  · exact fmod_nat hP _
theorem fdiv_nat (k p : Nat) : (k : Int).fdiv p = ((k / p : Nat) : Int) := by rw [Int.fdiv_eq_ediv_of_nonneg _ (by omega), Int.natCast_ediv]
theorem fmod_natN (k p : Nat) : (k : Int).fmod p = ((k % p : Nat) : Int) := by rw [Int.fmod_eq_emod_of_nonneg _ (by omega), Int.natCast_emod]
theorem first_spec {rg : List Sp} (hn : 0 < rg.length) (ok : ∀ sp ∈ rg, sp.Ok) {P per : Nat} (hP : PsOk P) (h : PerOk rg P per) {i : Nat} (hi : i < P * rg.length) :
    ∃ m : Nat, firstF rg P per i = m ∧ m < P * rg.length ∧ rdC rg P m = rdC rg P i ∧ ∀ j < P * rg.length, rdC rg P j = rdC rg P i → m ≤ j := by
  have hP0 : 0 < P := by unfold PsOk at hP; omega
  have hpos := h.pos
  have hle := h.le
  obtain ⟨t, k, ht, hk, rfl⟩ : ∃ t k, t < P ∧ k < rg.length ∧ i = t * rg.length + k :=
    ⟨i / rg.length, i % rg.length, Nat.div_lt_of_lt_mul (by rwa [Nat.mul_comm]), Nat.mod_lt _ hn, by rw [Nat.mul_comm]; exact (Nat.div_add_mod _ _).symm⟩
  have hdn : (t * rg.length + k) / rg.length = t := by rw [Nat.mul_comm, Nat.mul_add_div hn, Nat.div_eq_of_lt hk, Nat.add_zero]
  have hmn : (t * rg.length + k) % rg.length = k := by rw [Nat.mul_comm, Nat.mul_add_mod, Nat.mod_eq_of_lt hk]
  obtain ⟨K, hK⟩ : ∃ K, k / per = K := ⟨_, rfl⟩
  obtain ⟨r, hr⟩ : ∃ r, k % per = r := ⟨_, rfl⟩
  have hkr : k = per * K + r := by rw [← hK, ← hr]; exact (Nat.div_add_mod _ _).symm
  have hrp : r < per := by rw [← hr]; exact Nat.mod_lt _ hpos
  obtain ⟨T, hT⟩ : ∃ T, rg.length / per = T := ⟨_, rfl⟩
  have hTn : per * T ≤ rg.length := by rw [← hT]; exact Nat.mul_div_le _ _
  have hdvd : per ∣ rg.length := by
    have := (per_dvd hn h (d := rg.length)).mp ⟨0, ShE.len rg P⟩
    exact Int.ofNat_dvd.mp this
  have hTe : per * T = rg.length := by rw [← hT]; exact Nat.mul_div_cancel' hdvd
  have hal : firstF rg P per (t * rg.length + k) = minOf (alike rg P per t k T) := by
    unfold firstF; rw [hdn, hmn, turns_is, hT]
  have lean := she_lean hn h
  generalize hln : leanOf rg P per = ln at lean
  have hwhen : ∀ j : Nat, colL rg ≠ [] → whenOf rg P per t k j = ((t : Int) + ((K : Int) - j) * ln).fmod P := fun j hc => by
    unfold whenOf
    rw [if_neg (by simpa using hc), fdiv_nat, hK, hln]
  have hgrey : ∀ j : Nat, colL rg = [] → whenOf rg P per t k j = 0 := fun j hc => by
    unfold whenOf; rw [hc]; rfl
  have memE : ∀ x, x ∈ alike rg P per t k T ↔ ∃ j, j < T ∧ x = whenOf rg P per t k j * rg.length + j * per + r := fun x => by
    unfold alike
    rw [List.mem_map]
    constructor
    · rintro ⟨j, hj, rfl⟩
      exact ⟨j, List.mem_range.mp hj, by rw [fmod_natN, hr]⟩
    · rintro ⟨j, hj, rfl⟩
      exact ⟨j, List.mem_range.mpr hj, by rw [fmod_natN, hr]⟩
  have shift : ∀ j : Nat, ShE rg P (((j : Int) - K) * per) (((j : Int) - K) * ln) := fun j => lean.mul _
  have one : ∀ x ∈ alike rg P per t k T, ∃ m : Nat, x = m ∧ m < P * rg.length ∧ rdC rg P m = rdC rg P (t * rg.length + k) := fun x hx => by
    obtain ⟨j, hj, rfl⟩ := (memE x).mp hx
    obtain ⟨w, hw, hwP⟩ := when_rng (rg := rg) (per := per) hP0 (t : Int) k j
    have hq : j * per + r < rg.length := by
      have : per * (j + 1) ≤ per * T := Nat.mul_le_mul_left _ hj
      rw [Nat.mul_succ] at this
      rw [Nat.mul_comm j per]; omega
    refine ⟨w * rg.length + (j * per + r), by rw [hw, Int.natCast_add, Int.natCast_mul, Int.natCast_add, Int.natCast_mul]; omega, step_lt hwP hq, ?_⟩
    rw [← rd_at hk, ← rd_at hq, eq_comm, rd_iff hn ok hP hk hq]
    have eq1 : ((j * per + r : Nat) : Int) - k = ((j : Int) - K) * per := by
      rw [hkr, Int.sub_mul, Int.natCast_add, Int.natCast_add, Int.natCast_mul, Int.natCast_mul, Int.mul_comm (per : Int) K]; omega
    rw [eq1]
    by_cases hc : colL rg = []
    · exact (shift j).grey (col_nil hn hc) _
    · refine (shift j).congr ?_
      rw [hwhen j hc] at hw
      obtain ⟨z, hz⟩ := dvd_of_fmod (a := (t : Int) + ((K : Int) - j) * ln) (b := w) (P := P) (by rw [hw, fmod_lt hwP])
      have eN : ((j : Int) - K) * ln = -(((K : Int) - j) * ln) := by rw [← Int.neg_mul]; congr 1; omega
      exact ⟨-z, by rw [eN, Int.mul_neg]; omega⟩
  have two : ∀ j < P * rg.length, rdC rg P j = rdC rg P (t * rg.length + k) → ∃ x ∈ alike rg P per t k T, x ≤ j := fun i' hi' he => by
    obtain ⟨t', k', ht', hk', rfl⟩ : ∃ t k, t < P ∧ k < rg.length ∧ i' = t * rg.length + k :=
      ⟨i' / rg.length, i' % rg.length, Nat.div_lt_of_lt_mul (by rwa [Nat.mul_comm]), Nat.mod_lt _ hn, by rw [Nat.mul_comm]; exact (Nat.div_add_mod _ _).symm⟩
    rw [← rd_at hk, ← rd_at hk', eq_comm, rd_iff hn ok hP hk hk'] at he
    have hd := (per_dvd hn h).mp ⟨_, he⟩
    obtain ⟨z, hz⟩ := hd
    obtain ⟨j, hj⟩ : ∃ j, k' / per = j := ⟨_, rfl⟩
    have hk'r : k' % per = r := by
      have e : ((k' : Int) - (k : Int)) % per = 0 := by rw [hz]; exact Int.mul_emod_right _ _
      have e2 : (k' : Int) % per = (k : Int) % per := Int.emod_eq_emod_iff_emod_sub_eq_zero.mpr e
      have e3 : ((k' % per : Nat) : Int) = ((k % per : Nat) : Int) := by rw [Int.natCast_emod, Int.natCast_emod]; exact e2
      rw [← hr]; exact Int.ofNat.inj e3
    have hk'e : k' = per * j + r := by rw [← hj, ← hk'r]; exact (Nat.div_add_mod _ _).symm
    have hjT : j < T := by
      rw [← hj]
      exact Nat.div_lt_of_lt_mul (by rw [hTe]; exact hk')
    refine ⟨whenOf rg P per t k j * rg.length + j * per + r, (memE _).mpr ⟨j, hjT, rfl⟩, ?_⟩
    have eq1 : (k' : Int) - k = ((j : Int) - K) * per := by
      rw [hkr, hk'e, Int.sub_mul, Int.natCast_add, Int.natCast_add, Int.natCast_mul, Int.natCast_mul, Int.mul_comm (per : Int) K, Int.mul_comm (per : Int) j]; omega
    have hj' : (k' : Int) = (j : Int) * per + r := by rw [hk'e, Int.natCast_add, Int.natCast_mul, Int.mul_comm (per : Int) j]
    have ht0 : (0 : Int) ≤ (t' : Int) * rg.length := Int.mul_nonneg (by omega) (by omega)
    have hgoal : ((t' * rg.length + k' : Nat) : Int) = (t' : Int) * rg.length + ((j : Int) * per + r) := by rw [Int.natCast_add, Int.natCast_mul, hj']
    rw [hgoal]
    by_cases hc : colL rg = []
    · rw [hgrey j hc, Int.zero_mul]; omega
    · obtain ⟨c, cr, hcc⟩ : ∃ c cr, colL rg = c :: cr := List.exists_cons_of_ne_nil hc
      obtain ⟨x, rfl, hx, hcol⟩ := col_nat (rg := rg) (x := c) (by rw [hcc]; exact .head _)
      have hs := shift j
      rw [← eq1] at hs
      obtain ⟨y, hy⟩ := he.uniq hs hcol
      have hw : whenOf rg P per t k j = t' := by
        rw [hwhen j hc, ← fmod_lt ht']
        refine fmod_of_dvd ?_
        have eN : ((j : Int) - K) * ln = -(((K : Int) - j) * ln) := by rw [← Int.neg_mul]; congr 1; omega
        rw [eN] at hy
        exact ⟨y, by omega⟩
      rw [hw]; omega
  have hT0 : 0 < T := by rw [← hT]; exact Nat.div_pos hle hpos
  obtain ⟨s1, s2⟩ := minOf_spec (alike rg P per t k T) (List.ne_nil_of_length_pos (by rw [alike_len]; exact hT0))
  obtain ⟨m, hm, hmN, hmr⟩ := one _ s1
  refine ⟨m, by rw [hal]; exact hm, hmN, hmr, fun j hj hjr => ?_⟩
  obtain ⟨x, hx, hxj⟩ := two j hj hjr
  have := s2 x hx
  omega
/-! the table -/
theorem map_inj_on {f : Int → Nat} : ∀ {c c' : List Int}, (∀ x ∈ c, 0 ≤ x ∧ x ≤ 16) → (∀ x ∈ c', 0 ≤ x ∧ x ≤ 16) → (∀ x y, (0 ≤ x ∧ x ≤ 16) → (0 ≤ y ∧ y ≤ 16) → f x = f y → x = y) → c.map f = c'.map f → c = c'
  | [], [], _, _, _, _ => rfl
  | [], _ :: _, _, _, _, h => by cases h
  | _ :: _, [], _, _, _, h => by cases h
  | a :: c, b :: c', h1, h2, hf, h => by
    injection h with e h
    rw [hf a b (h1 a (.head _)) (h2 b (.head _)) e, map_inj_on (fun x hx => h1 x (.tail _ hx)) (fun x hx => h2 x (.tail _ hx)) hf h]
theorem spell_inj {c c' : List Int} (h1 : ∀ x ∈ c, 0 ≤ x ∧ x ≤ 16) (h2 : ∀ x ∈ c', 0 ≤ x ∧ x ≤ 16) (h : spell false c = spell false c') : c = c' := by
  rw [spell_eq, spell_eq] at h
  have h3 := congrArg (fun s : Str => s.cps.toList) h
  simp only [] at h3
  refine map_inj_on h1 h2 (fun x y hx hy e => ?_) h3
  rw [Int.fmod_eq_of_lt hx.1 (by omega), Int.fmod_eq_of_lt hy.1 (by omega)] at e
  omega
theorem flat_in {l : List I3} (h : ∀ c ∈ l, c.In) : ∀ x ∈ flat l, 0 ≤ x ∧ x ≤ 16 := fun x hx => by
  obtain ⟨c, hc, hx⟩ := List.mem_flatMap.mp hx
  have hi := h c hc
  rcases List.mem_cons.mp hx with rfl | hx
  · exact hi.r
  rcases List.mem_cons.mp hx with rfl | hx
  · exact hi.g
  rcases List.mem_cons.mp hx with rfl | hx
  · exact hi.b
  cases hx
theorem rd_in {rg : List Sp} (ok : ∀ sp ∈ rg, sp.Ok) {P : Nat} (hP : PsOk P) (i : Nat) : ∀ x ∈ rdC rg P i, 0 ≤ x ∧ x ≤ 16 := by
  unfold rdC
  refine flat_in fun c hc => ?_
  unfold rot at hc
  have hc' : c ∈ nowC rg P (i / rg.length) := by
    rcases List.mem_append.mp hc with hc | hc
    · exact List.mem_of_mem_drop hc
    · exact List.mem_of_mem_take hc
  obtain ⟨sp, hs, rfl⟩ := List.mem_map.mp hc'
  exact plain_in hP (ok sp hs) _
theorem getOf_none (b : List (Str × Str)) (nm : Str) : ∀ {a : List (Str × Str)}, getOf a nm = .none → getOf (a ++ b) nm = getOf b nm
  | [], _ => rfl
  | e :: a, h => by
    rw [getOf] at h
    rw [List.cons_append, getOf]
    split at h
    · cases h
    · rename_i q; rw [if_neg q]; exact getOf_none b nm h
theorem getOf_some (b : List (Str × Str)) (nm : Str) {w : Str} : ∀ {a : List (Str × Str)}, getOf a nm = .str w → getOf (a ++ b) nm = .str w
  | [], h => by cases h
  | e :: a, h => by
    rw [getOf] at h
    rw [List.cons_append, getOf]
    split at h
    · rename_i q; rw [if_pos q]; exact h
    · rename_i q; rw [if_neg q]; exact getOf_some b nm h
theorem getOf_ent (rg : List Sp) (P i : Nat) (c : List Int) : getOf [entL rg P i] (spell false c) = if spell false (rdC rg P i) = spell false c then .str (pstr i) else .none := by
  rw [getOf]
  have e : Txt.lower (entL rg P i).1 = spell false (rdC rg P i) := spell_lower _ _
  rw [e]
  by_cases q : spell false (rdC rg P i) = spell false c
  · rw [if_pos q, if_pos (by rw [q]; simp)]; rfl
  · rw [if_neg q, if_neg (by simpa using q)]; rfl
section
variable {rg : List Sp} {P : Nat} {fs : Nat → Int} {c : List Int}
theorem tab_none : ∀ {i : Nat}, (∀ j < i, fs j = j → spell false (rdC rg P j) ≠ spell false c) → getOf (tabL rg P fs i) (spell false c) = .none
  | 0, _ => rfl
  | i + 1, h => by
    have ih := tab_none (i := i) fun j hj => h j (by omega)
    rw [tabL]
    split
    · rename_i q
      rw [getOf_none _ _ ih, getOf_ent, if_neg (h i (by omega) q)]
    · exact ih
theorem tab_hit {m : Nat} (hm : fs m = m) (hr : spell false (rdC rg P m) = spell false c) (hn : ∀ j < m, fs j = j → spell false (rdC rg P j) ≠ spell false c) : ∀ {i : Nat}, m < i → getOf (tabL rg P fs i) (spell false c) = .str (pstr m)
  | 0, h => nomatch h
  | i + 1, h => by
    rw [tabL]
    rcases Nat.lt_succ_iff_lt_or_eq.mp h with q | q
    · have ih := tab_hit hm hr hn q
      split
      · exact getOf_some _ _ ih
      · exact ih
    · subst q
      rw [if_pos hm, getOf_none _ _ (tab_none hn), getOf_ent, if_pos hr]
end
theorem pc_law {rg : List Sp} (hn : 0 < rg.length) (hn6 : rg.length ≤ 6) (ok : ∀ sp ∈ rg, sp.Ok) {P per : Nat} (hP : PsOk P) (h : PerOk rg P per) : LawOk rg P (firstF rg P per) := by
  have hN : P * rg.length ≤ 8 * 6 := Nat.mul_le_mul (by unfold PsOk at hP; omega) hn6
  have spec := fun i (hi : i < P * rg.length) => first_spec hn ok hP h hi
  generalize firstF rg P per = fs at spec ⊢
  have inj : ∀ i j, spell false (rdC rg P i) = spell false (rdC rg P j) → rdC rg P i = rdC rg P j := fun i j e => spell_inj (rd_in ok hP i) (rd_in ok hP j) e
  have hit : ∀ i, i < P * rg.length → ∃ m : Nat, fs i = m ∧ m ≤ i ∧ fs m = m ∧ spell false (rdC rg P m) = spell false (rdC rg P i) ∧ ∀ j < m, fs j = j → spell false (rdC rg P j) ≠ spell false (rdC rg P i) := fun i hi => by
    obtain ⟨m, h1, h2, h3, h4⟩ := spec i hi
    obtain ⟨m', g1, g2, g3, g4⟩ := spec m h2
    have e1 := h4 m' g2 (g3.trans h3)
    have e2 := g4 m h2 rfl
    have e3 := h4 i hi rfl
    refine ⟨m, h1, e3, by rw [g1]; omega, by rw [h3], fun j hj _ q => ?_⟩
    have := h4 j (by omega) (inj j i q)
    omega
  refine ⟨fun i hi => ?_, fun i hi hf => ?_, fun i hi hf => ?_, fun i hi => ?_⟩
  · obtain ⟨m, h1, h2, _⟩ := hit i hi
    omega
  · obtain ⟨m, h1, h2, h3, h4, h5⟩ := hit i hi
    have : m = i := by omega
    subst this
    exact tab_none h5
  · obtain ⟨m, h1, h2, h3, h4, h5⟩ := hit i hi
    rw [h1]
    exact tab_hit h3 h4 h5 (by omega)
  · obtain ⟨m, h1, h2, h3, h4, h5⟩ := hit i hi
    rw [h1]
    exact tab_hit h3 h4 h5 (by omega)
theorem spot_ok (n : Int) {P : Nat} (hP : PsOk P) : (spotOf n P).Ok := by
  have hr := spot_rng n P (by unfold PsOk at hP; omega)
  exact ⟨hr.2.2, hr.2.1, spot_grey n P⟩
theorem pc1 : PC1 where
  draw := pc_draw
  turn := pc_turn
  back := pc_back
  law := fun P hP nm hnm hnl per h => pc_law (by rw [List.length_map]; exact List.length_pos_iff.mpr hnm) (by rw [List.length_map]; exact hnl) (fun sp hs => by obtain ⟨n, _, rfl⟩ := List.mem_map.mp hs; exact spot_ok n hP) hP h
end Mine

open PySem PySem.W PyProof.Rows
set_option Elab.async false
set_option maxRecDepth 100000
set_option maxHeartbeats 8000000
set_option linter.unusedVariables false
open Mine in
theorem PySem.Challenge.cw_pe0241_01_holds : PySem.Challenge.rw_pe0241_01.Holds := by
  refine head3 ?_
  intro w s₀ s₁ mg mb G Y fa o pm cd doc dV kV ho hfd hcd hD hmg hg args vals as hpre hlay hrd hwl hlo
  have KX : (heap3 w.params).In s₁.heap := kIn_of (K := heap3) (as := as3) (e := hook_e) Y
  refine Ground.open G ?_
  intro T B D TE TW
  clear D
  wrow_args hpre hlay hrd hwl hlo
  refine enter_call (codeAny_mono ?_ (fun _ _ g => GoodW.toG g))
  rename_i ns _ _ _ _ _ _ _ lst us _ hL _ _ _ hI _ hlen _
  let X : Cx := { prog := PySem.Challenge.rw_pe0241_01.row.prog, w := w, K := heap3 w.params, p := _, loose := _, mean := _, mg := mg, mb := mb, base := s₁.heap, s₀ := s₁, C := 171, k := KX, t := T }
  have C : CC X := ⟨rfl, rfl⟩
  have e1 : mg (Str.ofString "law") = some (.ref 258) := mg_of KX T.g (f_law C).g
  have e2 : fa = 258 := by
    have e3 : mg (Str.ofString "law") = some (.ref fa) := hmg
    rw [e1] at e3; injection e3 with e3; injection e3 with e3; exact e3.symm
  subst e2
  have S : SatC X none (fun b => s₁.heap.get? b) (fun _ => none) s₁.heap := ⟨fun b o e => e, fun b o e => (nomatch e), fun b o e => e, fun b o e => rfl, trivial, fun d e => nomatch e⟩
  have key := law_ct C pc1 ns (by omega) (R := fun d _ => d = .bool true) (fun _ => rfl) callerA _ _ s₁ [.ref lst] [] ⟨by decide +kernel, by decide +kernel, by decide +kernel⟩ ⟨s₁.heap, s₁.toks, rfl⟩ S (by
    obtain ⟨o, h1, h2, n, h3⟩ := hL
    exact .cons (.lst h1 h2 h3 (of_intsAre hI)) .nil) .nil
  refine codeAny_mono key fun r s' ⟨v, d, hd', f', e1, ⟨h', tk, e2⟩, le, S', rv, e3⟩ => ?_
  subst e3
  cases rv
  subst e1
  have hos : s'.os = s₁.os := by rw [e2]
  have hgens : s'.gens = #[] := by rw [e2]; exact hg
  exact ⟨.inl ⟨_, .bool true, [], rfl, raisesW_false (by wrow_none_raised), .bool _, postW_of (by wrow_shape) (by wtm_val) rfl, unshared_nil⟩, fun b o e => S'.sub b o (le b o e), hos, hgens⟩
