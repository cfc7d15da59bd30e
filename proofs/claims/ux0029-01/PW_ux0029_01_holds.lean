import PyProof.Rows.All
import Wide.All
import OpenK.AllK
import Wide.FinOn
import PySem.Challenge.RW_ux0029_01
open PySem PySem.W PyProof.Rows PySem.Calls
set_option Elab.async false
set_option maxRecDepth 100000
set_option linter.unusedVariables false
set_option linter.unusedSectionVars false
section
/-! ## text KF -/
set_option maxRecDepth 100000
set_option maxHeartbeats 8000000
namespace Mine
noncomputable abbrev PW : Program := PySem.Challenge.pw_ux0029_01
noncomputable def topS (i : Nat) : Stmt := (PW.main.body[i]?).getD (.Pass ⟨0, 0, 0, 0⟩)
noncomputable def clsB : Stmt → List Stmt
  | .ClassDef _ _ _ b _ _ _ _ _ _ _ => b
  | _ => []
noncomputable def clsS (i : Nat) : Stmt := ((clsB (topS 6))[i]?).getD (.Pass ⟨0, 0, 0, 0⟩)
noncomputable def fB : Stmt → List Stmt
  | .FunctionDef _ _ b _ _ _ _ _ _ _ => b
  | _ => []
noncomputable def fP : Stmt → Arguments
  | .FunctionDef _ a _ _ _ _ _ _ _ _ => a
  | _ => default
noncomputable def fS : Stmt → Scope
  | .FunctionDef _ _ _ _ _ _ s _ _ _ => s
  | _ => default

noncomputable def ob3 (P : Params) : Obj := { cls := Value.type "dict", data := Data.dict #[{ hash := PyData.keyHash P (Str.ofString "__name__"), key := Value.str (Str.ofString "__name__") 165, val := Value.str (Str.ofString "law_ux0029_01") 621 }, { hash := PyData.keyHash P (Str.ofString "__doc__"), key := Value.str (Str.ofString "__doc__") 166, val := Value.none }, { hash := PyData.keyHash P (Str.ofString "__package__"), key := Value.str (Str.ofString "__package__") 167, val := Value.none }, { hash := PyData.keyHash P (Str.ofString "__loader__"), key := Value.str (Str.ofString "__loader__") 168, val := Value.builtin "__main__.__loader__#opaque" }, { hash := PyData.keyHash P (Str.ofString "__spec__"), key := Value.str (Str.ofString "__spec__") 169, val := Value.none }, { hash := PyData.keyHash P (Str.ofString "__annotations__"), key := Value.str (Str.ofString "__annotations__") 170, val := Value.ref 6 }, { hash := PyData.keyHash P (Str.ofString "__builtins__"), key := Value.str (Str.ofString "__builtins__") 171, val := Value.ref 4 }, { hash := PyData.keyHash P (Str.ofString "__file__"), key := Value.str (Str.ofString "__file__") 173, val := Value.str (Str.ofString "/claim/cut.py") 172 }, { hash := PyData.keyHash P (Str.ofString "__cached__"), key := Value.str (Str.ofString "__cached__") 174, val := Value.none }, { hash := PyData.keyHash P (Str.ofString "_sre"), key := Value.str (Str.ofString "_sre") 275, val := Value.ref 12 }, { hash := PyData.keyHash P (Str.ofString "tspecials"), key := Value.str (Str.ofString "tspecials") 317, val := Value.ref 36 }, { hash := PyData.keyHash P (Str.ofString "_name_disallowed_re"), key := Value.str (Str.ofString "_name_disallowed_re") 343, val := Value.ref 41 }, { hash := PyData.keyHash P (Str.ofString "_value_disallowed_re"), key := Value.str (Str.ofString "_value_disallowed_re") 377, val := Value.ref 46 }, { hash := PyData.keyHash P (Str.ofString "_formatparam"), key := Value.str (Str.ofString "_formatparam") 387, val := Value.ref 54 }, { hash := PyData.keyHash P (Str.ofString "Headers"), key := Value.str (Str.ofString "Headers") 545, val := Value.ref 175 }, { hash := PyData.keyHash P (Str.ofString "ELLIPSIS_MARKER"), key := Value.str (Str.ofString "ELLIPSIS_MARKER") 549, val := Value.str (Str.ofString "...") 548 }, { hash := PyData.keyHash P (Str.ofString "_ellipsis_match"), key := Value.str (Str.ofString "_ellipsis_match") 561, val := Value.ref 186 }, { hash := PyData.keyHash P (Str.ofString "_strip_exception_details"), key := Value.str (Str.ofString "_strip_exception_details") 571, val := Value.ref 193 }, { hash := PyData.keyHash P (Str.ofString "Error"), key := Value.str (Str.ofString "Error") 593, val := Value.ref 203 }, { hash := PyData.keyHash P (Str.ofString "error_reply"), key := Value.str (Str.ofString "error_reply") 609, val := Value.ref 216 }, { hash := PyData.keyHash P (Str.ofString "parse257"), key := Value.str (Str.ofString "parse257") 620, val := Value.ref 225 }, { hash := PyData.keyHash P (Str.ofString "_law_numbers"), key := Value.str (Str.ofString "_law_numbers") 628, val := Value.ref 230 }, { hash := PyData.keyHash P (Str.ofString "_law_rows"), key := Value.str (Str.ofString "_law_rows") 634, val := Value.ref 235 }, { hash := PyData.keyHash P (Str.ofString "_law_told"), key := Value.str (Str.ofString "_law_told") 640, val := Value.ref 240 }, { hash := PyData.keyHash P (Str.ofString "_law_sum"), key := Value.str (Str.ofString "_law_sum") 646, val := Value.ref 245 }, { hash := PyData.keyHash P (Str.ofString "_law_fallen"), key := Value.str (Str.ofString "_law_fallen") 662, val := Value.ref 252 }, { hash := PyData.keyHash P (Str.ofString "_law_choice"), key := Value.str (Str.ofString "_law_choice") 672, val := Value.ref 259 }, { hash := PyData.keyHash P (Str.ofString "_law_lit"), key := Value.str (Str.ofString "_law_lit") 678, val := Value.ref 264 }, { hash := PyData.keyHash P (Str.ofString "_law_shared"), key := Value.str (Str.ofString "_law_shared") 689, val := Value.ref 271 }, { hash := PyData.keyHash P (Str.ofString "_law_comes"), key := Value.str (Str.ofString "_law_comes") 695, val := Value.ref 276 }, { hash := PyData.keyHash P (Str.ofString "law"), key := Value.str (Str.ofString "law") 701, val := Value.ref 281 }] 31 }
noncomputable def ob40 (P : Params) : Obj := { cls := Value.type "tuple", data := Data.seq #[Value.int 14 0, Value.int 10 0, Value.int 4 0, Value.int 1 0, Value.int 1 0, Value.int 22 0, Value.int 0 0, Value.int 31 0, Value.int 16 0, Value.int 127 0, Value.int 0 0, Value.int 13 0, Value.int 7 0, Value.int 22 0, Value.int 0 0, Value.int 31 0, Value.int 16 0, Value.int 127 0, Value.int 0 0, Value.int 1 0] }
noncomputable def ob41 (P : Params) : Obj := { cls := Value.type "re.Pattern", data := Data.fields #[Value.str (Str.ofString "[\\x00-\\x1F\\x7F]") 319, Value.int 32 342, Value.int 0 0, Value.none, Value.none, Value.ref 40, Value.int 0 0] }
noncomputable def ob45 (P : Params) : Obj := { cls := Value.type "tuple", data := Data.seq #[Value.int 14 0, Value.int 14 0, Value.int 4 0, Value.int 1 0, Value.int 1 0, Value.int 9 0, Value.int 4294966783 0, Value.int 0 0, Value.int 0 0, Value.int 2147483648 0, Value.int 0 0, Value.int 0 0, Value.int 0 0, Value.int 0 0, Value.int 0 0, Value.int 13 0, Value.int 11 0, Value.int 9 0, Value.int 4294966783 0, Value.int 0 0, Value.int 0 0, Value.int 2147483648 0, Value.int 0 0, Value.int 0 0, Value.int 0 0, Value.int 0 0, Value.int 0 0, Value.int 1 0] }
noncomputable def ob46 (P : Params) : Obj := { cls := Value.type "re.Pattern", data := Data.fields #[Value.str (Str.ofString "[\\x00-\\x08\\x0A-\\x1F\\x7F]") 345, Value.int 32 376, Value.int 0 0, Value.none, Value.none, Value.ref 45, Value.int 0 0] }
noncomputable def ob62 (P : Params) : Obj := { cls := Value.type "tuple", data := Data.seq #[Value.none] }
noncomputable def ob68 (P : Params) : Obj := { cls := Value.type "code", data := Data.fields #[Value.str (Str.ofString "__init__") 400, Value.str (Str.ofString "Headers.__init__") 401, Value.str (Str.ofString "/claim/cut.py") 402, Value.int 17 0, Value.int 2 0, Value.int 0 0, Value.int 0 0, Value.int 3 0, Value.ref 63, Value.bool true, Value.int 276 0, Value.ref 64, Value.none, Value.ref 65, Value.ref 66, Value.ref 67, Value.int 407 0, Value.int 17 0, Value.str (Str.ofString "/claim/cut.py") 408] }
noncomputable def fd69 : FuncData := { name := Str.ofString "__init__", qualname := Str.ofString "Headers.__init__", params := fP (clsS 0), body := .stmts (fB (clsS 0)), scope := fS (clsS 0), globals := 3, closure := [], defaults := Value.ref 62, kwdefaults := Value.none, pyModule := Value.str (Str.ofString "cpy313.wsgiref.headers") 282, code := Value.ref 68 }
noncomputable def ob69 (P : Params) : Obj := { cls := Value.type "function", data := Data.func fd69 }
noncomputable def ob75 (P : Params) : Obj := { cls := Value.type "code", data := Data.fields #[Value.str (Str.ofString "_convert_string_type") 410, Value.str (Str.ofString "Headers._convert_string_type") 411, Value.str (Str.ofString "/claim/cut.py") 412, Value.int 27 0, Value.int 2 0, Value.int 0 0, Value.int 1 0, Value.int 3 0, Value.ref 70, Value.bool true, Value.int 276 0, Value.ref 71, Value.none, Value.ref 72, Value.ref 73, Value.ref 74, Value.int 417 0, Value.int 27 0, Value.str (Str.ofString "/claim/cut.py") 418] }
noncomputable def fd76 : FuncData := { name := Str.ofString "_convert_string_type", qualname := Str.ofString "Headers._convert_string_type", params := fP (clsS 1), body := .stmts (fB (clsS 1)), scope := fS (clsS 1), globals := 3, closure := [], defaults := Value.none, kwdefaults := Value.none, pyModule := Value.str (Str.ofString "cpy313.wsgiref.headers") 282, code := Value.ref 75 }
noncomputable def ob76 (P : Params) : Obj := { cls := Value.type "function", data := Data.func fd76 }
noncomputable def ob113 (P : Params) : Obj := { cls := Value.type "code", data := Data.fields #[Value.str (Str.ofString "get_all") 458, Value.str (Str.ofString "Headers.get_all") 459, Value.str (Str.ofString "/claim/cut.py") 460, Value.int 52 0, Value.int 2 0, Value.int 0 0, Value.int 0 0, Value.int 3 0, Value.ref 110, Value.bool true, Value.int 276 0, Value.ref 111, Value.none, Value.none, Value.none, Value.ref 112, Value.int 461 0, Value.int 52 0, Value.str (Str.ofString "/claim/cut.py") 462] }
noncomputable def fd114 : FuncData := { name := Str.ofString "get_all", qualname := Str.ofString "Headers.get_all", params := fP (clsS 7), body := .stmts (fB (clsS 7)), scope := fS (clsS 7), globals := 3, closure := [], defaults := Value.none, kwdefaults := Value.none, pyModule := Value.str (Str.ofString "cpy313.wsgiref.headers") 282, code := Value.ref 113 }
noncomputable def ob114 (P : Params) : Obj := { cls := Value.type "function", data := Data.func fd114 }
noncomputable def ob115 (P : Params) : Obj := { cls := Value.type "tuple", data := Data.seq #[Value.none] }
noncomputable def ob121 (P : Params) : Obj := { cls := Value.type "code", data := Data.fields #[Value.str (Str.ofString "get") 464, Value.str (Str.ofString "Headers.get") 465, Value.str (Str.ofString "/claim/cut.py") 466, Value.int 56 0, Value.int 3 0, Value.int 0 0, Value.int 0 0, Value.int 3 0, Value.ref 116, Value.bool true, Value.int 276 0, Value.ref 117, Value.none, Value.ref 118, Value.ref 119, Value.ref 120, Value.int 472 0, Value.int 56 0, Value.str (Str.ofString "/claim/cut.py") 473] }
noncomputable def fd122 : FuncData := { name := Str.ofString "get", qualname := Str.ofString "Headers.get", params := fP (clsS 8), body := .stmts (fB (clsS 8)), scope := fS (clsS 8), globals := 3, closure := [], defaults := Value.ref 115, kwdefaults := Value.none, pyModule := Value.str (Str.ofString "cpy313.wsgiref.headers") 282, code := Value.ref 121 }
noncomputable def ob122 (P : Params) : Obj := { cls := Value.type "function", data := Data.func fd122 }
noncomputable def ob138 (P : Params) : Obj := { cls := Value.type "code", data := Data.fields #[Value.str (Str.ofString "items") 487, Value.str (Str.ofString "Headers.items") 488, Value.str (Str.ofString "/claim/cut.py") 489, Value.int 69 0, Value.int 1 0, Value.int 0 0, Value.int 0 0, Value.int 3 0, Value.ref 133, Value.bool true, Value.int 276 0, Value.ref 134, Value.none, Value.ref 135, Value.ref 136, Value.ref 137, Value.int 491 0, Value.int 69 0, Value.str (Str.ofString "/claim/cut.py") 492] }
noncomputable def fd139 : FuncData := { name := Str.ofString "items", qualname := Str.ofString "Headers.items", params := fP (clsS 11), body := .stmts (fB (clsS 11)), scope := fS (clsS 11), globals := 3, closure := [], defaults := Value.none, kwdefaults := Value.none, pyModule := Value.str (Str.ofString "cpy313.wsgiref.headers") 282, code := Value.ref 138 }
noncomputable def ob139 (P : Params) : Obj := { cls := Value.type "function", data := Data.func fd139 }
noncomputable def ob164 (P : Params) : Obj := { cls := Value.type "code", data := Data.fields #[Value.str (Str.ofString "setdefault") 514, Value.str (Str.ofString "Headers.setdefault") 515, Value.str (Str.ofString "/claim/cut.py") 516, Value.int 81 0, Value.int 3 0, Value.int 0 0, Value.int 0 0, Value.int 3 0, Value.ref 159, Value.bool true, Value.int 276 0, Value.ref 160, Value.none, Value.ref 161, Value.ref 162, Value.ref 163, Value.int 521 0, Value.int 81 0, Value.str (Str.ofString "/claim/cut.py") 522] }
noncomputable def fd165 : FuncData := { name := Str.ofString "setdefault", qualname := Str.ofString "Headers.setdefault", params := fP (clsS 15), body := .stmts (fB (clsS 15)), scope := fS (clsS 15), globals := 3, closure := [], defaults := Value.none, kwdefaults := Value.none, pyModule := Value.str (Str.ofString "cpy313.wsgiref.headers") 282, code := Value.ref 164 }
noncomputable def ob165 (P : Params) : Obj := { cls := Value.type "function", data := Data.func fd165 }
noncomputable def ob171 (P : Params) : Obj := { cls := Value.type "code", data := Data.fields #[Value.str (Str.ofString "add_header") 524, Value.str (Str.ofString "Headers.add_header") 525, Value.str (Str.ofString "/claim/cut.py") 526, Value.int 89 0, Value.int 3 0, Value.int 0 0, Value.int 0 0, Value.int 11 0, Value.ref 166, Value.bool true, Value.int 276 0, Value.ref 167, Value.none, Value.ref 168, Value.ref 169, Value.ref 170, Value.int 534 0, Value.int 89 0, Value.str (Str.ofString "/claim/cut.py") 535] }
noncomputable def fd172 : FuncData := { name := Str.ofString "add_header", qualname := Str.ofString "Headers.add_header", params := fP (clsS 16), body := .stmts (fB (clsS 16)), scope := fS (clsS 16), globals := 3, closure := [], defaults := Value.none, kwdefaults := Value.none, pyModule := Value.str (Str.ofString "cpy313.wsgiref.headers") 282, code := Value.ref 171 }
noncomputable def ob172 (P : Params) : Obj := { cls := Value.type "function", data := Data.func fd172 }
noncomputable def ob174 (P : Params) : Obj := { cls := Value.type "dict", data := Data.dict #[{ hash := PyData.keyHash P (Str.ofString "__module__"), key := Value.str (Str.ofString "__module__") 395, val := Value.str (Str.ofString "cpy313.wsgiref.headers") 282 }, { hash := PyData.keyHash P (Str.ofString "__firstlineno__"), key := Value.str (Str.ofString "__firstlineno__") 399, val := Value.int 15 398 }, { hash := PyData.keyHash P (Str.ofString "__init__"), key := Value.str (Str.ofString "__init__") 409, val := Value.ref 69 }, { hash := PyData.keyHash P (Str.ofString "_convert_string_type"), key := Value.str (Str.ofString "_convert_string_type") 419, val := Value.ref 76 }, { hash := PyData.keyHash P (Str.ofString "__len__"), key := Value.str (Str.ofString "__len__") 426, val := Value.ref 83 }, { hash := PyData.keyHash P (Str.ofString "__setitem__"), key := Value.str (Str.ofString "__setitem__") 435, val := Value.ref 90 }, { hash := PyData.keyHash P (Str.ofString "__delitem__"), key := Value.str (Str.ofString "__delitem__") 441, val := Value.ref 95 }, { hash := PyData.keyHash P (Str.ofString "__getitem__"), key := Value.str (Str.ofString "__getitem__") 449, val := Value.ref 102 }, { hash := PyData.keyHash P (Str.ofString "__contains__"), key := Value.str (Str.ofString "__contains__") 457, val := Value.ref 109 }, { hash := PyData.keyHash P (Str.ofString "get_all"), key := Value.str (Str.ofString "get_all") 463, val := Value.ref 114 }, { hash := PyData.keyHash P (Str.ofString "get"), key := Value.str (Str.ofString "get") 474, val := Value.ref 122 }, { hash := PyData.keyHash P (Str.ofString "keys"), key := Value.str (Str.ofString "keys") 480, val := Value.ref 127 }, { hash := PyData.keyHash P (Str.ofString "values"), key := Value.str (Str.ofString "values") 486, val := Value.ref 132 }, { hash := PyData.keyHash P (Str.ofString "items"), key := Value.str (Str.ofString "items") 493, val := Value.ref 139 }, { hash := PyData.keyHash P (Str.ofString "__repr__"), key := Value.str (Str.ofString "__repr__") 500, val := Value.ref 146 }, { hash := PyData.keyHash P (Str.ofString "__str__"), key := Value.str (Str.ofString "__str__") 506, val := Value.ref 151 }, { hash := PyData.keyHash P (Str.ofString "__bytes__"), key := Value.str (Str.ofString "__bytes__") 513, val := Value.ref 158 }, { hash := PyData.keyHash P (Str.ofString "setdefault"), key := Value.str (Str.ofString "setdefault") 523, val := Value.ref 165 }, { hash := PyData.keyHash P (Str.ofString "add_header"), key := Value.str (Str.ofString "add_header") 536, val := Value.ref 172 }, { hash := PyData.keyHash P (Str.ofString "__static_attributes__"), key := Value.str (Str.ofString "__static_attributes__") 538, val := Value.ref 173 }, { hash := PyData.keyHash P (Str.ofString "__dict__"), key := Value.str (Str.ofString "__dict__") 540, val := Value.ref 176 }, { hash := PyData.keyHash P (Str.ofString "__weakref__"), key := Value.str (Str.ofString "__weakref__") 542, val := Value.ref 177 }, { hash := PyData.keyHash P (Str.ofString "__doc__"), key := Value.str (Str.ofString "__doc__") 543, val := Value.none }] 4 }
noncomputable def ob175 (P : Params) : Obj := { cls := Value.type "type", data := Data.cls { name := Str.ofString "Headers", bases := [Value.type "object"], mro := [Value.ref 175, Value.type "object"], ns := 174, qualname := Str.ofString "Headers" }, slots := #[none, none, some (Value.str (Str.ofString "Headers") 388), some (Value.str (Str.ofString "Headers") 396), some (Value.builtin "object.__new__"), some (Value.bool true)] }
noncomputable def ob176 (P : Params) : Obj := { cls := Value.type "getset_descriptor", data := Data.fields #[Value.str (Str.ofString "__dict__") 539, Value.ref 175, Value.builtin "function.__dict__", Value.builtin "function.__dict__#set"] }
noncomputable def ob177 (P : Params) : Obj := { cls := Value.type "getset_descriptor", data := Data.fields #[Value.str (Str.ofString "__weakref__") 541, Value.ref 175, Value.builtin "ExceptionGroup.__weakref__", Value.none] }
noncomputable def ob185 (P : Params) : Obj := { cls := Value.type "code", data := Data.fields #[Value.str (Str.ofString "_ellipsis_match") 550, Value.str (Str.ofString "_ellipsis_match") 551, Value.str (Str.ofString "/claim/cut.py") 552, Value.int 104 0, Value.int 2 0, Value.int 0 0, Value.int 0 0, Value.int 3 0, Value.ref 180, Value.bool true, Value.int 276 0, Value.ref 181, Value.none, Value.ref 182, Value.ref 183, Value.ref 184, Value.int 559 0, Value.int 104 0, Value.str (Str.ofString "/claim/cut.py") 560] }
noncomputable def fd186 : FuncData := { name := Str.ofString "_ellipsis_match", qualname := Str.ofString "_ellipsis_match", params := fP (topS 9), body := .stmts (fB (topS 9)), scope := fS (topS 9), globals := 3, closure := [], defaults := Value.none, kwdefaults := Value.none, pyModule := Value.str (Str.ofString "cpy313.doctest") 546, code := Value.ref 185 }
noncomputable def ob186 (P : Params) : Obj := { cls := Value.type "function", data := Data.func fd186 }
noncomputable def ob192 (P : Params) : Obj := { cls := Value.type "code", data := Data.fields #[Value.str (Str.ofString "_strip_exception_details") 562, Value.str (Str.ofString "_strip_exception_details") 563, Value.str (Str.ofString "/claim/cut.py") 564, Value.int 132 0, Value.int 1 0, Value.int 0 0, Value.int 0 0, Value.int 3 0, Value.ref 187, Value.bool true, Value.int 276 0, Value.ref 188, Value.none, Value.ref 189, Value.ref 190, Value.ref 191, Value.int 569 0, Value.int 132 0, Value.str (Str.ofString "/claim/cut.py") 570] }
noncomputable def fd193 : FuncData := { name := Str.ofString "_strip_exception_details", qualname := Str.ofString "_strip_exception_details", params := fP (topS 10), body := .stmts (fB (topS 10)), scope := fS (topS 10), globals := 3, closure := [], defaults := Value.none, kwdefaults := Value.none, pyModule := Value.str (Str.ofString "cpy313.doctest") 546, code := Value.ref 192 }
noncomputable def ob193 (P : Params) : Obj := { cls := Value.type "function", data := Data.func fd193 }
noncomputable def ob224 (P : Params) : Obj := { cls := Value.type "code", data := Data.fields #[Value.str (Str.ofString "parse257") 610, Value.str (Str.ofString "parse257") 611, Value.str (Str.ofString "/claim/cut.py") 612, Value.int 149 0, Value.int 1 0, Value.int 0 0, Value.int 0 0, Value.int 3 0, Value.ref 219, Value.bool true, Value.int 276 0, Value.ref 220, Value.none, Value.ref 221, Value.ref 222, Value.ref 223, Value.int 618 0, Value.int 149 0, Value.str (Str.ofString "/claim/cut.py") 619] }
noncomputable def fd225 : FuncData := { name := Str.ofString "parse257", qualname := Str.ofString "parse257", params := fP (topS 14), body := .stmts (fB (topS 14)), scope := fS (topS 14), globals := 3, closure := [], defaults := Value.none, kwdefaults := Value.none, pyModule := Value.str (Str.ofString "cpy313.ftplib") 572, code := Value.ref 224 }
noncomputable def ob225 (P : Params) : Obj := { cls := Value.type "function", data := Data.func fd225 }
noncomputable def ob229 (P : Params) : Obj := { cls := Value.type "code", data := Data.fields #[Value.str (Str.ofString "_law_numbers") 623, Value.str (Str.ofString "_law_numbers") 624, Value.str (Str.ofString "/claim/cut.py") 625, Value.int 167 0, Value.int 1 0, Value.int 0 0, Value.int 0 0, Value.int 3 0, Value.ref 226, Value.bool true, Value.int 276 0, Value.ref 227, Value.none, Value.none, Value.none, Value.ref 228, Value.int 626 0, Value.int 167 0, Value.str (Str.ofString "/claim/cut.py") 627] }
noncomputable def fd230 : FuncData := { name := Str.ofString "_law_numbers", qualname := Str.ofString "_law_numbers", params := fP (topS 16), body := .stmts (fB (topS 16)), scope := fS (topS 16), globals := 3, closure := [], defaults := Value.none, kwdefaults := Value.none, pyModule := Value.str (Str.ofString "law_ux0029_01") 621, code := Value.ref 229 }
noncomputable def ob230 (P : Params) : Obj := { cls := Value.type "function", data := Data.func fd230 }
noncomputable def ob234 (P : Params) : Obj := { cls := Value.type "code", data := Data.fields #[Value.str (Str.ofString "_law_rows") 629, Value.str (Str.ofString "_law_rows") 630, Value.str (Str.ofString "/claim/cut.py") 631, Value.int 170 0, Value.int 1 0, Value.int 0 0, Value.int 0 0, Value.int 3 0, Value.ref 231, Value.bool true, Value.int 276 0, Value.ref 232, Value.none, Value.none, Value.none, Value.ref 233, Value.int 632 0, Value.int 170 0, Value.str (Str.ofString "/claim/cut.py") 633] }
noncomputable def fd235 : FuncData := { name := Str.ofString "_law_rows", qualname := Str.ofString "_law_rows", params := fP (topS 17), body := .stmts (fB (topS 17)), scope := fS (topS 17), globals := 3, closure := [], defaults := Value.none, kwdefaults := Value.none, pyModule := Value.str (Str.ofString "law_ux0029_01") 621, code := Value.ref 234 }
noncomputable def ob235 (P : Params) : Obj := { cls := Value.type "function", data := Data.func fd235 }
noncomputable def ob239 (P : Params) : Obj := { cls := Value.type "code", data := Data.fields #[Value.str (Str.ofString "_law_told") 635, Value.str (Str.ofString "_law_told") 636, Value.str (Str.ofString "/claim/cut.py") 637, Value.int 175 0, Value.int 2 0, Value.int 0 0, Value.int 0 0, Value.int 3 0, Value.ref 236, Value.bool true, Value.int 276 0, Value.ref 237, Value.none, Value.none, Value.none, Value.ref 238, Value.int 638 0, Value.int 175 0, Value.str (Str.ofString "/claim/cut.py") 639] }
noncomputable def fd240 : FuncData := { name := Str.ofString "_law_told", qualname := Str.ofString "_law_told", params := fP (topS 18), body := .stmts (fB (topS 18)), scope := fS (topS 18), globals := 3, closure := [], defaults := Value.none, kwdefaults := Value.none, pyModule := Value.str (Str.ofString "law_ux0029_01") 621, code := Value.ref 239 }
noncomputable def ob240 (P : Params) : Obj := { cls := Value.type "function", data := Data.func fd240 }
noncomputable def ob244 (P : Params) : Obj := { cls := Value.type "code", data := Data.fields #[Value.str (Str.ofString "_law_sum") 641, Value.str (Str.ofString "_law_sum") 642, Value.str (Str.ofString "/claim/cut.py") 643, Value.int 184 0, Value.int 2 0, Value.int 0 0, Value.int 0 0, Value.int 3 0, Value.ref 241, Value.bool true, Value.int 276 0, Value.ref 242, Value.none, Value.none, Value.none, Value.ref 243, Value.int 644 0, Value.int 184 0, Value.str (Str.ofString "/claim/cut.py") 645] }
noncomputable def fd245 : FuncData := { name := Str.ofString "_law_sum", qualname := Str.ofString "_law_sum", params := fP (topS 19), body := .stmts (fB (topS 19)), scope := fS (topS 19), globals := 3, closure := [], defaults := Value.none, kwdefaults := Value.none, pyModule := Value.str (Str.ofString "law_ux0029_01") 621, code := Value.ref 244 }
noncomputable def ob245 (P : Params) : Obj := { cls := Value.type "function", data := Data.func fd245 }
noncomputable def ob251 (P : Params) : Obj := { cls := Value.type "code", data := Data.fields #[Value.str (Str.ofString "_law_fallen") 647, Value.str (Str.ofString "_law_fallen") 648, Value.str (Str.ofString "/claim/cut.py") 649, Value.int 186 0, Value.int 2 0, Value.int 0 0, Value.int 0 0, Value.int 3 0, Value.ref 246, Value.bool true, Value.int 276 0, Value.ref 247, Value.none, Value.ref 248, Value.ref 249, Value.ref 250, Value.int 660 0, Value.int 186 0, Value.str (Str.ofString "/claim/cut.py") 661] }
noncomputable def fd252 : FuncData := { name := Str.ofString "_law_fallen", qualname := Str.ofString "_law_fallen", params := fP (topS 20), body := .stmts (fB (topS 20)), scope := fS (topS 20), globals := 3, closure := [], defaults := Value.none, kwdefaults := Value.none, pyModule := Value.str (Str.ofString "law_ux0029_01") 621, code := Value.ref 251 }
noncomputable def ob252 (P : Params) : Obj := { cls := Value.type "function", data := Data.func fd252 }
noncomputable def ob258 (P : Params) : Obj := { cls := Value.type "code", data := Data.fields #[Value.str (Str.ofString "_law_choice") 663, Value.str (Str.ofString "_law_choice") 664, Value.str (Str.ofString "/claim/cut.py") 665, Value.int 201 0, Value.int 2 0, Value.int 0 0, Value.int 0 0, Value.int 3 0, Value.ref 253, Value.bool true, Value.int 276 0, Value.ref 254, Value.none, Value.ref 255, Value.ref 256, Value.ref 257, Value.int 670 0, Value.int 201 0, Value.str (Str.ofString "/claim/cut.py") 671] }
noncomputable def fd259 : FuncData := { name := Str.ofString "_law_choice", qualname := Str.ofString "_law_choice", params := fP (topS 21), body := .stmts (fB (topS 21)), scope := fS (topS 21), globals := 3, closure := [], defaults := Value.none, kwdefaults := Value.none, pyModule := Value.str (Str.ofString "law_ux0029_01") 621, code := Value.ref 258 }
noncomputable def ob259 (P : Params) : Obj := { cls := Value.type "function", data := Data.func fd259 }
noncomputable def ob263 (P : Params) : Obj := { cls := Value.type "code", data := Data.fields #[Value.str (Str.ofString "_law_lit") 673, Value.str (Str.ofString "_law_lit") 674, Value.str (Str.ofString "/claim/cut.py") 675, Value.int 210 0, Value.int 2 0, Value.int 0 0, Value.int 0 0, Value.int 3 0, Value.ref 260, Value.bool true, Value.int 276 0, Value.ref 261, Value.none, Value.none, Value.none, Value.ref 262, Value.int 676 0, Value.int 210 0, Value.str (Str.ofString "/claim/cut.py") 677] }
noncomputable def fd264 : FuncData := { name := Str.ofString "_law_lit", qualname := Str.ofString "_law_lit", params := fP (topS 22), body := .stmts (fB (topS 22)), scope := fS (topS 22), globals := 3, closure := [], defaults := Value.none, kwdefaults := Value.none, pyModule := Value.str (Str.ofString "law_ux0029_01") 621, code := Value.ref 263 }
noncomputable def ob264 (P : Params) : Obj := { cls := Value.type "function", data := Data.func fd264 }
noncomputable def ob270 (P : Params) : Obj := { cls := Value.type "code", data := Data.fields #[Value.str (Str.ofString "_law_shared") 679, Value.str (Str.ofString "_law_shared") 680, Value.str (Str.ofString "/claim/cut.py") 681, Value.int 224 0, Value.int 2 0, Value.int 0 0, Value.int 0 0, Value.int 3 0, Value.ref 265, Value.bool true, Value.int 276 0, Value.ref 266, Value.none, Value.ref 267, Value.ref 268, Value.ref 269, Value.int 687 0, Value.int 224 0, Value.str (Str.ofString "/claim/cut.py") 688] }
noncomputable def fd271 : FuncData := { name := Str.ofString "_law_shared", qualname := Str.ofString "_law_shared", params := fP (topS 23), body := .stmts (fB (topS 23)), scope := fS (topS 23), globals := 3, closure := [], defaults := Value.none, kwdefaults := Value.none, pyModule := Value.str (Str.ofString "law_ux0029_01") 621, code := Value.ref 270 }
noncomputable def ob271 (P : Params) : Obj := { cls := Value.type "function", data := Data.func fd271 }
noncomputable def ob275 (P : Params) : Obj := { cls := Value.type "code", data := Data.fields #[Value.str (Str.ofString "_law_comes") 690, Value.str (Str.ofString "_law_comes") 691, Value.str (Str.ofString "/claim/cut.py") 692, Value.int 233 0, Value.int 4 0, Value.int 0 0, Value.int 0 0, Value.int 3 0, Value.ref 272, Value.bool true, Value.int 276 0, Value.ref 273, Value.none, Value.none, Value.none, Value.ref 274, Value.int 693 0, Value.int 233 0, Value.str (Str.ofString "/claim/cut.py") 694] }
noncomputable def fd276 : FuncData := { name := Str.ofString "_law_comes", qualname := Str.ofString "_law_comes", params := fP (topS 24), body := .stmts (fB (topS 24)), scope := fS (topS 24), globals := 3, closure := [], defaults := Value.none, kwdefaults := Value.none, pyModule := Value.str (Str.ofString "law_ux0029_01") 621, code := Value.ref 275 }
noncomputable def ob276 (P : Params) : Obj := { cls := Value.type "function", data := Data.func fd276 }
noncomputable def ob280 (P : Params) : Obj := { cls := Value.type "code", data := Data.fields #[Value.str (Str.ofString "law") 696, Value.str (Str.ofString "law") 697, Value.str (Str.ofString "/claim/cut.py") 698, Value.int 241 0, Value.int 1 0, Value.int 0 0, Value.int 0 0, Value.int 3 0, Value.ref 277, Value.bool true, Value.int 276 0, Value.ref 278, Value.none, Value.none, Value.none, Value.ref 279, Value.int 699 0, Value.int 241 0, Value.str (Str.ofString "/claim/cut.py") 700] }
noncomputable def fd281 : FuncData := { name := Str.ofString "law", qualname := Str.ofString "law", params := fP (topS 25), body := .stmts (fB (topS 25)), scope := fS (topS 25), globals := 3, closure := [], defaults := Value.none, kwdefaults := Value.none, pyModule := Value.str (Str.ofString "law_ux0029_01") 621, code := Value.ref 280 }
noncomputable def ob281 (P : Params) : Obj := { cls := Value.type "function", data := Data.func fd281 }
noncomputable def KF (P : Params) : Frag := [(3, ob3 P), (40, ob40 P), (41, ob41 P), (45, ob45 P), (46, ob46 P), (62, ob62 P), (68, ob68 P), (69, ob69 P), (75, ob75 P), (76, ob76 P), (113, ob113 P), (114, ob114 P), (115, ob115 P), (121, ob121 P), (122, ob122 P), (138, ob138 P), (139, ob139 P), (164, ob164 P), (165, ob165 P), (171, ob171 P), (172, ob172 P), (174, ob174 P), (175, ob175 P), (176, ob176 P), (177, ob177 P), (185, ob185 P), (186, ob186 P), (192, ob192 P), (193, ob193 P), (224, ob224 P), (225, ob225 P), (229, ob229 P), (230, ob230 P), (234, ob234 P), (235, ob235 P), (239, ob239 P), (240, ob240 P), (244, ob244 P), (245, ob245 P), (251, ob251 P), (252, ob252 P), (258, ob258 P), (259, ob259 P), (263, ob263 P), (264, ob264 P), (270, ob270 P), (271, ob271 P), (275, ob275 P), (276, ob276 P), (280, ob280 P), (281, ob281 P)]
noncomputable def asF : List Nat := [3, 40, 41, 45, 46, 62, 68, 69, 75, 76, 113, 114, 115, 121, 122, 138, 139, 164, 165, 171, 172, 174, 175, 176, 177, 185, 186, 192, 193, 224, 225, 229, 230, 234, 235, 239, 240, 244, 245, 251, 252, 258, 259, 263, 264, 270, 271, 275, 276, 280, 281]
theorem asF_eq (P : Params) : asF = (KF P).map (·.1) := rfl
end Mine
end
section
/-! ## text HO -/
set_option maxRecDepth 100000
set_option maxHeartbeats 400000
namespace Mine
/-! the heaps at the cuts of the top -/
/-- a key of the model's statics, behind the seven signs with which the model's own chainKey opens -/
noncomputable abbrev impS (t : String) : Str := ⟨PySem.Builtin.chainKey.cps.extract 0 7 ++ (Str.ofString t).cps⟩
/-- the key of the book that is kept by the tag of chainKey's first six signs -/
noncomputable abbrev watS : Str := ⟨(Str.ofString "watched.").cps ++ PySem.Builtin.chainKey.cps.extract 0 6⟩
noncomputable def hp0 (P : Params) : Obj := { cls := Value.type "dict", data := Data.dict #[{ hash := PyData.keyHash P (Str.ofString "__name__"), key := Value.str (Str.ofString "__name__") 1, val := Value.str (Str.ofString "builtins") 160 }, { hash := PyData.keyHash P (Str.ofString "__doc__"), key := Value.str (Str.ofString "__doc__") 2, val := Value.builtin "builtins.__doc__:str#opaque" }, { hash := PyData.keyHash P (Str.ofString "__package__"), key := Value.str (Str.ofString "__package__") 3, val := Value.builtin "builtins.__package__:str#opaque" }, { hash := PyData.keyHash P (Str.ofString "__loader__"), key := Value.str (Str.ofString "__loader__") 4, val := Value.builtin "builtins.__loader__:shared#opaque" }, { hash := PyData.keyHash P (Str.ofString "__spec__"), key := Value.str (Str.ofString "__spec__") 5, val := Value.builtin "builtins.__spec__#opaque" }, { hash := PyData.keyHash P (Str.ofString "__build_class__"), key := Value.str (Str.ofString "__build_class__") 6, val := Value.builtin "__build_class__" }, { hash := PyData.keyHash P (Str.ofString "__import__"), key := Value.str (Str.ofString "__import__") 7, val := Value.builtin "__import__" }, { hash := PyData.keyHash P (Str.ofString "abs"), key := Value.str (Str.ofString "abs") 8, val := Value.builtin "abs" }, { hash := PyData.keyHash P (Str.ofString "all"), key := Value.str (Str.ofString "all") 9, val := Value.builtin "all" }, { hash := PyData.keyHash P (Str.ofString "any"), key := Value.str (Str.ofString "any") 10, val := Value.builtin "any" }, { hash := PyData.keyHash P (Str.ofString "ascii"), key := Value.str (Str.ofString "ascii") 11, val := Value.builtin "ascii" }, { hash := PyData.keyHash P (Str.ofString "bin"), key := Value.str (Str.ofString "bin") 12, val := Value.builtin "bin" }, { hash := PyData.keyHash P (Str.ofString "breakpoint"), key := Value.str (Str.ofString "breakpoint") 13, val := Value.builtin "breakpoint" }, { hash := PyData.keyHash P (Str.ofString "callable"), key := Value.str (Str.ofString "callable") 14, val := Value.builtin "callable" }, { hash := PyData.keyHash P (Str.ofString "chr"), key := Value.str (Str.ofString "chr") 15, val := Value.builtin "chr" }, { hash := PyData.keyHash P (Str.ofString "compile"), key := Value.str (Str.ofString "compile") 16, val := Value.builtin "compile" }, { hash := PyData.keyHash P (Str.ofString "delattr"), key := Value.str (Str.ofString "delattr") 17, val := Value.builtin "delattr" }, { hash := PyData.keyHash P (Str.ofString "dir"), key := Value.str (Str.ofString "dir") 18, val := Value.builtin "dir" }, { hash := PyData.keyHash P (Str.ofString "divmod"), key := Value.str (Str.ofString "divmod") 19, val := Value.builtin "divmod" }, { hash := PyData.keyHash P (Str.ofString "eval"), key := Value.str (Str.ofString "eval") 20, val := Value.builtin "eval" }, { hash := PyData.keyHash P (Str.ofString "exec"), key := Value.str (Str.ofString "exec") 21, val := Value.builtin "exec" }, { hash := PyData.keyHash P (Str.ofString "format"), key := Value.str (Str.ofString "format") 22, val := Value.builtin "format" }, { hash := PyData.keyHash P (Str.ofString "getattr"), key := Value.str (Str.ofString "getattr") 23, val := Value.builtin "getattr" }, { hash := PyData.keyHash P (Str.ofString "globals"), key := Value.str (Str.ofString "globals") 24, val := Value.builtin "globals" }, { hash := PyData.keyHash P (Str.ofString "hasattr"), key := Value.str (Str.ofString "hasattr") 25, val := Value.builtin "hasattr" }, { hash := PyData.keyHash P (Str.ofString "hash"), key := Value.str (Str.ofString "hash") 26, val := Value.builtin "hash" }, { hash := PyData.keyHash P (Str.ofString "hex"), key := Value.str (Str.ofString "hex") 27, val := Value.builtin "hex" }, { hash := PyData.keyHash P (Str.ofString "id"), key := Value.str (Str.ofString "id") 28, val := Value.builtin "id" }, { hash := PyData.keyHash P (Str.ofString "input"), key := Value.str (Str.ofString "input") 29, val := Value.builtin "input" }, { hash := PyData.keyHash P (Str.ofString "isinstance"), key := Value.str (Str.ofString "isinstance") 30, val := Value.builtin "isinstance" }, { hash := PyData.keyHash P (Str.ofString "issubclass"), key := Value.str (Str.ofString "issubclass") 31, val := Value.builtin "issubclass" }, { hash := PyData.keyHash P (Str.ofString "iter"), key := Value.str (Str.ofString "iter") 32, val := Value.builtin "iter" }, { hash := PyData.keyHash P (Str.ofString "aiter"), key := Value.str (Str.ofString "aiter") 33, val := Value.builtin "aiter" }, { hash := PyData.keyHash P (Str.ofString "len"), key := Value.str (Str.ofString "len") 34, val := Value.builtin "len" }, { hash := PyData.keyHash P (Str.ofString "locals"), key := Value.str (Str.ofString "locals") 35, val := Value.builtin "locals" }, { hash := PyData.keyHash P (Str.ofString "max"), key := Value.str (Str.ofString "max") 36, val := Value.builtin "max" }, { hash := PyData.keyHash P (Str.ofString "min"), key := Value.str (Str.ofString "min") 37, val := Value.builtin "min" }, { hash := PyData.keyHash P (Str.ofString "next"), key := Value.str (Str.ofString "next") 38, val := Value.builtin "next" }, { hash := PyData.keyHash P (Str.ofString "anext"), key := Value.str (Str.ofString "anext") 39, val := Value.builtin "anext" }, { hash := PyData.keyHash P (Str.ofString "oct"), key := Value.str (Str.ofString "oct") 40, val := Value.builtin "oct" }, { hash := PyData.keyHash P (Str.ofString "ord"), key := Value.str (Str.ofString "ord") 41, val := Value.builtin "ord" }, { hash := PyData.keyHash P (Str.ofString "pow"), key := Value.str (Str.ofString "pow") 42, val := Value.builtin "pow" }, { hash := PyData.keyHash P (Str.ofString "print"), key := Value.str (Str.ofString "print") 43, val := Value.builtin "print" }, { hash := PyData.keyHash P (Str.ofString "repr"), key := Value.str (Str.ofString "repr") 44, val := Value.builtin "repr" }, { hash := PyData.keyHash P (Str.ofString "round"), key := Value.str (Str.ofString "round") 45, val := Value.builtin "round" }, { hash := PyData.keyHash P (Str.ofString "setattr"), key := Value.str (Str.ofString "setattr") 46, val := Value.builtin "setattr" }, { hash := PyData.keyHash P (Str.ofString "sorted"), key := Value.str (Str.ofString "sorted") 47, val := Value.builtin "sorted" }, { hash := PyData.keyHash P (Str.ofString "sum"), key := Value.str (Str.ofString "sum") 48, val := Value.builtin "sum" }, { hash := PyData.keyHash P (Str.ofString "vars"), key := Value.str (Str.ofString "vars") 49, val := Value.builtin "vars" }, { hash := PyData.keyHash P (Str.ofString "None"), key := Value.str (Str.ofString "None") 50, val := Value.none }, { hash := PyData.keyHash P (Str.ofString "Ellipsis"), key := Value.str (Str.ofString "Ellipsis") 51, val := Value.ellipsis }, { hash := PyData.keyHash P (Str.ofString "NotImplemented"), key := Value.str (Str.ofString "NotImplemented") 52, val := Value.notImplemented }, { hash := PyData.keyHash P (Str.ofString "False"), key := Value.str (Str.ofString "False") 53, val := Value.bool false }, { hash := PyData.keyHash P (Str.ofString "True"), key := Value.str (Str.ofString "True") 54, val := Value.bool true }, { hash := PyData.keyHash P (Str.ofString "bool"), key := Value.str (Str.ofString "bool") 55, val := Value.type "bool" }, { hash := PyData.keyHash P (Str.ofString "memoryview"), key := Value.str (Str.ofString "memoryview") 56, val := Value.type "memoryview" }, { hash := PyData.keyHash P (Str.ofString "bytearray"), key := Value.str (Str.ofString "bytearray") 57, val := Value.type "bytearray" }, { hash := PyData.keyHash P (Str.ofString "bytes"), key := Value.str (Str.ofString "bytes") 58, val := Value.type "bytes" }, { hash := PyData.keyHash P (Str.ofString "classmethod"), key := Value.str (Str.ofString "classmethod") 59, val := Value.type "classmethod" }, { hash := PyData.keyHash P (Str.ofString "complex"), key := Value.str (Str.ofString "complex") 60, val := Value.type "complex" }, { hash := PyData.keyHash P (Str.ofString "dict"), key := Value.str (Str.ofString "dict") 61, val := Value.type "dict" }, { hash := PyData.keyHash P (Str.ofString "enumerate"), key := Value.str (Str.ofString "enumerate") 62, val := Value.type "enumerate" }, { hash := PyData.keyHash P (Str.ofString "filter"), key := Value.str (Str.ofString "filter") 63, val := Value.type "filter" }, { hash := PyData.keyHash P (Str.ofString "float"), key := Value.str (Str.ofString "float") 64, val := Value.type "float" }, { hash := PyData.keyHash P (Str.ofString "frozenset"), key := Value.str (Str.ofString "frozenset") 65, val := Value.type "frozenset" }, { hash := PyData.keyHash P (Str.ofString "property"), key := Value.str (Str.ofString "property") 66, val := Value.type "property" }, { hash := PyData.keyHash P (Str.ofString "int"), key := Value.str (Str.ofString "int") 67, val := Value.type "int" }, { hash := PyData.keyHash P (Str.ofString "list"), key := Value.str (Str.ofString "list") 68, val := Value.type "list" }, { hash := PyData.keyHash P (Str.ofString "map"), key := Value.str (Str.ofString "map") 69, val := Value.type "map" }, { hash := PyData.keyHash P (Str.ofString "object"), key := Value.str (Str.ofString "object") 70, val := Value.type "object" }, { hash := PyData.keyHash P (Str.ofString "range"), key := Value.str (Str.ofString "range") 71, val := Value.type "range" }, { hash := PyData.keyHash P (Str.ofString "reversed"), key := Value.str (Str.ofString "reversed") 72, val := Value.type "reversed" }, { hash := PyData.keyHash P (Str.ofString "set"), key := Value.str (Str.ofString "set") 73, val := Value.type "set" }, { hash := PyData.keyHash P (Str.ofString "slice"), key := Value.str (Str.ofString "slice") 74, val := Value.type "slice" }, { hash := PyData.keyHash P (Str.ofString "staticmethod"), key := Value.str (Str.ofString "staticmethod") 75, val := Value.type "staticmethod" }, { hash := PyData.keyHash P (Str.ofString "str"), key := Value.str (Str.ofString "str") 76, val := Value.type "str" }, { hash := PyData.keyHash P (Str.ofString "super"), key := Value.str (Str.ofString "super") 77, val := Value.type "super" }, { hash := PyData.keyHash P (Str.ofString "tuple"), key := Value.str (Str.ofString "tuple") 78, val := Value.type "tuple" }, { hash := PyData.keyHash P (Str.ofString "type"), key := Value.str (Str.ofString "type") 79, val := Value.type "type" }, { hash := PyData.keyHash P (Str.ofString "zip"), key := Value.str (Str.ofString "zip") 80, val := Value.type "zip" }, { hash := PyData.keyHash P (Str.ofString "__debug__"), key := Value.str (Str.ofString "__debug__") 81, val := Value.bool true }, { hash := PyData.keyHash P (Str.ofString "BaseException"), key := Value.str (Str.ofString "BaseException") 82, val := Value.type "BaseException" }, { hash := PyData.keyHash P (Str.ofString "BaseExceptionGroup"), key := Value.str (Str.ofString "BaseExceptionGroup") 83, val := Value.type "BaseExceptionGroup" }, { hash := PyData.keyHash P (Str.ofString "Exception"), key := Value.str (Str.ofString "Exception") 84, val := Value.type "Exception" }, { hash := PyData.keyHash P (Str.ofString "GeneratorExit"), key := Value.str (Str.ofString "GeneratorExit") 85, val := Value.type "GeneratorExit" }, { hash := PyData.keyHash P (Str.ofString "KeyboardInterrupt"), key := Value.str (Str.ofString "KeyboardInterrupt") 86, val := Value.type "KeyboardInterrupt" }, { hash := PyData.keyHash P (Str.ofString "SystemExit"), key := Value.str (Str.ofString "SystemExit") 87, val := Value.type "SystemExit" }, { hash := PyData.keyHash P (Str.ofString "ArithmeticError"), key := Value.str (Str.ofString "ArithmeticError") 88, val := Value.type "ArithmeticError" }, { hash := PyData.keyHash P (Str.ofString "AssertionError"), key := Value.str (Str.ofString "AssertionError") 89, val := Value.type "AssertionError" }, { hash := PyData.keyHash P (Str.ofString "AttributeError"), key := Value.str (Str.ofString "AttributeError") 90, val := Value.type "AttributeError" }, { hash := PyData.keyHash P (Str.ofString "BufferError"), key := Value.str (Str.ofString "BufferError") 91, val := Value.type "BufferError" }, { hash := PyData.keyHash P (Str.ofString "EOFError"), key := Value.str (Str.ofString "EOFError") 92, val := Value.type "EOFError" }, { hash := PyData.keyHash P (Str.ofString "ImportError"), key := Value.str (Str.ofString "ImportError") 93, val := Value.type "ImportError" }, { hash := PyData.keyHash P (Str.ofString "LookupError"), key := Value.str (Str.ofString "LookupError") 94, val := Value.type "LookupError" }, { hash := PyData.keyHash P (Str.ofString "MemoryError"), key := Value.str (Str.ofString "MemoryError") 95, val := Value.type "MemoryError" }, { hash := PyData.keyHash P (Str.ofString "NameError"), key := Value.str (Str.ofString "NameError") 96, val := Value.type "NameError" }, { hash := PyData.keyHash P (Str.ofString "OSError"), key := Value.str (Str.ofString "OSError") 97, val := Value.type "OSError" }, { hash := PyData.keyHash P (Str.ofString "ReferenceError"), key := Value.str (Str.ofString "ReferenceError") 98, val := Value.type "ReferenceError" }, { hash := PyData.keyHash P (Str.ofString "RuntimeError"), key := Value.str (Str.ofString "RuntimeError") 99, val := Value.type "RuntimeError" }, { hash := PyData.keyHash P (Str.ofString "StopAsyncIteration"), key := Value.str (Str.ofString "StopAsyncIteration") 100, val := Value.type "StopAsyncIteration" }, { hash := PyData.keyHash P (Str.ofString "StopIteration"), key := Value.str (Str.ofString "StopIteration") 101, val := Value.type "StopIteration" }, { hash := PyData.keyHash P (Str.ofString "SyntaxError"), key := Value.str (Str.ofString "SyntaxError") 102, val := Value.type "SyntaxError" }, { hash := PyData.keyHash P (Str.ofString "SystemError"), key := Value.str (Str.ofString "SystemError") 103, val := Value.type "SystemError" }, { hash := PyData.keyHash P (Str.ofString "TypeError"), key := Value.str (Str.ofString "TypeError") 104, val := Value.type "TypeError" }, { hash := PyData.keyHash P (Str.ofString "ValueError"), key := Value.str (Str.ofString "ValueError") 105, val := Value.type "ValueError" }, { hash := PyData.keyHash P (Str.ofString "Warning"), key := Value.str (Str.ofString "Warning") 106, val := Value.type "Warning" }, { hash := PyData.keyHash P (Str.ofString "FloatingPointError"), key := Value.str (Str.ofString "FloatingPointError") 107, val := Value.type "FloatingPointError" }, { hash := PyData.keyHash P (Str.ofString "OverflowError"), key := Value.str (Str.ofString "OverflowError") 108, val := Value.type "OverflowError" }, { hash := PyData.keyHash P (Str.ofString "ZeroDivisionError"), key := Value.str (Str.ofString "ZeroDivisionError") 109, val := Value.type "ZeroDivisionError" }, { hash := PyData.keyHash P (Str.ofString "BytesWarning"), key := Value.str (Str.ofString "BytesWarning") 110, val := Value.type "BytesWarning" }, { hash := PyData.keyHash P (Str.ofString "DeprecationWarning"), key := Value.str (Str.ofString "DeprecationWarning") 111, val := Value.type "DeprecationWarning" }, { hash := PyData.keyHash P (Str.ofString "EncodingWarning"), key := Value.str (Str.ofString "EncodingWarning") 112, val := Value.type "EncodingWarning" }, { hash := PyData.keyHash P (Str.ofString "FutureWarning"), key := Value.str (Str.ofString "FutureWarning") 113, val := Value.type "FutureWarning" }, { hash := PyData.keyHash P (Str.ofString "ImportWarning"), key := Value.str (Str.ofString "ImportWarning") 114, val := Value.type "ImportWarning" }, { hash := PyData.keyHash P (Str.ofString "PendingDeprecationWarning"), key := Value.str (Str.ofString "PendingDeprecationWarning") 115, val := Value.type "PendingDeprecationWarning" }, { hash := PyData.keyHash P (Str.ofString "ResourceWarning"), key := Value.str (Str.ofString "ResourceWarning") 116, val := Value.type "ResourceWarning" }, { hash := PyData.keyHash P (Str.ofString "RuntimeWarning"), key := Value.str (Str.ofString "RuntimeWarning") 117, val := Value.type "RuntimeWarning" }, { hash := PyData.keyHash P (Str.ofString "SyntaxWarning"), key := Value.str (Str.ofString "SyntaxWarning") 118, val := Value.type "SyntaxWarning" }, { hash := PyData.keyHash P (Str.ofString "UnicodeWarning"), key := Value.str (Str.ofString "UnicodeWarning") 119, val := Value.type "UnicodeWarning" }, { hash := PyData.keyHash P (Str.ofString "UserWarning"), key := Value.str (Str.ofString "UserWarning") 120, val := Value.type "UserWarning" }, { hash := PyData.keyHash P (Str.ofString "BlockingIOError"), key := Value.str (Str.ofString "BlockingIOError") 121, val := Value.type "BlockingIOError" }, { hash := PyData.keyHash P (Str.ofString "ChildProcessError"), key := Value.str (Str.ofString "ChildProcessError") 122, val := Value.type "ChildProcessError" }, { hash := PyData.keyHash P (Str.ofString "ConnectionError"), key := Value.str (Str.ofString "ConnectionError") 123, val := Value.type "ConnectionError" }, { hash := PyData.keyHash P (Str.ofString "FileExistsError"), key := Value.str (Str.ofString "FileExistsError") 124, val := Value.type "FileExistsError" }, { hash := PyData.keyHash P (Str.ofString "FileNotFoundError"), key := Value.str (Str.ofString "FileNotFoundError") 125, val := Value.type "FileNotFoundError" }, { hash := PyData.keyHash P (Str.ofString "InterruptedError"), key := Value.str (Str.ofString "InterruptedError") 126, val := Value.type "InterruptedError" }, { hash := PyData.keyHash P (Str.ofString "IsADirectoryError"), key := Value.str (Str.ofString "IsADirectoryError") 127, val := Value.type "IsADirectoryError" }, { hash := PyData.keyHash P (Str.ofString "NotADirectoryError"), key := Value.str (Str.ofString "NotADirectoryError") 128, val := Value.type "NotADirectoryError" }, { hash := PyData.keyHash P (Str.ofString "PermissionError"), key := Value.str (Str.ofString "PermissionError") 129, val := Value.type "PermissionError" }, { hash := PyData.keyHash P (Str.ofString "ProcessLookupError"), key := Value.str (Str.ofString "ProcessLookupError") 130, val := Value.type "ProcessLookupError" }, { hash := PyData.keyHash P (Str.ofString "TimeoutError"), key := Value.str (Str.ofString "TimeoutError") 131, val := Value.type "TimeoutError" }, { hash := PyData.keyHash P (Str.ofString "IndentationError"), key := Value.str (Str.ofString "IndentationError") 132, val := Value.type "IndentationError" }, { hash := PyData.keyHash P (Str.ofString "_IncompleteInputError"), key := Value.str (Str.ofString "_IncompleteInputError") 133, val := Value.type "_IncompleteInputError" }, { hash := PyData.keyHash P (Str.ofString "IndexError"), key := Value.str (Str.ofString "IndexError") 134, val := Value.type "IndexError" }, { hash := PyData.keyHash P (Str.ofString "KeyError"), key := Value.str (Str.ofString "KeyError") 135, val := Value.type "KeyError" }, { hash := PyData.keyHash P (Str.ofString "ModuleNotFoundError"), key := Value.str (Str.ofString "ModuleNotFoundError") 136, val := Value.type "ModuleNotFoundError" }, { hash := PyData.keyHash P (Str.ofString "NotImplementedError"), key := Value.str (Str.ofString "NotImplementedError") 137, val := Value.type "NotImplementedError" }, { hash := PyData.keyHash P (Str.ofString "PythonFinalizationError"), key := Value.str (Str.ofString "PythonFinalizationError") 138, val := Value.type "PythonFinalizationError" }, { hash := PyData.keyHash P (Str.ofString "RecursionError"), key := Value.str (Str.ofString "RecursionError") 139, val := Value.type "RecursionError" }, { hash := PyData.keyHash P (Str.ofString "UnboundLocalError"), key := Value.str (Str.ofString "UnboundLocalError") 140, val := Value.type "UnboundLocalError" }, { hash := PyData.keyHash P (Str.ofString "UnicodeError"), key := Value.str (Str.ofString "UnicodeError") 141, val := Value.type "UnicodeError" }, { hash := PyData.keyHash P (Str.ofString "BrokenPipeError"), key := Value.str (Str.ofString "BrokenPipeError") 142, val := Value.type "BrokenPipeError" }, { hash := PyData.keyHash P (Str.ofString "ConnectionAbortedError"), key := Value.str (Str.ofString "ConnectionAbortedError") 143, val := Value.type "ConnectionAbortedError" }, { hash := PyData.keyHash P (Str.ofString "ConnectionRefusedError"), key := Value.str (Str.ofString "ConnectionRefusedError") 144, val := Value.type "ConnectionRefusedError" }, { hash := PyData.keyHash P (Str.ofString "ConnectionResetError"), key := Value.str (Str.ofString "ConnectionResetError") 145, val := Value.type "ConnectionResetError" }, { hash := PyData.keyHash P (Str.ofString "TabError"), key := Value.str (Str.ofString "TabError") 146, val := Value.type "TabError" }, { hash := PyData.keyHash P (Str.ofString "UnicodeDecodeError"), key := Value.str (Str.ofString "UnicodeDecodeError") 147, val := Value.type "UnicodeDecodeError" }, { hash := PyData.keyHash P (Str.ofString "UnicodeEncodeError"), key := Value.str (Str.ofString "UnicodeEncodeError") 148, val := Value.type "UnicodeEncodeError" }, { hash := PyData.keyHash P (Str.ofString "UnicodeTranslateError"), key := Value.str (Str.ofString "UnicodeTranslateError") 149, val := Value.type "UnicodeTranslateError" }, { hash := PyData.keyHash P (Str.ofString "ExceptionGroup"), key := Value.str (Str.ofString "ExceptionGroup") 150, val := Value.type "ExceptionGroup" }, { hash := PyData.keyHash P (Str.ofString "EnvironmentError"), key := Value.str (Str.ofString "EnvironmentError") 151, val := Value.type "OSError" }, { hash := PyData.keyHash P (Str.ofString "IOError"), key := Value.str (Str.ofString "IOError") 152, val := Value.type "OSError" }, { hash := PyData.keyHash P (Str.ofString "open"), key := Value.str (Str.ofString "open") 153, val := Value.builtin "open" }, { hash := PyData.keyHash P (Str.ofString "quit"), key := Value.str (Str.ofString "quit") 154, val := Value.builtin "builtins.quit#opaque" }, { hash := PyData.keyHash P (Str.ofString "exit"), key := Value.str (Str.ofString "exit") 155, val := Value.builtin "builtins.exit#opaque" }, { hash := PyData.keyHash P (Str.ofString "copyright"), key := Value.str (Str.ofString "copyright") 156, val := Value.builtin "builtins.copyright#opaque" }, { hash := PyData.keyHash P (Str.ofString "credits"), key := Value.str (Str.ofString "credits") 157, val := Value.builtin "builtins.credits#opaque" }, { hash := PyData.keyHash P (Str.ofString "license"), key := Value.str (Str.ofString "license") 158, val := Value.builtin "builtins.license#opaque" }, { hash := PyData.keyHash P (Str.ofString "help"), key := Value.str (Str.ofString "help") 159, val := Value.builtin "builtins.help#opaque" }] 159 }
noncomputable def hp1 (P : Params) : Obj := { cls := Value.type "dict", data := Data.dict #[{ hash := PyData.keyHash P (Str.ofString "builtins"), key := Value.str (Str.ofString "builtins") 162, val := Value.ref 4 }, { hash := PyData.keyHash P (Str.ofString "__main__"), key := Value.str (Str.ofString "__main__") 163, val := Value.ref 5 }, { hash := PyData.keyHash P (Str.ofString "_sre"), key := Value.str (Str.ofString "_sre") 244, val := Value.ref 12 }] 3 }
noncomputable def hp2 (P : Params) : Obj := { cls := Value.none, data := Data.dict #[{ hash := PyData.keyHash P (impS "loaded._sre"), key := Value.str (impS "loaded._sre") 183, val := Value.bool true }, { hash := PyData.keyHash P (Str.ofString "class._frozen_importlib.BuiltinImporter"), key := Value.str (Str.ofString "class._frozen_importlib.BuiltinImporter") 185, val := Value.ref 14 }, { hash := PyData.keyHash P (watS), key := Value.str (watS) 206, val := Value.ref 18 }, { hash := PyData.keyHash P (Str.ofString "class._frozen_importlib.ModuleSpec"), key := Value.str (Str.ofString "class._frozen_importlib.ModuleSpec") 216, val := Value.ref 22 }, { hash := PyData.keyHash P (Str.ofString "sys.modules.booked-epoch"), key := Value.str (Str.ofString "sys.modules.booked-epoch") 245, val := Value.int 3 0 }, { hash := PyData.keyHash P (impS "later-laid._sre"), key := Value.str (impS "later-laid._sre") 270, val := Value.bool true }, { hash := PyData.keyHash P (Str.ofString "watched.library"), key := Value.str (Str.ofString "watched.library") 272, val := Value.ref 27 }, { hash := PyData.keyHash P (Str.ofString "watched.library-objects"), key := Value.str (Str.ofString "watched.library-objects") 0, val := Value.str (Str.ofString "\x0c") 0 }, { hash := PyData.keyHash P (Str.ofString "watched.library-deep._sre"), key := Value.str (Str.ofString "watched.library-deep._sre") 273, val := Value.str (Str.ofString "\x04\x00\x00\x0b\x04\x00\x00\x0b\x04\x00\x00\x03\x04\x00\x00\x0b\x08\x04dict\x02") 0 }] 9 }
noncomputable def hp3 (P : Params) : Obj := { cls := Value.type "dict", data := Data.dict #[{ hash := PyData.keyHash P (Str.ofString "__name__"), key := Value.str (Str.ofString "__name__") 165, val := Value.str (Str.ofString "__main__") 164 }, { hash := PyData.keyHash P (Str.ofString "__doc__"), key := Value.str (Str.ofString "__doc__") 166, val := Value.none }, { hash := PyData.keyHash P (Str.ofString "__package__"), key := Value.str (Str.ofString "__package__") 167, val := Value.none }, { hash := PyData.keyHash P (Str.ofString "__loader__"), key := Value.str (Str.ofString "__loader__") 168, val := Value.builtin "__main__.__loader__#opaque" }, { hash := PyData.keyHash P (Str.ofString "__spec__"), key := Value.str (Str.ofString "__spec__") 169, val := Value.none }, { hash := PyData.keyHash P (Str.ofString "__annotations__"), key := Value.str (Str.ofString "__annotations__") 170, val := Value.ref 6 }, { hash := PyData.keyHash P (Str.ofString "__builtins__"), key := Value.str (Str.ofString "__builtins__") 171, val := Value.ref 4 }, { hash := PyData.keyHash P (Str.ofString "__file__"), key := Value.str (Str.ofString "__file__") 173, val := Value.str (Str.ofString "/claim/cut.py") 172 }, { hash := PyData.keyHash P (Str.ofString "__cached__"), key := Value.str (Str.ofString "__cached__") 174, val := Value.none }, { hash := PyData.keyHash P (Str.ofString "_sre"), key := Value.str (Str.ofString "_sre") 275, val := Value.ref 12 }] 10 }
noncomputable def hp4 (P : Params) : Obj := { cls := Value.type "module", dict := some 0 }
noncomputable def hp5 (P : Params) : Obj := { cls := Value.type "module", dict := some 3 }
noncomputable def hp6 (P : Params) : Obj := { cls := Value.type "dict", data := Data.dict #[] }
noncomputable def hp7 (P : Params) : Obj := { cls := Value.type "tuple", data := Data.seq #[] }
noncomputable def hp8 (P : Params) : Obj := { cls := Value.none, data := Data.fields #[] }
noncomputable def hp9 (P : Params) : Obj := { cls := Value.type "code", data := Data.fields #[Value.str (Str.ofString "<module>") 176, Value.str (Str.ofString "<module>") 177, Value.str (Str.ofString "/claim/cut.py") 178, Value.int 1 0, Value.int 0 0, Value.int 0 0, Value.int 0 0, Value.int 0 0, Value.ref 7, Value.bool false, Value.int 175 0, Value.ref 8, Value.none, Value.none, Value.none, Value.none, Value.int 179 0, Value.int 1 0, Value.str (Str.ofString "/claim/cut.py") 180] }
noncomputable def hp10 (P : Params) : Obj := { cls := Value.type "frame", slots := #[some (Value.ref 9), some (Value.ref 3), some (Value.ref 3), none, some (Value.str (Str.ofString "__main__") 164), none, some (Value.ref 0)] }
noncomputable def hp11 (P : Params) : Obj := { cls := Value.type "dict", data := Data.dict #[{ hash := PyData.keyHash P (Str.ofString "__name__"), key := Value.str (Str.ofString "__name__") 247, val := Value.str (Str.ofString "_sre") 246 }, { hash := PyData.keyHash P (Str.ofString "__doc__"), key := Value.str (Str.ofString "__doc__") 248, val := Value.none }, { hash := PyData.keyHash P (Str.ofString "__package__"), key := Value.str (Str.ofString "__package__") 250, val := Value.str (Str.ofString "") 249 }, { hash := PyData.keyHash P (Str.ofString "__loader__"), key := Value.str (Str.ofString "__loader__") 251, val := Value.ref 14 }, { hash := PyData.keyHash P (Str.ofString "__spec__"), key := Value.str (Str.ofString "__spec__") 252, val := Value.ref 26 }, { hash := PyData.keyHash P (Str.ofString "compile"), key := Value.str (Str.ofString "compile") 253, val := Value.builtin "_sre.compile" }, { hash := PyData.keyHash P (Str.ofString "template"), key := Value.str (Str.ofString "template") 254, val := Value.builtin "_sre.template" }, { hash := PyData.keyHash P (Str.ofString "getcodesize"), key := Value.str (Str.ofString "getcodesize") 255, val := Value.builtin "_sre.getcodesize" }, { hash := PyData.keyHash P (Str.ofString "ascii_iscased"), key := Value.str (Str.ofString "ascii_iscased") 256, val := Value.builtin "_sre.ascii_iscased" }, { hash := PyData.keyHash P (Str.ofString "unicode_iscased"), key := Value.str (Str.ofString "unicode_iscased") 257, val := Value.builtin "_sre.unicode_iscased" }, { hash := PyData.keyHash P (Str.ofString "ascii_tolower"), key := Value.str (Str.ofString "ascii_tolower") 258, val := Value.builtin "_sre.ascii_tolower" }, { hash := PyData.keyHash P (Str.ofString "unicode_tolower"), key := Value.str (Str.ofString "unicode_tolower") 259, val := Value.builtin "_sre.unicode_tolower" }, { hash := PyData.keyHash P (Str.ofString "MAGIC"), key := Value.str (Str.ofString "MAGIC") 261, val := Value.int 20230612 260 }, { hash := PyData.keyHash P (Str.ofString "CODESIZE"), key := Value.str (Str.ofString "CODESIZE") 263, val := Value.int 4 262 }, { hash := PyData.keyHash P (Str.ofString "MAXREPEAT"), key := Value.str (Str.ofString "MAXREPEAT") 265, val := Value.int 4294967295 264 }, { hash := PyData.keyHash P (Str.ofString "MAXGROUPS"), key := Value.str (Str.ofString "MAXGROUPS") 267, val := Value.int 1073741823 266 }, { hash := PyData.keyHash P (Str.ofString "copyright"), key := Value.str (Str.ofString "copyright") 269, val := Value.str (Str.ofString " SRE 2.2.2 Copyright (c) 1997-2002 by Secret Labs AB ") 268 }] 17 }
noncomputable def hp12 (P : Params) : Obj := { cls := Value.type "module", dict := some 11 }
noncomputable def hp13 (P : Params) : Obj := { cls := Value.type "dict", data := Data.dict #[{ hash := PyData.keyHash P (Str.ofString "__module__"), key := Value.str (Str.ofString "__module__") 189, val := Value.str (Str.ofString "_frozen_importlib") 186 }, { hash := PyData.keyHash P (Str.ofString "__firstlineno__"), key := Value.str (Str.ofString "__firstlineno__") 190, val := Value.int 971 187 }, { hash := PyData.keyHash P (Str.ofString "__doc__"), key := Value.str (Str.ofString "__doc__") 191, val := Value.builtin "_frozen_importlib.BuiltinImporter.__doc__:str#opaque" }, { hash := PyData.keyHash P (Str.ofString "_ORIGIN"), key := Value.str (Str.ofString "_ORIGIN") 192, val := Value.str (Str.ofString "built-in") 188 }, { hash := PyData.keyHash P (Str.ofString "find_spec"), key := Value.str (Str.ofString "find_spec") 193, val := Value.builtin "_frozen_importlib.BuiltinImporter.find_spec#opaque" }, { hash := PyData.keyHash P (Str.ofString "create_module"), key := Value.str (Str.ofString "create_module") 194, val := Value.builtin "_frozen_importlib.BuiltinImporter.create_module#opaque" }, { hash := PyData.keyHash P (Str.ofString "exec_module"), key := Value.str (Str.ofString "exec_module") 195, val := Value.builtin "_frozen_importlib.BuiltinImporter.exec_module#opaque" }, { hash := PyData.keyHash P (Str.ofString "get_code"), key := Value.str (Str.ofString "get_code") 196, val := Value.builtin "_frozen_importlib.BuiltinImporter.get_code#opaque" }, { hash := PyData.keyHash P (Str.ofString "get_source"), key := Value.str (Str.ofString "get_source") 197, val := Value.builtin "_frozen_importlib.BuiltinImporter.get_source#opaque" }, { hash := PyData.keyHash P (Str.ofString "is_package"), key := Value.str (Str.ofString "is_package") 198, val := Value.builtin "_frozen_importlib.BuiltinImporter.is_package#opaque" }, { hash := PyData.keyHash P (Str.ofString "load_module"), key := Value.str (Str.ofString "load_module") 199, val := Value.builtin "_frozen_importlib.BuiltinImporter.load_module#opaque" }, { hash := PyData.keyHash P (Str.ofString "__static_attributes__"), key := Value.str (Str.ofString "__static_attributes__") 200, val := Value.ref 15 }, { hash := PyData.keyHash P (Str.ofString "__dict__"), key := Value.str (Str.ofString "__dict__") 202, val := Value.ref 16 }, { hash := PyData.keyHash P (Str.ofString "__weakref__"), key := Value.str (Str.ofString "__weakref__") 204, val := Value.ref 17 }] 14 }
noncomputable def hp14 (P : Params) : Obj := { cls := Value.type "type", data := Data.cls { name := Str.ofString "BuiltinImporter", bases := [Value.type "object"], mro := [Value.ref 14, Value.type "object"], ns := 13, qualname := Str.ofString "BuiltinImporter" } }
noncomputable def hp15 (P : Params) : Obj := { cls := Value.type "getset_descriptor", data := Data.fields #[Value.str (Str.ofString "__dict__") 201, Value.ref 14, Value.builtin "function.__dict__", Value.builtin "function.__dict__#set"] }
noncomputable def hp16 (P : Params) : Obj := { cls := Value.type "getset_descriptor", data := Data.fields #[Value.str (Str.ofString "__weakref__") 203, Value.ref 14, Value.builtin "ExceptionGroup.__weakref__", Value.none] }
noncomputable def hp17 (P : Params) : Obj := { cls := Value.none, data := Data.seq #[Value.int 13 0, Value.str (Str.ofString "\x06½\n__module__\x06º\x11_frozen_importlib\x06¾\x0f__firstlineno__\x04»\x00ϋ\x06¿\x07__doc__\t4_frozen_importlib.BuiltinImporter.__doc__:str#opaque\x06À\x07_ORIGIN\x06¼\x08built-in\x06Á\tfind_spec\t2_frozen_importlib.BuiltinImporter.find_spec#opaque\x06Â\x0dcreate_module\t6_frozen_importlib.BuiltinImporter.create_module#opaque\x06Ã\x0bexec_module\t4_frozen_importlib.BuiltinImporter.exec_module#opaque\x06Ä\x08get_code\t1_frozen_importlib.BuiltinImporter.get_code#opaque\x06Å\nget_source\t3_frozen_importlib.BuiltinImporter.get_source#opaque\x06Æ\nis_package\t3_frozen_importlib.BuiltinImporter.is_package#opaque\x06Ç\x0bload_module\t4_frozen_importlib.BuiltinImporter.load_module#opaque\x06È\x15__static_attributes__\x04\x00\x00\x0f\x06Ê\x08__dict__\x04\x00\x00\x10\x06Ì\x0b__weakref__\x04\x00\x00\x11") 0, Value.bool true, Value.bool true, Value.str (Str.ofString "") 205, Value.int 21 0, Value.str (Str.ofString "\x06ã\n__module__\x06Ù\x11_frozen_importlib\x06ä\x0f__firstlineno__\x04Ú\x00Ȳ\x06å\x07__doc__\t/_frozen_importlib.ModuleSpec.__doc__:str#opaque\x06æ\x08__init__\t,_frozen_importlib.ModuleSpec.__init__#opaque\x06ç\x08__repr__\t,_frozen_importlib.ModuleSpec.__repr__#opaque\x06è\x06__eq__\t*_frozen_importlib.ModuleSpec.__eq__#opaque\x06é\x06cached\t*_frozen_importlib.ModuleSpec.cached#opaque\x06ê\x06parent\t*_frozen_importlib.ModuleSpec.parent#opaque\x06ë\x0chas_location\t0_frozen_importlib.ModuleSpec.has_location#opaque\x06ì\x15__static_attributes__\x04\x00\x00\x17\x06î\x08__dict__\x04\x00\x00\x18\x06ð\x0b__weakref__\x04\x00\x00\x19\x06ñ\x08__hash__\x00") 0, Value.bool true, Value.bool true, Value.str (Str.ofString "") 242] 1 }
noncomputable def hp18 (P : Params) : Obj := { cls := Value.type "list", data := Data.seq #[] }
noncomputable def hp19 (P : Params) : Obj := { cls := Value.type "dict", data := Data.dict #[{ hash := PyData.keyHash P (Str.ofString "name"), key := Value.str (Str.ofString "name") 208, val := Value.str (Str.ofString "_sre") 207 }, { hash := PyData.keyHash P (Str.ofString "loader"), key := Value.str (Str.ofString "loader") 209, val := Value.ref 14 }, { hash := PyData.keyHash P (Str.ofString "origin"), key := Value.str (Str.ofString "origin") 210, val := Value.str (Str.ofString "built-in") 184 }, { hash := PyData.keyHash P (Str.ofString "loader_state"), key := Value.str (Str.ofString "loader_state") 211, val := Value.none }, { hash := PyData.keyHash P (Str.ofString "submodule_search_locations"), key := Value.str (Str.ofString "submodule_search_locations") 212, val := Value.none }, { hash := PyData.keyHash P (Str.ofString "_uninitialized_submodules"), key := Value.str (Str.ofString "_uninitialized_submodules") 213, val := Value.ref 19 }, { hash := PyData.keyHash P (Str.ofString "_set_fileattr"), key := Value.str (Str.ofString "_set_fileattr") 214, val := Value.bool false }, { hash := PyData.keyHash P (Str.ofString "_cached"), key := Value.str (Str.ofString "_cached") 215, val := Value.none }, { hash := PyData.keyHash P (Str.ofString "_initializing"), key := Value.str (Str.ofString "_initializing") 243, val := Value.bool false }] 9 }
noncomputable def hp20 (P : Params) : Obj := { cls := Value.type "dict", data := Data.dict #[{ hash := PyData.keyHash P (Str.ofString "__module__"), key := Value.str (Str.ofString "__module__") 227, val := Value.str (Str.ofString "_frozen_importlib") 217 }, { hash := PyData.keyHash P (Str.ofString "__firstlineno__"), key := Value.str (Str.ofString "__firstlineno__") 228, val := Value.int 562 218 }, { hash := PyData.keyHash P (Str.ofString "__doc__"), key := Value.str (Str.ofString "__doc__") 229, val := Value.builtin "_frozen_importlib.ModuleSpec.__doc__:str#opaque" }, { hash := PyData.keyHash P (Str.ofString "__init__"), key := Value.str (Str.ofString "__init__") 230, val := Value.builtin "_frozen_importlib.ModuleSpec.__init__#opaque" }, { hash := PyData.keyHash P (Str.ofString "__repr__"), key := Value.str (Str.ofString "__repr__") 231, val := Value.builtin "_frozen_importlib.ModuleSpec.__repr__#opaque" }, { hash := PyData.keyHash P (Str.ofString "__eq__"), key := Value.str (Str.ofString "__eq__") 232, val := Value.builtin "_frozen_importlib.ModuleSpec.__eq__#opaque" }, { hash := PyData.keyHash P (Str.ofString "cached"), key := Value.str (Str.ofString "cached") 233, val := Value.builtin "_frozen_importlib.ModuleSpec.cached#opaque" }, { hash := PyData.keyHash P (Str.ofString "parent"), key := Value.str (Str.ofString "parent") 234, val := Value.builtin "_frozen_importlib.ModuleSpec.parent#opaque" }, { hash := PyData.keyHash P (Str.ofString "has_location"), key := Value.str (Str.ofString "has_location") 235, val := Value.builtin "_frozen_importlib.ModuleSpec.has_location#opaque" }, { hash := PyData.keyHash P (Str.ofString "__static_attributes__"), key := Value.str (Str.ofString "__static_attributes__") 236, val := Value.ref 23 }, { hash := PyData.keyHash P (Str.ofString "__dict__"), key := Value.str (Str.ofString "__dict__") 238, val := Value.ref 24 }, { hash := PyData.keyHash P (Str.ofString "__weakref__"), key := Value.str (Str.ofString "__weakref__") 240, val := Value.ref 25 }, { hash := PyData.keyHash P (Str.ofString "__hash__"), key := Value.str (Str.ofString "__hash__") 241, val := Value.none }] 13 }
noncomputable def hp21 (P : Params) : Obj := { cls := Value.type "type", data := Data.cls { name := Str.ofString "ModuleSpec", bases := [Value.type "object"], mro := [Value.ref 22, Value.type "object"], ns := 21, qualname := Str.ofString "ModuleSpec" } }
noncomputable def hp22 (P : Params) : Obj := { cls := Value.type "tuple", data := Data.seq #[Value.str (Str.ofString "_cached") 219, Value.str (Str.ofString "_set_fileattr") 220, Value.str (Str.ofString "_uninitialized_submodules") 221, Value.str (Str.ofString "loader") 222, Value.str (Str.ofString "loader_state") 223, Value.str (Str.ofString "name") 224, Value.str (Str.ofString "origin") 225, Value.str (Str.ofString "submodule_search_locations") 226] }
noncomputable def hp23 (P : Params) : Obj := { cls := Value.type "getset_descriptor", data := Data.fields #[Value.str (Str.ofString "__dict__") 237, Value.ref 22, Value.builtin "function.__dict__", Value.builtin "function.__dict__#set"] }
noncomputable def hp24 (P : Params) : Obj := { cls := Value.type "getset_descriptor", data := Data.fields #[Value.str (Str.ofString "__weakref__") 239, Value.ref 22, Value.builtin "ExceptionGroup.__weakref__", Value.none] }
noncomputable def hp25 (P : Params) : Obj := { cls := Value.ref 22, dict := some 20 }
noncomputable def hp26 (P : Params) : Obj := { cls := Value.none, data := Data.seq #[Value.int 11 0, Value.str { cps := #[6, 247, 8, 95, 95, 110, 97, 109, 101, 95, 95, 6, 246, 4, 95, 115, 114, 101, 6, 248, 7, 95, 95, 100, 111, 99, 95, 95, 0, 6, 250, 11, 95, 95, 112, 97, 99, 107, 97, 103, 101, 95, 95, 6, 249, 0, 6, 251, 10, 95, 95, 108, 111, 97, 100, 101, 114, 95, 95, 4, 0, 0, 14, 6, 252, 8, 95, 95, 115, 112, 101, 99, 95, 95, 4, 0, 0, 26, 6, 253, 7, 99, 111, 109, 112, 105, 108, 101, 9, 12, 95, 115, 114, 101, 46, 99, 111, 109, 112, 105, 108, 101, 6, 254, 8, 116, 101, 109, 112, 108, 97, 116, 101, 9, 13, 95, 115, 114, 101, 46, 116, 101, 109, 112, 108, 97, 116, 101, 6, 255, 11, 103, 101, 116, 99, 111, 100, 101, 115, 105, 122, 101, 9, 16, 95, 115, 114, 101, 46, 103, 101, 116, 99, 111, 100, 101, 115, 105, 122, 101, 6, 256, 13, 97, 115, 99, 105, 105, 95, 105, 115, 99, 97, 115, 101, 100, 9, 18, 95, 115, 114, 101, 46, 97, 115, 99, 105, 105, 95, 105, 115, 99, 97, 115, 101, 100, 6, 257, 15, 117, 110, 105, 99, 111, 100, 101, 95, 105, 115, 99, 97, 115, 101, 100, 9, 20, 95, 115, 114, 101, 46, 117, 110, 105, 99, 111, 100, 101, 95, 105, 115, 99, 97, 115, 101, 100, 6, 258, 13, 97, 115, 99, 105, 105, 95, 116, 111, 108, 111, 119, 101, 114, 9, 18, 95, 115, 114, 101, 46, 97, 115, 99, 105, 105, 95, 116, 111, 108, 111, 119, 101, 114, 6, 259, 15, 117, 110, 105, 99, 111, 100, 101, 95, 116, 111, 108, 111, 119, 101, 114, 9, 20, 95, 115, 114, 101, 46, 117, 110, 105, 99, 111, 100, 101, 95, 116, 111, 108, 111, 119, 101, 114, 6, 261, 5, 77, 65, 71, 73, 67, 4, 260, 0, 20230612, 6, 263, 8, 67, 79, 68, 69, 83, 73, 90, 69, 4, 262, 0, 4, 6, 265, 9, 77, 65, 88, 82, 69, 80, 69, 65, 84, 4, 264, 0, 4294967295, 6, 267, 9, 77, 65, 88, 71, 82, 79, 85, 80, 83, 4, 266, 0, 1073741823, 6, 269, 9, 99, 111, 112, 121, 114, 105, 103, 104, 116, 6, 268, 53, 32, 83, 82, 69, 32, 50, 46, 50, 46, 50, 32, 67, 111, 112, 121, 114, 105, 103, 104, 116, 32, 40, 99, 41, 32, 49, 57, 57, 55, 45, 50, 48, 48, 50, 32, 98, 121, 32, 83, 101, 99, 114, 101, 116, 32, 76, 97, 98, 115, 32, 65, 66, 32] } 0, Value.bool true, Value.bool false, Value.str (Str.ofString "_sre") 271] }
noncomputable def hp27 (P : Params) : Obj := { cls := Value.type "dict", data := Data.dict #[{ hash := PyData.keyHash P (Str.ofString "__name__"), key := Value.str (Str.ofString "__name__") 247, val := Value.str (Str.ofString "_sre") 246 }, { hash := PyData.keyHash P (Str.ofString "__doc__"), key := Value.str (Str.ofString "__doc__") 248, val := Value.none }, { hash := PyData.keyHash P (Str.ofString "__package__"), key := Value.str (Str.ofString "__package__") 250, val := Value.str (Str.ofString "") 249 }, { hash := PyData.keyHash P (Str.ofString "__loader__"), key := Value.str (Str.ofString "__loader__") 251, val := Value.builtin "off-the-table:_sre.__loader__:shared#opaque" }, { hash := PyData.keyHash P (Str.ofString "__spec__"), key := Value.str (Str.ofString "__spec__") 252, val := Value.builtin "off-the-table:_sre.__spec__:shared#opaque" }, { hash := PyData.keyHash P (Str.ofString "compile"), key := Value.str (Str.ofString "compile") 253, val := Value.builtin "_sre.compile" }, { hash := PyData.keyHash P (Str.ofString "template"), key := Value.str (Str.ofString "template") 254, val := Value.builtin "off-the-table:_sre.template:shared#opaque" }, { hash := PyData.keyHash P (Str.ofString "getcodesize"), key := Value.str (Str.ofString "getcodesize") 255, val := Value.builtin "off-the-table:_sre.getcodesize:shared#opaque" }, { hash := PyData.keyHash P (Str.ofString "ascii_iscased"), key := Value.str (Str.ofString "ascii_iscased") 256, val := Value.builtin "off-the-table:_sre.ascii_iscased:shared#opaque" }, { hash := PyData.keyHash P (Str.ofString "unicode_iscased"), key := Value.str (Str.ofString "unicode_iscased") 257, val := Value.builtin "off-the-table:_sre.unicode_iscased:shared#opaque" }, { hash := PyData.keyHash P (Str.ofString "ascii_tolower"), key := Value.str (Str.ofString "ascii_tolower") 258, val := Value.builtin "off-the-table:_sre.ascii_tolower:shared#opaque" }, { hash := PyData.keyHash P (Str.ofString "unicode_tolower"), key := Value.str (Str.ofString "unicode_tolower") 259, val := Value.builtin "off-the-table:_sre.unicode_tolower:shared#opaque" }, { hash := PyData.keyHash P (Str.ofString "MAGIC"), key := Value.str (Str.ofString "MAGIC") 261, val := Value.int 20230612 260 }, { hash := PyData.keyHash P (Str.ofString "CODESIZE"), key := Value.str (Str.ofString "CODESIZE") 263, val := Value.int 4 262 }, { hash := PyData.keyHash P (Str.ofString "MAXREPEAT"), key := Value.str (Str.ofString "MAXREPEAT") 265, val := Value.int 4294967295 264 }, { hash := PyData.keyHash P (Str.ofString "MAXGROUPS"), key := Value.str (Str.ofString "MAXGROUPS") 267, val := Value.int 1073741823 266 }, { hash := PyData.keyHash P (Str.ofString "copyright"), key := Value.str (Str.ofString "copyright") 269, val := Value.str (Str.ofString " SRE 2.2.2 Copyright (c) 1997-2002 by Secret Labs AB ") 268 }] 17 }
noncomputable def hp28 (P : Params) : Obj := { cls := Value.type "code", data := Data.fields #[Value.str (Str.ofString "<module>") 277, Value.str (Str.ofString "<module>") 278, Value.str (Str.ofString "/claim/cut.py") 279, Value.int 1 0, Value.int 0 0, Value.int 0 0, Value.int 0 0, Value.int 0 0, Value.ref 28, Value.bool false, Value.int 276 0, Value.ref 29, Value.none, Value.none, Value.none, Value.none, Value.int 280 0, Value.int 1 0, Value.str (Str.ofString "/claim/cut.py") 281] }
noncomputable def hp29 (P : Params) : Obj := { cls := Value.type "frame", slots := #[some (Value.ref 30), some (Value.ref 3), some (Value.ref 3), none, some (Value.str (Str.ofString "__main__") 164), none, some (Value.ref 0)] }
noncomputable def hp30 (P : Params) : Obj := { cls := Value.type "dict", data := Data.dict #[{ hash := PyData.keyHash P (Str.ofString "__name__"), key := Value.str (Str.ofString "__name__") 165, val := Value.str (Str.ofString "cpy313.wsgiref.headers") 282 }, { hash := PyData.keyHash P (Str.ofString "__doc__"), key := Value.str (Str.ofString "__doc__") 166, val := Value.none }, { hash := PyData.keyHash P (Str.ofString "__package__"), key := Value.str (Str.ofString "__package__") 167, val := Value.none }, { hash := PyData.keyHash P (Str.ofString "__loader__"), key := Value.str (Str.ofString "__loader__") 168, val := Value.builtin "__main__.__loader__#opaque" }, { hash := PyData.keyHash P (Str.ofString "__spec__"), key := Value.str (Str.ofString "__spec__") 169, val := Value.none }, { hash := PyData.keyHash P (Str.ofString "__annotations__"), key := Value.str (Str.ofString "__annotations__") 170, val := Value.ref 6 }, { hash := PyData.keyHash P (Str.ofString "__builtins__"), key := Value.str (Str.ofString "__builtins__") 171, val := Value.ref 4 }, { hash := PyData.keyHash P (Str.ofString "__file__"), key := Value.str (Str.ofString "__file__") 173, val := Value.str (Str.ofString "/claim/cut.py") 172 }, { hash := PyData.keyHash P (Str.ofString "__cached__"), key := Value.str (Str.ofString "__cached__") 174, val := Value.none }, { hash := PyData.keyHash P (Str.ofString "_sre"), key := Value.str (Str.ofString "_sre") 275, val := Value.ref 12 }, { hash := PyData.keyHash P (Str.ofString "tspecials"), key := Value.str (Str.ofString "tspecials") 317, val := Value.ref 36 }, { hash := PyData.keyHash P (Str.ofString "_name_disallowed_re"), key := Value.str (Str.ofString "_name_disallowed_re") 343, val := Value.ref 41 }, { hash := PyData.keyHash P (Str.ofString "_value_disallowed_re"), key := Value.str (Str.ofString "_value_disallowed_re") 377, val := Value.ref 46 }, { hash := PyData.keyHash P (Str.ofString "_formatparam"), key := Value.str (Str.ofString "_formatparam") 387, val := Value.ref 54 }] 14 }
noncomputable def hp31 (P : Params) : Obj := { cls := Value.none, data := Data.fields #[Value.int 6 0, Value.int 0 0, Value.ref 53] }
noncomputable def hp32 (P : Params) : Obj := { cls := Value.type "list", data := Data.seq #[Value.int 14 287, Value.int 14 288, Value.int 4 289, Value.int 1 290, Value.int 1 291, Value.int 9 292, Value.int 0 293, Value.int 4227896069 294, Value.int 939524097 295, Value.int 0 296, Value.int 0 297, Value.int 0 298, Value.int 0 299, Value.int 0 300, Value.int 0 301, Value.int 13 302, Value.int 11 303, Value.int 9 304, Value.int 0 305, Value.int 4227896069 306, Value.int 939524097 307, Value.int 0 308, Value.int 0 309, Value.int 0 310, Value.int 0 311, Value.int 0 312, Value.int 0 313, Value.int 1 314] }
noncomputable def hp33 (P : Params) : Obj := { cls := Value.type "tuple", data := Data.seq #[Value.int 14 0, Value.int 14 0, Value.int 4 0, Value.int 1 0, Value.int 1 0, Value.int 9 0, Value.int 0 0, Value.int 4227896069 0, Value.int 939524097 0, Value.int 0 0, Value.int 0 0, Value.int 0 0, Value.int 0 0, Value.int 0 0, Value.int 0 0, Value.int 13 0, Value.int 11 0, Value.int 9 0, Value.int 0 0, Value.int 4227896069 0, Value.int 939524097 0, Value.int 0 0, Value.int 0 0, Value.int 0 0, Value.int 0 0, Value.int 0 0, Value.int 0 0, Value.int 1 0] }
noncomputable def hp34 (P : Params) : Obj := { cls := Value.type "re.Pattern", data := Data.fields #[Value.str (Str.ofString "[ \\(\\)<>@,;:\\\\\"/\\[\\]\\?=]") 285, Value.int 32 316, Value.int 0 0, Value.none, Value.none, Value.ref 35, Value.int 0 0] }
noncomputable def hp35 (P : Params) : Obj := { cls := Value.type "list", data := Data.seq #[Value.int 14 321, Value.int 10 322, Value.int 4 323, Value.int 1 324, Value.int 1 325, Value.int 22 326, Value.int 0 327, Value.int 31 328, Value.int 16 329, Value.int 127 330, Value.int 0 331, Value.int 13 332, Value.int 7 333, Value.int 22 334, Value.int 0 335, Value.int 31 336, Value.int 16 337, Value.int 127 338, Value.int 0 339, Value.int 1 340] }
noncomputable def hp36 (P : Params) : Obj := { cls := Value.type "list", data := Data.seq #[Value.int 14 347, Value.int 14 348, Value.int 4 349, Value.int 1 350, Value.int 1 351, Value.int 9 352, Value.int 4294966783 353, Value.int 0 354, Value.int 0 355, Value.int 2147483648 356, Value.int 0 357, Value.int 0 358, Value.int 0 359, Value.int 0 360, Value.int 0 361, Value.int 13 362, Value.int 11 363, Value.int 9 364, Value.int 4294966783 365, Value.int 0 366, Value.int 0 367, Value.int 2147483648 368, Value.int 0 369, Value.int 0 370, Value.int 0 371, Value.int 0 372, Value.int 0 373, Value.int 1 374] }
noncomputable def hp37 (P : Params) : Obj := { cls := Value.type "tuple", data := Data.seq #[Value.none, Value.int 1 378] }
noncomputable def hp38 (P : Params) : Obj := { cls := Value.type "tuple", data := Data.seq #[Value.str (Str.ofString "param") 382, Value.str (Str.ofString "value") 383, Value.str (Str.ofString "quote") 384] }
noncomputable def hp39 (P : Params) : Obj := { cls := Value.none, data := Data.func { name := Str.ofString "_formatparam", qualname := Str.ofString "_formatparam", params := fP (topS 5), body := .stmts (fB (topS 5)), scope := fS (topS 5), globals := 0, closure := [], defaults := Value.none, kwdefaults := Value.none } }
noncomputable def hp40 (P : Params) : Obj := { cls := Value.type "code", data := Data.fields #[Value.str (Str.ofString "_formatparam") 379, Value.str (Str.ofString "_formatparam") 380, Value.str (Str.ofString "/claim/cut.py") 381, Value.int 6 0, Value.int 3 0, Value.int 0 0, Value.int 0 0, Value.int 3 0, Value.ref 48, Value.bool true, Value.int 276 0, Value.ref 49, Value.none, Value.ref 50, Value.ref 51, Value.ref 52, Value.int 385 0, Value.int 6 0, Value.str (Str.ofString "/claim/cut.py") 386] }
noncomputable def hp41 (P : Params) : Obj := { cls := Value.type "function", data := Data.func { name := Str.ofString "_formatparam", qualname := Str.ofString "_formatparam", params := fP (topS 5), body := .stmts (fB (topS 5)), scope := fS (topS 5), globals := 3, closure := [], defaults := Value.ref 47, kwdefaults := Value.none, pyModule := Value.str (Str.ofString "cpy313.wsgiref.headers") 282, code := Value.ref 53 } }
noncomputable def hp42 (P : Params) : Obj := { cls := Value.type "dict", data := Data.dict #[{ hash := PyData.keyHash P (Str.ofString "__name__"), key := Value.str (Str.ofString "__name__") 165, val := Value.str (Str.ofString "cpy313.wsgiref.headers") 282 }, { hash := PyData.keyHash P (Str.ofString "__doc__"), key := Value.str (Str.ofString "__doc__") 166, val := Value.none }, { hash := PyData.keyHash P (Str.ofString "__package__"), key := Value.str (Str.ofString "__package__") 167, val := Value.none }, { hash := PyData.keyHash P (Str.ofString "__loader__"), key := Value.str (Str.ofString "__loader__") 168, val := Value.builtin "__main__.__loader__#opaque" }, { hash := PyData.keyHash P (Str.ofString "__spec__"), key := Value.str (Str.ofString "__spec__") 169, val := Value.none }, { hash := PyData.keyHash P (Str.ofString "__annotations__"), key := Value.str (Str.ofString "__annotations__") 170, val := Value.ref 6 }, { hash := PyData.keyHash P (Str.ofString "__builtins__"), key := Value.str (Str.ofString "__builtins__") 171, val := Value.ref 4 }, { hash := PyData.keyHash P (Str.ofString "__file__"), key := Value.str (Str.ofString "__file__") 173, val := Value.str (Str.ofString "/claim/cut.py") 172 }, { hash := PyData.keyHash P (Str.ofString "__cached__"), key := Value.str (Str.ofString "__cached__") 174, val := Value.none }, { hash := PyData.keyHash P (Str.ofString "_sre"), key := Value.str (Str.ofString "_sre") 275, val := Value.ref 12 }, { hash := PyData.keyHash P (Str.ofString "tspecials"), key := Value.str (Str.ofString "tspecials") 317, val := Value.ref 36 }, { hash := PyData.keyHash P (Str.ofString "_name_disallowed_re"), key := Value.str (Str.ofString "_name_disallowed_re") 343, val := Value.ref 41 }, { hash := PyData.keyHash P (Str.ofString "_value_disallowed_re"), key := Value.str (Str.ofString "_value_disallowed_re") 377, val := Value.ref 46 }, { hash := PyData.keyHash P (Str.ofString "_formatparam"), key := Value.str (Str.ofString "_formatparam") 387, val := Value.ref 54 }, { hash := PyData.keyHash P (Str.ofString "Headers"), key := Value.str (Str.ofString "Headers") 545, val := Value.ref 175 }] 15 }
noncomputable def hp43 (P : Params) : Obj := { cls := Value.none, data := Data.fields #[Value.int 6 0, Value.int 0 0, Value.ref 53, Value.int 15 0, Value.int 0 0, Value.ref 60] }
noncomputable def hp44 (P : Params) : Obj := { cls := Value.type "builtin_function_or_method", data := Data.fields #[Value.builtin "type.__prepare__", Value.type "type"] }
noncomputable def hp45 (P : Params) : Obj := { cls := Value.type "dict", data := Data.dict #[{ hash := PyData.keyHash P (Str.ofString "__module__"), key := Value.str (Str.ofString "__module__") 395, val := Value.str (Str.ofString "cpy313.wsgiref.headers") 282 }, { hash := PyData.keyHash P (Str.ofString "__qualname__"), key := Value.str (Str.ofString "__qualname__") 397, val := Value.str (Str.ofString "Headers") 396 }, { hash := PyData.keyHash P (Str.ofString "__firstlineno__"), key := Value.str (Str.ofString "__firstlineno__") 399, val := Value.int 15 398 }, { hash := PyData.keyHash P (Str.ofString "__init__"), key := Value.str (Str.ofString "__init__") 409, val := Value.ref 69 }, { hash := PyData.keyHash P (Str.ofString "_convert_string_type"), key := Value.str (Str.ofString "_convert_string_type") 419, val := Value.ref 76 }, { hash := PyData.keyHash P (Str.ofString "__len__"), key := Value.str (Str.ofString "__len__") 426, val := Value.ref 83 }, { hash := PyData.keyHash P (Str.ofString "__setitem__"), key := Value.str (Str.ofString "__setitem__") 435, val := Value.ref 90 }, { hash := PyData.keyHash P (Str.ofString "__delitem__"), key := Value.str (Str.ofString "__delitem__") 441, val := Value.ref 95 }, { hash := PyData.keyHash P (Str.ofString "__getitem__"), key := Value.str (Str.ofString "__getitem__") 449, val := Value.ref 102 }, { hash := PyData.keyHash P (Str.ofString "__contains__"), key := Value.str (Str.ofString "__contains__") 457, val := Value.ref 109 }, { hash := PyData.keyHash P (Str.ofString "get_all"), key := Value.str (Str.ofString "get_all") 463, val := Value.ref 114 }, { hash := PyData.keyHash P (Str.ofString "get"), key := Value.str (Str.ofString "get") 474, val := Value.ref 122 }, { hash := PyData.keyHash P (Str.ofString "keys"), key := Value.str (Str.ofString "keys") 480, val := Value.ref 127 }, { hash := PyData.keyHash P (Str.ofString "values"), key := Value.str (Str.ofString "values") 486, val := Value.ref 132 }, { hash := PyData.keyHash P (Str.ofString "items"), key := Value.str (Str.ofString "items") 493, val := Value.ref 139 }, { hash := PyData.keyHash P (Str.ofString "__repr__"), key := Value.str (Str.ofString "__repr__") 500, val := Value.ref 146 }, { hash := PyData.keyHash P (Str.ofString "__str__"), key := Value.str (Str.ofString "__str__") 506, val := Value.ref 151 }, { hash := PyData.keyHash P (Str.ofString "__bytes__"), key := Value.str (Str.ofString "__bytes__") 513, val := Value.ref 158 }, { hash := PyData.keyHash P (Str.ofString "setdefault"), key := Value.str (Str.ofString "setdefault") 523, val := Value.ref 165 }, { hash := PyData.keyHash P (Str.ofString "add_header"), key := Value.str (Str.ofString "add_header") 536, val := Value.ref 172 }, { hash := PyData.keyHash P (Str.ofString "__static_attributes__"), key := Value.str (Str.ofString "__static_attributes__") 538, val := Value.ref 173 }] 21 }
noncomputable def hp46 (P : Params) : Obj := { cls := Value.none, data := Data.fields #[Value.int 17 0, Value.int 4 0, Value.ref 68, Value.int 27 0, Value.int 4 0, Value.ref 75, Value.int 35 0, Value.int 4 0, Value.ref 82, Value.int 38 0, Value.int 4 0, Value.ref 89, Value.int 42 0, Value.int 4 0, Value.ref 94, Value.int 46 0, Value.int 4 0, Value.ref 101, Value.int 49 0, Value.int 4 0, Value.ref 108, Value.int 52 0, Value.int 4 0, Value.ref 113, Value.int 56 0, Value.int 4 0, Value.ref 121, Value.int 63 0, Value.int 4 0, Value.ref 126, Value.int 66 0, Value.int 4 0, Value.ref 131, Value.int 69 0, Value.int 4 0, Value.ref 138, Value.int 72 0, Value.int 4 0, Value.ref 145, Value.int 75 0, Value.int 4 0, Value.ref 150, Value.int 78 0, Value.int 4 0, Value.ref 157, Value.int 81 0, Value.int 4 0, Value.ref 164, Value.int 89 0, Value.int 4 0, Value.ref 171] }
noncomputable def hp47 (P : Params) : Obj := { cls := Value.type "code", data := Data.fields #[Value.str (Str.ofString "Headers") 390, Value.str (Str.ofString "Headers") 391, Value.str (Str.ofString "/claim/cut.py") 392, Value.int 15 0, Value.int 0 0, Value.int 0 0, Value.int 0 0, Value.int 0 0, Value.ref 58, Value.bool false, Value.int 276 0, Value.ref 59, Value.none, Value.none, Value.none, Value.none, Value.int 393 0, Value.int 15 0, Value.str (Str.ofString "/claim/cut.py") 394] }
noncomputable def hp48 (P : Params) : Obj := { cls := Value.type "frame", slots := #[some (Value.ref 60), some (Value.ref 3), some (Value.ref 57), none, some (Value.str (Str.ofString "cpy313.wsgiref.headers") 282), none, some (Value.ref 0)] }
noncomputable def hp49 (P : Params) : Obj := { cls := Value.type "tuple", data := Data.seq #[Value.str (Str.ofString "self") 403, Value.str (Str.ofString "headers") 404, Value.str (Str.ofString "k") 405, Value.str (Str.ofString "v") 406] }
noncomputable def hp50 (P : Params) : Obj := { cls := Value.none, data := Data.func { name := Str.ofString "__init__", qualname := Str.ofString "Headers.__init__", params := fP (clsS 0), body := .stmts (fB (clsS 0)), scope := fS (clsS 0), globals := 0, closure := [], defaults := Value.none, kwdefaults := Value.none } }
noncomputable def hp51 (P : Params) : Obj := { cls := Value.type "tuple", data := Data.seq #[Value.str (Str.ofString "self") 413, Value.str (Str.ofString "value") 414, Value.str (Str.ofString "name") 415, Value.str (Str.ofString "regex") 416] }
noncomputable def hp52 (P : Params) : Obj := { cls := Value.none, data := Data.func { name := Str.ofString "_convert_string_type", qualname := Str.ofString "Headers._convert_string_type", params := fP (clsS 1), body := .stmts (fB (clsS 1)), scope := fS (clsS 1), globals := 0, closure := [], defaults := Value.none, kwdefaults := Value.none } }
noncomputable def hp53 (P : Params) : Obj := { cls := Value.type "tuple", data := Data.seq #[Value.str (Str.ofString "self") 423] }
noncomputable def hp54 (P : Params) : Obj := { cls := Value.none, data := Data.func { name := Str.ofString "__len__", qualname := Str.ofString "Headers.__len__", params := fP (clsS 2), body := .stmts (fB (clsS 2)), scope := fS (clsS 2), globals := 0, closure := [], defaults := Value.none, kwdefaults := Value.none } }
noncomputable def hp55 (P : Params) : Obj := { cls := Value.type "code", data := Data.fields #[Value.str (Str.ofString "__len__") 420, Value.str (Str.ofString "Headers.__len__") 421, Value.str (Str.ofString "/claim/cut.py") 422, Value.int 35 0, Value.int 1 0, Value.int 0 0, Value.int 0 0, Value.int 3 0, Value.ref 77, Value.bool true, Value.int 276 0, Value.ref 78, Value.none, Value.ref 79, Value.ref 80, Value.ref 81, Value.int 424 0, Value.int 35 0, Value.str (Str.ofString "/claim/cut.py") 425] }
noncomputable def hp56 (P : Params) : Obj := { cls := Value.type "function", data := Data.func { name := Str.ofString "__len__", qualname := Str.ofString "Headers.__len__", params := fP (clsS 2), body := .stmts (fB (clsS 2)), scope := fS (clsS 2), globals := 3, closure := [], defaults := Value.none, kwdefaults := Value.none, pyModule := Value.str (Str.ofString "cpy313.wsgiref.headers") 282, code := Value.ref 82 } }
noncomputable def hp57 (P : Params) : Obj := { cls := Value.type "tuple", data := Data.seq #[Value.str (Str.ofString "self") 430, Value.str (Str.ofString "name") 431, Value.str (Str.ofString "val") 432] }
noncomputable def hp58 (P : Params) : Obj := { cls := Value.none, data := Data.func { name := Str.ofString "__setitem__", qualname := Str.ofString "Headers.__setitem__", params := fP (clsS 3), body := .stmts (fB (clsS 3)), scope := fS (clsS 3), globals := 0, closure := [], defaults := Value.none, kwdefaults := Value.none } }
noncomputable def hp59 (P : Params) : Obj := { cls := Value.type "code", data := Data.fields #[Value.str (Str.ofString "__setitem__") 427, Value.str (Str.ofString "Headers.__setitem__") 428, Value.str (Str.ofString "/claim/cut.py") 429, Value.int 38 0, Value.int 3 0, Value.int 0 0, Value.int 0 0, Value.int 3 0, Value.ref 84, Value.bool true, Value.int 276 0, Value.ref 85, Value.none, Value.ref 86, Value.ref 87, Value.ref 88, Value.int 433 0, Value.int 38 0, Value.str (Str.ofString "/claim/cut.py") 434] }
noncomputable def hp60 (P : Params) : Obj := { cls := Value.type "function", data := Data.func { name := Str.ofString "__setitem__", qualname := Str.ofString "Headers.__setitem__", params := fP (clsS 3), body := .stmts (fB (clsS 3)), scope := fS (clsS 3), globals := 3, closure := [], defaults := Value.none, kwdefaults := Value.none, pyModule := Value.str (Str.ofString "cpy313.wsgiref.headers") 282, code := Value.ref 89 } }
noncomputable def hp61 (P : Params) : Obj := { cls := Value.none, data := Data.func { name := Str.ofString "__delitem__", qualname := Str.ofString "Headers.__delitem__", params := fP (clsS 4), body := .stmts (fB (clsS 4)), scope := fS (clsS 4), globals := 0, closure := [], defaults := Value.none, kwdefaults := Value.none } }
noncomputable def hp62 (P : Params) : Obj := { cls := Value.type "code", data := Data.fields #[Value.str (Str.ofString "__delitem__") 436, Value.str (Str.ofString "Headers.__delitem__") 437, Value.str (Str.ofString "/claim/cut.py") 438, Value.int 42 0, Value.int 2 0, Value.int 0 0, Value.int 0 0, Value.int 3 0, Value.ref 91, Value.bool true, Value.int 276 0, Value.ref 92, Value.none, Value.none, Value.none, Value.ref 93, Value.int 439 0, Value.int 42 0, Value.str (Str.ofString "/claim/cut.py") 440] }
noncomputable def hp63 (P : Params) : Obj := { cls := Value.type "function", data := Data.func { name := Str.ofString "__delitem__", qualname := Str.ofString "Headers.__delitem__", params := fP (clsS 4), body := .stmts (fB (clsS 4)), scope := fS (clsS 4), globals := 3, closure := [], defaults := Value.none, kwdefaults := Value.none, pyModule := Value.str (Str.ofString "cpy313.wsgiref.headers") 282, code := Value.ref 94 } }
noncomputable def hp64 (P : Params) : Obj := { cls := Value.type "tuple", data := Data.seq #[Value.str (Str.ofString "self") 445, Value.str (Str.ofString "name") 446] }
noncomputable def hp65 (P : Params) : Obj := { cls := Value.none, data := Data.func { name := Str.ofString "__getitem__", qualname := Str.ofString "Headers.__getitem__", params := fP (clsS 5), body := .stmts (fB (clsS 5)), scope := fS (clsS 5), globals := 0, closure := [], defaults := Value.none, kwdefaults := Value.none } }
noncomputable def hp66 (P : Params) : Obj := { cls := Value.type "code", data := Data.fields #[Value.str (Str.ofString "__getitem__") 442, Value.str (Str.ofString "Headers.__getitem__") 443, Value.str (Str.ofString "/claim/cut.py") 444, Value.int 46 0, Value.int 2 0, Value.int 0 0, Value.int 0 0, Value.int 3 0, Value.ref 96, Value.bool true, Value.int 276 0, Value.ref 97, Value.none, Value.ref 98, Value.ref 99, Value.ref 100, Value.int 447 0, Value.int 46 0, Value.str (Str.ofString "/claim/cut.py") 448] }
noncomputable def hp67 (P : Params) : Obj := { cls := Value.type "function", data := Data.func { name := Str.ofString "__getitem__", qualname := Str.ofString "Headers.__getitem__", params := fP (clsS 5), body := .stmts (fB (clsS 5)), scope := fS (clsS 5), globals := 3, closure := [], defaults := Value.none, kwdefaults := Value.none, pyModule := Value.str (Str.ofString "cpy313.wsgiref.headers") 282, code := Value.ref 101 } }
noncomputable def hp68 (P : Params) : Obj := { cls := Value.type "tuple", data := Data.seq #[Value.str (Str.ofString "self") 453, Value.str (Str.ofString "name") 454] }
noncomputable def hp69 (P : Params) : Obj := { cls := Value.none, data := Data.func { name := Str.ofString "__contains__", qualname := Str.ofString "Headers.__contains__", params := fP (clsS 6), body := .stmts (fB (clsS 6)), scope := fS (clsS 6), globals := 0, closure := [], defaults := Value.none, kwdefaults := Value.none } }
noncomputable def hp70 (P : Params) : Obj := { cls := Value.type "code", data := Data.fields #[Value.str (Str.ofString "__contains__") 450, Value.str (Str.ofString "Headers.__contains__") 451, Value.str (Str.ofString "/claim/cut.py") 452, Value.int 49 0, Value.int 2 0, Value.int 0 0, Value.int 0 0, Value.int 3 0, Value.ref 103, Value.bool true, Value.int 276 0, Value.ref 104, Value.none, Value.ref 105, Value.ref 106, Value.ref 107, Value.int 455 0, Value.int 49 0, Value.str (Str.ofString "/claim/cut.py") 456] }
noncomputable def hp71 (P : Params) : Obj := { cls := Value.type "function", data := Data.func { name := Str.ofString "__contains__", qualname := Str.ofString "Headers.__contains__", params := fP (clsS 6), body := .stmts (fB (clsS 6)), scope := fS (clsS 6), globals := 3, closure := [], defaults := Value.none, kwdefaults := Value.none, pyModule := Value.str (Str.ofString "cpy313.wsgiref.headers") 282, code := Value.ref 108 } }
noncomputable def hp72 (P : Params) : Obj := { cls := Value.none, data := Data.func { name := Str.ofString "get_all", qualname := Str.ofString "Headers.get_all", params := fP (clsS 7), body := .stmts (fB (clsS 7)), scope := fS (clsS 7), globals := 0, closure := [], defaults := Value.none, kwdefaults := Value.none } }
noncomputable def hp73 (P : Params) : Obj := { cls := Value.type "tuple", data := Data.seq #[Value.str (Str.ofString "self") 467, Value.str (Str.ofString "name") 468, Value.str (Str.ofString "default") 469, Value.str (Str.ofString "k") 470, Value.str (Str.ofString "v") 471] }
noncomputable def hp74 (P : Params) : Obj := { cls := Value.none, data := Data.func { name := Str.ofString "get", qualname := Str.ofString "Headers.get", params := fP (clsS 8), body := .stmts (fB (clsS 8)), scope := fS (clsS 8), globals := 0, closure := [], defaults := Value.none, kwdefaults := Value.none } }
noncomputable def hp75 (P : Params) : Obj := { cls := Value.none, data := Data.func { name := Str.ofString "keys", qualname := Str.ofString "Headers.keys", params := fP (clsS 9), body := .stmts (fB (clsS 9)), scope := fS (clsS 9), globals := 0, closure := [], defaults := Value.none, kwdefaults := Value.none } }
noncomputable def hp76 (P : Params) : Obj := { cls := Value.type "code", data := Data.fields #[Value.str (Str.ofString "keys") 475, Value.str (Str.ofString "Headers.keys") 476, Value.str (Str.ofString "/claim/cut.py") 477, Value.int 63 0, Value.int 1 0, Value.int 0 0, Value.int 0 0, Value.int 3 0, Value.ref 123, Value.bool true, Value.int 276 0, Value.ref 124, Value.none, Value.none, Value.none, Value.ref 125, Value.int 478 0, Value.int 63 0, Value.str (Str.ofString "/claim/cut.py") 479] }
noncomputable def hp77 (P : Params) : Obj := { cls := Value.type "function", data := Data.func { name := Str.ofString "keys", qualname := Str.ofString "Headers.keys", params := fP (clsS 9), body := .stmts (fB (clsS 9)), scope := fS (clsS 9), globals := 3, closure := [], defaults := Value.none, kwdefaults := Value.none, pyModule := Value.str (Str.ofString "cpy313.wsgiref.headers") 282, code := Value.ref 126 } }
noncomputable def hp78 (P : Params) : Obj := { cls := Value.none, data := Data.func { name := Str.ofString "values", qualname := Str.ofString "Headers.values", params := fP (clsS 10), body := .stmts (fB (clsS 10)), scope := fS (clsS 10), globals := 0, closure := [], defaults := Value.none, kwdefaults := Value.none } }
noncomputable def hp79 (P : Params) : Obj := { cls := Value.type "code", data := Data.fields #[Value.str (Str.ofString "values") 481, Value.str (Str.ofString "Headers.values") 482, Value.str (Str.ofString "/claim/cut.py") 483, Value.int 66 0, Value.int 1 0, Value.int 0 0, Value.int 0 0, Value.int 3 0, Value.ref 128, Value.bool true, Value.int 276 0, Value.ref 129, Value.none, Value.none, Value.none, Value.ref 130, Value.int 484 0, Value.int 66 0, Value.str (Str.ofString "/claim/cut.py") 485] }
noncomputable def hp80 (P : Params) : Obj := { cls := Value.type "function", data := Data.func { name := Str.ofString "values", qualname := Str.ofString "Headers.values", params := fP (clsS 10), body := .stmts (fB (clsS 10)), scope := fS (clsS 10), globals := 3, closure := [], defaults := Value.none, kwdefaults := Value.none, pyModule := Value.str (Str.ofString "cpy313.wsgiref.headers") 282, code := Value.ref 131 } }
noncomputable def hp81 (P : Params) : Obj := { cls := Value.type "tuple", data := Data.seq #[Value.str (Str.ofString "self") 490] }
noncomputable def hp82 (P : Params) : Obj := { cls := Value.none, data := Data.func { name := Str.ofString "items", qualname := Str.ofString "Headers.items", params := fP (clsS 11), body := .stmts (fB (clsS 11)), scope := fS (clsS 11), globals := 0, closure := [], defaults := Value.none, kwdefaults := Value.none } }
noncomputable def hp83 (P : Params) : Obj := { cls := Value.type "tuple", data := Data.seq #[Value.str (Str.ofString "self") 497] }
noncomputable def hp84 (P : Params) : Obj := { cls := Value.none, data := Data.func { name := Str.ofString "__repr__", qualname := Str.ofString "Headers.__repr__", params := fP (clsS 12), body := .stmts (fB (clsS 12)), scope := fS (clsS 12), globals := 0, closure := [], defaults := Value.none, kwdefaults := Value.none } }
noncomputable def hp85 (P : Params) : Obj := { cls := Value.type "code", data := Data.fields #[Value.str (Str.ofString "__repr__") 494, Value.str (Str.ofString "Headers.__repr__") 495, Value.str (Str.ofString "/claim/cut.py") 496, Value.int 72 0, Value.int 1 0, Value.int 0 0, Value.int 0 0, Value.int 3 0, Value.ref 140, Value.bool true, Value.int 276 0, Value.ref 141, Value.none, Value.ref 142, Value.ref 143, Value.ref 144, Value.int 498 0, Value.int 72 0, Value.str (Str.ofString "/claim/cut.py") 499] }
noncomputable def hp86 (P : Params) : Obj := { cls := Value.type "function", data := Data.func { name := Str.ofString "__repr__", qualname := Str.ofString "Headers.__repr__", params := fP (clsS 12), body := .stmts (fB (clsS 12)), scope := fS (clsS 12), globals := 3, closure := [], defaults := Value.none, kwdefaults := Value.none, pyModule := Value.str (Str.ofString "cpy313.wsgiref.headers") 282, code := Value.ref 145 } }
noncomputable def hp87 (P : Params) : Obj := { cls := Value.none, data := Data.func { name := Str.ofString "__str__", qualname := Str.ofString "Headers.__str__", params := fP (clsS 13), body := .stmts (fB (clsS 13)), scope := fS (clsS 13), globals := 0, closure := [], defaults := Value.none, kwdefaults := Value.none } }
noncomputable def hp88 (P : Params) : Obj := { cls := Value.type "code", data := Data.fields #[Value.str (Str.ofString "__str__") 501, Value.str (Str.ofString "Headers.__str__") 502, Value.str (Str.ofString "/claim/cut.py") 503, Value.int 75 0, Value.int 1 0, Value.int 0 0, Value.int 0 0, Value.int 3 0, Value.ref 147, Value.bool true, Value.int 276 0, Value.ref 148, Value.none, Value.none, Value.none, Value.ref 149, Value.int 504 0, Value.int 75 0, Value.str (Str.ofString "/claim/cut.py") 505] }
noncomputable def hp89 (P : Params) : Obj := { cls := Value.type "function", data := Data.func { name := Str.ofString "__str__", qualname := Str.ofString "Headers.__str__", params := fP (clsS 13), body := .stmts (fB (clsS 13)), scope := fS (clsS 13), globals := 3, closure := [], defaults := Value.none, kwdefaults := Value.none, pyModule := Value.str (Str.ofString "cpy313.wsgiref.headers") 282, code := Value.ref 150 } }
noncomputable def hp90 (P : Params) : Obj := { cls := Value.type "tuple", data := Data.seq #[Value.str (Str.ofString "self") 510] }
noncomputable def hp91 (P : Params) : Obj := { cls := Value.none, data := Data.func { name := Str.ofString "__bytes__", qualname := Str.ofString "Headers.__bytes__", params := fP (clsS 14), body := .stmts (fB (clsS 14)), scope := fS (clsS 14), globals := 0, closure := [], defaults := Value.none, kwdefaults := Value.none } }
noncomputable def hp92 (P : Params) : Obj := { cls := Value.type "code", data := Data.fields #[Value.str (Str.ofString "__bytes__") 507, Value.str (Str.ofString "Headers.__bytes__") 508, Value.str (Str.ofString "/claim/cut.py") 509, Value.int 78 0, Value.int 1 0, Value.int 0 0, Value.int 0 0, Value.int 3 0, Value.ref 152, Value.bool true, Value.int 276 0, Value.ref 153, Value.none, Value.ref 154, Value.ref 155, Value.ref 156, Value.int 511 0, Value.int 78 0, Value.str (Str.ofString "/claim/cut.py") 512] }
noncomputable def hp93 (P : Params) : Obj := { cls := Value.type "function", data := Data.func { name := Str.ofString "__bytes__", qualname := Str.ofString "Headers.__bytes__", params := fP (clsS 14), body := .stmts (fB (clsS 14)), scope := fS (clsS 14), globals := 3, closure := [], defaults := Value.none, kwdefaults := Value.none, pyModule := Value.str (Str.ofString "cpy313.wsgiref.headers") 282, code := Value.ref 157 } }
noncomputable def hp94 (P : Params) : Obj := { cls := Value.type "tuple", data := Data.seq #[Value.str (Str.ofString "self") 517, Value.str (Str.ofString "name") 518, Value.str (Str.ofString "value") 519, Value.str (Str.ofString "result") 520] }
noncomputable def hp95 (P : Params) : Obj := { cls := Value.none, data := Data.func { name := Str.ofString "setdefault", qualname := Str.ofString "Headers.setdefault", params := fP (clsS 15), body := .stmts (fB (clsS 15)), scope := fS (clsS 15), globals := 0, closure := [], defaults := Value.none, kwdefaults := Value.none } }
noncomputable def hp96 (P : Params) : Obj := { cls := Value.type "tuple", data := Data.seq #[Value.str (Str.ofString "self") 527, Value.str (Str.ofString "_name") 528, Value.str (Str.ofString "_value") 529, Value.str (Str.ofString "_params") 530, Value.str (Str.ofString "parts") 531, Value.str (Str.ofString "k") 532, Value.str (Str.ofString "v") 533] }
noncomputable def hp97 (P : Params) : Obj := { cls := Value.none, data := Data.func { name := Str.ofString "add_header", qualname := Str.ofString "Headers.add_header", params := fP (clsS 16), body := .stmts (fB (clsS 16)), scope := fS (clsS 16), globals := 0, closure := [], defaults := Value.none, kwdefaults := Value.none } }
noncomputable def hp98 (P : Params) : Obj := { cls := Value.type "tuple", data := Data.seq #[Value.str (Str.ofString "_headers") 537] }
noncomputable def hp99 (P : Params) : Obj := { cls := Value.type "super", data := Data.fields #[Value.ref 175, Value.ref 175, Value.ref 175] }
noncomputable def hp100 (P : Params) : Obj := { cls := Value.type "builtin_function_or_method", data := Data.fields #[Value.builtin "object.__init_subclass__", Value.ref 175] }
noncomputable def hp101 (P : Params) : Obj := { cls := Value.none, data := Data.dict #[{ hash := PyData.keyHash P (impS "loaded._sre"), key := Value.str (impS "loaded._sre") 183, val := Value.bool true }, { hash := PyData.keyHash P (Str.ofString "class._frozen_importlib.BuiltinImporter"), key := Value.str (Str.ofString "class._frozen_importlib.BuiltinImporter") 185, val := Value.ref 14 }, { hash := PyData.keyHash P (watS), key := Value.str (watS) 206, val := Value.ref 18 }, { hash := PyData.keyHash P (Str.ofString "class._frozen_importlib.ModuleSpec"), key := Value.str (Str.ofString "class._frozen_importlib.ModuleSpec") 216, val := Value.ref 22 }, { hash := PyData.keyHash P (Str.ofString "sys.modules.booked-epoch"), key := Value.str (Str.ofString "sys.modules.booked-epoch") 245, val := Value.int 3 0 }, { hash := PyData.keyHash P (impS "later-laid._sre"), key := Value.str (impS "later-laid._sre") 270, val := Value.bool true }, { hash := PyData.keyHash P (Str.ofString "watched.library"), key := Value.str (Str.ofString "watched.library") 272, val := Value.ref 27 }, { hash := PyData.keyHash P (Str.ofString "watched.library-objects"), key := Value.str (Str.ofString "watched.library-objects") 0, val := Value.str (Str.ofString "\x0c") 0 }, { hash := PyData.keyHash P (Str.ofString "watched.library-deep._sre"), key := Value.str (Str.ofString "watched.library-deep._sre") 273, val := Value.str (Str.ofString "\x04\x00\x00\x0b\x04\x00\x00\x0b\x04\x00\x00\x03\x04\x00\x00\x0b\x08\x04dict\x02") 0 }, { hash := PyData.keyHash P (Str.ofString "type.__subclasses__.Exception.0"), key := Value.str (Str.ofString "type.__subclasses__.Exception.0") 590, val := Value.int 203 0 }, { hash := PyData.keyHash P (Str.ofString "type.__subclasses__.Exception.n"), key := Value.str (Str.ofString "type.__subclasses__.Exception.n") 591, val := Value.int 1 0 }] 11 }
noncomputable def hp102 (P : Params) : Obj := { cls := Value.type "dict", data := Data.dict #[{ hash := PyData.keyHash P (Str.ofString "__name__"), key := Value.str (Str.ofString "__name__") 165, val := Value.str (Str.ofString "cpy313.ftplib") 572 }, { hash := PyData.keyHash P (Str.ofString "__doc__"), key := Value.str (Str.ofString "__doc__") 166, val := Value.none }, { hash := PyData.keyHash P (Str.ofString "__package__"), key := Value.str (Str.ofString "__package__") 167, val := Value.none }, { hash := PyData.keyHash P (Str.ofString "__loader__"), key := Value.str (Str.ofString "__loader__") 168, val := Value.builtin "__main__.__loader__#opaque" }, { hash := PyData.keyHash P (Str.ofString "__spec__"), key := Value.str (Str.ofString "__spec__") 169, val := Value.none }, { hash := PyData.keyHash P (Str.ofString "__annotations__"), key := Value.str (Str.ofString "__annotations__") 170, val := Value.ref 6 }, { hash := PyData.keyHash P (Str.ofString "__builtins__"), key := Value.str (Str.ofString "__builtins__") 171, val := Value.ref 4 }, { hash := PyData.keyHash P (Str.ofString "__file__"), key := Value.str (Str.ofString "__file__") 173, val := Value.str (Str.ofString "/claim/cut.py") 172 }, { hash := PyData.keyHash P (Str.ofString "__cached__"), key := Value.str (Str.ofString "__cached__") 174, val := Value.none }, { hash := PyData.keyHash P (Str.ofString "_sre"), key := Value.str (Str.ofString "_sre") 275, val := Value.ref 12 }, { hash := PyData.keyHash P (Str.ofString "tspecials"), key := Value.str (Str.ofString "tspecials") 317, val := Value.ref 36 }, { hash := PyData.keyHash P (Str.ofString "_name_disallowed_re"), key := Value.str (Str.ofString "_name_disallowed_re") 343, val := Value.ref 41 }, { hash := PyData.keyHash P (Str.ofString "_value_disallowed_re"), key := Value.str (Str.ofString "_value_disallowed_re") 377, val := Value.ref 46 }, { hash := PyData.keyHash P (Str.ofString "_formatparam"), key := Value.str (Str.ofString "_formatparam") 387, val := Value.ref 54 }, { hash := PyData.keyHash P (Str.ofString "Headers"), key := Value.str (Str.ofString "Headers") 545, val := Value.ref 175 }, { hash := PyData.keyHash P (Str.ofString "ELLIPSIS_MARKER"), key := Value.str (Str.ofString "ELLIPSIS_MARKER") 549, val := Value.str (Str.ofString "...") 548 }, { hash := PyData.keyHash P (Str.ofString "_ellipsis_match"), key := Value.str (Str.ofString "_ellipsis_match") 561, val := Value.ref 186 }, { hash := PyData.keyHash P (Str.ofString "_strip_exception_details"), key := Value.str (Str.ofString "_strip_exception_details") 571, val := Value.ref 193 }, { hash := PyData.keyHash P (Str.ofString "Error"), key := Value.str (Str.ofString "Error") 593, val := Value.ref 203 }] 19 }
noncomputable def hp103 (P : Params) : Obj := { cls := Value.none, data := Data.fields #[Value.int 6 0, Value.int 0 0, Value.ref 53, Value.int 15 0, Value.int 0 0, Value.ref 60, Value.int 104 0, Value.int 0 0, Value.ref 185, Value.int 132 0, Value.int 0 0, Value.ref 192, Value.int 145 0, Value.int 0 0, Value.ref 199] }
noncomputable def hp104 (P : Params) : Obj := { cls := Value.type "tuple", data := Data.seq #[Value.str (Str.ofString "want") 553, Value.str (Str.ofString "got") 554, Value.str (Str.ofString "ws") 555, Value.str (Str.ofString "startpos") 556, Value.str (Str.ofString "endpos") 557, Value.str (Str.ofString "w") 558] }
noncomputable def hp105 (P : Params) : Obj := { cls := Value.none, data := Data.func { name := Str.ofString "_ellipsis_match", qualname := Str.ofString "_ellipsis_match", params := fP (topS 9), body := .stmts (fB (topS 9)), scope := fS (topS 9), globals := 0, closure := [], defaults := Value.none, kwdefaults := Value.none } }
noncomputable def hp106 (P : Params) : Obj := { cls := Value.type "tuple", data := Data.seq #[Value.str (Str.ofString "msg") 565, Value.str (Str.ofString "start") 566, Value.str (Str.ofString "end") 567, Value.str (Str.ofString "i") 568] }
noncomputable def hp107 (P : Params) : Obj := { cls := Value.none, data := Data.func { name := Str.ofString "_strip_exception_details", qualname := Str.ofString "_strip_exception_details", params := fP (topS 10), body := .stmts (fB (topS 10)), scope := fS (topS 10), globals := 0, closure := [], defaults := Value.none, kwdefaults := Value.none } }
noncomputable def hp108 (P : Params) : Obj := { cls := Value.type "tuple", data := Data.seq #[Value.type "Exception"] }
noncomputable def hp109 (P : Params) : Obj := { cls := Value.type "dict", data := Data.dict #[{ hash := PyData.keyHash P (Str.ofString "__module__"), key := Value.str (Str.ofString "__module__") 581, val := Value.str (Str.ofString "cpy313.ftplib") 572 }, { hash := PyData.keyHash P (Str.ofString "__qualname__"), key := Value.str (Str.ofString "__qualname__") 583, val := Value.str (Str.ofString "Error") 582 }, { hash := PyData.keyHash P (Str.ofString "__firstlineno__"), key := Value.str (Str.ofString "__firstlineno__") 585, val := Value.int 145 584 }, { hash := PyData.keyHash P (Str.ofString "__static_attributes__"), key := Value.str (Str.ofString "__static_attributes__") 586, val := Value.ref 201 }] 4 }
noncomputable def hp110 (P : Params) : Obj := { cls := Value.type "code", data := Data.fields #[Value.str (Str.ofString "Error") 576, Value.str (Str.ofString "Error") 577, Value.str (Str.ofString "/claim/cut.py") 578, Value.int 145 0, Value.int 0 0, Value.int 0 0, Value.int 0 0, Value.int 0 0, Value.ref 197, Value.bool false, Value.int 276 0, Value.ref 198, Value.none, Value.none, Value.none, Value.none, Value.int 579 0, Value.int 145 0, Value.str (Str.ofString "/claim/cut.py") 580] }
noncomputable def hp111 (P : Params) : Obj := { cls := Value.type "frame", slots := #[some (Value.ref 199), some (Value.ref 3), some (Value.ref 196), none, some (Value.str (Str.ofString "cpy313.ftplib") 572), none, some (Value.ref 0)] }
noncomputable def hp112 (P : Params) : Obj := { cls := Value.type "dict", data := Data.dict #[{ hash := PyData.keyHash P (Str.ofString "__module__"), key := Value.str (Str.ofString "__module__") 581, val := Value.str (Str.ofString "cpy313.ftplib") 572 }, { hash := PyData.keyHash P (Str.ofString "__firstlineno__"), key := Value.str (Str.ofString "__firstlineno__") 585, val := Value.int 145 584 }, { hash := PyData.keyHash P (Str.ofString "__static_attributes__"), key := Value.str (Str.ofString "__static_attributes__") 586, val := Value.ref 201 }, { hash := PyData.keyHash P (Str.ofString "__weakref__"), key := Value.str (Str.ofString "__weakref__") 588, val := Value.ref 204 }, { hash := PyData.keyHash P (Str.ofString "__doc__"), key := Value.str (Str.ofString "__doc__") 589, val := Value.none }] 3 }
noncomputable def hp113 (P : Params) : Obj := { cls := Value.type "type", data := Data.cls { name := Str.ofString "Error", bases := [Value.type "Exception"], mro := [Value.ref 203, Value.type "Exception", Value.type "BaseException", Value.type "object"], ns := 202, qualname := Str.ofString "Error" }, slots := #[some (Value.ref 194), none, some (Value.str (Str.ofString "Error") 574), some (Value.str (Str.ofString "Error") 582), some (Value.builtin "Exception.__new__"), some (Value.bool true)] }
noncomputable def hp114 (P : Params) : Obj := { cls := Value.type "getset_descriptor", data := Data.fields #[Value.str (Str.ofString "__weakref__") 587, Value.ref 203, Value.builtin "ExceptionGroup.__weakref__", Value.none] }
noncomputable def hp115 (P : Params) : Obj := { cls := Value.type "super", data := Data.fields #[Value.ref 203, Value.ref 203, Value.ref 203] }
noncomputable def hp116 (P : Params) : Obj := { cls := Value.type "builtin_function_or_method", data := Data.fields #[Value.builtin "object.__init_subclass__", Value.ref 203] }
noncomputable def hp117 (P : Params) : Obj := { cls := Value.type "dict", data := Data.dict #[{ hash := PyData.keyHash P (Str.ofString "__name__"), key := Value.str (Str.ofString "__name__") 165, val := Value.str (Str.ofString "law_ux0029_01") 621 }, { hash := PyData.keyHash P (Str.ofString "__doc__"), key := Value.str (Str.ofString "__doc__") 166, val := Value.none }, { hash := PyData.keyHash P (Str.ofString "__package__"), key := Value.str (Str.ofString "__package__") 167, val := Value.none }, { hash := PyData.keyHash P (Str.ofString "__loader__"), key := Value.str (Str.ofString "__loader__") 168, val := Value.builtin "__main__.__loader__#opaque" }, { hash := PyData.keyHash P (Str.ofString "__spec__"), key := Value.str (Str.ofString "__spec__") 169, val := Value.none }, { hash := PyData.keyHash P (Str.ofString "__annotations__"), key := Value.str (Str.ofString "__annotations__") 170, val := Value.ref 6 }, { hash := PyData.keyHash P (Str.ofString "__builtins__"), key := Value.str (Str.ofString "__builtins__") 171, val := Value.ref 4 }, { hash := PyData.keyHash P (Str.ofString "__file__"), key := Value.str (Str.ofString "__file__") 173, val := Value.str (Str.ofString "/claim/cut.py") 172 }, { hash := PyData.keyHash P (Str.ofString "__cached__"), key := Value.str (Str.ofString "__cached__") 174, val := Value.none }, { hash := PyData.keyHash P (Str.ofString "_sre"), key := Value.str (Str.ofString "_sre") 275, val := Value.ref 12 }, { hash := PyData.keyHash P (Str.ofString "tspecials"), key := Value.str (Str.ofString "tspecials") 317, val := Value.ref 36 }, { hash := PyData.keyHash P (Str.ofString "_name_disallowed_re"), key := Value.str (Str.ofString "_name_disallowed_re") 343, val := Value.ref 41 }, { hash := PyData.keyHash P (Str.ofString "_value_disallowed_re"), key := Value.str (Str.ofString "_value_disallowed_re") 377, val := Value.ref 46 }, { hash := PyData.keyHash P (Str.ofString "_formatparam"), key := Value.str (Str.ofString "_formatparam") 387, val := Value.ref 54 }, { hash := PyData.keyHash P (Str.ofString "Headers"), key := Value.str (Str.ofString "Headers") 545, val := Value.ref 175 }, { hash := PyData.keyHash P (Str.ofString "ELLIPSIS_MARKER"), key := Value.str (Str.ofString "ELLIPSIS_MARKER") 549, val := Value.str (Str.ofString "...") 548 }, { hash := PyData.keyHash P (Str.ofString "_ellipsis_match"), key := Value.str (Str.ofString "_ellipsis_match") 561, val := Value.ref 186 }, { hash := PyData.keyHash P (Str.ofString "_strip_exception_details"), key := Value.str (Str.ofString "_strip_exception_details") 571, val := Value.ref 193 }, { hash := PyData.keyHash P (Str.ofString "Error"), key := Value.str (Str.ofString "Error") 593, val := Value.ref 203 }, { hash := PyData.keyHash P (Str.ofString "error_reply"), key := Value.str (Str.ofString "error_reply") 609, val := Value.ref 216 }, { hash := PyData.keyHash P (Str.ofString "parse257"), key := Value.str (Str.ofString "parse257") 620, val := Value.ref 225 }, { hash := PyData.keyHash P (Str.ofString "_law_numbers"), key := Value.str (Str.ofString "_law_numbers") 628, val := Value.ref 230 }, { hash := PyData.keyHash P (Str.ofString "_law_rows"), key := Value.str (Str.ofString "_law_rows") 634, val := Value.ref 235 }, { hash := PyData.keyHash P (Str.ofString "_law_told"), key := Value.str (Str.ofString "_law_told") 640, val := Value.ref 240 }, { hash := PyData.keyHash P (Str.ofString "_law_sum"), key := Value.str (Str.ofString "_law_sum") 646, val := Value.ref 245 }, { hash := PyData.keyHash P (Str.ofString "_law_fallen"), key := Value.str (Str.ofString "_law_fallen") 662, val := Value.ref 252 }] 26 }
noncomputable def hp118 (P : Params) : Obj := { cls := Value.none, data := Data.fields #[Value.int 6 0, Value.int 0 0, Value.ref 53, Value.int 15 0, Value.int 0 0, Value.ref 60, Value.int 104 0, Value.int 0 0, Value.ref 185, Value.int 132 0, Value.int 0 0, Value.ref 192, Value.int 145 0, Value.int 0 0, Value.ref 199, Value.int 147 0, Value.int 0 0, Value.ref 212, Value.int 149 0, Value.int 0 0, Value.ref 224, Value.int 167 0, Value.int 0 0, Value.ref 229, Value.int 170 0, Value.int 0 0, Value.ref 234, Value.int 175 0, Value.int 0 0, Value.ref 239, Value.int 184 0, Value.int 0 0, Value.ref 244, Value.int 186 0, Value.int 0 0, Value.ref 251] }
noncomputable def hp119 (P : Params) : Obj := { cls := Value.type "type", data := Data.cls { name := Str.ofString "Error", bases := [Value.type "Exception"], mro := [Value.ref 203, Value.type "Exception", Value.type "BaseException", Value.type "object"], ns := 202, qualname := Str.ofString "Error", subclasses := [Value.ref 216] }, slots := #[some (Value.ref 194), none, some (Value.str (Str.ofString "Error") 574), some (Value.str (Str.ofString "Error") 582), some (Value.builtin "Exception.__new__"), some (Value.bool true)] }
noncomputable def hp120 (P : Params) : Obj := { cls := Value.type "tuple", data := Data.seq #[Value.ref 203] }
noncomputable def hp121 (P : Params) : Obj := { cls := Value.type "dict", data := Data.dict #[{ hash := PyData.keyHash P (Str.ofString "__module__"), key := Value.str (Str.ofString "__module__") 601, val := Value.str (Str.ofString "cpy313.ftplib") 572 }, { hash := PyData.keyHash P (Str.ofString "__qualname__"), key := Value.str (Str.ofString "__qualname__") 603, val := Value.str (Str.ofString "error_reply") 602 }, { hash := PyData.keyHash P (Str.ofString "__firstlineno__"), key := Value.str (Str.ofString "__firstlineno__") 605, val := Value.int 147 604 }, { hash := PyData.keyHash P (Str.ofString "__static_attributes__"), key := Value.str (Str.ofString "__static_attributes__") 606, val := Value.ref 214 }] 4 }
noncomputable def hp122 (P : Params) : Obj := { cls := Value.type "code", data := Data.fields #[Value.str (Str.ofString "error_reply") 596, Value.str (Str.ofString "error_reply") 597, Value.str (Str.ofString "/claim/cut.py") 598, Value.int 147 0, Value.int 0 0, Value.int 0 0, Value.int 0 0, Value.int 0 0, Value.ref 210, Value.bool false, Value.int 276 0, Value.ref 211, Value.none, Value.none, Value.none, Value.none, Value.int 599 0, Value.int 147 0, Value.str (Str.ofString "/claim/cut.py") 600] }
noncomputable def hp123 (P : Params) : Obj := { cls := Value.type "frame", slots := #[some (Value.ref 212), some (Value.ref 3), some (Value.ref 209), none, some (Value.str (Str.ofString "cpy313.ftplib") 572), none, some (Value.ref 0)] }
noncomputable def hp124 (P : Params) : Obj := { cls := Value.type "dict", data := Data.dict #[{ hash := PyData.keyHash P (Str.ofString "__module__"), key := Value.str (Str.ofString "__module__") 601, val := Value.str (Str.ofString "cpy313.ftplib") 572 }, { hash := PyData.keyHash P (Str.ofString "__firstlineno__"), key := Value.str (Str.ofString "__firstlineno__") 605, val := Value.int 147 604 }, { hash := PyData.keyHash P (Str.ofString "__static_attributes__"), key := Value.str (Str.ofString "__static_attributes__") 606, val := Value.ref 214 }, { hash := PyData.keyHash P (Str.ofString "__doc__"), key := Value.str (Str.ofString "__doc__") 607, val := Value.none }] 2 }
noncomputable def hp125 (P : Params) : Obj := { cls := Value.type "type", data := Data.cls { name := Str.ofString "error_reply", bases := [Value.ref 203], mro := [Value.ref 216, Value.ref 203, Value.type "Exception", Value.type "BaseException", Value.type "object"], ns := 215, qualname := Str.ofString "error_reply" }, slots := #[some (Value.ref 207), none, some (Value.str (Str.ofString "error_reply") 594), some (Value.str (Str.ofString "error_reply") 602), some (Value.builtin "Exception.__new__"), some (Value.bool true)] }
noncomputable def hp126 (P : Params) : Obj := { cls := Value.type "super", data := Data.fields #[Value.ref 216, Value.ref 216, Value.ref 216] }
noncomputable def hp127 (P : Params) : Obj := { cls := Value.type "builtin_function_or_method", data := Data.fields #[Value.builtin "object.__init_subclass__", Value.ref 216] }
noncomputable def hp128 (P : Params) : Obj := { cls := Value.type "tuple", data := Data.seq #[Value.str (Str.ofString "resp") 613, Value.str (Str.ofString "dirname") 614, Value.str (Str.ofString "i") 615, Value.str (Str.ofString "n") 616, Value.str (Str.ofString "c") 617] }
noncomputable def hp129 (P : Params) : Obj := { cls := Value.none, data := Data.func { name := Str.ofString "parse257", qualname := Str.ofString "parse257", params := fP (topS 14), body := .stmts (fB (topS 14)), scope := fS (topS 14), globals := 0, closure := [], defaults := Value.none, kwdefaults := Value.none } }
noncomputable def hp130 (P : Params) : Obj := { cls := Value.none, data := Data.func { name := Str.ofString "_law_numbers", qualname := Str.ofString "_law_numbers", params := fP (topS 16), body := .stmts (fB (topS 16)), scope := fS (topS 16), globals := 0, closure := [], defaults := Value.none, kwdefaults := Value.none } }
noncomputable def hp131 (P : Params) : Obj := { cls := Value.none, data := Data.func { name := Str.ofString "_law_rows", qualname := Str.ofString "_law_rows", params := fP (topS 17), body := .stmts (fB (topS 17)), scope := fS (topS 17), globals := 0, closure := [], defaults := Value.none, kwdefaults := Value.none } }
noncomputable def hp132 (P : Params) : Obj := { cls := Value.none, data := Data.func { name := Str.ofString "_law_told", qualname := Str.ofString "_law_told", params := fP (topS 18), body := .stmts (fB (topS 18)), scope := fS (topS 18), globals := 0, closure := [], defaults := Value.none, kwdefaults := Value.none } }
noncomputable def hp133 (P : Params) : Obj := { cls := Value.none, data := Data.func { name := Str.ofString "_law_sum", qualname := Str.ofString "_law_sum", params := fP (topS 19), body := .stmts (fB (topS 19)), scope := fS (topS 19), globals := 0, closure := [], defaults := Value.none, kwdefaults := Value.none } }
noncomputable def hp134 (P : Params) : Obj := { cls := Value.type "tuple", data := Data.seq #[Value.str (Str.ofString "told") 650, Value.str (Str.ofString "book") 651, Value.str (Str.ofString "fallen") 652, Value.str (Str.ofString "laid") 653, Value.str (Str.ofString "k") 654, Value.str (Str.ofString "lamps") 655, Value.str (Str.ofString "choice") 656, Value.str (Str.ofString "name") 657, Value.str (Str.ofString "row") 658, Value.str (Str.ofString "stands") 659] }
noncomputable def hp135 (P : Params) : Obj := { cls := Value.none, data := Data.func { name := Str.ofString "_law_fallen", qualname := Str.ofString "_law_fallen", params := fP (topS 20), body := .stmts (fB (topS 20)), scope := fS (topS 20), globals := 0, closure := [], defaults := Value.none, kwdefaults := Value.none } }
noncomputable def hp136 (P : Params) : Obj := { cls := Value.none, data := Data.fields #[Value.int 6 0, Value.int 0 0, Value.ref 53, Value.int 15 0, Value.int 0 0, Value.ref 60, Value.int 104 0, Value.int 0 0, Value.ref 185, Value.int 132 0, Value.int 0 0, Value.ref 192, Value.int 145 0, Value.int 0 0, Value.ref 199, Value.int 147 0, Value.int 0 0, Value.ref 212, Value.int 149 0, Value.int 0 0, Value.ref 224, Value.int 167 0, Value.int 0 0, Value.ref 229, Value.int 170 0, Value.int 0 0, Value.ref 234, Value.int 175 0, Value.int 0 0, Value.ref 239, Value.int 184 0, Value.int 0 0, Value.ref 244, Value.int 186 0, Value.int 0 0, Value.ref 251, Value.int 201 0, Value.int 0 0, Value.ref 258, Value.int 210 0, Value.int 0 0, Value.ref 263, Value.int 224 0, Value.int 0 0, Value.ref 270, Value.int 233 0, Value.int 0 0, Value.ref 275, Value.int 241 0, Value.int 0 0, Value.ref 280] }
noncomputable def hp137 (P : Params) : Obj := { cls := Value.type "tuple", data := Data.seq #[Value.str (Str.ofString "board") 666, Value.str (Str.ofString "book") 667, Value.str (Str.ofString "choice") 668, Value.str (Str.ofString "stands") 669] }
noncomputable def hp138 (P : Params) : Obj := { cls := Value.none, data := Data.func { name := Str.ofString "_law_choice", qualname := Str.ofString "_law_choice", params := fP (topS 21), body := .stmts (fB (topS 21)), scope := fS (topS 21), globals := 0, closure := [], defaults := Value.none, kwdefaults := Value.none } }
noncomputable def hp139 (P : Params) : Obj := { cls := Value.none, data := Data.func { name := Str.ofString "_law_lit", qualname := Str.ofString "_law_lit", params := fP (topS 22), body := .stmts (fB (topS 22)), scope := fS (topS 22), globals := 0, closure := [], defaults := Value.none, kwdefaults := Value.none } }
noncomputable def hp140 (P : Params) : Obj := { cls := Value.type "tuple", data := Data.seq #[Value.str (Str.ofString "word") 682, Value.str (Str.ofString "board") 683, Value.str (Str.ofString "marks") 684, Value.str (Str.ofString "x") 685, Value.str (Str.ofString "said") 686] }
noncomputable def hp141 (P : Params) : Obj := { cls := Value.none, data := Data.func { name := Str.ofString "_law_shared", qualname := Str.ofString "_law_shared", params := fP (topS 23), body := .stmts (fB (topS 23)), scope := fS (topS 23), globals := 0, closure := [], defaults := Value.none, kwdefaults := Value.none } }
noncomputable def hp142 (P : Params) : Obj := { cls := Value.none, data := Data.func { name := Str.ofString "_law_comes", qualname := Str.ofString "_law_comes", params := fP (topS 24), body := .stmts (fB (topS 24)), scope := fS (topS 24), globals := 0, closure := [], defaults := Value.none, kwdefaults := Value.none } }
noncomputable def hp143 (P : Params) : Obj := { cls := Value.none, data := Data.func { name := Str.ofString "law", qualname := Str.ofString "law", params := fP (topS 25), body := .stmts (fB (topS 25)), scope := fS (topS 25), globals := 0, closure := [], defaults := Value.none, kwdefaults := Value.none } }
noncomputable def heapA (P : Params) : Heap := { objs := #[hp0 P, hp1 P, hp2 P, hp3 P, hp4 P, hp5 P, hp6 P, hp7 P, hp8 P, hp9 P, hp10 P, hp27 P, hp12 P, hp13 P, hp14 P, hp7 P, hp15 P, hp16 P, hp17 P, hp18 P, hp19 P, hp20 P, hp21 P, hp22 P, hp23 P, hp24 P, hp25 P, hp26 P] }
noncomputable def heapC (P : Params) : Heap := { objs := #[hp0 P, hp1 P, hp2 P, hp3 P, hp4 P, hp5 P, hp6 P, hp7 P, hp8 P, hp9 P, hp10 P, hp27 P, hp12 P, hp13 P, hp14 P, hp7 P, hp15 P, hp16 P, hp17 P, hp18 P, hp19 P, hp20 P, hp21 P, hp22 P, hp23 P, hp24 P, hp25 P, hp26 P, hp7 P, hp8 P, hp28 P, hp29 P] }
noncomputable def heapB (P : Params) : Heap := { objs := #[hp0 P, hp1 P, hp101 P, ob3 P, hp4 P, hp5 P, hp6 P, hp7 P, hp8 P, hp9 P, hp10 P, hp27 P, hp12 P, hp13 P, hp14 P, hp7 P, hp15 P, hp16 P, hp17 P, hp18 P, hp19 P, hp20 P, hp21 P, hp22 P, hp23 P, hp24 P, hp25 P, hp26 P, hp7 P, hp136 P, hp28 P, hp29 P, hp32 P, hp6 P, ob115 P, hp33 P, hp34 P, hp35 P, hp6 P, ob115 P, ob40 P, ob41 P, hp36 P, hp6 P, ob115 P, ob45 P, ob46 P, hp37 P, hp7 P, hp8 P, hp38 P, hp7 P, hp39 P, hp40 P, hp41 P, hp7 P, hp44 P, hp45 P, hp7 P, hp46 P, hp47 P, hp48 P, ob115 P, hp7 P, hp8 P, hp49 P, hp7 P, hp50 P, ob68 P, ob69 P, hp7 P, hp8 P, hp51 P, hp7 P, hp52 P, ob75 P, ob76 P, hp7 P, hp8 P, hp53 P, hp7 P, hp54 P, hp55 P, hp56 P, hp7 P, hp8 P, hp57 P, hp7 P, hp58 P, hp59 P, hp60 P, hp7 P, hp8 P, hp61 P, hp62 P, hp63 P, hp7 P, hp8 P, hp64 P, hp7 P, hp65 P, hp66 P, hp67 P, hp7 P, hp8 P, hp68 P, hp7 P, hp69 P, hp70 P, hp71 P, hp7 P, hp8 P, hp72 P, ob113 P, ob114 P, ob115 P, hp7 P, hp8 P, hp73 P, hp7 P, hp74 P, ob121 P, ob122 P, hp7 P, hp8 P, hp75 P, hp76 P, hp77 P, hp7 P, hp8 P, hp78 P, hp79 P, hp80 P, hp7 P, hp8 P, hp81 P, hp7 P, hp82 P, ob138 P, ob139 P, hp7 P, hp8 P, hp83 P, hp7 P, hp84 P, hp85 P, hp86 P, hp7 P, hp8 P, hp87 P, hp88 P, hp89 P, hp7 P, hp8 P, hp90 P, hp7 P, hp91 P, hp92 P, hp93 P, hp7 P, hp8 P, hp94 P, hp7 P, hp95 P, ob164 P, ob165 P, hp7 P, hp8 P, hp96 P, hp7 P, hp97 P, ob171 P, ob172 P, hp98 P, ob174 P, ob175 P, ob176 P, ob177 P, hp99 P, hp100 P, hp7 P, hp8 P, hp104 P, hp7 P, hp105 P, ob185 P, ob186 P, hp7 P, hp8 P, hp106 P, hp7 P, hp107 P, ob192 P, ob193 P, hp108 P, hp44 P, hp109 P, hp7 P, hp8 P, hp110 P, hp111 P, hp7 P, hp112 P, hp119 P, hp114 P, hp115 P, hp116 P, hp120 P, hp44 P, hp121 P, hp7 P, hp8 P, hp122 P, hp123 P, hp7 P, hp124 P, hp125 P, hp126 P, hp127 P, hp7 P, hp8 P, hp128 P, hp7 P, hp129 P, ob224 P, ob225 P, hp7 P, hp8 P, hp130 P, ob229 P, ob230 P, hp7 P, hp8 P, hp131 P, ob234 P, ob235 P, hp7 P, hp8 P, hp132 P, ob239 P, ob240 P, hp7 P, hp8 P, hp133 P, ob244 P, ob245 P, hp7 P, hp8 P, hp134 P, hp7 P, hp135 P, ob251 P, ob252 P, hp7 P, hp8 P, hp137 P, hp7 P, hp138 P, ob258 P, ob259 P, hp7 P, hp8 P, hp139 P, ob263 P, ob264 P, hp7 P, hp8 P, hp140 P, hp7 P, hp141 P, ob270 P, ob271 P, hp7 P, hp8 P, hp142 P, ob275 P, ob276 P, hp7 P, hp8 P, hp143 P, ob280 P, ob281 P] }
noncomputable def treeE (P : Params) : BT := (.node (hp0 P) (.node (hp1 P) (.node (hp3 P) (.node (hp7 P) (.node (hp7 P) .nil .nil) (.node (hp22 P) .nil .nil)) (.node (hp11 P) (.node (hp18 P) .nil .nil) (.node (hp26 P) .nil .nil))) (.node (hp5 P) (.node (hp9 P) (.node (hp16 P) .nil .nil) (.node (hp24 P) .nil .nil)) (.node (hp13 P) (.node (hp20 P) .nil .nil) .nil))) (.node (hp2 P) (.node (hp4 P) (.node (hp8 P) (.node (hp15 P) .nil .nil) (.node (hp23 P) .nil .nil)) (.node (hp12 P) (.node (hp19 P) .nil .nil) .nil)) (.node (hp6 P) (.node (hp10 P) (.node (hp17 P) .nil .nil) (.node (hp25 P) .nil .nil)) (.node (hp14 P) (.node (hp21 P) .nil .nil) .nil))))
noncomputable def treeC (P : Params) : BT := (.node (hp0 P) (.node (hp1 P) (.node (hp3 P) (.node (hp7 P) (.node (hp7 P) (.node (hp29 P) .nil .nil) .nil) (.node (hp22 P) .nil .nil)) (.node (hp27 P) (.node (hp18 P) .nil .nil) (.node (hp26 P) .nil .nil))) (.node (hp5 P) (.node (hp9 P) (.node (hp16 P) .nil .nil) (.node (hp24 P) .nil .nil)) (.node (hp13 P) (.node (hp20 P) .nil .nil) (.node (hp8 P) .nil .nil)))) (.node (hp2 P) (.node (hp4 P) (.node (hp8 P) (.node (hp15 P) .nil .nil) (.node (hp23 P) .nil .nil)) (.node (hp12 P) (.node (hp19 P) .nil .nil) (.node (hp7 P) .nil .nil))) (.node (hp6 P) (.node (hp10 P) (.node (hp17 P) .nil .nil) (.node (hp25 P) .nil .nil)) (.node (hp14 P) (.node (hp21 P) .nil .nil) (.node (hp28 P) .nil .nil)))))
noncomputable def treeF (P : Params) : BT := (.node (hp0 P) (.node (hp1 P) (.node (hp30 P) (.node (hp7 P) (.node (hp7 P) (.node (hp29 P) .nil .nil) (.node (hp37 P) .nil .nil)) (.node (hp22 P) (.node (ob115 P) .nil .nil) .nil)) (.node (hp27 P) (.node (hp18 P) (.node (hp33 P) .nil .nil) (.node (hp7 P) .nil .nil)) (.node (hp26 P) (.node (hp6 P) .nil .nil) .nil))) (.node (hp5 P) (.node (hp9 P) (.node (hp16 P) (.node (hp6 P) .nil .nil) (.node (hp8 P) .nil .nil)) (.node (hp24 P) (.node (ob41 P) .nil .nil) .nil)) (.node (hp13 P) (.node (hp20 P) (.node (hp35 P) .nil .nil) (.node (hp40 P) .nil .nil)) (.node (hp31 P) (.node (ob45 P) .nil .nil) .nil)))) (.node (hp2 P) (.node (hp4 P) (.node (hp8 P) (.node (hp15 P) (.node (hp32 P) .nil .nil) (.node (hp7 P) .nil .nil)) (.node (hp23 P) (.node (ob40 P) .nil .nil) .nil)) (.node (hp12 P) (.node (hp19 P) (.node (hp34 P) .nil .nil) (.node (hp39 P) .nil .nil)) (.node (hp7 P) (.node (ob115 P) .nil .nil) .nil))) (.node (hp6 P) (.node (hp10 P) (.node (hp17 P) (.node (ob115 P) .nil .nil) (.node (hp38 P) .nil .nil)) (.node (hp25 P) (.node (hp36 P) .nil .nil) .nil)) (.node (hp14 P) (.node (hp21 P) (.node (hp6 P) .nil .nil) (.node (hp41 P) .nil .nil)) (.node (hp28 P) (.node (ob46 P) .nil .nil) .nil)))))
noncomputable def treeG (P : Params) : BT := (.node (hp0 P) (.node (hp1 P) (.node (hp42 P) (.node (hp7 P) (.node (hp7 P) (.node (hp29 P) (.node (hp7 P) (.node (hp77 P) .nil .nil) .nil) (.node (hp63 P) (.node (hp7 P) .nil .nil) .nil)) (.node (hp37 P) (.node (hp53 P) (.node (hp7 P) .nil .nil) .nil) (.node (hp8 P) (.node (ob175 P) .nil .nil) .nil))) (.node (hp22 P) (.node (ob115 P) (.node (hp8 P) (.node (hp81 P) .nil .nil) .nil) (.node (hp7 P) (.node (hp8 P) .nil .nil) .nil)) (.node (hp7 P) (.node (hp7 P) (.node (hp89 P) .nil .nil) .nil) (.node (hp7 P) .nil .nil)))) (.node (hp27 P) (.node (hp18 P) (.node (hp33 P) (.node (hp50 P) (.node (hp79 P) .nil .nil) .nil) (.node (hp7 P) (.node (hp95 P) .nil .nil) .nil)) (.node (hp7 P) (.node (hp56 P) (.node (hp7 P) .nil .nil) .nil) (.node (ob115 P) (.node (hp100 P) .nil .nil) .nil))) (.node (hp26 P) (.node (hp6 P) (.node (ob75 P) (.node (ob139 P) .nil .nil) .nil) (.node (hp69 P) (.node (ob171 P) .nil .nil) .nil)) (.node (hp46 P) (.node (hp7 P) (.node (hp7 P) .nil .nil) .nil) (.node (hp7 P) .nil .nil))))) (.node (hp5 P) (.node (hp9 P) (.node (hp16 P) (.node (hp6 P) (.node (hp49 P) (.node (hp8 P) .nil .nil) .nil) (.node (hp8 P) (.node (hp94 P) .nil .nil) .nil)) (.node (hp8 P) (.node (hp54 P) (.node (hp85 P) .nil .nil) .nil) (.node (ob113 P) (.node (ob177 P) .nil .nil) .nil))) (.node (hp24 P) (.node (ob41 P) (.node (hp7 P) (.node (hp82 P) .nil .nil) .nil) (.node (hp68 P) (.node (hp7 P) .nil .nil) .nil)) (.node (hp45 P) (.node (hp59 P) (.node (hp8 P) .nil .nil) .nil) (.node (ob121 P) .nil .nil)))) (.node (hp13 P) (.node (hp20 P) (.node (hp35 P) (.node (ob69 P) (.node (hp7 P) .nil .nil) .nil) (.node (hp66 P) (.node (ob165 P) .nil .nil) .nil)) (.node (hp40 P) (.node (hp8 P) (.node (hp87 P) .nil .nil) .nil) (.node (hp8 P) .nil .nil))) (.node (hp43 P) (.node (ob45 P) (.node (hp7 P) (.node (hp8 P) .nil .nil) .nil) (.node (hp71 P) (.node (hp98 P) .nil .nil) .nil)) (.node (hp48 P) (.node (hp61 P) (.node (hp92 P) .nil .nil) .nil) (.node (hp75 P) .nil .nil)))))) (.node (hp2 P) (.node (hp4 P) (.node (hp8 P) (.node (hp15 P) (.node (hp32 P) (.node (hp8 P) (.node (hp7 P) .nil .nil) .nil) (.node (hp7 P) (.node (hp8 P) .nil .nil) .nil)) (.node (hp7 P) (.node (hp7 P) (.node (hp84 P) .nil .nil) .nil) (.node (hp72 P) (.node (ob176 P) .nil .nil) .nil))) (.node (hp23 P) (.node (ob40 P) (.node (hp51 P) (.node (hp7 P) .nil .nil) .nil) (.node (hp8 P) (.node (hp96 P) .nil .nil) .nil)) (.node (hp44 P) (.node (hp58 P) (.node (hp7 P) .nil .nil) .nil) (.node (hp74 P) .nil .nil)))) (.node (hp12 P) (.node (hp19 P) (.node (hp34 P) (.node (ob68 P) (.node (hp80 P) .nil .nil) .nil) (.node (hp65 P) (.node (ob164 P) .nil .nil) .nil)) (.node (hp39 P) (.node (hp7 P) (.node (hp8 P) .nil .nil) .nil) (.node (hp7 P) .nil .nil))) (.node (hp7 P) (.node (ob115 P) (.node (ob76 P) (.node (hp7 P) .nil .nil) .nil) (.node (hp70 P) (.node (ob172 P) .nil .nil) .nil)) (.node (hp47 P) (.node (hp8 P) (.node (hp91 P) .nil .nil) .nil) (.node (hp8 P) .nil .nil))))) (.node (hp6 P) (.node (hp10 P) (.node (hp17 P) (.node (ob115 P) (.node (hp7 P) (.node (hp78 P) .nil .nil) .nil) (.node (hp64 P) (.node (hp7 P) .nil .nil) .nil)) (.node (hp38 P) (.node (hp55 P) (.node (hp86 P) .nil .nil) .nil) (.node (ob114 P) (.node (hp99 P) .nil .nil) .nil))) (.node (hp25 P) (.node (hp36 P) (.node (hp52 P) (.node (ob138 P) .nil .nil) .nil) (.node (hp7 P) (.node (hp97 P) .nil .nil) .nil)) (.node (hp7 P) (.node (hp60 P) (.node (hp90 P) .nil .nil) .nil) (.node (ob122 P) .nil .nil)))) (.node (hp14 P) (.node (hp21 P) (.node (hp6 P) (.node (hp7 P) (.node (hp8 P) .nil .nil) .nil) (.node (hp67 P) (.node (hp7 P) .nil .nil) .nil)) (.node (hp41 P) (.node (hp57 P) (.node (hp88 P) .nil .nil) .nil) (.node (hp73 P) .nil .nil))) (.node (hp28 P) (.node (ob46 P) (.node (hp8 P) (.node (hp83 P) .nil .nil) .nil) (.node (hp7 P) (.node (ob174 P) .nil .nil) .nil)) (.node (ob115 P) (.node (hp62 P) (.node (hp93 P) .nil .nil) .nil) (.node (hp76 P) .nil .nil)))))))
noncomputable def treeH (P : Params) : BT := (.node (hp0 P) (.node (hp1 P) (.node (hp102 P) (.node (hp7 P) (.node (hp7 P) (.node (hp29 P) (.node (hp7 P) (.node (hp77 P) .nil .nil) (.node (hp107 P) .nil .nil)) (.node (hp63 P) (.node (hp7 P) .nil .nil) .nil)) (.node (hp37 P) (.node (hp53 P) (.node (hp7 P) .nil .nil) .nil) (.node (hp8 P) (.node (ob175 P) .nil .nil) .nil))) (.node (hp22 P) (.node (ob115 P) (.node (hp8 P) (.node (hp81 P) .nil .nil) (.node (hp110 P) .nil .nil)) (.node (hp7 P) (.node (hp8 P) .nil .nil) .nil)) (.node (hp7 P) (.node (hp7 P) (.node (hp89 P) .nil .nil) .nil) (.node (hp7 P) (.node (hp7 P) .nil .nil) .nil)))) (.node (hp27 P) (.node (hp18 P) (.node (hp33 P) (.node (hp50 P) (.node (hp79 P) .nil .nil) (.node (hp44 P) .nil .nil)) (.node (hp7 P) (.node (hp95 P) .nil .nil) .nil)) (.node (hp7 P) (.node (hp56 P) (.node (hp7 P) .nil .nil) .nil) (.node (ob115 P) (.node (hp100 P) .nil .nil) .nil))) (.node (hp26 P) (.node (hp6 P) (.node (ob75 P) (.node (ob139 P) .nil .nil) (.node (hp113 P) .nil .nil)) (.node (hp69 P) (.node (ob171 P) .nil .nil) .nil)) (.node (hp46 P) (.node (hp7 P) (.node (hp7 P) .nil .nil) .nil) (.node (hp7 P) (.node (hp7 P) .nil .nil) .nil))))) (.node (hp5 P) (.node (hp9 P) (.node (hp16 P) (.node (hp6 P) (.node (hp49 P) (.node (hp8 P) .nil .nil) (.node (ob193 P) .nil .nil)) (.node (hp8 P) (.node (hp94 P) .nil .nil) .nil)) (.node (hp8 P) (.node (hp54 P) (.node (hp85 P) .nil .nil) .nil) (.node (ob113 P) (.node (ob177 P) .nil .nil) .nil))) (.node (hp24 P) (.node (ob41 P) (.node (hp7 P) (.node (hp82 P) .nil .nil) (.node (hp7 P) .nil .nil)) (.node (hp68 P) (.node (hp7 P) .nil .nil) .nil)) (.node (hp45 P) (.node (hp59 P) (.node (hp8 P) .nil .nil) .nil) (.node (ob121 P) (.node (ob185 P) .nil .nil) .nil)))) (.node (hp13 P) (.node (hp20 P) (.node (hp35 P) (.node (ob69 P) (.node (hp7 P) .nil .nil) (.node (hp7 P) .nil .nil)) (.node (hp66 P) (.node (ob165 P) .nil .nil) .nil)) (.node (hp40 P) (.node (hp8 P) (.node (hp87 P) .nil .nil) .nil) (.node (hp8 P) (.node (hp8 P) .nil .nil) .nil))) (.node (hp103 P) (.node (ob45 P) (.node (hp7 P) (.node (hp8 P) .nil .nil) (.node (hp115 P) .nil .nil)) (.node (hp71 P) (.node (hp98 P) .nil .nil) .nil)) (.node (hp48 P) (.node (hp61 P) (.node (hp92 P) .nil .nil) .nil) (.node (hp75 P) (.node (hp106 P) .nil .nil) .nil)))))) (.node (hp101 P) (.node (hp4 P) (.node (hp8 P) (.node (hp15 P) (.node (hp32 P) (.node (hp8 P) (.node (hp7 P) .nil .nil) (.node (ob192 P) .nil .nil)) (.node (hp7 P) (.node (hp8 P) .nil .nil) .nil)) (.node (hp7 P) (.node (hp7 P) (.node (hp84 P) .nil .nil) .nil) (.node (hp72 P) (.node (ob176 P) .nil .nil) .nil))) (.node (hp23 P) (.node (ob40 P) (.node (hp51 P) (.node (hp7 P) .nil .nil) (.node (hp111 P) .nil .nil)) (.node (hp8 P) (.node (hp96 P) .nil .nil) .nil)) (.node (hp44 P) (.node (hp58 P) (.node (hp7 P) .nil .nil) .nil) (.node (hp74 P) (.node (hp105 P) .nil .nil) .nil)))) (.node (hp12 P) (.node (hp19 P) (.node (hp34 P) (.node (ob68 P) (.node (hp80 P) .nil .nil) (.node (hp109 P) .nil .nil)) (.node (hp65 P) (.node (ob164 P) .nil .nil) .nil)) (.node (hp39 P) (.node (hp7 P) (.node (hp8 P) .nil .nil) .nil) (.node (hp7 P) (.node (hp7 P) .nil .nil) .nil))) (.node (hp7 P) (.node (ob115 P) (.node (ob76 P) (.node (hp7 P) .nil .nil) (.node (hp114 P) .nil .nil)) (.node (hp70 P) (.node (ob172 P) .nil .nil) .nil)) (.node (hp47 P) (.node (hp8 P) (.node (hp91 P) .nil .nil) .nil) (.node (hp8 P) (.node (hp8 P) .nil .nil) .nil))))) (.node (hp6 P) (.node (hp10 P) (.node (hp17 P) (.node (ob115 P) (.node (hp7 P) (.node (hp78 P) .nil .nil) (.node (hp108 P) .nil .nil)) (.node (hp64 P) (.node (hp7 P) .nil .nil) .nil)) (.node (hp38 P) (.node (hp55 P) (.node (hp86 P) .nil .nil) .nil) (.node (ob114 P) (.node (hp99 P) .nil .nil) .nil))) (.node (hp25 P) (.node (hp36 P) (.node (hp52 P) (.node (ob138 P) .nil .nil) (.node (hp112 P) .nil .nil)) (.node (hp7 P) (.node (hp97 P) .nil .nil) .nil)) (.node (hp7 P) (.node (hp60 P) (.node (hp90 P) .nil .nil) .nil) (.node (ob122 P) (.node (ob186 P) .nil .nil) .nil)))) (.node (hp14 P) (.node (hp21 P) (.node (hp6 P) (.node (hp7 P) (.node (hp8 P) .nil .nil) (.node (hp8 P) .nil .nil)) (.node (hp67 P) (.node (hp7 P) .nil .nil) .nil)) (.node (hp41 P) (.node (hp57 P) (.node (hp88 P) .nil .nil) .nil) (.node (hp73 P) (.node (hp104 P) .nil .nil) .nil))) (.node (hp28 P) (.node (ob46 P) (.node (hp8 P) (.node (hp83 P) .nil .nil) (.node (hp116 P) .nil .nil)) (.node (hp7 P) (.node (ob174 P) .nil .nil) .nil)) (.node (ob115 P) (.node (hp62 P) (.node (hp93 P) .nil .nil) .nil) (.node (hp76 P) (.node (hp7 P) .nil .nil) .nil)))))))
noncomputable def treeI (P : Params) : BT := (.node (hp0 P) (.node (hp1 P) (.node (hp117 P) (.node (hp7 P) (.node (hp7 P) (.node (hp29 P) (.node (hp7 P) (.node (hp77 P) .nil .nil) (.node (hp107 P) .nil .nil)) (.node (hp63 P) (.node (hp7 P) .nil .nil) (.node (hp129 P) .nil .nil))) (.node (hp37 P) (.node (hp53 P) (.node (hp7 P) .nil .nil) (.node (hp120 P) .nil .nil)) (.node (hp8 P) (.node (ob175 P) .nil .nil) (.node (ob239 P) .nil .nil)))) (.node (hp22 P) (.node (ob115 P) (.node (hp8 P) (.node (hp81 P) .nil .nil) (.node (hp110 P) .nil .nil)) (.node (hp7 P) (.node (hp8 P) .nil .nil) (.node (hp7 P) .nil .nil))) (.node (hp7 P) (.node (hp7 P) (.node (hp89 P) .nil .nil) (.node (hp124 P) .nil .nil)) (.node (hp7 P) (.node (hp7 P) .nil .nil) (.node (hp8 P) .nil .nil))))) (.node (hp27 P) (.node (hp18 P) (.node (hp33 P) (.node (hp50 P) (.node (hp79 P) .nil .nil) (.node (hp44 P) .nil .nil)) (.node (hp7 P) (.node (hp95 P) .nil .nil) (.node (hp8 P) .nil .nil))) (.node (hp7 P) (.node (hp56 P) (.node (hp7 P) .nil .nil) (.node (hp8 P) .nil .nil)) (.node (ob115 P) (.node (hp100 P) .nil .nil) (.node (hp133 P) .nil .nil)))) (.node (hp26 P) (.node (hp6 P) (.node (ob75 P) (.node (ob139 P) .nil .nil) (.node (hp119 P) .nil .nil)) (.node (hp69 P) (.node (ob171 P) .nil .nil) (.node (ob235 P) .nil .nil))) (.node (hp46 P) (.node (hp7 P) (.node (hp7 P) .nil .nil) (.node (hp7 P) .nil .nil)) (.node (hp7 P) (.node (hp7 P) .nil .nil) (.node (ob251 P) .nil .nil)))))) (.node (hp5 P) (.node (hp9 P) (.node (hp16 P) (.node (hp6 P) (.node (hp49 P) (.node (hp8 P) .nil .nil) (.node (ob193 P) .nil .nil)) (.node (hp8 P) (.node (hp94 P) .nil .nil) (.node (ob225 P) .nil .nil))) (.node (hp8 P) (.node (hp54 P) (.node (hp85 P) .nil .nil) (.node (hp121 P) .nil .nil)) (.node (ob113 P) (.node (ob177 P) .nil .nil) (.node (hp7 P) .nil .nil)))) (.node (hp24 P) (.node (ob41 P) (.node (hp7 P) (.node (hp82 P) .nil .nil) (.node (hp7 P) .nil .nil)) (.node (hp68 P) (.node (hp7 P) .nil .nil) (.node (hp131 P) .nil .nil))) (.node (hp45 P) (.node (hp59 P) (.node (hp8 P) .nil .nil) (.node (hp126 P) .nil .nil)) (.node (ob121 P) (.node (ob185 P) .nil .nil) (.node (hp7 P) .nil .nil))))) (.node (hp13 P) (.node (hp20 P) (.node (hp35 P) (.node (ob69 P) (.node (hp7 P) .nil .nil) (.node (hp7 P) .nil .nil)) (.node (hp66 P) (.node (ob165 P) .nil .nil) (.node (ob229 P) .nil .nil))) (.node (hp40 P) (.node (hp8 P) (.node (hp87 P) .nil .nil) (.node (hp123 P) .nil .nil)) (.node (hp8 P) (.node (hp8 P) .nil .nil) (.node (ob245 P) .nil .nil)))) (.node (hp118 P) (.node (ob45 P) (.node (hp7 P) (.node (hp8 P) .nil .nil) (.node (hp115 P) .nil .nil)) (.node (hp71 P) (.node (hp98 P) .nil .nil) (.node (hp8 P) .nil .nil))) (.node (hp48 P) (.node (hp61 P) (.node (hp92 P) .nil .nil) (.node (hp128 P) .nil .nil)) (.node (hp75 P) (.node (hp106 P) .nil .nil) .nil)))))) (.node (hp101 P) (.node (hp4 P) (.node (hp8 P) (.node (hp15 P) (.node (hp32 P) (.node (hp8 P) (.node (hp7 P) .nil .nil) (.node (ob192 P) .nil .nil)) (.node (hp7 P) (.node (hp8 P) .nil .nil) (.node (ob224 P) .nil .nil))) (.node (hp7 P) (.node (hp7 P) (.node (hp84 P) .nil .nil) (.node (hp44 P) .nil .nil)) (.node (hp72 P) (.node (ob176 P) .nil .nil) (.node (ob240 P) .nil .nil)))) (.node (hp23 P) (.node (ob40 P) (.node (hp51 P) (.node (hp7 P) .nil .nil) (.node (hp111 P) .nil .nil)) (.node (hp8 P) (.node (hp96 P) .nil .nil) (.node (hp8 P) .nil .nil))) (.node (hp44 P) (.node (hp58 P) (.node (hp7 P) .nil .nil) (.node (hp125 P) .nil .nil)) (.node (hp74 P) (.node (hp105 P) .nil .nil) (.node (hp134 P) .nil .nil))))) (.node (hp12 P) (.node (hp19 P) (.node (hp34 P) (.node (ob68 P) (.node (hp80 P) .nil .nil) (.node (hp109 P) .nil .nil)) (.node (hp65 P) (.node (ob164 P) .nil .nil) (.node (hp130 P) .nil .nil))) (.node (hp39 P) (.node (hp7 P) (.node (hp8 P) .nil .nil) (.node (hp122 P) .nil .nil)) (.node (hp7 P) (.node (hp7 P) .nil .nil) (.node (ob244 P) .nil .nil)))) (.node (hp7 P) (.node (ob115 P) (.node (ob76 P) (.node (hp7 P) .nil .nil) (.node (hp114 P) .nil .nil)) (.node (hp70 P) (.node (ob172 P) .nil .nil) (.node (hp7 P) .nil .nil))) (.node (hp47 P) (.node (hp8 P) (.node (hp91 P) .nil .nil) (.node (hp8 P) .nil .nil)) (.node (hp8 P) (.node (hp8 P) .nil .nil) (.node (ob252 P) .nil .nil)))))) (.node (hp6 P) (.node (hp10 P) (.node (hp17 P) (.node (ob115 P) (.node (hp7 P) (.node (hp78 P) .nil .nil) (.node (hp108 P) .nil .nil)) (.node (hp64 P) (.node (hp7 P) .nil .nil) (.node (hp7 P) .nil .nil))) (.node (hp38 P) (.node (hp55 P) (.node (hp86 P) .nil .nil) (.node (hp7 P) .nil .nil)) (.node (ob114 P) (.node (hp99 P) .nil .nil) (.node (hp8 P) .nil .nil)))) (.node (hp25 P) (.node (hp36 P) (.node (hp52 P) (.node (ob138 P) .nil .nil) (.node (hp112 P) .nil .nil)) (.node (hp7 P) (.node (hp97 P) .nil .nil) (.node (ob234 P) .nil .nil))) (.node (hp7 P) (.node (hp60 P) (.node (hp90 P) .nil .nil) (.node (hp127 P) .nil .nil)) (.node (ob122 P) (.node (ob186 P) .nil .nil) (.node (hp135 P) .nil .nil))))) (.node (hp14 P) (.node (hp21 P) (.node (hp6 P) (.node (hp7 P) (.node (hp8 P) .nil .nil) (.node (hp8 P) .nil .nil)) (.node (hp67 P) (.node (hp7 P) .nil .nil) (.node (ob230 P) .nil .nil))) (.node (hp41 P) (.node (hp57 P) (.node (hp88 P) .nil .nil) (.node (hp7 P) .nil .nil)) (.node (hp73 P) (.node (hp104 P) .nil .nil) (.node (hp7 P) .nil .nil)))) (.node (hp28 P) (.node (ob46 P) (.node (hp8 P) (.node (hp83 P) .nil .nil) (.node (hp116 P) .nil .nil)) (.node (hp7 P) (.node (ob174 P) .nil .nil) (.node (hp132 P) .nil .nil))) (.node (ob115 P) (.node (hp62 P) (.node (hp93 P) .nil .nil) (.node (hp7 P) .nil .nil)) (.node (hp76 P) (.node (hp7 P) .nil .nil) .nil)))))))
noncomputable def treeB (P : Params) : BT := (.node (hp0 P) (.node (hp1 P) (.node (ob3 P) (.node (hp7 P) (.node (hp7 P) (.node (hp29 P) (.node (hp7 P) (.node (hp77 P) (.node (hp137 P) .nil .nil) .nil) (.node (hp107 P) .nil .nil)) (.node (hp63 P) (.node (hp7 P) .nil .nil) (.node (hp129 P) .nil .nil))) (.node (hp37 P) (.node (hp53 P) (.node (hp7 P) (.node (ob271 P) .nil .nil) .nil) (.node (hp120 P) .nil .nil)) (.node (hp8 P) (.node (ob175 P) .nil .nil) (.node (ob239 P) .nil .nil)))) (.node (hp22 P) (.node (ob115 P) (.node (hp8 P) (.node (hp81 P) (.node (ob263 P) .nil .nil) .nil) (.node (hp110 P) .nil .nil)) (.node (hp7 P) (.node (hp8 P) .nil .nil) (.node (hp7 P) .nil .nil))) (.node (hp7 P) (.node (hp7 P) (.node (hp89 P) (.node (hp143 P) .nil .nil) .nil) (.node (hp124 P) .nil .nil)) (.node (hp7 P) (.node (hp7 P) .nil .nil) (.node (hp8 P) .nil .nil))))) (.node (hp27 P) (.node (hp18 P) (.node (hp33 P) (.node (hp50 P) (.node (hp79 P) (.node (ob259 P) .nil .nil) .nil) (.node (hp44 P) .nil .nil)) (.node (hp7 P) (.node (hp95 P) .nil .nil) (.node (hp8 P) .nil .nil))) (.node (hp7 P) (.node (hp56 P) (.node (hp7 P) (.node (ob275 P) .nil .nil) .nil) (.node (hp8 P) .nil .nil)) (.node (ob115 P) (.node (hp100 P) .nil .nil) (.node (hp133 P) .nil .nil)))) (.node (hp26 P) (.node (hp6 P) (.node (ob75 P) (.node (ob139 P) (.node (hp140 P) .nil .nil) .nil) (.node (hp119 P) .nil .nil)) (.node (hp69 P) (.node (ob171 P) .nil .nil) (.node (ob235 P) .nil .nil))) (.node (hp46 P) (.node (hp7 P) (.node (hp7 P) .nil .nil) (.node (hp7 P) .nil .nil)) (.node (hp7 P) (.node (hp7 P) .nil .nil) (.node (ob251 P) .nil .nil)))))) (.node (hp5 P) (.node (hp9 P) (.node (hp16 P) (.node (hp6 P) (.node (hp49 P) (.node (hp8 P) (.node (hp138 P) .nil .nil) .nil) (.node (ob193 P) .nil .nil)) (.node (hp8 P) (.node (hp94 P) .nil .nil) (.node (ob225 P) .nil .nil))) (.node (hp8 P) (.node (hp54 P) (.node (hp85 P) (.node (hp8 P) .nil .nil) .nil) (.node (hp121 P) .nil .nil)) (.node (ob113 P) (.node (ob177 P) .nil .nil) (.node (hp7 P) .nil .nil)))) (.node (hp24 P) (.node (ob41 P) (.node (hp7 P) (.node (hp82 P) (.node (hp7 P) .nil .nil) .nil) (.node (hp7 P) .nil .nil)) (.node (hp68 P) (.node (hp7 P) .nil .nil) (.node (hp131 P) .nil .nil))) (.node (hp45 P) (.node (hp59 P) (.node (hp8 P) (.node (ob281 P) .nil .nil) .nil) (.node (hp126 P) .nil .nil)) (.node (ob121 P) (.node (ob185 P) .nil .nil) (.node (hp7 P) .nil .nil))))) (.node (hp13 P) (.node (hp20 P) (.node (hp35 P) (.node (ob69 P) (.node (hp7 P) (.node (hp8 P) .nil .nil) .nil) (.node (hp7 P) .nil .nil)) (.node (hp66 P) (.node (ob165 P) .nil .nil) (.node (ob229 P) .nil .nil))) (.node (hp40 P) (.node (hp8 P) (.node (hp87 P) (.node (hp7 P) .nil .nil) .nil) (.node (hp123 P) .nil .nil)) (.node (hp8 P) (.node (hp8 P) .nil .nil) (.node (ob245 P) .nil .nil)))) (.node (hp136 P) (.node (ob45 P) (.node (hp7 P) (.node (hp8 P) (.node (hp141 P) .nil .nil) .nil) (.node (hp115 P) .nil .nil)) (.node (hp71 P) (.node (hp98 P) .nil .nil) (.node (hp8 P) .nil .nil))) (.node (hp48 P) (.node (hp61 P) (.node (hp92 P) .nil .nil) (.node (hp128 P) .nil .nil)) (.node (hp75 P) (.node (hp106 P) .nil .nil) (.node (hp7 P) .nil .nil))))))) (.node (hp101 P) (.node (hp4 P) (.node (hp8 P) (.node (hp15 P) (.node (hp32 P) (.node (hp8 P) (.node (hp7 P) (.node (hp7 P) .nil .nil) .nil) (.node (ob192 P) .nil .nil)) (.node (hp7 P) (.node (hp8 P) .nil .nil) (.node (ob224 P) .nil .nil))) (.node (hp7 P) (.node (hp7 P) (.node (hp84 P) (.node (hp7 P) .nil .nil) .nil) (.node (hp44 P) .nil .nil)) (.node (hp72 P) (.node (ob176 P) .nil .nil) (.node (ob240 P) .nil .nil)))) (.node (hp23 P) (.node (ob40 P) (.node (hp51 P) (.node (hp7 P) (.node (ob264 P) .nil .nil) .nil) (.node (hp111 P) .nil .nil)) (.node (hp8 P) (.node (hp96 P) .nil .nil) (.node (hp8 P) .nil .nil))) (.node (hp44 P) (.node (hp58 P) (.node (hp7 P) (.node (ob280 P) .nil .nil) .nil) (.node (hp125 P) .nil .nil)) (.node (hp74 P) (.node (hp105 P) .nil .nil) (.node (hp134 P) .nil .nil))))) (.node (hp12 P) (.node (hp19 P) (.node (hp34 P) (.node (ob68 P) (.node (hp80 P) (.node (hp7 P) .nil .nil) .nil) (.node (hp109 P) .nil .nil)) (.node (hp65 P) (.node (ob164 P) .nil .nil) (.node (hp130 P) .nil .nil))) (.node (hp39 P) (.node (hp7 P) (.node (hp8 P) (.node (ob276 P) .nil .nil) .nil) (.node (hp122 P) .nil .nil)) (.node (hp7 P) (.node (hp7 P) .nil .nil) (.node (ob244 P) .nil .nil)))) (.node (hp7 P) (.node (ob115 P) (.node (ob76 P) (.node (hp7 P) (.node (hp7 P) .nil .nil) .nil) (.node (hp114 P) .nil .nil)) (.node (hp70 P) (.node (ob172 P) .nil .nil) (.node (hp7 P) .nil .nil))) (.node (hp47 P) (.node (hp8 P) (.node (hp91 P) .nil .nil) (.node (hp8 P) .nil .nil)) (.node (hp8 P) (.node (hp8 P) .nil .nil) (.node (ob252 P) .nil .nil)))))) (.node (hp6 P) (.node (hp10 P) (.node (hp17 P) (.node (ob115 P) (.node (hp7 P) (.node (hp78 P) (.node (ob258 P) .nil .nil) .nil) (.node (hp108 P) .nil .nil)) (.node (hp64 P) (.node (hp7 P) .nil .nil) (.node (hp7 P) .nil .nil))) (.node (hp38 P) (.node (hp55 P) (.node (hp86 P) (.node (hp142 P) .nil .nil) .nil) (.node (hp7 P) .nil .nil)) (.node (ob114 P) (.node (hp99 P) .nil .nil) (.node (hp8 P) .nil .nil)))) (.node (hp25 P) (.node (hp36 P) (.node (hp52 P) (.node (ob138 P) (.node (hp8 P) .nil .nil) .nil) (.node (hp112 P) .nil .nil)) (.node (hp7 P) (.node (hp97 P) .nil .nil) (.node (ob234 P) .nil .nil))) (.node (hp7 P) (.node (hp60 P) (.node (hp90 P) .nil .nil) (.node (hp127 P) .nil .nil)) (.node (ob122 P) (.node (ob186 P) .nil .nil) (.node (hp135 P) .nil .nil))))) (.node (hp14 P) (.node (hp21 P) (.node (hp6 P) (.node (hp7 P) (.node (hp8 P) (.node (hp139 P) .nil .nil) .nil) (.node (hp8 P) .nil .nil)) (.node (hp67 P) (.node (hp7 P) .nil .nil) (.node (ob230 P) .nil .nil))) (.node (hp41 P) (.node (hp57 P) (.node (hp88 P) (.node (hp8 P) .nil .nil) .nil) (.node (hp7 P) .nil .nil)) (.node (hp73 P) (.node (hp104 P) .nil .nil) (.node (hp7 P) .nil .nil)))) (.node (hp28 P) (.node (ob46 P) (.node (hp8 P) (.node (hp83 P) (.node (ob270 P) .nil .nil) .nil) (.node (hp116 P) .nil .nil)) (.node (hp7 P) (.node (ob174 P) .nil .nil) (.node (hp132 P) .nil .nil))) (.node (ob115 P) (.node (hp62 P) (.node (hp93 P) .nil .nil) (.node (hp7 P) .nil .nil)) (.node (hp76 P) (.node (hp7 P) .nil .nil) (.node (hp8 P) .nil .nil))))))))
end Mine
end
section
/-! ## text HD4 -/
set_option maxRecDepth 100000
set_option maxHeartbeats 4000000
namespace Mine
noncomputable abbrev RL : OpenLaw := PySem.Challenge.rw_ux0029_01
noncomputable def vw : Program := view PW [0, 25]
noncomputable def loose : List Str := ["tspecials", "_name_disallowed_re", "_value_disallowed_re", "_formatparam", "Headers", "ELLIPSIS_MARKER", "_ellipsis_match", "_strip_exception_details", "Error", "error_reply", "parse257", "_law_numbers", "_law_rows", "_law_told", "_law_sum", "_law_fallen", "_law_choice", "_law_lit", "_law_shared", "_law_comes"]
theorem saidOk : OpenLaw.wellSaid RL = true := by
  unfold OpenLaw.wellSaid OpenRow.wellSaid OpenRow.partSaid looksOpen
  simp only [Bool.and_eq_true]
  repeat' apply And.intro
  all_goals decide +kernel
noncomputable def envT : Env := { scope := PW.main.scope, locals := mainNs, globals := mainNs, cells := [], code := .ref 30, frame := some 31 }
noncomputable abbrev annT : Option Value := some (.ref 6)
noncomputable abbrev posO : Pos := ⟨0, 0, 0, 0⟩
noncomputable def posT (i : Nat) : Pos := (topS i).pos
noncomputable abbrev bodyTop : List Stmt := behindTheImports PW
noncomputable abbrev codeT : Code := .body bodyTop envT
noncomputable abbrev topF : List Frame := [topFrame posO]
noncomputable def st1 : List Stmt := [topS 1, topS 2, topS 3, topS 4, topS 5]
noncomputable def st2 : List Stmt := [topS 6]
noncomputable def st3 : List Stmt := [topS 7, topS 8, topS 9, topS 10, topS 11, topS 12]
noncomputable def st4 : List Stmt := [topS 13, topS 14, topS 15, topS 16, topS 17, topS 18, topS 19, topS 20]
noncomputable def st5 : List Stmt := [topS 21, topS 22, topS 23, topS 24, topS 25]
theorem top_all : bodyTop = st1 ++ (st2 ++ (st3 ++ (st4 ++ (st5 ++ [])))) := by kernel_rfl
/-- the opening, on trees -/
noncomputable def impEndT (tb : String → Option Builtin) (p : Program) (w : World) (n : Nat) (s : SharedT) (t : Thread) : Option SharedT := match impGoT tb p w n s t with
  | some (s', t') => match t'.atExitBegin with
    | some [] => some s'
    | _ => none
  | none => none
theorem impEnd_of {tb : String → Option Builtin} {p : Program} {w : World} {n : Nat} {s s' : SharedT} {t : Thread} (h : impEndT tb p w n s t = some s') : importEnds tb p w (n + 1) s.abs t = some s'.abs := by
  unfold impEndT at h
  cases e : impGoT tb p w n s t with
  | none => rw [e] at h; cases h
  | some r =>
    obtain ⟨s2, t2⟩ := r
    rw [e] at h
    dsimp only at h
    refine imp_go (impGo_of e) ?_
    unfold importEnds
    cases q : t2.atExitBegin with
    | none => rw [q] at h; cases h
    | some l =>
      rw [q] at h
      cases l with
      | nil => cases h; rfl
      | cons a l => cases h
theorem top_imp (w : World) (os : OsState) : impEndT treeTable (opening PW) w 798 ⟨.nil, 0, {}, #[], {}, 1, os⟩ (start (opening PW)).2 = some ⟨treeE w.params, 28, {}, #[], {}, 276, os⟩ := by kernel_rfl
theorem top_fence (w : World) : (fun os => (fenceModules? PW ⟨absHeap (treeE w.params) 28 {}, #[], {}, 276, os⟩).map (fun s => (s.heap, s.gens, s.drawn, s.toks))) = fun _ => some (heapA w.params, #[], {}, 276) := by kernel_rfl
theorem top_size (w : World) : ((heapA w.params).isNs mainGlobals && (#[] : Array GenState).size == 0, (heapA w.params).objs.size, (heapA w.params).nsMap mainGlobals "__annotations__") = (true, 28, annT) := by kernel_rfl
theorem top_pre (w : World) (os : OsState) : topGo treeTable PW w 28 annT 12 ⟨heapA w.params, #[], {}, 276, os⟩ (topStub PW) = some (⟨heapC w.params, #[], {}, 282, os⟩, ⟨denote treeTable codeT, codeT, posO, topF⟩) := by kernel_rfl
theorem top_block (w : World) (os : OsState) : segRun treeTable PW w 28 annT 1 1 ⟨heapC w.params, #[], {}, 282, os⟩ (blockOf bodyTop envT codeT posO topF) = some (.next, (⟨treeC w.params, 32, {}, #[], {}, 282, os⟩ : SharedT).abs, codeT, posO) := by kernel_rfl
theorem top_1 (w : World) (os : OsState) : segRunT treeTable PW w 28 annT 1 266 ⟨treeC w.params, 32, {}, #[], {}, 282, os⟩ (piecesOf st1 envT codeT posO topF) = some (.next, ⟨treeF w.params, 55, {}, #[], {}, 388, os⟩, codeT, posT 5) := by kernel_rfl
theorem top_2 (w : World) (os : OsState) : segRunT treeTable PW w 28 annT 1 728 ⟨treeF w.params, 55, {}, #[], {}, 388, os⟩ (piecesOf st2 envT codeT (posT 5) topF) = some (.next, ⟨treeG w.params, 180, {}, #[], {}, 546, os⟩, codeT, posT 6) := by kernel_rfl
theorem top_3 (w : World) (os : OsState) : segRunT treeTable PW w 28 annT 1 290 ⟨treeG w.params, 180, {}, #[], {}, 546, os⟩ (piecesOf st3 envT codeT (posT 6) topF) = some (.next, ⟨treeH w.params, 207, {}, #[], {}, 594, os⟩, codeT, posT 12) := by kernel_rfl
theorem top_4 (w : World) (os : OsState) : segRunT treeTable PW w 28 annT 1 398 ⟨treeH w.params, 207, {}, #[], {}, 594, os⟩ (piecesOf st4 envT codeT (posT 12) topF) = some (.next, ⟨treeI w.params, 253, {}, #[], {}, 663, os⟩, codeT, posT 20) := by kernel_rfl
theorem top_5 (w : World) (os : OsState) : segRunT treeTable PW w 28 annT 1 144 ⟨treeI w.params, 253, {}, #[], {}, 663, os⟩ (piecesOf st5 envT codeT (posT 20) topF) = some (.next, ⟨treeB w.params, 282, {}, #[], {}, 702, os⟩, codeT, posT 25) := by kernel_rfl
theorem top_fin (w : World) (os : OsState) : topRun treeTable PW w 28 annT 2 (⟨treeB w.params, 282, {}, #[], {}, 702, os⟩ : SharedT).abs ⟨doneF .next, codeT, posT 25, topF⟩ = some ⟨heapB w.params, #[], {}, 702, os⟩ := by kernel_rfl
theorem top_looks (w : World) : (fun os => ((staticsOk (importedModules PW.main.body) (heapA w.params) (heapB w.params) && namesBound PW (heapB w.params) && gensDone ⟨heapB w.params, #[], {}, 702, os⟩ && laidKept (heapA w.params) (heapB w.params)),
        openSeen vw loose (importedModules PW.main.body) (fun s => xlAt vw [] s && recOk [] s) true ⟨heapB w.params, #[], {}, 702, os⟩, asF.map (heapB w.params).get?)) = fun _ => (true, openGood vw loose, (KF w.params).map fun p => some p.2) := by kernel_rfl
theorem top_open (w : World) : (fencedOpening treeTable PW w 3768).map (fun s => (s.heap, s.gens, s.drawn, s.toks)) = some (heapA w.params, #[], {}, 276) :=
  open_cut (M := 798 + 1) (He := fun P => absHeap (treeE P) 28 {}) (ge := #[]) (de := {}) (ke := 276) (fun w => by
    have h := impEnd_of (top_imp w (start (opening PW)).1.os)
    exact h) (by rfl) top_fence w
theorem top_run (w : World) (os : OsState) : topRun treeTable PW w 28 annT (12 + (1 + (266 + (728 + (290 + (398 + (144 + 2))))))) ⟨heapA w.params, #[], {}, 276, os⟩ (topStub PW) = some ⟨heapB w.params, #[], {}, 702, os⟩ := by
  have k5 := piece_app (segRun_of (top_5 w os)) (piece_nil (top_fin w os))
  have k4 := piece_app (segRun_of (top_4 w os)) k5
  have k3 := piece_app (segRun_of (top_3 w os)) k4
  have k2 := piece_app (segRun_of (top_2 w os)) k3
  have k1 := piece_app (segRun_of (top_1 w os)) k2
  rw [← top_all] at k1
  exact go_top (top_pre w os) (piece_block (top_block w os) k1)
theorem leftOk : LeftO PW vw loose (fun s => xlAt vw [] s && recOk [] s) (fun s => asF.map s.heap.get?) (fun w => (KF w.params).map fun p => some p.2) 3768 :=
  LeftO.of_pieces (H₀ := heapA) (H₁ := heapB) top_open top_size top_run (by decide +kernel) top_looks
end Mine
end
section
/-! ## text R1 -/
set_option maxRecDepth 100000
namespace Mine

/-! values, objects -/
inductive At where
  | none
  | bool (b : Bool)
  | int (i : Int)
  | str (x : Str)
  | obj (i : Nat)
  | ty (n : String)
  | ref (a : Nat)
  | bi (id : String)
inductive It where
  | at (a : At)
  | tup (l : List At)
inductive V where
  | it (x : It)
  | lst (l : List Int)
  | nod (a : Nat)
inductive Ob where
  | list (l : List It)
  | hdr (f : Option At)
inductive RV where
  | v (x : V)
  | new (l : List It)
noncomputable abbrev V.none : V := .it (.at .none)
noncomputable abbrev V.bool (b : Bool) : V := .it (.at (.bool b))
noncomputable abbrev V.int (i : Int) : V := .it (.at (.int i))
noncomputable abbrev V.str (x : Str) : V := .it (.at (.str x))
noncomputable abbrev V.obj (i : Nat) : V := .it (.at (.obj i))
noncomputable abbrev V.ref (a : Nat) : V := .it (.at (.ref a))
noncomputable abbrev V.ty (n : String) : V := .it (.at (.ty n))
noncomputable abbrev Al := List (Nat × Nat)
noncomputable abbrev Rho := List (Str × V)

inductive All2 {α β : Type} (R : α → β → Prop) : List α → List β → Prop
  | nil : All2 R [] []
  | cons {a b l m} : R a b → All2 R l m → All2 R (a :: l) (b :: m)
theorem All2.imp {α β : Type} {R S : α → β → Prop} (h : ∀ a b, R a b → S a b) : ∀ {l : List α} {m : List β}, All2 R l m → All2 S l m
  | _, _, .nil => .nil
  | _, _, .cons x y => .cons (h _ _ x) (y.imp h)
theorem All2.length {α β : Type} {R : α → β → Prop} : ∀ {l : List α} {m : List β}, All2 R l m → l.length = m.length
  | _, _, .nil => rfl
  | _, _, .cons _ y => by simp [y.length]
theorem All2.app {α β : Type} {R : α → β → Prop} : ∀ {l : List α} {m : List β} {l' : List α} {m' : List β}, All2 R l m → All2 R l' m' → All2 R (l ++ l') (m ++ m')
  | _, _, _, _, .nil, h => h
  | _, _, _, _, .cons x y, h => .cons x (y.app h)
theorem All2.get {α β : Type} {R : α → β → Prop} : ∀ {l : List α} {m : List β}, All2 R l m → ∀ {i : Nat} {b : β}, m[i]? = some b → ∃ a, l[i]? = some a ∧ R a b
  | _, _, .nil, i, b, e => by simp at e
  | a :: _, b :: _, .cons x y, 0, c, e => by simp at e; subst e; exact ⟨a, by simp, x⟩
  | _, _, .cons x y, i + 1, c, e => by simp at e; obtain ⟨a, h1, h2⟩ := y.get e; exact ⟨a, by simpa using h1, h2⟩
theorem All2.getL {α β : Type} {R : α → β → Prop} : ∀ {l : List α} {m : List β}, All2 R l m → ∀ {i : Nat} {a : α}, l[i]? = some a → ∃ b, m[i]? = some b ∧ R a b
  | _, _, .nil, i, b, e => by simp at e
  | a :: _, b :: _, .cons x y, 0, c, e => by simp at e; subst e; exact ⟨b, by simp, x⟩
  | _, _, .cons x y, i + 1, c, e => by simp at e; obtain ⟨a, h1, h2⟩ := y.getL e; exact ⟨a, by simpa using h1, h2⟩
theorem All2.set {α β : Type} {R : α → β → Prop} : ∀ {l : List α} {m : List β}, All2 R l m → ∀ {i : Nat} {a : α} {b : β}, l[i]? = some a → R a b → All2 R l (m.set i b)
  | _, _, .nil, i, a, b, e, r => by simp at e
  | a :: _, b :: _, .cons x y, 0, c, d, e, r => by simp at e; subst e; exact .cons r y
  | _, _, .cons x y, i + 1, c, d, e, r => by simp at e; exact .cons x (y.set e r)
theorem All2.setImp {α β : Type} {R S : α → β → Prop} : ∀ {l : List α} {m : List β}, All2 R l m → ∀ {i : Nat} {a : α} {b : β}, l[i]? = some a → S a b → (∀ j x y, j ≠ i → l[j]? = some x → m[j]? = some y → R x y → S x y) → All2 S l (m.set i b)
  | _, _, .nil, i, a, b, e, r, h => by simp at e
  | a :: _, b :: _, .cons x y, 0, c, d, e, r, h => by
    simp at e; subst e
    refine .cons r ?_
    exact impAt y fun j p q h1 h2 r => h (j + 1) p q (by omega) (by simpa using h1) (by simpa using h2) r
  | _, _, .cons x y, i + 1, c, d, e, r, h => by
    simp at e
    exact .cons (h 0 _ _ (by omega) (by simp) (by simp) x) (y.setImp e r fun j p q hj h1 h2 => h (j + 1) p q (by omega) (by simpa using h1) (by simpa using h2))
where
  impAt {α β : Type} {R S : α → β → Prop} : ∀ {l : List α} {m : List β}, All2 R l m → (∀ j x y, l[j]? = some x → m[j]? = some y → R x y → S x y) → All2 S l m
  | _, _, .nil, _ => .nil
  | _, _, .cons x y, h => .cons (h 0 _ _ (by simp) (by simp) x) (impAt y fun j p q h1 h2 => h (j + 1) p q (by simpa using h1) (by simpa using h2))

noncomputable def InX (α : Al) (b : Nat) : Prop := ∃ p ∈ α, b = p.1 ∨ b = p.2
noncomputable def AIs (α : Al) (v : Value) : At → Prop
  | .none => v = .none
  | .bool b => v = .bool b
  | .int i => ∃ t, v = .int i t
  | .str x => ∃ t, v = .str x t
  | .obj i => ∃ p, α[i]? = some p ∧ v = .ref p.1
  | .ty n => v = .type n
  | .ref a => v = .ref a
  | .bi id => v = .builtin id
noncomputable abbrev listObj (vs : List Value) (n : Nat) : Obj := { cls := .type "list", data := .seq vs.toArray n }
noncomputable abbrev tupObj (vs : List Value) (n : Nat) : Obj := { cls := .type "tuple", data := .seq vs.toArray n }
noncomputable def IIs (α : Al) (h : Heap) : Value → It → Prop
  | v, .at a => AIs α v a
  | v, .tup l => ∃ (a : Nat) (vs : List Value) (n : Nat), v = .ref a ∧ ¬ InX α a ∧ h.get? a = some (tupObj vs n) ∧ All2 (AIs α) vs l
noncomputable def VIs (α : Al) (h : Heap) : Value → V → Prop
  | v, .it x => IIs α h v x
  | v, .lst l => ∃ (a : Nat) (vs : List Value) (n : Nat), v = .ref a ∧ ¬ InX α a ∧ h.get? a = some (listObj vs n) ∧ All2 (fun v i => ∃ t, v = .int i t) vs l
  | v, .nod a => v = .ref a ∧ ¬ InX α a ∧ h.get? a = some emptyDict
noncomputable def hdrObj (d : Nat) : Obj := instObj 175 d
noncomputable def OIs (P : Params) (α : Al) (h : Heap) (p : Nat × Nat) : Ob → Prop
  | .list l => p.2 = p.1 ∧ ∃ vs n, h.get? p.1 = some (listObj vs n) ∧ All2 (IIs α h) vs l
  | .hdr f => p.2 ≠ p.1 ∧ h.get? p.1 = some (hdrObj p.2) ∧ match f with
    | none => h.get? p.2 = some (dictOf [] 0)
    | some x => ∃ v t n, h.get? p.2 = some (dictOf [⟨PyData.keyHash P "_headers", .str "_headers" t, v⟩] n) ∧ AIs α v x
structure Rel (P : Params) (B : Heap) (α : Al) (σ : List Ob) (h : Heap) : Prop where
  base : ∀ (b : Nat) o, B.get? b = some o → h.get? b = some o
  new : ∀ p ∈ α, B.get? p.1 = none ∧ B.get? p.2 = none
  obs : All2 (OIs P α h) α σ
  apart : ∀ (i j : Nat) (p q : Nat × Nat), α[i]? = some p → α[j]? = some q → i ≠ j → p.1 ≠ q.1 ∧ p.1 ≠ q.2 ∧ p.2 ≠ q.1 ∧ p.2 ≠ q.2

/-- one step of the world: objects outside α and W stay -/
noncomputable def Dom (h h' : Heap) : Prop := ∀ b : Nat, h'.get? b = none → h.get? b = none
theorem Dom.refl (h : Heap) : Dom h h := fun _ e => e
theorem Dom.trans {h h' h'' : Heap} (a : Dom h h') (b : Dom h' h'') : Dom h h'' := fun c e => a c (b c e)
theorem Dom.keeps {h h' : Heap} (k : ∀ (b : Nat) o, h.get? b = some o → h'.get? b = some o) : Dom h h' := fun b e => by
  cases q : h.get? b with
  | none => rfl
  | some o => rw [k b o q] at e; cases e
theorem Dom.none {h h' : Heap} (d : Dom h h') {b : Nat} (e : h'.get? b = Option.none) : h.get? b = Option.none := d b e
structure Post (P : Params) (B : Heap) (W : Nat → Prop) (α : Al) (s : Shared) (α' : Al) (σ' : List Ob) (s' : Shared) : Prop where
  like : ∃ h tk, s' = { s with heap := h, toks := tk }
  ext : ∃ more : Al, α' = α ++ more ∧ ∀ p ∈ more, s.heap.get? p.1 = none ∧ s.heap.get? p.2 = none
  frm : ∀ (b : Nat) o, s.heap.get? b = some o → ¬ InX α b → ¬ W b → s'.heap.get? b = some o
  grow : Dom s.heap s'.heap
  rel : Rel P B α' σ' s'.heap
noncomputable abbrev noW : Nat → Prop := fun _ => False

theorem InX.app {α m : Al} {b : Nat} (h : InX α b) : InX (α ++ m) b := let ⟨p, hp, e⟩ := h; ⟨p, List.mem_append_left _ hp, e⟩
theorem inX_of {α : Al} {i : Nat} {p : Nat × Nat} (h : α[i]? = some p) : InX α p.1 ∧ InX α p.2 :=
  ⟨⟨p, List.mem_of_getElem? h, .inl rfl⟩, ⟨p, List.mem_of_getElem? h, .inr rfl⟩⟩
theorem not_inX {α m : Al} {b : Nat} {H : Heap} {o : Obj} (h : ¬ InX α b) (hm : ∀ p ∈ m, H.get? p.1 = none ∧ H.get? p.2 = none) (hb : H.get? b = some o) : ¬ InX (α ++ m) b := by
  rintro ⟨p, hp, e⟩
  rcases List.mem_append.mp hp with hp | hp
  · exact h ⟨p, hp, e⟩
  · have := hm p hp
    rcases e with e | e <;> subst e
    · rw [this.1] at hb; cases hb
    · rw [this.2] at hb; cases hb
theorem AIs.app {α m : Al} {v : Value} {x : At} (h : AIs α v x) : AIs (α ++ m) v x := by
  cases x <;> try exact h
  obtain ⟨p, e, r⟩ := h
  exact ⟨p, by rw [List.getElem?_append_left]; exact e; exact (List.getElem?_eq_some_iff.mp e).1, r⟩
theorem Rel.inX_some {P : Params} {B : Heap} {α : Al} {σ : List Ob} {h : Heap} (R : Rel P B α σ h) {b : Nat} (hb : InX α b) : ∃ o, h.get? b = some o ∧ ((∃ vs n, o = listObj vs n) ∨ (∃ d, o = hdrObj d) ∨ ∃ es n, o = dictOf es n) := by
  obtain ⟨p, hp, e⟩ := hb
  obtain ⟨i, hi⟩ := List.getElem?_of_mem hp
  obtain ⟨ob, _, ho⟩ := R.obs.getL hi
  cases ob with
  | list l =>
    obtain ⟨e2, vs, n, hg, _⟩ := ho
    refine ⟨listObj vs n, ?_, .inl ⟨_, _, rfl⟩⟩
    rcases e with e | e
    · rw [e]; exact hg
    · rw [e, e2]; exact hg
  | hdr f =>
    obtain ⟨_, hg, hf⟩ := ho
    rcases e with e | e
    · exact ⟨hdrObj p.2, by rw [e]; exact hg, .inr (.inl ⟨_, rfl⟩)⟩
    · subst e
      cases f with
      | none => exact ⟨_, hf, .inr (.inr ⟨_, _, rfl⟩)⟩
      | some x => obtain ⟨v, t, n, hf, _⟩ := hf; exact ⟨_, hf, .inr (.inr ⟨_, _, rfl⟩)⟩
theorem Rel.lt {P : Params} {B : Heap} {α : Al} {σ : List Ob} {h : Heap} (R : Rel P B α σ h) {b : Nat} (hb : InX α b) : b < h.objs.size := by
  obtain ⟨o, e, _⟩ := R.inX_some hb; exact Heap.lt_size e
theorem IIs.mono {α m : Al} {h h' : Heap} {v : Value} {x : It} (H : IIs α h v x) (hm : ∀ p ∈ m, h.get? p.1 = none ∧ h.get? p.2 = none)
    (k : ∀ (b : Nat) vs n, h.get? b = some (tupObj vs n) → ¬ InX α b → h'.get? b = some (tupObj vs n)) : IIs (α ++ m) h' v x := by
  cases x with
  | «at» a => exact AIs.app (show AIs α v a from H)
  | tup l =>
    obtain ⟨a, vs, n, e, nx, g, r⟩ := H
    exact ⟨a, vs, n, e, not_inX nx hm g, k _ _ _ g nx, r.imp fun _ _ z => z.app⟩
theorem IIs.keep {α : Al} {h h' : Heap} {v : Value} {x : It} (H : IIs α h v x)
    (k : ∀ (b : Nat) vs n, h.get? b = some (tupObj vs n) → ¬ InX α b → h'.get? b = some (tupObj vs n)) : IIs α h' v x := by
  have := H.mono (m := []) (fun _ h => nomatch h) k
  rwa [List.append_nil] at this
theorem VIs.mono {α m : Al} {h h' : Heap} {v : Value} {x : V} (H : VIs α h v x) (hm : ∀ p ∈ m, h.get? p.1 = none ∧ h.get? p.2 = none)
    (k : ∀ (b : Nat) o, h.get? b = some o → ¬ InX α b → ((∃ its n, o.data = .seq its n) ∨ (x = .nod b)) → h'.get? b = some o) : VIs (α ++ m) h' v x := by
  cases x with
  | it x => exact IIs.mono (show IIs α h v x from H) hm fun b vs n e q => k b _ e q (.inl ⟨_, _, rfl⟩)
  | lst l =>
    obtain ⟨a, vs, n, e, nx, g, r⟩ := H
    exact ⟨a, vs, n, e, not_inX nx hm g, k _ _ g nx (.inl ⟨_, _, rfl⟩), r⟩
  | nod a =>
    obtain ⟨e, nx, g⟩ := H
    exact ⟨e, not_inX nx hm g, k _ _ g nx (.inr rfl)⟩
theorem VIs.keep {α : Al} {h h' : Heap} {v : Value} {x : V} (H : VIs α h v x)
    (k : ∀ (b : Nat) o, h.get? b = some o → ¬ InX α b → ((∃ its n, o.data = .seq its n) ∨ (x = .nod b)) → h'.get? b = some o) : VIs α h' v x := by
  have := H.mono (m := []) (fun _ h => nomatch h) k
  rwa [List.append_nil] at this
section
variable {P : Params} {B : Heap} {W W' : Nat → Prop} {α α' α'' : Al} {σ σ' σ'' : List Ob} {s s' s'' : Shared}
theorem Post.refl (R : Rel P B α σ s.heap) : Post P B W α s α σ s :=
  ⟨⟨_, _, rfl⟩, ⟨[], by simp, fun _ h => nomatch h⟩, fun _ _ e _ _ => e, Dom.refl _, R⟩
theorem Post.trans (a : Post P B W α s α' σ' s') (b : Post P B W α' s' α'' σ'' s'') : Post P B W α s α'' σ'' s'' := by
  obtain ⟨⟨h1, t1, rfl⟩, ⟨m1, rfl, n1⟩, f1, g1, r1⟩ := a
  obtain ⟨⟨h2, t2, rfl⟩, ⟨m2, rfl, n2⟩, f2, g2, r2⟩ := b
  refine ⟨⟨h2, t2, rfl⟩, ⟨m1 ++ m2, by simp, fun p hp => ?_⟩, fun b o e n w => f2 b o (f1 b o e n w) (not_inX n n1 e) w, g1.trans g2, r2⟩
  rcases List.mem_append.mp hp with hp | hp
  · exact n1 p hp
  · have := n2 p hp; exact ⟨g1 _ this.1, g1 _ this.2⟩
theorem Post.weak (a : Post P B W α s α' σ' s') (h : ∀ b, W b → W' b) : Post P B W' α s α' σ' s' :=
  ⟨a.like, a.ext, fun b o e n w => a.frm b o e n fun q => w (h b q), a.grow, a.rel⟩
theorem Post.vis (a : Post P B W α s α' σ' s') {v : Value} {x : V} (H : VIs α s.heap v x) (hw : ∀ (b : Nat) o, W b → s.heap.get? b = some o → ((∃ its n, o.data = .seq its n) ∨ (x = .nod b)) → False) : VIs α' s'.heap v x := by
  obtain ⟨m, rfl, hm⟩ := a.ext
  exact H.mono hm fun b o e n k => a.frm b o e n fun w => hw b o w e k
theorem Post.vis0 (a : Post P B noW α s α' σ' s') {v : Value} {x : V} (H : VIs α s.heap v x) : VIs α' s'.heap v x := a.vis H fun _ _ w => w.elim
theorem Post.iis (a : Post P B W α s α' σ' s') {v : Value} {x : It} (H : IIs α s.heap v x) (hw : ∀ (b : Nat) vs n, W b → s.heap.get? b = some (tupObj vs n) → False) : IIs α' s'.heap v x := by
  obtain ⟨m, rfl, hm⟩ := a.ext
  exact H.mono hm fun b vs n e q => a.frm b _ e q fun w => hw b _ _ w e
theorem Post.ais (a : Post P B W α s α' σ' s') {v : Value} {x : At} (H : AIs α v x) : AIs α' v x := by
  obtain ⟨m, rfl, hm⟩ := a.ext
  exact H.app
theorem Post.keepOld (a : Post P B W α s α' σ' s') {b : Nat} {o : Obj} (e : s.heap.get? b = some o) (n : ¬ InX α b) (w : ¬ W b) : s'.heap.get? b = some o := a.frm b o e n w
end
noncomputable def RIs (H : Heap) (α : Al) (h : Heap) (v : Value) : RV → Prop
  | .v x => VIs α h v x
  | .new l => ∃ (a : Nat) (vs : List Value) (k : Nat), v = .ref a ∧ H.get? a = none ∧ ¬ InX α a ∧ h.get? a = some (listObj vs k) ∧ All2 (IIs α h) vs l
end Mine
end
section
/-! ## text R2 -/
set_option maxRecDepth 100000
set_option maxHeartbeats 8000000
namespace Mine
noncomputable abbrev Mo (w : World) : Model := model PW w

noncomputable def entsOf : Obj → Array DictEntry
  | ⟨_, _, .dict es _, _⟩ => es
  | _ => #[]
noncomputable def gEnt (P : Params) : Array DictEntry := entsOf (ob3 P)
structure Bs (w : World) (B : Heap) : Prop where
  kin : (KF w.params).In B
  blt : ∃ mb, B.Ns builtinsNs mb ∧ ∀ x : Str, x ≠ "__name__" → mb x = bootBuiltins x
  lim : B.NoLimit
  size : B.objs.size = 282
theorem gEnt_keys (P : Params) : StrKeys (gEnt P) := by
  have h : (gEnt P).toList.all (fun e => match e.key with | .str _ _ => true | _ => false) = true := by kernel_rfl
  intro e he
  have := List.all_eq_true.mp h e (Array.mem_toList_iff.mpr he)
  cases hk : e.key <;> rw [hk] at this <;> first | exact ⟨_, _, rfl⟩ | cases this
theorem Bs.ns {w : World} {B : Heap} (b : Bs w B) : B.Ns mainGlobals (nsFind (gEnt w.params)) :=
  ⟨ob3 w.params, gEnt w.params, _, b.kin _ _ (by kernel_rfl), rfl, gEnt_keys _, fun _ => rfl⟩

noncomputable def gtab : List (Str × At) := [("_name_disallowed_re", .ref 41), ("_value_disallowed_re", .ref 46), ("Headers", .ref 175), ("ELLIPSIS_MARKER", .str "..."),
  ("_ellipsis_match", .ref 186), ("_strip_exception_details", .ref 193), ("parse257", .ref 225), ("_law_numbers", .ref 230), ("_law_rows", .ref 235), ("_law_told", .ref 240),
  ("_law_sum", .ref 245), ("_law_fallen", .ref 252), ("_law_choice", .ref 259), ("_law_lit", .ref 264), ("_law_shared", .ref 271), ("_law_comes", .ref 276)]
noncomputable def btab : List (Str × At) := [("len", .bi "len"), ("min", .bi "min"), ("abs", .bi "abs"), ("sum", .bi "sum"), ("range", .ty "range"), ("type", .ty "type"), ("list", .ty "list"), ("str", .ty "str")]

theorem gtab_ok (P : Params) : ∀ x a, (x, a) ∈ gtab → ∃ v, nsFind (gEnt P) x = some v ∧ AIs [] v a := by
  unfold gtab
  simp only [List.mem_cons, List.not_mem_nil, or_false, Prod.mk.injEq]
  rintro x a (⟨rfl, rfl⟩ | ⟨rfl, rfl⟩ | ⟨rfl, rfl⟩ | ⟨rfl, rfl⟩ | ⟨rfl, rfl⟩ | ⟨rfl, rfl⟩ | ⟨rfl, rfl⟩ | ⟨rfl, rfl⟩ | ⟨rfl, rfl⟩ | ⟨rfl, rfl⟩ | ⟨rfl, rfl⟩ | ⟨rfl, rfl⟩ | ⟨rfl, rfl⟩ | ⟨rfl, rfl⟩ | ⟨rfl, rfl⟩ | ⟨rfl, rfl⟩)
  · exact ⟨.ref 41, by kernel_rfl, rfl⟩
  · exact ⟨.ref 46, by kernel_rfl, rfl⟩
  · exact ⟨.ref 175, by kernel_rfl, rfl⟩
  · exact ⟨.str "..." 548, by kernel_rfl, _, rfl⟩
  · exact ⟨.ref 186, by kernel_rfl, rfl⟩
  · exact ⟨.ref 193, by kernel_rfl, rfl⟩
  · exact ⟨.ref 225, by kernel_rfl, rfl⟩
  · exact ⟨.ref 230, by kernel_rfl, rfl⟩
  · exact ⟨.ref 235, by kernel_rfl, rfl⟩
  · exact ⟨.ref 240, by kernel_rfl, rfl⟩
  · exact ⟨.ref 245, by kernel_rfl, rfl⟩
  · exact ⟨.ref 252, by kernel_rfl, rfl⟩
  · exact ⟨.ref 259, by kernel_rfl, rfl⟩
  · exact ⟨.ref 264, by kernel_rfl, rfl⟩
  · exact ⟨.ref 271, by kernel_rfl, rfl⟩
  · exact ⟨.ref 276, by kernel_rfl, rfl⟩
theorem btab_ok (P : Params) : ∀ x a, (x, a) ∈ btab → nsFind (gEnt P) x = none ∧ x ≠ "__name__" ∧ ∃ v, bootBuiltins x = some v ∧ AIs [] v a := by
  unfold btab
  simp only [List.mem_cons, List.not_mem_nil, or_false, Prod.mk.injEq]
  rintro x a (⟨rfl, rfl⟩ | ⟨rfl, rfl⟩ | ⟨rfl, rfl⟩ | ⟨rfl, rfl⟩ | ⟨rfl, rfl⟩ | ⟨rfl, rfl⟩ | ⟨rfl, rfl⟩ | ⟨rfl, rfl⟩)
  · exact ⟨by kernel_rfl, by decide, .builtin "len", by kernel_rfl, rfl⟩
  · exact ⟨by kernel_rfl, by decide, .builtin "min", by kernel_rfl, rfl⟩
  · exact ⟨by kernel_rfl, by decide, .builtin "abs", by kernel_rfl, rfl⟩
  · exact ⟨by kernel_rfl, by decide, .builtin "sum", by kernel_rfl, rfl⟩
  · exact ⟨by kernel_rfl, by decide, .type "range", by kernel_rfl, rfl⟩
  · exact ⟨by kernel_rfl, by decide, .type "type", by kernel_rfl, rfl⟩
  · exact ⟨by kernel_rfl, by decide, .type "list", by kernel_rfl, rfl⟩
  · exact ⟨by kernel_rfl, by decide, .type "str", by kernel_rfl, rfl⟩
noncomputable def gval (x : Str) : Option At := (gtab.lookup x).or (btab.lookup x)

noncomputable abbrev Nm := List (Str × NameKind)
structure FR (B : Heap) (nm : Nm) (α : Al) (ρ : Rho) (env : Env) (h : Heap) : Prop where
  fkind : env.scope.kind = .function
  glob : env.globals = mainGlobals
  blt : env.builtins = builtinsNs
  kinds : ∀ x k, nm.lookup x = some k → env.kindOf x = some k ∨ (k = .free ∧ env.kindOf x = some .cell)
  fr : ∃ m, Fr B env.locals h m ∧ ∀ x X, ρ.lookup x = some X → env.kindOf x = some .local → ∃ v, m x = some v ∧ VIs α h v X
  cells : ∀ x X, ρ.lookup x = some X → (env.kindOf x = some .cell ∨ env.kindOf x = some .free) → ∃ c v, env.cells.lookup x = some c ∧ h.IsCell c (some v) ∧ VIs α h v X
  off : ¬ InX α env.locals
  nods : ∀ x a, ρ.lookup x = some (.nod a) → a ≠ env.locals
/-- a def's own frame: it may store -/
structure FW (B : Heap) (nm : Nm) (α : Al) (ρ : Rho) (env : Env) (h : Heap) : Prop extends FR B nm α ρ env h where
  cellOk : ∀ x, env.kindOf x = some .cell → ∃ c v, env.cells.lookup x = some c ∧ h.IsCell c v ∧ B.get? c = none
  cap : env.cells.Pairwise fun x y => x.2 ≠ y.2
noncomputable def ownW (env : Env) : Nat → Prop := fun b => b = env.locals ∨ ∃ x, env.kindOf x = some .cell ∧ env.cells.lookup x = some b


section
variable {w : World} {A : Around} {E : Value → Shared → Prop} {B : Heap} {nm : Nm} {α α' α₀ : Al} {ρ : Rho} {env : Env} {s s' s₀ : Shared} {σ σ' : List Ob} {P : Params} {W : Nat → Prop}
theorem Rel.notCell (R : Rel P B α σ s.heap) {c : Nat} {v : Option Value} (h : s.heap.IsCell c v) : ¬ InX α c := by
  intro q
  obtain ⟨o, ho, hd⟩ := h
  obtain ⟨o', ho', k⟩ := R.inX_some q
  rw [ho] at ho'
  cases ho'
  rcases k with ⟨vs, n, rfl⟩ | ⟨d, rfl⟩ | ⟨es, n, rfl⟩ <;> cases hd
theorem Rel.notTup (R : Rel P B α σ s.heap) {c : Nat} {vs : List Value} {n : Nat} (h : s.heap.get? c = some (tupObj vs n)) : ¬ InX α c := by
  intro q
  obtain ⟨o', ho', k⟩ := R.inX_some q
  rw [h] at ho'
  have e := Option.some.inj ho'
  subst e
  rcases k with ⟨vs, n, e⟩ | ⟨d, e⟩ | ⟨es, n, e⟩ <;> (have q := congrArg Obj.cls e; simp [hdrObj, dictOf] at q)
theorem FR.post (F : FR B nm α ρ env s.heap) (R : Rel P B α σ s.heap) (a : Post P B noW α s α' σ' s') : FR B nm α' ρ env s'.heap := by
  obtain ⟨mo, rfl, hm⟩ := a.ext
  obtain ⟨m, hF, hv⟩ := F.fr
  have keep : ∀ (b : Nat) o, s.heap.get? b = some o → ¬ InX α b → s'.heap.get? b = some o := fun b o e n => a.frm b o e n id
  refine ⟨F.fkind, F.glob, F.blt, F.kinds, ⟨m, ⟨hF.ns.at' fun o e => keep _ o e F.off, a.rel.base, hF.above⟩, fun x X h1 h2 => ?_⟩, fun x X h1 h2 => ?_, (let ⟨o, es, ep, g, _⟩ := hF.ns; not_inX F.off hm g), F.nods⟩
  · obtain ⟨v, e, r⟩ := hv x X h1 h2
    exact ⟨v, e, a.vis0 r⟩
  · obtain ⟨c, v, e, ⟨o, ho, hd⟩, r⟩ := F.cells x X h1 h2
    exact ⟨c, v, e, ⟨o, keep _ _ ho (R.notCell ⟨o, ho, hd⟩), hd⟩, a.vis0 r⟩
theorem FW.post (F : FW B nm α ρ env s.heap) (R : Rel P B α σ s.heap) (a : Post P B noW α s α' σ' s') : FW B nm α' ρ env s'.heap :=
  ⟨F.toFR.post R a, fun x hx => by
    obtain ⟨c, v, e, ⟨o, ho, hd⟩, b⟩ := F.cellOk x hx
    exact ⟨c, v, e, ⟨o, a.frm _ _ ho (R.notCell ⟨o, ho, hd⟩) id, hd⟩, b⟩, F.cap⟩
theorem RIs.post {H₀ : Heap} {v : Value} {r : RV} (H : RIs H₀ α s.heap v r) (a : Post P B noW α s α' σ' s') : RIs H₀ α' s'.heap v r := by
  cases r with
  | v x => exact a.vis0 H
  | new l =>
    obtain ⟨b, vs, k, e, hn, nx, g, r⟩ := H
    obtain ⟨mo, rfl, hm⟩ := a.ext
    exact ⟨b, vs, k, e, hn, not_inX nx hm g, a.frm _ _ g nx id, r.imp fun _ _ z => a.iis z fun _ _ _ w => w.elim⟩
theorem RIs.weak {H₀ H₁ : Heap} {v : Value} {r : RV} {h : Heap} (H : RIs H₀ α h v r) (hm : Dom H₁ H₀) : RIs H₁ α h v r := by
  cases r with
  | v x => exact H
  | new l => obtain ⟨b, vs, k, e, hn, r⟩ := H; exact ⟨b, vs, k, e, hm _ hn, r⟩

structure Room (n : Nat) (A : Around) : Prop where
  hh : A.handled = none
  depth : A.depth + n < recursionLimit
  units : A.units + 16 * n < cLine
theorem Room.le {n m : Nat} (h : Room n A) (hm : m ≤ n) : Room m A := ⟨h.hh, by have := h.depth; omega, by have := h.units; omega⟩

noncomputable def isLoc : Option NameKind → Bool
  | some .local => true
  | some .cell => true
  | some .free => true
  | _ => false
theorem ev_name {x : Str} {pos : Pos} {X : V} {Q : Value → Shared → Prop} (F : FR B nm α ρ env s.heap) (hk : isLoc (nm.lookup x) = true) (hv : ρ.lookup x = some X)
    (hd : (x == ("__debug__" : Str)) = false) (hd' : (x == ("__classdict__" : Str)) = false) (h : ∀ v, VIs α s.heap v X → Q v s) : wpAny (Mo w) A (eval (.Name x pos) env) Q E s := by
  refine wpAny_Name ?_ hd
  have key : env.kindOf x = some .local ∨ env.kindOf x = some .cell ∨ env.kindOf x = some .free := by
    cases hn : nm.lookup x with
    | none => rw [hn] at hk; cases hk
    | some k =>
      rcases F.kinds x k hn with e | ⟨e, e'⟩
      · rw [hn] at hk
        cases k <;> first | (cases hk; done) | exact .inl e | exact .inr (.inl e) | exact .inr (.inr e)
      · exact .inr (.inl e')
  rcases key with e | e | e
  · obtain ⟨m, hF, hm⟩ := F.fr
    obtain ⟨v, e1, r⟩ := hm x X hv e
    exact wpAny_loadName_local F.fkind e hF.ns e1 (h v r)
  · obtain ⟨c, v, e1, e2, r⟩ := F.cells x X hv (.inl e)
    exact wpAny_loadName_cell F.fkind e e1 e2 (h v r)
  · obtain ⟨c, v, e1, e2, r⟩ := F.cells x X hv (.inr e)
    exact wpAny_loadName_free F.fkind e e1 e2 (h v r) hd'
theorem mem_of_lookup' {β : Type} : ∀ {l : List (Str × β)} {n : Str} {c : β}, l.lookup n = some c → (n, c) ∈ l := fun h => mem_of_lookup h
theorem AIs.nil {v : Value} {a : At} (h : AIs [] v a) : AIs α v a := by
  have := AIs.app (m := α) h
  simpa using this
theorem ev_glob {x : Str} {pos : Pos} {a : At} {Q : Value → Shared → Prop} (b : Bs w B) (F : FR B nm α ρ env s.heap) (hk : nm.lookup x = some .globalImplicit) (hv : gval x = some a)
    (hd : (x == ("__debug__" : Str)) = false) (h : ∀ v, AIs α v a → Q v s) : wpAny (Mo w) A (eval (.Name x pos) env) Q E s := by
  have e : env.kindOf x = some .globalImplicit := by
    rcases F.kinds x _ hk with e | ⟨e, _⟩
    · exact e
    · cases e
  obtain ⟨m, hF, _⟩ := F.fr
  have hg : s.heap.Ns env.globals (nsFind (gEnt w.params)) := by rw [F.glob]; exact b.ns.keeps hF.keep
  refine Name_function_global F.fkind e ?_ hd
  unfold gval at hv
  cases h1 : gtab.lookup x with
  | some a' =>
    rw [h1] at hv
    cases hv
    obtain ⟨v, e1, e2⟩ := gtab_ok w.params x a (mem_of_lookup h1)
    exact loadGlobal_global hg e1 (h v e2.nil)
  | none =>
    rw [h1] at hv
    obtain ⟨e0, e1, v, e2, e3⟩ := btab_ok w.params x a (mem_of_lookup hv)
    obtain ⟨mb, hb, hb'⟩ := b.blt
    exact loadGlobal_builtin hg e0 (by rw [F.blt]; exact hb.keeps hF.keep) ((hb' x e1).trans e2) (h v e3.nil)

noncomputable def matI : RV → List Ob → V × List Ob
  | .v x, σ => (x, σ)
  | .new l, σ => (.obj σ.length, σ ++ [.list l])
theorem IIs.addX {v : Value} {x : It} {h : Heap} {a : Nat} {vs : List Value} {k : Nat} (H : IIs α h v x) (g : h.get? a = some (listObj vs k)) : IIs (α ++ [(a, a)]) h v x := by
  cases x with
  | «at» y => exact AIs.app (show AIs α v y from H)
  | tup l =>
    obtain ⟨b, ws, n, e, nx, g', r⟩ := H
    refine ⟨b, ws, n, e, ?_, g', r.imp fun _ _ z => z.app⟩
    rintro ⟨p, hp, q⟩
    rcases List.mem_append.mp hp with hp | hp
    · exact nx ⟨p, hp, q⟩
    · rw [List.mem_singleton.mp hp] at q
      have : b = a := by rcases q with q | q <;> exact q
      subst this
      rw [g] at g'
      have q := congrArg Obj.cls (Option.some.inj g')
      simp at q
theorem OIs.addX {p : Nat × Nat} {ob : Ob} {h : Heap} {a : Nat} {vs : List Value} {k : Nat} (H : OIs P α h p ob) (g : h.get? a = some (listObj vs k)) : OIs P (α ++ [(a, a)]) h p ob := by
  cases ob with
  | list l => obtain ⟨e, ws, n, g', r⟩ := H; exact ⟨e, ws, n, g', r.imp fun _ _ z => z.addX g⟩
  | hdr f =>
    obtain ⟨e1, e2, e3⟩ := H
    refine ⟨e1, e2, ?_⟩
    cases f with
    | none => exact e3
    | some x => obtain ⟨v, t, n, e3, r⟩ := e3; exact ⟨v, t, n, e3, r.app⟩
theorem mat_okX {v : Value} {r : RV} (p : Post P B W α₀ s₀ α σ s) (hb : ∀ (b : Nat) o, B.get? b = some o → s₀.heap.get? b = some o) (H : RIs s₀.heap α s.heap v r) :
    ∃ α', Post P B W α₀ s₀ α' (matI r σ).2 s ∧ VIs α' s.heap v (matI r σ).1 ∧ ∀ b, InX α' b → InX α b ∨ v = .ref b := by
  have len : α.length = σ.length := p.rel.obs.length
  cases r with
  | v x => exact ⟨α, p, H, fun _ h => .inl h⟩
  | new l =>
    obtain ⟨a, vs, k, e, hn, nx, g, r⟩ := H
    obtain ⟨mo, rfl, hm⟩ := p.ext
    have hBa : B.get? a = none := by
      cases q : B.get? a with
      | none => rfl
      | some o => have := hb a o q; rw [hn] at this; cases this
    refine ⟨(α₀ ++ mo) ++ [(a, a)], ⟨p.like, ⟨mo ++ [(a, a)], by simp, fun q hq => ?_⟩, p.frm, p.grow, ⟨p.rel.base, fun q hq => ?_, ?_, fun i j q q' hi hj hij => ?_⟩⟩, ⟨(a, a), ?_, e⟩, fun b hb => ?_⟩
    · rcases List.mem_append.mp hq with hq | hq
      · exact hm q hq
      · rw [List.mem_singleton.mp hq]; exact ⟨hn, hn⟩
    · rcases List.mem_append.mp hq with hq | hq
      · exact p.rel.new q hq
      · rw [List.mem_singleton.mp hq]; exact ⟨hBa, hBa⟩
    · exact (p.rel.obs.imp fun _ _ z => z.addX g).app (.cons ⟨rfl, vs, k, g, r.imp fun _ _ z => z.addX g⟩ .nil)
    · have old : ∀ {i : Nat} {q : Nat × Nat}, ((α₀ ++ mo) ++ [(a, a)])[i]? = some q → (α₀ ++ mo)[i]? = some q ∨ (i = (α₀ ++ mo).length ∧ q = (a, a)) := by
        intro i q h
        rcases Nat.lt_or_ge i (α₀ ++ mo).length with hlt | hge
        · exact .inl (by rwa [List.getElem?_append_left hlt] at h)
        · rw [List.getElem?_append_right hge] at h
          cases hz : i - (α₀ ++ mo).length with
          | zero => rw [hz] at h; simp at h; exact .inr ⟨by omega, h.symm⟩
          | succ z => rw [hz] at h; simp at h
      have ne : ∀ {i : Nat} {q : Nat × Nat}, (α₀ ++ mo)[i]? = some q → q.1 ≠ a ∧ q.2 ≠ a := fun h =>
        ⟨fun z => nx (z ▸ (inX_of h).1), fun z => nx (z ▸ (inX_of h).2)⟩
      rcases old hi with hi | ⟨hi, rfl⟩ <;> rcases old hj with hj | ⟨hj, rfl⟩
      · exact p.rel.apart i j q q' hi hj hij
      · exact ⟨(ne hi).1, (ne hi).1, (ne hi).2, (ne hi).2⟩
      · exact ⟨Ne.symm (ne hj).1, Ne.symm (ne hj).2, Ne.symm (ne hj).1, Ne.symm (ne hj).2⟩
      · omega
    · rw [List.getElem?_append_right (by rw [len]; exact Nat.le_refl _)]
      rw [len]; simp
    · obtain ⟨q, hq, he⟩ := hb
      rcases List.mem_append.mp hq with hq | hq
      · exact .inl ⟨q, hq, he⟩
      · rw [List.mem_singleton.mp hq] at he
        refine .inr (e.trans ?_)
        rcases he with he | he <;> rw [he]
theorem mat_ok {v : Value} {r : RV} (p : Post P B W α₀ s₀ α σ s) (hb : ∀ (b : Nat) o, B.get? b = some o → s₀.heap.get? b = some o) (H : RIs s₀.heap α s.heap v r) :
    ∃ α', Post P B W α₀ s₀ α' (matI r σ).2 s ∧ VIs α' s.heap v (matI r σ).1 := let ⟨a, b, c, _⟩ := mat_okX p hb H; ⟨a, b, c⟩
end
end Mine
end
section
/-! ## text R3 -/
set_option maxRecDepth 100000
set_option maxHeartbeats 8000000
namespace Mine
/-! operations on atoms -/
noncomputable def binI (op : Operator) (a b : At) : Option At := match op, a, b with
  | .Add, .int a, .int b => some (.int (a + b))
  | .Sub, .int a, .int b => some (.int (a - b))
  | .FloorDiv, .int a, .int b => if b = 0 ∨ Builtin.divisionGoesByPylong a b = true then none else some (.int (a.fdiv b))
  | .Mod, .int a, .int b => if b = 0 then none else some (.int (a.fmod b))
  | .Pow, .int a, .int b => if 0 ≤ b ∧ b ≤ 1000000 ∧ a.natAbs < 2 ^ 64 then some (.int (a ^ b.toNat)) else none
  | .Add, .str x, .str y => if x.length + y.length ≤ sizeLine then some (.str (x ++ y)) else none
  | .Mult, .str x, .int n => if x.length ≤ 16 ∧ -1000 ≤ n ∧ n ≤ 1048576 then some (.str (Txt.mul x n)) else none
  | _, _, _ => none
noncomputable def isIn (x y : Str) : Bool := !(Builtin.Str.occurrences x y 0 x.length 1).isEmpty
noncomputable def cmpI (op : CmpOp) (a b : At) : Option Bool := match op, a, b with
  | .Eq, .int a, .int b => some (a == b)
  | .NotEq, .int a, .int b => some (a != b)
  | .Lt, .int a, .int b => some (decide (a < b))
  | .Gt, .int a, .int b => some (decide (b < a))
  | .LtE, .int a, .int b => some (decide (a ≤ b))
  | .GtE, .int a, .int b => some (decide (b ≤ a))
  | .Eq, .str a, .str b => some (a == b)
  | .NotEq, .str a, .str b => some (a != b)
  | .NotEq, .bool a, .bool b => some (a != b)
  | .In, .str y, .str x => some (isIn x y)
  | .NotIn, .str y, .str x => some (!isIn x y)
  | .Is, .bool a, .bool b => some (a == b)
  | .IsNot, .bool a, .bool b => some (a != b)
  | .Is, .none, .none => some true
  | .IsNot, .none, .none => some false
  | .Is, .str _, .none => some false
  | .IsNot, .str _, .none => some true
  | .Is, .obj _, .none => some false
  | .IsNot, .obj _, .none => some true
  | .Is, .ty a, .ty b => some (a == b)
  | .IsNot, .ty a, .ty b => some (a != b)
  | _, _, _ => none
section
variable {w : World} {A : Around} {E : Value → Shared → Prop} {α : Al} {s : Shared}
theorem bin_ok {op : Operator} {a b r : At} {u v : Value} {Q : Value → Shared → Prop} (e : binI op a b = some r) (hu : AIs α u a) (hv : AIs α v b)
    (h : ∀ z k, AIs α z r → Q z { s with toks := k }) : wpAny (Mo w) A (binaryOp op u v) Q E s := by
  unfold binI at e
  split at e
  · cases e; obtain ⟨t, rfl⟩ := hu; obtain ⟨t', rfl⟩ := hv; exact PyProof.Rows.add_int (h _ _ ⟨_, rfl⟩)
  · cases e; obtain ⟨t, rfl⟩ := hu; obtain ⟨t', rfl⟩ := hv; exact PyProof.Rows.sub_int (h _ _ ⟨_, rfl⟩)
  · split at e
    · cases e
    · rename_i hb
      cases e; obtain ⟨t, rfl⟩ := hu; obtain ⟨t', rfl⟩ := hv; exact PyProof.Rows.floordiv_int (fun z => hb (.inl z)) (h _ _ ⟨_, rfl⟩) (.inl (Bool.eq_false_iff.mpr fun z => hb (.inr z)))
  · split at e
    · cases e
    · rename_i hb
      cases e; obtain ⟨t, rfl⟩ := hu; obtain ⟨t', rfl⟩ := hv; exact PyProof.Rows.mod_int' hb (h _ _ ⟨_, rfl⟩)
  · split at e
    · rename_i hb
      cases e; obtain ⟨t, rfl⟩ := hu; obtain ⟨t', rfl⟩ := hv; exact PyProof.Rows.pow_int_small hb.1 hb.2.1 hb.2.2 (h _ _ ⟨_, rfl⟩)
    · cases e
  · split at e
    · rename_i hb
      cases e; obtain ⟨t, rfl⟩ := hu; obtain ⟨t', rfl⟩ := hv; exact PyProof.Rows.add_str (fun t' k => h _ _ ⟨_, rfl⟩) hb
    · cases e
  · split at e
    · rename_i hb
      cases e; obtain ⟨t, rfl⟩ := hu; obtain ⟨t', rfl⟩ := hv
      exact SB.mul (mulOk_of 16 1048576 hb.1 (by omega) (by omega) (by decide) (by decide)) fun t' k => h _ _ ⟨_, rfl⟩
    · cases e
  · cases e
theorem cmp_ok {op : CmpOp} {a b : At} {r : Bool} {u v : Value} {Q : Value → Shared → Prop} (e : cmpI op a b = some r) (hu : AIs α u a) (hv : AIs α v b)
    (h : Q (.bool r) s) : wpAny (Mo w) A (compareOp op u v) Q E s := by
  unfold cmpI at e
  split at e
  · cases e; obtain ⟨t, rfl⟩ := hu; obtain ⟨t', rfl⟩ := hv; exact PyProof.Rows.eq_int h
  · cases e; obtain ⟨t, rfl⟩ := hu; obtain ⟨t', rfl⟩ := hv; exact PyProof.Rows.ne_int h
  · cases e; obtain ⟨t, rfl⟩ := hu; obtain ⟨t', rfl⟩ := hv; exact PyProof.Rows.lt_int h
  · cases e; obtain ⟨t, rfl⟩ := hu; obtain ⟨t', rfl⟩ := hv; exact PyProof.Rows.gt_int h
  · cases e; obtain ⟨t, rfl⟩ := hu; obtain ⟨t', rfl⟩ := hv; exact PyProof.Rows.le_int h
  · cases e; obtain ⟨t, rfl⟩ := hu; obtain ⟨t', rfl⟩ := hv; exact PyProof.Rows.ge_int h
  · cases e; obtain ⟨t, rfl⟩ := hu; obtain ⟨t', rfl⟩ := hv; exact PyProof.Rows.eq_str h
  · cases e; obtain ⟨t, rfl⟩ := hu; obtain ⟨t', rfl⟩ := hv; exact PyProof.Rows.ne_str h
  · cases e; cases hu; cases hv; exact PyProof.Rows.ne_bool h
  · cases e; obtain ⟨t, rfl⟩ := hu; obtain ⟨t', rfl⟩ := hv; exact PyProof.Rows.in_str h
  · cases e; obtain ⟨t, rfl⟩ := hu; obtain ⟨t', rfl⟩ := hv; exact PyProof.Rows.notIn_str h
  · cases e; cases hu; cases hv; exact PyProof.Rows.is_bool h
  · cases e; cases hu; cases hv; exact PyProof.Rows.isnot_bool h
  · cases e; cases hu; cases hv; exact PyProof.Rows.is_none_none h
  · cases e; cases hu; cases hv; exact PyProof.Rows.isnot_none_none h
  · cases e; obtain ⟨t, rfl⟩ := hu; cases hv; exact PyProof.Rows.is_str_none h
  · cases e; obtain ⟨t, rfl⟩ := hu; cases hv; exact PyProof.Rows.isnot_str_none h
  · cases e; obtain ⟨p, _, rfl⟩ := hu; cases hv; exact PyProof.Rows.is_ref_none h
  · cases e; obtain ⟨p, _, rfl⟩ := hu; cases hv; exact PyProof.Rows.isnot_ref_none h
  · rename_i a b
    cases e; cases hu; cases hv; exact wpAny_is_plain (by rfl) (by
      have : (Value.type a == Value.type b) = (a == b) := by
        cases q : a == b with
        | true => rw [beq_iff_eq] at q ⊢; rw [q]
        | false => rw [beq_eq_false_iff_ne] at q ⊢; exact fun z => q (Value.type.inj z)
      rw [this]; exact h)
  · rename_i a b
    cases e; cases hu; cases hv; exact wpAny_isNot_plain (by rfl) (by
      have : (Value.type a == Value.type b) = (a == b) := by
        cases q : a == b with
        | true => rw [beq_iff_eq] at q ⊢; rw [q]
        | false => rw [beq_eq_false_iff_ne] at q ⊢; exact fun z => q (Value.type.inj z)
      rw [this]; exact h)
  · cases e
end
end Mine
end
section
/-! ## text R4 -/
set_option maxRecDepth 100000
set_option maxHeartbeats 8000000
namespace Mine
noncomputable def setL : Rho → Str → V → Rho
  | [], x, X => [(x, X)]
  | (y, Y) :: r, x, X => if y == x then (x, X) :: r else (y, Y) :: setL r x X
theorem lookup_setL : ∀ (ρ : Rho) (x y : Str) (X : V), (setL ρ x X).lookup y = if y = x then some X else ρ.lookup y
  | [], x, y, X => by
    unfold setL
    by_cases h : y = x
    · subst h; simp
    · have : (y == x) = false := beq_eq_false_iff_ne.mpr h
      simp [List.lookup_cons, this, h]
  | (z, Z) :: r, x, y, X => by
    unfold setL
    by_cases hz : z = x
    · subst hz
      rw [if_pos (by simp)]
      by_cases h : y = z
      · subst h; simp
      · have : (y == z) = false := beq_eq_false_iff_ne.mpr h
        simp [List.lookup_cons, this, h]
    · rw [if_neg (by simpa using hz)]
      rw [List.lookup_cons, List.lookup_cons, lookup_setL r x y X]
      cases q : y == z with
      | true =>
        rw [beq_iff_eq] at q
        subst q
        simp [hz]
      | false => rfl
section
variable {w : World} {A : Around} {E : Value → Shared → Prop} {B : Heap} {nm : Nm} {α α' α₀ : Al} {ρ : Rho} {env : Env} {s s' s₀ : Shared} {σ σ' : List Ob} {P : Params} {W : Nat → Prop} {h h' : Heap} {c : Nat}
theorem IIs.off {v : Value} {X : It} (H : IIs α h v X) (hs : Heap.SameBut c h h') (hq : ∀ o, h.get? c = some o → ∀ its n, o.data ≠ .seq its n) : IIs α h' v X :=
  H.keep fun b vs n e _ => (hs.2 b (by rintro rfl; exact hq _ e _ _ rfl)).trans e
theorem VIs.off {v : Value} {X : V} (H : VIs α h v X) (hs : Heap.SameBut c h h') (hq : ∀ o, h.get? c = some o → ∀ its n, o.data ≠ .seq its n) (hn : X ≠ .nod c) : VIs α h' v X :=
  H.keep fun b o e _ k => (hs.2 b (by
    rintro rfl
    rcases k with ⟨its, n, d⟩ | k
    · exact hq _ e _ _ d
    · exact hn k)).trans e
theorem OIs.off {p : Nat × Nat} {ob : Ob} (H : OIs P α h p ob) (hs : Heap.SameBut c h h') (hq : ∀ o, h.get? c = some o → ∀ its n, o.data ≠ .seq its n) (h1 : p.1 ≠ c) (h2 : p.2 ≠ c) : OIs P α h' p ob := by
  cases ob with
  | list l => obtain ⟨e, vs, n, g, r⟩ := H; exact ⟨e, vs, n, (hs.2 _ h1).trans g, r.imp fun _ _ z => z.off hs hq⟩
  | hdr f =>
    obtain ⟨e1, e2, e3⟩ := H
    refine ⟨e1, (hs.2 _ h1).trans e2, ?_⟩
    cases f with
    | none => exact (hs.2 _ h2).trans e3
    | some x => obtain ⟨v, t, n, e3, r⟩ := e3; exact ⟨v, t, n, (hs.2 _ h2).trans e3, r⟩
theorem All2.impMem {α β : Type} {R S : α → β → Prop} : ∀ {l : List α} {m : List β}, All2 R l m → (∀ a ∈ l, ∀ b, R a b → S a b) → All2 S l m
  | _, _, .nil, _ => .nil
  | _, _, .cons x y, h => .cons (h _ (.head _) _ x) (y.impMem fun a ha b => h a (.tail _ ha) b)
theorem Rel.off (R : Rel P B α σ h) (hs : Heap.SameBut c h h') (hc : ¬ InX α c) (hb : B.get? c = none) (hq : ∀ o, h.get? c = some o → ∀ its n, o.data ≠ .seq its n) : Rel P B α σ h' :=
  ⟨fun b o e => (hs.2 b (by rintro rfl; rw [hb] at e; cases e)).trans (R.base b o e), R.new,
   R.obs.impMem fun p hp ob z => z.off hs hq (fun e => hc ⟨p, hp, .inl e.symm⟩) (fun e => hc ⟨p, hp, .inr e.symm⟩), R.apart⟩
theorem Post.off (R : Rel P B α σ s.heap) (hs : Heap.SameBut c s.heap h') (hc : ¬ InX α c) (hb : B.get? c = none) (hq : ∀ o, s.heap.get? c = some o → ∀ its n, o.data ≠ .seq its n) (hW : W c) (he : ∃ o, h'.get? c = some o) {tk : Nat} :
    Post P B W α s α σ { s with heap := h', toks := tk } :=
  ⟨⟨_, _, rfl⟩, ⟨[], by simp, fun _ h => nomatch h⟩, fun b o e n w => (hs.2 b (by rintro rfl; exact w hW)).trans e, fun b e => by
    by_cases hbc : b = c
    · subst hbc; obtain ⟨o, ho⟩ := he; rw [ho] at e; cases e
    · rw [← hs.2 b hbc]; exact e, R.off hs hc hb hq⟩
theorem ns_some {a : Nat} {m : Str → Option Value} (n : h.Ns a m) : ∃ o, h.get? a = some o := let ⟨o, _, _, e, _⟩ := n; ⟨o, e⟩
theorem cell_some {a : Nat} {m : Option Value} (n : h.IsCell a m) : ∃ o, h.get? a = some o := let ⟨o, e, _⟩ := n; ⟨o, e⟩
theorem ns_noseq {a : Nat} {m : Str → Option Value} (n : h.Ns a m) : ∀ o, h.get? a = some o → ∀ its k, o.data ≠ .seq its k := by
  obtain ⟨o, es, ep, e, d, _⟩ := n
  intro o' e' its k d'
  rw [e] at e'; cases e'; rw [d] at d'; cases d'
theorem cell_noseq {a : Nat} {m : Option Value} (n : h.IsCell a m) : ∀ o, h.get? a = some o → ∀ its k, o.data ≠ .seq its k := by
  obtain ⟨o, e, d⟩ := n
  intro o' e' its k d'
  rw [e] at e'; cases e'; rw [d] at d'; cases d'
theorem cell_ne_ns {a b : Nat} {m : Str → Option Value} {v : Option Value} (n : h.Ns a m) (q : h.IsCell b v) : b ≠ a := by
  rintro rfl
  obtain ⟨o, es, ep, e, d, _⟩ := n
  obtain ⟨o', e', d'⟩ := q
  rw [e] at e'; cases e'; rw [d] at d'; cases d'
theorem none_of_above {a : Nat} (h : B.objs.size ≤ a) : B.get? a = none := Heap.get?_none_of_le h
theorem st_local {x : Str} {v : Value} {X : V} {Q : Unit → Shared → Prop} (F : FR B nm α ρ env s.heap) (R : Rel P B α σ s.heap) (hk : env.kindOf x = some .local) (hX : VIs α s.heap v X)
    (hn : ∀ a, X = .nod a → a ≠ env.locals)
    (hq : ∀ s', Post P B (· = env.locals) α s α σ s' → FR B nm α (setL ρ x X) env s'.heap → (∀ c v, s.heap.IsCell c v → s'.heap.IsCell c v) → Q () s') : wpAny (Mo w) A (storeName env x v) Q E s := by
  obtain ⟨m, hF, hv⟩ := F.fr
  refine wpAny_storeName_local hk hF.ns (fun h' hn' hs' => ?_) (by rw [F.fkind]; rfl)
  have nq := ns_noseq hF.ns
  have nb := none_of_above hF.above
  have p : Post P B (· = env.locals) α s α σ { s with heap := h', toks := s.toks + 1 } := Post.off (W := (· = env.locals)) R hs' F.off nb nq rfl (ns_some hn')
  have hcell : ∀ c v, s.heap.IsCell c v → h'.IsCell c v := fun c v q => q.sameBut hs' (cell_ne_ns hF.ns q)
  refine hq _ p ⟨F.fkind, F.glob, F.blt, F.kinds, ⟨_, ⟨hn', p.rel.base, hF.above⟩, fun y Y h1 h2 => ?_⟩, fun y Y h1 h2 => ?_, F.off, fun y a h1 => ?_⟩ hcell
  · rw [lookup_setL] at h1
    by_cases hy : y = x
    · rw [if_pos hy] at h1
      cases h1
      refine ⟨v, by simp [hy], hX.off hs' nq fun e => hn _ e rfl⟩
    · rw [if_neg hy] at h1
      obtain ⟨u, e, r⟩ := hv y Y h1 h2
      exact ⟨u, by simp [hy, e], r.off hs' nq fun e => F.nods y _ (e ▸ h1) rfl⟩
  · rw [lookup_setL] at h1
    by_cases hy : y = x
    · subst hy; rcases h2 with h2 | h2 <;> (rw [hk] at h2; cases h2)
    · rw [if_neg hy] at h1
      obtain ⟨d, u, e, q, r⟩ := F.cells y Y h1 h2
      exact ⟨d, u, e, hcell _ _ q, r.off hs' nq fun e => F.nods y _ (e ▸ h1) rfl⟩
  · rw [lookup_setL] at h1
    by_cases hy : y = x
    · rw [if_pos hy] at h1
      exact hn a (Option.some.inj h1)
    · rw [if_neg hy] at h1; exact F.nods y a h1
theorem FW.own {x : Str} (F : FW B nm α ρ env h) (hx : isLoc (nm.lookup x) = true) (hf : nm.lookup x ≠ some .free) : env.kindOf x = some .local ∨ env.kindOf x = some .cell := by
  cases hn : nm.lookup x with
  | none => rw [hn] at hx; cases hx
  | some k =>
    rcases F.kinds x k hn with e | ⟨e, e'⟩
    · rw [hn] at hx hf
      cases k <;> first | (cases hx; done) | exact .inl e | exact .inr e | exact absurd rfl hf
    · exact .inr e'
theorem st_name {x : Str} {v : Value} {X : V} {Q : Unit → Shared → Prop} (F : FW B nm α ρ env s.heap) (R : Rel P B α σ s.heap) (hx : isLoc (nm.lookup x) = true) (hf : nm.lookup x ≠ some .free) (hX : VIs α s.heap v X)
    (hn : ∀ a, X = .nod a → a ≠ env.locals)
    (hq : ∀ s', Post P B (ownW env) α s α σ s' → FW B nm α (setL ρ x X) env s'.heap → Q () s') : wpAny (Mo w) A (storeName env x v) Q E s := by
  rcases F.own hx hf with hk | hk
  · refine st_local F.toFR R hk hX hn fun s' p F' hc => hq s' (p.weak fun b e => .inl e) ⟨F', fun y hy => ?_, F.cap⟩
    obtain ⟨c, v, e, q, b⟩ := F.cellOk y hy
    exact ⟨c, v, e, hc _ _ q, b⟩
  · obtain ⟨c, v₀, e, hc, hb⟩ := F.cellOk x hk
    refine wpAny_storeName_cell F.fkind hk e hc fun h' hc' hs' => ?_
    have nq := cell_noseq hc
    have nx := R.notCell hc
    obtain ⟨m, hF, hv⟩ := F.fr
    have p : Post P B (ownW env) α s α σ { s with heap := h', toks := s.toks } := Post.off R hs' nx hb nq (.inr ⟨x, hk, e⟩) (cell_some hc')
    have ncL : env.locals ≠ c := Ne.symm (cell_ne_ns hF.ns hc)
    have nod : ∀ y a, ρ.lookup y = some (.nod a) → ∀ v, VIs α s.heap v (.nod a) → a ≠ c := fun y a _ v H => by
      rintro rfl
      obtain ⟨_, _, g⟩ := H
      obtain ⟨o, e, d⟩ := hc
      rw [e] at g; cases g; cases d
    have nodX : ∀ a v, VIs α s.heap v (.nod a) → a ≠ c := fun a v H => by
      rintro rfl
      obtain ⟨_, _, g⟩ := H
      obtain ⟨o, e, d⟩ := hc
      rw [e] at g; cases g; cases d
    refine hq _ p ⟨⟨F.fkind, F.glob, F.blt, F.kinds, ⟨m, ⟨hF.ns.sameBut hs' ncL, p.rel.base, hF.above⟩, fun y Y h1 h2 => ?_⟩, fun y Y h1 h2 => ?_, F.off, fun y a h1 => ?_⟩, fun y hy => ?_, F.cap⟩
    · rw [lookup_setL] at h1
      by_cases hy : y = x
      · subst hy; rw [hk] at h2; cases h2
      · rw [if_neg hy] at h1
        obtain ⟨u, e, r⟩ := hv y Y h1 h2
        exact ⟨u, e, r.off hs' nq fun e => nodX c u (e ▸ r) rfl⟩
    · rw [lookup_setL] at h1
      by_cases hy : y = x
      · rw [if_pos hy] at h1
        cases h1
        subst hy
        exact ⟨c, v, e, hc', hX.off hs' nq fun e => nodX c v (e ▸ hX) rfl⟩
      · rw [if_neg hy] at h1
        obtain ⟨d, u, e', q, r⟩ := F.cells y Y h1 h2
        refine ⟨d, u, e', q.sameBut hs' fun z => hy ?_, r.off hs' nq fun e => nodX c u (e ▸ r) rfl⟩
        exact name_of_addr F.cap (mem_of_lookup e') (z ▸ mem_of_lookup e)
    · rw [lookup_setL] at h1
      by_cases hy : y = x
      · rw [if_pos hy] at h1
        exact hn a (Option.some.inj h1)
      · rw [if_neg hy] at h1; exact F.nods y a h1
    · by_cases hyx : y = x
      · subst hyx; exact ⟨c, _, e, hc', hb⟩
      · obtain ⟨d, u, e', q, b⟩ := F.cellOk y hy
        exact ⟨d, u, e', q.sameBut hs' (fun z => hyx (name_of_addr F.cap (mem_of_lookup e') (z ▸ mem_of_lookup e))), b⟩
end
end Mine
end
section
/-! ## text R5 -/
set_option maxRecDepth 100000
set_option maxHeartbeats 8000000
namespace Mine
section
variable {w : World} {A : Around} {E : Value → Shared → Prop} {B : Heap} {nm : Nm} {α α' α₀ : Al} {ρ : Rho} {env : Env} {s s' s₀ : Shared} {σ σ' : List Ob} {P : Params} {W : Nat → Prop} {h h' : Heap} {c : Nat}
theorem IIs.keeps {v : Value} {X : It} (H : IIs α h v X) (k : ∀ (b : Nat) o, h.get? b = some o → h'.get? b = some o) : IIs α h' v X := H.keep fun b _ _ e _ => k b _ e
theorem VIs.keeps {v : Value} {X : V} (H : VIs α h v X) (k : ∀ (b : Nat) o, h.get? b = some o → h'.get? b = some o) : VIs α h' v X := H.keep fun b o e _ _ => k b o e
theorem OIs.keeps {p : Nat × Nat} {ob : Ob} (H : OIs P α h p ob) (k : ∀ (b : Nat) o, h.get? b = some o → h'.get? b = some o) : OIs P α h' p ob := by
  cases ob with
  | list l => obtain ⟨e, vs, n, g, r⟩ := H; exact ⟨e, vs, n, k _ _ g, r.imp fun _ _ z => z.keeps k⟩
  | hdr f =>
    obtain ⟨e1, e2, e3⟩ := H
    refine ⟨e1, k _ _ e2, ?_⟩
    cases f with
    | none => exact k _ _ e3
    | some x => obtain ⟨v, t, n, e3, r⟩ := e3; exact ⟨v, t, n, k _ _ e3, r⟩
theorem Rel.keeps (R : Rel P B α σ h) (k : ∀ (b : Nat) o, h.get? b = some o → h'.get? b = some o) : Rel P B α σ h' :=
  ⟨fun b o e => k b o (R.base b o e), R.new, R.obs.imp fun _ _ z => z.keeps k, R.apart⟩
theorem size_of_keeps (k : ∀ (b : Nat) o, h.get? b = some o → h'.get? b = some o) (hz : h.objs.size ≤ h'.objs.size) : h.objs.size ≤ h'.objs.size := hz
theorem Post.ofKeeps (R : Rel P B α σ s.heap) (k : ∀ (b : Nat) o, s.heap.get? b = some o → h'.get? b = some o) {tk : Nat} : Post P B W α s α σ { s with heap := h', toks := tk } :=
  ⟨⟨_, _, rfl⟩, ⟨[], by simp, fun _ h => nomatch h⟩, fun b o e _ _ => k b o e, Dom.keeps k, R.keeps k⟩
theorem Post.tok (R : Rel P B α σ s.heap) {tk : Nat} : Post P B W α s α σ { s with toks := tk } := Post.ofKeeps (h' := s.heap) R (fun _ _ e => e)
theorem Post.push (R : Rel P B α σ s.heap) (o : Obj) {tk : Nat} : Post P B W α s α σ { s with heap := s.heap.push o, toks := tk } :=
  Post.ofKeeps R (fun _ _ e => Heap.get?_push_of_some o e)
end

noncomputable def EvOk (n : Nat) (nm : Nm) (ρ : Rho) (σ : List Ob) (e : Expr) (r : RV) (σ' : List Ob) : Prop :=
  ∀ (w : World) (A : Around) (B : Heap) (α : Al) (env : Env) (s : Shared) (Q E : Value → Shared → Prop), Bs w B → Room n A → FR B nm α ρ env s.heap → Rel w.params B α σ s.heap →
    (∀ v α' s', Post w.params B noW α s α' σ' s' → RIs s.heap α' s'.heap v r → Q v s') → wpAny (Mo w) A (eval e env) Q E s
noncomputable def EvsOk (n : Nat) (nm : Nm) (ρ : Rho) (σ : List Ob) (es : List Expr) (Vs : List V) (σ' : List Ob) : Prop :=
  ∀ (w : World) (A : Around) (B : Heap) (α : Al) (env : Env) (s : Shared) (pos : Pos) (Q : List Value → Shared → Prop) (E : Value → Shared → Prop), Bs w B → Room n A → FR B nm α ρ env s.heap → Rel w.params B α σ s.heap →
    (∀ vs α' s', Post w.params B noW α s α' σ' s' → All2 (VIs α' s'.heap) vs Vs → Q vs s') → wpAny (Mo w) A (spliced (backTo pos (starEach es env))) Q E s
/-- the test of an if, a while -/
noncomputable def TrOk (n : Nat) (nm : Nm) (ρ : Rho) (σ : List Ob) (e : Expr) (b : Bool) (σ' : List Ob) : Prop :=
  ∀ (w : World) (A : Around) (B : Heap) (α : Al) (env : Env) (s : Shared) (Q : Bool → Shared → Prop) (E : Value → Shared → Prop), Bs w B → Room n A → FR B nm α ρ env s.heap → Rel w.params B α σ s.heap →
    (∀ α' s', Post w.params B noW α s α' σ' s' → Q b s') → wpAny (Mo w) A (isTrue e env (eval e env)) Q E s

noncomputable def constI : Const → Option At
  | .none => some .none
  | .bool b => some (.bool b)
  | .int i => some (.int i)
  | .str x => some (.str x)
  | _ => none
noncomputable abbrev RV.at (a : At) : RV := .v (.it (.at a))
section
variable {n : Nat} {nm : Nm} {ρ : Rho} {σ σ₁ σ₂ : List Ob}
theorem EvOk.const {c : Const} {a : At} {k : Nat} {pos : Pos} (h : constI c = some a) : EvOk n nm ρ σ (.Constant c k pos) (.at a) σ := by
  intro w A B α env s Q E b rm F R hq
  unfold constI at h
  split at h <;> cases h
  · exact wpAny_Constant_none (hq _ _ _ (Post.refl R) rfl)
  · exact wpAny_Constant_bool (hq _ _ _ (Post.refl R) rfl)
  · exact wpAny_Constant_int (hq _ _ _ (Post.tok R) ⟨_, rfl⟩)
  · exact wpAny_Constant_str (hq _ _ _ (Post.tok R) ⟨_, rfl⟩)
theorem EvOk.name {x : Str} {pos : Pos} {X : V} (hk : isLoc (nm.lookup x) = true) (hv : ρ.lookup x = some X) (hd : (x == ("__debug__" : Str)) = false) (hd' : (x == ("__classdict__" : Str)) = false) :
    EvOk n nm ρ σ (.Name x pos) (.v X) σ := by
  intro w A B α env s Q E b rm F R hq
  exact ev_name F hk hv hd hd' fun v hv => hq v _ _ (Post.refl R) hv
theorem EvOk.glob {x : Str} {pos : Pos} {a : At} (hk : nm.lookup x = some .globalImplicit) (hv : gval x = some a) (hd : (x == ("__debug__" : Str)) = false) : EvOk n nm ρ σ (.Name x pos) (.at a) σ := by
  intro w A B α env s Q E b rm F R hq
  exact ev_glob b F hk hv hd fun v hv => hq v _ _ (Post.refl R) hv
theorem EvOk.bin {l r : Expr} {op : Operator} {pos : Pos} {a b c : At} (h1 : EvOk n nm ρ σ l (.at a) σ₁) (h2 : EvOk n nm ρ σ₁ r (.at b) σ₂) (h : binI op a b = some c) : EvOk n nm ρ σ (.BinOp l op r pos) (.at c) σ₂ := by
  intro w A B α env s Q E bs rm F R hq
  refine wpAny_BinOp (h1 w A B α env s _ _ bs rm F R fun v1 α1 s1 p1 r1 => h2 w A B α1 env s1 _ _ bs rm (F.post R p1) p1.rel fun v2 α2 s2 p2 r2 => ?_)
  refine bin_ok h (p2.ais r1) r2 fun z k hz => ?_
  have p3 : Post w.params B noW α s α2 σ₂ { s2 with toks := k } := (p1.trans p2).trans (Post.tok p2.rel)
  exact hq z _ _ p3 hz
theorem EvOk.cmp {l r : Expr} {op : CmpOp} {pos : Pos} {a b : At} {c : Bool} (h1 : EvOk n nm ρ σ l (.at a) σ₁) (h2 : EvOk n nm ρ σ₁ r (.at b) σ₂) (h : cmpI op a b = some c) (hm : behindInMarks op r = false) :
    EvOk n nm ρ σ (.Compare l [op] [r] pos) (.at (.bool c)) σ₂ := by
  intro w A B α env s Q E bs rm F R hq
  refine wpAny_Compare1 (h1 w A B α env s _ _ bs rm F R fun v1 α1 s1 p1 r1 => h2 w A B α1 env s1 _ _ bs rm (F.post R p1) p1.rel fun v2 α2 s2 p2 r2 => ?_) hm
  exact cmp_ok h (p2.ais r1) r2 (hq _ _ _ (p1.trans p2) rfl)
theorem TrOk.cmp {l r : Expr} {op : CmpOp} {pos : Pos} {a b : At} {c : Bool} (h1 : EvOk n nm ρ σ l (.at a) σ₁) (h2 : EvOk n nm ρ σ₁ r (.at b) σ₂) (h : cmpI op a b = some c) (hm : behindInMarks op r = false) :
    TrOk n nm ρ σ (.Compare l [op] [r] pos) c σ₂ := by
  intro w A B α env s Q E bs rm F R hq
  refine wpAny_isTrue_Compare1 (h1 w A B α env s _ _ bs rm F R fun v1 α1 s1 p1 r1 => h2 w A B α1 env s1 _ _ bs rm (F.post R p1) p1.rel fun v2 α2 s2 p2 r2 => ?_) hm
  exact cmp_ok h (p2.ais r1) r2 (wpAny_truthy_bool (hq _ _ (p1.trans p2)))
theorem EvOk.ifexp {t x y : Expr} {pos : Pos} {c : Bool} {r : RV} (h1 : TrOk n nm ρ σ t c σ₁) (h2 : if c = true then EvOk n nm ρ σ₁ x r σ₂ else EvOk n nm ρ σ₁ y r σ₂) : EvOk n nm ρ σ (.IfExp t x y pos) r σ₂ := by
  intro w A B α env s Q E bs rm F R hq
  refine wpAny_IfExp (h1 w A B α env s _ _ bs rm F R fun α1 s1 p1 => ?_)
  cases c with
  | true =>
    rw [if_pos rfl] at h2 ⊢
    exact h2 w A B α1 env s1 _ _ bs rm (F.post R p1) p1.rel fun v2 α2 s2 p2 r2 => hq _ _ _ (p1.trans p2) (r2.weak p1.grow)
  | false =>
    rw [if_neg (by decide)] at h2 ⊢
    exact h2 w A B α1 env s1 _ _ bs rm (F.post R p1) p1.rel fun v2 α2 s2 p2 r2 => hq _ _ _ (p1.trans p2) (r2.weak p1.grow)

noncomputable def plainE : Expr → Bool
  | .Starred .. => false
  | _ => true
theorem starEach_plain {e : Expr} (h : plainE e = true) (r : List Expr) (env : Env) : starEach (e :: r) env = (false, eval e env) :: starEach r env := by
  cases e <;> first | rfl | (cases h)
theorem backTo_plain (pos : Pos) (t : Sem Value) (l : List (Bool × Sem Value)) : backTo pos ((false, t) :: l) = (false, t) :: backTo pos l := rfl
theorem EvsOk.nil : EvsOk n nm ρ σ [] [] σ := by
  intro w A B α env s pos Q E bs rm F R hq
  exact Calls.spliced_nil (hq _ _ _ (Post.refl R) .nil)
theorem EvsOk.cons {e : Expr} {es : List Expr} {r : RV} {Vs : List V} (he : plainE e = true) (h1 : EvOk n nm ρ σ e r σ₁) (h2 : EvsOk n nm ρ (matI r σ₁).2 es Vs σ₂) : EvsOk n nm ρ σ (e :: es) ((matI r σ₁).1 :: Vs) σ₂ := by
  intro w A B α env s pos Q E bs rm F R hq
  rw [starEach_plain he, backTo_plain]
  refine Calls.spliced_cons (h1 w A B α env s _ _ bs rm F R fun v1 α1 s1 p1 r1 => ?_)
  obtain ⟨α1', p1', r1'⟩ := mat_ok p1 R.base r1
  refine h2 w A B α1' env s1 pos _ _ bs rm (F.post R p1') p1'.rel fun vs α2 s2 p2 r2 => ?_
  exact hq _ _ _ (p1'.trans p2) (.cons (p2.vis0 r1') r2)

noncomputable def itsOf : List V → Option (List It)
  | [] => some []
  | .it x :: r => (itsOf r).map (x :: ·)
  | _ :: _ => none
noncomputable def atsOf : List V → Option (List At)
  | [] => some []
  | .it (.at x) :: r => (atsOf r).map (x :: ·)
  | _ :: _ => none
theorem itsOf_is {α : Al} {h : Heap} : ∀ {vs : List Value} {Vs : List V} {l : List It}, All2 (VIs α h) vs Vs → itsOf Vs = some l → All2 (IIs α h) vs l
  | _, _, _, .nil, e => by cases e; exact .nil
  | _, X :: _, l, .cons x y, e => by
    unfold itsOf at e
    cases X with
    | it X =>
      simp only [Option.map_eq_some_iff] at e
      obtain ⟨l', e', rfl⟩ := e
      exact .cons x (itsOf_is y e')
    | _ => cases e
theorem atsOf_is {α : Al} {h : Heap} : ∀ {vs : List Value} {Vs : List V} {l : List At}, All2 (VIs α h) vs Vs → atsOf Vs = some l → All2 (AIs α) vs l
  | _, _, _, .nil, e => by cases e; exact .nil
  | _, X :: _, l, .cons x y, e => by
    unfold atsOf at e
    cases X with
    | it X =>
      cases X with
      | «at» a =>
        simp only [Option.map_eq_some_iff] at e
        obtain ⟨l', e', rfl⟩ := e
        exact .cons x (atsOf_is y e')
      | tup l => cases e
    | _ => cases e
theorem new_notX {P : Params} {B : Heap} {α : Al} {σ : List Ob} {h : Heap} (R : Rel P B α σ h) : ¬ InX α h.objs.size := fun q => Nat.lt_irrefl _ (R.lt q)
theorem newList_ok {w : World} {A : Around} {E : Value → Shared → Prop} {P : Params} {B : Heap} {α : Al} {σ : List Ob} {s : Shared} {vs : List Value} {l : List It} {Q : Value → Shared → Prop} (R : Rel P B α σ s.heap) (h : All2 (IIs α s.heap) vs l) (hz : l.length ≤ sizeLine)
    (hq : ∀ v s', Post P B noW α s α σ s' → RIs s.heap α s'.heap v (.new l) → Q v s') : wpAny (Mo w) A (newList vs) Q E s := by
  refine wpAny_newObj_type (hq _ _ (Post.push R _ (tk := s.toks)) ⟨s.heap.objs.size, vs, 0, rfl, Heap.get?_none_of_le (Nat.le_refl _), new_notX R, Heap.get?_push_size _ rfl, h.imp fun _ _ z => z.keeps fun _ _ e => Heap.get?_push_of_some _ e⟩) ?_
  show vs.toArray.size ≤ sizeLine
  rw [List.size_toArray, h.length]; exact hz
theorem EvOk.list {es : List Expr} {pos : Pos} {Vs : List V} {l : List It} (h : EvsOk n nm ρ σ es Vs σ₁) (hl : itsOf Vs = some l) (hz : l.length ≤ sizeLine) : EvOk n nm ρ σ (.List es pos) (.new l) σ₁ := by
  intro w A B α env s Q E bs rm F R hq
  refine List_ (h w A B α env s pos _ _ bs rm F R fun vs α1 s1 p1 r1 => ?_)
  exact newList_ok p1.rel (itsOf_is r1 hl) hz fun v s2 p2 r2 => hq _ _ _ (p1.trans p2) (r2.weak p1.grow)
theorem EvOk.tuple {es : List Expr} {k : Nat} {pos : Pos} {Vs : List V} {l : List At} (h : EvsOk n nm ρ σ es Vs σ₁) (hl : atsOf Vs = some l) (hz : l.length ≤ sizeLine) : EvOk n nm ρ σ (.Tuple es k pos) (.v (.it (.tup l))) σ₁ := by
  intro w A B α env s Q E bs rm F R hq
  refine Tuple_ (h w A B α env s pos _ _ bs rm F R fun vs α1 s1 p1 r1 => ?_)
  refine wpAny_newObj_type (hq _ _ _ (p1.trans (Post.push p1.rel _ (tk := s1.toks))) ⟨s1.heap.objs.size, vs, 0, rfl, new_notX p1.rel, Heap.get?_push_size _ rfl, atsOf_is r1 hl⟩) ?_
  show vs.toArray.size ≤ sizeLine
  rw [List.size_toArray, (atsOf_is r1 hl).length]; exact hz
end
end Mine
end
section
/-! ## text R6 -/
set_option maxRecDepth 100000
set_option maxHeartbeats 8000000
namespace Mine
/-- the items of a list or a tuple -/
noncomputable def seqOf (σ : List Ob) : RV → Option (List It)
  | .new l => some l
  | .v (.lst l) => some (l.map fun i => .at (.int i))
  | .v (.it (.at (.obj j))) => match σ[j]? with
    | some (.list l) => some l
    | _ => none
  | _ => none
noncomputable def tupOf : RV → Option (List It)
  | .v (.it (.tup l)) => some (l.map .at)
  | _ => none
noncomputable def pick {β : Type} (l : List β) (i : Int) : Option β :=
  if -(2 ^ 63) ≤ i ∧ i < 2 ^ 63 then (if 0 ≤ i then l[i.toNat]? else if -(l.length : Int) ≤ i then l[(i + l.length).toNat]? else none) else none
noncomputable def strAt (x : Str) (i : Int) : Option Str :=
  if -(2 ^ 63) ≤ i ∧ i < 2 ^ 63 then ((seqIndex? i x.length).bind (x.cps[·]?)).map fun c => ⟨#[c]⟩ else none
noncomputable def sliceL {β : Type} (l : List β) (lo hi : Option Int) : List β :=
  (sliceRange (sliceBounds lo hi none l.length).1 (sliceBounds lo hi none l.length).2.1 (sliceBounds lo hi none l.length).2.2).filterMap fun x => l[x]?
/-- x[i] -/
noncomputable def idxI (σ : List Ob) (r : RV) (i : At) : Option V := match i with
  | .int i => match r with
    | .v (.it (.at (.str x))) => (strAt x i).map fun y => .str y
    | r => match seqOf σ r with
      | some l => (pick l i).map .it
      | none => match tupOf r with
        | some l => (pick l i).map .it
        | none => none
  | _ => none
/-- x[lo:hi] -/
noncomputable def cutI (σ : List Ob) (r : RV) (lo hi : Option Int) : Option RV := match r with
  | .v (.it (.at (.str x))) => if x.length ≤ sizeLine then some (.at (.str (Txt.slice x lo hi))) else none
  | r => match seqOf σ r with
    | some l => if l.length ≤ sizeLine then some (.new (sliceL l lo hi)) else none
    | none => none

section
variable {w : World} {A : Around} {E : Value → Shared → Prop} {B : Heap} {α : Al} {s : Shared} {σ : List Ob} {P : Params}
theorem seq_at {k : Heap} {v : Value} {r : RV} {l : List It} (R : Rel P B α σ s.heap) (h : RIs k α s.heap v r) (e : seqOf σ r = some l) : ∃ (a : Nat) (vs : List Value) (n : Nat), v = .ref a ∧ s.heap.get? a = some (listObj vs n) ∧ All2 (IIs α s.heap) vs l := by
  unfold seqOf at e
  split at e
  · cases e
    obtain ⟨a, vs, k, rfl, _, _, g, r⟩ := h
    exact ⟨a, vs, k, rfl, g, r⟩
  · rename_i l
    cases e
    obtain ⟨a, vs, n, rfl, _, g, r⟩ := h
    refine ⟨a, vs, n, rfl, g, ?_⟩
    clear g
    induction r with
    | nil => exact .nil
    | cons x y ih => exact .cons x ih
  · rename_i j
    split at e
    · rename_i l' e'
      cases e
      obtain ⟨p, hp, rfl⟩ := h
      obtain ⟨ob, e2, ho⟩ := R.obs.getL hp
      rw [e'] at e2
      cases e2
      obtain ⟨_, vs, n, g, r⟩ := ho
      exact ⟨p.1, vs, n, rfl, g, r⟩
    · cases e
  · cases e
theorem tup_at {k : Heap} {v : Value} {r : RV} {l : List It} (h : RIs k α s.heap v r) (e : tupOf r = some l) : ∃ (a : Nat) (vs : List Value) (n : Nat), v = .ref a ∧ s.heap.get? a = some (tupObj vs n) ∧ All2 (IIs α s.heap) vs l := by
  unfold tupOf at e
  split at e
  · cases e
    obtain ⟨a, vs, n, rfl, _, g, r⟩ := h
    refine ⟨a, vs, n, rfl, g, ?_⟩
    clear g
    induction r with
    | nil => exact .nil
    | cons x y ih => exact .cons x ih
  · cases e
theorem sub_ops (slice : Expr) (o i : Value) : ∃ ops, subscripted slice false o i = operate ops (getItem o i) := by
  unfold subscripted
  split
  · exact ⟨_, rfl⟩
  · rename_i h; cases h
  · exact ⟨_, rfl⟩
theorem isList_of {a : Nat} {vs : List Value} {n : Nat} (g : s.heap.get? a = some (listObj vs n)) : s.heap.IsList a vs.toArray := ⟨_, g, rfl, n, rfl⟩
theorem tailL {value slice : Expr} {a : Nat} {vs : List Value} {n : Nat} {i : Value} {Q : Value → Shared → Prop} (g : s.heap.get? a = some (listObj vs n)) (h : wpAny (Mo w) A (getItem (.ref a) i) Q E s) : wpAny (Mo w) A (subscriptTail value slice (.ref a) i) Q E s := by
  obtain ⟨ops, e⟩ := sub_ops slice (.ref a) i
  exact tail_any (T := "list") ⟨_, g, rfl⟩ slot_list_getitem.lookup h e
theorem tailT {value slice : Expr} {a : Nat} {vs : List Value} {n : Nat} {i : Value} {Q : Value → Shared → Prop} (g : s.heap.get? a = some (tupObj vs n)) (h : wpAny (Mo w) A (getItem (.ref a) i) Q E s) : wpAny (Mo w) A (subscriptTail value slice (.ref a) i) Q E s := by
  obtain ⟨ops, e⟩ := sub_ops slice (.ref a) i
  exact tail_any (T := "tuple") ⟨_, g, rfl⟩ slot_tuple_getitem.lookup h e
theorem tailS {value slice : Expr} {x : Str} {t : Tok} {i : Value} {Q : Value → Shared → Prop} (h : wpAny (Mo w) A (getItem (.str x t) i) Q E s) : wpAny (Mo w) A (subscriptTail value slice (.str x t) i) Q E s := by
  obtain ⟨ops, e⟩ := sub_ops slice (.str x t) i
  exact tail_any (T := "str") (typeIs_str _ _ _) F.slot_str_getitem.lookup h e
theorem pick_list {vs : List Value} {l : List It} {i : Int} {y : It} (h : All2 (IIs α s.heap) vs l) (e : pick l i = some y) : ∃ v, IIs α s.heap v y ∧ ((0 ≤ i ∧ i < 2 ^ 63 ∧ vs.toArray[i.toNat]? = some v) ∨ (i < 0 ∧ -(vs.toArray.size : Int) ≤ i ∧ -(2 ^ 63) ≤ i ∧ vs.toArray[(i + vs.toArray.size).toNat]? = some v)) := by
  unfold pick at e
  split at e
  · rename_i hb
    split at e
    · rename_i h0
      obtain ⟨v, e1, r⟩ := h.get e
      exact ⟨v, r, .inl ⟨h0, hb.2, by simpa using e1⟩⟩
    · rename_i h0
      split at e
      · rename_i h1
        obtain ⟨v, e1, r⟩ := h.get e
        have hl := h.length
        refine ⟨v, r, .inr ⟨by omega, by simp only [List.size_toArray]; omega, hb.1, ?_⟩⟩
        rw [← hl] at e1
        simpa using e1
      · cases e
  · cases e
theorem idx_ok {k : Heap} {value slice : Expr} {v u : Value} {r : RV} {i : At} {X : V} {Q : Value → Shared → Prop} (R : Rel P B α σ s.heap) (h : RIs k α s.heap v r) (hi : AIs α u i) (e : idxI σ r i = some X)
    (hq : ∀ z tk, VIs α s.heap z X → Q z { s with toks := tk }) : wpAny (Mo w) A (subscriptTail value slice v u) Q E s := by
  unfold idxI at e
  split at e
  · rename_i i
    obtain ⟨t, rfl⟩ := hi
    have seqs : ∀ {l : List It}, (∃ (a : Nat) (vs : List Value) (n : Nat), v = .ref a ∧ s.heap.get? a = some (listObj vs n) ∧ All2 (IIs α s.heap) vs l) → (pick l i).map V.it = some X → wpAny (Mo w) A (subscriptTail value slice v (.int i t)) Q E s := by
      rintro l ⟨a, vs, n, rfl, g, hl⟩ e
      obtain ⟨y, ey, hX⟩ := Option.map_eq_some_iff.mp e
      subst hX
      obtain ⟨z, hz, c⟩ := pick_list hl ey
      refine tailL g ?_
      rcases c with ⟨c0, c1, c2⟩ | ⟨c0, c1, c2, c3⟩
      · exact wpAny_getItem_list (isList_of g) c0 c1 c2 (hq z s.toks hz)
      · exact wpAny_getItem_list_neg (isList_of g) c0 c1 c2 c3 (hq z s.toks hz)
    split at e
    · rename_i x
      obtain ⟨t', rfl⟩ := h
      obtain ⟨y, e1, hX⟩ := Option.map_eq_some_iff.mp e
      subst hX
      unfold strAt at e1
      split at e1
      · rename_i hb
        obtain ⟨c, e2, hy⟩ := Option.map_eq_some_iff.mp e1
        subst hy
        refine tailS (PyProof.Rows.getItem_str ?_ e2 (hq _ _ ⟨_, rfl⟩))
        rw [Bool.or_eq_false_iff]
        exact ⟨decide_eq_false (by omega), decide_eq_false (by omega)⟩
      · cases e1
    · split at e
      · rename_i l el
        exact seqs (seq_at R h el) e
      · split at e
        · rename_i l el
          obtain ⟨a, vs, n, rfl, g, hl⟩ := tup_at h el
          obtain ⟨y, ey, hX⟩ := Option.map_eq_some_iff.mp e
          subst hX
          obtain ⟨z, hz, c⟩ := pick_list hl ey
          refine tailT g ?_
          rcases c with ⟨c0, c1, c2⟩ | ⟨c0, c1, c2, c3⟩
          · refine PyProof.Rows.getItem_tuple (j := i.toNat) ⟨_, g, rfl, n, rfl⟩ (by omega) c1 ?_ c2 (hq z s.toks hz)
            have hlt := (Array.getElem?_eq_some_iff.mp c2).1
            unfold seqIndex?
            have h1 : ¬ i < 0 := by omega
            have h2 : i < (vs.toArray.size : Int) := by omega
            simp only [h1, if_false, c0, h2, decide_true, Bool.and_self, if_true]
          · refine PyProof.Rows.getItem_tuple (j := (i + vs.toArray.size).toNat) ⟨_, g, rfl, n, rfl⟩ c2 (by omega) ?_ c3 (hq z s.toks hz)
            unfold seqIndex?
            have h1 : 0 ≤ i + (vs.toArray.size : Int) := by omega
            have h2 : i + (vs.toArray.size : Int) < (vs.toArray.size : Int) := by omega
            simp only [c0, if_true, h1, h2, decide_true, Bool.and_self]
        · cases e
  · cases e
end
end Mine
end
section
/-! ## text R7 -/
set_option maxRecDepth 100000
set_option maxHeartbeats 8000000
namespace Mine
/-! slices -/
theorem All2.slice {α β : Type} {R : α → β → Prop} {l : List α} {m : List β} (h : All2 R l m) : ∀ (ks : List Nat), All2 R (ks.filterMap fun k => l[k]?) (ks.filterMap fun k => m[k]?)
  | [] => .nil
  | k :: ks => by
    rw [List.filterMap_cons, List.filterMap_cons]
    cases e : l[k]? with
    | none =>
      cases e' : m[k]? with
      | none => exact h.slice ks
      | some b => obtain ⟨a, ea, _⟩ := h.get e'; rw [e] at ea; cases ea
    | some a =>
      obtain ⟨b, eb, r⟩ := h.getL e
      rw [eb]
      exact .cons r (h.slice ks)
noncomputable def IsP (v : Value) (o : Option Int) : Prop := (v = .none ∧ o = none) ∨ ∃ i t, v = .int i t ∧ o = some i
theorem IsP.part {v : Value} {o : Option Int} (h : IsP v o) : IsPart v o := by
  rcases h with ⟨rfl, rfl⟩ | ⟨i, t, rfl, rfl⟩
  · exact .none
  · exact .int i t
theorem IsP.opt {v : Value} {o : Option Int} (h : IsP v o) : ∃ p : Option (Int × Tok), v = partValue p ∧ p.map (·.1) = o := by
  rcases h with ⟨rfl, rfl⟩ | ⟨i, t, rfl, rfl⟩
  · exact ⟨none, rfl, rfl⟩
  · exact ⟨some (i, t), rfl, rfl⟩
section
variable {w : World} {A : Around} {E : Value → Shared → Prop} {B : Heap} {α : Al} {s : Shared} {σ : List Ob} {P : Params}
theorem cut_ok {k : Heap} {value slice : Expr} {v vl vu : Value} {r X : RV} {lo hi : Option Int} {Q : Value → Shared → Prop} (R : Rel w.params B α σ s.heap) (h : RIs k α s.heap v r) (hl : IsP vl lo) (hu : IsP vu hi) (e : cutI σ r lo hi = some X)
    (hq : ∀ z s', Post w.params B noW α s α σ s' → RIs s.heap α s'.heap z X → Q z s') :
    wpAny (Mo w) A (subscriptTail value slice v (.ref s.heap.objs.size)) Q E { s with heap := s.heap.push { cls := .type "slice", data := .fields #[vl, vu, .none] } } := by
  have hp : Post w.params B noW α s α σ { s with heap := s.heap.push { cls := .type "slice", data := .fields #[vl, vu, .none] } } := Post.push (tk := s.toks) R _
  have R' := hp.rel
  have h' := h.post hp
  unfold cutI at e
  split at e
  · split at e
    · rename_i hz
      cases e
      obtain ⟨t, rfl⟩ := h
      obtain ⟨l, rfl, el⟩ := hl.opt
      obtain ⟨u, rfl, eu⟩ := hu.opt
      refine tailS (wpAny_getItem_str_slice (l := l) (u := u) (st := none) ⟨_, Heap.get?_push_size _ rfl, rfl, rfl⟩ rfl ?_)
      subst el eu
      refine post_val_or_str ⟨Nat.le_trans (Txt.slice_le _ _ _) hz, fun t' k => ?_⟩
      exact hq _ _ (hp.trans (Post.tok hp.rel)) ⟨t', rfl⟩
    · cases e
  · split at e
    · rename_i l el
      split at e
      · rename_i hz
        cases e
        obtain ⟨a, vs, n, rfl, g, r⟩ := seq_at R' h' el
        refine tailL g ?_
        have hz' : vs.toArray.size ≤ sizeLine := by rw [List.size_toArray, r.length]; exact hz
        refine wpAny_getItem_list_slice (isList_of g) (Heap.IsSliceOf.new _ _ _ _) hl.part hu.part .none (by simp) ?_ hz'
        refine hq _ _ (hp.trans (Post.push hp.rel _ (tk := s.toks))) ⟨_, _, 0, rfl, ?_, new_notX R', Heap.get?_push_size _ rfl, ?_⟩
        · exact Heap.get?_none_of_le (by rw [Heap.size_push]; exact Nat.le_succ _)
        · have q := (r.imp (S := IIs α ((s.heap.push { cls := .type "slice", data := .fields #[vl, vu, .none] }).push { cls := .type "list", data := .seq (slicePick vs.toArray lo hi none) })) fun _ _ z => z.keeps fun _ _ e => Heap.get?_push_of_some _ e).slice
            (sliceRange (sliceBounds lo hi none l.length).1 (sliceBounds lo hi none l.length).2.1 (sliceBounds lo hi none l.length).2.2)
          rw [← r.length] at q
          have : vs.toArray.size = vs.length := by simp
          simp only [List.getElem?_toArray, this]
          unfold sliceL
          rw [← r.length]
          exact q
      · cases e
    · cases e
end
noncomputable def PartOk (n : Nat) (nm : Nm) (ρ : Rho) (σ : List Ob) (oe : Option Expr) (o : Option Int) (σ' : List Ob) : Prop :=
  ∀ (w : World) (A : Around) (B : Heap) (α : Al) (env : Env) (s : Shared) (Q E : Value → Shared → Prop), Bs w B → Room n A → FR B nm α ρ env s.heap → Rel w.params B α σ s.heap →
    (∀ v α' s', Post w.params B noW α s α' σ' s' → IsP v o → Q v s') → wpAny (Mo w) A (evalPart oe env) Q E s
section
variable {n : Nat} {nm : Nm} {ρ : Rho} {σ σ₁ σ₂ σ₃ : List Ob}
theorem PartOk.none : PartOk n nm ρ σ none none σ := by
  intro w A B α env s Q E b rm F R hq
  exact evalPart_none_step (hq _ _ _ (Post.refl R) (.inl ⟨rfl, rfl⟩))
theorem PartOk.some {e : Expr} {i : Int} (h : EvOk n nm ρ σ e (.at (.int i)) σ₁) : PartOk n nm ρ σ (some e) (some i) σ₁ := by
  intro w A B α env s Q E b rm F R hq
  refine evalPart_some_step (h w A B α env s _ _ b rm F R fun v α' s' p r => ?_)
  obtain ⟨t, rfl⟩ := r
  exact hq _ _ _ p (.inr ⟨i, t, rfl, rfl⟩)
theorem EvOk.sub {value slice : Expr} {pos : Pos} {r : RV} {i : At} {X : V} (h1 : EvOk n nm ρ σ value r σ₁) (h2 : EvOk n nm ρ σ₁ slice (.at i) σ₂) (h : idxI σ₂ r i = some X) : EvOk n nm ρ σ (.Subscript value slice pos) (.v X) σ₂ := by
  intro w A B α env s Q E bs rm F R hq
  refine Subscript_ (h1 w A B α env s _ _ bs rm F R fun v1 α1 s1 p1 r1 => h2 w A B α1 env s1 _ _ bs rm (F.post R p1) p1.rel fun v2 α2 s2 p2 r2 => ?_)
  refine idx_ok p2.rel (r1.post p2) r2 h fun z k hz => ?_
  exact hq z _ _ ((p1.trans p2).trans (Post.tok p2.rel)) hz
theorem EvOk.cut {value : Expr} {lo hi : Option Expr} {p pos : Pos} {r X : RV} {l u : Option Int} (h1 : EvOk n nm ρ σ value r σ₁) (h2 : PartOk n nm ρ σ₁ lo l σ₂) (h3 : PartOk n nm ρ σ₂ hi u σ₃) (h : cutI σ₃ r l u = some X) :
    EvOk n nm ρ σ (.Subscript value (.Slice lo hi none p) pos) X σ₃ := by
  intro w A B α env s Q E bs rm F R hq
  refine Subscript_ (h1 w A B α env s _ _ bs rm F R fun v1 α1 s1 p1 r1 => ?_)
  have F1 := F.post R p1
  refine wpAny_Slice (h2 w A B α1 env s1 _ _ bs rm F1 p1.rel fun v2 α2 s2 p2 r2 => h3 w A B α2 env s2 _ _ bs rm (F1.post p1.rel p2) p2.rel fun v3 α3 s3 p3 r3 => evalPart_none_step ?_)
  refine cut_ok p3.rel ((r1.post p2).post p3) r2 r3 h fun z s' p hz => ?_
  exact hq z _ _ (((p1.trans p2).trans p3).trans p) (hz.weak (p1.grow.trans (p2.grow.trans p3.grow)))
end

/-! comparisons of lists, tuples -/
noncomputable def dataAt : At → Option PyData
  | .none => some .none
  | .bool b => some (.bool b)
  | .int i => some (.int i)
  | .str x => some (.str x)
  | _ => none
noncomputable def dataAts : List At → Option (List PyData)
  | [] => some []
  | x :: r => match dataAt x, dataAts r with
    | some d, some ds => some (d :: ds)
    | _, _ => none
noncomputable def dataIt : It → Option PyData
  | .at a => dataAt a
  | .tup l => (dataAts l).map .tuple
noncomputable def dataIts : List It → Option (List PyData)
  | [] => some []
  | x :: r => match dataIt x, dataIts r with
    | some d, some ds => some (d :: ds)
    | _, _ => none
noncomputable def dataOf (σ : List Ob) (r : RV) : Option PyData := match seqOf σ r with
  | some l => (dataIts l).map .list
  | none => match r with
    | .v (.it x) => dataIt x
    | _ => none
noncomputable def strsIt : List It → Option (List Str)
  | [] => some []
  | .at (.str x) :: r => (strsIt r).map (x :: ·)
  | _ => none
noncomputable def strsOf (σ : List Ob) (r : RV) : Option (List Str) := (seqOf σ r).bind strsIt
noncomputable def cmpD (σ : List Ob) (op : CmpOp) (a b : RV) : Option Bool := match op with
  | .Eq => match dataOf σ a, dataOf σ b with
    | some x, some y => if SeqAt.shaped x && SeqAt.shaped y then some (PyData.eqv x y) else none
    | _, _ => none
  | .NotEq => match dataOf σ a, dataOf σ b with
    | some x, some y => if SeqAt.shaped x && SeqAt.shaped y then some (!PyData.eqv x y) else none
    | _, _ => none
  | .In => match a with
    | .v (.it (.at (.str x))) => (strsOf σ b).map fun l => l.any (· == x)
    | _ => none
  | _ => none
noncomputable def cmpR (σ : List Ob) (op : CmpOp) (a b : RV) : Option Bool := match a, b with
  | .v (.it (.at x)), .v (.it (.at y)) => match cmpI op x y with
    | some r => some r
    | none => cmpD σ op a b
  | _, _ => cmpD σ op a b
section
variable {w : World} {A : Around} {E : Value → Shared → Prop} {B : Heap} {α : Al} {s : Shared} {σ : List Ob} {P : Params} {h : Heap}
theorem dataAt_ok {v : Value} {x : At} {d : PyData} (H : AIs α v x) (e : dataAt x = some d) : ∃ as, Reads h v d as := by
  unfold dataAt at e
  split at e <;> cases e
  · cases H; exact ⟨_, .none⟩
  · cases H; exact ⟨_, .bool _⟩
  · obtain ⟨t, rfl⟩ := H; exact ⟨_, .int _ _⟩
  · obtain ⟨t, rfl⟩ := H; exact ⟨_, .str _ _⟩
theorem dataAts_ok : ∀ {vs : List Value} {l : List At} {ds : List PyData}, All2 (AIs α) vs l → dataAts l = some ds → ∃ as, ReadsAll h vs ds as
  | _, _, _, .nil, e => by cases e; exact ⟨_, .nil⟩
  | _, x :: l, ds, .cons a b, e => by
    unfold dataAts at e
    cases e1 : dataAt x with
    | none => rw [e1] at e; cases e
    | some d =>
      cases e2 : dataAts l with
      | none => rw [e1, e2] at e; cases e
      | some ds' =>
        rw [e1, e2] at e; cases e
        obtain ⟨as, r⟩ := dataAt_ok (h := h) a e1
        obtain ⟨bs, r'⟩ := dataAts_ok b e2
        exact ⟨_, .cons r r'⟩
theorem dataIt_ok {v : Value} {x : It} {d : PyData} (H : IIs α h v x) (e : dataIt x = some d) : ∃ as, Reads h v d as := by
  cases x with
  | «at» a => exact dataAt_ok (show AIs α v a from H) e
  | tup l =>
    obtain ⟨ds, e1, e2⟩ := Option.map_eq_some_iff.mp (show (dataAts l).map PyData.tuple = some d from e)
    subst e2
    obtain ⟨a, vs, n, rfl, _, g, r⟩ := H
    obtain ⟨as, r'⟩ := dataAts_ok (h := h) r e1
    exact ⟨_, .tuple g rfl rfl r'⟩
theorem dataIts_ok : ∀ {vs : List Value} {l : List It} {ds : List PyData}, All2 (IIs α h) vs l → dataIts l = some ds → ∃ as, ReadsAll h vs ds as
  | _, _, _, .nil, e => by cases e; exact ⟨_, .nil⟩
  | _, x :: l, ds, .cons a b, e => by
    unfold dataIts at e
    cases e1 : dataIt x with
    | none => rw [e1] at e; cases e
    | some d =>
      cases e2 : dataIts l with
      | none => rw [e1, e2] at e; cases e
      | some ds' =>
        rw [e1, e2] at e; cases e
        obtain ⟨as, r⟩ := dataIt_ok a e1
        obtain ⟨bs, r'⟩ := dataIts_ok b e2
        exact ⟨_, .cons r r'⟩
theorem dataOf_ok {k : Heap} {v : Value} {r : RV} {d : PyData} (R : Rel P B α σ s.heap) (H : RIs k α s.heap v r) (e : dataOf σ r = some d) : ∃ as, Reads s.heap v d as := by
  unfold dataOf at e
  split at e
  · rename_i l el
    obtain ⟨a, vs, n, rfl, g, r'⟩ := seq_at R H el
    obtain ⟨ds, e1, e2⟩ := Option.map_eq_some_iff.mp e
    subst e2
    obtain ⟨as, r''⟩ := dataIts_ok r' e1
    exact ⟨_, .list g rfl rfl r''⟩
  · split at e
    · exact dataIt_ok H e
    · cases e
theorem strsIt_ok : ∀ {vs : List Value} {l : List It} {ds : List Str}, All2 (IIs α h) vs l → strsIt l = some ds → StrsAre vs ds
  | _, _, _, .nil, e => by cases e; exact .nil
  | _, x :: l, ds, .cons a b, e => by
    unfold strsIt at e
    split at e
    · rename_i heq; cases heq
    · rename_i x' r' heq
      cases heq
      obtain ⟨ds', e1, e2⟩ := Option.map_eq_some_iff.mp e
      subst e2
      obtain ⟨t, rfl⟩ := a
      exact .cons _ _ (strsIt_ok b e1)
    · cases e
theorem strsOf_ok {k : Heap} {v : Value} {r : RV} {l : List Str} (R : Rel P B α σ s.heap) (H : RIs k α s.heap v r) (e : strsOf σ r = some l) : ∃ (a : Nat) (vs : List Value) (n : Nat), v = .ref a ∧ s.heap.get? a = some (listObj vs n) ∧ StrsAre vs l := by
  obtain ⟨its, e1, e2⟩ := Option.bind_eq_some_iff.mp (show (seqOf σ r).bind strsIt = some l from e)
  obtain ⟨a, vs, n, rfl, g, r'⟩ := seq_at R H e1
  exact ⟨a, vs, n, rfl, g, strsIt_ok r' e2⟩
theorem cmpD_ok {k k' : Heap} {op : CmpOp} {a b : RV} {c : Bool} {u v : Value} {Q : Value → Shared → Prop} (e : cmpD σ op a b = some c) (hA : A.units + 64 < cLine) (R : Rel P B α σ s.heap) (hu : RIs k α s.heap u a) (hv : RIs k' α s.heap v b)
    (h : Q (.bool c) s) : wpAny (Mo w) A (compareOp op u v) Q E s := by
  unfold cmpD at e
  split at e
  · split at e
    · rename_i x y ex ey
      split at e
      · rename_i hs
        cases e
        obtain ⟨as, r1⟩ := dataOf_ok R hu ex
        obtain ⟨bs, r2⟩ := dataOf_ok R hv ey
        rw [Bool.and_eq_true_iff] at hs
        exact eq_dataH r1 r2 hs.1 hs.2 hA h
      · cases e
    · cases e
  · split at e
    · rename_i x y ex ey
      split at e
      · rename_i hs
        cases e
        obtain ⟨as, r1⟩ := dataOf_ok R hu ex
        obtain ⟨bs, r2⟩ := dataOf_ok R hv ey
        rw [Bool.and_eq_true_iff] at hs
        exact ne_dataH r1 r2 hs.1 hs.2 hA h
      · cases e
    · cases e
  · split at e
    · obtain ⟨l, e1, e2⟩ := Option.map_eq_some_iff.mp e
      obtain ⟨t, rfl⟩ := hu
      obtain ⟨a, vs, n, rfl, g, r⟩ := strsOf_ok R hv e1
      subst e2
      exact in_list_strs (isList_of g) r h
    · cases e
  · cases e
theorem cmpR_ok {k k' : Heap} {op : CmpOp} {a b : RV} {c : Bool} {u v : Value} {Q : Value → Shared → Prop} (e : cmpR σ op a b = some c) (hA : A.units + 64 < cLine) (R : Rel P B α σ s.heap) (hu : RIs k α s.heap u a) (hv : RIs k' α s.heap v b)
    (h : Q (.bool c) s) : wpAny (Mo w) A (compareOp op u v) Q E s := by
  unfold cmpR at e
  split at e
  · split at e
    · rename_i r er
      cases e
      exact cmp_ok er hu hv h
    · exact cmpD_ok e hA R hu hv h
  · exact cmpD_ok e hA R hu hv h
end
section
variable {n : Nat} {nm : Nm} {ρ : Rho} {σ σ₁ σ₂ σ₃ : List Ob}
theorem EvOk.cmpR {l r : Expr} {op : CmpOp} {pos : Pos} {a b : RV} {c : Bool} (hn : 4 ≤ n) (h1 : EvOk n nm ρ σ l a σ₁) (h2 : EvOk n nm ρ σ₁ r b σ₂) (h : cmpR σ₂ op a b = some c) (hm : behindInMarks op r = false) :
    EvOk n nm ρ σ (.Compare l [op] [r] pos) (.at (.bool c)) σ₂ := by
  intro w A B α env s Q E bs rm F R hq
  refine wpAny_Compare1 (h1 w A B α env s _ _ bs rm F R fun v1 α1 s1 p1 r1 => h2 w A B α1 env s1 _ _ bs rm (F.post R p1) p1.rel fun v2 α2 s2 p2 r2 => ?_) hm
  exact cmpR_ok h (by have := rm.units; omega) p2.rel (r1.post p2) r2 (hq _ _ _ (p1.trans p2) rfl)
theorem TrOk.cmpR {l r : Expr} {op : CmpOp} {pos : Pos} {a b : RV} {c : Bool} (hn : 4 ≤ n) (h1 : EvOk n nm ρ σ l a σ₁) (h2 : EvOk n nm ρ σ₁ r b σ₂) (h : Mine.cmpR σ₂ op a b = some c) (hm : behindInMarks op r = false) :
    TrOk n nm ρ σ (.Compare l [op] [r] pos) c σ₂ := by
  intro w A B α env s Q E bs rm F R hq
  refine wpAny_isTrue_Compare1 (h1 w A B α env s _ _ bs rm F R fun v1 α1 s1 p1 r1 => h2 w A B α1 env s1 _ _ bs rm (F.post R p1) p1.rel fun v2 α2 s2 p2 r2 => ?_) hm
  exact cmpR_ok h (by have := rm.units; omega) p2.rel (r1.post p2) r2 (wpAny_truthy_bool (hq _ _ (p1.trans p2)))

/-! truth -/
noncomputable def truI : RV → Option Bool
  | .v (.it (.at .none)) => some false
  | .v (.it (.at (.bool b))) => some b
  | .v (.it (.at (.int i))) => some (i != 0)
  | .v (.it (.at (.str x))) => if x.length ≤ sizeLine then some ((x.length : Int) != 0) else none
  | _ => none
theorem tru_ok {w : World} {A : Around} {E : Value → Shared → Prop} {α : Al} {s : Shared} {k : Heap} {v : Value} {r : RV} {b : Bool} {Q : Bool → Shared → Prop} (H : RIs k α s.heap v r) (e : truI r = some b) (h : ∀ k, Q b { s with toks := k }) : wpAny (Mo w) A (truthy v) Q E s := by
  unfold truI at e
  split at e
  · cases e; cases H; exact truthy_none (h s.toks)
  · cases e; cases H; exact wpAny_truthy_bool (h s.toks)
  · cases e; obtain ⟨t, rfl⟩ := H; exact PySem.P.truthy_int (h s.toks)
  · split at e
    · rename_i hz
      cases e; obtain ⟨t, rfl⟩ := H
      exact PySem.P.truthy_str (by have : sizeLine < 2 ^ 60 := by decide
                                   omega) (h _)
    · cases e
  · cases e
noncomputable def isPlainT : Expr → Bool
  | .UnaryOp .. => false
  | .BoolOp .. => false
  | .IfExp .. => false
  | .Compare .. => false
  | _ => true
theorem isTrue_of_plain {e : Expr} (he : isPlainT e = true) (env : Env) (whole : Sem Value) : isTrue e env whole = (do let v ← whole; standAt e.pos; holding [v] (truthy v)) := by
  cases e <;> first | rfl | (cases he)
theorem TrOk.val {e : Expr} {r : RV} {b : Bool} (he : isPlainT e = true) (h : EvOk n nm ρ σ e r σ₁) (ht : truI r = some b) : TrOk n nm ρ σ e b σ₁ := by
  intro w A B α env s Q E bs rm F R hq
  refine isTrue_plain (h w A B α env s _ _ bs rm F R fun v α' s' p rr => ?_) (isTrue_of_plain he _ _)
  exact tru_ok rr ht fun k => hq _ _ (p.trans (Post.tok p.rel))
/-- all of a BoolOp's parts as a test -/
noncomputable def AllOk (n : Nat) (nm : Nm) (ρ : Rho) (op : BoolOp) (σ : List Ob) (es : List Expr) (b : Bool) (σ' : List Ob) : Prop :=
  ∀ (w : World) (A : Around) (B : Heap) (α : Al) (env : Env) (s : Shared) (Q : Bool → Shared → Prop) (E : Value → Shared → Prop), Bs w B → Room n A → FR B nm α ρ env s.heap → Rel w.params B α σ s.heap →
    (∀ α' s', Post w.params B noW α s α' σ' s' → Q b s') → wpAny (Mo w) A (allTrue op es env) Q E s
theorem AllOk.nil {op : BoolOp} : AllOk n nm ρ op σ [] (op == .And) σ := by
  intro w A B α env s Q E bs rm F R hq
  exact wpAny_pure (hq _ _ (Post.refl R))
theorem AllOk.stopAnd {e : Expr} {es : List Expr} (h : TrOk n nm ρ σ e false σ₁) : AllOk n nm ρ .And σ (e :: es) false σ₁ := by
  intro w A B α env s Q E bs rm F R hq
  refine wpAny_allTrue_And_cons (h w A B α env s _ _ bs rm F R fun α' s' p => ?_)
  rw [if_neg (by decide)]; exact hq _ _ p
theorem AllOk.goAnd {e : Expr} {es : List Expr} {b : Bool} (h : TrOk n nm ρ σ e true σ₁) (h2 : AllOk n nm ρ .And σ₁ es b σ₂) : AllOk n nm ρ .And σ (e :: es) b σ₂ := by
  intro w A B α env s Q E bs rm F R hq
  refine wpAny_allTrue_And_cons (h w A B α env s _ _ bs rm F R fun α' s' p => ?_)
  rw [if_pos rfl]
  exact h2 w A B α' env s' _ _ bs rm (F.post R p) p.rel fun α'' s'' p' => hq _ _ (p.trans p')
theorem AllOk.stopOr {e : Expr} {es : List Expr} (h : TrOk n nm ρ σ e true σ₁) : AllOk n nm ρ .Or σ (e :: es) true σ₁ := by
  intro w A B α env s Q E bs rm F R hq
  refine wpAny_allTrue_Or_cons (h w A B α env s _ _ bs rm F R fun α' s' p => ?_)
  rw [if_pos rfl]; exact hq _ _ p
theorem AllOk.goOr {e : Expr} {es : List Expr} {b : Bool} (h : TrOk n nm ρ σ e false σ₁) (h2 : AllOk n nm ρ .Or σ₁ es b σ₂) : AllOk n nm ρ .Or σ (e :: es) b σ₂ := by
  intro w A B α env s Q E bs rm F R hq
  refine wpAny_allTrue_Or_cons (h w A B α env s _ _ bs rm F R fun α' s' p => ?_)
  rw [if_neg (by decide)]
  exact h2 w A B α' env s' _ _ bs rm (F.post R p) p.rel fun α'' s'' p' => hq _ _ (p.trans p')
theorem TrOk.bool {op : BoolOp} {es : List Expr} {pos : Pos} {b : Bool} (h : AllOk n nm ρ op σ es b σ₁) : TrOk n nm ρ σ (.BoolOp op es pos) b σ₁ := by
  intro w A B α env s Q E bs rm F R hq
  exact wpAny_isTrue_BoolOp (h w A B α env s _ _ bs rm F R hq)
/-- a BoolOp of two, as a value: the left one's truth decides -/
noncomputable def stopsB : BoolOp → Bool → Bool
  | .And, false => true
  | .Or, true => true
  | _, _ => false
theorem EvOk.bool2 {op : BoolOp} {x y : Expr} {pos : Pos} {r r' : RV} {b : Bool} (h1 : EvOk n nm ρ σ x r σ₁) (ht : truI r = some b) (h2 : if stopsB op b = true then r' = r ∧ σ₂ = σ₁ else EvOk n nm ρ σ₁ y r' σ₂) :
    EvOk n nm ρ σ (.BoolOp op [x, y] pos) r' σ₂ := by
  intro w A B α env s Q E bs rm F R hq
  rw [arm_eval_BoolOp]
  show wpAny (Mo w) A (do
    let v ← eval x env
    standAt pos
    let t ← holding [v] (truthy v)
    match op, t with
    | .And, false | .Or, true => pure v
    | _, _ => boolOp pos op [eval y env]) Q E s
  refine wpAny_bind (h1 w A B α env s _ _ bs rm F R fun v α' s' p rr => wpAny_bind (wpAny_standAt (wpAny_bind (wpAny_holding ?_))))
  refine tru_ok rr ht fun k => ?_
  have p' := p.trans (Post.tok (W := noW) (tk := k) p.rel)
  have go : EvOk n nm ρ σ₁ y r' σ₂ → wpAny (Mo w) A (boolOp pos op [eval y env]) Q E { s' with toks := k } := fun h2 =>
    h2 w A B α' env _ _ _ bs rm (F.post R p') p'.rel fun v α'' s'' p'' rr' => hq _ _ _ (p'.trans p'') (rr'.weak p'.grow)
  cases op <;> cases b <;> simp only [stopsB, if_true, if_false, Bool.false_eq_true] at h2
  · obtain ⟨rfl, rfl⟩ := h2; exact wpAny_pure (hq _ _ _ p' (rr.post (Post.tok (W := noW) (tk := k) p.rel)))
  · exact go h2
  · exact go h2
  · obtain ⟨rfl, rfl⟩ := h2; exact wpAny_pure (hq _ _ _ p' (rr.post (Post.tok (W := noW) (tk := k) p.rel)))

/-! list + list -/
theorem EvOk.cat {l r : Expr} {pos : Pos} {a b : RV} {x y : List It} (h1 : EvOk n nm ρ σ l a σ₁) (h2 : EvOk n nm ρ σ₁ r b σ₂) (ha : seqOf σ₂ a = some x) (hb : seqOf σ₂ b = some y) (hz : x.length + y.length ≤ sizeLine) :
    EvOk n nm ρ σ (.BinOp l .Add r pos) (.new (x ++ y)) σ₂ := by
  intro w A B α env s Q E bs rm F R hq
  refine wpAny_BinOp (h1 w A B α env s _ _ bs rm F R fun v1 α1 s1 p1 r1 => h2 w A B α1 env s1 _ _ bs rm (F.post R p1) p1.rel fun v2 α2 s2 p2 r2 => ?_)
  obtain ⟨a, vs, k, rfl, g, rx⟩ := seq_at p2.rel (r1.post p2) ha
  obtain ⟨b, us, k', rfl, g', ry⟩ := seq_at p2.rel r2 hb
  have e : vs.toArray ++ us.toArray = (vs ++ us).toArray := by simp
  refine concat_meets ⟨_, g, rfl⟩ ⟨_, g', rfl⟩ noFill_list_add seq_list_add PySem.F.slot_list_add PySem.F.entry_list_add (PySem.F.args_list_add_2 _ _) (list_addW a b vs.toArray us.toArray k k' none none #[] #[] (by simp only [List.size_toArray, rx.length, ry.length]; exact hz)) ⟨g, g', ?_⟩
  rw [e]
  refine hq _ _ _ ((p1.trans p2).trans (Post.push p2.rel _ (tk := s2.toks))) ⟨s2.heap.objs.size, _, 0, rfl, (p1.grow.trans p2.grow) _ (Heap.get?_none_of_le (Nat.le_refl _)), new_notX p2.rel, Heap.get?_push_size _ rfl, ?_⟩
  exact (rx.app ry).imp fun _ _ z => z.keeps fun _ _ e => Heap.get?_push_of_some _ e
end
end Mine
end
section
/-! ## text R8 -/
set_option maxRecDepth 100000
set_option maxHeartbeats 8000000
namespace Mine
/-! iterators -/
inductive Src where
  | str (x : Str)
  | rng (n : Nat)
  | lst (j : Nat)
noncomputable def srcL (σ : List Ob) : Src → Option (List V)
  | .str x => some (x.cps.toList.map fun c => V.str ⟨#[c]⟩)
  | .rng n => some ((List.range n).map fun i => V.int (i : Nat))
  | .lst j => match σ[j]? with
    | some (.list l) => some (l.map V.it)
    | _ => none
noncomputable def IterSt (α : Al) (h : Heap) (I : Nat) (src : Src) (i : Nat) : Prop := match src with
  | .str x => ∃ t, h.IsStrIter I "str_ascii_iterator" x t i ∨ h.IsStrIter I "str_iterator" x t i
  | .rng n => IsRangeIter h I (i : Int) ((n : Int) - (i : Int)) 1
  | .lst j => ∃ p : Nat × Nat, α[j]? = some p ∧ h.IsListIter I p.1 i
section
variable {w : World} {A : Around} {E : Value → Shared → Prop} {B : Heap} {nm : Nm} {α α' α₀ : Al} {ρ ρ' : Rho} {env : Env} {s s' s₀ : Shared} {σ σ' σ₀ : List Ob} {P : Params} {W : Nat → Prop} {h h' : Heap} {I : Nat} {src : Src} {i : Nat}
theorem IterSt.fields (H : IterSt α h I src i) : ∃ o, h.get? I = some o ∧ ∃ fs, o.data = .fields fs := by
  cases src with
  | str x => obtain ⟨t, ⟨o, e, _, d⟩ | ⟨o, e, _, d⟩⟩ := H <;> exact ⟨o, e, _, d⟩
  | rng n => exact ⟨_, H, _, rfl⟩
  | lst j => obtain ⟨p, _, o, e, _, d⟩ := H; exact ⟨o, e, _, d⟩
theorem IterSt.move {m : Al} (H : IterSt α h I src i) (k : ∀ o, h.get? I = some o → h'.get? I = some o) : IterSt (α ++ m) h' I src i := by
  cases src with
  | str x =>
    obtain ⟨t, ⟨o, e, c, d⟩ | ⟨o, e, c, d⟩⟩ := H
    · exact ⟨t, .inl ⟨o, k _ e, c, d⟩⟩
    · exact ⟨t, .inr ⟨o, k _ e, c, d⟩⟩
  | rng n => exact k _ H
  | lst j =>
    obtain ⟨p, hp, o, e, c, d⟩ := H
    exact ⟨p, by rw [List.getElem?_append_left]; exact hp; exact (List.getElem?_eq_some_iff.mp hp).1, o, k _ e, c, d⟩
theorem IterSt.notX (H : IterSt α s.heap I src i) (R : Rel P B α σ s.heap) : ¬ InX α I := by
  intro q
  obtain ⟨o, e, fs, d⟩ := H.fields
  obtain ⟨o', e', k⟩ := R.inX_some q
  rw [e] at e'
  cases e'
  rcases k with ⟨vs, n, rfl⟩ | ⟨d', rfl⟩ | ⟨es, n, rfl⟩ <;> cases d
theorem FW.ownData (F : FW B nm α ρ env h) {b : Nat} (hb : ownW env b) : ∃ o, h.get? b = some o ∧ (∀ its n, o.data ≠ .seq its n) ∧ (∀ fs, o.data ≠ .fields fs) := by
  rcases hb with rfl | ⟨x, hk, hl⟩
  · obtain ⟨m, hF, _⟩ := F.fr
    obtain ⟨o, es, ep, e, d, _⟩ := hF.ns
    exact ⟨o, e, (fun _ _ q => by rw [d] at q; cases q), (fun _ q => by rw [d] at q; cases q)⟩
  · obtain ⟨c, v, e, ⟨o, e', d⟩, _⟩ := F.cellOk x hk
    rw [hl] at e; cases e
    exact ⟨o, e', (fun _ _ q => by rw [d] at q; cases q), (fun _ q => by rw [d] at q; cases q)⟩
theorem IterSt.notW (H : IterSt α h I src i) (F : FW B nm α ρ env h) : ¬ ownW env I := by
  intro q
  obtain ⟨o, e, fs, d⟩ := H.fields
  obtain ⟨o', e', _, k⟩ := F.ownData q
  rw [e] at e'; cases e'
  exact k _ d
theorem IterSt.post (H : IterSt α s.heap I src i) (R : Rel P B α σ s.heap) (hW : ¬ W I) (p : Post P B W α s α' σ' s') : IterSt α' s'.heap I src i := by
  obtain ⟨m, rfl, hm⟩ := p.ext
  exact H.move fun o e => p.frm _ o e (H.notX R) hW
/-! a heap that changes at one place alone -/
theorem IIs.but {v : Value} {X : It} (H : IIs α h v X) (hs : Heap.ExtBut I h h') (hq : ∀ o, h.get? I = some o → ∀ its n, o.data ≠ .seq its n) : IIs α h' v X :=
  H.keep fun b vs n e _ => hs b _ (by rintro rfl; exact hq _ e _ _ rfl) e
theorem VIs.but {v : Value} {X : V} (H : VIs α h v X) (hs : Heap.ExtBut I h h') (hq : ∀ o, h.get? I = some o → ∀ its n, o.data ≠ .seq its n) (hn : X ≠ .nod I) : VIs α h' v X :=
  H.keep fun b o e _ k => hs b o (by
    rintro rfl
    rcases k with ⟨its, n, d⟩ | k
    · exact hq _ e _ _ d
    · exact hn k) e
theorem OIs.but {p : Nat × Nat} {ob : Ob} (H : OIs P α h p ob) (hs : Heap.ExtBut I h h') (hq : ∀ o, h.get? I = some o → ∀ its n, o.data ≠ .seq its n) (h1 : p.1 ≠ I) (h2 : p.2 ≠ I) : OIs P α h' p ob := by
  cases ob with
  | list l => obtain ⟨e, vs, n, g, r⟩ := H; exact ⟨e, vs, n, hs _ _ h1 g, r.imp fun _ _ z => z.but hs hq⟩
  | hdr f =>
    obtain ⟨e1, e2, e3⟩ := H
    refine ⟨e1, hs _ _ h1 e2, ?_⟩
    cases f with
    | none => exact hs _ _ h2 e3
    | some x => obtain ⟨v, t, n, e3, r⟩ := e3; exact ⟨v, t, n, hs _ _ h2 e3, r⟩
theorem Rel.but (R : Rel P B α σ h) (hs : Heap.ExtBut I h h') (hc : ¬ InX α I) (hb : B.get? I = none) (hq : ∀ o, h.get? I = some o → ∀ its n, o.data ≠ .seq its n) : Rel P B α σ h' :=
  ⟨fun b o e => hs b o (by rintro rfl; rw [hb] at e; cases e) (R.base b o e), R.new,
   R.obs.impMem fun p hp ob z => z.but hs hq (fun e => hc ⟨p, hp, .inl e.symm⟩) (fun e => hc ⟨p, hp, .inr e.symm⟩), R.apart⟩
theorem Post.but (p : Post P B W α₀ s₀ α σ s) (hs : Heap.ExtBut I s.heap h') (hI : s₀.heap.get? I = none) (hc : ¬ InX α I) (hb : B.get? I = none) (hq : ∀ o, s.heap.get? I = some o → ∀ its n, o.data ≠ .seq its n) {tk : Nat} :
    Post P B W α₀ s₀ α σ { s with heap := h', toks := tk } := by
  obtain ⟨⟨h1, t1, rfl⟩, ex, f1, g1, r1⟩ := p
  refine ⟨⟨h', tk, rfl⟩, ex, fun b o e n w => hs b o (by rintro rfl; rw [hI] at e; cases e) (f1 b o e n w), fun b e => ?_, r1.but hs hc hb hq⟩
  by_cases hbI : b = I
  · subst hbI; exact hI
  · refine g1 b ?_
    cases q : h1.get? b with
    | none => rfl
    | some o => have := hs b o hbI q; rw [this] at e; cases e
theorem fields_noseq {o : Obj} {fs : Array Value} (d : o.data = .fields fs) (e : h.get? I = some o) : ∀ o', h.get? I = some o' → ∀ its n, o'.data ≠ .seq its n := by
  intro o' e' its n q
  rw [e] at e'; cases e'; rw [d] at q; cases q
theorem nod_ne {v : Value} {a : Nat} {o : Obj} {fs : Array Value} (H : VIs α h v (.nod a)) (e : h.get? I = some o) (d : o.data = .fields fs) : a ≠ I := by
  rintro rfl
  obtain ⟨_, _, g⟩ := H
  rw [e] at g; cases g; cases d
theorem FW.but (F : FW B nm α ρ env h) (H : IterSt α h I src i) (hs : Heap.ExtBut I h h') (hB : ∀ (b : Nat) o, B.get? b = some o → h'.get? b = some o) : FW B nm α ρ env h' := by
  have hW := H.notW F
  obtain ⟨o, e, fs, d⟩ := H.fields
  have hq := fields_noseq d e
  obtain ⟨m, hF, hm⟩ := F.fr
  have cne : ∀ c v, h.IsCell c v → c ≠ I := by
    rintro c v ⟨o', e', d'⟩ rfl
    rw [e] at e'; cases e'; rw [d] at d'; cases d'
  have L : env.locals ≠ I := fun z => hW (.inl z.symm)
  refine ⟨⟨F.fkind, F.glob, F.blt, F.kinds, ⟨m, ⟨hF.ns.extBut hs L, hB, hF.above⟩, fun x X h1 h2 => ?_⟩, fun x X h1 h2 => ?_, F.off, F.nods⟩, fun x hx => ?_, F.cap⟩
  · obtain ⟨v, e1, r⟩ := hm x X h1 h2
    exact ⟨v, e1, r.but hs hq fun z => nod_ne (z ▸ r) e d rfl⟩
  · obtain ⟨c, v, e1, ⟨o', e', d'⟩, r⟩ := F.cells x X h1 h2
    exact ⟨c, v, e1, ⟨o', hs c o' (cne c _ ⟨o', e', d'⟩) e', d'⟩, r.but hs hq fun z => nod_ne (z ▸ r) e d rfl⟩
  · obtain ⟨c, v, e1, ⟨o', e', d'⟩, b⟩ := F.cellOk x hx
    exact ⟨c, v, e1, ⟨o', hs c o' (cne c _ ⟨o', e', d'⟩) e', d'⟩, b⟩
theorem next_item {L : List V} {X : V} {Q : Option Value → Shared → Prop} (R : Rel P B α σ s.heap) (H : IterSt α s.heap I src i) (e : srcL σ src = some L) (ei : L[i]? = some X)
    (hq : ∀ v h' tk, Heap.SameBut I s.heap h' → IterSt α h' I src (i + 1) → VIs α s.heap v X → Q (some v) { s with heap := h', toks := tk }) : wpAny (Mo w) A (pyNext (.ref I)) Q E s := by
  cases src with
  | str x =>
    cases e
    rw [List.getElem?_map] at ei
    obtain ⟨c, ec, hX⟩ := Option.map_eq_some_iff.mp ei
    subst hX
    obtain ⟨t, H | H⟩ := H
    · exact wpAny_pyNext_ascii_item H (by simpa using ec) fun h' hit hs => hq _ h' _ hs ⟨t, .inl hit⟩ ⟨_, rfl⟩
    · exact wpAny_pyNext_wide_item H (by simpa using ec) fun h' hit hs => hq _ h' _ hs ⟨t, .inr hit⟩ ⟨_, rfl⟩
  | rng n =>
    cases e
    rw [List.getElem?_map] at ei
    obtain ⟨c, ec, hX⟩ := Option.map_eq_some_iff.mp ei
    subst hX
    obtain ⟨hlt, hc⟩ := List.getElem?_eq_some_iff.mp ec
    rw [List.length_range] at hlt
    rw [List.getElem_range] at hc
    subst hc
    have H' : IsRangeIter s.heap I (i : Int) ((n : Int) - (i : Int)) 1 := H
    refine wpAny_pyNext_range_item H' (by omega) fun h' hit hs => hq _ h' _ hs ?_ ⟨_, rfl⟩
    show IsRangeIter h' I ((i + 1 : Nat) : Int) ((n : Int) - ((i + 1 : Nat) : Int)) 1
    have e1 : ((i + 1 : Nat) : Int) = (i : Int) + 1 := by omega
    have e2 : (n : Int) - ((i + 1 : Nat) : Int) = (n : Int) - (i : Int) - 1 := by omega
    rw [e2, e1]; exact hit
  | lst j =>
    obtain ⟨p, hp, hit⟩ := H
    unfold srcL at e
    dsimp only at e
    cases ej : σ[j]? with
    | none => rw [ej] at e; cases e
    | some ob =>
      rw [ej] at e
      cases ob with
      | hdr f => cases e
      | list l =>
        cases e
        rw [List.getElem?_map] at ei
        obtain ⟨c, ec, hX⟩ := Option.map_eq_some_iff.mp ei
        subst hX
        obtain ⟨ob, e2, ho⟩ := R.obs.getL hp
        rw [ej] at e2
        cases e2
        obtain ⟨_, vs, n, g, r⟩ := ho
        obtain ⟨v, ev, rv⟩ := r.get ec
        refine wpAny_pyNext_list_item hit (isList_of g) (x := v) (by simpa using ev) fun h' hit' hs => hq _ h' _ hs ⟨p, hp, hit'⟩ rv
theorem next_end {L : List V} {Q : Option Value → Shared → Prop} (hh : A.handled = none) (R : Rel P B α σ s.heap) (H : IterSt α s.heap I src i) (e : srcL σ src = some L) (ei : L.length ≤ i)
    (hq : ∀ h', Heap.ExtBut I s.heap h' → Q none { s with heap := h' }) : wpAny (Mo w) A (pyNext (.ref I)) Q E s := by
  cases src with
  | str x =>
    cases e
    have : x.cps[i]? = none := by rw [Array.getElem?_eq_none_iff]; simpa using ei
    obtain ⟨t, H | H⟩ := H
    · exact wpAny_pyNext_ascii_end hh H this hq
    · exact wpAny_pyNext_wide_end hh H this hq
  | rng n =>
    cases e
    have H' : IsRangeIter s.heap I (i : Int) ((n : Int) - (i : Int)) 1 := H
    exact wpAny_pyNext_range_end hh H' (by simp at ei; omega) hq
  | lst j =>
    obtain ⟨p, hp, hit⟩ := H
    unfold srcL at e
    dsimp only at e
    cases ej : σ[j]? with
    | none => rw [ej] at e; cases e
    | some ob =>
      rw [ej] at e
      cases ob with
      | hdr f => cases e
      | list l =>
        cases e
        obtain ⟨ob, e2, ho⟩ := R.obs.getL hp
        rw [ej] at e2
        cases e2
        obtain ⟨_, vs, n, g, r⟩ := ho
        refine wpAny_pyNext_list_end hh hit (isList_of g) ?_ hq
        have := r.length
        rw [List.length_map] at ei
        rw [Array.getElem?_eq_none_iff, List.size_toArray]; omega
end
end Mine
end
section
/-! ## text R9 -/
set_option maxRecDepth 100000
set_option maxHeartbeats 8000000
namespace Mine
inductive Out where
  | go
  | brk
  | ret (r : RV)
noncomputable def FlOk (H : Heap) (α : Al) (h : Heap) (fl : Flow) : Out → Prop
  | .go => fl = .next
  | .brk => fl = .brk
  | .ret r => ∃ v, fl = .ret v ∧ RIs H α h v r
noncomputable def ExsOk (n : Nat) (nm : Nm) (ρ : Rho) (σ : List Ob) (ss : List Stmt) (o : Out) (ρ' : Rho) (σ' : List Ob) : Prop :=
  ∀ (w : World) (A : Around) (B : Heap) (α : Al) (env : Env) (s : Shared) (Q : Flow → Shared → Prop) (E : Value → Shared → Prop), Bs w B → Room n A → FW B nm α ρ env s.heap → Rel w.params B α σ s.heap →
    (∀ fl α' s', Post w.params B (ownW env) α s α' σ' s' → FW B nm α' ρ' env s'.heap → FlOk s.heap α' s'.heap fl o → Q fl s') → wpAny (Mo w) A (execs ss env) Q E s
noncomputable def ExOk (n : Nat) (nm : Nm) (ρ : Rho) (σ : List Ob) (st : Stmt) (o : Out) (ρ' : Rho) (σ' : List Ob) : Prop :=
  ∀ (w : World) (A : Around) (B : Heap) (α : Al) (env : Env) (s : Shared) (Q : Flow → Shared → Prop) (E : Value → Shared → Prop), Bs w B → Room n A → FW B nm α ρ env s.heap → Rel w.params B α σ s.heap →
    (∀ fl α' s', Post w.params B (ownW env) α s α' σ' s' → FW B nm α' ρ' env s'.heap → FlOk s.heap α' s'.heap fl o → Q fl s') → wpAny (Mo w) A (exec st env) Q E s
theorem Post.own {P : Params} {B : Heap} {W : Nat → Prop} {α α' : Al} {s s' : Shared} {σ' : List Ob} (p : Post P B noW α s α' σ' s') : Post P B W α s α' σ' s' := p.weak fun _ h => h.elim
theorem FlOk.weak {H H' : Heap} {α : Al} {h : Heap} {fl : Flow} {o : Out} (x : FlOk H' α h fl o) (d : Dom H H') : FlOk H α h fl o := by
  cases o with
  | go => exact x
  | brk => exact x
  | ret r => obtain ⟨v, e, r⟩ := x; exact ⟨v, e, r.weak d⟩
theorem FR.congr {B : Heap} {nm : Nm} {α : Al} {ρ ρ' : Rho} {env : Env} {h : Heap} (F : FR B nm α ρ env h) (e : ∀ x, ρ'.lookup x = ρ.lookup x) : FR B nm α ρ' env h := by
  obtain ⟨m, hF, hm⟩ := F.fr
  exact ⟨F.fkind, F.glob, F.blt, F.kinds, ⟨m, hF, fun x X h1 h2 => hm x X (e x ▸ h1) h2⟩, fun x X h1 h2 => F.cells x X (e x ▸ h1) h2, F.off, fun x a h1 => F.nods x a (e x ▸ h1)⟩
theorem FW.congr {B : Heap} {nm : Nm} {α : Al} {ρ ρ' : Rho} {env : Env} {h : Heap} (F : FW B nm α ρ env h) (e : ∀ x, ρ'.lookup x = ρ.lookup x) : FW B nm α ρ' env h :=
  ⟨F.toFR.congr e, F.cellOk, F.cap⟩
noncomputable def noNod : V → Bool
  | .nod _ => false
  | _ => true
theorem noNod_ne {X : V} (h : noNod X = true) {L : Nat} : ∀ a, X = .nod a → a ≠ L := by
  rintro a rfl; cases h
noncomputable def isComp : Expr → Bool
  | .ListComp .. => true
  | .SetComp .. => true
  | .DictComp .. => true
  | _ => false
theorem swaps_no {e : Expr} (h : isComp e = false) (t : Option Expr) (l : Nat) (env : Env) : swapsWith e t l env = pure false := by
  cases e <;> first | rfl | (cases h)
section
variable {n : Nat} {nm : Nm} {ρ ρ₁ ρ₂ ρ₃ : Rho} {σ σ₁ σ₂ σ₃ : List Ob}
theorem ExsOk.nil : ExsOk n nm ρ σ [] .go ρ σ := by
  intro w A B α env s Q E bs rm F R hq
  exact wpAny_execs_nil (hq _ _ _ (Post.refl R) F rfl)
theorem ExsOk.cons {st : Stmt} {ss : List Stmt} {o : Out} (h1 : ExOk n nm ρ σ st .go ρ₁ σ₁) (h2 : ExsOk n nm ρ₁ σ₁ ss o ρ₂ σ₂) : ExsOk n nm ρ σ (st :: ss) o ρ₂ σ₂ := by
  intro w A B α env s Q E bs rm F R hq
  refine wpAny_execs_cons (h1 w A B α env s _ _ bs rm F R fun fl α1 s1 p1 F1 f1 => ?_)
  cases f1
  exact h2 w A B α1 env s1 _ _ bs rm F1 p1.rel fun fl α2 s2 p2 F2 f2 => hq _ _ _ (p1.trans p2) F2 (f2.weak p1.grow)
theorem ExsOk.ret {st : Stmt} {ss : List Stmt} {r : RV} (h1 : ExOk n nm ρ σ st (.ret r) ρ₁ σ₁) : ExsOk n nm ρ σ (st :: ss) (.ret r) ρ₁ σ₁ := by
  intro w A B α env s Q E bs rm F R hq
  refine wpAny_execs_cons (h1 w A B α env s _ _ bs rm F R fun fl α1 s1 p1 F1 f1 => ?_)
  obtain ⟨v, rfl, r⟩ := f1
  exact hq _ _ _ p1 F1 ⟨v, rfl, r⟩
theorem ExsOk.brk {st : Stmt} {ss : List Stmt} (h1 : ExOk n nm ρ σ st .brk ρ₁ σ₁) : ExsOk n nm ρ σ (st :: ss) .brk ρ₁ σ₁ := by
  intro w A B α env s Q E bs rm F R hq
  refine wpAny_execs_cons (h1 w A B α env s _ _ bs rm F R fun fl α1 s1 p1 F1 f1 => ?_)
  cases f1
  exact hq _ _ _ p1 F1 rfl
theorem ExOk.assign {x : Str} {px pos : Pos} {e : Expr} {r : RV} (h1 : EvOk n nm ρ σ e r σ₁) (hc : isComp e = false) (hx : isLoc (nm.lookup x) = true) (hf : nm.lookup x ≠ some .free) (hn : noNod (matI r σ₁).1 = true) :
    ExOk n nm ρ σ (.Assign [.Name x px] e pos) .go (setL ρ x (matI r σ₁).1) (matI r σ₁).2 := by
  intro w A B α env s Q E bs rm F R hq
  refine wpAny_Assign_Name (h1 w A B α env s _ _ bs rm F.toFR R fun v1 α1 s1 p1 r1 => ?_) (swaps_no hc _ _ _)
  obtain ⟨α2, p2, r2⟩ := mat_ok p1 R.base r1
  exact st_name (F.post R p2) p2.rel hx hf r2 (noNod_ne hn) fun s3 p3 F3 => hq _ _ _ (p2.own.trans p3) F3 rfl
theorem ExOk.expr {e : Expr} {pos : Pos} {r : RV} (h1 : EvOk n nm ρ σ e r σ₁) (hc : isComp e = false) : ExOk n nm ρ σ (.Expr e pos) .go ρ σ₁ := by
  intro w A B α env s Q E bs rm F R hq
  refine wpAny_Expr_any (h1 w A B α env s _ _ bs rm F.toFR R fun v1 α1 s1 p1 r1 => hq _ _ _ p1.own (F.post R p1) rfl) ?_ (swaps_no hc _ _ _)
  unfold interactive; rw [F.fkind]; rfl
theorem ExOk.ret {e : Expr} {pos : Pos} {r : RV} (h1 : EvOk n nm ρ σ e r σ₁) : ExOk n nm ρ σ (.Return (some e) pos) (.ret r) ρ σ₁ := by
  intro w A B α env s Q E bs rm F R hq
  exact wpAny_Return_some (h1 w A B α env s _ _ bs rm F.toFR R fun v1 α1 s1 p1 r1 => hq _ _ _ p1.own (F.post R p1) ⟨v1, rfl, r1⟩)
theorem ExOk.ifT {t : Expr} {b1 b2 : List Stmt} {pos : Pos} {o : Out} (h1 : TrOk n nm ρ σ t true σ₁) (h2 : ExsOk n nm ρ σ₁ b1 o ρ₂ σ₂) : ExOk n nm ρ σ (.If t b1 b2 pos) o ρ₂ σ₂ := by
  intro w A B α env s Q E bs rm F R hq
  refine wpAny_If (h1 w A B α env s _ _ bs rm F.toFR R fun α1 s1 p1 => ?_)
  rw [if_pos rfl]
  exact h2 w A B α1 env s1 _ _ bs rm (F.post R p1) p1.rel fun fl α2 s2 p2 F2 f2 => hq _ _ _ (p1.own.trans p2) F2 (f2.weak p1.grow)
theorem ExOk.ifF {t : Expr} {b1 b2 : List Stmt} {pos : Pos} {o : Out} (h1 : TrOk n nm ρ σ t false σ₁) (h2 : ExsOk n nm ρ σ₁ b2 o ρ₂ σ₂) : ExOk n nm ρ σ (.If t b1 b2 pos) o ρ₂ σ₂ := by
  intro w A B α env s Q E bs rm F R hq
  refine wpAny_If (h1 w A B α env s _ _ bs rm F.toFR R fun α1 s1 p1 => ?_)
  rw [if_neg (by decide)]
  exact h2 w A B α1 env s1 _ _ bs rm (F.post R p1) p1.rel fun fl α2 s2 p2 F2 f2 => hq _ _ _ (p1.own.trans p2) F2 (f2.weak p1.grow)
theorem ExOk.assert {t : Expr} {pos : Pos} (h1 : TrOk n nm ρ σ t true σ₁) : ExOk n nm ρ σ (.Assert t none pos) .go ρ σ₁ := by
  intro w A B α env s Q E bs rm F R hq
  refine wpAny_Assert rm.hh (h1 w A B α env s _ _ bs rm F.toFR R fun α1 s1 p1 => ?_)
  rw [if_pos rfl]
  exact hq _ _ _ p1.own (F.post R p1) rfl
theorem ExOk.break {pos : Pos} : ExOk n nm ρ σ (.Break pos) .brk ρ σ := by
  intro w A B α env s Q E bs rm F R hq
  exact wpAny_Break (hq _ _ _ (Post.refl R) F rfl)
theorem ExsOk.congr {ss : List Stmt} {o : Out} (h : ExsOk n nm ρ σ ss o ρ₁ σ₁) (e : ∀ x, ρ₂.lookup x = ρ₁.lookup x) : ExsOk n nm ρ σ ss o ρ₂ σ₁ := by
  intro w A B α env s Q E bs rm F R hq
  exact h w A B α env s Q E bs rm F R fun fl α1 s1 p1 F1 f1 => hq _ _ _ p1 (F1.congr e) f1
/-! x op= e -/
noncomputable def augI (op : Operator) (a b : At) : Option At := match op, a, b with
  | .Add, .int a, .int b => some (.int (a + b))
  | .Sub, .int a, .int b => some (.int (a - b))
  | _, _, _ => none
theorem aug_ok {w : World} {A : Around} {E : Value → Shared → Prop} {α : Al} {s : Shared} {op : Operator} {a b r : At} {u v : Value} {Q : Value → Shared → Prop} (e : augI op a b = some r) (hu : AIs α u a) (hv : AIs α v b)
    (h : ∀ z k, AIs α z r → Q z { s with toks := k }) : wpAny (Mo w) A (inplaceOp op u v) Q E s := by
  unfold augI at e
  split at e
  · cases e; obtain ⟨t, rfl⟩ := hu; obtain ⟨t', rfl⟩ := hv; exact PyProof.Rows.iadd_int (h _ _ ⟨_, rfl⟩)
  · cases e; obtain ⟨t, rfl⟩ := hu; obtain ⟨t', rfl⟩ := hv; exact PyProof.Rows.isub_int (h _ _ ⟨_, rfl⟩)
  · cases e
theorem ExOk.aug {x : Str} {px pos : Pos} {op : Operator} {e : Expr} {a b c : At} (h0 : ρ.lookup x = some (.it (.at a))) (h1 : EvOk n nm ρ σ e (.at b) σ₁) (hx : nm.lookup x = some .local) (h : augI op a b = some c) :
    ExOk n nm ρ σ (.AugAssign (.Name x px) op e pos) .go (setL ρ x (.it (.at c))) σ₁ := by
  intro w A B α env s Q E bs rm F R hq
  have hk : env.kindOf x = some .local := by
    rcases F.kinds x _ hx with e | ⟨e, _⟩
    · exact e
    · cases e
  obtain ⟨m, hF, hm⟩ := F.fr
  obtain ⟨u, e1, r⟩ := hm x _ h0 hk
  refine wpAny_AugAssign_Name (wpAny_loadName_local F.fkind hk hF.ns e1 (h1 w A B α env s _ _ bs rm F.toFR R fun v1 α1 s1 p1 r1 => ?_))
  refine aug_ok h (p1.ais (show AIs α u a from r)) r1 fun z k hz => ?_
  have p2 : Post w.params B noW α s α1 σ₁ { s1 with toks := k } := p1.trans (Post.tok p1.rel)
  exact st_name (F.post R p2) p2.rel (by rw [hx]; rfl) (by rw [hx]; exact fun z => nomatch z) (show VIs α1 _ z (.it (.at c)) from hz) (fun a e => nomatch e) fun s3 p3 F3 => hq _ _ _ (p2.own.trans p3) F3 rfl
/-! while -/
inductive WhileD (n : Nat) (nm : Nm) (test : Expr) (body : List Stmt) : Nat → Rho → List Ob → Out → Rho → List Ob → Prop
  | done {ρ : Rho} {σ σ₁ : List Ob} : TrOk n nm ρ σ test false σ₁ → WhileD n nm test body 0 ρ σ .go ρ σ₁
  | step {k : Nat} {ρ ρ₂ ρ₃ : Rho} {σ σ₁ σ₂ σ₃ : List Ob} {o : Out} : TrOk n nm ρ σ test true σ₁ → ExsOk n nm ρ σ₁ body .go ρ₂ σ₂ → WhileD n nm test body k ρ₂ σ₂ o ρ₃ σ₃ → WhileD n nm test body (k + 1) ρ σ o ρ₃ σ₃
  | brk {ρ ρ₂ : Rho} {σ σ₁ σ₂ : List Ob} : TrOk n nm ρ σ test true σ₁ → ExsOk n nm ρ σ₁ body .brk ρ₂ σ₂ → WhileD n nm test body 0 ρ σ .go ρ₂ σ₂
  | ret {ρ ρ₂ : Rho} {σ σ₁ σ₂ : List Ob} {r : RV} : TrOk n nm ρ σ test true σ₁ → ExsOk n nm ρ σ₁ body (.ret r) ρ₂ σ₂ → WhileD n nm test body 0 ρ σ (.ret r) ρ₂ σ₂
theorem ExOk.while {test : Expr} {body : List Stmt} {pos : Pos} {k : Nat} {o : Out} (h : WhileD n nm test body k ρ σ o ρ₁ σ₁) : ExOk n nm ρ σ (.While test body [] pos) o ρ₁ σ₁ := by
  intro w A B α env s Q E bs rm F R hq
  refine wpAny_While (codeAny_whileLoop (fun m s' => ∃ k ρ' σ' α', m = k ∧ WhileD n nm test body k ρ' σ' o ρ₁ σ₁ ∧ Post w.params B (ownW env) α s α' σ' s' ∧ FW B nm α' ρ' env s'.heap) ?_ k ⟨k, ρ, σ, α, rfl, h, Post.refl R, F⟩)
  rintro m s' ⟨k, ρ', σ', α', rfl, D, p, F'⟩
  cases D with
  | done t =>
    refine t w A B α' env s' _ _ bs rm F'.toFR p.rel fun α1 s1 p1 => ?_
    rw [if_neg (by decide)]
    exact wpAny_execs_nil (hq _ _ _ (p.trans p1.own) (F'.post p.rel p1) rfl)
  | step t b D' =>
    refine t w A B α' env s' _ _ bs rm F'.toFR p.rel fun α1 s1 p1 => ?_
    rw [if_pos rfl]
    refine b w A B α1 env s1 _ _ bs rm (F'.post p.rel p1) p1.rel fun fl α2 s2 p2 F2 f2 => ?_
    cases f2
    exact ⟨_, Nat.lt_succ_self _, _, _, _, _, rfl, D', (p.trans p1.own).trans p2, F2⟩
  | brk t b =>
    refine t w A B α' env s' _ _ bs rm F'.toFR p.rel fun α1 s1 p1 => ?_
    rw [if_pos rfl]
    refine b w A B α1 env s1 _ _ bs rm (F'.post p.rel p1) p1.rel fun fl α2 s2 p2 F2 f2 => ?_
    cases f2
    exact hq _ _ _ ((p.trans p1.own).trans p2) F2 rfl
  | ret t b =>
    refine t w A B α' env s' _ _ bs rm F'.toFR p.rel fun α1 s1 p1 => ?_
    rw [if_pos rfl]
    refine b w A B α1 env s1 _ _ bs rm (F'.post p.rel p1) p1.rel fun fl α2 s2 p2 F2 f2 => ?_
    obtain ⟨v, rfl, r⟩ := f2
    exact hq _ _ _ ((p.trans p1.own).trans p2) F2 ⟨v, rfl, r.weak (p.grow.trans p1.grow)⟩
/-! for -/
noncomputable def TgOk (nm : Nm) (ρ : Rho) (src : Src) (tg : Expr) (X : V) (ρ' : Rho) : Prop :=
  ∀ (w : World) (A : Around) (B : Heap) (α : Al) (σ : List Ob) (env : Env) (s : Shared) (Q : Unit → Shared → Prop) (E : Value → Shared → Prop) (I : Nat) (i : Nat) (v : Value), A.handled = none → FW B nm α ρ env s.heap → Rel w.params B α σ s.heap →
    IterSt α s.heap I src i → VIs α s.heap v X → (∀ s', Post w.params B (ownW env) α s α σ s' → FW B nm α ρ' env s'.heap → Q () s') →
    wpAny (Mo w) A (letOwnedTupleGo tg (.ref I) v) (fun _ s1 => wpAny (Mo w) A (assign tg env v) Q E s1) E s
theorem TgOk.name {src : Src} {x : Str} {px : Pos} {X : V} (hx : isLoc (nm.lookup x) = true) (hf : nm.lookup x ≠ some .free) (hn : noNod X = true) : TgOk nm ρ src (.Name x px) X (setL ρ x X) := by
  intro w A B α σ env s Q E I i v hh F R H hv hq
  refine wpAny_pure (wpAny_assign_Name (st_name F R hx hf hv (noNod_ne hn) hq))
theorem TgOk.pair {j : Nat} {x y : Str} {px py pos : Pos} {k : Nat} {a b : At} (hx : isLoc (nm.lookup x) = true) (hf : nm.lookup x ≠ some .free) (hy : isLoc (nm.lookup y) = true) (hg : nm.lookup y ≠ some .free) :
    TgOk nm ρ (.lst j) (.Tuple [.Name x px, .Name y py] k pos) (.it (.tup [a, b])) (setL (setL ρ x (.it (.at a))) y (.it (.at b))) := by
  intro w A B α σ env s Q E I i v hh F R H hv hq
  obtain ⟨p, hp, hit⟩ := H
  obtain ⟨T, vs, n, rfl, nx, g, r⟩ := hv
  refine wpAny_letOwnedTupleGo_listiter hit ?_
  have hl := r.length
  match vs, r, hl with
  | [u, v], .cons r1 (.cons r2 .nil), _ =>
    refine wpAny_assign_Tuple hh (items := #[u, v]) ⟨_, g, rfl, n, rfl⟩ rfl rfl fun h' he => ?_
    have kp : ∀ (b : Nat) o, s.heap.get? b = some o → h'.get? b = some o := fun b o e => he b o (Nat.ne_of_lt (Heap.lt_size e)) e
    have p0 : Post w.params B noW α s α σ { s with heap := h', toks := s.toks } := Post.ofKeeps R kp
    show wpAny (Mo w) A (assignInOrder [assign (.Name x px) env, assign (.Name y py) env] [u, v]) Q E _
    refine wpAny_bind (wpAny_holding (wpAny_assign_Name (st_name (F.post R p0) p0.rel hx hf (show VIs α h' u (.it (.at a)) from r1) (fun a e => nomatch e) fun s1 p1 F1 => ?_)))
    refine wpAny_bind (wpAny_holding (wpAny_assign_Name (st_name F1 p1.rel hy hg (show VIs α s1.heap v (.it (.at b)) from r2) (fun a e => nomatch e) fun s2 p2 F2 => ?_)))
    exact wpAny_pure (hq _ ((p0.own.trans p1).trans p2) F2)
inductive LoopD (n : Nat) (nm : Nm) (src : Src) (tg : Expr) (body : List Stmt) : Nat → Nat → Rho → List Ob → Out → Rho → List Ob → Prop
  | done {i : Nat} {ρ : Rho} {σ : List Ob} {L : List V} : srcL σ src = some L → L.length ≤ i → LoopD n nm src tg body 0 i ρ σ .go ρ σ
  | step {k i : Nat} {ρ ρ₁ ρ₂ ρ₃ : Rho} {σ σ₂ σ₃ : List Ob} {L : List V} {X : V} {o : Out} : srcL σ src = some L → L[i]? = some X → TgOk nm ρ src tg X ρ₁ → ExsOk n nm ρ₁ σ body .go ρ₂ σ₂ → LoopD n nm src tg body k (i + 1) ρ₂ σ₂ o ρ₃ σ₃ → LoopD n nm src tg body (k + 1) i ρ σ o ρ₃ σ₃
  | brk {i : Nat} {ρ ρ₁ ρ₂ : Rho} {σ σ₂ : List Ob} {L : List V} {X : V} : srcL σ src = some L → L[i]? = some X → TgOk nm ρ src tg X ρ₁ → ExsOk n nm ρ₁ σ body .brk ρ₂ σ₂ → LoopD n nm src tg body 0 i ρ σ .go ρ₂ σ₂
  | ret {i : Nat} {ρ ρ₁ ρ₂ : Rho} {σ σ₂ : List Ob} {L : List V} {X : V} {r : RV} : srcL σ src = some L → L[i]? = some X → TgOk nm ρ src tg X ρ₁ → ExsOk n nm ρ₁ σ body (.ret r) ρ₂ σ₂ → LoopD n nm src tg body 0 i ρ σ (.ret r) ρ₂ σ₂
/-- the iterator of an expression -/
noncomputable def IterOk (n : Nat) (nm : Nm) (ρ : Rho) (σ : List Ob) (e : Expr) (src : Src) (σ' : List Ob) : Prop :=
  ∀ (w : World) (A : Around) (B : Heap) (α : Al) (env : Env) (s : Shared) (Q E : Value → Shared → Prop), Bs w B → Room n A → FR B nm α ρ env s.heap → Rel w.params B α σ s.heap →
    (∀ I α' s', Post w.params B noW α s α' σ' s' → s.heap.get? I = none → IterSt α' s'.heap I src 0 → Q (.ref I) s') → wpAny (Mo w) A (eval e env) (fun x s₁ => wpAny (Mo w) A (pyIter x) Q E s₁) E s
noncomputable def isSet : Expr → Bool
  | .Set .. => true
  | _ => false
theorem ExOk.for {tg iter : Expr} {body : List Stmt} {pos : Pos} {src : Src} {k : Nat} {o : Out} (hi : IterOk n nm ρ σ iter src σ₁) (h : LoopD n nm src tg body k 0 ρ σ₁ o ρ₂ σ₂) (hs : ∀ env x, foldedSetIterable iter env x = pure x) :
    ExOk n nm ρ σ (.For tg iter body [] pos) o ρ₂ σ₂ := by
  intro w A B α env s Q E bs rm F R hq
  refine wpAny_For (hi w A B α env s _ _ bs rm F.toFR R fun I α0 s0 p0 hI H0 => ?_) (hs env)
  have hBI : B.get? I = none := by
    cases q : B.get? I with
    | none => rfl
    | some o => have := R.base I o q; rw [hI] at this; cases this
  refine codeAny_forLoop_any (fun m s' => ∃ k i ρ' σ' α', m = k ∧ LoopD n nm src tg body k i ρ' σ' o ρ₂ σ₂ ∧ Post w.params B (ownW env) α s α' σ' s' ∧ FW B nm α' ρ' env s'.heap ∧ IterSt α' s'.heap I src i) ?_ k
    ⟨k, 0, ρ, σ₁, α0, rfl, h, p0.own, F.post R p0, H0⟩
  rintro m s' ⟨k, i, ρ', σ', α', rfl, D, p, F', H⟩
  have turn : ∀ {L : List V} {X : V} {ρ1 : Rho} {Q' : Unit → Shared → Prop} {E' : Value → Shared → Prop} (Z : Shared → Prop), srcL σ' src = some L → L[i]? = some X → TgOk nm ρ' src tg X ρ1 →
      (∀ s3, Post w.params B (ownW env) α s α' σ' s3 → FW B nm α' ρ1 env s3.heap → IterSt α' s3.heap I src (i + 1) → Q' () s3) →
      wpAny (Mo w) A (pyNext (.ref I)) (fun r s₁ => match r with
        | none => Z s₁
        | some v => wpAny (Mo w) A (letOwnedTupleGo tg (.ref I) v) (fun _ s₁' => wpAny (Mo w) A (PySem.assign tg env v) Q' E' s₁') E' s₁) E' s' := by
    intro L X ρ1 Q' E' Z e1 e2 t hq'
    refine next_item p.rel H e1 e2 fun v h' tk hs' H' hv => ?_
    obtain ⟨ob, e, fs, d⟩ := H.fields
    have hno := fields_noseq d e
    have p1 := p.but (tk := tk) hs'.extBut hI (H.notX p.rel) hBI hno
    have F1 : FW B nm α' ρ' env h' := F'.but H hs'.extBut p1.rel.base
    have hv' : VIs α' h' v X := hv.but hs'.extBut hno fun z => nod_ne (z ▸ hv) e d rfl
    refine t w A B α' σ' env _ _ _ I (i + 1) v rm.hh F1 p1.rel H' hv' fun s3 p3 F3 => ?_
    exact hq' _ (p1.trans p3) F3 (H'.post p1.rel (H'.notW F1) p3)
  cases D with
  | done e1 e2 =>
    refine next_end rm.hh p.rel H e1 e2 fun h' he => ?_
    obtain ⟨ob, e, fs, d⟩ := H.fields
    have p1 := p.but (tk := s'.toks) he hI (H.notX p.rel) hBI (fields_noseq d e)
    exact wpAny_execs_nil (hq _ _ _ p1 (F'.but H he p1.rel.base) rfl)
  | step e1 e2 t b D' =>
    refine turn _ e1 e2 t fun s3 p3 F3 H3 => ?_
    refine b w A B α' env s3 _ _ bs rm F3 p3.rel fun fl α4 s4 p4 F4 f4 => ?_
    cases f4
    exact ⟨_, Nat.lt_succ_self _, _, _, _, _, _, rfl, D', p3.trans p4, F4, H3.post p3.rel (H3.notW F3) p4⟩
  | brk e1 e2 t b =>
    refine turn _ e1 e2 t fun s3 p3 F3 H3 => ?_
    refine b w A B α' env s3 _ _ bs rm F3 p3.rel fun fl α4 s4 p4 F4 f4 => ?_
    cases f4
    exact hq _ _ _ (p3.trans p4) F4 rfl
  | ret e1 e2 t b =>
    refine turn _ e1 e2 t fun s3 p3 F3 H3 => ?_
    refine b w A B α' env s3 _ _ bs rm F3 p3.rel fun fl α4 s4 p4 F4 f4 => ?_
    obtain ⟨v, rfl, r⟩ := f4
    exact hq _ _ _ (p3.trans p4) F4 ⟨v, rfl, r.weak p3.grow⟩
theorem IterOk.list {e : Expr} {r : RV} {l : List It} {j : Nat} (h : EvOk n nm ρ σ e r σ₁) (hm : (matI r σ₁).1 = .obj j) (hl : (matI r σ₁).2[j]? = some (.list l)) : IterOk n nm ρ σ e (.lst j) (matI r σ₁).2 := by
  intro w A B α env s Q E bs rm F R hq
  refine h w A B α env s _ _ bs rm F R fun v α1 s1 p1 r1 => ?_
  obtain ⟨α2, p2, r2⟩ := mat_ok p1 R.base r1
  rw [hm] at r2
  obtain ⟨q, hq1, rfl⟩ := r2
  obtain ⟨ob, e2, ho⟩ := p2.rel.obs.getL hq1
  rw [hl] at e2
  cases e2
  obtain ⟨_, vs, k, g, _⟩ := ho
  refine wpAny_pyIter_list (isList_of g) (hq _ α2 _ (p2.trans (Post.push (tk := s1.toks) p2.rel _)) (p2.grow _ (Heap.get?_none_of_le (Nat.le_refl _))) ⟨q, hq1, _, Heap.get?_push_size _ rfl, rfl, rfl⟩)
theorem IterOk.str {e : Expr} {x : Str} (h : EvOk n nm ρ σ e (.at (.str x)) σ₁) : IterOk n nm ρ σ e (.str x) σ₁ := by
  intro w A B α env s Q E bs rm F R hq
  refine h w A B α env s _ _ bs rm F R fun v α1 s1 p1 r1 => ?_
  obtain ⟨t, rfl⟩ := r1
  cases ha : x.cps.all (· < 128)
  · exact wpAny_pyIter_wide ha (hq _ α1 _ (p1.trans (Post.push (tk := s1.toks) p1.rel _)) (p1.grow _ (Heap.get?_none_of_le (Nat.le_refl _))) ⟨t, .inr ⟨_, Heap.get?_push_size _ rfl, rfl, rfl⟩⟩)
  · exact wpAny_pyIter_ascii ha (hq _ α1 _ (p1.trans (Post.push (tk := s1.toks) p1.rel _)) (p1.grow _ (Heap.get?_none_of_le (Nat.le_refl _))) ⟨t, .inl ⟨_, Heap.get?_push_size _ rfl, rfl, rfl⟩⟩)
end
end Mine
end
section
/-! ## text R10 -/
set_option maxRecDepth 100000
set_option maxHeartbeats 8000000
namespace Mine
/-! calls of the program's functions -/
structure FnAt (f : Nat) (fd : FuncData) (body : List Stmt) : Prop where
  obj : ∀ P, ∃ o, (KF P).lookup f = some o ∧ o.data = .func fd
  code : ∀ P, ∃ c oc vs tq, fd.code = .ref c ∧ (KF P).lookup c = some oc ∧ oc.data = .fields vs ∧ vs[1]? = some (.str fd.qualname tq)
  body : fd.body = .stmts body
  glob : fd.globals = mainGlobals
  blt : fd.builtins = builtinsNs
  clo : fd.closure = []
  kind : fd.scope.kind = .function
  co : fd.scope.isCoroutine = false
  gen : fd.scope.isGenerator = false
  free : fd.scope.names.all (fun p => p.2 != .free) = true
noncomputable def PV (α : Al) (h : Heap) (p : Str × Value) (q : Str × V) : Prop := p.1 = q.1 ∧ VIs α h p.2 q.2
noncomputable def BindOk (fd : FuncData) (args : List V) (kw : List (Str × V)) (ρ₀ : Rho) : Prop :=
  ∀ (w : World) (A : Around) (B : Heap) (α : Al) (σ : List Ob) (s : Shared) (Q : List (Str × Value) → Shared → Prop) (E : Value → Shared → Prop) (vals : List Value) (kvs : List (Str × Value)), Bs w B → Rel w.params B α σ s.heap →
    All2 (VIs α s.heap) vals args → All2 (PV α s.heap) kvs kw → (∀ binds s', Post w.params B noW α s α σ s' → All2 (PV α s'.heap) binds ρ₀ → Q binds s') → wpAny (Mo w) A (bindArgs fd ⟨vals, kvs⟩) Q E s
noncomputable def FnOk (n : Nat) (f : Nat) (args : List V) (kw : List (Str × V)) (σ : List Ob) (r : RV) (σ' : List Ob) : Prop :=
  ∀ (w : World) (A : Around) (B : Heap) (α : Al) (s : Shared) (R' : Result → Shared → Prop) (vals : List Value) (kvs : List (Str × Value)), Bs w B → Room n A → Rel w.params B α σ s.heap →
    All2 (VIs α s.heap) vals args → All2 (PV α s.heap) kvs kw → (∀ v α' s', Post w.params B noW α s α' σ' s' → RIs s.heap α' s'.heap v r → R' (.ok (.ret v)) s') → codeAny (Mo w) A (.call (.ref f) ⟨vals, kvs⟩) R' s
theorem FnOk.call {n f : Nat} {args : List V} {kw : List (Str × V)} {σ σ' : List Ob} {r : RV} (h : FnOk n f args kw σ r σ') {w : World} {A : Around} {B : Heap} {α : Al} {s : Shared} {Q E : Value → Shared → Prop} {vals : List Value} {kvs : List (Str × Value)} (bs : Bs w B) (rm : Room n A)
    (R : Rel w.params B α σ s.heap) (hv : All2 (VIs α s.heap) vals args) (hk : All2 (PV α s.heap) kvs kw) (hq : ∀ v α' s', Post w.params B noW α s α' σ' s' → RIs s.heap α' s'.heap v r → Q v s') : wpAny (Mo w) A (call (.ref f) vals kvs) Q E s :=
  wpAny_call (h w A B α s _ vals kvs bs rm R hv hk hq)
noncomputable def retOf : Out → Option RV
  | .ret r => some r
  | .go => some (.at .none)
  | .brk => none
theorem bindL_other {kindOf : Str → Option NameKind} {x : Str} : ∀ (binds : List (Str × Value)) (m : Str → Option Value), x ∉ binds.map (·.1) → bindL kindOf binds m x = m x
  | [], m, _ => rfl
  | (y, v) :: r, m, h => by
    simp only [List.map_cons, List.mem_cons, not_or] at h
    unfold bindL
    rw [bindL_other r _ h.2]
    split
    · simp [h.1]
    · rfl
theorem bindC_other {kindOf : Str → Option NameKind} {x : Str} : ∀ (binds : List (Str × Value)) (m : Str → Option Value), x ∉ binds.map (·.1) → bindC kindOf binds m x = m x
  | [], m, _ => rfl
  | (y, v) :: r, m, h => by
    simp only [List.map_cons, List.mem_cons, not_or] at h
    unfold bindC
    rw [bindC_other r _ h.2]
    split
    · rfl
    · simp [h.1]
theorem bindL_at {α : Al} {h : Heap} {kindOf : Str → Option NameKind} {x : Str} {X : V} (hk : kindOf x = some .local) : ∀ {binds : List (Str × Value)} {ρ₀ : Rho} (m : Str → Option Value), All2 (PV α h) binds ρ₀ → (ρ₀.map (·.1)).Nodup → ρ₀.lookup x = some X →
    ∃ v, bindL kindOf binds m x = some v ∧ VIs α h v X
  | _, _, m, .nil, _, e => by cases e
  | (y, v) :: r, (y', Y) :: ρ', m, .cons ⟨e1, e2⟩ a, nd, e => by
    simp only at e1 e2
    subst e1
    have nm : r.map (·.1) = ρ'.map (·.1) := names_eq a
    rw [List.map_cons, List.nodup_cons] at nd
    rw [List.lookup_cons] at e
    unfold bindL
    cases q : x == y with
    | true =>
      rw [q] at e
      cases e
      rw [beq_iff_eq] at q
      subst q
      rw [bindL_other r _ (by rw [nm]; exact nd.1), if_pos hk]
      exact ⟨v, by simp, e2⟩
    | false =>
      rw [q] at e
      exact bindL_at hk _ a nd.2 e
where
  names_eq {α : Al} {h : Heap} : ∀ {binds : List (Str × Value)} {ρ₀ : Rho}, All2 (PV α h) binds ρ₀ → binds.map (·.1) = ρ₀.map (·.1)
    | _, _, .nil => rfl
    | _, _, .cons ⟨e1, _⟩ a => by rw [List.map_cons, List.map_cons, e1, names_eq a]
theorem bindC_at {α : Al} {h : Heap} {kindOf : Str → Option NameKind} {x : Str} {X : V} (hk : kindOf x = some .cell) : ∀ {binds : List (Str × Value)} {ρ₀ : Rho} (m : Str → Option Value), All2 (PV α h) binds ρ₀ → (ρ₀.map (·.1)).Nodup → ρ₀.lookup x = some X →
    ∃ v, bindC kindOf binds m x = some v ∧ VIs α h v X
  | _, _, m, .nil, _, e => by cases e
  | (y, v) :: r, (y', Y) :: ρ', m, .cons ⟨e1, e2⟩ a, nd, e => by
    simp only at e1 e2
    subst e1
    have nm : r.map (·.1) = ρ'.map (·.1) := bindL_at.names_eq a
    rw [List.map_cons, List.nodup_cons] at nd
    rw [List.lookup_cons] at e
    unfold bindC
    cases q : x == y with
    | true =>
      rw [q] at e
      cases e
      rw [beq_iff_eq] at q
      subst q
      rw [bindC_other r _ (by rw [nm]; exact nd.1), if_neg (by rw [hk]; decide)]
      exact ⟨v, by simp, e2⟩
    | false =>
      rw [q] at e
      exact bindC_at hk _ a nd.2 e
theorem pv_mem {α : Al} {h : Heap} {x : Str} {X : V} : ∀ {binds : List (Str × Value)} {ρ₀ : Rho}, All2 (PV α h) binds ρ₀ → (x, X) ∈ ρ₀ → ∃ v, VIs α h v X
  | _, _, .nil, m => nomatch m
  | _, _, .cons z r, m => by
    rcases List.mem_cons.mp m with q | q
    · subst q; exact ⟨_, z.2⟩
    · exact pv_mem r q
theorem cellsFrom_acc {x : Str} : ∀ (names : List (Str × NameKind)) (n : Nat) (acc : List (Str × Addr)), (acc.lookup x).isSome = true → ((cellsFrom n names acc).lookup x).isSome = true
  | [], n, acc, h => h
  | (y, k) :: r, n, acc, h => by
    unfold cellsFrom
    split
    · refine cellsFrom_acc r _ _ ?_
      rw [List.lookup_cons]
      cases x == y <;> first | rfl | exact h
    · exact cellsFrom_acc r _ _ h
theorem cellsFrom_some {x : Str} : ∀ (names : List (Str × NameKind)) (n : Nat) (acc : List (Str × Addr)), (x, NameKind.cell) ∈ names → ((cellsFrom n names acc).lookup x).isSome = true
  | (y, k) :: r, n, acc, h => by
    unfold cellsFrom
    rcases List.mem_cons.mp h with e | h
    · cases e
      rw [if_pos (by decide)]
      exact cellsFrom_acc r _ _ (by simp [List.lookup_cons])
    · split <;> exact cellsFrom_some r _ _ h
theorem Rel.sizeB {w : World} {B : Heap} {α : Al} {σ : List Ob} {h : Heap} (b : Bs w B) (R : Rel w.params B α σ h) : B.objs.size ≤ h.objs.size := by
  rw [b.size]
  exact Heap.lt_size (R.base 281 _ (b.kin 281 (ob281 w.params) (by rfl)))
noncomputable def BindOkI {ι : Type} (fd : FuncData) (args : List V) (kw : List (Str × V)) (ρ₀ : ι → Rho) : Prop :=
  ∀ (w : World) (A : Around) (B : Heap) (α : Al) (σ : List Ob) (s : Shared) (Q : List (Str × Value) → Shared → Prop) (E : Value → Shared → Prop) (vals : List Value) (kvs : List (Str × Value)), Bs w B → Rel w.params B α σ s.heap →
    All2 (VIs α s.heap) vals args → All2 (PV α s.heap) kvs kw → (∀ binds s' i, Post w.params B noW α s α σ s' → All2 (PV α s'.heap) binds (ρ₀ i) → Q binds s') → wpAny (Mo w) A (bindArgs fd ⟨vals, kvs⟩) Q E s
theorem fn_okI {ι : Type} {n f : Nat} {fd : FuncData} {body : List Stmt} {args : List V} {kw : List (Str × V)} {ρI : ι → Rho} {σ σ' : List Ob} {r : RV} (H : FnAt f fd body) (hb : BindOkI fd args kw ρI) (hndI : ∀ i, ((ρI i).map (·.1)).Nodup)
    (hkI : ∀ i, (ρI i).all (fun p => match fd.scope.names.lookup p.1 with | some .local => true | some .cell => true | _ => false) = true) (hbodyI : ∀ i, ∃ o ρ', ExsOk n fd.scope.names (ρI i) σ body o ρ' σ' ∧ retOf o = some r) : FnOk (n + 1) f args kw σ r σ' := by
  intro w A B α s R' vals kvs bs rm R hv hkv hq
  obtain ⟨ob, e1, e2⟩ := H.obj w.params
  obtain ⟨c, oc, vs, tq, c1, c2, c3, c4⟩ := H.code w.params
  refine codeAny_call_function (by have := rm.depth; omega) (R.base _ _ (bs.kin _ _ e1)) e2 H.co H.gen H.body ⟨c, oc, vs, tq, c1, R.base _ _ (bs.kin _ _ c2), c3, c4⟩ ?_
  refine hb w A.in1 B α σ s _ _ vals kvs bs R hv hkv fun binds s1 i p1 hbd => ?_
  obtain ⟨o, ρ', hbody, hr⟩ := hbodyI i
  have hnd := hndI i
  have hk := hkI i
  generalize ρI i = ρ₀ at hbody hnd hk hbd
  rw [H.clo]
  have nms := bindL_at.names_eq hbd
  have hk' : ∀ x X, ρ₀.lookup x = some X → fd.scope.names.lookup x = some .local ∨ fd.scope.names.lookup x = some .cell := by
    intro x X hx
    have := List.all_eq_true.mp hk _ (mem_of_lookup hx)
    simp only at this
    split at this <;> rename_i q
    · exact .inl q
    · exact .inr q
    · cases this
  have hcell : ∀ x : Str, fd.scope.names.lookup x = some .cell → ((cellsFrom (s1.heap.objs.size + 1) fd.scope.names []).lookup x).isSome = true := fun x hx => cellsFrom_some _ _ _ (mem_of_lookup hx)
  refine wpAny_newFunctionEnv_cells H.kind (fun x hx => ?_) fun env he s2 x2 => ?_
  · have hm : x.1 ∈ ρ₀.map (·.1) := nms ▸ List.mem_map_of_mem hx
    obtain ⟨y, hy, hxy⟩ := List.mem_map.mp hm
    have := List.all_eq_true.mp hk _ hy
    rw [hxy] at this
    try simp only at this
    split at this <;> rename_i q
    · exact .inl q
    · exact .inr ⟨q, hcell _ q⟩
    · cases this
  obtain ⟨h2, t2, e⟩ := x2.toInCall.same
  have kp : ∀ (b : Nat) o, s1.heap.get? b = some o → s2.heap.get? b = some o := x2.toInCall.keep
  have p2 : Post w.params B noW α s1 α σ s2 := by
    subst e
    exact Post.ofKeeps p1.rel kp
  have R2 := p2.rel
  have hsc : env.scope = fd.scope := by rw [he]; rfl
  have hko : ∀ x, env.kindOf x = fd.scope.names.lookup x := fun x => by unfold Env.kindOf; rw [hsc]
  have hL : env.locals = s1.heap.objs.size := by rw [he]; rfl
  have hce : env.cells = cellsFrom (s1.heap.objs.size + 1) fd.scope.names [] := by rw [he]; rfl
  have hbd2 : All2 (PV α s2.heap) binds ρ₀ := hbd.imp fun _ _ z => ⟨z.1, p2.vis0 z.2⟩
  have F : FW B fd.scope.names α ρ₀ env s2.heap := by
    refine ⟨⟨by rw [hsc]; exact H.kind, by rw [he]; exact H.glob, by rw [he]; exact H.blt, fun x k hx => .inl ((hko x).trans hx), ⟨_, ⟨x2.toInCall.ns, R2.base, ?_⟩, fun x X h1 h2 => bindL_at h2 _ hbd2 hnd h1⟩, fun x X h1 h2 => ?_, ?_, fun x a h1 => ?_⟩, fun x hx => ?_, x2.apart⟩
    · exact Nat.le_trans (p1.rel.sizeB bs) (Nat.le_of_eq hL.symm)
    · rcases h2 with h2 | h2
      · obtain ⟨c, hc⟩ := Option.isSome_iff_exists.mp (hcell x ((hko x).symm.trans h2))
        obtain ⟨v, e1, e2⟩ := bindC_at h2 (fun _ => none) hbd2 hnd h1
        rw [← hce] at hc
        exact ⟨c, v, hc, e1 ▸ x2.cell x c hc, e2⟩
      · rw [hko] at h2
        have := List.all_eq_true.mp H.free _ (mem_of_lookup h2)
        simp at this
    · rw [hL]; exact new_notX p1.rel
    · have : (x, V.nod a) ∈ ρ₀ := mem_of_lookup h1
      have hv := pv_mem hbd this
      obtain ⟨v, _, _, g⟩ := hv
      rw [hL]
      exact Nat.ne_of_lt (Heap.lt_size g)
    · obtain ⟨c, hc⟩ := Option.isSome_iff_exists.mp (hcell x ((hko x).symm.trans hx))
      rw [← hce] at hc
      refine ⟨c, _, hc, x2.cell x c hc, ?_⟩
      have := x2.above x c (mem_of_lookup hc)
      exact Heap.get?_none_of_le (Nat.le_trans (p1.rel.sizeB bs) (by rw [hL] at this; exact Nat.le_of_lt this))
  refine ⟨(bs.lim.keeps R2.base), codeAny_func ?_⟩
  refine hbody w (A.deeper env) B α env s2 _ _ bs ⟨rm.hh, ?_, ?_⟩ F R2 fun fl α3 s3 p3 F3 f3 => ?_
  · have := rm.depth; show A.depth + 1 + n < _; omega
  · have := rm.units; show A.units + 3 + 16 * n < _; omega
  have p12 := p1.trans p2
  have pAll : Post w.params B noW α s α3 σ' s3 := by
    obtain ⟨hs3, ex, fr, gr, rl⟩ := p3
    obtain ⟨h12, t12, e12⟩ := p12.like
    obtain ⟨h3, t3, e3⟩ := hs3
    refine ⟨⟨h3, t3, by rw [e3, e12]⟩, ?_, fun b o e n _ => ?_, p12.grow.trans gr, rl⟩
    · obtain ⟨more, em, hm⟩ := ex
      exact ⟨more, em, fun p hp => ⟨p12.grow _ (hm p hp).1, p12.grow _ (hm p hp).2⟩⟩
    · have e' := p1.frm b o e n id
      refine fr b o (kp b o e') n ?_
      have hlt := Heap.lt_size e'
      rintro (q | ⟨x, _, q⟩)
      · rw [hL] at q; rw [q] at hlt; exact Nat.lt_irrefl _ hlt
      · have := x2.above x b (mem_of_lookup q)
        rw [hL] at this
        exact Nat.lt_irrefl _ (Nat.lt_trans this hlt)
  cases o with
  | brk => cases hr
  | go =>
    cases hr
    cases f3
    exact hq _ _ _ pAll rfl
  | ret r' =>
    cases hr
    obtain ⟨v, rfl, rr⟩ := f3
    exact hq _ _ _ pAll (rr.weak p12.grow)
theorem fn_ok {n f : Nat} {fd : FuncData} {body : List Stmt} {args : List V} {kw : List (Str × V)} {ρ₀ ρ' : Rho} {σ σ' : List Ob} {o : Out} {r : RV} (H : FnAt f fd body) (hb : BindOk fd args kw ρ₀) (hnd : (ρ₀.map (·.1)).Nodup)
    (hk : ρ₀.all (fun p => match fd.scope.names.lookup p.1 with | some .local => true | some .cell => true | _ => false) = true) (hbody : ExsOk n fd.scope.names ρ₀ σ body o ρ' σ') (hr : retOf o = some r) : FnOk (n + 1) f args kw σ r σ' :=
  fn_okI (ι := Unit) (ρI := fun _ => ρ₀) H (fun w A B α σ s Q E vals kvs bs R hv hkv hq => hb w A B α σ s Q E vals kvs bs R hv hkv fun binds s' => hq binds s' ()) (fun _ => hnd) (fun _ => hk) fun _ => ⟨o, ρ', hbody, hr⟩
/-- binding: the values as they stand -/
theorem BindOk.pos {fd : FuncData} {names : List Str} {args : List V} (h : ∀ vals : List Value, vals.length = args.length → bindArgs fd ⟨vals, []⟩ = pure (names.zip vals)) (hl : names.length = args.length) : BindOk fd args [] (names.zip args) := by
  intro w A B α σ s Q E vals kvs bs R hv hk hq
  cases hk
  rw [h vals hv.length]
  refine wpAny_pure (hq _ _ (Post.refl R) ?_)
  clear h hq
  induction hv generalizing names with
  | nil => cases names <;> first | exact .nil | cases hl
  | cons a b ih =>
    cases names with
    | nil => cases hl
    | cons x names => exact .cons ⟨rfl, a⟩ (ih (by simpa using hl))
end Mine
end
section
/-! ## text R11 -/
set_option maxRecDepth 100000
set_option maxHeartbeats 8000000
namespace Mine
/-! list comprehensions -/
section
variable {w : World} {A : Around} {E : Value → Shared → Prop} {B : Heap} {nm : Nm} {α α' α₀ : Al} {ρ ρ' : Rho} {env : Env} {s s' s₀ : Shared} {σ σ' σ₀ : List Ob} {P : Params} {W : Nat → Prop} {h h' : Heap} {I : Nat} {src : Src} {i : Nat}
noncomputable def NTup (h : Heap) (I : Nat) : Prop := ∀ o, h.get? I = some o → ∀ vs n, o ≠ tupObj vs n
theorem IIs.butT {v : Value} {X : It} (H : IIs α h v X) (hs : Heap.ExtBut I h h') (hq : NTup h I) : IIs α h' v X :=
  H.keep fun b vs n e _ => hs b _ (by rintro rfl; exact hq _ e _ _ rfl) e
theorem Rel.butT (R : Rel P B α σ h) (hs : Heap.ExtBut I h h') (hc : ¬ InX α I) (hb : B.get? I = none) (hq : NTup h I) : Rel P B α σ h' := by
  refine ⟨fun b o e => hs b o (by rintro rfl; rw [hb] at e; cases e) (R.base b o e), R.new, R.obs.impMem fun p hp ob z => ?_, R.apart⟩
  have h1 : p.1 ≠ I := fun e => hc ⟨p, hp, .inl e.symm⟩
  have h2 : p.2 ≠ I := fun e => hc ⟨p, hp, .inr e.symm⟩
  cases ob with
  | list l => obtain ⟨e, vs, n, g, r⟩ := z; exact ⟨e, vs, n, hs _ _ h1 g, r.imp fun _ _ z => z.butT hs hq⟩
  | hdr f =>
    obtain ⟨e1, e2, e3⟩ := z
    refine ⟨e1, hs _ _ h1 e2, ?_⟩
    cases f with
    | none => exact hs _ _ h2 e3
    | some x => obtain ⟨v, t, n, e3, r⟩ := e3; exact ⟨v, t, n, hs _ _ h2 e3, r⟩
theorem Post.butT (p : Post P B W α₀ s₀ α σ s) (hs : Heap.ExtBut I s.heap h') (hI : s₀.heap.get? I = none) (hc : ¬ InX α I) (hb : B.get? I = none) (hq : NTup s.heap I) {tk : Nat} :
    Post P B W α₀ s₀ α σ { s with heap := h', toks := tk } := by
  obtain ⟨⟨h1, t1, rfl⟩, ex, f1, g1, r1⟩ := p
  refine ⟨⟨h', tk, rfl⟩, ex, fun b o e n w => hs b o (by rintro rfl; rw [hI] at e; cases e) (f1 b o e n w), fun b e => ?_, r1.butT hs hc hb hq⟩
  by_cases hbI : b = I
  · subst hbI; exact hI
  · refine g1 b ?_
    cases q : h1.get? b with
    | none => rfl
    | some o => have := hs b o hbI q; rw [this] at e; cases e
theorem Rel.noneB (R : Rel P B α σ h) (hI : h.get? I = none) : B.get? I = none := by
  cases q : B.get? I with
  | none => rfl
  | some o => have := R.base I o q; rw [hI] at this; cases this
theorem IterSt.nt (H : IterSt α h I src i) : NTup h I := by
  obtain ⟨o, e, fs, d⟩ := H.fields
  intro o' e' vs n q
  rw [e] at e'; cases e'; rw [q] at d; cases d
theorem ns_nt {m : Str → Option Value} (H : h.Ns I m) : NTup h I := fun o e vs n q => ns_noseq H o e vs.toArray n (by rw [q])
theorem list_nt {vs : List Value} {k : Nat} (H : h.get? I = some (listObj vs k)) : NTup h I := by
  intro o e us n q
  rw [H] at e; cases e
  have := congrArg Obj.cls q
  simp at this
theorem srcIt {L : List V} {X : V} (e : srcL σ src = some L) (ei : L[i]? = some X) : ∃ x, X = .it x := by
  cases src with
  | str x => cases e; rw [List.getElem?_map] at ei; obtain ⟨c, _, h⟩ := Option.map_eq_some_iff.mp ei; exact ⟨_, h.symm⟩
  | rng n => cases e; rw [List.getElem?_map] at ei; obtain ⟨c, _, h⟩ := Option.map_eq_some_iff.mp ei; exact ⟨_, h.symm⟩
  | lst j =>
    unfold srcL at e
    dsimp only at e
    split at e
    · cases e; rw [List.getElem?_map] at ei; obtain ⟨c, _, h⟩ := Option.map_eq_some_iff.mp ei; exact ⟨_, h.symm⟩
    · cases e
theorem closure_go {env : Env} (f : Str × NameKind → List (Str × Addr) → Sem (ForInStep (List (Str × Addr))))
    (hf : ∀ n k cs, f (n, k) cs = if (k == NameKind.free) = true then (do let c ← cellOf env n; pure (.yield ((n, c) :: cs))) else pure (.yield cs)) : ∀ (names : List (Str × NameKind)) (acc : List (Str × Addr)),
    (∀ x ∈ names, x.2 = .free → ∃ c, env.cells.lookup x.1 = some c) → (∀ y c, acc.lookup y = some c → env.cells.lookup y = some c) →
    ∃ cl, forIn names acc f = (pure cl : Sem _) ∧ (∀ y c, cl.lookup y = some c → env.cells.lookup y = some c) ∧ (∀ y, (acc.lookup y).isSome = true ∨ (y, NameKind.free) ∈ names → ∃ c, cl.lookup y = some c)
  | [], acc, _, h2 => ⟨acc, by rw [List.forIn_nil], h2, fun y h => by
      rcases h with h | h
      · exact Option.isSome_iff_exists.mp h
      · cases h⟩
  | (n, k) :: r, acc, h1, h2 => by
    rw [List.forIn_cons, hf]
    by_cases hk : (k == NameKind.free) = true
    · rw [if_pos hk]
      obtain ⟨c, hc⟩ := h1 (n, k) (.head _) (by simpa using hk)
      have hcell : cellOf env n = pure c := by
        unfold cellOf
        rw [show env.cells.lookup n = some c from hc]
      have h2' : ∀ y c', ((n, c) :: acc).lookup y = some c' → env.cells.lookup y = some c' := by
        intro y c' e
        rw [List.lookup_cons] at e
        cases q : y == n with
        | true => rw [q] at e; cases e; rw [beq_iff_eq.mp q]; exact hc
        | false => rw [q] at e; exact h2 y c' e
      obtain ⟨cl, e, a, b⟩ := closure_go f hf r ((n, c) :: acc) (fun x hx => h1 x (.tail _ hx)) h2'
      refine ⟨cl, ?_, a, fun y h => b y ?_⟩
      · rw [hcell, ← e]; rfl
      · rcases h with h | h
        · refine .inl ?_
          rw [List.lookup_cons]
          cases y == n <;> first | rfl | exact h
        · rcases List.mem_cons.mp h with q | q
          · cases q; refine .inl ?_; simp
          · exact .inr q
    · rw [if_neg hk]
      obtain ⟨cl, e, a, b⟩ := closure_go f hf r acc (fun x hx => h1 x (.tail _ hx)) h2
      refine ⟨cl, ?_, a, fun y h => b y ?_⟩
      · rw [← e]; rfl
      · rcases h with h | h
        · exact .inl h
        · rcases List.mem_cons.mp h with q | q
          · cases q; exact absurd (by decide) hk
          · exact .inr q
theorem closure_ok {scope : Scope} (h1 : ∀ x ∈ scope.names, x.2 = .free → ∃ c, env.cells.lookup x.1 = some c) :
    ∃ cl, closureFor scope env = pure cl ∧ (∀ y c, cl.lookup y = some c → env.cells.lookup y = some c) ∧ (∀ y, (y, NameKind.free) ∈ scope.names → ∃ c, cl.lookup y = some c) := by
  simp only [closureFor]
  obtain ⟨cl, e, a, b⟩ := closure_go (env := env) (fun x cs => if (x.2 == NameKind.free) = true then (do let c ← cellOf env x.1; pure (.yield ((x.1, c) :: cs))) else pure (.yield cs)) (fun _ _ _ => rfl) scope.names [] h1 (fun _ _ h => by cases h)
  refine ⟨cl, ?_, a, fun y h => b y (.inr h)⟩
  have e' : forIn scope.names [] (fun (x : Str × NameKind) (r : List (Str × Addr)) => if (x.2 == NameKind.free) = true then (do let c ← cellOf env x.1; pure (ForInStep.yield ((x.1, c) :: r))) else pure (ForInStep.yield r)) >>= (fun cs => (pure cs : Sem _)) = pure cl := by rw [e]; rfl
  exact e'
end
end Mine
end
section
/-! ## text R12 -/
set_option maxRecDepth 100000
set_option maxHeartbeats 8000000
namespace Mine
theorem lookup_filterK {q : Str → Bool} : ∀ (ρ : Rho) (y : Str), (ρ.filter fun p => q p.1).lookup y = if q y then ρ.lookup y else none
  | [], y => by simp
  | (x, X) :: r, y => by
    rw [List.filter_cons]
    cases hq : q x with
    | true =>
      simp only [if_true]
      rw [List.lookup_cons, List.lookup_cons, lookup_filterK r y]
      cases e : y == x with
      | true => rw [beq_iff_eq] at e; subst e; simp [hq]
      | false => rfl
    | false =>
      simp only [Bool.false_eq_true, if_false]
      rw [lookup_filterK r y, List.lookup_cons]
      cases e : y == x with
      | true => rw [beq_iff_eq] at e; subst e; simp [hq]
      | false => rfl
noncomputable def rhoC (names : Nm) (ρ : Rho) (x : Str) (X : V) : Rho := (x, X) :: ρ.filter fun p => names.lookup p.1 == some .free
structure CompS (nm : Nm) (ρ : Rho) (scope : Scope) (x : Str) : Prop where
  kind : scope.kind = .function
  cell : ∀ y ∈ scope.names, y.2 ≠ .cell
  names : ∀ y ∈ scope.names, y.2 = .local → scope.names.lookup y.1 = some .local
  var : scope.names.lookup x = some .local
  free : ∀ y ∈ scope.names, y.2 = .free → nm.lookup y.1 = some .cell ∧ (ρ.lookup y.1).any noNod = true
section
variable {w : World} {A : Around} {E : Value → Shared → Prop} {B : Heap} {nm : Nm} {α α' α₀ : Al} {ρ ρ' : Rho} {env : Env} {s s' s₀ : Shared} {σ σ' σ₀ : List Ob} {P : Params} {W : Nat → Prop} {h h' : Heap} {I : Nat} {src : Src} {i : Nat}
noncomputable def relK (env : Env) (n : Str) (k : NameKind) : NameKind := if (k == NameKind.free && env.scope.kind == .function && env.kindOf n == some .cell) = true then NameKind.cell else k
theorem relK_local {env : Env} {y : Str} : relK env y .local = .local := by unfold relK; rw [if_neg (by simp)]
theorem relK_free {env : Env} {y : Str} : relK env y .free ≠ .local := by
  unfold relK
  by_cases h : (NameKind.free == NameKind.free && env.scope.kind == .function && env.kindOf y == some .cell) = true
  · rw [if_pos h]; decide
  · rw [if_neg h]; decide
theorem relabel_lookup {env : Env} {y : Str} : ∀ (names : Nm), (names.map fun (n, k) => if (k == NameKind.free && env.scope.kind == .function && env.kindOf n == some .cell) = true then (n, NameKind.cell) else (n, k)).lookup y =
    (names.lookup y).map (relK env y)
  | [] => rfl
  | (n, k) :: r => by
    have e1 : (if (k == NameKind.free && env.scope.kind == .function && env.kindOf n == some .cell) = true then (n, NameKind.cell) else (n, k)) = (n, relK env n k) := by
      unfold relK
      by_cases h : (k == NameKind.free && env.scope.kind == .function && env.kindOf n == some .cell) = true
      · rw [if_pos h, if_pos h]
      · rw [if_neg h, if_neg h]
    rw [List.map_cons]
    show List.lookup y ((if (k == NameKind.free && env.scope.kind == .function && env.kindOf n == some .cell) = true then (n, NameKind.cell) else (n, k)) :: _) = _
    rw [e1, List.lookup_cons, List.lookup_cons]
    cases q : y == n with
    | true => rw [beq_iff_eq] at q; subst q; rfl
    | false => exact relabel_lookup r
theorem comp_FR {scope : Scope} {x : Str} {cl : List (Str × Addr)} {C : Nat} {m : Str → Option Value} {v : Value} {X : V} (F : FR B nm α ρ env h) (S : CompS nm ρ scope x) (c1 : ∀ y c, cl.lookup y = some c → env.cells.lookup y = some c)
    (c2 : ∀ y, (y, NameKind.free) ∈ scope.names → ∃ c, cl.lookup y = some c) (hC : h.Ns C m) (hx : m x = some v) (hv : VIs α h v X) (hoff : ¬ InX α C) (hB : B.objs.size ≤ C) (hbase : ∀ (b : Nat) o, B.get? b = some o → h.get? b = some o) (hX : noNod X = true) :
    FR B scope.names α (rhoC scope.names ρ x X) (compEnvC scope cl C env) h := by
  have hko : ∀ y, (compEnvC scope cl C env).kindOf y = (scope.names.lookup y).map (relK env y) := fun y => by
    unfold Env.kindOf compEnvC relabel
    exact relabel_lookup (env := env) scope.names
  have hlook : ∀ y Y, (rhoC scope.names ρ x X).lookup y = some Y → (y = x ∧ Y = X) ∨ (scope.names.lookup y = some .free ∧ ρ.lookup y = some Y) := by
    intro y Y e
    unfold rhoC at e
    rw [List.lookup_cons] at e
    cases q : y == x with
    | true => rw [q] at e; cases e; exact .inl ⟨beq_iff_eq.mp q, rfl⟩
    | false =>
      rw [q] at e
      dsimp only at e
      rw [lookup_filterK (q := fun z => scope.names.lookup z == some .free)] at e
      split at e
      · rename_i z; exact .inr ⟨beq_iff_eq.mp z, e⟩
      · cases e
  refine ⟨S.kind, F.glob, F.blt, fun y k hy => ?_, ⟨m, ⟨hC, hbase, hB⟩, fun y Y h1 h2 => ?_⟩, fun y Y h1 h2 => ?_, hoff, fun y a h1 => ?_⟩
  · rw [hko, hy]
    by_cases hk : (k == NameKind.free && env.scope.kind == .function && env.kindOf y == some .cell) = true
    · refine .inr ⟨?_, by rw [Option.map_some, relK, if_pos hk]⟩
      simp only [Bool.and_eq_true, beq_iff_eq] at hk
      exact hk.1.1
    · exact .inl (by rw [Option.map_some, relK, if_neg hk])
  · rcases hlook y Y h1 with ⟨rfl, rfl⟩ | ⟨hf, hr⟩
    · exact ⟨v, hx, hv⟩
    · rw [hko, hf, Option.map_some, Option.some.injEq] at h2
      exact absurd h2 relK_free
  · rcases hlook y Y h1 with ⟨rfl, rfl⟩ | ⟨hf, hr⟩
    · rw [hko, S.var, Option.map_some, relK_local] at h2
      rcases h2 with h2 | h2 <;> cases h2
    · have hmem := mem_of_lookup hf
      obtain ⟨e1, e2⟩ := S.free _ hmem rfl
      have hkc : env.kindOf y = some .cell := by
        rcases F.kinds y _ e1 with e | ⟨e, _⟩
        · exact e
        · cases e
      obtain ⟨c, u, a, b, r⟩ := F.cells y Y hr (.inl hkc)
      obtain ⟨c', hc'⟩ := c2 y hmem
      have := c1 y c' hc'
      rw [a] at this; cases this
      exact ⟨c, u, hc', b, r⟩
  · rcases hlook y (.nod a) h1 with ⟨rfl, e⟩ | ⟨hf, hr⟩
    · rw [← e] at hX; cases hX
    · obtain ⟨e1, e2⟩ := S.free _ (mem_of_lookup hf) rfl
      rw [hr] at e2; cases e2
noncomputable def TestsOk (n : Nat) (nm : Nm) (ρ : Rho) (σ : List Ob) (ifs : List Expr) (b : Bool) : Prop := match ifs with
  | [] => b = true
  | [c] => TrOk n nm ρ σ c b σ
  | _ => False
theorem iter_self {Q : Value → Shared → Prop} (H : IterSt α s.heap I src i) (h : Q (.ref I) s) : wpAny (Mo w) A (pyIter (.ref I)) Q E s := by
  cases src with
  | str x =>
    obtain ⟨t, H | H⟩ := H
    · exact wpAny_pyIter_striter_ascii H h
    · exact wpAny_pyIter_striter_wide H h
  | rng n => exact wpAny_pyIter_rangeiter (show IsRangeIter s.heap I (i : Int) ((n : Int) - (i : Int)) 1 from H) h
  | lst j => obtain ⟨p, _, hit⟩ := H; exact wpAny_pyIter_listiter hit h
noncomputable def CInv (P : Params) (B : Heap) (α₀ : Al) (s₀ : Shared) (σ₁ : List Ob) (src : Src) (L : List V) (p : V → Bool) (f : V → It) (I D C : Nat) (k : Nat) (s' : Shared) : Prop :=
  ∃ i α' ys q m, k = L.length - i ∧ i ≤ L.length ∧ Post P B noW α₀ s₀ α' σ₁ s' ∧ IterSt α' s'.heap I src i ∧ s'.heap.get? D = some (listObj ys q) ∧ All2 (IIs α' s'.heap) ys (((L.take i).filter p).map f) ∧ s'.heap.Ns C m ∧ ¬ InX α' D ∧ ¬ InX α' C
theorem comp_loop {n : Nat} {σ₁ : List Ob} {elt iter : Expr} {x : Str} {px pos : Pos} {ifs : List Expr} {scope : Scope} {cl : List (Str × Addr)} {L : List V} {p : V → Bool} {f : V → It} {RR : Result → Shared → Prop} {D C : Nat}
    (S : CompS nm ρ scope x) (hL : srcL σ₁ src = some L) (hz : L.length ≤ sizeLine)
    (ht : ∀ X ∈ L, TestsOk n scope.names (rhoC scope.names ρ x X) σ₁ ifs (p X)) (he : ∀ X ∈ L, p X = true → EvOk n scope.names (rhoC scope.names ρ x X) σ₁ elt (.v (.it (f X))) σ₁)
    (bs : Bs w B) (rm : Room n A) (F : FR B nm α ρ env s.heap) (R : Rel w.params B α σ s.heap) (c1 : ∀ y c, cl.lookup y = some c → env.cells.lookup y = some c) (c2 : ∀ y, (y, NameKind.free) ∈ scope.names → ∃ c, cl.lookup y = some c)
    (hI : s.heap.get? I = none) (hsD : s.heap.get? D = none) (hsC : s.heap.get? C = none) (hBC : B.objs.size ≤ C)
    (hq : ∀ α' s' m, Post w.params B noW α s α' σ₁ s' → RIs s.heap α' s'.heap (.ref D) (.new ((L.filter p).map f)) → s'.heap.Ns C m → ¬ InX α' C → RR (.ok .next) s') {k : Nat} (h0 : CInv w.params B α s σ₁ src L p f I D C k s') :
    codeAny (Mo w) A (.compLoop (.ListComp elt [⟨.Name x px, iter, ifs, 0⟩] scope pos) 0 (.ref I) (.ref D) (compEnvC scope cl C env)) RR s' := by
  have hBI := R.noneB hI
  refine codeAny_compLoop_tests (CInv w.params B α s σ₁ src L p f I D C) ?_ k h0
  rintro k s' ⟨i, α', ys, q, m, rfl, hiL, pp, H, hD, hys, hCs, nD, nC⟩
  have hICne : I ≠ C := by
    rintro rfl
    obtain ⟨o, e, fs, d⟩ := H.fields
    obtain ⟨o', es, ep, e', d', _⟩ := hCs
    rw [e] at e'; cases e'; rw [d] at d'; cases d'
  have hIDne : I ≠ D := by
    rintro rfl
    obtain ⟨o, e, fs, d⟩ := H.fields
    rw [e] at hD; cases hD; cases d
  have hDC : D ≠ C := by
    rintro rfl
    obtain ⟨o', es, ep, e', d', _⟩ := hCs
    rw [hD] at e'; cases e'; cases d'
  rcases Nat.lt_or_ge i L.length with hlt | hge
  · have ei : L[i]? = some L[i] := List.getElem?_eq_getElem hlt
    generalize hXd : L[i] = X at ei
    have hXm : X ∈ L := List.mem_of_getElem? ei
    obtain ⟨xi, hxi⟩ := srcIt hL ei
    refine next_item pp.rel H hL ei fun v h' tk hs' H' hv => ?_
    have pa := pp.butT (tk := tk) hs'.extBut hI (H.notX pp.rel) hBI H.nt
    have hv' : VIs α' h' v X := by
      subst hxi
      exact IIs.butT (show IIs α' s'.heap v xi from hv) hs'.extBut H.nt
    have hCs' : h'.Ns C m := hCs.sameBut hs' (Ne.symm hICne)
    refine wpAny_assign_Name (wpAny_storeName_local (lookup_relabel_local S.var) hCs' (fun h₂ hn₂ hs₂ => ?_) (by simp [compEnvC, relabel, S.kind]))
    have pb := pa.butT (tk := tk + 1) hs₂.extBut hsC nC (R.noneB hsC) (ns_nt hCs')
    have hv₂ : VIs α' h₂ v X := by
      subst hxi
      exact IIs.butT (show IIs α' h' v xi from hv') hs₂.extBut (ns_nt hCs')
    have H₂ : IterSt α' h₂ I src (i + 1) := by
      have := H'.move (m := []) (h' := h₂) fun o e => hs₂.extBut _ _ hICne e
      rwa [List.append_nil] at this
    have hD₂ : h₂.get? D = some (listObj ys q) := hs₂.extBut _ _ hDC (hs'.extBut _ _ (Ne.symm hIDne) hD)
    have hys₂ : All2 (IIs α' h₂) ys (((L.take i).filter p).map f) := hys.imp fun _ _ z => (z.butT hs'.extBut H.nt).butT hs₂.extBut (ns_nt hCs')
    have FC := comp_FR (F.post R pb) S c1 c2 hn₂ (by simp) hv₂ nC hBC pb.rel.base (by rw [hxi]; rfl)
    have take1 : ((L.take (i + 1)).filter p).map f = ((L.take i).filter p).map f ++ (if p X = true then [f X] else []) := by
      rw [List.take_add_one, ei]
      simp only [Option.toList_some, List.filter_append, List.map_append, List.filter_cons, List.filter_nil]
      split <;> rfl
    have after : ∀ {α3 : Al} {s3 : Shared} {E4 : Value → Shared → Prop}, Post w.params B noW α' { s' with heap := h₂, toks := tk + 1 } α3 σ₁ s3 →
        (if p X = true then wpAny (Mo w) A (eval elt (compEnvC scope cl C env)) (fun y s4 => wpAny (Mo w) A (call (.builtin "list.append") [.ref D, y]) (fun _ s5 => ∃ m', m' < L.length - i ∧ CInv w.params B α s σ₁ src L p f I D C m' s5) E4 s4) E4 s3
        else ∃ m', m' < L.length - i ∧ CInv w.params B α s σ₁ src L p f I D C m' s3) := by
      intro α3 s3 E4 pt
      obtain ⟨m3, em3, hm3⟩ := pt.ext
      have nD3 : ¬ InX α3 D := em3 ▸ not_inX nD hm3 hD₂
      have nC3 : ¬ InX α3 C := em3 ▸ (let ⟨o, _, _, e, _⟩ := hn₂; not_inX nC hm3 e)
      have H3 := H₂.post pb.rel id pt
      have hD3 := pt.frm _ _ hD₂ nD id
      have hys3 := hys₂.imp fun _ _ z => pt.iis z fun _ _ _ z => z.elim
      have hC3 : s3.heap.Ns C _ := hn₂.at' fun o e => pt.frm _ _ e nC id
      cases hb : p X with
      | false =>
        rw [if_neg (by decide)]
        refine ⟨_, ?_, i + 1, α3, ys, q, _, rfl, hlt, pb.trans pt, H3, hD3, ?_, hC3, nD3, nC3⟩
        · omega
        · rw [take1, if_neg (by rw [hb]; decide), List.append_nil]; exact hys3
      | true =>
        rw [if_pos rfl]
        have FC3 := FC.post pb.rel pt
        refine he X hXm hb w A B α3 _ s3 _ _ bs rm FC3 pt.rel fun y α4 s4 p4 r4 => ?_
        obtain ⟨m4, em4, hm4⟩ := p4.ext
        have nD4 : ¬ InX α4 D := em4 ▸ not_inX nD3 hm4 hD3
        have nC4 : ¬ InX α4 C := em4 ▸ (let ⟨o, _, _, e, _⟩ := hC3; not_inX nC3 hm4 e)
        have H4 := H3.post pt.rel id p4
        have hD4 := p4.frm _ _ hD3 nD3 id
        have hys4 := hys3.imp fun _ _ z => p4.iis z fun _ _ _ z => z.elim
        have hC4 : s4.heap.Ns C _ := hC3.at' fun o e => p4.frm _ _ e nC3 id
        have hlen : ys.toArray.size ≤ sizeLine := by
          have e1 := hys4.length
          have e2 : ((L.take i).filter p).length ≤ (L.take i).length := List.length_filter_le _ _
          have e3 : (L.take i).length ≤ L.length := by rw [List.length_take]; omega
          rw [List.length_map] at e1
          rw [List.size_toArray]; omega
        refine wpAny_list_append_plain (hsz := hlen) (items := ys.toArray) ⟨q, hD4⟩ fun h₅ hl₅ hs₅ => ?_
        have p34 := (pb.trans pt).trans p4
        have p5 := p34.butT (tk := s4.toks) hs₅.extBut hsD nD4 (R.noneB hsD) (list_nt hD4)
        obtain ⟨q5, e5⟩ := hl₅
        refine ⟨_, ?_, i + 1, α4, ys ++ [y], q5, _, rfl, hlt, p5, ?_, ?_, ?_, hC4.sameBut hs₅ (Ne.symm hDC), nD4, nC4⟩
        · omega
        · have := H4.move (m := []) (h' := h₅) fun o e => hs₅.extBut _ _ hIDne e
          rwa [List.append_nil] at this
        · rw [e5]; simp
        · rw [take1, if_pos hb]
          refine All2.app (hys4.imp fun _ _ z => z.butT hs₅.extBut (list_nt hD4)) (.cons ?_ .nil)
          exact IIs.butT (show IIs α4 s4.heap y (f X) from r4) hs₅.extBut (list_nt hD4)
    have T := ht X hXm
    match ifs, T with
    | [], T =>
      refine wpAny_tests_nil ?_
      have A1 := after (E4 := notedBy (Mo w) A (compEnvC scope cl C env) fun e s' => RR (.error e) s') (Post.refl pb.rel)
      rw [show p X = true from T] at A1
      exact A1
    | [c], T =>
      refine wpAny_tests_one (T w A B α' _ _ _ _ bs rm FC pb.rel fun α3 s3 pt => ?_)
      exact after pt
  · refine next_end rm.hh pp.rel H hL hge fun h' hx => ?_
    have pa := pp.butT (tk := s'.toks) hx hI (H.notX pp.rel) hBI H.nt
    have hiL' : i = L.length := Nat.le_antisymm hiL hge
    refine hq α' _ m pa ⟨D, ys, q, rfl, hsD, nD, hx _ _ (Ne.symm hIDne) hD, ?_⟩ (hCs.extBut hx (Ne.symm hICne)) nC
    have := hys.imp fun _ _ z => z.butT hx H.nt
    rwa [hiL', List.take_length] at this
theorem comp_core {n : Nat} {σ₁ : List Ob} {elt iter : Expr} {x : Str} {px pos pos' : Pos} {ifs : List Expr} {scope : Scope} {L : List V} {p : V → Bool} {f : V → It} {use : Option (Value → Sem Unit)} {Q : Value → Shared → Prop}
    (S : CompS nm ρ scope x) (hi : IterOk n nm ρ σ iter src σ₁) (hL : srcL σ₁ src = some L) (hz : L.length ≤ sizeLine) (hs : ∀ env x, foldedSetIterable iter env x = pure x)
    (ht : ∀ X ∈ L, TestsOk n scope.names (rhoC scope.names ρ x X) σ₁ ifs (p X)) (he : ∀ X ∈ L, p X = true → EvOk n scope.names (rhoC scope.names ρ x X) σ₁ elt (.v (.it (f X))) σ₁)
    (bs : Bs w B) (rm : Room n A) (F : FR B nm α ρ env s.heap) (R : Rel w.params B α σ s.heap)
    (hq : ∀ (D C : Nat) α' s' m, Post w.params B noW α s α' σ₁ s' → RIs s.heap α' s'.heap (.ref D) (.new ((L.filter p).map f)) → s'.heap.Ns C m → ¬ InX α' C → s.heap.get? C = none → C ≠ D → compPost (Mo w) A E use Q (.ref D) C (.ok .next) s') :
    wpAny (Mo w) A (comprehension (.ListComp elt [⟨.Name x px, iter, ifs, 0⟩] scope pos) scope env pos' (newList []) false (eval iter env) use) Q E s := by
  obtain ⟨cl, hclos, c1, c2⟩ := closure_ok (env := env) (scope := scope) (fun y hy hk => by
    obtain ⟨e1, e2⟩ := S.free y hy hk
    obtain ⟨Y, hY, _⟩ := any_some e2
    have hkc : env.kindOf y.1 = some .cell := by
      rcases F.kinds y.1 _ e1 with e | ⟨e, _⟩
      · exact e
      · cases e
    obtain ⟨c, _, a, _⟩ := F.cells y.1 Y hY (.inl hkc)
    exact ⟨c, a⟩)
  refine wpAny_comprehension_free (g := ⟨.Name x px, iter, ifs, 0⟩) (gs := []) (use := use) rfl (hs env) hclos S.kind S.names ?_
  refine hi w A B α env s _ _ bs rm F R fun I α1 s1 p1 hI H1 => ?_
  refine wpAny_newObj_type (wpAny_newFunctionEnv S.cell (by intro y hy; simp at hy) (fun h₁ hns₁ hsb₁ => ?_) S.kind)
  dsimp only at hns₁ hsb₁ ⊢
  generalize hH2 : s1.heap.push { cls := .type "list", dict := none, data := .seq ([] : List Value).toArray } = H2 at hns₁ hsb₁ ⊢
  have hC : H2.objs.size = s1.heap.objs.size + 1 := by rw [← hH2, Heap.size_push]
  have hDC : s1.heap.objs.size ≠ H2.objs.size := by omega
  have kp : ∀ (b : Nat) o, s1.heap.get? b = some o → h₁.get? b = some o := fun b o e => by
    have hb := Heap.lt_size e
    exact hsb₁.extBut b o (Nat.ne_of_lt (Nat.lt_trans hb (hC ▸ Nat.lt_succ_self _))) (Heap.get?_push_of_some _ (hH2 ▸ Heap.get?_push_of_some _ e))
  have hD1 : h₁.get? s1.heap.objs.size = some (listObj [] 0) := hsb₁.extBut _ _ hDC (Heap.get?_push_of_some _ (hH2 ▸ Heap.get?_push_size _ rfl))
  have hDn : s1.heap.get? s1.heap.objs.size = none := Heap.get?_none_of_le (Nat.le_refl _)
  have hCn : s1.heap.get? H2.objs.size = none := Heap.get?_none_of_le (by omega)
  have hBC : B.objs.size ≤ H2.objs.size := Nat.le_trans (p1.rel.sizeB bs) (by omega)
  have p2 : Post w.params B noW α s α1 σ₁ { s1 with heap := h₁, toks := s1.toks + ([] : List (Str × Value)).length } := p1.trans (Post.ofKeeps p1.rel kp)
  have nX : ∀ {b : Nat}, s1.heap.get? b = none → ¬ InX α1 b := fun hb q => by
    obtain ⟨o, e, _⟩ := p1.rel.inX_some q
    rw [hb] at e; cases e
  have H1' : IterSt α1 h₁ I src 0 := by
    have := H1.move (m := []) (h' := h₁) fun o e => kp _ _ e
    rwa [List.append_nil] at this
  have loop : codeAny (Mo w) A (.compLoop (.ListComp elt [⟨.Name x px, iter, ifs, 0⟩] scope pos) 0 (.ref I) (.ref s1.heap.objs.size) (compEnvC scope cl H2.objs.size env)) (compPost (Mo w) A E use Q (.ref s1.heap.objs.size) H2.objs.size) { s1 with heap := h₁, toks := s1.toks + ([] : List (Str × Value)).length } := by
    refine comp_loop (src := src) (L := L) (p := p) (f := f) S hL hz ht he bs rm F R c1 c2 hI (p1.grow _ hDn) (p1.grow _ hCn) hBC (fun α' s' m a b c d => hq _ _ α' s' m a b c d (p1.grow _ hCn) (Ne.symm hDC)) (k := L.length) ⟨0, α1, [], 0, _, rfl, Nat.zero_le _, p2, H1', hD1, .nil, hns₁, nX hDn, nX hCn⟩
  exact codeAny_compStart_list loop (iter_self H1' loop)
theorem EvOk.comp {n : Nat} {σ₁ : List Ob} {elt iter : Expr} {x : Str} {px pos : Pos} {ifs : List Expr} {scope : Scope} {L : List V} {p : V → Bool} {f : V → It}
    (S : CompS nm ρ scope x) (hi : IterOk n nm ρ σ iter src σ₁) (hL : srcL σ₁ src = some L) (hz : L.length ≤ sizeLine) (hs : ∀ env x, foldedSetIterable iter env x = pure x)
    (ht : ∀ X ∈ L, TestsOk n scope.names (rhoC scope.names ρ x X) σ₁ ifs (p X)) (he : ∀ X ∈ L, p X = true → EvOk n scope.names (rhoC scope.names ρ x X) σ₁ elt (.v (.it (f X))) σ₁) :
    EvOk n nm ρ σ (.ListComp elt [⟨.Name x px, iter, ifs, 0⟩] scope pos) (.new ((L.filter p).map f)) σ₁ := by
  intro w A B α env s Q E bs rm F R hq
  rw [eval_ListComp]
  refine comp_core (p := p) (f := f) (use := none) S hi hL hz hs ht he bs rm F R fun D C α' s' m pp rr hn nC hC hCD => ?_
  refine ⟨m, hn, fun h' hs' => ?_⟩
  have p2 := pp.butT (tk := s'.toks) hs'.extBut hC nC (R.noneB hC) (ns_nt hn)
  refine hq _ _ _ p2 ?_
  obtain ⟨a, vs, k, e, e1, e2, e3, e4⟩ := rr
  cases e
  exact ⟨D, vs, k, rfl, e1, e2, hs'.extBut _ _ (Ne.symm hCD) e3, e4.imp fun _ _ z => z.butT hs'.extBut (ns_nt hn)⟩
end
end Mine
end
section
/-! ## text R13 -/
open PySem.Builtin PySem.Builtin.Str
set_option maxRecDepth 100000
set_option maxHeartbeats 8000000
namespace Mine
/-! calls of the machine's functions and methods -/
noncomputable def BiOk (n : Nat) (id : String) (args : List V) (σ : List Ob) (r : RV) (σ' : List Ob) : Prop :=
  ∀ (w : World) (A : Around) (B : Heap) (α : Al) (s : Shared) (Q E : Value → Shared → Prop) (vals : List Value), Bs w B → Room n A → Rel w.params B α σ s.heap →
    All2 (VIs α s.heap) vals args → (∀ v α' s', Post w.params B noW α s α' σ' s' → RIs s.heap α' s'.heap v r → Q v s') → wpAny (Mo w) A (call (.builtin id) vals) Q E s
noncomputable def find4 (x y : Str) (i j : Int) : Int := match occurrences x y (fromIndex x.length i) (min (fromIndex x.length j) x.length) 1 with | k :: _ => (k : Int) | [] => -1
noncomputable def rfind4 (x y : Str) (i j : Int) : Int := match lastOccurrence x y (fromIndex x.length i) (min (fromIndex x.length j) x.length) with | some k => (k : Int) | none => -1
theorem gives_find4 (x y : Str) (i j : Int) (t u v w : Tok) : Gives («str.find» ⟨[.str x t, .str y u, .int i v, .int j w], []⟩) (.int (find4 x y i j)) := by
  show Gives (match occurrences x y (fromIndex x.length i) (min (fromIndex x.length j) x.length) 1 with | k :: _ => retInt k | [] => (do rule "str.find.not-found"; retInt (-1))) _
  unfold find4
  cases occurrences x y (fromIndex x.length i) (min (fromIndex x.length j) x.length) 1 with
  | nil => exact .rule (.of_eq rfl)
  | cons k _ => exact .of_eq rfl
theorem gives_rfind4 (x y : Str) (i j : Int) (t u v w : Tok) : Gives («str.rfind» ⟨[.str x t, .str y u, .int i v, .int j w], []⟩) (.int (rfind4 x y i j)) := by
  show Gives (match lastOccurrence x y (fromIndex x.length i) (min (fromIndex x.length j) x.length) with | some k => retInt k | none => (do rule "str.rfind.not-found"; retInt (-1))) _
  unfold rfind4
  cases lastOccurrence x y (fromIndex x.length i) (min (fromIndex x.length j) x.length) with
  | none => exact .rule (.of_eq rfl)
  | some k => exact .of_eq rfl
noncomputable def strM (id : String) (args : List At) : Option At := match args with
  | [.str x] =>
    if id = "str.lower" then (if x.length ≤ 5592405 then some (.str (Txt.lower x)) else none)
    else if id = "str.upper" then (if x.length ≤ 5592405 then some (.str (Txt.upper x)) else none)
    else if id = "len" then (if x.length ≤ sizeLine then some (.int x.length) else none)
    else none
  | [.str x, .str y] =>
    if id = "str.startswith" then some (.bool (Txt.startswith x y))
    else if id = "str.endswith" then some (.bool (Txt.endswith x y))
    else if id = "str.count" then some (.int (Txt.count x y))
    else if id = "str.find" then some (.int (Txt.find x y))
    else if id = "str.index" then (match occurrences x y 0 x.length 1 with
      | i :: _ => some (.int i)
      | [] => none)
    else none
  | [.str x, .str y, .int i, .int j] =>
    if id = "str.find" then some (.int (find4 x y i j))
    else if id = "str.rfind" then some (.int (rfind4 x y i j))
    else none
  | [.int a] => if id = "abs" then some (.int (if a < 0 then -a else a)) else none
  | _ => none
theorem room_in1 {n : Nat} {A : Around} (r : Room (n + 1) A) : Room n A.in1 := ⟨r.hh, by have := r.depth; show A.depth + n < _; omega, by have := r.units; show A.units + 1 + 16 * n < _; omega⟩
theorem BiOk.atoms {n : Nat} {id : String} {args : List V} {ats : List At} {r : At} {σ : List Ob} (ha : atsOf args = some ats) (e : strM id ats = some r) : BiOk n id args σ (.at r) σ := by
  intro w A B α s Q E vals bs rm R hv hq
  have hv' := atsOf_is hv ha
  have fin : ∀ v k, AIs α v r → Q v { s with toks := k } := fun v k h => hq v α _ (Post.tok R) h
  clear hv ha hq
  unfold strM at e
  split at e
  · obtain ⟨v, rfl, t, rfl⟩ : ∃ v, vals = [v] ∧ ∃ t, v = .str _ t := by
      cases hv' with | cons a b => cases b; obtain ⟨t, rfl⟩ := a; exact ⟨_, rfl, t, rfl⟩
    split at e
    · rename_i hid; subst hid
      split at e
      · rename_i hz; cases e; exact SCL.lower hz fun _ => fin _ _ ⟨_, rfl⟩
      · cases e
    · split at e
      · rename_i hid; subst hid
        split at e
        · rename_i hz; cases e; exact SCL.upper hz fun _ => fin _ _ ⟨_, rfl⟩
        · cases e
      · split at e
        · rename_i hid; subst hid
          split at e
          · rename_i hz; cases e
            exact SBL.len (by have : sizeLine < 2 ^ 60 := by decide
                              omega) (fin _ _ ⟨_, rfl⟩)
          · cases e
        · cases e
  · obtain ⟨t, u, rfl⟩ : ∃ t u, vals = [.str _ t, .str _ u] := by
      cases hv' with | cons a b => cases b with | cons c d => cases d; obtain ⟨t, rfl⟩ := a; obtain ⟨u, rfl⟩ := c; exact ⟨t, u, rfl⟩
    split at e
    · rename_i hid; subst hid; cases e; exact SC.startswith (fin _ s.toks rfl)
    · split at e
      · rename_i hid; subst hid; cases e; exact SC.endswith (fin _ s.toks rfl)
      · split at e
        · rename_i hid; subst hid; cases e; exact SC.count (fin _ _ ⟨_, rfl⟩)
        · split at e
          · rename_i hid; subst hid; cases e; exact SC.find (fin _ _ ⟨_, rfl⟩)
          · split at e
            · rename_i hid; subst hid
              split at e
              · rename_i ho; cases e; exact SC.index ho (fin _ _ ⟨_, rfl⟩)
              · cases e
            · cases e
  · obtain ⟨t, u, v, q, rfl⟩ : ∃ t u v q, vals = [.str _ t, .str _ u, .int _ v, .int _ q] := by
      cases hv' with | cons a b => cases b with | cons c d => cases d with | cons e f => cases f with | cons g h => cases h; obtain ⟨t, rfl⟩ := a; obtain ⟨u, rfl⟩ := c; obtain ⟨v, rfl⟩ := e; obtain ⟨q, rfl⟩ := g; exact ⟨t, u, v, q, rfl⟩
    split at e
    · rename_i hid; subst hid; cases e
      exact call_gives PySem.F.slot_str_find (typeIs_str _ _ _) PySem.F.entry_str_find (PySem.F.args_str_find_4 _ _ _ _) (gives_find4 _ _ _ _ t u v q) (fin _ _ ⟨_, rfl⟩)
    · split at e
      · rename_i hid; subst hid; cases e
        exact call_gives PySem.F.slot_str_rfind (typeIs_str _ _ _) PySem.F.entry_str_rfind (PySem.F.args_str_rfind_4 _ _ _ _) (gives_rfind4 _ _ _ _ t u v q) (fin _ _ ⟨_, rfl⟩)
      · cases e
  · obtain ⟨t, rfl⟩ : ∃ t, vals = [.int _ t] := by
      cases hv' with | cons a b => cases b; obtain ⟨t, rfl⟩ := a; exact ⟨t, rfl⟩
    split at e
    · rename_i hid; subst hid; cases e
      exact call_abs_int fun u tk => fin _ _ ⟨_, rfl⟩
    · cases e
  · cases e
theorem BiOk.min2 {n : Nat} {a b : Int} {σ : List Ob} : BiOk n "min" [.int a, .int b] σ (.at (.int (if b < a then b else a))) σ := by
  intro w A B α s Q E vals bs rm R hv hq
  cases hv with | cons v1 v2 => cases v2 with | cons v3 v4 =>
  cases v4
  obtain ⟨t, rfl⟩ := v1
  obtain ⟨u, rfl⟩ := v3
  refine min_two_ints rm.hh fun h' tk hk => ?_
  have p : Post w.params B noW α s α σ { s with heap := h', toks := tk } := Post.ofKeeps R hk
  by_cases hc : b < a
  · rw [if_pos hc]; exact hq _ _ _ p ⟨_, by rw [if_pos hc]⟩
  · rw [if_neg hc]; exact hq _ _ _ p ⟨_, by rw [if_neg hc]⟩
noncomputable def intsIt : List It → Option (List Int)
  | [] => some []
  | .at (.int i) :: r => (intsIt r).map (i :: ·)
  | _ => none
theorem intsIt_ok {α : Al} {h : Heap} : ∀ {vs : List Value} {l : List It} {ns : List Int}, All2 (IIs α h) vs l → intsIt l = some ns → IntsAre vs ns
  | _, _, _, .nil, e => by cases e; exact .nil
  | _, x :: l, ns, .cons a b, e => by
    unfold intsIt at e
    split at e
    · rename_i heq; cases heq
    · rename_i x' r' heq
      cases heq
      obtain ⟨ds', e1, e2⟩ := Option.map_eq_some_iff.mp e
      subst e2
      obtain ⟨t, rfl⟩ := a
      exact .cons _ _ (intsIt_ok b e1)
    · cases e
noncomputable def objL (σ : List Ob) (j : Nat) : Option (List It) := match σ[j]? with
  | some (.list l) => some l
  | _ => none
theorem objL_at {P : Params} {B : Heap} {α : Al} {σ : List Ob} {s : Shared} {j : Nat} {l : List It} {v : Value} (R : Rel P B α σ s.heap) (e : objL σ j = some l) (h : VIs α s.heap v (.obj j)) :
    ∃ (p : Nat × Nat) (vs : List Value) (n : Nat), α[j]? = some p ∧ v = .ref p.1 ∧ p.2 = p.1 ∧ s.heap.get? p.1 = some (listObj vs n) ∧ All2 (IIs α s.heap) vs l := by
  unfold objL at e
  split at e
  · rename_i l' e'
    cases e
    obtain ⟨p, hp, rfl⟩ := h
    obtain ⟨ob, e2, ho⟩ := R.obs.getL hp
    rw [e'] at e2
    cases e2
    obtain ⟨q, vs, n, g, r⟩ := ho
    exact ⟨p, vs, n, hp, rfl, q, g, r⟩
  · cases e
theorem BiOk.sum {n j : Nat} {σ : List Ob} {l : List It} {ns : List Int} (hl : objL σ j = some l) (hn : intsIt l = some ns) : BiOk n "sum" [.obj j] σ (.at (.int ns.sum)) σ := by
  intro w A B α s Q E vals bs rm R hv hq
  cases hv with | cons a b =>
  cases b
  obtain ⟨p, vs, k, hp, rfl, _, g, r⟩ := objL_at R hl a
  have hi := intsIt_ok r hn
  obtain ⟨xs, hx⟩ := hi.allInts.items
  have hl' : s.heap.IsList p.1 (intItems xs) := hx ▸ isList_of g
  refine sum_intListG rm.hh hl' fun h' tk t' hk => ?_
  have e1 : ns = xs.toList.map (·.1) := by
    rw [← nums_intItems, ← hx]
    exact (show numsOf vs.toArray.toList = ns from hi.numsOf).symm
  have e2 : preSum (numAt xs) xs.size = ns.sum := by
    rw [preSum_eq, List.take_of_length_le (by simp), e1]
  rw [e2]
  exact hq _ α _ (Post.ofKeeps R hk) ⟨t', rfl⟩
theorem BiOk.lenL {n j : Nat} {σ : List Ob} {l : List It} (hl : objL σ j = some l) (hz : l.length ≤ sizeLine) : BiOk n "len" [.obj j] σ (.at (.int l.length)) σ := by
  intro w A B α s Q E vals bs rm R hv hq
  cases hv with | cons a b =>
  cases b
  obtain ⟨p, vs, k, hp, rfl, _, g, r⟩ := objL_at R hl a
  have e : vs.toArray.size = l.length := by rw [List.size_toArray, r.length]
  refine Calls.call_len_list (isList_of g) (by rw [e]; have : sizeLine < 2 ^ 60 := by decide
                                               omega) (hq _ α _ (Post.tok R) ⟨s.toks + 1, by rw [e]⟩)
theorem BiOk.join {n j : Nat} {σ : List Ob} {l : List It} {x : Str} {ys : List Str} (hl : objL σ j = some l) (hs : strsIt l = some ys) (hok : JoinOk x ys = true) : BiOk n "str.join" [.str x, .obj j] σ (.at (.str (Txt.join x ys))) σ := by
  intro w A B α s Q E vals bs rm R hv hq
  cases hv with | cons a b =>
  cases b with | cons b c =>
  cases c
  obtain ⟨t, rfl⟩ := a
  obtain ⟨p, vs, k, hp, rfl, _, g, r⟩ := objL_at R hl b
  have hi := strsIt_ok r hs
  obtain ⟨ps, e1, e2⟩ : ∃ ps : List (Str × Tok), vs = strValues ps ∧ ps.map (·.1) = ys := by
    clear g r b hs hok hq
    induction hi with
    | nil => exact ⟨[], rfl, rfl⟩
    | cons y t _ ih => obtain ⟨ps, e1, e2⟩ := ih; exact ⟨(y, t) :: ps, by rw [e1]; rfl, by rw [← e2]; rfl⟩
  subst e1
  exact SC.join (isList_of g) e2 hok fun t' k => hq _ α _ (Post.tok R) ⟨t', rfl⟩
theorem numbered_is {α : Al} {h : Heap} : ∀ {l : List (Str × Tok)} {ys : List Str}, l.map (·.1) = ys → All2 (IIs α h) (strValues l) (ys.map fun y => .at (.str y))
  | [], _, e => by subst e; exact .nil
  | (y, t) :: l, _, e => by subst e; exact .cons ⟨t, rfl⟩ (numbered_is rfl)
theorem BiOk.split {n : Nat} {σ : List Ob} {x y : Str} (hy : (y.length == 0) = false) (hx : x.length ≤ sizeLine) (hn : (partsBetween x (occurrences x y 0 x.length (x.length + 1)) y.length).length ≤ sizeLine) :
    BiOk n "str.split" [.str x, .str y] σ (.new ((Txt.split x y).map fun y => .at (.str y))) σ := by
  intro w A B α s Q E vals bs rm R hv hq
  cases hv with | cons a b =>
  cases b with | cons b c =>
  cases c
  obtain ⟨t, rfl⟩ := a
  obtain ⟨u, rfl⟩ := b
  have fin : ∀ (l : List (Str × Tok)) tk, l.map (·.1) = Txt.split x y → Q (.ref s.heap.objs.size) { s with heap := s.heap.push { cls := .type "list", data := .seq (strValues l).toArray }, toks := tk } := by
    intro l tk e
    refine hq _ α _ (Post.push R _) ⟨s.heap.objs.size, strValues l, 0, rfl, Heap.get?_none_of_le (Nat.le_refl _), new_notX R, Heap.get?_push_size _ rfl, numbered_is e⟩
  cases h1 : (decide (x.length < y.length) || decide (strKind x < strKind y))
  · cases hf : (occurrences x y 0 x.length (x.length + 1)).isEmpty
    · refine call_meets PySem.F.slot_str_split (typeIs_str _ _ _) PySem.F.entry_str_split (PySem.F.args_str_split_2 _ _) (meets_str_split_sep x y t u h1 hy hf hx hn) ?_
      show Q _ { s with toks := _, heap := s.heap.push { cls := .type "list", data := .seq (strsFrom s.toks (partsBetween x (occurrences x y 0 x.length (x.length + 1)) y.length)).toArray } }
      rw [strsFrom_eq]
      exact fin (numbered s.toks _) _ ((numbered_texts _ _).trans ((if_neg (ne_true_of_eq_false h1)).trans (if_neg (ne_true_of_eq_false hf))).symm)
    · exact call_meets PySem.F.slot_str_split (typeIs_str _ _ _) PySem.F.entry_str_split (PySem.F.args_str_split_2 _ _) (meets_str_split_not_found x y t u h1 hy hf) (fin [(x, t)] _ ((if_neg (ne_true_of_eq_false h1)).trans (if_pos hf)).symm)
  · exact call_meets PySem.F.slot_str_split (typeIs_str _ _ _) PySem.F.entry_str_split (PySem.F.args_str_split_2 _ _) (meets_str_split_cannot_occur x y t u h1) (fin [(x, t)] _ (if_pos h1).symm)
end Mine
end
section
/-! ## text R14 -/
open PySem.Builtin PySem.Builtin.Str
set_option maxRecDepth 100000
set_option maxHeartbeats 8000000
namespace Mine
/-! an object changes -/
section
variable {w : World} {A : Around} {E : Value → Shared → Prop} {B : Heap} {nm : Nm} {α α' α₀ : Al} {ρ ρ' : Rho} {env : Env} {s s' s₀ : Shared} {σ σ' σ₀ : List Ob} {P : Params} {W : Nat → Prop} {h h' : Heap} {j : Nat} {p : Nat × Nat} {ob : Ob} {Z : Nat → Prop}
theorem IIs.butZ {v : Value} {X : It} (H : IIs α h v X) (hk : ∀ (b : Nat) o, ¬ Z b → h.get? b = some o → h'.get? b = some o) (hq : ∀ b, Z b → NTup h b) : IIs α h' v X :=
  H.keep fun b vs n e _ => hk b _ (fun z => hq b z _ e _ _ rfl) e
theorem Rel.setOb (R : Rel P B α σ h) (hj : α[j]? = some p) (hk : ∀ (b : Nat) o, ¬ Z b → h.get? b = some o → h'.get? b = some o) (hq : ∀ b, Z b → NTup h b) (hB : ∀ b, Z b → B.get? b = none) (hZ : ∀ b, Z b → b = p.1 ∨ b = p.2 ∨ ¬ InX α b)
    (hn : OIs P α h' p ob) : Rel P B α (σ.set j ob) h' := by
  refine ⟨fun b o e => hk b o (fun z => by rw [hB b z] at e; cases e) (R.base b o e), R.new, R.obs.setImp hj hn fun i q o' hij hq' ho r => ?_, R.apart⟩
  have ap := R.apart i j q p hq' hj hij
  have nz : ∀ b, b = q.1 ∨ b = q.2 → ¬ Z b := fun b hb z => by
    rcases hZ b z with e | e | e
    · rcases hb with hb | hb
      · exact ap.1 (hb ▸ e)
      · exact ap.2.2.1 (hb ▸ e)
    · rcases hb with hb | hb
      · exact ap.2.1 (hb ▸ e)
      · exact ap.2.2.2 (hb ▸ e)
    · exact e ⟨q, List.mem_of_getElem? hq', hb⟩
  cases o' with
  | list l => obtain ⟨e, vs, n, g, r⟩ := r; exact ⟨e, vs, n, hk _ _ (nz _ (.inl rfl)) g, r.imp fun _ _ z => z.butZ hk hq⟩
  | hdr f =>
    obtain ⟨e1, e2, e3⟩ := r
    refine ⟨e1, hk _ _ (nz _ (.inl rfl)) e2, ?_⟩
    cases f with
    | none => exact hk _ _ (nz _ (.inr rfl)) e3
    | some x => obtain ⟨v, t, n, e3, r⟩ := e3; exact ⟨v, t, n, hk _ _ (nz _ (.inr rfl)) e3, r⟩
theorem Post.setOb (R : Rel P B α σ s.heap) (hj : α[j]? = some p) (hk : ∀ (b : Nat) o, ¬ Z b → s.heap.get? b = some o → h'.get? b = some o) (hq : ∀ b, Z b → NTup s.heap b) (hB : ∀ b, Z b → B.get? b = none) (hZ : ∀ b, Z b → b = p.1 ∨ b = p.2 ∨ ¬ InX α b)
    (hW : ∀ b, Z b → ¬ InX α b → W b) (he : ∀ b, Z b → h'.get? b ≠ none) (hn : OIs P α h' p ob) {tk : Nat} : Post P B W α s α (σ.set j ob) { s with heap := h', toks := tk } := by
  refine ⟨⟨_, _, rfl⟩, ⟨[], by simp, fun _ h => nomatch h⟩, fun b o e n w => hk b o (fun z => w (hW b z n)) e, fun b e => ?_, R.setOb hj hk hq hB hZ hn⟩
  by_cases z : Z b
  · exact absurd e (he b z)
  · cases q : s.heap.get? b with
    | none => rfl
    | some o => have := hk b o z q; rw [this] at e; cases e
end
theorem erase_toArray {α : Type} (l : List α) (k : Nat) : l.toArray.eraseIdxIfInBounds k = (l.eraseIdx k).toArray := by
  unfold Array.eraseIdxIfInBounds
  split
  · simp
  · rename_i h; rw [List.eraseIdx_of_length_le (by simpa using h)]
theorem all2_erase {α β : Type} {R : α → β → Prop} : ∀ {l : List α} {m : List β}, All2 R l m → ∀ k, All2 R (l.eraseIdx k) (m.eraseIdx k)
  | _, _, .nil, k => by simp; exact .nil
  | _, _, .cons x y, 0 => y
  | _, _, .cons x y, k + 1 => .cons x (all2_erase y k)
/-! list.append, del -/
section
variable {n : Nat} {nm : Nm} {ρ ρ₁ ρ₂ ρ₃ : Rho} {σ σ₁ σ₂ σ₃ : List Ob}
theorem list_set {w : World} {B : Heap} {α : Al} {σ : List Ob} {s : Shared} {j : Nat} {p : Nat × Nat} {vs vs' : List Value} {k k' : Nat} {l' : List It} {h' : Heap} {tk : Nat} (R : Rel w.params B α σ s.heap) (hp : α[j]? = some p) (hpp : p.2 = p.1)
    (g : s.heap.get? p.1 = some (listObj vs k)) (hs : Heap.SameBut p.1 s.heap h') (g' : h'.get? p.1 = some (listObj vs' k')) (hv : All2 (IIs α s.heap) vs' l') : Post w.params B noW α s α (σ.set j (.list l')) { s with heap := h', toks := tk } := by
  refine Post.setOb (ob := .list l') (Z := (· = p.1)) R hp (fun b o z e => hs.extBut b o z e) (fun b z => z ▸ list_nt g) (fun b z => z ▸ (R.new p (List.mem_of_getElem? hp)).1) (fun b z => .inl z) (fun b z hn => absurd ⟨p, List.mem_of_getElem? hp, .inl z⟩ hn)
    (fun b z => by rw [z, g']; exact fun e => nomatch e) ⟨hpp, vs', k', g', hv.imp fun _ _ z => z.butT hs.extBut (list_nt g)⟩
theorem BiOk.append {j : Nat} {l : List It} {x : It} (hl : objL σ j = some l) (hz : l.length ≤ sizeLine) : BiOk n "list.append" [.obj j, .it x] σ (.at .none) (σ.set j (.list (l ++ [x]))) := by
  intro w A B α s Q E vals bs rm R hv hq
  cases hv with | cons a b =>
  cases b with | cons b c =>
  cases c
  obtain ⟨p, vs, k, hp, rfl, hpp, g, r⟩ := objL_at R hl a
  refine wpAny_list_append_plain (hsz := by rw [List.size_toArray, r.length]; exact hz) (items := vs.toArray) ⟨k, g⟩ fun h' hl' hs' => ?_
  obtain ⟨k', g'⟩ := hl'
  have pp := list_set (vs' := vs ++ [_]) (k' := k') (tk := s.toks) R hp hpp g hs' (by rw [g']; simp) (r.app (.cons b .nil))
  exact hq _ _ _ pp rfl
theorem ExOk.delAt {x : Str} {px pos' pos : Pos} {e : Expr} {j : Nat} {l : List It} {i : Int} {k : Nat} (hx : isLoc (nm.lookup x) = true) (hr : ρ.lookup x = some (.obj j)) (hd : (x == ("__debug__" : Str)) = false) (hd' : (x == ("__classdict__" : Str)) = false)
    (h1 : EvOk n nm ρ σ e (.at (.int i)) σ) (hl : objL σ j = some l) (hk : seqIndex? i l.length = some k) (hfit : Builtin.List.listFitsIndex i = true) (hz : l.length ≤ sizeLine) :
    ExOk n nm ρ σ (.Delete [.Subscript (.Name x px) e pos'] pos) .go ρ (σ.set j (.list (l.eraseIdx k))) := by
  intro w A B α env s Q E bs rm F R hq
  refine wpAny_Delete (wpAny_deleteEach_cons ?_)
  show wpAny (Mo w) A (do
    let ov ← eval (.Name x px) env
    let iv ← holding [ov] (eval e env)
    standAt pos'
    holding [ov, iv] (delItem ov iv)
    release [ov, iv] []) _ E s
  refine wpAny_bind (ev_name F.toFR hx hr hd hd' fun v hv => wpAny_bind (wpAny_holding ?_))
  refine h1 w A B α env s _ _ bs rm F.toFR R fun u α1 s1 p1 r1 => wpAny_bind (wpAny_standAt (wpAny_bind (wpAny_holding ?_)))
  obtain ⟨t, rfl⟩ := r1
  obtain ⟨p, vs, k', hp, rfl, hpp, g, r⟩ := objL_at p1.rel hl (p1.vis0 hv)
  have hlen : vs.toArray.size = l.length := by rw [List.size_toArray, r.length]
  refine wpAny_delItem_plain (k := k) ⟨k', g⟩ hfit (by rw [hlen]; exact hk) (fun h' hl' hs' => ?_) (by rw [hlen]; exact hz)
  obtain ⟨k2, g'⟩ := hl'
  have pp := list_set (vs' := vs.eraseIdx k) (k' := k2) (tk := s1.toks) p1.rel hp hpp g hs' (by rw [g', erase_toArray]) (all2_erase r k)
  have pq := p1.trans pp
  exact wpAny_release (wpAny_deleteEach_nil (hq _ _ _ pq.own (F.post R pq) rfl))
theorem EvOk.neg {e : Expr} {pos : Pos} {i : Int} (h1 : EvOk n nm ρ σ e (.at (.int i)) σ₁) : EvOk n nm ρ σ (.UnaryOp .USub e pos) (.at (.int (-i))) σ₁ := by
  intro w A B α env s Q E bs rm F R hq
  refine UnaryOp_ (h1 w A B α env s _ _ bs rm F R fun v α1 s1 p1 r1 => ?_)
  obtain ⟨t, rfl⟩ := r1
  exact PySem.P.neg_int (hq _ _ _ (p1.trans (Post.tok p1.rel)) ⟨_, rfl⟩)
/-! attributes -/
theorem KF_get (P : Params) : plainGet (KF P) 175 "_headers" = true ∧ hasDictIn (KF P) 175 = true ∧ findIn (KF P) (.ref 175) "_headers" = some none := ⟨by kernel_rfl, by kernel_rfl, by kernel_rfl⟩
theorem isStr_h {t : Tok} : (Value.str "_headers" t).isStr "_headers" = true := by kernel_rfl
theorem getL_h {hs : Int} {t : Tok} {v : Value} : getL "_headers" [(⟨hs, .str "_headers" t, v⟩ : DictEntry)] = some (some v) := by
  unfold getL
  rw [List.find?_cons_of_pos (p := fun x : DictEntry => x.key.isStr "_headers") isStr_h]
theorem hdr_at {w : World} {B : Heap} {α : Al} {σ : List Ob} {s : Shared} {j : Nat} {f : Option At} {v : Value} (R : Rel w.params B α σ s.heap) (e : σ[j]? = some (.hdr f)) (h : VIs α s.heap v (.obj j)) :
    ∃ p : Nat × Nat, α[j]? = some p ∧ v = .ref p.1 ∧ OIs w.params α s.heap p (.hdr f) := by
  obtain ⟨p, hp, rfl⟩ := h
  obtain ⟨ob, e2, ho⟩ := R.obs.getL hp
  rw [e] at e2
  cases e2
  exact ⟨p, hp, rfl, ho⟩
theorem hdr_inst {w : World} {α : Al} {h : Heap} {p : Nat × Nat} {f : Option At} (ho : OIs w.params α h p (.hdr f)) :
    ∃ es n, InstAt h p.1 (hdrObj p.2) 175 (some (dictOf es n)) ∧ (es = [] ∨ ∃ hs t v, es = [⟨hs, .str "_headers" t, v⟩]) ∧ h.get? p.2 = some (dictOf es n) := by
  obtain ⟨e1, e2, e3⟩ := ho
  cases f with
  | none => exact ⟨[], 0, ⟨e2, rfl, rfl, e3⟩, .inl rfl, e3⟩
  | some x => obtain ⟨v, t, n, e3, r⟩ := e3; exact ⟨_, n, ⟨e2, rfl, rfl, e3⟩, .inr ⟨_, _, _, rfl⟩, e3⟩
theorem EvOk.attr {o : Expr} {pos : Pos} {j k : Nat} (h1 : EvOk n nm ρ σ o (.v (.obj j)) σ₁) (hj : σ₁[j]? = some (.hdr (some (.obj k)))) (hb : ∀ env x, attributeBase o "_headers" env x = x) : EvOk n nm ρ σ (.Attribute o "_headers" pos) (.v (.obj k)) σ₁ := by
  intro w A B α env s Q E bs rm F R hq
  rw [arm_eval_Attribute, hb]
  refine wpAny_bind (h1 w A B α env s _ _ bs rm F R fun v1 α1 s1 p1 r1 => wpAny_bind (wpAny_standAt (wpAny_bind (wpAny_holding ?_))))
  obtain ⟨p, hp, rfl, ho⟩ := hdr_at p1.rel hj r1
  obtain ⟨e1, e2, v, t, m, e3, hv⟩ := ho
  obtain ⟨m', hF, _⟩ := (F.post R p1).fr
  obtain ⟨k1, k2, k3⟩ := KF_get w.params
  have hv' := hv
  obtain ⟨p', hp', rfl⟩ := hv'
  refine get_own hF bs.kin ⟨e2, rfl, rfl, e3⟩ k1 k2 k3 rfl getL_h rfl (wpAny_bind (wpAny_letTemporaryGo (wpAny_pure ?_)))
  exact hq _ _ _ (p1.trans (Post.tok p1.rel)) hv
/-! type(x) -/
noncomputable def tyI (σ : List Ob) : V → Option String
  | .it (.at (.str _)) => some "str"
  | .it (.at (.obj j)) => (objL σ j).map fun _ => "list"
  | _ => none
theorem EvOk.type {np pos : Pos} {e : Expr} {r : RV} {T : String} (hp : plainE e = true) (hk : nm.lookup ("type" : Str) = some .globalImplicit) (h1 : EvOk n nm ρ σ e r σ₁) (hT : tyI (matI r σ₁).2 (matI r σ₁).1 = some T) :
    EvOk n nm ρ σ (.Call (.Name "type" np) [e] [] pos) (.at (.ty T)) (matI r σ₁).2 := by
  intro w A B α env s Q E bs rm F R hq
  refine Call_name1 (starEach_plain hp [] env) (ev_glob bs F hk (a := .ty "type") (by kernel_rfl) (by decide) fun v hv => ?_)
  cases hv
  refine PySem.callWith_type1 (h1 w A B α env s _ _ bs rm F R fun v1 α1 s1 p1 r1 => ?_)
  obtain ⟨α2, p2, r2⟩ := mat_ok p1 R.base r1
  generalize matI r σ₁ = M at hT r2 p2 hq
  obtain ⟨X, σ2⟩ := M
  unfold tyI at hT
  dsimp only at hT
  split at hT
  · cases hT
    obtain ⟨t, rfl⟩ := r2
    exact call_type_of (typeIs_str _ _ _) (by decide) (hq _ _ _ p2 rfl)
  · obtain ⟨l, e1, e2⟩ := Option.map_eq_some_iff.mp hT
    subst e2
    obtain ⟨p, vs, k, hp, rfl, _, g, _⟩ := objL_at p2.rel e1 r2
    exact call_type_of ⟨_, g, rfl⟩ (by decide) (hq _ _ _ p2 rfl)
  · cases hT
end
end Mine
end
section
/-! ## text R15 -/
open PySem.Builtin PySem.Builtin.Str
set_option maxRecDepth 100000
set_option maxHeartbeats 8000000
namespace Mine
theorem plain_any {env : Env} {pos : Pos} : ∀ {args : List Expr}, args.all plainE = true → (backTo pos (starEach args env)).any (·.1) = false
  | [], _ => rfl
  | e :: r, h => by
    rw [List.all_cons, Bool.and_eq_true] at h
    rw [starEach_plain h.1, backTo_plain, List.any_cons, plain_any h.2]
    rfl
section
variable {n : Nat} {nm : Nm} {ρ ρ₁ ρ₂ ρ₃ : Rho} {σ σ₁ σ₂ σ₃ : List Ob}
theorem Rel.kin {w : World} {B : Heap} {α : Al} {σ : List Ob} {h : Heap} (b : Bs w B) (R : Rel w.params B α σ h) : (KF w.params).In h := b.kin.keeps R.base
/-- f(args) : the function's value is known -/
theorem callWith_ok {w : World} {A : Around} {E : Value → Shared → Prop} {B : Heap} {α : Al} {env : Env} {s : Shared} {Q : Value → Shared → Prop} {f : Value} {first : List Value} {args : List Expr} {Vs : List V} {pos : Pos} (hk : keepIn (KF w.params) f = true) (hp : args.all plainE = true)
    (h1 : EvsOk n nm ρ σ args Vs σ₁) (bs : Bs w B) (rm : Room n A) (F : FR B nm α ρ env s.heap) (R : Rel w.params B α σ s.heap)
    (hq : ∀ vs α' s', Post w.params B noW α s α' σ₁ s' → All2 (VIs α' s'.heap) vs Vs → wpAny (Mo w) A (call f (first ++ vs)) Q E s') : wpAny (Mo w) A (callWith pos f first (backTo pos (starEach args env)) []) Q E s := by
  cases args with
  | nil =>
    refine callWith_K0 (R.kin bs) hk ?_
    have := h1 w A B α env s pos (fun vs s' => wpAny (Mo w) A (call f (first ++ vs)) Q E s') E bs rm F R fun vs α' s' p r => hq vs α' s' p r
    intro Γ p hΓ
    have z := this Γ p hΓ
    exact z Γ p hΓ
  | cons e rest =>
    rw [List.all_cons, Bool.and_eq_true] at hp
    refine callWith_K (R.kin bs) hk ?_ (starEach_plain hp.1 _ _) (plain_any hp.2)
    exact h1 w A B α env s pos _ _ bs rm F R fun vs α' s' p r => ⟨p.rel.kin bs, hq vs α' s' p r⟩
theorem EvOk.callG {g : Str} {gp pos : Pos} {args : List Expr} {Vs : List V} {f : Nat} {r : RV} (hp : args.all plainE = true) (hk : nm.lookup g = some .globalImplicit) (hv : gval g = some (.ref f)) (hd : (g == ("__debug__" : Str)) = false)
    (hkeep : ∀ P, keepIn (KF P) (.ref f) = true) (h1 : EvsOk n nm ρ σ args Vs σ₁) (h2 : FnOk n f Vs [] σ₁ r σ₂) : EvOk n nm ρ σ (.Call (.Name g gp) args [] pos) r σ₂ := by
  intro w A B α env s Q E bs rm F R hq
  refine Call_Name rfl (ev_glob bs F hk hv hd fun v hv => ?_)
  cases hv
  refine callWith_ok (hkeep _) hp h1 bs rm F R fun vs α1 s1 p1 r1 => ?_
  exact h2.call bs rm p1.rel r1 .nil fun v α2 s2 p2 r2 => hq _ _ _ (p1.trans p2) (r2.weak p1.grow)
/-- a machine's function by its name -/
theorem EvOk.callB {g : Str} {gp pos : Pos} {e : Expr} {args : List Expr} {Vs : List V} {id : String} {r : RV} (hp : (e :: args).all plainE = true) (hk : nm.lookup g = some .globalImplicit) (hv : gval g = some (.bi id)) (hd : (g == ("__debug__" : Str)) = false)
    (h1 : EvsOk n nm ρ σ (e :: args) Vs σ₁) (h2 : BiOk n id Vs σ₁ r σ₂) : EvOk n nm ρ σ (.Call (.Name g gp) (e :: args) [] pos) r σ₂ := by
  intro w A B α env s Q E bs rm F R hq
  refine Call_Name rfl (ev_glob bs F hk hv hd fun v hv => ?_)
  cases hv
  have hp' := hp
  rw [List.all_cons, Bool.and_eq_true] at hp'
  refine callWith_builtin (plain_any hp) ?_
  have e1 : backTo pos (starEach (e :: args) env) = (false, eval e env) :: backTo pos (starEach args env) := by rw [starEach_plain hp'.1, backTo_plain]
  have := h1 w A B α env s pos (fun vs s' => wpAny (Mo w) A (call (.builtin id) ([] ++ vs)) Q E s') E bs rm F R fun vs α' s' p r => h2 w A B α' s' Q E vs bs rm p.rel r fun v α2 s2 p2 r2 => hq _ _ _ (p.trans p2) (r2.weak p.grow)
  rw [e1] at this ⊢
  exact evalArgs_plain this
/-- a machine's method -/
noncomputable def MbOk (name : Str) (id : String) (X : V) (σ : List Ob) : Prop := ∀ (w : World) (A : Around) (B : Heap) (α : Al) (s : Shared) (pl : Sem Bool) (Q : Value × List Value → Shared → Prop) (E : Value → Shared → Prop) (v : Value), Bs w B → Rel w.params B α σ s.heap → VIs α s.heap v X → Q (.builtin id, [v]) s → wpAny (Mo w) A (getMethod v name pl) Q E s
noncomputable def methForm (o : Expr) (name : Str) (apos pos : Pos) (args : List Expr) (kws : List Keyword) : Prop := ∀ env, eval (.Call (.Attribute o name apos) args kws pos) env = (do
      let ov ← eval o env
      standAt apos.atName
      let (f, first) ← holding [ov] (getMethod ov name (do return (← importBound o env).getD true))
      callWith pos f first (backTo pos (starEach args env)) (backToKw pos (keywordEach kws env)))
theorem EvOk.methB {o : Expr} {name : Str} {apos pos : Pos} {args : List Expr} {Vs : List V} {id : String} {r0 r : RV} (hf : methForm o name apos pos args []) (hp : args.all plainE = true) (h0 : EvOk n nm ρ σ o r0 σ₁) (hm : MbOk name id (matI r0 σ₁).1 (matI r0 σ₁).2)
    (h1 : EvsOk n nm ρ (matI r0 σ₁).2 args Vs σ₂) (h2 : BiOk n id ((matI r0 σ₁).1 :: Vs) σ₂ r σ₃) : EvOk n nm ρ σ (.Call (.Attribute o name apos) args [] pos) r σ₃ := by
  intro w A B α env s Q E bs rm F R hq
  refine methodCall_KW (h0 w A B α env s _ _ bs rm F R fun v0 α0 s0 p0 r0 => ?_) (hf env)
  obtain ⟨α1, p1, r1⟩ := mat_ok p0 R.base r0
  refine hm w A B α1 s0 _ _ _ v0 bs p1.rel r1 ?_
  show wpAny (Mo w) A (callWith pos (.builtin id) [v0] (backTo pos (starEach args env)) []) Q E s0
  have F1 := F.post R p1
  refine callWith_builtin (plain_any hp) ?_
  have key := h1 w A B α1 env s0 pos (fun vs s' => wpAny (Mo w) A (call (.builtin id) ([v0] ++ vs)) Q E s') E bs rm F1 p1.rel fun vs α' s' p r => h2 w A B α' s' Q E (v0 :: vs) bs rm p.rel (.cons (p.vis0 r1) r) fun v α2 s2 p2 r2 => hq _ _ _ ((p1.trans p).trans p2) ((r2.weak p.grow).weak p1.grow)
  cases args with
  | nil =>
    refine evalArgs_nil3 ?_
    intro Γ p hΓ
    exact key Γ p hΓ Γ p hΓ
  | cons e rest =>
    rw [List.all_cons, Bool.and_eq_true] at hp
    have e1 : backTo pos (starEach (e :: rest) env) = (false, eval e env) :: backTo pos (starEach rest env) := by rw [starEach_plain hp.1, backTo_plain]
    rw [e1] at key ⊢
    exact evalArgs_plain key
theorem MbOk.str {name : Str} {id : String} {x : Str} {σ : List Ob} (h : ∀ (M : Model) (A : Around) (s : Shared) (pl : Sem Bool) (Q : Value × List Value → Shared → Prop) (E : Value → Shared → Prop) (t : Tok), Q (.builtin id, [.str x t]) s → wpAny M A (getMethod (.str x t) name pl) Q E s) : MbOk name id (.str x) σ := by
  intro w A B α s pl Q E v bs R hv hq
  obtain ⟨t, rfl⟩ := hv
  exact h _ _ _ _ _ _ _ hq
theorem MbOk.append {j : Nat} {l : List It} {σ : List Ob} (hl : objL σ j = some l) : MbOk "append" "list.append" (.obj j) σ := by
  intro w A B α s pl Q E v bs R hv hq
  obtain ⟨p, vs, k, hp, rfl, _, g, _⟩ := objL_at R hl hv
  exact Calls.getMethod_list_append g rfl rfl hq
/-- a method of Headers -/
structure HmOk (name : Str) (f : Nat) : Prop where
  get : ∀ P, plainGet (KF P) 175 name = true
  find : ∀ P, findIn (KF P) (.ref 175) name = some (some (.ref f))
  fn : ∀ P, isFn (KF P) (.ref f) = true
  keep : ∀ P, keepIn (KF P) (.ref f) = true
  own : ∀ t, (Value.str "_headers" t).isStr name = false
theorem getL_not {name : Str} {es : List DictEntry} (h : ∀ t, (Value.str "_headers" t).isStr name = false) (he : es = [] ∨ ∃ hs t v, es = [⟨hs, .str "_headers" t, v⟩]) : getL name es = some none := by
  rcases he with rfl | ⟨hs, t, v, rfl⟩
  · rfl
  · unfold getL
    rw [List.find?_cons_of_neg (p := fun x : DictEntry => x.key.isStr name) (by simp [h]), List.find?_nil]
    rfl
theorem EvOk.methU {o : Expr} {name : Str} {apos pos : Pos} {args : List Expr} {Vs : List V} {j f : Nat} {fo : Option At} {r : RV} (H : HmOk name f) (hf : methForm o name apos pos args []) (hp : args.all plainE = true) (h0 : EvOk n nm ρ σ o (.v (.obj j)) σ₁) (hj : σ₁[j]? = some (.hdr fo))
    (h1 : EvsOk n nm ρ σ₁ args Vs σ₂) (h2 : FnOk n f (.obj j :: Vs) [] σ₂ r σ₃) : EvOk n nm ρ σ (.Call (.Attribute o name apos) args [] pos) r σ₃ := by
  intro w A B α env s Q E bs rm F R hq
  refine methodCall_KW (h0 w A B α env s _ _ bs rm F R fun v0 α0 s0 p0 r0 => ?_) (hf env)
  obtain ⟨p, hp', rfl, ho⟩ := hdr_at p0.rel hj r0
  obtain ⟨es, k, I, he, _⟩ := hdr_inst ho
  have F1 := F.post R p0
  obtain ⟨m', hF, _⟩ := F1.fr
  refine method_inst hF bs.kin I (H.get _) (H.find _) (H.fn _) (getL_not H.own he) ?_
  show wpAny (Mo w) A (callWith pos (.ref f) [.ref p.1] (backTo pos (starEach args env)) []) Q E s0
  refine callWith_ok (H.keep _) hp h1 bs rm F1 p0.rel fun vs α1 s1 p1 r1 => ?_
  exact h2.call bs rm p1.rel (.cons (p1.vis0 (show VIs α0 s0.heap (.ref p.1) (.obj j) from ⟨p, hp', rfl⟩)) r1) .nil fun v α2 s2 p2 r2 => hq _ _ _ ((p0.trans p1).trans p2) ((r2.weak p1.grow).weak p0.grow)
/-- the same with one argument by its name -/
theorem EvOk.methK {o : Expr} {name : Str} {apos pos kp : Pos} {e : Expr} {k : Str} {ke : Expr} {Vs : List V} {j f : Nat} {fo : Option At} {r : RV} {kv : At} (H : HmOk name f) (hf : methForm o name apos pos [e] [⟨some k, ke, kp⟩]) (hp : plainE e = true) (h0 : EvOk n nm ρ σ o (.v (.obj j)) σ₁) (hj : σ₁[j]? = some (.hdr fo))
    (h1 : EvsOk n nm ρ σ₁ [e] Vs σ₂) (hk : EvOk n nm ρ σ₂ ke (.at kv) σ₂) (h2 : FnOk n f (.obj j :: Vs) [(k, .it (.at kv))] σ₂ r σ₃) : EvOk n nm ρ σ (.Call (.Attribute o name apos) [e] [⟨some k, ke, kp⟩] pos) r σ₃ := by
  intro w A B α env s Q E bs rm F R hq
  refine methodCall_KW (h0 w A B α env s _ _ bs rm F R fun v0 α0 s0 p0 r0 => ?_) (hf env)
  obtain ⟨p, hp', rfl, ho⟩ := hdr_at p0.rel hj r0
  obtain ⟨es, q, I, he, _⟩ := hdr_inst ho
  have F1 := F.post R p0
  obtain ⟨m', hF, _⟩ := F1.fr
  refine method_inst hF bs.kin I (H.get _) (H.find _) (H.fn _) (getL_not H.own he) ?_
  refine callWith_KW (h₀ := s0.heap) (p0.rel.kin bs) (H.keep _) rfl ?_ ?_ (starEach_plain hp _ _)
  · refine h1 w A B α0 env s0 pos _ _ bs rm F1 p0.rel fun vs α1 s1 p1 r1 => ?_
    have F2 := F1.post p0.rel p1
    show wpAny (Mo w) A (evalAll [do let v ← eval ke env; standAt pos; pure v]) _ E s1
    refine wpAny_evalAll_cons (wpAny_bind (hk w A B α1 env s1 _ _ bs rm F2 p1.rel fun u α2 s2 p2 r2 => wpAny_bind (wpAny_standAt (wpAny_pure (wpAny_evalAll_nil ?_)))))
    refine ⟨p2.rel.kin bs, ?_⟩
    have p12 := p1.trans p2
    exact h2.call bs rm p2.rel (.cons (p12.vis0 (show VIs α0 s0.heap (.ref p.1) (.obj j) from ⟨p, hp', rfl⟩)) (r1.imp fun _ _ z => p2.vis0 z)) (.cons ⟨rfl, r2⟩ .nil) fun v α3 s3 p3 r3 => hq _ _ _ ((p0.trans p12).trans p3) ((r3.weak p12.grow).weak p0.grow)
  · rw [starEach_plain hp]; rfl
end
end Mine
end
section
/-! ## text R16 -/
open PySem.Builtin PySem.Builtin.Str
set_option maxRecDepth 100000
set_option maxHeartbeats 400000
namespace Mine
section
variable {n : Nat} {nm : Nm} {ρ ρ₁ ρ₂ ρ₃ : Rho} {σ σ₁ σ₂ σ₃ : List Ob}
theorem IterOk.rng {np pos : Pos} {e : Expr} {N : Int} (hp : plainE e = true) (hk : nm.lookup ("range" : Str) = some .globalImplicit) (h1 : EvOk n nm ρ σ e (.at (.int N)) σ₁) (hN : 0 ≤ N) (hN' : N < 2 ^ 62) : IterOk n nm ρ σ (.Call (.Name "range" np) [e] [] pos) (.rng N.toNat) σ₁ := by
  intro w A B α env s Q E bs rm F R hq
  refine Call_name1 (starEach_plain hp [] env) (ev_glob bs F hk (a := .ty "range") (by kernel_rfl) (by decide) fun v hv => ?_)
  cases hv
  refine PySem.callWith_type1 (h1 w A B α env s _ _ bs rm F R fun v1 α1 s1 p1 r1 => ?_)
  obtain ⟨t, rfl⟩ := r1
  refine call_range_1 ?_
  refine wpAny_pyIter_range (IsRange.new ..) (small_one (by decide) (by decide) (by omega) hN') ?_
  have hsz : Builtin.Range.rangeSize 0 N 1 = (N.toNat : Int) := by rw [rangeSize_one]; split <;> omega
  have kp : ∀ (b : Nat) o, s1.heap.get? b = some o → _ := fun b o e => Heap.get?_push_of_some { cls := .type "range_iterator", data := .fields #[rawInt 0, rawInt (Builtin.Range.rangeSize 0 N 1), rawInt 1] } (Heap.get?_push_of_some { cls := .type "range", data := .fields #[.int 0 s1.toks, .int N t, .int 1 (s1.toks + 1)] } e)
  refine hq _ α1 _ (p1.trans (Post.ofKeeps p1.rel kp)) ?_ ?_
  · refine p1.grow _ (Heap.get?_none_of_le ?_)
    show s1.heap.objs.size ≤ _
    simp [Heap.size_push]
  · show IsRangeIter _ _ ((0 : Nat) : Int) ((N.toNat : Int) - ((0 : Nat) : Int)) 1
    have e2 : ((N.toNat : Int) - ((0 : Nat) : Int)) = Builtin.Range.rangeSize 0 N 1 := by rw [hsz]; simp
    rw [e2]
    exact Heap.get?_push_size _ rfl
/-! x = [ .. for .. ] -/
theorem ExOk.assignComp (hnd : ρ.all (fun p => noNod p.2) = true) {σ₁ : List Ob} {elt iter : Expr} {x y : Str} {px py pos spos : Pos} {ifs : List Expr} {scope : Scope} {src : Src} {L : List V} {p : V → Bool} {f : V → It} (hy : nm.lookup y = some .local) (hl : (py.line == pos.line) = true)
    (hno : (scope.names.any fun (n, k) => n == y && (k == .local || k == .cell)) = false)
    (S : CompS nm ρ scope x) (hi : IterOk n nm ρ σ iter src σ₁) (hL : srcL σ₁ src = some L) (hz : L.length ≤ sizeLine) (hs : ∀ env x, foldedSetIterable iter env x = pure x)
    (ht : ∀ X ∈ L, TestsOk n scope.names (rhoC scope.names ρ x X) σ₁ ifs (p X)) (he : ∀ X ∈ L, p X = true → EvOk n scope.names (rhoC scope.names ρ x X) σ₁ elt (.v (.it (f X))) σ₁) :
    ExOk n nm ρ σ (.Assign [.Name y py] (.ListComp elt [⟨.Name x px, iter, ifs, 0⟩] scope pos) spos) .go (setL ρ y (.obj σ₁.length)) (σ₁ ++ [.list ((L.filter p).map f)]) := by
  intro w A B α env s Q E bs rm F R hq
  have hk : env.kindOf y = some .local := by
    rcases F.kinds y _ hy with e | ⟨e, _⟩
    · exact e
    · cases e
  have hb : (env.blockKind == .function) = true := by unfold Env.blockKind; rw [F.fkind]; rfl
  have hsw : swapsWith (.ListComp elt [⟨.Name x px, iter, ifs, 0⟩] scope pos) (some (.Name y py)) spos.line env = pure true := by
    show (pure (env.blockKind == .function && env.kindOf y == some .local && py.line == pos.line && !(scope.names.any fun (n, k) => n == y && (k == .local || k == .cell))) : Sem Bool) = pure true
    rw [hb, hk, hl, hno]
    rfl
  rw [exec_Assign_Name_used _ _ _ _ hsw]
  refine wpAny_bind (wpAny_standAt (wpAny_bind ?_))
  show wpAny _ A (do let _ ← comprehension (.ListComp elt [⟨.Name x px, iter, ifs, 0⟩] scope pos) scope env _ (newList []) false (eval iter env) (some (PySem.assign (.Name y py) env))) _ _ s
  refine wpAny_bind (wpAny_mono (comp_core (p := p) (f := f) (use := some (PySem.assign (.Name y py) env)) (Q := fun _ s' => Q .next s') S hi hL hz hs ht he bs rm F.toFR R fun D C α' s' m pp rr hn nC hC hCD => ?_) (fun _ s' hq => wpAny_pure (wpAny_pure hq)) fun _ _ e => e)
  obtain ⟨α2, p2, r2, hX⟩ := mat_okX pp R.base rr
  have nC2 : ¬ InX α2 C := fun q => by
    rcases hX C q with q | q
    · exact nC q
    · cases q; exact hCD rfl
  show wpAny (Mo w) A (PySem.assign (.Name y py) env (.ref D)) _ E s'
  refine wpAny_assign_Name (st_name (F.post R p2) p2.rel (by rw [hy]; rfl) (by rw [hy]; exact fun z => nomatch z) r2 (fun a e => nomatch e) fun s3 p3 F3 => ?_)
  have oldW : ¬ ownW env C := fun q => by
    obtain ⟨o, e, _⟩ := F.ownData q
    rw [hC] at e; cases e
  have hn3 : s3.heap.Ns C m := hn.at' fun o e => p3.frm _ o e nC2 oldW
  refine ⟨m, hn3, fun h' hs' => ?_⟩
  have p4 := p2.own.trans p3
  have p5 := p4.butT (tk := s3.toks) hs'.extBut hC nC2 (R.noneB hC) (ns_nt hn3)
  refine hq _ α2 _ p5 ?_ rfl
  obtain ⟨m3, hF3, hm3⟩ := F3.fr
  have Lne : env.locals ≠ C := fun z => oldW (.inl z.symm)
  have cne : ∀ c v, s3.heap.IsCell c v → c ≠ C := fun c v q => cell_ne_ns hn3 q
  have vk : ∀ {v : Value} {X : V}, VIs α2 s3.heap v X → (X ≠ .nod C) → VIs α2 h' v X := fun H hne => H.but hs'.extBut (ns_noseq hn3) hne
  have nodC : ∀ {z : Str} {a : Nat}, (setL ρ y (.obj σ₁.length)).lookup z = some (.nod a) → a ≠ C := by
    rintro z a e rfl
    rw [lookup_setL] at e
    split at e
    · cases e
    · have := List.all_eq_true.mp hnd _ (mem_of_lookup e)
      cases this
  refine ⟨⟨F3.fkind, F3.glob, F3.blt, F3.kinds, ⟨m3, ⟨hF3.ns.sameBut hs' Lne, p5.rel.base, hF3.above⟩, fun z Z h1 h2 => ?_⟩, fun z Z h1 h2 => ?_, F3.off, F3.nods⟩, fun z hz => ?_, F3.cap⟩
  · obtain ⟨v, e, r⟩ := hm3 z Z h1 h2
    exact ⟨v, e, vk r fun q => nodC (q ▸ h1) rfl⟩
  · obtain ⟨c, v, e, ic, r⟩ := F3.cells z Z h1 h2
    exact ⟨c, v, e, ic.sameBut hs' (cne c _ ic), vk r fun q => nodC (q ▸ h1) rfl⟩
  · obtain ⟨c, v, e, ic, b⟩ := F3.cellOk z hz
    exact ⟨c, v, e, ic.sameBut hs' (cne c _ ic), b⟩
end
end Mine
end
section
/-! ## text R17 -/
open PySem.Builtin PySem.Builtin.Str
set_option maxRecDepth 100000
set_option maxHeartbeats 400000
namespace Mine
section
variable {n : Nat} {nm : Nm} {ρ ρ₁ ρ₂ ρ₃ : Rho} {σ σ₁ σ₂ σ₃ : List Ob}
/-! x, y = (.., ..) -/
theorem ExOk.assign2 {x y : Str} {px py tp vp pos : Pos} {k k' : Nat} {e1 e2 : Expr} {a b : At} (h : EvOk n nm ρ σ (.Tuple [e1, e2] k' vp) (.v (.it (.tup [a, b]))) σ₁) (hx : nm.lookup x = some .local) (hy : nm.lookup y = some .local) (hxy : (x == y) = false)
    (hw : ∀ env : Env, env.scope.kind = .function → env.kindOf x = some .local → env.kindOf y = some .local → swappedStores [.Tuple [.Name x px, .Name y py] k tp] (.Tuple [e1, e2] k' vp) env = pure (some [x, y])) :
    ExOk n nm ρ σ (.Assign [.Tuple [.Name x px, .Name y py] k tp] (.Tuple [e1, e2] k' vp) pos) .go (setL (setL ρ x (.it (.at a))) y (.it (.at b))) σ₁ := by
  intro w A B α env s Q E bs rm F R hq
  have loc : ∀ z : Str, nm.lookup z = some .local → env.kindOf z = some .local := fun z hz => by
    rcases F.kinds z _ hz with e | ⟨e, _⟩
    · exact e
    · cases e
  refine Assign_Tuple_swapped (names := [x, y]) (h w A B α env s _ _ bs rm F.toFR R fun v1 α1 s1 p1 r1 => ?_) (swaps_no (e := .Tuple [e1, e2] k' vp) rfl (some (.Tuple [.Name x px, .Name y py] k tp)) pos.line env) (hw env F.fkind (loc x hx) (loc y hy))
  obtain ⟨T, vs, q, rfl, nx, g, r⟩ := r1
  have hl := r.length
  match vs, r, hl with
  | [u, v], .cons r1 (.cons r2 .nil), _ =>
    refine wpAny_unpackItems_tuple (items := #[u, v]) rm.hh ⟨_, g, rfl, q, rfl⟩ fun h' he => ?_
    have kp : ∀ (b : Nat) o, s1.heap.get? b = some o → h'.get? b = some o := fun b o e => he b o (Nat.ne_of_lt (Heap.lt_size e)) e
    have p0 : Post w.params B noW α s α1 σ₁ { s1 with heap := h', toks := s1.toks } := p1.trans (Post.ofKeeps p1.rel kp)
    show wpAny (Mo w) A (assignInOrder [bindName env y, bindName env x] [v, u]) _ E _
    refine wpAny_bind (wpAny_holding (wpAny_bindName (st_name (F.post R p0) p0.rel (by rw [hy]; rfl) (by rw [hy]; exact fun z => nomatch z) (show VIs α1 h' v (.it (.at b)) from r2) (fun a e => nomatch e) fun s2 p2 F2 => ?_)))
    refine wpAny_bind (wpAny_holding (wpAny_bindName (st_name F2 p2.rel (by rw [hx]; rfl) (by rw [hx]; exact fun z => nomatch z) (show VIs α1 s2.heap u (.it (.at a)) from r1) (fun a e => nomatch e) fun s3 p3 F3 => ?_)))
    refine wpAny_pure (hq _ _ _ ((p0.own.trans p2).trans p3) (F3.congr fun z => ?_) rfl)
    simp only [lookup_setL]
    have hxy' : x ≠ y := fun e => by subst e; simp at hxy
    by_cases h1 : z = y
    · subst h1; rw [if_pos rfl, if_neg (Ne.symm hxy'), if_pos rfl]
    · rw [if_neg h1]
      by_cases h2 : z = x
      · rw [if_pos h2, if_pos h2]
      · rw [if_neg h2, if_neg h2, if_neg h1]
/-! what is not handed on goes out of sight -/
noncomputable def clAt (k : Nat) : At → Bool
  | .obj i => decide (i < k)
  | _ => true
noncomputable def clIt (k : Nat) : It → Bool
  | .at a => clAt k a
  | .tup l => l.all (clAt k)
noncomputable def clV (k : Nat) : V → Bool
  | .it x => clIt k x
  | _ => true
noncomputable def clOb (k : Nat) : Ob → Bool
  | .list l => l.all (clIt k)
  | .hdr none => true
  | .hdr (some a) => clAt k a
noncomputable def clRV (k : Nat) : RV → Bool
  | .v x => clV k x
  | .new l => l.all (clIt k)
theorem cut_at {α m : Al} {v : Value} {x : At} {k : Nat} (hk : α.length = k) (hc : clAt k x = true) (h : AIs (α ++ m) v x) : AIs α v x := by
  cases x <;> try exact h
  obtain ⟨p, e, r⟩ := h
  refine ⟨p, ?_, r⟩
  have : _ < k := of_decide_eq_true hc
  rwa [List.getElem?_append_left (by omega)] at e
theorem cut_all {α m : Al} {k : Nat} (hk : α.length = k) : ∀ {vs : List Value} {l : List At}, l.all (clAt k) = true → All2 (AIs (α ++ m)) vs l → All2 (AIs α) vs l
  | _, _, _, .nil => .nil
  | _, _, hc, .cons a b => by
    rw [List.all_cons, Bool.and_eq_true] at hc
    exact .cons (cut_at hk hc.1 a) (cut_all hk hc.2 b)
theorem cut_it {α m : Al} {h : Heap} {v : Value} {x : It} {k : Nat} (hk : α.length = k) (hc : clIt k x = true) (H : IIs (α ++ m) h v x) : IIs α h v x := by
  cases x with
  | «at» a => exact cut_at hk hc H
  | tup l => obtain ⟨a, vs, n, e, nx, g, r⟩ := H; exact ⟨a, vs, n, e, fun q => nx q.app, g, cut_all hk hc r⟩
theorem cut_its {α m : Al} {h : Heap} {k : Nat} (hk : α.length = k) : ∀ {vs : List Value} {l : List It}, l.all (clIt k) = true → All2 (IIs (α ++ m) h) vs l → All2 (IIs α h) vs l
  | _, _, _, .nil => .nil
  | _, _, hc, .cons a b => by
    rw [List.all_cons, Bool.and_eq_true] at hc
    exact .cons (cut_it hk hc.1 a) (cut_its hk hc.2 b)
theorem cut_v {α m : Al} {h : Heap} {v : Value} {x : V} {k : Nat} (hk : α.length = k) (hc : clV k x = true) (H : VIs (α ++ m) h v x) : VIs α h v x := by
  cases x with
  | it x => exact cut_it (x := x) hk hc H
  | lst l => obtain ⟨a, vs, n, e, nx, g, r⟩ := H; exact ⟨a, vs, n, e, fun q => nx q.app, g, r⟩
  | nod a => obtain ⟨e, nx, g⟩ := H; exact ⟨e, fun q => nx q.app, g⟩
theorem cut_ob {P : Params} {α m : Al} {h : Heap} {p : Nat × Nat} {ob : Ob} {k : Nat} (hk : α.length = k) (hc : clOb k ob = true) (H : OIs P (α ++ m) h p ob) : OIs P α h p ob := by
  cases ob with
  | list l => obtain ⟨e, vs, n, g, r⟩ := H; exact ⟨e, vs, n, g, cut_its hk hc r⟩
  | hdr f =>
    obtain ⟨e1, e2, e3⟩ := H
    refine ⟨e1, e2, ?_⟩
    cases f with
    | none => exact e3
    | some x => obtain ⟨v, t, n, e3, r⟩ := e3; exact ⟨v, t, n, e3, cut_at hk hc r⟩
theorem all2_split {α β : Type} {R : α → β → Prop} : ∀ {l : List α} {m : List β} {l' : List α} {m' : List β}, l.length = m.length → All2 R (l ++ l') (m ++ m') → All2 R l m
  | [], [], _, _, _, _ => .nil
  | a :: l, b :: m, _, _, e, .cons x y => .cons x (all2_split (by simpa using e) y)
theorem all2_mem {α β : Type} {R S : α → β → Prop} : ∀ {l : List α} {m : List β}, All2 R l m → (∀ a ∈ l, ∀ b ∈ m, R a b → S a b) → All2 S l m
  | _, _, .nil, _ => .nil
  | _, _, .cons x y, h => .cons (h _ (.head _) _ (.head _) x) (all2_mem y fun a ha b hb => h a (.tail _ ha) b (.tail _ hb))
theorem FnOk.drop {f : Nat} {args : List V} {kw : List (Str × V)} {σ σ' junk : List Ob} {r : RV} (h : FnOk n f args kw σ r (σ' ++ junk)) (hl : σ'.length = σ.length) (hc : σ'.all (clOb σ.length) = true) (hr : clRV σ.length r = true) : FnOk n f args kw σ r σ' := by
  intro w A B α s R' vals kvs bs rm R hv hk hq
  refine h w A B α s R' vals kvs bs rm R hv hk fun v α' s' p rr => ?_
  obtain ⟨m, rfl, hm⟩ := p.ext
  have hlen : α.length = σ.length := R.obs.length
  have R2 : Rel w.params B α σ' s'.heap := by
    refine ⟨p.rel.base, R.new, ?_, R.apart⟩
    refine all2_mem (all2_split (l := α) (m := σ') (hlen.trans hl.symm) p.rel.obs) fun q hq ob hob z => ?_
    exact cut_ob hlen (List.all_eq_true.mp hc ob hob) z
  refine hq v α s' ⟨p.like, ⟨[], by simp, fun _ h => nomatch h⟩, p.frm, p.grow, R2⟩ ?_
  cases r with
  | v x => exact cut_v hlen hr rr
  | new l => obtain ⟨a, vs, q, e1, e2, e3, e4, e5⟩ := rr; exact ⟨a, vs, q, e1, e2, fun z => e3 z.app, e4, cut_its hlen hr e5⟩
end
end Mine
end
section
/-! ## text R18 -/
open PySem.Builtin PySem.Builtin.Str
set_option maxRecDepth 100000
set_option maxHeartbeats 400000
namespace Mine
/-! self._headers = x -/
noncomputable def newsAt (h B : Heap) (L k : Nat) : List (Nat × Obj) := if k = L then [] else match B.get? k with
  | some _ => []
  | none => (h.get? k).toList.map fun o => (k, o)
noncomputable def newsOf (h B : Heap) (L : Nat) : Nat → List (Nat × Obj)
  | 0 => []
  | k + 1 => newsOf h B L k ++ newsAt h B L k
theorem newsAt_mem {h B : Heap} {L k : Nat} {p : Nat × Obj} (hm : p ∈ newsAt h B L k) : h.get? p.1 = some p.2 ∧ p.1 ≠ L ∧ B.get? p.1 = none ∧ p.1 = k := by
  unfold newsAt at hm
  by_cases hL : k = L
  · rw [if_pos hL] at hm; cases hm
  · rw [if_neg hL] at hm
    cases hB : B.get? k with
    | some o => rw [hB] at hm; cases hm
    | none =>
      rw [hB] at hm
      obtain ⟨o, ho, e⟩ := List.mem_map.mp hm
      subst e
      exact ⟨by simpa using ho, hL, hB, rfl⟩
theorem newsAt_of {h B : Heap} {L b : Nat} {o : Obj} (e : h.get? b = some o) (hL : b ≠ L) (hB : B.get? b = none) : newsAt h B L b = [(b, o)] := by
  unfold newsAt
  rw [if_neg hL, hB, e]
  rfl
theorem newsOf_mem {h B : Heap} {L : Nat} : ∀ {k : Nat} {p : Nat × Obj}, p ∈ newsOf h B L k → h.get? p.1 = some p.2 ∧ p.1 ≠ L ∧ B.get? p.1 = none ∧ p.1 < k
  | 0, p, hm => nomatch hm
  | k + 1, p, hm => by
    rcases List.mem_append.mp (show p ∈ newsOf h B L k ++ newsAt h B L k from hm) with hm | hm
    · obtain ⟨a, b, c, d⟩ := newsOf_mem hm
      exact ⟨a, b, c, Nat.lt_succ_of_lt d⟩
    · obtain ⟨a, b, c, d⟩ := newsAt_mem hm
      exact ⟨a, b, c, d ▸ Nat.lt_succ_self _⟩
theorem mem_newsOf {h B : Heap} {L : Nat} {b : Nat} {o : Obj} (e : h.get? b = some o) (hL : b ≠ L) (hB : B.get? b = none) : ∀ {k : Nat}, b < k → (b, o) ∈ newsOf h B L k
  | 0, hk => absurd hk (Nat.not_lt_zero _)
  | k + 1, hk => by
    show (b, o) ∈ newsOf h B L k ++ newsAt h B L k
    rcases Nat.lt_or_ge b k with hlt | hge
    · exact List.mem_append_left _ (mem_newsOf e hL hB hlt)
    · have : b = k := by omega
      subst this
      exact List.mem_append_right _ (by rw [newsAt_of e hL hB]; exact .head _)
theorem newsOf_split {h B : Heap} {L : Nat} {b : Nat} {o : Obj} (e : h.get? b = some o) (hL : b ≠ L) (hB : B.get? b = none) : ∀ {k : Nat}, b < k → ∃ pre post, newsOf h B L k = pre ++ (b, o) :: post ∧ (∀ p ∈ pre, p.1 ≠ b) ∧ ∀ p ∈ post, p.1 ≠ b
  | 0, hk => absurd hk (Nat.not_lt_zero _)
  | k + 1, hk => by
    rcases Nat.lt_or_ge b k with hlt | hge
    · obtain ⟨pre, post, e1, e2, e3⟩ := newsOf_split e hL hB hlt
      refine ⟨pre, post ++ newsAt h B L k, ?_, e2, fun p hp => ?_⟩
      · show newsOf h B L k ++ newsAt h B L k = _
        rw [e1, List.append_assoc, List.cons_append]
      · rcases List.mem_append.mp hp with hp | hp
        · exact e3 p hp
        · have := (newsAt_mem hp).2.2.2; omega
    · have : b = k := by omega
      subst this
      refine ⟨newsOf h B L b, [], ?_, fun p hp => ?_, fun p hp => nomatch hp⟩
      · show newsOf h B L b ++ newsAt h B L b = _
        rw [newsAt_of e hL hB]
      · have := (newsOf_mem hp).2.2.2; omega
theorem upd_split {d : Nat} {o o' : Obj} {post : List (Addr × Obj)} (h2 : ∀ p ∈ post, p.1 ≠ d) : ∀ {pre : List (Addr × Obj)}, (∀ p ∈ pre, p.1 ≠ d) → Upd d o o' (pre ++ (d, o) :: post) (pre ++ (d, o') :: post)
  | [], _ => .head h2
  | p :: r, h1 => .tail (h1 p (.head _)) (upd_split h2 fun q hq => h1 q (.tail _ hq))
theorem KF_set (P : Params) : findIn (KF P) (.ref 175) "__setattr__" = some (some (.builtin "object.__setattr__")) ∧ plainOver (KF P) 175 = true ∧ takerIn (KF P) 175 "_headers" = some none := ⟨by kernel_rfl, by kernel_rfl, by kernel_rfl⟩
theorem setattr_ok {w : World} {A : Around} {E : Value → Shared → Prop} {B : Heap} {nm : Nm} {α : Al} {ρ : Rho} {env : Env} {s : Shared} {σ : List Ob} {v u : Value} {j k : Nat} {Q : Unit → Shared → Prop} (bs : Bs w B) (F : FW B nm α ρ env s.heap) (R : Rel w.params B α σ s.heap)
    (hv : VIs α s.heap v (.obj j)) (hj : σ[j]? = some (.hdr none)) (hu : VIs α s.heap u (.obj k))
    (hq : ∀ s', Post w.params B (ownW env) α s α (σ.set j (.hdr (some (.obj k)))) s' → FW B nm α ρ env s'.heap → Q () s') : wpAny (Mo w) A (setAttr v "_headers" u) Q E s := by
  obtain ⟨p, hp, rfl, ho⟩ := hdr_at R hj hv
  obtain ⟨e1, e2, e3⟩ := ho
  obtain ⟨m, hF, hm⟩ := F.fr
  obtain ⟨k1, k2, k3⟩ := KF_set w.params
  have hin := inX_of hp
  have hdL : p.2 ≠ env.locals := fun z => F.off (z ▸ hin.2)
  have hdB : B.get? p.2 = none := (R.new p (List.mem_of_getElem? hp)).2
  obtain ⟨pre, post, es, h1, h2⟩ := newsOf_split e3 hdL hdB (Heap.lt_size e3)
  have N : News B env.locals s.heap (pre ++ (p.2, dictOf [] 0) :: post) := by
    rw [← es]
    intro q hq
    obtain ⟨a, b, c, _⟩ := newsOf_mem hq
    exact ⟨a, b, c⟩
  refine set_dict hF bs.kin N ⟨e2, rfl, rfl, e3⟩ rfl k1 k2 k3 (KF_get w.params).2.1 rfl rfl (upd_split h2 h1) (by show 1 ≤ 1000; decide) fun h' F' N' => ?_
  have keep : ∀ (b : Nat) o, ¬ (b = p.2 ∨ b = env.locals) → s.heap.get? b = some o → h'.get? b = some o := by
    intro b o hb e
    simp only [not_or] at hb
    cases hBb : B.get? b with
    | some o' =>
      have := R.base b o' hBb
      rw [e] at this; cases this
      exact F'.keep _ _ hBb
    | none =>
      have hmem := mem_newsOf e hb.2 hBb (Heap.lt_size e)
      rw [es] at hmem
      rcases List.mem_append.mp hmem with hmem | hmem
      · exact (N' _ (List.mem_append_left _ hmem)).1
      · rcases List.mem_cons.mp hmem with q | hmem
        · cases q; exact absurd rfl hb.1
        · exact (N' _ (List.mem_append_right _ (.tail _ hmem))).1
  have gD := (N' (p.2, _) (List.mem_append_right _ (.head _))).1
  have nsL := ns_noseq hF.ns
  have ntZ : ∀ b, (b = p.2 ∨ b = env.locals) → NTup s.heap b := by
    rintro b (rfl | rfl)
    · intro o e vs n q
      rw [e3] at e; cases e
      have := congrArg Obj.cls q
      simp [dictOf] at this
    · exact ns_nt hF.ns
  have hL : h'.get? env.locals ≠ none := by obtain ⟨o, _, _, e, _⟩ := F'.ns; rw [e]; exact fun z => nomatch z
  have pp : Post w.params B (ownW env) α s α (σ.set j (.hdr (some (.obj k)))) { s with heap := h', toks := s.toks + 2 } := by
    refine Post.setOb (ob := .hdr (some (.obj k))) (Z := fun b => b = p.2 ∨ b = env.locals) R hp keep ntZ ?_ ?_ ?_ ?_ ?_
    · rintro b (rfl | rfl)
      · exact hdB
      · exact none_of_above hF.above
    · rintro b (rfl | rfl)
      · exact .inr (.inl rfl)
      · exact .inr (.inr F.off)
    · rintro b (rfl | rfl) hn
      · exact absurd hin.2 hn
      · exact .inl rfl
    · rintro b (rfl | rfl)
      · rw [gD]; exact fun z => nomatch z
      · exact hL
    · refine ⟨e1, keep _ _ ?_ e2, u, _, _, gD, hu⟩
      rintro (q | q)
      · exact e1 q.symm
      · exact F.off (q ▸ hin.1)
  have vk : ∀ {v : Value} {X : V}, VIs α s.heap v X → X ≠ .nod env.locals → VIs α h' v X := fun {v X} H hne => H.keep fun b o e nx hs => keep b o (by
    rintro (rfl | rfl)
    · exact nx hin.2
    · rcases hs with ⟨its, n, d⟩ | hs
      · exact nsL _ e _ _ d
      · exact hne hs) e
  refine hq _ pp ⟨⟨F.fkind, F.glob, F.blt, F.kinds, ⟨m, F', fun z Z a b => ?_⟩, fun z Z a b => ?_, F.off, F.nods⟩, fun z hz => ?_, F.cap⟩
  · obtain ⟨v, e, r⟩ := hm z Z a b
    exact ⟨v, e, vk r fun q => F.nods z _ (q ▸ a) rfl⟩
  · obtain ⟨c, v, e, ⟨o, g, d⟩, r⟩ := F.cells z Z a b
    refine ⟨c, v, e, ⟨o, keep c o ?_ g, d⟩, vk r fun q => F.nods z _ (q ▸ a) rfl⟩
    rintro (rfl | rfl)
    · rw [e3] at g; cases g; cases d
    · exact cell_ne_ns hF.ns ⟨o, g, d⟩ rfl
  · obtain ⟨c, v, e, ⟨o, g, d⟩, b⟩ := F.cellOk z hz
    refine ⟨c, v, e, ⟨o, keep c o ?_ g, d⟩, b⟩
    rintro (rfl | rfl)
    · rw [e3] at g; cases g; cases d
    · exact cell_ne_ns hF.ns ⟨o, g, d⟩ rfl
theorem ExOk.setattr {n : Nat} {nm : Nm} {ρ : Rho} {σ σ₁ : List Ob} {o e : Expr} {ap pos : Pos} {j k : Nat} (hc : isComp e = false) (h1 : EvOk n nm ρ σ e (.v (.obj k)) σ₁) (h2 : EvOk n nm ρ σ₁ o (.v (.obj j)) σ₁) (hj : σ₁[j]? = some (.hdr none)) :
    ExOk n nm ρ σ (.Assign [.Attribute o "_headers" ap] e pos) .go ρ (σ₁.set j (.hdr (some (.obj k)))) := by
  intro w A B α env s Q E bs rm F R hq
  rw [exec_Assign]
  refine wpAny_bind (wpAny_standAt ?_)
  rw [show swapsWithSole [.Attribute o "_headers" ap] e pos.line env = pure false from swaps_no (e := e) hc (some (.Attribute o "_headers" ap)) pos.line env]
  refine wpAny_bind (wpAny_pure ?_)
  rw [if_neg (by decide)]
  refine wpAny_bind (h1 w A B α env s _ _ bs rm F.toFR R fun v1 α1 s1 p1 r1 => ?_)
  refine wpAny_bind (wpAny_pure (a := (none : Option (List Str))) ?_)
  show wpAny (Mo w) A (do (do
    let ov ← holding [v1] (eval o env)
    standAt ap.atName
    holding [v1, ov] (setAttr ov "_headers" v1)
    release [v1, ov] []); pure .next) Q E s1
  have F1 := F.post R p1
  refine wpAny_bind (wpAny_bind (wpAny_holding (h2 w A B α1 env s1 _ _ bs rm F1.toFR p1.rel fun v2 α2 s2 p2 r2 => ?_)))
  refine wpAny_bind (wpAny_standAt (wpAny_bind (wpAny_holding ?_)))
  refine setattr_ok bs (F1.post p1.rel p2) p2.rel r2 hj (p2.vis0 r1) fun s3 p3 F3 => wpAny_release (wpAny_pure ?_)
  exact hq _ _ _ ((p1.trans p2).own.trans p3) F3 rfl
end Mine
end
section
/-! ## text R19 -/
open PySem.Builtin PySem.Builtin.Str
set_option maxRecDepth 100000
set_option maxHeartbeats 400000
namespace Mine
/-! Headers() -/
theorem KF_make (P : Params) : makesIn (KF P) 175 = true ∧ findIn (KF P) (.ref 175) "__init__" = some (some (.ref 69)) ∧ typeIn (KF P) (.ref 69) = some (.type "function") ∧ keepIn (KF P) (.ref 175) = true := ⟨by kernel_rfl, by kernel_rfl, by kernel_rfl, by kernel_rfl⟩
theorem OIs.mono {P : Params} {α m : Al} {h h' : Heap} {p : Nat × Nat} {ob : Ob} (H : OIs P α h p ob) (hm : ∀ p ∈ m, h.get? p.1 = none ∧ h.get? p.2 = none) (k : ∀ (b : Nat) o, h.get? b = some o → h'.get? b = some o) : OIs P (α ++ m) h' p ob := by
  cases ob with
  | list l => obtain ⟨e, vs, n, g, r⟩ := H; exact ⟨e, vs, n, k _ _ g, r.imp fun _ _ z => z.mono hm fun b _ _ e _ => k b _ e⟩
  | hdr f =>
    obtain ⟨e1, e2, e3⟩ := H
    refine ⟨e1, k _ _ e2, ?_⟩
    cases f with
    | none => exact k _ _ e3
    | some x => obtain ⟨v, t, n, e3, r⟩ := e3; exact ⟨v, t, n, k _ _ e3, r.app⟩
theorem newHdr {w : World} {B : Heap} {α : Al} {s : Shared} {σ : List Ob} (bs : Bs w B) (R : Rel w.params B α σ s.heap) {tk : Nat} :
    Post w.params B noW α s (α ++ [(s.heap.objs.size + 1, s.heap.objs.size)]) (σ ++ [.hdr none]) { s with heap := (s.heap.push emptyDict).push (instObj 175 s.heap.objs.size), toks := tk } := by
  have kp : ∀ (b : Nat) o, s.heap.get? b = some o → ((s.heap.push emptyDict).push (instObj 175 s.heap.objs.size)).get? b = some o := fun b o e => Heap.get?_push_of_some _ (Heap.get?_push_of_some _ e)
  have n1 : s.heap.get? s.heap.objs.size = none := Heap.get?_none_of_le (Nat.le_refl _)
  have n2 : s.heap.get? (s.heap.objs.size + 1) = none := Heap.get?_none_of_le (Nat.le_succ _)
  have hm : ∀ p ∈ [(s.heap.objs.size + 1, s.heap.objs.size)], s.heap.get? p.1 = none ∧ s.heap.get? p.2 = none := fun p hp => by rw [List.mem_singleton.mp hp]; exact ⟨n2, n1⟩
  have g1 : ((s.heap.push emptyDict).push (instObj 175 s.heap.objs.size)).get? s.heap.objs.size = some emptyDict := Heap.get?_push_of_some _ (Heap.get?_push_size _ rfl)
  have g2 : ((s.heap.push emptyDict).push (instObj 175 s.heap.objs.size)).get? (s.heap.objs.size + 1) = some (instObj 175 s.heap.objs.size) := by
    have := Heap.get?_push_size (s.heap.push emptyDict) (o := instObj 175 s.heap.objs.size) rfl
    rwa [Heap.size_push] at this
  have len : α.length = σ.length := R.obs.length
  refine ⟨⟨_, _, rfl⟩, ⟨_, rfl, hm⟩, fun b o e _ _ => kp b o e, Dom.keeps kp, ⟨fun b o e => kp b o (R.base b o e), fun p hp => ?_, ?_, fun i j p q hi hj hij => ?_⟩⟩
  · rcases List.mem_append.mp hp with hp | hp
    · exact R.new p hp
    · obtain ⟨a, b⟩ := hm p hp; exact ⟨R.noneB a, R.noneB b⟩
  · refine (R.obs.imp fun _ _ z => z.mono hm kp).app (.cons ⟨?_, g2, g1⟩ .nil)
    exact Nat.ne_of_lt (Nat.lt_succ_self _)
  · have old : ∀ {i : Nat} {q : Nat × Nat}, (α ++ [(s.heap.objs.size + 1, s.heap.objs.size)])[i]? = some q → α[i]? = some q ∨ (i = α.length ∧ q = (s.heap.objs.size + 1, s.heap.objs.size)) := by
      intro i q h
      rcases Nat.lt_or_ge i α.length with hlt | hge
      · exact .inl (by rwa [List.getElem?_append_left hlt] at h)
      · rw [List.getElem?_append_right hge] at h
        cases hz : i - α.length with
        | zero => rw [hz] at h; simp at h; exact .inr ⟨by omega, h.symm⟩
        | succ z => rw [hz] at h; simp at h
    have lt : ∀ {i : Nat} {q : Nat × Nat}, α[i]? = some q → q.1 < s.heap.objs.size ∧ q.2 < s.heap.objs.size := fun h => ⟨R.lt (inX_of h).1, R.lt (inX_of h).2⟩
    rcases old hi with hi | ⟨hi, rfl⟩ <;> rcases old hj with hj | ⟨hj, rfl⟩
    · exact R.apart i j p q hi hj hij
    · have := lt hi; simp only; omega
    · have := lt hj; simp only; omega
    · omega
theorem EvOk.make {n : Nat} {nm : Nm} {ρ : Rho} {σ σ' : List Ob} {np pos : Pos} (hk : nm.lookup ("Headers" : Str) = some .globalImplicit) (h : FnOk n 69 [.obj σ.length] [] (σ ++ [.hdr none]) (.at .none) σ') : EvOk (n + 1) nm ρ σ (.Call (.Name "Headers" np) [] [] pos) (.v (.obj σ.length)) σ' := by
  intro w A B α env s Q E bs rm F R hq
  refine Call_Name rfl (ev_glob bs F hk (a := .ref 175) (by kernel_rfl) (by decide) fun v hv => ?_)
  cases hv
  obtain ⟨k1, k2, k3, k4⟩ := KF_make w.params
  refine callWith_K0 (R.kin bs) k4 (wpAny_call ?_)
  have X := R.kin bs
  obtain ⟨hh, g, d, t, os⟩ := s
  have P1 := newHdr (tk := t) bs R
  have hx : (α ++ [(hh.objs.size + 1, hh.objs.size)])[σ.length]? = some (hh.objs.size + 1, hh.objs.size) := by
    rw [← R.obs.length, List.getElem?_append_right (Nat.le_refl _)]; simp
  refine make_core (makes_of X k1) (looks_findIn X k2) (fun self => bind_fn X self k3) (.inl rfl) ?_
  refine h w _ B _ _ _ _ _ bs ⟨rm.hh, ?_, ?_⟩ P1.rel (.cons ⟨_, hx, rfl⟩ .nil) .nil fun v α2 s2 p2 r2 => ?_
  · have := rm.depth; show A.depth + 1 + n < _; omega
  · have := rm.units; show A.units + 1 + 16 * n < _; omega
  · cases r2
    refine ⟨rfl, ?_⟩
    obtain ⟨m, em, _⟩ := p2.ext
    refine hq _ _ _ (P1.trans p2) ⟨(hh.objs.size + 1, hh.objs.size), ?_, rfl⟩
    rw [em, List.getElem?_append_left]
    · exact hx
    · exact (List.getElem?_eq_some_iff.mp hx).1
end Mine
end
section
/-! ## text R20 -/
open PySem.Builtin PySem.Builtin.Str PySem.Builtin.Re
set_option maxRecDepth 100000
set_option maxHeartbeats 400000
namespace Mine
theorem slot_search : Slot "re.Pattern" "search" "re.Pattern.search" :=
  .of (owner := "re.Pattern") (n := "search") (by rw [typeLookup_type, builtinLookup_eq_fast]; kernel_rfl) (by decide +kernel) (by decide +kernel) (by decide +kernel)
    (by first | exact .inl (by decide +kernel) | exact .inr (by decide +kernel)) (by rw [isSubtype_type]; kernel_rfl)
theorem type_search : typeOf (.builtin "re.Pattern.search") = pure (.type "method_descriptor") := by show builtinType _ = _; rw [builtinType_eq_fast]; kernel_rfl
theorem entry_search : entryFor table "re.Pattern.search" = some Builtin.«re.Pattern.search» := entryFor_of_tree (by kernel_rfl)
theorem args_search (a b : Value) : argsOk "re.Pattern.search" ⟨[a, b], []⟩ := by unfold argsOk; kernel_rfl
theorem plain_re : PlainAttrs "re.Pattern" :=
  ⟨⟨"object.__getattribute__", by rw [typeLookup_type, builtinLookup_eq_fast]; kernel_rfl, by decide +kernel⟩, by rw [typeLookup_type, builtinLookup_eq_fast]; kernel_rfl⟩
theorem named_search (v : Value) : reNamed "re.Pattern.search" "search" ["string", "pos", "endpos"] 1 [v] [] = pure [some v, none, none] := by kernel_rfl
/-- no sign of the text stands in the set -/
theorem admitted_none {m : Sre.M} (h : ∀ i, i < m.lim → ∀ seen, ∃ seen', Sre.inSet m.code (m.text.getD i 0) m.code.size 5 true seen = .ok (false, seen')) : ∀ (fuel s : Nat) (seen : Sre.Seen), ∃ seen', Sre.M.admitted m fuel s seen = .ok (none, seen')
  | 0, s, seen => ⟨seen, rfl⟩
  | fuel + 1, s, seen => by
    unfold Sre.M.admitted
    by_cases hs : s ≥ m.lim
    · rw [if_pos hs]; exact ⟨seen, rfl⟩
    · rw [if_neg hs]
      obtain ⟨seen', e⟩ := h s (by omega) seen
      rw [e]
      exact admitted_none h fuel (s + 1) seen'
theorem drive_false {M : Model} {A : Around} {E : Value → Shared → Prop} {s : Shared} {m : Sre.M} {Q : Sre.M → Shared → Prop} (h1 : m.answer = some false) (h2 : m.frames = []) (h3 : m.outcome = none) (h : Q { m with outcome := some .failed } s) : wpAny M A (reDrive (2 ^ 64) m) Q E s := by
  have st : m.step = { m with outcome := some .failed } := by unfold Sre.M.step; rw [h3, h1, h2]; rfl
  have rn : m.runFor reTurnSteps = { m with outcome := some .failed } := by
    show Sre.M.runFor 4 m = _
    unfold Sre.M.runFor
    rw [h3]
    simp only [Option.isSome_none, Bool.false_eq_true, if_false]
    rw [st]
    unfold Sre.M.runFor
    simp
  obtain ⟨k, hk⟩ : ∃ k, 2 ^ 64 = k + 1 := ⟨2 ^ 64 - 1, by decide⟩
  rw [hk]
  unfold reDrive
  rw [rn]
  exact wpAny_pure h
theorem rules_ok {M : Model} {A : Around} {E : Value → Shared → Prop} {s : Shared} {b : Nat → Bool} {nm : Nat → String} {Q : PUnit → Shared → Prop} (f : Nat → PUnit → Sem (ForInStep PUnit)) (hf : ∀ i u, f i u = ((if b i = true then rule (nm i) else pure ()) >>= fun _ => pure (.yield ⟨⟩))) (h : Q ⟨⟩ s) : ∀ l : List Nat, wpAny M A (forIn l ⟨⟩ f) Q E s
  | [] => by rw [List.forIn_nil]; exact wpAny_pure h
  | i :: r => by
    rw [List.forIn_cons, hf]
    cases hb : b i with
    | true =>
      rw [if_pos rfl]
      exact wpAny_bind (wpAny_bind (wpAny_rule' (wpAny_pure (rules_ok f hf h r))))
    | false =>
      rw [if_neg (by decide)]
      exact wpAny_bind (wpAny_bind (wpAny_pure (wpAny_pure (rules_ok f hf h r))))
where
  wpAny_rule' {M : Model} {A : Around} {E : Value → Shared → Prop} {s : Shared} {n : String} {Q : Unit → Shared → Prop} (h : Q () s) : wpAny M A (rule n) Q E s := wpAny_rule h
theorem run_false {M : Model} {A : Around} {E : Value → Shared → Prop} {s : Shared} {m : Sre.M} {Q : Option Sre.M → Shared → Prop} (h1 : m.answer = some false) (h2 : m.frames = []) (h3 : m.outcome = none) (h : Q none s) : wpAny M A (reRunToEnd m) Q E s := by
  unfold reRunToEnd
  refine wpAny_bind (drive_false h1 h2 h3 (wpAny_bind ?_))
  refine rules_ok (b := fun i => m.seen.has i) (nm := fun i => Sre.names.getD i "") _ (fun i u => ?_) ?_ _
  · dsimp only
    split <;> rfl
  · exact wpAny_pure h
noncomputable def NoneM (m : Sre.M) : Prop := m.answer = some false ∧ m.frames = [] ∧ m.outcome = none
theorem from_none {m : Sre.M} {s : Nat} {b : Bool} (h0 : m.hasFirstSet = true) (h1 : m.frames = []) (h2 : m.outcome = none) (h : ∀ i, i < m.lim → ∀ seen, ∃ seen', Sre.inSet m.code (m.text.getD i 0) m.code.size 5 true seen = .ok (false, seen')) : NoneM (m.attemptFrom s b) := by
  unfold Sre.M.attemptFrom
  rw [h0]
  simp only [Bool.not_true, Bool.false_eq_true, if_false]
  obtain ⟨seen', e⟩ := admitted_none h (m.lim + 1 - s) s m.seen
  rw [e]
  exact ⟨rfl, h1, h2⟩
theorem search_M {code text : Array Nat} (h0 : ∀ m : Sre.M, m.code = code → m.hasFirstSet = true) (h : ∀ i, i < text.size → ∀ seen, ∃ seen', Sre.inSet code (text.getD i 0) code.size 5 true seen = .ok (false, seen')) : NoneM (Sre.forSearch code text 0 0 text.size false) := by
  unfold Sre.forSearch
  dsimp only
  split
  · exact ⟨rfl, rfl, rfl⟩
  · exact from_none (h0 _ rfl) rfl rfl h
theorem search_none {M : Model} {A : Around} {E : Value → Shared → Prop} {s : Shared} {a c : Nat} {oa oc : Obj} {its : Array Value} {k : Nat} {x : Str} {t : Tok} {v0 v1 : Value} {code : Array Nat} {Q : Fin → Shared → Prop} (g : s.heap.get? a = some oa) (hd : oa.data = .fields #[v0, v1, .int 0 0, .none, .none, .ref c, .int 0 0])
    (gc : s.heap.get? c = some oc) (hc : oc.data = .seq its k) (hcode : (its.map reRawOf).map (·.toNat) = code) (hz : x.length ≤ sizeLine)
    (hm : NoneM (Sre.forSearch code x.cps 0 0 x.cps.size false))
    (h : Q (.done (.ret .none)) s) : wpAny M A (Builtin.«re.Pattern.search» ⟨[.ref a, .str x t], []⟩) Q E s := by
  unfold Builtin.«re.Pattern.search» reTarget
  dsimp only
  rw [named_search]
  refine wpAny_bind (wpAny_bind (wpAny_pure ?_))
  dsimp only
  refine wpAny_bind (wpAny_pure (wpAny_bind (wpAny_pure (wpAny_bind (wpAny_fieldsOf g hd ?_)))))
  refine wpAny_bind (wpAny_of_eq (t := reTextOf (.str x t)) (a := (x.cps, 0)) rfl ?_)
  dsimp only
  refine wpAny_bind (wpAny_of_eq (a := ()) rfl ?_)
  refine wpAny_bind ?_
  show wpAny M A (reRawItems (.ref c)) _ E s
  unfold reRawItems
  refine wpAny_bind (wpAny_seqItems gc hc (wpAny_pure (wpAny_pure ?_)))
  have hlim : min ((2 ^ 63 - 1 : Int).toNat) x.cps.size = x.cps.size := Nat.min_eq_right (by
    have : sizeLine < 2 ^ 60 := by decide
    have hz' : x.cps.size ≤ sizeLine := hz
    omega)
  have hpos : min ((0 : Int).toNat) x.cps.size = 0 := by simp
  simp only [Option.getD_some, hcode, hlim, hpos]
  unfold reAnswer
  refine wpAny_bind (run_false hm.1 hm.2.1 hm.2.2 ?_)
  exact wpAny_pure h
end Mine
end
section
/-! ## text R21 -/
open PySem.Builtin PySem.Builtin.Str PySem.Builtin.Re
set_option maxRecDepth 100000
set_option maxHeartbeats 400000
namespace Mine
noncomputable def code41 : Array Nat := #[14, 10, 4, 1, 1, 22, 0, 31, 16, 127, 0, 13, 7, 22, 0, 31, 16, 127, 0, 1]
noncomputable def code46 : Array Nat := #[14, 14, 4, 1, 1, 9, 4294966783, 0, 0, 2147483648, 0, 0, 0, 0, 0, 13, 11, 9, 4294966783, 0, 0, 2147483648, 0, 0, 0, 0, 0, 1]
theorem set41 {c : Nat} (h1 : 32 ≤ c) (h2 : c < 127) (seen : Sre.Seen) : ∃ seen', Sre.inSet code41 c code41.size 5 true seen = .ok (false, seen') := by
  have e1 : Sre.inSet code41 c code41.size 5 true seen = (if (decide (0 ≤ c) && decide (c ≤ 31)) = true then .ok (true, seen.add 22) else Sre.inSet code41 c 19 8 true (seen.add 22)) := by rfl
  have e2 : ∀ s, Sre.inSet code41 c 19 8 true s = (if (c == 127) = true then .ok (true, s.add 16) else Sre.inSet code41 c 18 10 true (s.add 16)) := fun s => by rfl
  have e3 : ∀ s, Sre.inSet code41 c 18 10 true s = .ok (false, s.add 0) := fun s => by rfl
  rw [e1, if_neg (by simp; omega), e2, if_neg (by simp; omega), e3]
  exact ⟨_, rfl⟩
theorem bit46 : ∀ c, c < 127 → 32 ≤ c → (decide (c < 256) && (code46.getD (5 + (1 + c / 32)) 0).testBit (c % 32)) = false := by decide +kernel
theorem set46 {c : Nat} (h1 : 32 ≤ c) (h2 : c < 127) (seen : Sre.Seen) : ∃ seen', Sre.inSet code46 c code46.size 5 true seen = .ok (false, seen') := by
  have e1 : Sre.inSet code46 c code46.size 5 true seen = (if (decide (c < 256) && (code46.getD (5 + (1 + c / 32)) 0).testBit (c % 32)) = true then .ok (true, seen.add 9) else Sre.inSet code46 c 27 14 true (seen.add 9)) := by rfl
  have e3 : ∀ s, Sre.inSet code46 c 27 14 true s = .ok (false, s.add 0) := fun s => by rfl
  rw [e1, bit46 c h2 h1, if_neg (by decide), e3]
  exact ⟨_, rfl⟩
noncomputable def txtOk (x : Str) : Bool := x.cps.toList.all fun c => decide (32 ≤ c) && decide (c < 127)
theorem txt_at {x : Str} (h : txtOk x = true) {i : Nat} (hi : i < x.cps.size) : 32 ≤ x.cps.getD i 0 ∧ x.cps.getD i 0 < 127 := by
  have e : x.cps.getD i 0 = x.cps[i] := by simp [Array.getD, hi]
  have hm : x.cps[i] ∈ x.cps.toList := by simp
  have := List.all_eq_true.mp h _ hm
  rw [e]
  simpa using this
theorem search41 {x : Str} (h : txtOk x = true) : NoneM (Sre.forSearch code41 x.cps 0 0 x.cps.size false) :=
  search_M (fun m e => by unfold Sre.M.hasFirstSet; rw [e]; rfl) fun i hi seen => set41 (txt_at h hi).1 (txt_at h hi).2 seen
theorem search46 {x : Str} (h : txtOk x = true) : NoneM (Sre.forSearch code46 x.cps 0 0 x.cps.size false) :=
  search_M (fun m e => by unfold Sre.M.hasFirstSet; rw [e]; rfl) fun i hi seen => set46 (txt_at h hi).1 (txt_at h hi).2 seen
theorem BiOk.search {n : Nat} {σ : List Ob} {x : Str} {a : Nat} (ha : a = 41 ∨ a = 46) (h : txtOk x = true) (hz : x.length ≤ sizeLine) : BiOk n "re.Pattern.search" [.ref a, .str x] σ (.at .none) σ := by
  intro w A B α s Q E vals bs rm R hv hq
  cases hv with | cons v1 v2 => cases v2 with | cons v3 v4 =>
  cases v4
  cases v1
  obtain ⟨t, rfl⟩ := v3
  have X := R.kin bs
  rcases ha with rfl | rfl
  · refine wpAny_call_entry slot_search ⟨_, X 41 (ob41 w.params) (by rfl), rfl⟩ entry_search ?_ (args_search _ _)
    exact search_none (X 41 (ob41 w.params) (by rfl)) rfl (X 40 (ob40 w.params) (by rfl)) rfl (code := code41) (by kernel_rfl) hz (search41 h) ⟨_, rfl, hq _ _ _ (Post.refl R) rfl⟩
  · refine wpAny_call_entry slot_search ⟨_, X 46 (ob46 w.params) (by rfl), rfl⟩ entry_search ?_ (args_search _ _)
    exact search_none (X 46 (ob46 w.params) (by rfl)) rfl (X 45 (ob45 w.params) (by rfl)) rfl (code := code46) (by kernel_rfl) hz (search46 h) ⟨_, rfl, hq _ _ _ (Post.refl R) rfl⟩
theorem MbOk.search {σ : List Ob} {a : Nat} (ha : a = 41 ∨ a = 46) : MbOk "search" "re.Pattern.search" (.ref a) σ := by
  intro w A B α s pl Q E v bs R hv hq
  cases hv
  have X := R.kin bs
  rcases ha with rfl | rfl
  · exact getMethod_builtin ⟨_, X 41 (ob41 w.params) (by rfl), rfl⟩ plain_re slot_search type_search (fun a e => by cases e; exact ⟨_, X 41 (ob41 w.params) (by rfl), rfl⟩) hq
  · exact getMethod_builtin ⟨_, X 46 (ob46 w.params) (by rfl), rfl⟩ plain_re slot_search type_search (fun a e => by cases e; exact ⟨_, X 46 (ob46 w.params) (by rfl), rfl⟩) hq
/-! __debug__ -/
theorem TrOk.debugT {n : Nat} {nm : Nm} {ρ : Rho} {σ : List Ob} {pos : Pos} : TrOk n nm ρ σ (.Name "__debug__" pos) true σ := by
  intro w A B α env s Q E bs rm F R hq
  refine isTrue_plain ?_ (isTrue_of_plain rfl _ _)
  show wpAny (Mo w) A (standAt pos >>= fun _ => if (("__debug__" : Str) == ("__debug__" : Str)) = true then debugConstant else loadName env "__debug__") _ E s
  refine wpAny_bind (wpAny_standAt ?_)
  rw [if_pos (by decide)]
  unfold debugConstant
  exact wpAny_bind (wpAny_rule (wpAny_pure (wpAny_truthy_bool (hq _ _ (Post.refl R)))))
end Mine
end
section
/-! ## text R22 -/
open PySem.Builtin PySem.Builtin.Str
set_option maxRecDepth 100000
set_option maxHeartbeats 400000
namespace Mine
theorem at69 : FnAt 69 fd69 (fB (clsS 0)) := ⟨fun P => ⟨ob69 P, by rfl, rfl⟩, fun P => ⟨68, ob68 P, _, _, rfl, by rfl, rfl, by rfl⟩, rfl, rfl, rfl, rfl, by rfl, by rfl, by rfl, by decide +kernel⟩
theorem keep69 (P : Params) : keepIn (KF P) (.ref 69) = true := by kernel_rfl
theorem at76 : FnAt 76 fd76 (fB (clsS 1)) := ⟨fun P => ⟨ob76 P, by rfl, rfl⟩, fun P => ⟨75, ob75 P, _, _, rfl, by rfl, rfl, by rfl⟩, rfl, rfl, rfl, rfl, by rfl, by rfl, by rfl, by decide +kernel⟩
theorem keep76 (P : Params) : keepIn (KF P) (.ref 76) = true := by kernel_rfl
theorem at114 : FnAt 114 fd114 (fB (clsS 7)) := ⟨fun P => ⟨ob114 P, by rfl, rfl⟩, fun P => ⟨113, ob113 P, _, _, rfl, by rfl, rfl, by rfl⟩, rfl, rfl, rfl, rfl, by rfl, by rfl, by rfl, by decide +kernel⟩
theorem keep114 (P : Params) : keepIn (KF P) (.ref 114) = true := by kernel_rfl
theorem bind114 (a0 a1 : V) : BindOk fd114 [a0, a1] [] [("self", a0), ("name", a1)] := BindOk.pos (names := ["self", "name"]) (args := [a0, a1]) (fun vals h => match vals, h with | [u0, u1], _ => by kernel_rfl) rfl
theorem at122 : FnAt 122 fd122 (fB (clsS 8)) := ⟨fun P => ⟨ob122 P, by rfl, rfl⟩, fun P => ⟨121, ob121 P, _, _, rfl, by rfl, rfl, by rfl⟩, rfl, rfl, rfl, rfl, by rfl, by rfl, by rfl, by decide +kernel⟩
theorem keep122 (P : Params) : keepIn (KF P) (.ref 122) = true := by kernel_rfl
theorem at139 : FnAt 139 fd139 (fB (clsS 11)) := ⟨fun P => ⟨ob139 P, by rfl, rfl⟩, fun P => ⟨138, ob138 P, _, _, rfl, by rfl, rfl, by rfl⟩, rfl, rfl, rfl, rfl, by rfl, by rfl, by rfl, by decide +kernel⟩
theorem keep139 (P : Params) : keepIn (KF P) (.ref 139) = true := by kernel_rfl
theorem bind139 (a0 : V) : BindOk fd139 [a0] [] [("self", a0)] := BindOk.pos (names := ["self"]) (args := [a0]) (fun vals h => match vals, h with | [u0], _ => by kernel_rfl) rfl
theorem at165 : FnAt 165 fd165 (fB (clsS 15)) := ⟨fun P => ⟨ob165 P, by rfl, rfl⟩, fun P => ⟨164, ob164 P, _, _, rfl, by rfl, rfl, by rfl⟩, rfl, rfl, rfl, rfl, by rfl, by rfl, by rfl, by decide +kernel⟩
theorem keep165 (P : Params) : keepIn (KF P) (.ref 165) = true := by kernel_rfl
theorem bind165 (a0 a1 a2 : V) : BindOk fd165 [a0, a1, a2] [] [("self", a0), ("name", a1), ("value", a2)] := BindOk.pos (names := ["self", "name", "value"]) (args := [a0, a1, a2]) (fun vals h => match vals, h with | [u0, u1, u2], _ => by kernel_rfl) rfl
theorem at172 : FnAt 172 fd172 (fB (clsS 16)) := ⟨fun P => ⟨ob172 P, by rfl, rfl⟩, fun P => ⟨171, ob171 P, _, _, rfl, by rfl, rfl, by rfl⟩, rfl, rfl, rfl, rfl, by rfl, by rfl, by rfl, by decide +kernel⟩
theorem keep172 (P : Params) : keepIn (KF P) (.ref 172) = true := by kernel_rfl
theorem at186 : FnAt 186 fd186 (fB (topS 9)) := ⟨fun P => ⟨ob186 P, by rfl, rfl⟩, fun P => ⟨185, ob185 P, _, _, rfl, by rfl, rfl, by rfl⟩, rfl, rfl, rfl, rfl, by rfl, by rfl, by rfl, by decide +kernel⟩
theorem keep186 (P : Params) : keepIn (KF P) (.ref 186) = true := by kernel_rfl
theorem bind186 (a0 a1 : V) : BindOk fd186 [a0, a1] [] [("want", a0), ("got", a1)] := BindOk.pos (names := ["want", "got"]) (args := [a0, a1]) (fun vals h => match vals, h with | [u0, u1], _ => by kernel_rfl) rfl
theorem at193 : FnAt 193 fd193 (fB (topS 10)) := ⟨fun P => ⟨ob193 P, by rfl, rfl⟩, fun P => ⟨192, ob192 P, _, _, rfl, by rfl, rfl, by rfl⟩, rfl, rfl, rfl, rfl, by rfl, by rfl, by rfl, by decide +kernel⟩
theorem keep193 (P : Params) : keepIn (KF P) (.ref 193) = true := by kernel_rfl
theorem bind193 (a0 : V) : BindOk fd193 [a0] [] [("msg", a0)] := BindOk.pos (names := ["msg"]) (args := [a0]) (fun vals h => match vals, h with | [u0], _ => by kernel_rfl) rfl
theorem at225 : FnAt 225 fd225 (fB (topS 14)) := ⟨fun P => ⟨ob225 P, by rfl, rfl⟩, fun P => ⟨224, ob224 P, _, _, rfl, by rfl, rfl, by rfl⟩, rfl, rfl, rfl, rfl, by rfl, by rfl, by rfl, by decide +kernel⟩
theorem keep225 (P : Params) : keepIn (KF P) (.ref 225) = true := by kernel_rfl
theorem bind225 (a0 : V) : BindOk fd225 [a0] [] [("resp", a0)] := BindOk.pos (names := ["resp"]) (args := [a0]) (fun vals h => match vals, h with | [u0], _ => by kernel_rfl) rfl
theorem at230 : FnAt 230 fd230 (fB (topS 16)) := ⟨fun P => ⟨ob230 P, by rfl, rfl⟩, fun P => ⟨229, ob229 P, _, _, rfl, by rfl, rfl, by rfl⟩, rfl, rfl, rfl, rfl, by rfl, by rfl, by rfl, by decide +kernel⟩
theorem keep230 (P : Params) : keepIn (KF P) (.ref 230) = true := by kernel_rfl
theorem bind230 (a0 : V) : BindOk fd230 [a0] [] [("script", a0)] := BindOk.pos (names := ["script"]) (args := [a0]) (fun vals h => match vals, h with | [u0], _ => by kernel_rfl) rfl
theorem at235 : FnAt 235 fd235 (fB (topS 17)) := ⟨fun P => ⟨ob235 P, by rfl, rfl⟩, fun P => ⟨234, ob234 P, _, _, rfl, by rfl, rfl, by rfl⟩, rfl, rfl, rfl, rfl, by rfl, by rfl, by rfl, by decide +kernel⟩
theorem keep235 (P : Params) : keepIn (KF P) (.ref 235) = true := by kernel_rfl
theorem bind235 (a0 : V) : BindOk fd235 [a0] [] [("numbers", a0)] := BindOk.pos (names := ["numbers"]) (args := [a0]) (fun vals h => match vals, h with | [u0], _ => by kernel_rfl) rfl
theorem at240 : FnAt 240 fd240 (fB (topS 18)) := ⟨fun P => ⟨ob240 P, by rfl, rfl⟩, fun P => ⟨239, ob239 P, _, _, rfl, by rfl, rfl, by rfl⟩, rfl, rfl, rfl, rfl, by rfl, by rfl, by rfl, by decide +kernel⟩
theorem keep240 (P : Params) : keepIn (KF P) (.ref 240) = true := by kernel_rfl
theorem bind240 (a0 a1 : V) : BindOk fd240 [a0, a1] [] [("rows", a0), ("odd", a1)] := BindOk.pos (names := ["rows", "odd"]) (args := [a0, a1]) (fun vals h => match vals, h with | [u0, u1], _ => by kernel_rfl) rfl
theorem at245 : FnAt 245 fd245 (fB (topS 19)) := ⟨fun P => ⟨ob245 P, by rfl, rfl⟩, fun P => ⟨244, ob244 P, _, _, rfl, by rfl, rfl, by rfl⟩, rfl, rfl, rfl, rfl, by rfl, by rfl, by rfl, by decide +kernel⟩
theorem keep245 (P : Params) : keepIn (KF P) (.ref 245) = true := by kernel_rfl
theorem bind245 (a0 a1 : V) : BindOk fd245 [a0, a1] [] [("one", a0), ("two", a1)] := BindOk.pos (names := ["one", "two"]) (args := [a0, a1]) (fun vals h => match vals, h with | [u0, u1], _ => by kernel_rfl) rfl
theorem at252 : FnAt 252 fd252 (fB (topS 20)) := ⟨fun P => ⟨ob252 P, by rfl, rfl⟩, fun P => ⟨251, ob251 P, _, _, rfl, by rfl, rfl, by rfl⟩, rfl, rfl, rfl, rfl, by rfl, by rfl, by rfl, by decide +kernel⟩
theorem keep252 (P : Params) : keepIn (KF P) (.ref 252) = true := by kernel_rfl
theorem bind252 (a0 a1 : V) : BindOk fd252 [a0, a1] [] [("told", a0), ("book", a1)] := BindOk.pos (names := ["told", "book"]) (args := [a0, a1]) (fun vals h => match vals, h with | [u0, u1], _ => by kernel_rfl) rfl
theorem at259 : FnAt 259 fd259 (fB (topS 21)) := ⟨fun P => ⟨ob259 P, by rfl, rfl⟩, fun P => ⟨258, ob258 P, _, _, rfl, by rfl, rfl, by rfl⟩, rfl, rfl, rfl, rfl, by rfl, by rfl, by rfl, by decide +kernel⟩
theorem keep259 (P : Params) : keepIn (KF P) (.ref 259) = true := by kernel_rfl
theorem bind259 (a0 a1 : V) : BindOk fd259 [a0, a1] [] [("board", a0), ("book", a1)] := BindOk.pos (names := ["board", "book"]) (args := [a0, a1]) (fun vals h => match vals, h with | [u0, u1], _ => by kernel_rfl) rfl
theorem at264 : FnAt 264 fd264 (fB (topS 22)) := ⟨fun P => ⟨ob264 P, by rfl, rfl⟩, fun P => ⟨263, ob263 P, _, _, rfl, by rfl, rfl, by rfl⟩, rfl, rfl, rfl, rfl, by rfl, by rfl, by rfl, by decide +kernel⟩
theorem keep264 (P : Params) : keepIn (KF P) (.ref 264) = true := by kernel_rfl
theorem bind264 (a0 a1 : V) : BindOk fd264 [a0, a1] [] [("told", a0), ("choice", a1)] := BindOk.pos (names := ["told", "choice"]) (args := [a0, a1]) (fun vals h => match vals, h with | [u0, u1], _ => by kernel_rfl) rfl
theorem at271 : FnAt 271 fd271 (fB (topS 23)) := ⟨fun P => ⟨ob271 P, by rfl, rfl⟩, fun P => ⟨270, ob270 P, _, _, rfl, by rfl, rfl, by rfl⟩, rfl, rfl, rfl, rfl, by rfl, by rfl, by rfl, by decide +kernel⟩
theorem keep271 (P : Params) : keepIn (KF P) (.ref 271) = true := by kernel_rfl
theorem bind271 (a0 a1 : V) : BindOk fd271 [a0, a1] [] [("word", a0), ("board", a1)] := BindOk.pos (names := ["word", "board"]) (args := [a0, a1]) (fun vals h => match vals, h with | [u0, u1], _ => by kernel_rfl) rfl
theorem at276 : FnAt 276 fd276 (fB (topS 24)) := ⟨fun P => ⟨ob276 P, by rfl, rfl⟩, fun P => ⟨275, ob275 P, _, _, rfl, by rfl, rfl, by rfl⟩, rfl, rfl, rfl, rfl, by rfl, by rfl, by rfl, by decide +kernel⟩
theorem keep276 (P : Params) : keepIn (KF P) (.ref 276) = true := by kernel_rfl
theorem bind276 (a0 a1 a2 a3 : V) : BindOk fd276 [a0, a1, a2, a3] [] [("told", a0), ("book", a1), ("fallen", a2), ("board", a3)] := BindOk.pos (names := ["told", "book", "fallen", "board"]) (args := [a0, a1, a2, a3]) (fun vals h => match vals, h with | [u0, u1, u2, u3], _ => by kernel_rfl) rfl
theorem at281 : FnAt 281 fd281 (fB (topS 25)) := ⟨fun P => ⟨ob281 P, by rfl, rfl⟩, fun P => ⟨280, ob280 P, _, _, rfl, by rfl, rfl, by rfl⟩, rfl, rfl, rfl, rfl, by rfl, by rfl, by rfl, by decide +kernel⟩
theorem keep281 (P : Params) : keepIn (KF P) (.ref 281) = true := by kernel_rfl
theorem bind281 (a0 : V) : BindOk fd281 [a0] [] [("script", a0)] := BindOk.pos (names := ["script"]) (args := [a0]) (fun vals h => match vals, h with | [u0], _ => by kernel_rfl) rfl
theorem hm76 : HmOk "_convert_string_type" 76 := ⟨fun P => by kernel_rfl, fun P => by kernel_rfl, fun P => by kernel_rfl, fun P => by kernel_rfl, fun t => by kernel_rfl⟩
theorem hm114 : HmOk "get_all" 114 := ⟨fun P => by kernel_rfl, fun P => by kernel_rfl, fun P => by kernel_rfl, fun P => by kernel_rfl, fun t => by kernel_rfl⟩
theorem hm122 : HmOk "get" 122 := ⟨fun P => by kernel_rfl, fun P => by kernel_rfl, fun P => by kernel_rfl, fun P => by kernel_rfl, fun t => by kernel_rfl⟩
theorem hm139 : HmOk "items" 139 := ⟨fun P => by kernel_rfl, fun P => by kernel_rfl, fun P => by kernel_rfl, fun P => by kernel_rfl, fun t => by kernel_rfl⟩
theorem hm165 : HmOk "setdefault" 165 := ⟨fun P => by kernel_rfl, fun P => by kernel_rfl, fun P => by kernel_rfl, fun P => by kernel_rfl, fun t => by kernel_rfl⟩
theorem hm172 : HmOk "add_header" 172 := ⟨fun P => by kernel_rfl, fun P => by kernel_rfl, fun P => by kernel_rfl, fun P => by kernel_rfl, fun t => by kernel_rfl⟩
end Mine
end
section
/-! ## text P1 -/
open PySem.Builtin PySem.Builtin.Str
set_option maxRecDepth 100000
set_option maxHeartbeats 400000
namespace Mine
noncomputable def Cl (σ : List Ob) : Prop := σ.all (clOb σ.length) = true
theorem objL_last (σ : List Ob) (l : List It) : objL (σ ++ [.list l]) σ.length = some l := by
  unfold objL; rw [List.getElem?_append_right (Nat.le_refl _)]; simp
noncomputable def itOf : V → It
  | .it x => x
  | _ => .at .none
noncomputable def strOf : V → Str
  | .it (.at (.str x)) => x
  | _ => Str.empty
noncomputable abbrev ch (c : Nat) : Str := ⟨#[c]⟩
noncomputable def abc : List Str := ["a", "b", "c", "d", "e"]
theorem abc_src (σ : List Ob) : srcL σ (.str "abcde") = some (abc.map V.str) := by rfl
theorem mem_abc {X : V} (h : X ∈ abc.map V.str) : ∃ c ∈ abc, X = .str c := by obtain ⟨c, hc, e⟩ := List.mem_map.mp h; exact ⟨c, hc, e.symm⟩
theorem strsIt_map : ∀ l : List Str, strsIt (l.map fun c => .at (.str c)) = some l
  | [] => rfl
  | c :: l => by rw [List.map_cons]; show (strsIt (l.map _)).map (c :: ·) = _; rw [strsIt_map l]; rfl
theorem filt_map {p : V → Bool} (l : List Str) : ((l.map V.str).filter p).map itOf = (l.filter fun c => p (.str c)).map fun c => It.at (.str c) := by
  induction l with
  | nil => rfl
  | cons c l ih =>
    rw [List.map_cons, List.filter_cons, List.filter_cons]
    cases p (.str c) <;> simp [ih, itOf]
/-- the letters of 'abcde' that pass, joined -/
noncomputable def pickA (q : Str → Bool) : Str := Txt.join "" (abc.filter q)
noncomputable def optL (b : Bool) (x : Str) : List Str := if b then [x] else []
noncomputable def abcL (a b c d e : Bool) : List Str := optL a "a" ++ (optL b "b" ++ (optL c "c" ++ (optL d "d" ++ optL e "e")))
theorem abc_filter (q : Str → Bool) : abc.filter q = abcL (q "a") (q "b") (q "c") (q "d") (q "e") := by
  unfold abc abcL
  simp only [List.filter_cons, List.filter_nil]
  cases q "a" <;> cases q "b" <;> cases q "c" <;> cases q "d" <;> cases q "e" <;> rfl
theorem joinOk_pick (q : Str → Bool) : JoinOk "" (abc.filter q) = true := by
  have h : ∀ a b c d e : Bool, JoinOk "" (abcL a b c d e) = true := by decide +kernel
  rw [abc_filter]; exact h _ _ _ _ _
theorem clRV_str (k : Nat) (x : Str) : clRV k (.at (.str x)) = true := rfl
noncomputable def compB (nm : Nm) (ρ : Rho) (scope : Scope) (x : Str) : Bool := scope.kind == .function && scope.names.all (fun y => y.2 != .cell && (y.2 != .local || scope.names.lookup y.1 == some .local) && (y.2 != .free || (nm.lookup y.1 == some .cell && (ρ.lookup y.1).any noNod))) && scope.names.lookup x == some .local
theorem compS {nm : Nm} {ρ : Rho} {scope : Scope} {x : Str} (h : compB nm ρ scope x = true) : CompS nm ρ scope x := by
  unfold compB at h
  simp only [Bool.and_eq_true, beq_iff_eq, List.all_eq_true] at h
  obtain ⟨⟨h1, h2⟩, h3⟩ := h
  refine ⟨h1, fun y hy => ?_, fun y hy hl => ?_, h3, fun y hy hf => ?_⟩
  · have := (h2 y hy).1.1; simpa using this
  · have := (h2 y hy).1.2; rw [hl] at this; simpa using this
  · have := (h2 y hy).2; rw [hf] at this; simpa using this
theorem law_sum {n : Nat} {one two : Str} {σ : List Ob} (hc : Cl σ) : FnOk (n + 1) 245 [.str one, .str two] [] σ (.at (.str (pickA fun c => isIn one c != isIn two c))) σ := by
  let p : V → Bool := fun X => isIn one (strOf X) != isIn two (strOf X)
  refine FnOk.drop (junk := [.list (((abc.map V.str).filter p).map itOf)]) ?_ rfl hc rfl
  refine fn_ok (ρ' := [("one", .str one), ("two", .str two)]) at245 (bind245 _ _) (show (["one", "two"] : List Str).Nodup from by decide) (by rfl) (ExsOk.ret (ExOk.ret ?_)) rfl
  refine EvOk.methB (fun env => by rfl) rfl (EvOk.const (a := .str "") rfl) (MbOk.str fun M A s pl Q E t h => GM.join h) (EvsOk.cons rfl (EvOk.comp (src := .str "abcde") (p := p) (f := itOf) (compS (by rfl)) (IterOk.str (EvOk.const rfl)) (abc_src _) (by decide) (fun _ _ => rfl) ?_ ?_) EvsOk.nil) ?_
  · intro X hX
    obtain ⟨c, hc, rfl⟩ := mem_abc hX
    exact TrOk.cmp (EvOk.cmp (EvOk.name (X := .str c) rfl rfl rfl rfl) (EvOk.name (X := .str one) rfl rfl rfl rfl) rfl rfl) (EvOk.cmp (EvOk.name (X := .str c) rfl rfl rfl rfl) (EvOk.name (X := .str two) rfl rfl rfl rfl) rfl rfl) rfl rfl
  · intro X hX _
    obtain ⟨c, hc, rfl⟩ := mem_abc hX
    exact EvOk.name (X := .str c) rfl rfl rfl rfl
  · refine BiOk.join (objL_last _ _) ?_ (joinOk_pick _)
    rw [filt_map, strsIt_map]
    rfl
end Mine
end
section
/-! ## text P2 -/
open PySem.Builtin PySem.Builtin.Str
set_option maxRecDepth 100000
set_option maxHeartbeats 400000
namespace Mine
/-! Headers -/
noncomputable abbrev nd3 (a b c : Str) : Prop := ([a, b, c] : List Str).Nodup
theorem bind76 (a0 a1 b : V) : BindOk fd76 [a0, a1] [("name", b)] [("self", a0), ("value", a1), ("name", b)] := by
  intro w A B α σ s Q E vals kvs bs R hv hk hq
  match vals, kvs, hv, hk with
  | [u, v], [(k, z)], .cons h1 (.cons h2 .nil), .cons ⟨e1, h3⟩ .nil =>
    simp only at e1 h3
    subst e1
    rw [show bindArgs fd76 ⟨[u, v], [("name", z)]⟩ = (pure ([("self", u), ("value", v), ("name", z)] : List (Str × Value)) : Sem _) from by kernel_rfl]
    exact wpAny_pure (hq _ _ (Post.refl R) (.cons ⟨rfl, h1⟩ (.cons ⟨rfl, h2⟩ (.cons ⟨rfl, h3⟩ .nil))))
theorem bind122 (a0 a1 : V) : BindOk fd122 [a0, a1] [] [("self", a0), ("name", a1), ("default", V.none)] := by
  intro w A B α σ s Q E vals kvs bs R hv hk hq
  match vals, kvs, hv, hk with
  | [u, v], [], .cons h1 (.cons h2 .nil), .nil =>
    have X := R.kin bs 115 (ob115 w.params) (by rfl)
    exact BindsTo.of_defaults (fd := fd122) (T := 115) (o := ob115 w.params) (items := #[.none]) (n := 0) (binds := [("self", u), ("name", v), ("default", .none)]) rfl X rfl rfl (by kernel_rfl) _ A E Q
      (hq _ _ (Post.refl R) (.cons ⟨rfl, h1⟩ (.cons ⟨rfl, h2⟩ (.cons ⟨rfl, rfl⟩ .nil))))
theorem bind69 (a0 : V) : BindOk fd69 [a0] [] [("self", a0), ("headers", V.none)] := by
  intro w A B α σ s Q E vals kvs bs R hv hk hq
  match vals, kvs, hv, hk with
  | [u], [], .cons h1 .nil, .nil =>
    have X := R.kin bs 62 (ob62 w.params) (by rfl)
    exact BindsTo.of_defaults (fd := fd69) (T := 62) (o := ob62 w.params) (items := #[.none]) (n := 0) (binds := [("self", u), ("headers", .none)]) rfl X rfl rfl (by kernel_rfl) _ A E Q
      (hq _ _ (Post.refl R) (.cons ⟨rfl, h1⟩ (.cons ⟨rfl, rfl⟩ .nil)))
theorem convert {n : Nat} {j : Nat} {x : Str} {b : Bool} {σ : List Ob} (ht : txtOk x = true) (hz : x.length ≤ sizeLine) : FnOk (n + 1) 76 [.obj j, .str x] [("name", .bool b)] σ (.at (.str x)) σ := by
  refine fn_ok at76 (bind76 _ _ _) (show nd3 "self" "value" "name" from by decide) (by rfl) (ExsOk.ret (ExOk.ifT (ρ₂ := setL [("self", .obj j), ("value", .str x), ("name", .bool b)] "regex" (.ref (if b then 41 else 46))) (σ₂ := σ) (TrOk.cmp (EvOk.type (r := .at (.str x)) (T := "str") rfl rfl (EvOk.name (X := .str x) rfl rfl rfl rfl) rfl) (EvOk.glob (a := .ty "str") rfl (by kernel_rfl) rfl) rfl rfl) ?_)) rfl
  refine ExsOk.cons (ExOk.assign (r := .at (.ref (if b then 41 else 46))) (EvOk.ifexp (σ₂ := σ) (c := b) (TrOk.val rfl (EvOk.name (X := .bool b) rfl rfl rfl rfl) rfl) ?_) rfl rfl (by decide) rfl) ?_
  · cases b
    · exact EvOk.glob (a := .ref 46) rfl (by kernel_rfl) rfl
    · exact EvOk.glob (a := .ref 41) rfl (by kernel_rfl) rfl
  · have h41 : (if b then 41 else 46) = 41 ∨ (if b then 41 else 46) = 46 := by cases b <;> simp
    refine ExsOk.cons (ExOk.ifF (TrOk.val rfl (EvOk.methB (id := "re.Pattern.search") (fun env => by rfl) rfl (EvOk.name (X := .ref (if b then 41 else 46)) rfl rfl rfl rfl) (MbOk.search h41) (EvsOk.cons rfl (EvOk.name (X := .str x) rfl rfl rfl rfl) EvsOk.nil) (BiOk.search h41 ht hz)) rfl) ExsOk.nil) ?_
    exact ExsOk.ret (ExOk.ret (EvOk.name (X := .str x) rfl rfl rfl rfl))
end Mine
end
section
/-! ## text P3 -/
open PySem.Builtin PySem.Builtin.Str
set_option maxRecDepth 100000
set_option maxHeartbeats 400000
namespace Mine
/-- a function's body, to its end -/
noncomputable def BodyOk (n : Nat) (nm : Nm) (ρ : Rho) (σ : List Ob) (ss : List Stmt) (r : RV) (σ' : List Ob) : Prop := ∃ o ρ', ExsOk n nm ρ σ ss o ρ' σ' ∧ retOf o = some r
section
variable {n : Nat} {nm : Nm} {ρ ρ₁ : Rho} {σ σ₁ σ₂ : List Ob} {st : Stmt} {ss : List Stmt} {r : RV}
theorem BodyOk.cons (h1 : ExOk n nm ρ σ st .go ρ₁ σ₁) (h2 : BodyOk n nm ρ₁ σ₁ ss r σ₂) : BodyOk n nm ρ σ (st :: ss) r σ₂ := by
  obtain ⟨o, ρ', h, e⟩ := h2
  exact ⟨o, ρ', ExsOk.cons h1 h, e⟩
theorem BodyOk.ret (h1 : ExOk n nm ρ σ st (.ret r) ρ₁ σ₁) : BodyOk n nm ρ σ (st :: ss) r σ₁ := ⟨_, _, ExsOk.ret h1, rfl⟩
theorem BodyOk.nil : BodyOk n nm ρ σ [] (.at .none) σ := ⟨_, _, ExsOk.nil, rfl⟩
theorem BodyOk.forGo {tg iter : Expr} {body : List Stmt} {pos : Pos} {src : Src} {Inv : Rho → Prop} (hi : IterOk n nm ρ σ iter src σ₁) (hs : ∀ env x, foldedSetIterable iter env x = pure x)
    (h : ∃ m ρ', LoopD n nm src tg body m 0 ρ σ₁ .go ρ' σ₂ ∧ Inv ρ') {σ₃ : List Ob} (h2 : ∀ ρ', Inv ρ' → BodyOk n nm ρ' σ₂ ss r σ₃) : BodyOk n nm ρ σ (.For tg iter body [] pos :: ss) r σ₃ := by
  obtain ⟨m, ρ', L, I⟩ := h
  exact BodyOk.cons (ExOk.for hi L hs) (h2 _ I)
theorem BodyOk.forRet {tg iter : Expr} {body : List Stmt} {pos : Pos} {src : Src} {Inv : Rho → Prop} (hi : IterOk n nm ρ σ iter src σ₁) (hs : ∀ env x, foldedSetIterable iter env x = pure x)
    (h : ∃ m ρ', LoopD n nm src tg body m 0 ρ σ₁ (.ret r) ρ' σ₂ ∧ Inv ρ') : BodyOk n nm ρ σ (.For tg iter body [] pos :: ss) r σ₂ := by
  obtain ⟨m, ρ', L, I⟩ := h
  exact BodyOk.ret (ExOk.for hi L hs)
theorem BodyOk.ifT {t : Expr} {b1 b2 : List Stmt} {pos : Pos} (h1 : TrOk n nm ρ σ t true σ₁) (h2 : ExsOk n nm ρ σ₁ b1 (.ret r) ρ₁ σ₂) : BodyOk n nm ρ σ (.If t b1 b2 pos :: ss) r σ₂ := BodyOk.ret (ExOk.ifT h1 h2)
theorem BodyOk.ifF {t : Expr} {b1 b2 : List Stmt} {pos : Pos} (h1 : TrOk n nm ρ σ t false σ₁) (h2 : ExsOk n nm ρ σ₁ b2 (.ret r) ρ₁ σ₂) : BodyOk n nm ρ σ (.If t b1 b2 pos :: ss) r σ₂ := BodyOk.ret (ExOk.ifF h1 h2)
theorem BodyOk.skip {t : Expr} {b1 : List Stmt} {pos : Pos} (h1 : TrOk n nm ρ σ t false σ₁) (h2 : BodyOk n nm ρ σ₁ ss r σ₂) : BodyOk n nm ρ σ (.If t b1 [] pos :: ss) r σ₂ := BodyOk.cons (ExOk.ifF h1 ExsOk.nil) h2
theorem fn_okB {f : Nat} {fd : FuncData} {body : List Stmt} {args : List V} {kw : List (Str × V)} {ρ₀ : Rho} {σ' : List Ob} (H : FnAt f fd body) (hb : BindOk fd args kw ρ₀) (hnd : (ρ₀.map (·.1)).Nodup)
    (hk : ρ₀.all (fun p => match fd.scope.names.lookup p.1 with | some .local => true | some .cell => true | _ => false) = true) (hbody : BodyOk n fd.scope.names ρ₀ σ body r σ') : FnOk (n + 1) f args kw σ r σ' := by
  obtain ⟨o, ρ', h, e⟩ := hbody
  exact fn_ok H hb hnd hk h e
/-- a walk that looks for the first that fits; the world stays -/
theorem loop_find {src : Src} {tg : Expr} {body : List Stmt} {β : Type} {E : List β} {val : β → V} (hsrc : srcL σ src = some (E.map val)) (hit : β → Option RV) (Inv : Rho → Prop) (setR : Rho → β → Rho)
    (htg : ∀ ρ e, Inv ρ → e ∈ E → TgOk nm ρ src tg (val e) (setR ρ e)) (hinv : ∀ ρ e, Inv ρ → Inv (setR ρ e)) (hbody : ∀ ρ e, Inv ρ → e ∈ E → ExsOk n nm (setR ρ e) σ body (match hit e with | some r => .ret r | none => .go) (setR ρ e) σ) :
    ∀ (d i : Nat) (ρ : Rho), i + d = E.length → Inv ρ → ∃ m ρ', LoopD n nm src tg body m i ρ σ (match (E.drop i).findSome? hit with | some r => .ret r | none => .go) ρ' σ ∧ Inv ρ'
  | 0, i, ρ, h, hI => by
    refine ⟨0, ρ, ?_, hI⟩
    rw [List.drop_eq_nil_of_le (by omega)]
    exact .done hsrc (by rw [List.length_map]; omega)
  | d + 1, i, ρ, h, hI => by
    have hi : i < E.length := by omega
    have ei : (E.map val)[i]? = some (val E[i]) := by rw [List.getElem?_map, List.getElem?_eq_getElem hi]; rfl
    have hdr : E.drop i = E[i] :: E.drop (i + 1) := List.drop_eq_getElem_cons hi
    have hm : E[i] ∈ E := List.getElem_mem hi
    generalize E[i] = e at ei hdr hm
    have hb := hbody ρ e hI hm
    rw [hdr, List.findSome?_cons]
    cases hh : hit e with
    | some r =>
      rw [hh] at hb
      exact ⟨0, setR ρ e, .ret hsrc ei (htg ρ e hI hm) hb, hinv _ _ hI⟩
    | none =>
      rw [hh] at hb
      obtain ⟨m, ρ', L, I⟩ := loop_find hsrc hit Inv setR htg hinv hbody d (i + 1) (setR ρ e) (by omega) (hinv _ _ hI)
      exact ⟨m + 1, ρ', .step hsrc ei (htg ρ e hI hm) hb L, I⟩
theorem loop_find0 {src : Src} {tg : Expr} {body : List Stmt} {β : Type} {E : List β} {val : β → V} (hsrc : srcL σ src = some (E.map val)) (hit : β → Option RV) (Inv : Rho → Prop) (setR : Rho → β → Rho) {o : Out} (ho : (match E.findSome? hit with | some r => Out.ret r | none => .go) = o) (hI : Inv ρ)
    (htg : ∀ ρ e, Inv ρ → e ∈ E → TgOk nm ρ src tg (val e) (setR ρ e)) (hinv : ∀ ρ e, Inv ρ → Inv (setR ρ e)) (hbody : ∀ ρ e, Inv ρ → e ∈ E → ExsOk n nm (setR ρ e) σ body (match hit e with | some r => .ret r | none => .go) (setR ρ e) σ) :
    ∃ m ρ', LoopD n nm src tg body m 0 ρ σ o ρ' σ ∧ Inv ρ' := by
  have := loop_find hsrc hit Inv setR htg hinv hbody E.length 0 ρ (by omega) hI
  rw [List.drop_zero, ho] at this
  exact this
end
noncomputable def forB : Stmt → List Stmt
  | .For _ _ b _ _ => b
  | .While _ b _ _ => b
  | _ => []
/-! Headers -/
noncomputable abbrev Ent := Str × Str
noncomputable def ent (e : Ent) : It := .tup [.str e.1, .str e.2]
structure HdAt (σ : List Ob) (j k : Nat) (E : List Ent) : Prop where
  hj : σ[j]? = some (.hdr (some (.obj k)))
  hk : σ[k]? = some (.list (E.map ent))
theorem HdAt.objL {σ : List Ob} {j k : Nat} {E : List Ent} (h : HdAt σ j k E) : objL σ k = some (E.map ent) := by unfold Mine.objL; rw [h.hk]
theorem HdAt.src {σ : List Ob} {j k : Nat} {E : List Ent} (h : HdAt σ j k E) : srcL σ (.lst k) = some (E.map fun e => V.it (ent e)) := by
  unfold srcL; dsimp only; rw [h.hk]; dsimp only; rw [List.map_map]; rfl
noncomputable def smallE (E : List Ent) : Prop := ∀ e ∈ E, e.1.length ≤ 5592405
noncomputable def hitE (x : Str) (e : Ent) : Option RV := if Txt.lower e.1 == x then some (.at (.str e.2)) else none
noncomputable def getE (E : List Ent) (x : Str) : RV := ((E.findSome? (hitE x))).getD (.at .none)
theorem get_body {n : Nat} {E : List Ent} {x : Str} {σ : List Ob} {ρ : Rho} {e : Ent} (hs : smallE E) (he : e ∈ E) (h1 : ρ.lookup ("name" : Str) = some (V.str x)) :
    ExsOk n fd122.scope.names (setL (setL ρ "k" (V.str e.1)) "v" (V.str e.2)) σ (forB ((fB (clsS 8)).getD 1 (.Pass ⟨0, 0, 0, 0⟩))) (match hitE x e with | some r => .ret r | none => .go) (setL (setL ρ "k" (V.str e.1)) "v" (V.str e.2)) σ := by
  have l1 : (setL (setL ρ "k" (V.str e.1)) "v" (V.str e.2)).lookup ("k" : Str) = some (V.str e.1) := by rw [lookup_setL, if_neg (by decide), lookup_setL, if_pos rfl]
  have l2 : (setL (setL ρ "k" (V.str e.1)) "v" (V.str e.2)).lookup ("v" : Str) = some (V.str e.2) := by rw [lookup_setL, if_pos rfl]
  have l3 : (setL (setL ρ "k" (V.str e.1)) "v" (V.str e.2)).lookup ("name" : Str) = some (V.str x) := by rw [lookup_setL, if_neg (by decide), lookup_setL, if_neg (by decide), h1]
  have hz := hs e he
  unfold hitE
  cases h : (Txt.lower e.1 == x) with
  | true =>
    rw [if_pos rfl]
    exact ExsOk.ret (ExOk.ifT (TrOk.cmp (EvOk.methB (id := "str.lower") (fun env => by rfl) rfl (EvOk.name (X := .str e.1) rfl l1 rfl rfl) (MbOk.str fun M A s pl Q E t h => GM.lower h) EvsOk.nil (BiOk.atoms (ats := [.str e.1]) (r := .str (Txt.lower e.1)) rfl (by simp [strM, hz]))) (EvOk.name (X := .str x) rfl l3 rfl rfl) (by show some (Txt.lower e.1 == x) = _; rw [h]) rfl) (ExsOk.ret (ExOk.ret (EvOk.name (X := .str e.2) rfl l2 rfl rfl))))
  | false =>
    rw [if_neg (by decide)]
    exact ExsOk.cons (ExOk.ifF (TrOk.cmp (EvOk.methB (id := "str.lower") (fun env => by rfl) rfl (EvOk.name (X := .str e.1) rfl l1 rfl rfl) (MbOk.str fun M A s pl Q E t h => GM.lower h) EvsOk.nil (BiOk.atoms (ats := [.str e.1]) (r := .str (Txt.lower e.1)) rfl (by simp [strM, hz]))) (EvOk.name (X := .str x) rfl l3 rfl rfl) (by show some (Txt.lower e.1 == x) = _; rw [h]) rfl) ExsOk.nil) ExsOk.nil
theorem hdr_get {n j k : Nat} {E : List Ent} {x : Str} {σ : List Ob} (hn : 4 ≤ n) (hd : HdAt σ j k E) (hs : smallE E) (hz : x.length ≤ 5592405) (ht : txtOk (Txt.lower x) = true) (hl : (Txt.lower x).length ≤ sizeLine) :
    FnOk (n + 2) 122 [.obj j, .str x] [] σ (getE E (Txt.lower x)) σ := by
  refine fn_okB at122 (bind122 _ _) (show nd3 "self" "name" "default" from by decide) (by rfl) (BodyOk.cons (ρ₁ := setL [("self", .obj j), ("name", .str x), ("default", .none)] "name" (.str (Txt.lower x))) (σ₁ := σ) (ExOk.assign (r := .at (.str (Txt.lower x))) (EvOk.methK hm76 (fun env => by rfl) rfl (EvOk.name (X := .obj j) rfl rfl rfl rfl) hd.hj
    (EvsOk.cons rfl (EvOk.methB (id := "str.lower") (fun env => by rfl) rfl (EvOk.name (X := .str x) rfl rfl rfl rfl) (MbOk.str fun M A s pl Q E t h => GM.lower h) EvsOk.nil (BiOk.atoms (ats := [.str x]) rfl (by simp [strM, hz]))) EvsOk.nil) (EvOk.const (a := .bool true) rfl) (convert ht hl)) rfl rfl (by decide) rfl) ?_)
  cases hg : E.findSome? (hitE (Txt.lower x)) with
  | some r =>
    have e0 : getE E (Txt.lower x) = r := by unfold getE; rw [hg]; rfl
    rw [e0]
    refine BodyOk.forRet (Inv := fun (ρ : Rho) => ρ.lookup ("name" : Str) = some (V.str (Txt.lower x)) ∧ ρ.lookup ("default" : Str) = some V.none) (IterOk.list (r := .v (.obj k)) (EvOk.attr (EvOk.name (X := .obj j) rfl rfl rfl rfl) hd.hj (fun env x => by rfl)) rfl hd.hk) (fun _ _ => rfl) ?_
    refine loop_find0 (E := E) (val := fun (e : Ent) => V.it (ent e)) hd.src (hitE (Txt.lower x)) _ (fun (ρ : Rho) (e : Ent) => setL (setL ρ "k" (V.str e.1)) "v" (V.str e.2)) (by rw [hg]) ⟨rfl, rfl⟩ ?_ ?_ ?_
    · intro ρ e hI he; exact TgOk.pair rfl (by decide) rfl (by decide)
    · rintro ρ e ⟨h1, h2⟩
      exact ⟨by rw [lookup_setL, if_neg (by decide), lookup_setL, if_neg (by decide), h1], by rw [lookup_setL, if_neg (by decide), lookup_setL, if_neg (by decide), h2]⟩
    · rintro ρ e ⟨h1, h2⟩ he
      exact get_body hs he h1
  | none =>
    have e0 : getE E (Txt.lower x) = .at .none := by unfold getE; rw [hg]; rfl
    rw [e0]
    refine BodyOk.forGo (Inv := fun (ρ : Rho) => ρ.lookup ("name" : Str) = some (V.str (Txt.lower x)) ∧ ρ.lookup ("default" : Str) = some V.none) (IterOk.list (r := .v (.obj k)) (EvOk.attr (EvOk.name (X := .obj j) rfl rfl rfl rfl) hd.hj (fun env x => by rfl)) rfl hd.hk) (fun _ _ => rfl) (σ₂ := σ) ?_ ?_
    · refine loop_find0 (E := E) (val := fun (e : Ent) => V.it (ent e)) hd.src (hitE (Txt.lower x)) _ (fun (ρ : Rho) (e : Ent) => setL (setL ρ "k" (V.str e.1)) "v" (V.str e.2)) (by rw [hg]) ⟨rfl, rfl⟩ ?_ ?_ ?_
      · intro ρ e hI he; exact TgOk.pair rfl (by decide) rfl (by decide)
      · rintro ρ e ⟨h1, h2⟩
        exact ⟨by rw [lookup_setL, if_neg (by decide), lookup_setL, if_neg (by decide), h1], by rw [lookup_setL, if_neg (by decide), lookup_setL, if_neg (by decide), h2]⟩
      · rintro ρ e ⟨h1, h2⟩ he
        exact get_body hs he h1
    · rintro ρ' ⟨h1, h2⟩
      exact BodyOk.ret (ExOk.ret (EvOk.name (X := V.none) rfl h2 rfl rfl))
end Mine
end
section
/-! ## text P4 -/
open PySem.Builtin PySem.Builtin.Str
set_option maxRecDepth 100000
set_option maxHeartbeats 400000
namespace Mine
noncomputable abbrev nd2 (a b : Str) : Prop := ([a, b] : List Str).Nodup
noncomputable def allE (E : List Ent) (x : Str) : List It := (E.filter fun e => Txt.lower e.1 == x).map fun e => .at (.str e.2)
noncomputable def kvP (x : Str) : V → Bool
  | .it (.tup (.str a :: _)) => Txt.lower a == x
  | _ => false
noncomputable def kvF : V → It
  | .it (.tup [_, b]) => .at b
  | _ => .at .none
theorem all_eq (E : List Ent) (x : Str) : ((E.map fun e => V.it (ent e)).filter (kvP x)).map kvF = allE E x := by
  unfold allE
  induction E with
  | nil => rfl
  | cons e E ih =>
    rw [List.map_cons, List.filter_cons, List.filter_cons]
    show List.map kvF (if (Txt.lower e.1 == x) = true then V.it (ent e) :: _ else _) = _
    cases (Txt.lower e.1 == x)
    · simpa using ih
    · simp only [if_true, List.map_cons, ih]; rfl
theorem hdr_get_all {n j k : Nat} {E : List Ent} {x : Str} {σ : List Ob} (hd : HdAt σ j k E) (hs : smallE E) (hE : E.length ≤ sizeLine) (hz : x.length ≤ 5592405) (ht : txtOk (Txt.lower x) = true) (hl : (Txt.lower x).length ≤ sizeLine) :
    FnOk (n + 2) 114 [.obj j, .str x] [] σ (.new (allE E (Txt.lower x))) σ := by
  refine fn_okB at114 (bind114 _ _) (show nd2 "self" "name" from by decide) (by rfl) (BodyOk.cons (ρ₁ := setL [("self", .obj j), ("name", .str x)] "name" (.str (Txt.lower x))) (σ₁ := σ) (ExOk.assign (r := .at (.str (Txt.lower x))) (EvOk.methK hm76 (fun env => by rfl) rfl (EvOk.name (X := .obj j) rfl rfl rfl rfl) hd.hj
    (EvsOk.cons rfl (EvOk.methB (id := "str.lower") (fun env => by rfl) rfl (EvOk.name (X := .str x) rfl rfl rfl rfl) (MbOk.str fun M A s pl Q E t h => GM.lower h) EvsOk.nil (BiOk.atoms (ats := [.str x]) rfl (by simp [strM, hz]))) EvsOk.nil) (EvOk.const (a := .bool true) rfl) (convert ht hl)) rfl rfl (by decide) rfl) ?_)
  rw [← all_eq]
  refine BodyOk.ret (ExOk.ret (EvOk.comp (src := .lst k) (p := kvP (Txt.lower x)) (f := kvF) (compS (by rfl)) (IterOk.list (r := .v (.obj k)) (EvOk.attr (EvOk.name (X := .obj j) rfl rfl rfl rfl) hd.hj (fun env x => by rfl)) rfl hd.hk) hd.src (by rw [List.length_map]; exact hE) (fun _ _ => rfl) ?_ ?_))
  · intro X hX
    obtain ⟨e, he, rfl⟩ := List.mem_map.mp hX
    have hze := hs e he
    exact TrOk.cmp (EvOk.methB (r0 := .at (.str e.1)) (id := "str.lower") (fun env => by rfl) rfl (EvOk.sub (r := .v (.it (ent e))) (X := .str e.1) (EvOk.name (X := .it (ent e)) rfl rfl rfl rfl) (EvOk.const (a := .int 0) rfl) rfl) (MbOk.str fun M A s pl Q E t h => GM.lower h) EvsOk.nil (BiOk.atoms (ats := [.str e.1]) (r := .str (Txt.lower e.1)) rfl (by simp [strM, hze]))) (EvOk.name (X := .str (Txt.lower x)) rfl rfl rfl rfl) rfl rfl
  · intro X hX _
    obtain ⟨e, he, rfl⟩ := List.mem_map.mp hX
    exact EvOk.sub (r := .v (.it (ent e))) (X := .str e.2) (EvOk.name (X := .it (ent e)) rfl rfl rfl rfl) (EvOk.const (a := .int 1) rfl) rfl
theorem sliceL_plain {β : Type} (l : List β) (lo hi : Option Int) : sliceL l lo hi = (l.drop (lo.elim 0 (clipAt l.length))).take (hi.elim l.length (clipAt l.length) - lo.elim 0 (clipAt l.length)) := by
  unfold sliceL
  rw [sliceBounds_plain]
  simp only [sliceRange_one]
  have := pick_run l.toArray (lo.elim 0 (clipAt l.length)) (hi.elim l.length (clipAt l.length) - lo.elim 0 (clipAt l.length))
  simpa using this
theorem sliceL_all {β : Type} (l : List β) : sliceL l none none = l := by
  rw [sliceL_plain]; simp
theorem hdr_items {n j k : Nat} {E : List Ent} {σ : List Ob} (hd : HdAt σ j k E) (hE : E.length ≤ sizeLine) : FnOk (n + 1) 139 [.obj j] [] σ (.new (E.map ent)) σ := by
  refine fn_okB at139 (bind139 _) (show (["self"] : List Str).Nodup from by decide) (by rfl) (BodyOk.ret (ExOk.ret (EvOk.cut (r := .v (.obj k)) (EvOk.attr (EvOk.name (X := .obj j) rfl rfl rfl rfl) hd.hj (fun env x => by rfl)) PartOk.none PartOk.none ?_)))
  show cutI σ (.v (.obj k)) none none = _
  unfold cutI seqOf
  simp only [hd.hk]
  rw [if_pos (by rw [List.length_map]; exact hE), sliceL_all]
noncomputable def getS (E : List Ent) (x : Str) : Option Str := (E.find? fun e => Txt.lower e.1 == x).map (·.2)
theorem getE_getS (E : List Ent) (x : Str) : getE E x = .at (match getS E x with | some v => .str v | none => .none) := by
  unfold getE getS
  induction E with
  | nil => rfl
  | cons e E ih =>
    rw [List.findSome?_cons, List.find?_cons, show hitE x e = if (Txt.lower e.1 == x) = true then some (.at (.str e.2)) else none from rfl]
    cases (Txt.lower e.1 == x)
    · exact ih
    · rfl
theorem hdr_setdefault {n j k : Nat} {E : List Ent} {x v : Str} {σ : List Ob} (hn : 4 ≤ n) (hd : HdAt σ j k E) (hs : smallE E) (hE : E.length ≤ sizeLine) (hz : x.length ≤ 5592405) (hx : txtOk x = true) (ht : txtOk (Txt.lower x) = true) (hl : (Txt.lower x).length ≤ sizeLine) (hv : txtOk v = true) (hvz : v.length ≤ sizeLine) :
    FnOk (n + 3) 165 [.obj j, .str x, .str v] [] σ (.at (.str ((getS E (Txt.lower x)).getD v))) (if (getS E (Txt.lower x)).isSome then σ else σ.set k (.list ((E ++ [(x, v)]).map ent))) := by
  refine fn_okB at165 (bind165 _ _ _) (show nd3 "self" "name" "value" from by decide) (by rfl) (BodyOk.cons (ρ₁ := setL [("self", .obj j), ("name", .str x), ("value", .str v)] "result" (.it (.at (match getS E (Txt.lower x) with | some v => .str v | none => .none)))) (σ₁ := σ) (ExOk.assign (r := .at (match getS E (Txt.lower x) with | some v => .str v | none => .none)) (EvOk.methU hm122 (fun env => by rfl) rfl (EvOk.name (X := .obj j) rfl rfl rfl rfl) hd.hj
    (EvsOk.cons rfl (EvOk.name (X := .str x) rfl rfl rfl rfl) EvsOk.nil) (getE_getS E _ ▸ hdr_get hn hd hs hz ht hl)) rfl rfl (by decide) rfl) ?_)
  have hxz : x.length ≤ sizeLine := by have : (5592405 : Nat) ≤ sizeLine := by decide
                                       omega
  cases hg : getS E (Txt.lower x) with
  | some r =>
    exact BodyOk.ifF (TrOk.cmp (EvOk.name (X := .str r) rfl rfl rfl rfl) (EvOk.const (a := .none) rfl) rfl rfl) (ExsOk.ret (ExOk.ret (EvOk.name (X := .str r) rfl rfl rfl rfl)))
  | none =>
    refine BodyOk.ifT (TrOk.cmp (EvOk.name (X := .none) rfl rfl rfl rfl) (EvOk.const (a := .none) rfl) rfl rfl) (ExsOk.cons (ExOk.expr (r := .at .none) (EvOk.methB (r0 := .v (.obj k)) (id := "list.append") (fun env => by rfl) rfl (EvOk.attr (EvOk.name (X := .obj j) rfl rfl rfl rfl) hd.hj (fun env x => by rfl)) (MbOk.append hd.objL) (EvsOk.cons (σ₁ := σ) (r := .v (.it (ent (x, v)))) rfl ?_ EvsOk.nil) ?_) rfl) (ExsOk.ret (ExOk.ret (EvOk.name (X := .str v) rfl rfl rfl rfl))))
    · refine EvOk.tuple (Vs := [.str x, .str v]) (EvsOk.cons (σ₁ := σ) (r := .at (.str x)) rfl ?_ (EvsOk.cons (σ₁ := σ) (r := .at (.str v)) rfl ?_ EvsOk.nil)) rfl (by show 2 ≤ sizeLine; decide)
      · exact EvOk.methK hm76 (fun env => by rfl) rfl (EvOk.name (X := .obj j) rfl rfl rfl rfl) hd.hj (EvsOk.cons (r := .at (.str x)) rfl (EvOk.name (X := .str x) rfl rfl rfl rfl) EvsOk.nil) (EvOk.const (a := .bool true) rfl) (convert hx hxz)
      · exact EvOk.methK hm76 (fun env => by rfl) rfl (EvOk.name (X := .obj j) rfl rfl rfl rfl) hd.hj (EvsOk.cons (r := .at (.str v)) rfl (EvOk.name (X := .str v) rfl rfl rfl rfl) EvsOk.nil) (EvOk.const (a := .bool false) rfl) (convert hv hvz)
    · have := BiOk.append (n := n + 2) (x := ent (x, v)) hd.objL (by rw [List.length_map]; exact hE)
      rw [show (E ++ [(x, v)]).map ent = E.map ent ++ [ent (x, v)] from by simp]
      exact this
theorem hdr_init {n j : Nat} {σ : List Ob} (hj : σ[j]? = some (.hdr none)) : FnOk (n + 1) 69 [.obj j] [] σ (.at .none) ((σ ++ [Ob.list []]).set j (.hdr (some (.obj σ.length)))) := by
  have hj' : (σ ++ [Ob.list []])[j]? = some (.hdr none) := by
    rw [List.getElem?_append_left (List.getElem?_eq_some_iff.mp hj).1]; exact hj
  have hlt := (List.getElem?_eq_some_iff.mp hj).1
  refine fn_okB at69 (bind69 _) (show nd2 "self" "headers" from by decide) (by rfl) (BodyOk.cons (ρ₁ := setL [("self", .obj j), ("headers", .none)] "headers" (.obj σ.length)) (σ₁ := σ ++ [.list []]) (ExOk.assign (r := .new []) (EvOk.ifexp (c := false) (σ₂ := σ) (TrOk.cmp (EvOk.name (X := .none) rfl rfl rfl rfl) (EvOk.const (a := .none) rfl) rfl rfl) (EvOk.list (Vs := []) EvsOk.nil rfl (by decide))) rfl rfl (by decide) rfl) ?_)
  refine BodyOk.skip (σ₁ := σ ++ [.list []]) (TrOk.cmp (EvOk.type (r := .v (.obj σ.length)) (T := "list") rfl rfl (EvOk.name (X := .obj σ.length) rfl rfl rfl rfl) (by show (objL (σ ++ [Ob.list []]) σ.length).map _ = _; rw [objL_last]; rfl)) (EvOk.glob (a := .ty "list") rfl (by kernel_rfl) rfl) rfl rfl) ?_
  refine BodyOk.cons (ExOk.setattr (k := σ.length) rfl (EvOk.name (X := .obj σ.length) rfl rfl rfl rfl) (EvOk.name (X := .obj j) rfl rfl rfl rfl) hj') ?_
  have hl : ((σ ++ [Ob.list []]).set j (.hdr (some (.obj σ.length))))[σ.length]? = some (.list []) := by
    rw [List.getElem?_set_ne (by omega), List.getElem?_append_right (Nat.le_refl _)]; simp
  refine BodyOk.cons (ExOk.ifT (TrOk.val rfl (EvOk.const (a := .bool true) rfl) rfl) (ExsOk.cons (ExOk.for (src := .lst σ.length) (k := 0) (IterOk.list (r := .v (.obj σ.length)) (EvOk.name (X := .obj σ.length) rfl rfl rfl rfl) rfl hl) (LoopD.done (L := []) (by show srcL ((σ ++ [Ob.list []]).set j (.hdr (some (.obj σ.length)))) (.lst σ.length) = _; unfold srcL; dsimp only; rw [hl]; rfl) (by simp)) (fun _ _ => rfl)) ExsOk.nil)) BodyOk.nil
theorem make_hdr {n : Nat} {nm : Nm} {ρ : Rho} {σ : List Ob} {np pos : Pos} (hk : nm.lookup ("Headers" : Str) = some .globalImplicit) :
    EvOk (n + 2) nm ρ σ (.Call (.Name "Headers" np) [] [] pos) (.v (.obj σ.length)) (σ ++ [Ob.hdr (some (.obj (σ.length + 1))), .list []]) := by
  have h := hdr_init (n := n) (j := σ.length) (σ := σ ++ [Ob.hdr none]) (by rw [List.getElem?_append_right (Nat.le_refl _)]; simp)
  have e : ((σ ++ [Ob.hdr none]) ++ [Ob.list []]).set σ.length (.hdr (some (.obj (σ ++ [Ob.hdr none]).length))) = σ ++ [Ob.hdr (some (.obj (σ.length + 1))), .list []] := by
    rw [List.append_assoc, List.set_append_right _ _ (Nat.le_refl _)]; simp
  rw [e] at h
  exact EvOk.make hk h
end Mine
end
section
/-! ## text P5 -/
open PySem.Builtin PySem.Builtin.Str
set_option maxRecDepth 100000
set_option maxHeartbeats 400000
namespace Mine
/-! add_header -/
theorem nodAt {prog : Program} {w : World} {h : Heap} {a : Nat} (g : h.get? a = some emptyDict) : h.DictAt (strKind prog w) a [] 0 :=
  ⟨_, #[], g, ⟨rfl, rfl, rfl⟩, rfl, fun e he => by simp at he, .nil, .nil⟩
theorem FW.butF {B : Heap} {nm : Nm} {α : Al} {ρ : Rho} {env : Env} {h h' : Heap} {I : Nat} {o : Obj} {fs : Array Value} (F : FW B nm α ρ env h) (e : h.get? I = some o) (d : o.data = .fields fs) (hs : Heap.ExtBut I h h') (hB : ∀ (b : Nat) o, B.get? b = some o → h'.get? b = some o) : FW B nm α ρ env h' := by
  have hW : ¬ ownW env I := fun q => by
    obtain ⟨o', e', _, k⟩ := F.ownData q
    rw [e] at e'; cases e'
    exact k _ d
  have hq := fields_noseq d e
  obtain ⟨m, hF, hm⟩ := F.fr
  have cne : ∀ c v, h.IsCell c v → c ≠ I := by
    rintro c v ⟨o', e', d'⟩ rfl
    rw [e] at e'; cases e'; rw [d] at d'; cases d'
  have L : env.locals ≠ I := fun z => hW (.inl z.symm)
  refine ⟨⟨F.fkind, F.glob, F.blt, F.kinds, ⟨m, ⟨hF.ns.extBut hs L, hB, hF.above⟩, fun x X h1 h2 => ?_⟩, fun x X h1 h2 => ?_, F.off, F.nods⟩, fun x hx => ?_, F.cap⟩
  · obtain ⟨v, e1, r⟩ := hm x X h1 h2
    exact ⟨v, e1, r.but hs hq fun z => nod_ne (z ▸ r) e d rfl⟩
  · obtain ⟨c, v, e1, ⟨o', e', d'⟩, r⟩ := F.cells x X h1 h2
    exact ⟨c, v, e1, ⟨o', hs c o' (cne c _ ⟨o', e', d'⟩) e', d'⟩, r.but hs hq fun z => nod_ne (z ▸ r) e d rfl⟩
  · obtain ⟨c, v, e1, ⟨o', e', d'⟩, b⟩ := F.cellOk x hx
    exact ⟨c, v, e1, ⟨o', hs c o' (cne c _ ⟨o', e', d'⟩) e', d'⟩, b⟩
theorem ExOk.noItems {n : Nat} {nm : Nm} {ρ : Rho} {σ : List Ob} {x k v : Str} {px pk pv pt apos cpos pos : Pos} {t a : Nat} {body : List Stmt} (hx : nm.lookup x = some .local) (hr : ρ.lookup x = some (.nod a)) (hd : (x == ("__debug__" : Str)) = false) (hd' : (x == ("__classdict__" : Str)) = false) (ha : 282 ≤ a)
    (hline : (apos.endLine == cpos.line) = true) :
    ExOk n nm ρ σ (.For (.Tuple [.Name k pk, .Name v pv] t pt) (.Call (.Attribute (.Name x px) "items" apos) [] [] cpos) body [] pos) .go ρ σ := by
  intro w A B α env s Q E bs rm F R hq
  have hk : env.kindOf x = some .local := by
    rcases F.kinds x _ hx with e | ⟨e, _⟩
    · exact e
    · cases e
  have key : ∃ v, VIs α s.heap v (.nod a) := by
    obtain ⟨m, hF, hm⟩ := F.fr
    obtain ⟨v, _, r⟩ := hm x _ hr hk
    exact ⟨v, r⟩
  obtain ⟨v0, e0, nx, g⟩ := key
  have hm := nodAt (prog := PW) (w := w) g
  have hs : (a == sysModules) = false := by
    show (a == 1) = false
    rw [beq_eq_false_iff_ne]; omega
  refine wpAny_For (wpAny_Call_items (kvs := []) hs hm.dictOf rfl hline (fun Q' hQ' => ev_name F.toFR (by rw [hx]; rfl) hr hd hd' fun v hv => by
    obtain ⟨e, _⟩ := hv; rw [e]; exact hQ') ?_) (fun _ => rfl)
  have hlt := Heap.lt_size g
  have g1 : (s.heap.push { cls := .type "dict_items", data := .fields #[.ref a] }).get? a = some emptyDict := Heap.get?_push_of_some _ g
  refine wpAny_pyIter_items (knd := strKind PW w) (kvs := []) (ep := 0) ⟨_, Heap.get?_push_size _ rfl, rfl, rfl⟩ (nodAt g1) ?_
  have n0 : s.heap.get? (s.heap.push { cls := .type "dict_items", data := .fields #[.ref a] }).objs.size = none := Heap.get?_none_of_le (by rw [Heap.size_push]; exact Nat.le_succ _)
  generalize hI : (s.heap.push { cls := .type "dict_items", data := .fields #[.ref a] }).objs.size = I at n0
  have kp : ∀ (b : Nat) o, s.heap.get? b = some o → ((s.heap.push { cls := .type "dict_items", data := .fields #[.ref a] }).push { cls := .type "dict_itemiterator", data := .fields #[.none, .bool false, .ref a, .int 0 0, .int 0 0, .int 0 0, .none, .none] }).get? b = some o := fun b o e => Heap.get?_push_of_some _ (Heap.get?_push_of_some _ e)
  have gI : ((s.heap.push { cls := .type "dict_items", data := .fields #[.ref a] }).push { cls := .type "dict_itemiterator", data := .fields #[.none, .bool false, .ref a, .int 0 0, .int 0 0, .int 0 0, .none, .none] }).get? I = some { cls := .type "dict_itemiterator", data := .fields #[.none, .bool false, .ref a, .int 0 0, .int 0 0, .int 0 0, .none, .none] } := by
    rw [← hI]; exact Heap.get?_push_size _ rfl
  have p1 : Post w.params B noW α s α σ { s with heap := (s.heap.push { cls := .type "dict_items", data := .fields #[.ref a] }).push { cls := .type "dict_itemiterator", data := .fields #[.none, .bool false, .ref a, .int 0 0, .int 0 0, .int 0 0, .none, .none] }, toks := s.toks } := Post.ofKeeps R kp
  have F1 := F.post R p1
  have nI : ¬ InX α I := fun q => by
    obtain ⟨o, e, _⟩ := R.inX_some q
    rw [n0] at e; cases e
  refine codeAny_forLoop_any (fun m s' => s' = { s with heap := (s.heap.push { cls := .type "dict_items", data := .fields #[.ref a] }).push { cls := .type "dict_itemiterator", data := .fields #[.none, .bool false, .ref a, .int 0 0, .int 0 0, .int 0 0, .none, .none] }, toks := s.toks }) ?_ 0 rfl
  rintro m s' rfl
  refine wpAny_pyNext_items_end (knd := strKind PW w) (kvs := []) (i := 0) rm.hh gI (nodAt (kp _ _ g)) rfl fun h' hx' => wpAny_execs_nil ?_
  have hno := fields_noseq (o := { cls := .type "dict_itemiterator", data := .fields #[.none, .bool false, .ref a, .int 0 0, .int 0 0, .int 0 0, .none, .none] }) rfl gI
  have p2 := p1.own.but (W := ownW env) (tk := s.toks) hx' n0 nI (R.noneB n0) hno
  exact hq _ α _ p2 (F1.butF gI rfl hx' p2.rel.base) rfl
end Mine
end
section
/-! ## text P6 -/
open PySem.Builtin PySem.Builtin.Str
set_option maxRecDepth 100000
set_option maxHeartbeats 400000
namespace Mine
theorem bind172 (a0 a1 a2 : V) : BindOkI fd172 [a0, a1, a2] [] (fun i : { a : Nat // 282 ≤ a } => [("self", a0), ("_name", a1), ("_value", a2), ("_params", V.nod i.1)]) := by
  intro w A B α σ s Q E vals kvs bs R hv hk hq
  match vals, kvs, hv, hk with
  | [u, v, z], [], .cons h1 (.cons h2 (.cons h3 .nil)), .nil =>
    have e : bindArgs fd172 ⟨[u, v, z], []⟩ = (newDict >>= fun d => pure ([("self", u), ("_name", v), ("_value", z), ("_params", d)] : List (Str × Value)) : Sem _) := by kernel_rfl
    rw [e]
    have hlt : 282 ≤ s.heap.objs.size := bs.size ▸ R.sizeB bs
    have p1 : Post w.params B noW α s α σ { s with heap := s.heap.push emptyDict, toks := s.toks } := Post.push R _
    refine wpAny_bind ?_
    show wpAny (Mo w) A (newObj (.type "dict") (.dict #[])) _ E s
    refine wpAny_newObj_type (wpAny_pure (hq _ _ ⟨s.heap.objs.size, hlt⟩ p1 (.cons ⟨rfl, p1.vis0 h1⟩ (.cons ⟨rfl, p1.vis0 h2⟩ (.cons ⟨rfl, p1.vis0 h3⟩ (.cons ⟨rfl, rfl, new_notX R, Heap.get?_push_size _ rfl⟩ .nil))))))
theorem HdAt.app {σ m : List Ob} {j k : Nat} {E : List Ent} (h : HdAt σ j k E) : HdAt (σ ++ m) j k E :=
  ⟨by rw [List.getElem?_append_left (List.getElem?_eq_some_iff.mp h.hj).1]; exact h.hj, by rw [List.getElem?_append_left (List.getElem?_eq_some_iff.mp h.hk).1]; exact h.hk⟩
theorem clIt_ent (k : Nat) (e : Ent) : clIt k (ent e) = true := rfl
theorem Cl.setE {σ : List Ob} {k : Nat} {E : List Ent} (h : Cl σ) : Cl (σ.set k (.list (E.map ent))) := by
  unfold Cl at h ⊢
  rw [List.length_set, List.all_eq_true]
  intro ob hob
  rcases List.mem_or_eq_of_mem_set hob with hm | rfl
  · exact List.all_eq_true.mp h ob hm
  · show (E.map ent).all _ = true
    rw [List.all_eq_true]
    intro x hx
    obtain ⟨e, _, rfl⟩ := List.mem_map.mp hx
    rfl
theorem join1 (v : Str) (h : v.length ≤ 1000) : JoinOk "; " [v] = true ∧ Txt.join "; " [v] = v := by
  refine ⟨joinOk_of ?_, rfl⟩
  show (([v] : List Str).map (·.length)).sum + 1 * 2 ≤ 16777216
  simp only [List.map_cons, List.map_nil, List.sum_cons, List.sum_nil]
  omega
theorem hdr_add {n j k : Nat} {E : List Ent} {x v : Str} {σ : List Ob} (hc : Cl σ) (hd : HdAt σ j k E) (hE : E.length ≤ sizeLine) (hx : txtOk x = true) (hxz : x.length ≤ sizeLine) (hv : txtOk v = true) (hvz : v.length ≤ 1000) :
    FnOk (n + 2) 172 [.obj j, .str x, .str v] [] σ (.at .none) (σ.set k (.list ((E ++ [(x, v)]).map ent))) := by
  have hvz' : v.length ≤ sizeLine := by have : (1000 : Nat) ≤ sizeLine := by decide
                                        omega
  refine FnOk.drop (junk := [Ob.list [.at (.str v)]]) ?_ (by rw [List.length_set]) (by have := hc.setE (k := k) (E := E ++ [(x, v)]); unfold Cl at this; rwa [List.length_set] at this) rfl
  refine fn_okI at172 (bind172 _ _ _) (fun _ => show ([ "self", "_name", "_value", "_params"] : List Str).Nodup from by decide) (fun _ => by rfl) fun i => ?_
  show BodyOk (n + 1) _ _ _ _ _ _
  obtain ⟨a, ha⟩ := i
  refine BodyOk.cons (ρ₁ := setL [("self", .obj j), ("_name", .str x), ("_value", .str v), ("_params", .nod a)] "parts" (.obj σ.length)) (σ₁ := σ ++ [Ob.list []]) (ExOk.assign (r := .new []) (EvOk.list (Vs := []) EvsOk.nil rfl (by decide)) rfl rfl (by decide) rfl) ?_
  have hd1 : HdAt (σ ++ [Ob.list []]) j k E := hd.app
  have hd2 : HdAt (σ ++ [Ob.list [.at (.str v)]]) j k E := hd.app
  have es : (σ ++ [Ob.list []]).set σ.length (.list ([] ++ [.at (.str v)])) = σ ++ [Ob.list [.at (.str v)]] := by
    rw [List.set_append_right _ _ (Nat.le_refl _)]; simp
  have hap := BiOk.append (n := n + 1) (x := .at (.str v)) (objL_last σ []) (by decide)
  rw [es] at hap
  refine BodyOk.cons (σ₁ := σ ++ [Ob.list [.at (.str v)]]) (ρ₁ := setL (setL [("self", .obj j), ("_name", .str x), ("_value", .str v), ("_params", .nod a)] "parts" (.obj σ.length)) "_value" (.str v)) (ExOk.ifT (TrOk.cmp (EvOk.name (X := .str v) rfl rfl rfl rfl) (EvOk.const (a := .none) rfl) rfl rfl) (ExsOk.cons (ExOk.assign (r := .at (.str v)) (EvOk.methK hm76 (fun env => by rfl) rfl (EvOk.name (X := .obj j) rfl rfl rfl rfl) hd1.hj (EvsOk.cons (r := .at (.str v)) rfl (EvOk.name (X := .str v) rfl rfl rfl rfl) EvsOk.nil) (EvOk.const (a := .bool false) rfl) (convert hv hvz')) rfl rfl (by decide) rfl)
    (ExsOk.cons (ExOk.expr (r := .at .none) (EvOk.methB (r0 := .v (.obj σ.length)) (id := "list.append") (fun env => by rfl) rfl (EvOk.name (X := .obj σ.length) rfl rfl rfl rfl) (MbOk.append (objL_last σ [])) (EvsOk.cons (r := .at (.str v)) rfl (EvOk.name (X := .str v) rfl rfl rfl rfl) EvsOk.nil) hap) rfl) ExsOk.nil))) ?_
  refine BodyOk.cons (ExOk.noItems (a := a) rfl rfl rfl rfl ha rfl) ?_
  obtain ⟨j1, j2⟩ := join1 v hvz
  refine BodyOk.cons (ρ₁ := setL (setL [("self", .obj j), ("_name", .str x), ("_value", .str v), ("_params", .nod a)] "parts" (.obj σ.length)) "_value" (.str v)) (σ₁ := σ.set k (.list ((E ++ [(x, v)]).map ent)) ++ [Ob.list [.at (.str v)]]) (ExOk.expr (r := .at .none) (EvOk.methB (r0 := .v (.obj k)) (id := "list.append") (fun env => by rfl) rfl (EvOk.attr (EvOk.name (X := .obj j) rfl rfl rfl rfl) hd2.hj (fun env x => by rfl)) (MbOk.append hd2.objL) (EvsOk.cons (σ₁ := σ ++ [Ob.list [.at (.str v)]]) (r := .v (.it (ent (x, v)))) rfl ?_ EvsOk.nil) ?_) rfl) BodyOk.nil
  · refine EvOk.tuple (Vs := [.str x, .str v]) (EvsOk.cons (σ₁ := σ ++ [Ob.list [.at (.str v)]]) (r := .at (.str x)) rfl ?_ (EvsOk.cons (σ₁ := σ ++ [Ob.list [.at (.str v)]]) (r := .at (.str v)) rfl ?_ EvsOk.nil)) rfl (by show 2 ≤ sizeLine; decide)
    · exact EvOk.methK hm76 (fun env => by rfl) rfl (EvOk.name (X := .obj j) rfl rfl rfl rfl) hd2.hj (EvsOk.cons (r := .at (.str x)) rfl (EvOk.name (X := .str x) rfl rfl rfl rfl) EvsOk.nil) (EvOk.const (a := .bool true) rfl) (convert hx hxz)
    · have hj := BiOk.join (n := n + 1) (x := "; ") (objL_last σ [.at (.str v)]) (ys := [v]) rfl j1
      rw [j2] at hj
      exact EvOk.methB (r0 := .at (.str "; ")) (id := "str.join") (fun env => by rfl) rfl (EvOk.const (a := .str "; ") rfl) (MbOk.str fun M A s pl Q E t h => GM.join h) (EvsOk.cons (r := .v (.obj σ.length)) rfl (EvOk.name (X := .obj σ.length) rfl rfl rfl rfl) EvsOk.nil) hj
  · have := BiOk.append (n := n + 1) (x := ent (x, v)) hd2.objL (by rw [List.length_map]; exact hE)
    rw [show (E ++ [(x, v)]).map ent = E.map ent ++ [ent (x, v)] from by simp, ← List.set_append_left _ _ (List.getElem?_eq_some_iff.mp hd.hk).1]
    exact this
end Mine
end
section
/-! ## text S1 -/
open PySem.Builtin PySem.Builtin.Str PySem.StrLaws
set_option maxRecDepth 100000
set_option maxHeartbeats 400000
namespace Mine
/-! text searches, by places -/
theorem at1 (x : Str) (c hi i : Nat) : StrLaws.At x ⟨#[c]⟩ hi i ↔ i < hi ∧ x.cps.toList[i]? = some c := by
  unfold StrLaws.At
  rw [subAt_eq]
  show (i + 1 ≤ hi ∧ ((x.cps.toList.drop i).take 1 == [c]) = true) ↔ _
  rw [take1_drop]
  exact ⟨fun ⟨a, b⟩ => ⟨by omega, b⟩, fun ⟨a, b⟩ => ⟨by omega, b⟩⟩
theorem head_of {l : List Nat} {a : Nat} (h : l[0]? = some a) : ∃ r, l = a :: r := by
  cases l with
  | nil => cases h
  | cons b r => simp at h; exact ⟨r, by rw [h]⟩
theorem occ_at (x y : Str) (lo hi limit : Nat) (hl : 1 ≤ limit) :
    (occurrences x y lo hi limit = [] ∧ ∀ i, lo ≤ i → ¬ StrLaws.At x y hi i) ∨ ∃ i r, occurrences x y lo hi limit = i :: r ∧ lo ≤ i ∧ StrLaws.At x y hi i ∧ ∀ k, lo ≤ k → k < i → ¬ StrLaws.At x y hi k := by
  rw [occ_eq]
  rcases occ_first x y hi limit hl (List.range' lo (hi + 1 - lo)) lo (fun i h => (List.mem_range'_1.mp h).1) with ⟨h0, hn⟩ | ⟨pre, a, post, e, h0, ha, hn⟩
  · refine .inl ⟨by rw [h0], fun i hi' hA => hn i (List.mem_range'_1.mpr ⟨hi', ?_⟩) hA⟩
    have := hA.1; omega
  · obtain ⟨h1, h2⟩ := range'_split_from e
    obtain ⟨r, hr⟩ := head_of (l := (forIn (List.range' lo (hi + 1 - lo)) ((#[] : Array Nat), lo) (occBody x y hi limit)).run.fst.toList) (a := a) (by simpa using h0)
    exact .inr ⟨a, r, hr, h1, ha, fun k hk hka => hn k (h2 k hk hka)⟩
theorem find4_at {x : Str} {c k : Nat} {i j : Int} (h1 : fromIndex x.length i ≤ k) (h2 : k < min (fromIndex x.length j) x.length) (h3 : x.cps.toList[k]? = some c) (h4 : ∀ m, fromIndex x.length i ≤ m → m < k → x.cps.toList[m]? ≠ some c) : find4 x ⟨#[c]⟩ i j = k := by
  unfold find4
  rcases occ_at x ⟨#[c]⟩ (fromIndex x.length i) (min (fromIndex x.length j) x.length) 1 (Nat.le_refl _) with ⟨e, hn⟩ | ⟨a, r, e, ha, hA, hm⟩
  · exact absurd ((at1 x c _ k).mpr ⟨h2, h3⟩) (hn k h1)
  · rw [e]
    have hA' := (at1 x c _ a).mp hA
    have : a = k := by
      rcases Nat.lt_trichotomy a k with h | h | h
      · exact absurd hA'.2 (h4 a ha h)
      · exact h
      · exact absurd ((at1 x c _ k).mpr ⟨h2, h3⟩) (hm k h1 h)
    subst this; rfl
theorem find4_no {x : Str} {c : Nat} {i j : Int} (h : ∀ m, fromIndex x.length i ≤ m → m < min (fromIndex x.length j) x.length → x.cps.toList[m]? ≠ some c) : find4 x ⟨#[c]⟩ i j = -1 := by
  unfold find4
  rcases occ_at x ⟨#[c]⟩ (fromIndex x.length i) (min (fromIndex x.length j) x.length) 1 (Nat.le_refl _) with ⟨e, hn⟩ | ⟨a, r, e, ha, hA, hm⟩
  · rw [e]
  · have hA' := (at1 x c _ a).mp hA
    exact absurd hA'.2 (h a ha hA'.1)
theorem find_no {x : Str} {c : Nat} (h : c ∉ x.cps.toList) : Txt.find x ⟨#[c]⟩ = -1 := by
  unfold Txt.find
  rcases occ_at x ⟨#[c]⟩ 0 x.length 1 (Nat.le_refl _) with ⟨e, hn⟩ | ⟨a, r, e, ha, hA, hm⟩
  · rw [e]
  · have hA' := (at1 x c _ a).mp hA
    exact absurd (List.mem_of_getElem? hA'.2) h
theorem last_at (x y : Str) (lo hi : Nat) : (lastOccurrence x y lo hi = none ∧ ∀ i, lo ≤ i → ¬ StrLaws.At x y hi i) ∨ ∃ i, lastOccurrence x y lo hi = some i ∧ StrLaws.At x y hi i ∧ ∀ k, lo ≤ k → i < k → ¬ StrLaws.At x y hi k := by
  rw [last_eq]
  have key := last_run x y hi (List.range' lo (hi + 1 - lo)) [] none (fun _ h => nomatch h) (fun _ h => nomatch h) (by simpa using List.pairwise_lt_range' (s := lo) (n := hi + 1 - lo))
  have mem : ∀ i, lo ≤ i → StrLaws.At x y hi i → i ∈ [] ++ List.range' lo (hi + 1 - lo) := fun i h1 h2 => by
    have := h2.1
    rw [List.nil_append]
    exact List.mem_range'_1.mpr ⟨h1, by omega⟩
  revert key
  cases (forIn (List.range' lo (hi + 1 - lo)) none (lastBody x y hi)).run with
  | none => intro key; exact .inl ⟨rfl, fun i h1 h2 => key i (mem i h1 h2) h2⟩
  | some a => intro key; exact .inr ⟨a, rfl, key.1, fun k h1 h2 h3 => key.2 k (mem k h1 h3) h2 h3⟩
theorem rfind4_at {x : Str} {c k : Nat} {i j : Int} (h1 : fromIndex x.length i ≤ k) (h2 : k < min (fromIndex x.length j) x.length) (h3 : x.cps.toList[k]? = some c) (h4 : ∀ m, k < m → m < min (fromIndex x.length j) x.length → x.cps.toList[m]? ≠ some c) : rfind4 x ⟨#[c]⟩ i j = k := by
  unfold rfind4
  rcases last_at x ⟨#[c]⟩ (fromIndex x.length i) (min (fromIndex x.length j) x.length) with ⟨e, hn⟩ | ⟨a, e, hA, hm⟩
  · exact absurd ((at1 x c _ k).mpr ⟨h2, h3⟩) (hn k h1)
  · rw [e]
    have hA' := (at1 x c _ a).mp hA
    have : a = k := by
      rcases Nat.lt_trichotomy a k with h | h | h
      · exact absurd ((at1 x c _ k).mpr ⟨h2, h3⟩) (hm k h1 h)
      · exact h
      · exact absurd hA'.2 (h4 a h hA'.1)
    subst this; rfl
theorem fromIndex_nat (n k : Nat) : fromIndex n (k : Int) = k := by
  unfold fromIndex
  rw [if_neg (by omega)]
  omega
end Mine
end
section
/-! ## text S3 -/
open PySem.Builtin PySem.Builtin.Str PySem.StrLaws
set_option maxRecDepth 100000
set_option maxHeartbeats 400000
namespace Mine
theorem swapped2 {env : Env} {x y : Str} {px py tp vp : Pos} {k k' : Nat} {e1 e2 : Expr} (hk : env.scope.kind = .function) (hx : env.kindOf x = some .local) (hy : env.kindOf y = some .local) (hl : (py.line == px.line) = true) (hxy : (y == x) = false)
    (h1 : plainE e1 = true) (h2 : plainE e2 = true) (hf : ([e1, e2].all (foldedForSure 8)) = false) (hc : ([e1, e2].all (constantsAlone 8)) = false) :
    swappedStores [.Tuple [.Name x px, .Name y py] k tp] (.Tuple [e1, e2] k' vp) env = pure (some [x, y]) := by
  have hb : env.blockKind = .function := by unfold Env.blockKind; rw [hk]; rfl
  have c1 : (!([Expr.Name x px, Expr.Name y py].length == 2 || [Expr.Name x px, Expr.Name y py].length == 3) || [e1, e2].length != [Expr.Name x px, Expr.Name y py].length || env.blockKind != .function) = false := by rw [hb]; rfl
  have c2 : ([e1, e2].any fun | .Starred .. => true | _ => false) = false := by
    cases e1 <;> first | (cases h1; done) | (cases e2 <;> first | (cases h2; done) | rfl)
  have c4 : ([x, y].length != [Expr.Name x px, Expr.Name y py].length || [x, y].eraseDups.length != [x, y].length) = false := by
    have : [x, y].eraseDups = [x, y] := by simp [List.eraseDups_cons, hxy]
    rw [this]; rfl
  unfold swappedStores
  dsimp only
  rw [c1, if_neg (by decide)]
  show (if ([e1, e2].any fun | .Starred .. => true | _ => false) = true then _ else _) = _
  rw [c2, if_neg (by decide)]
  generalize hg : List.filterMap _ [Expr.Name x px, Expr.Name y py] = L
  have hL : L = [x, y] := by
    rw [← hg, List.filterMap_cons_some (b := x), List.filterMap_cons_some (b := y), List.filterMap_nil]
    · show (if (env.kindOf y == some .local && py.line == px.line) = true then some y else none) = some y
      rw [hy, hl]; rfl
    · show (if (env.kindOf x == some .local && px.line == px.line) = true then some x else none) = some x
      simp [hx]
  subst hL
  rw [c4, if_neg (by decide), hf, if_neg (by decide), hc, if_neg (by decide)]
end Mine
end
section
/-! ## text S2 -/
open PySem.Builtin PySem.Builtin.Str PySem.StrLaws
set_option maxRecDepth 100000
set_option maxHeartbeats 400000
namespace Mine
noncomputable abbrev codes (x : Str) : List Nat := x.cps.toList
theorem len_codes (x : Str) : x.length = (codes x).length := by simp [Str.length]
theorem slice_nat {x : Str} {a b : Nat} (hab : a ≤ b) (hb : b ≤ x.length) : Txt.slice x (some (a : Int)) (some (b : Int)) = ⟨(((codes x).drop a).take (b - a)).toArray⟩ := sliceText_nat x hab hb
structure RowL (x : Str) (A C : List Nat) : Prop where
  eq : codes x = A ++ (46 :: 98 :: 121 :: 46 :: (C ++ [58, 32, 66, 121, 32, 49, 46, 53]))
  a : ∀ c ∈ A, 97 ≤ c ∧ c ≤ 101
  c : ∀ c ∈ C, 97 ≤ c ∧ c ≤ 101
theorem RowL.len {x : Str} {A C : List Nat} (h : RowL x A C) : x.length = A.length + 4 + C.length + 8 := by
  rw [len_codes, h.eq]; simp; omega
theorem RowL.nl {x : Str} {A C : List Nat} (h : RowL x A C) : Txt.find x "\n" = -1 := by
  refine find_no (c := 10) ?_
  show 10 ∉ codes x
  rw [h.eq]
  intro hm
  simp only [List.mem_append, List.mem_cons, List.not_mem_nil, or_false] at hm
  rcases hm with hm | hm | hm | hm | hm | hm | hm
  · have := (h.a _ hm).1; omega
  · omega
  · omega
  · omega
  · omega
  · have := (h.c _ hm).1; omega
  · omega
theorem RowL.colon {x : Str} {A C : List Nat} (h : RowL x A C) : find4 x ":" 0 (x.length : Int) = ((A.length + 4 + C.length : Nat) : Int) := by
  have hl := h.len
  have e : codes x = (A ++ [46, 98, 121, 46] ++ C) ++ (58 :: [32, 66, 121, 32, 49, 46, 53]) := by rw [h.eq]; simp
  have hlen : (A ++ [46, 98, 121, 46] ++ C).length = A.length + 4 + C.length := by simp; omega
  have f0 : fromIndex x.length 0 = 0 := fromIndex_nat x.length 0
  refine find4_at (c := 58) ?_ ?_ ?_ fun m h1 h2 => ?_
  · rw [f0]; exact Nat.zero_le _
  · rw [fromIndex_nat, Nat.min_self]; omega
  · show (codes x)[_]? = _
    rw [e, List.getElem?_append_right (by rw [hlen]; exact Nat.le_refl _), hlen, Nat.sub_self]; rfl
  · show (codes x)[_]? ≠ _
    rw [e, List.getElem?_append_left (by rw [hlen]; exact h2)]
    intro q
    have := List.mem_of_getElem? q
    simp only [List.mem_append, List.mem_cons, List.not_mem_nil, or_false] at this
    rcases this with (hm | hm) | hm
    · have := (h.a _ hm).1; omega
    · omega
    · have := (h.c _ hm).1; omega
theorem RowL.dot {x : Str} {A C : List Nat} (h : RowL x A C) : rfind4 x "." 0 ((A.length + 4 + C.length : Nat) : Int) = ((A.length + 3 : Nat) : Int) := by
  have hl := h.len
  have e : codes x = (A ++ [46, 98, 121]) ++ (46 :: (C ++ [58, 32, 66, 121, 32, 49, 46, 53])) := by rw [h.eq]; simp
  have hlen : (A ++ [46, 98, 121]).length = A.length + 3 := by simp
  have f0 : fromIndex x.length 0 = 0 := fromIndex_nat x.length 0
  refine rfind4_at (c := 46) ?_ ?_ ?_ fun m h1 h2 => ?_
  · rw [f0]; exact Nat.zero_le _
  · rw [fromIndex_nat]; omega
  · show (codes x)[_]? = _
    rw [e, List.getElem?_append_right (by rw [hlen]; exact Nat.le_refl _), hlen, Nat.sub_self]; rfl
  · show (codes x)[_]? ≠ _
    rw [fromIndex_nat] at h2
    rw [e, List.getElem?_append_right (by rw [hlen]; omega), hlen]
    obtain ⟨d, hd⟩ : ∃ d, m - (A.length + 3) = d + 1 := ⟨m - (A.length + 3) - 1, by omega⟩
    rw [hd, List.getElem?_cons_succ, List.getElem?_append_left (by omega)]
    intro q
    have := (h.c _ (List.mem_of_getElem? q)).1
    omega
theorem RowL.by {x : Str} {A C : List Nat} (h : RowL x A C) : Txt.slice x (some ((A.length + 3 : Nat) + 1 : Int)) (some ((A.length + 4 + C.length : Nat) : Int)) = ⟨C.toArray⟩ := by
  have hl := h.len
  have e0 : ((A.length + 3 : Nat) + 1 : Int) = ((A.length + 4 : Nat) : Int) := by omega
  rw [e0, slice_nat (by omega) (by omega), h.eq]
  have e : A ++ (46 :: 98 :: 121 :: 46 :: (C ++ [58, 32, 66, 121, 32, 49, 46, 53])) = (A ++ [46, 98, 121, 46]) ++ (C ++ [58, 32, 66, 121, 32, 49, 46, 53]) := by simp
  rw [e, List.drop_append_of_le_length (by simp), List.drop_of_length_le (by simp), List.nil_append, show A.length + 4 + C.length - (A.length + 4) = C.length from by omega, List.take_append_of_le_length (Nat.le_refl _), List.take_length]
theorem strip {n : Nat} {σ : List Ob} {x : Str} {A C : List Nat} (h : RowL x A C) (hz : x.length ≤ 1000) : FnOk (n + 5) 193 [.str x] [] σ (.at (.str ⟨C.toArray⟩)) σ := by
  have hz' : x.length ≤ sizeLine := by have : (1000 : Nat) ≤ sizeLine := by decide
                                       omega
  refine fn_okB at193 (bind193 _) (show (["msg"] : List Str).Nodup from by decide) (by rfl) (BodyOk.cons (ρ₁ := setL (setL [("msg", .str x)] "start" (.int 0)) "end" (.int x.length)) (σ₁ := σ) (ExOk.assign2 (EvOk.tuple (Vs := [.int 0, .int x.length]) (EvsOk.cons (r := .at (.int 0)) rfl (EvOk.const rfl) (EvsOk.cons (r := .at (.int x.length)) rfl (EvOk.callB (id := "len") rfl rfl (by kernel_rfl) rfl (EvsOk.cons (r := .at (.str x)) rfl (EvOk.name (X := .str x) rfl rfl rfl rfl) EvsOk.nil) (BiOk.atoms (ats := [.str x]) (r := .int x.length) rfl (by simp [strM, hz']))) EvsOk.nil)) rfl (by show 2 ≤ sizeLine; decide)) rfl rfl rfl ?_) ?_)
  · intro env h1 h2 h3
    exact swapped2 h1 h2 h3 rfl rfl rfl rfl rfl rfl
  · refine BodyOk.cons (ρ₁ := setL (setL (setL [("msg", .str x)] "start" (.int 0)) "end" (.int x.length)) "i" (.int (-1))) (σ₁ := σ) (ExOk.assign (r := .at (.int (-1))) (EvOk.methB (r0 := .at (.str x)) (id := "str.find") (fun env => by rfl) rfl (EvOk.name (X := .str x) rfl rfl rfl rfl) (MbOk.str fun M A s pl Q E t h => GM.find h) (EvsOk.cons (r := .at (.str "\n")) rfl (EvOk.const rfl) EvsOk.nil) (BiOk.atoms (ats := [.str x, .str "\n"]) rfl (by simp [strM, h.nl]))) rfl rfl (by decide) rfl) ?_
    refine BodyOk.skip (σ₁ := σ) (TrOk.cmp (EvOk.name (X := .int (-1)) rfl rfl rfl rfl) (EvOk.const (a := .int 0) rfl) rfl rfl) ?_
    have nn : ∀ k : Nat, cmpI .GtE (.int (k : Int)) (.int 0) = some true := fun k => by show some (decide ((0 : Int) ≤ (k : Int))) = some true; rw [decide_eq_true (by omega)]
    refine BodyOk.cons (ρ₁ := setL (setL (setL (setL [("msg", .str x)] "start" (.int 0)) "end" (.int x.length)) "i" (.int (-1))) "i" (.int ((A.length + 4 + C.length : Nat) : Int))) (σ₁ := σ) (ExOk.assign (r := .at (.int ((A.length + 4 + C.length : Nat) : Int))) (EvOk.methB (r0 := .at (.str x)) (id := "str.find") (fun env => by rfl) rfl (EvOk.name (X := .str x) rfl rfl rfl rfl) (MbOk.str fun M A s pl Q E t h => GM.find h) (EvsOk.cons (r := .at (.str ":")) rfl (EvOk.const rfl) (EvsOk.cons (r := .at (.int 0)) rfl (EvOk.const rfl) (EvsOk.cons (r := .at (.int x.length)) rfl (EvOk.name (X := .int x.length) rfl rfl rfl rfl) EvsOk.nil))) (BiOk.atoms (ats := [.str x, .str ":", .int 0, .int x.length]) rfl (by simp [strM]; exact h.colon))) rfl rfl (by decide) rfl) ?_
    refine BodyOk.cons (ρ₁ := setL (setL (setL (setL (setL [("msg", .str x)] "start" (.int 0)) "end" (.int x.length)) "i" (.int (-1))) "i" (.int ((A.length + 4 + C.length : Nat) : Int))) "end" (.int ((A.length + 4 + C.length : Nat) : Int))) (σ₁ := σ) (ExOk.ifT (TrOk.cmp (EvOk.name (X := .int ((A.length + 4 + C.length : Nat) : Int)) rfl rfl rfl rfl) (EvOk.const (a := .int 0) rfl) (nn _) rfl) (ExsOk.cons (ExOk.assign (r := .at (.int ((A.length + 4 + C.length : Nat) : Int))) (EvOk.name (X := .int ((A.length + 4 + C.length : Nat) : Int)) rfl rfl rfl rfl) rfl rfl (by decide) rfl) ExsOk.nil)) ?_
    refine BodyOk.cons (ρ₁ := setL (setL (setL (setL (setL (setL [("msg", .str x)] "start" (.int 0)) "end" (.int x.length)) "i" (.int (-1))) "i" (.int ((A.length + 4 + C.length : Nat) : Int))) "end" (.int ((A.length + 4 + C.length : Nat) : Int))) "i" (.int ((A.length + 3 : Nat) : Int))) (σ₁ := σ) (ExOk.assign (r := .at (.int ((A.length + 3 : Nat) : Int))) (EvOk.methB (r0 := .at (.str x)) (id := "str.rfind") (fun env => by rfl) rfl (EvOk.name (X := .str x) rfl rfl rfl rfl) (MbOk.str fun M A s pl Q E t h => GM.rfind h) (EvsOk.cons (r := .at (.str ".")) rfl (EvOk.const rfl) (EvsOk.cons (r := .at (.int 0)) rfl (EvOk.const rfl) (EvsOk.cons (r := .at (.int ((A.length + 4 + C.length : Nat) : Int))) rfl (EvOk.name (X := .int ((A.length + 4 + C.length : Nat) : Int)) rfl rfl rfl rfl) EvsOk.nil))) (BiOk.atoms (ats := [.str x, .str ".", .int 0, .int ((A.length + 4 + C.length : Nat) : Int)]) rfl (by simp only [strM]; rw [h.dot]; rfl))) rfl rfl (by decide) rfl) ?_
    refine BodyOk.cons (ρ₁ := setL (setL (setL (setL (setL (setL (setL [("msg", .str x)] "start" (.int 0)) "end" (.int x.length)) "i" (.int (-1))) "i" (.int ((A.length + 4 + C.length : Nat) : Int))) "end" (.int ((A.length + 4 + C.length : Nat) : Int))) "i" (.int ((A.length + 3 : Nat) : Int))) "start" (.int (((A.length + 3 : Nat) : Int) + 1))) (σ₁ := σ) (ExOk.ifT (TrOk.cmp (EvOk.name (X := .int ((A.length + 3 : Nat) : Int)) rfl rfl rfl rfl) (EvOk.const (a := .int 0) rfl) (nn _) rfl) (ExsOk.cons (ExOk.assign (r := .at (.int (((A.length + 3 : Nat) : Int) + 1))) (EvOk.bin (EvOk.name (X := .int ((A.length + 3 : Nat) : Int)) rfl rfl rfl rfl) (EvOk.const (a := .int 1) rfl) rfl) rfl rfl (by decide) rfl) ExsOk.nil)) ?_
    refine BodyOk.ret (ExOk.ret (EvOk.cut (r := .at (.str x)) (EvOk.name (X := .str x) rfl rfl rfl rfl) (PartOk.some (EvOk.name (X := .int (((A.length + 3 : Nat) : Int) + 1)) rfl rfl rfl rfl)) (PartOk.some (EvOk.name (X := .int ((A.length + 4 + C.length : Nat) : Int)) rfl rfl rfl rfl)) ?_))
    show (if x.length ≤ sizeLine then some (RV.at (.str (Txt.slice x (some (((A.length + 3 : Nat) : Int) + 1)) (some ((A.length + 4 + C.length : Nat) : Int))))) else none) = _
    rw [if_pos hz', h.by]
end Mine
end
section
/-! ## text P7 -/
open PySem.Builtin PySem.Builtin.Str
set_option maxRecDepth 100000
set_option maxHeartbeats 400000
namespace Mine
/-! sets of lamps as numbers below 32 -/
noncomputable def bitsL (m : Nat) : List Nat := (List.range 5).filter fun i => m.testBit i
noncomputable def ltr (m : Nat) : List Nat := (bitsL m).map (97 + ·)
noncomputable def sub (m : Nat) : Str := ⟨(ltr m).toArray⟩
noncomputable def maskQ (a b c d e : Bool) : Nat := a.toNat + 2 * b.toNat + 4 * c.toNat + 8 * d.toNat + 16 * e.toNat
theorem join_abcL : ∀ a b c d e : Bool, Txt.join "" (abcL a b c d e) = sub (maskQ a b c d e) := by decide +kernel
theorem pickA_eq (q : Str → Bool) : pickA q = sub (maskQ (q "a") (q "b") (q "c") (q "d") (q "e")) := by
  unfold pickA; rw [abc_filter]; exact join_abcL _ _ _ _ _
theorem maskQ_lt : ∀ a b c d e : Bool, maskQ a b c d e < 32 := by decide
theorem codes_sub (m : Nat) : codes (sub m) = ltr m := by simp [sub]
theorem mem_ltr {m c : Nat} : c ∈ ltr m ↔ ∃ i, i < 5 ∧ m.testBit i = true ∧ c = 97 + i := by
  unfold ltr bitsL
  simp only [List.mem_map, List.mem_filter, List.mem_range]
  constructor
  · rintro ⟨i, ⟨h1, h2⟩, rfl⟩; exact ⟨i, h1, h2, rfl⟩
  · rintro ⟨i, h1, h2, rfl⟩; exact ⟨i, ⟨h1, h2⟩, rfl⟩
theorem isIn_one (x : Str) (c : Nat) : isIn x ⟨#[c]⟩ = decide (c ∈ codes x) := StrLaws.found_one x c
theorem isIn_sub (m : Nat) {i : Nat} (hi : i < 5) : isIn (sub m) ⟨#[97 + i]⟩ = m.testBit i := by
  rw [isIn_one, codes_sub, Bool.eq_iff_iff, decide_eq_true_eq, mem_ltr]
  constructor
  · rintro ⟨k, h1, h2, h3⟩; have : i = k := by omega
    subst this; exact h2
  · intro h; exact ⟨i, hi, h, rfl⟩
theorem mask_xor : ∀ m < 32, ∀ k < 32, maskQ (m.testBit 0 != k.testBit 0) (m.testBit 1 != k.testBit 1) (m.testBit 2 != k.testBit 2) (m.testBit 3 != k.testBit 3) (m.testBit 4 != k.testBit 4) = m ^^^ k := by decide +kernel
theorem mask_bits : ∀ m < 32, maskQ (m.testBit 0) (m.testBit 1) (m.testBit 2) (m.testBit 3) (m.testBit 4) = m := by decide +kernel
theorem law_sum' {n : Nat} {m k : Nat} {σ : List Ob} (hm : m < 32) (hk : k < 32) (hc : Cl σ) : FnOk (n + 1) 245 [.str (sub m), .str (sub k)] [] σ (.at (.str (sub (m ^^^ k)))) σ := by
  have h := law_sum (n := n) (one := sub m) (two := sub k) hc
  rw [pickA_eq, show isIn (sub m) "a" = _ from isIn_sub m (i := 0) (by decide), show isIn (sub m) "b" = _ from isIn_sub m (i := 1) (by decide), show isIn (sub m) "c" = _ from isIn_sub m (i := 2) (by decide), show isIn (sub m) "d" = _ from isIn_sub m (i := 3) (by decide), show isIn (sub m) "e" = _ from isIn_sub m (i := 4) (by decide),
    show isIn (sub k) "a" = _ from isIn_sub k (i := 0) (by decide), show isIn (sub k) "b" = _ from isIn_sub k (i := 1) (by decide), show isIn (sub k) "c" = _ from isIn_sub k (i := 2) (by decide), show isIn (sub k) "d" = _ from isIn_sub k (i := 3) (by decide), show isIn (sub k) "e" = _ from isIn_sub k (i := 4) (by decide), mask_xor m hm k hk] at h
  exact h
/-! a row of the book -/
noncomputable def rowS (m c : Nat) : Str := sub m ++ ".by." ++ sub c ++ ": By 1.5"
theorem ltr_letters {m c : Nat} (h : c ∈ ltr m) : 97 ≤ c ∧ c ≤ 101 := by
  obtain ⟨i, h1, _, h3⟩ := mem_ltr.mp h; omega
theorem rowL (m c : Nat) : RowL (rowS m c) (ltr m) (ltr c) := by
  refine ⟨?_, fun _ h => ltr_letters h, fun _ h => ltr_letters h⟩
  show (rowS m c).cps.toList = _
  unfold rowS
  simp only [Str.cps_append, Array.toList_append]
  rw [show (sub m).cps.toList = ltr m from codes_sub m, show (sub c).cps.toList = ltr c from codes_sub c]
  rw [show (Str.ofString ".by.").cps.toList = [46, 98, 121, 46] from by rfl, show (Str.ofString ": By 1.5").cps.toList = [58, 32, 66, 121, 32, 49, 46, 53] from by rfl]
  simp
theorem len_sub (m : Nat) : (sub m).length ≤ 5 := by
  rw [len_codes, codes_sub]
  unfold ltr bitsL
  rw [List.length_map]
  exact Nat.le_trans (List.length_filter_le _ _) (by simp)
theorem strip_row {n m c : Nat} {σ : List Ob} : FnOk (n + 5) 193 [.str (rowS m c)] [] σ (.at (.str (sub c))) σ := by
  refine strip (rowL m c) ?_
  have h := (rowL m c).len
  have h1 : (ltr m).length ≤ 5 := by have := len_sub m; rwa [len_codes, codes_sub] at this
  have h2 : (ltr c).length ≤ 5 := by have := len_sub c; rwa [len_codes, codes_sub] at this
  omega
end Mine
end
section
/-! ## text P8 -/
open PySem.Builtin PySem.Builtin.Str PySem.StrLaws
set_option maxRecDepth 100000
set_option maxHeartbeats 400000
namespace Mine
theorem RowL.index {x : Str} {A C : List Nat} (h : RowL x A C) : ∃ r, occurrences x "." 0 x.length 1 = A.length :: r := by
  have hl := h.len
  rcases occ_at x ⟨#[46]⟩ 0 x.length 1 (Nat.le_refl _) with ⟨e, hn⟩ | ⟨a, r, e, ha, hA, hm⟩
  · refine absurd ((at1 x 46 _ A.length).mpr ⟨by omega, ?_⟩) (hn A.length (Nat.zero_le _))
    show (codes x)[_]? = _
    rw [h.eq, List.getElem?_append_right (Nat.le_refl _), Nat.sub_self]; rfl
  · have hA' := (at1 x 46 _ a).mp hA
    have : a = A.length := by
      rcases Nat.lt_trichotomy a A.length with q | q | q
      · have h2 : (codes x)[a]? = some 46 := hA'.2
        rw [h.eq, List.getElem?_append_left q] at h2
        have := (h.a _ (List.mem_of_getElem? h2)).1
        omega
      · exact q
      · refine absurd ((at1 x 46 _ A.length).mpr ⟨by omega, ?_⟩) (hm A.length (Nat.zero_le _) q)
        show (codes x)[_]? = _
        rw [h.eq, List.getElem?_append_right (Nat.le_refl _), Nat.sub_self]; rfl
    subst this
    exact ⟨r, e⟩
theorem RowL.pre {x : Str} {A C : List Nat} (h : RowL x A C) : Txt.slice x none (some (A.length : Int)) = ⟨A.toArray⟩ := by
  have hl := h.len
  have e : Txt.slice x none (some (A.length : Int)) = Txt.slice x (some ((0 : Nat) : Int)) (some (A.length : Int)) := by
    unfold Txt.slice
    rw [sliceIdx_none_lo]; rfl
  rw [e, slice_nat (Nat.zero_le _) (by omega), h.eq, List.drop_zero, Nat.sub_zero, List.take_append_of_le_length (Nat.le_refl _), List.take_length]
/-- s[:s.index('.')] -/
theorem prefix_ok {n : Nat} {nm : Nm} {ρ : Rho} {σ : List Ob} {s : Str} {m c : Nat} {p1 p2 p3 p4 p5 p6 p7 : Pos} {k : Nat} (hs : isLoc (nm.lookup s) = true) (hr : ρ.lookup s = some (V.str (rowS m c))) (hd : (s == ("__debug__" : Str)) = false) (hd' : (s == ("__classdict__" : Str)) = false) (hf : methForm (.Name s p2) "index" p4 p6 [.Constant (.str ".") k p5] []) :
    EvOk n nm ρ σ (.Subscript (.Name s p1) (.Slice none (some (.Call (.Attribute (.Name s p2) "index" p4) [.Constant (.str ".") k p5] [] p6)) none p3) p7) (.at (.str (sub m))) σ := by
  obtain ⟨r, ho⟩ := (rowL m c).index
  have hlen := (rowL m c).len
  have h1 : (ltr m).length ≤ 5 := by have := len_sub m; rwa [len_codes, codes_sub] at this
  have h2 : (ltr c).length ≤ 5 := by have := len_sub c; rwa [len_codes, codes_sub] at this
  have hz : (rowS m c).length ≤ sizeLine := by have : (1000 : Nat) ≤ sizeLine := by decide
                                               omega
  refine EvOk.cut (r := .at (.str (rowS m c))) (EvOk.name hs hr hd hd') PartOk.none (PartOk.some (i := ((ltr m).length : Int)) (EvOk.methB (r0 := .at (.str (rowS m c))) (id := "str.index") hf rfl (EvOk.name hs hr hd hd') (MbOk.str fun M A s pl Q E t h => GM.index h) (EvsOk.cons (r := .at (.str ".")) rfl (EvOk.const rfl) EvsOk.nil) (BiOk.atoms (ats := [.str (rowS m c), .str "."]) rfl ?_))) ?_
  · show (match occurrences (rowS m c) "." 0 (rowS m c).length 1 with | i :: _ => some (At.int i) | [] => none) = _
    rw [ho]
  · show (if (rowS m c).length ≤ sizeLine then some (RV.at (.str (Txt.slice (rowS m c) none (some ((ltr m).length : Int))))) else none) = _
    rw [if_pos hz, (rowL m c).pre]; rfl
end Mine
end
section
/-! ## text P9 -/
open PySem.Builtin PySem.Builtin.Str PySem.StrLaws
set_option maxRecDepth 100000
set_option maxHeartbeats 400000
namespace Mine
/-! parse257 -/
theorem strAt_nat {x : Str} {i c : Nat} (h : (codes x)[i]? = some c) (hz : x.length ≤ sizeLine) : strAt x (i : Int) = some ⟨#[c]⟩ := by
  have hi : i < x.length := by rw [len_codes]; exact (List.getElem?_eq_some_iff.mp h).1
  have hs : sizeLine < 2 ^ 60 := by decide
  unfold strAt
  rw [if_pos (by constructor <;> omega), StrLaws.at_nonneg (n := c) (by omega) (by simpa using h)]
  rfl
structure PSt (ρ : Rho) (x : Str) (i : Nat) (d : Str) : Prop where
  resp : ρ.lookup ("resp" : Str) = some (V.str x)
  n : ρ.lookup ("n" : Str) = some (V.int x.length)
  i : ρ.lookup ("i" : Str) = some (V.int i)
  dir : ρ.lookup ("dirname" : Str) = some (V.str d)
noncomputable def rho3 (ρ : Rho) (c i : Nat) : Rho := setL (setL ρ "c" (V.str ⟨#[c]⟩)) "i" (V.int (i + 1 : Nat))
theorem eq_str (a b : Nat) : ((⟨#[a]⟩ : Str) == ⟨#[b]⟩) = decide (a = b) := by
  rw [Bool.eq_iff_iff, beq_iff_eq, decide_eq_true_eq]
  constructor
  · intro h; have := congrArg Str.cps h; simpa using this
  · rintro rfl; rfl
theorem addI (i : Nat) : binI .Add (.int (i : Int)) (.int 1) = some (.int ((i + 1 : Nat) : Int)) := by
  have e : ((i + 1 : Nat) : Int) = (i : Int) + 1 := by omega
  rw [e]; rfl
theorem idx_str {σ : List Ob} {x y : Str} {i : Int} (h : strAt x i = some y) : idxI σ (.at (.str x)) (.int i) = some (V.str y) := by
  have e : idxI σ (.at (.str x)) (.int i) = (strAt x i).map fun y => V.str y := rfl
  rw [e, h]; rfl
theorem cs_add (x y : Str) : codes (x ++ y) = codes x ++ codes y := by show (x ++ y).cps.toList = _; rw [Str.cps_append, Array.toList_append]
/-- c = resp[i]; i = i + 1 -/
noncomputable def whB : List Stmt := forB ((fB (topS 14)).getD 5 (.Pass ⟨0, 0, 0, 0⟩))
theorem p_plain {n : Nat} {σ : List Ob} {ρ : Rho} {x d : Str} {i c : Nat} (h : PSt ρ x i d) (hc : (codes x)[i]? = some c) (hz : x.length ≤ sizeLine) (hq : c ≠ 34) (hd : d.length + 1 ≤ sizeLine) :
    ∃ ρ', ExsOk n fd225.scope.names ρ σ whB .go ρ' σ ∧ PSt ρ' x (i + 1) (d ++ ⟨#[c]⟩) := by
  refine ⟨setL (rho3 ρ c i) "dirname" (V.str (d ++ ⟨#[c]⟩)), ?_, ?_⟩
  · refine ExsOk.cons (ExOk.assign (r := .v (.str ⟨#[c]⟩)) (EvOk.sub (r := .at (.str x)) (i := .int i) (EvOk.name rfl h.resp rfl rfl) (EvOk.name (X := .int i) rfl h.i rfl rfl) (idx_str (strAt_nat hc hz))) rfl rfl (by decide) rfl) ?_
    have li : (setL ρ "c" (V.str ⟨#[c]⟩)).lookup ("i" : Str) = some (V.int i) := by rw [lookup_setL, if_neg (by decide), h.i]
    refine ExsOk.cons (ExOk.assign (r := .at (.int (i + 1 : Nat))) (EvOk.bin (a := .int i) (b := .int 1) (EvOk.name (X := .int i) rfl li rfl rfl) (EvOk.const rfl) (addI i)) rfl rfl (by decide) rfl) ?_
    have lc : (rho3 ρ c i).lookup ("c" : Str) = some (V.str ⟨#[c]⟩) := by unfold rho3; rw [lookup_setL, if_neg (by decide), lookup_setL, if_pos rfl]
    have ld : (rho3 ρ c i).lookup ("dirname" : Str) = some (V.str d) := by unfold rho3; rw [lookup_setL, if_neg (by decide), lookup_setL, if_neg (by decide), h.dir]
    refine ExsOk.cons (ExOk.ifF (TrOk.cmp (a := .str ⟨#[c]⟩) (b := .str ⟨#[34]⟩) (EvOk.name (X := .str ⟨#[c]⟩) rfl lc rfl rfl) (EvOk.const (by rfl)) (by show some ((⟨#[c]⟩ : Str) == ⟨#[34]⟩) = _; rw [eq_str, decide_eq_false hq]) rfl) ExsOk.nil) ?_
    refine ExsOk.cons (ExOk.assign (r := .at (.str (d ++ ⟨#[c]⟩))) (EvOk.bin (a := .str d) (b := .str ⟨#[c]⟩) (EvOk.name (X := .str d) rfl ld rfl rfl) (EvOk.name (X := .str ⟨#[c]⟩) rfl lc rfl rfl) (by show (if d.length + 1 ≤ sizeLine then some _ else none) = _; rw [if_pos hd])) rfl rfl (by decide) rfl) ExsOk.nil
  · unfold rho3
    refine ⟨?_, ?_, ?_, ?_⟩
    · rw [lookup_setL, if_neg (by decide), lookup_setL, if_neg (by decide), lookup_setL, if_neg (by decide), h.resp]
    · rw [lookup_setL, if_neg (by decide), lookup_setL, if_neg (by decide), lookup_setL, if_neg (by decide), h.n]
    · rw [lookup_setL, if_neg (by decide), lookup_setL, if_pos rfl]
    · rw [lookup_setL, if_pos rfl]
theorem geN (a b : Nat) : cmpI .GtE (.int (a : Int)) (.int (b : Int)) = some (decide (b ≤ a)) := by
  show some (decide ((b : Int) ≤ (a : Int))) = _
  congr 1
  rw [decide_eq_decide]; omega
theorem neQ (c : Nat) : cmpI .NotEq (.str ⟨#[c]⟩) (.str ⟨#[34]⟩) = some (decide (c ≠ 34)) := by
  show some ((⟨#[c]⟩ : Str) != ⟨#[34]⟩) = _
  rw [bne, eq_str]
  by_cases h : c = 34 <;> simp [h]
/-- the first two statements of a turn -/
theorem p_head {n : Nat} {σ σ' : List Ob} {ρ ρ' : Rho} {x d : Str} {i c : Nat} {o : Out} {s1 s2 : Stmt} {ss : List Stmt} (h : PSt ρ x i d) (h1 : ExOk n fd225.scope.names ρ σ s1 .go (setL ρ "c" (V.str ⟨#[c]⟩)) σ) (h2 : ExOk n fd225.scope.names (setL ρ "c" (V.str ⟨#[c]⟩)) σ s2 .go (rho3 ρ c i) σ)
    (h3 : ExsOk n fd225.scope.names (rho3 ρ c i) σ ss o ρ' σ') : ExsOk n fd225.scope.names ρ σ (s1 :: s2 :: ss) o ρ' σ' := ExsOk.cons h1 (ExsOk.cons h2 h3)
theorem p_pair {n : Nat} {σ : List Ob} {ρ : Rho} {x d : Str} {i : Nat} (h : PSt ρ x i d) (hc : (codes x)[i]? = some 34) (hc2 : (codes x)[i + 1]? = some 34) (hz : x.length ≤ sizeLine) (hd : d.length + 1 ≤ sizeLine) :
    ∃ ρ', ExsOk n fd225.scope.names ρ σ whB .go ρ' σ ∧ PSt ρ' x (i + 2) (d ++ ⟨#[34]⟩) := by
  have lc : (rho3 ρ 34 i).lookup ("c" : Str) = some (V.str ⟨#[34]⟩) := by unfold rho3; rw [lookup_setL, if_neg (by decide), lookup_setL, if_pos rfl]
  have li : (rho3 ρ 34 i).lookup ("i" : Str) = some (V.int (i + 1 : Nat)) := by unfold rho3; rw [lookup_setL, if_pos rfl]
  have ln : (rho3 ρ 34 i).lookup ("n" : Str) = some (V.int x.length) := by unfold rho3; rw [lookup_setL, if_neg (by decide), lookup_setL, if_neg (by decide), h.n]
  have lr : (rho3 ρ 34 i).lookup ("resp" : Str) = some (V.str x) := by unfold rho3; rw [lookup_setL, if_neg (by decide), lookup_setL, if_neg (by decide), h.resp]
  have ld : (rho3 ρ 34 i).lookup ("dirname" : Str) = some (V.str d) := by unfold rho3; rw [lookup_setL, if_neg (by decide), lookup_setL, if_neg (by decide), h.dir]
  have hlt : i + 1 < x.length := by rw [len_codes]; exact (List.getElem?_eq_some_iff.mp hc2).1
  refine ⟨setL (setL (rho3 ρ 34 i) "i" (V.int (i + 1 + 1 : Nat))) "dirname" (V.str (d ++ ⟨#[34]⟩)), ?_, ?_⟩
  · have l0 : (setL ρ "c" (V.str ⟨#[34]⟩)).lookup ("i" : Str) = some (V.int i) := by rw [lookup_setL, if_neg (by decide), h.i]
    refine p_head h (ExOk.assign (r := .v (.str ⟨#[34]⟩)) (EvOk.sub (r := .at (.str x)) (i := .int i) (EvOk.name rfl h.resp rfl rfl) (EvOk.name (X := .int i) rfl h.i rfl rfl) (idx_str (strAt_nat hc hz))) rfl rfl (by decide) rfl)
      (ExOk.assign (r := .at (.int (i + 1 : Nat))) (EvOk.bin (a := .int i) (b := .int 1) (EvOk.name (X := .int i) rfl l0 rfl rfl) (EvOk.const rfl) (addI i)) rfl rfl (by decide) rfl) ?_
    refine ExsOk.cons (ρ₁ := setL (rho3 ρ 34 i) "i" (V.int (i + 1 + 1 : Nat))) (σ₁ := σ) (ExOk.ifT (TrOk.cmp (a := .str ⟨#[34]⟩) (b := .str ⟨#[34]⟩) (EvOk.name (X := .str ⟨#[34]⟩) rfl lc rfl rfl) (EvOk.const (by rfl)) (by rfl) rfl) (ExsOk.cons (ExOk.ifF (TrOk.bool (AllOk.goOr (TrOk.cmp (EvOk.name (X := .int (i + 1 : Nat)) rfl li rfl rfl) (EvOk.name (X := .int x.length) rfl ln rfl rfl) (by rw [geN, decide_eq_false (by omega)]) rfl) (AllOk.goOr (TrOk.cmp (a := .str ⟨#[34]⟩) (b := .str ⟨#[34]⟩) (EvOk.sub (r := .at (.str x)) (i := .int (i + 1 : Nat)) (X := .str ⟨#[34]⟩) (EvOk.name rfl lr rfl rfl) (EvOk.name (X := .int (i + 1 : Nat)) rfl li rfl rfl) (idx_str (strAt_nat hc2 hz))) (EvOk.const (by rfl)) (by rfl) rfl) AllOk.nil))) ExsOk.nil)
      (ExsOk.cons (ExOk.assign (r := .at (.int (i + 1 + 1 : Nat))) (EvOk.bin (a := .int (i + 1 : Nat)) (b := .int 1) (EvOk.name (X := .int (i + 1 : Nat)) rfl li rfl rfl) (EvOk.const rfl) (addI (i + 1))) rfl rfl (by decide) rfl) ExsOk.nil))) ?_
    have lc2 : (setL (rho3 ρ 34 i) "i" (V.int (i + 1 + 1 : Nat))).lookup ("c" : Str) = some (V.str ⟨#[34]⟩) := by rw [lookup_setL, if_neg (by decide), lc]
    have ld2 : (setL (rho3 ρ 34 i) "i" (V.int (i + 1 + 1 : Nat))).lookup ("dirname" : Str) = some (V.str d) := by rw [lookup_setL, if_neg (by decide), ld]
    refine ExsOk.cons (ExOk.assign (r := .at (.str (d ++ ⟨#[34]⟩))) (EvOk.bin (a := .str d) (b := .str ⟨#[34]⟩) (EvOk.name (X := .str d) rfl ld2 rfl rfl) (EvOk.name (X := .str ⟨#[34]⟩) rfl lc2 rfl rfl) (by show (if d.length + 1 ≤ sizeLine then some _ else none) = _; rw [if_pos hd])) rfl rfl (by decide) rfl) ExsOk.nil
  · refine ⟨?_, ?_, ?_, ?_⟩
    · rw [lookup_setL, if_neg (by decide), lookup_setL, if_neg (by decide), lr]
    · rw [lookup_setL, if_neg (by decide), lookup_setL, if_neg (by decide), ln]
    · rw [lookup_setL, if_neg (by decide), lookup_setL, if_pos rfl]
    · rw [lookup_setL, if_pos rfl]
theorem p_stop {n : Nat} {σ : List Ob} {ρ : Rho} {x d : Str} {i : Nat} (h : PSt ρ x i d) (hc : (codes x)[i]? = some 34) (hc2 : (codes x)[i + 1]? ≠ some 34) (hz : x.length ≤ sizeLine) :
    ∃ ρ', ExsOk n fd225.scope.names ρ σ whB .brk ρ' σ ∧ ρ'.lookup ("dirname" : Str) = some (V.str d) := by
  have lc : (rho3 ρ 34 i).lookup ("c" : Str) = some (V.str ⟨#[34]⟩) := by unfold rho3; rw [lookup_setL, if_neg (by decide), lookup_setL, if_pos rfl]
  have li : (rho3 ρ 34 i).lookup ("i" : Str) = some (V.int (i + 1 : Nat)) := by unfold rho3; rw [lookup_setL, if_pos rfl]
  have ln : (rho3 ρ 34 i).lookup ("n" : Str) = some (V.int x.length) := by unfold rho3; rw [lookup_setL, if_neg (by decide), lookup_setL, if_neg (by decide), h.n]
  have lr : (rho3 ρ 34 i).lookup ("resp" : Str) = some (V.str x) := by unfold rho3; rw [lookup_setL, if_neg (by decide), lookup_setL, if_neg (by decide), h.resp]
  have ld : (rho3 ρ 34 i).lookup ("dirname" : Str) = some (V.str d) := by unfold rho3; rw [lookup_setL, if_neg (by decide), lookup_setL, if_neg (by decide), h.dir]
  have l0 : (setL ρ "c" (V.str ⟨#[34]⟩)).lookup ("i" : Str) = some (V.int i) := by rw [lookup_setL, if_neg (by decide), h.i]
  refine ⟨rho3 ρ 34 i, ?_, ld⟩
  refine p_head h (ExOk.assign (r := .v (.str ⟨#[34]⟩)) (EvOk.sub (r := .at (.str x)) (i := .int i) (EvOk.name rfl h.resp rfl rfl) (EvOk.name (X := .int i) rfl h.i rfl rfl) (idx_str (strAt_nat hc hz))) rfl rfl (by decide) rfl)
    (ExOk.assign (r := .at (.int (i + 1 : Nat))) (EvOk.bin (a := .int i) (b := .int 1) (EvOk.name (X := .int i) rfl l0 rfl rfl) (EvOk.const rfl) (addI i)) rfl rfl (by decide) rfl) ?_
  refine ExsOk.brk (ExOk.ifT (σ₁ := σ) (TrOk.cmp (a := .str ⟨#[34]⟩) (b := .str ⟨#[34]⟩) (EvOk.name (X := .str ⟨#[34]⟩) rfl lc rfl rfl) (EvOk.const (by rfl)) (by rfl) rfl) (ExsOk.brk (ExOk.ifT (σ₁ := σ) (TrOk.bool ?_) (ExsOk.brk ExOk.break))))
  rcases Nat.lt_or_ge (i + 1) x.length with hlt | hge
  · have hlt' : i + 1 < (codes x).length := by rwa [← len_codes]
    obtain ⟨c2, e2⟩ : ∃ c2, (codes x)[i + 1]? = some c2 := ⟨_, List.getElem?_eq_getElem hlt'⟩
    have hne : c2 ≠ 34 := fun q => hc2 (q ▸ e2)
    exact AllOk.goOr (TrOk.cmp (EvOk.name (X := .int (i + 1 : Nat)) rfl li rfl rfl) (EvOk.name (X := .int x.length) rfl ln rfl rfl) (by rw [geN, decide_eq_false (by omega)]) rfl) (AllOk.stopOr (TrOk.cmp (a := .str ⟨#[c2]⟩) (b := .str ⟨#[34]⟩) (EvOk.sub (r := .at (.str x)) (i := .int (i + 1 : Nat)) (X := .str ⟨#[c2]⟩) (EvOk.name rfl lr rfl rfl) (EvOk.name (X := .int (i + 1 : Nat)) rfl li rfl rfl) (idx_str (strAt_nat e2 hz))) (EvOk.const (by rfl)) (by rw [neQ, decide_eq_true hne]) rfl))
  · exact AllOk.stopOr (TrOk.cmp (EvOk.name (X := .int (i + 1 : Nat)) rfl li rfl rfl) (EvOk.name (X := .int x.length) rfl ln rfl rfl) (by rw [geN, decide_eq_true (by omega)]) rfl)
end Mine
end
section
/-! ## text P10 -/
open PySem.Builtin PySem.Builtin.Str PySem.StrLaws
set_option maxRecDepth 100000
set_option maxHeartbeats 400000
namespace Mine
noncomputable def pRun : List Nat → List Nat
  | [] => []
  | [c] => if c = 34 then [] else [c]
  | c :: c2 :: r => if c = 34 then (if c2 = 34 then 34 :: pRun r else []) else c :: pRun (c2 :: r)
noncomputable def whT (s : Stmt) : Expr := match s with
  | .While t _ _ _ => t
  | _ => .Name "" ⟨0, 0, 0, 0⟩
theorem pRun_cons {c : Nat} {r : List Nat} (h : c ≠ 34) : pRun (c :: r) = c :: pRun r := by
  cases r with
  | nil => simp [pRun, h]
  | cons a r => rw [pRun, if_neg h]
theorem p_test {n : Nat} {σ : List Ob} {ρ : Rho} {x d : Str} {i : Nat} (h : PSt ρ x i d) : TrOk n fd225.scope.names ρ σ (whT ((fB (topS 14)).getD 5 (.Pass ⟨0, 0, 0, 0⟩))) (decide (i < x.length)) σ :=
  TrOk.cmp (a := .int i) (b := .int x.length) (EvOk.name (X := .int i) rfl h.i rfl rfl) (EvOk.name (X := .int x.length) rfl h.n rfl rfl) (by show some (decide ((i : Int) < (x.length : Int))) = _; congr 1; rw [decide_eq_decide]; omega) rfl
theorem app_assoc (d : Str) (c : Nat) (l : List Nat) : d ++ (⟨#[c]⟩ : Str) ++ (⟨l.toArray⟩ : Str) = d ++ (⟨(c :: l).toArray⟩ : Str) := by
  apply Str.ext'
  apply Array.toList_inj.mp
  simp [Str.cps_append]
theorem app_nil (d : Str) : d ++ (⟨#[]⟩ : Str) = d := by
  apply Str.ext'
  apply Array.toList_inj.mp
  simp [Str.cps_append]
theorem len_app1 (d : Str) (c : Nat) : (d ++ (⟨#[c]⟩ : Str)).length = d.length + 1 := by rw [Str.length_append]; rfl
theorem p_loop {n : Nat} {σ : List Ob} {x : Str} (hz : x.length ≤ sizeLine) : ∀ (m : Nat) (r : List Nat) (i : Nat) (d : Str) (ρ : Rho), r.length ≤ m → PSt ρ x i d → (codes x).drop i = r → d.length + r.length ≤ sizeLine →
    ∃ k ρ', WhileD n fd225.scope.names (whT ((fB (topS 14)).getD 5 (.Pass ⟨0, 0, 0, 0⟩))) whB k ρ σ .go ρ' σ ∧ ρ'.lookup ("dirname" : Str) = some (V.str (d ++ ⟨(pRun r).toArray⟩)) := by
  intro m
  induction m with
  | zero =>
    intro r i d ρ hm h hr hd
    have : r = [] := List.length_eq_zero_iff.mp (by omega)
    subst this
    have hge : (codes x).length ≤ i := List.drop_eq_nil_iff.mp hr
    have t := p_test (n := n) (σ := σ) h
    rw [decide_eq_false (by rw [len_codes]; omega)] at t
    refine ⟨0, ρ, .done t, ?_⟩
    rw [show (⟨(pRun []).toArray⟩ : Str) = ⟨#[]⟩ from rfl, app_nil]; exact h.dir
  | succ m ih =>
    intro r i d ρ hm h hr hd
    cases r with
    | nil =>
      have hge : (codes x).length ≤ i := List.drop_eq_nil_iff.mp hr
      have t := p_test (n := n) (σ := σ) h
      rw [decide_eq_false (by rw [len_codes]; omega)] at t
      refine ⟨0, ρ, .done t, ?_⟩
      rw [show (⟨(pRun []).toArray⟩ : Str) = ⟨#[]⟩ from rfl, app_nil]; exact h.dir
    | cons c r =>
      have hc : (codes x)[i]? = some c := by
        have : ((codes x).drop i)[0]? = some c := by rw [hr]; rfl
        rwa [List.getElem?_drop] at this
      have hi : i < x.length := by rw [len_codes]; exact (List.getElem?_eq_some_iff.mp hc).1
      have t := p_test (n := n) (σ := σ) h
      rw [decide_eq_true hi] at t
      have hr1 : (codes x).drop (i + 1) = r := by rw [← List.drop_drop, hr]; rfl
      simp only [List.length_cons] at hm hd
      by_cases hq : c = 34
      · subst hq
        cases r with
        | nil =>
          obtain ⟨ρ', b, e⟩ := p_stop (n := n) (σ := σ) h hc (by
            rw [List.getElem?_eq_none (List.drop_eq_nil_iff.mp hr1)]; exact fun z => nomatch z) hz
          refine ⟨0, ρ', .brk t b, ?_⟩
          rw [show (⟨(pRun [34]).toArray⟩ : Str) = ⟨#[]⟩ from rfl, app_nil]; exact e
        | cons c2 r =>
          have hc2 : (codes x)[i + 1]? = some c2 := by
            have : ((codes x).drop (i + 1))[0]? = some c2 := by rw [hr1]; rfl
            rwa [List.getElem?_drop] at this
          simp only [List.length_cons] at hm hd
          by_cases hq2 : c2 = 34
          · subst hq2
            obtain ⟨ρ1, b, h1⟩ := p_pair (n := n) (σ := σ) h hc hc2 hz (by omega)
            have hr2 : (codes x).drop (i + 2) = r := by rw [show i + 2 = (i + 1) + 1 from rfl, ← List.drop_drop, hr1]; rfl
            obtain ⟨k, ρ', D, e⟩ := ih r (i + 2) (d ++ ⟨#[34]⟩) ρ1 (by omega) h1 hr2 (by rw [len_app1]; omega)
            refine ⟨k + 1, ρ', .step t b D, ?_⟩
            rw [e, app_assoc, show pRun (34 :: 34 :: r) = 34 :: pRun r from by rw [pRun, if_pos rfl, if_pos rfl]]
          · obtain ⟨ρ', b, e⟩ := p_stop (n := n) (σ := σ) h hc (by rw [hc2]; exact fun z => hq2 (Option.some.inj z)) hz
            refine ⟨0, ρ', .brk t b, ?_⟩
            rw [show pRun (34 :: c2 :: r) = [] from by rw [pRun, if_pos rfl, if_neg hq2]]
            exact (app_nil d).symm ▸ e
      · obtain ⟨ρ1, b, h1⟩ := p_plain (n := n) (σ := σ) h hc hz hq (by omega)
        obtain ⟨k, ρ', D, e⟩ := ih r (i + 1) (d ++ ⟨#[c]⟩) ρ1 (by omega) h1 hr1 (by rw [len_app1]; omega)
        refine ⟨k + 1, ρ', .step t b D, ?_⟩
        rw [e, app_assoc, pRun_cons hq]
end Mine
end
section
/-! ## text P11 -/
open PySem.Builtin PySem.Builtin.Str PySem.StrLaws
set_option maxRecDepth 100000
set_option maxHeartbeats 400000
namespace Mine
theorem parse257 {n : Nat} {σ : List Ob} {x : Str} {r : List Nat} (hx : codes x = [50, 53, 55, 32, 34] ++ r) (hz : x.length ≤ sizeLine) : FnOk (n + 1) 225 [.str x] [] σ (.at (.str ⟨(pRun r).toArray⟩)) σ := by
  have hl : x.length = r.length + 5 := by rw [len_codes, hx]; simp
  have s1 : Txt.slice x none (some 3) = "257" := by
    have e : Txt.slice x none (some 3) = Txt.slice x (some ((0 : Nat) : Int)) (some ((3 : Nat) : Int)) := by
      unfold Txt.slice
      rw [sliceIdx_none_lo]; rfl
    rw [e, slice_nat (by omega) (by omega), hx]; rfl
  have s2 : Txt.slice x (some 3) (some 5) = " \"" := by
    have e : Txt.slice x (some 3) (some 5) = Txt.slice x (some ((3 : Nat) : Int)) (some ((5 : Nat) : Int)) := rfl
    rw [e, slice_nat (by omega) (by omega), hx]; rfl
  refine fn_okB at225 (bind225 _) (show (["resp"] : List Str).Nodup from by decide) (by rfl) ?_
  refine BodyOk.skip (σ₁ := σ) (TrOk.cmp (a := .str "257") (b := .str "257") (EvOk.cut (r := .at (.str x)) (X := .at (.str "257")) (EvOk.name (X := .str x) rfl rfl rfl rfl) PartOk.none (PartOk.some (EvOk.const (a := .int 3) rfl)) (by show (if x.length ≤ sizeLine then some (RV.at (.str (Txt.slice x none (some 3)))) else none) = _; rw [if_pos hz, s1])) (EvOk.const rfl) (by rfl) rfl) ?_
  refine BodyOk.skip (σ₁ := σ) (TrOk.cmp (a := .str " \"") (b := .str " \"") (EvOk.cut (r := .at (.str x)) (X := .at (.str " \"")) (EvOk.name (X := .str x) rfl rfl rfl rfl) (PartOk.some (EvOk.const (a := .int 3) rfl)) (PartOk.some (EvOk.const (a := .int 5) rfl)) (by show (if x.length ≤ sizeLine then some (RV.at (.str (Txt.slice x (some 3) (some 5)))) else none) = _; rw [if_pos hz, s2])) (EvOk.const rfl) (by rfl) rfl) ?_
  refine BodyOk.cons (σ₁ := σ) (ExOk.assign (r := .at (.str "")) (EvOk.const rfl) rfl rfl (by decide) rfl) ?_
  refine BodyOk.cons (σ₁ := σ) (ExOk.assign (r := .at (.int 5)) (EvOk.const rfl) rfl rfl (by decide) rfl) ?_
  refine BodyOk.cons (σ₁ := σ) (ExOk.assign (r := .at (.int x.length)) (EvOk.callB (id := "len") rfl rfl (by kernel_rfl) rfl (EvsOk.cons (r := .at (.str x)) rfl (EvOk.name (X := .str x) rfl rfl rfl rfl) EvsOk.nil) (BiOk.atoms (ats := [.str x]) (r := .int x.length) rfl (by simp [strM, hz]))) rfl rfl (by decide) rfl) ?_
  obtain ⟨k, ρ', D, e⟩ := p_loop (n := n) (σ := σ) hz r.length r 5 "" (setL (setL (setL [("resp", V.str x)] "dirname" (V.str "")) "i" (V.int 5)) "n" (V.int x.length)) (Nat.le_refl _) ⟨rfl, rfl, rfl, rfl⟩ (by rw [hx]; rfl) (by show 0 + r.length ≤ _; omega)
  refine BodyOk.cons (ExOk.while D) ?_
  have e2 : ("" : Str) ++ (⟨(pRun r).toArray⟩ : Str) = ⟨(pRun r).toArray⟩ := by
    apply Str.ext'
    apply Array.toList_inj.mp
    simp [Str.cps_append]
    rfl
  rw [e2] at e
  exact BodyOk.ret (ExOk.ret (EvOk.name rfl e rfl rfl))
end Mine
end
section
/-! ## text P12 -/
open PySem.Builtin PySem.Builtin.Str PySem.StrLaws
set_option maxRecDepth 100000
set_option maxHeartbeats 400000
namespace Mine
noncomputable def iI (i : Int) : It := .at (.int i)
noncomputable def mod32 : V → It
  | .it (.at (.int i)) => iI (i.fmod 32)
  | _ => .at .none
noncomputable def numsL (ns : List Int) : List Int := (ns.take 6).map (·.fmod 32) ++ ([3, 3, 3, 3, 1, 1] : List Int).drop (min 6 ns.length)
theorem slice6 (ns : List Int) : sliceL (ns.map iI) none (some 6) = (ns.take 6).map iI := by
  rw [sliceL_plain]
  simp only [Option.elim, List.drop_zero, Nat.sub_zero, List.length_map]
  have : clipAt ns.length 6 = min 6 ns.length := clipAt_nat ns.length 6
  rw [this, ← List.map_take]
  congr 1
  rcases Nat.le_total 6 ns.length with h | h
  · rw [Nat.min_eq_left h]
  · rw [Nat.min_eq_right h, List.take_length, List.take_of_length_le h]
theorem law_numbers {n : Nat} {σ : List Ob} {ns : List Int} (hc : Cl σ) (hz : ns.length ≤ sizeLine) : FnOk (n + 1) 230 [.lst ns] [] σ (.new ((numsL ns).map iI)) σ := by
  refine FnOk.drop (junk := [Ob.list ((ns.take 6).map iI), Ob.list (((ns.take 6).map (·.fmod 32)).map iI)]) ?_ rfl hc (by
    show ((numsL ns).map iI).all _ = true
    rw [List.all_eq_true]; intro x hx; obtain ⟨i, _, rfl⟩ := List.mem_map.mp hx; rfl)
  refine fn_okB at230 (bind230 _) (show (["script"] : List Str).Nodup from by decide) (by rfl) ?_
  have hL : srcL (σ ++ [Ob.list ((ns.take 6).map iI)]) (.lst σ.length) = some (((ns.take 6).map iI).map V.it) := by
    unfold srcL; dsimp only
    rw [List.getElem?_append_right (Nat.le_refl _), Nat.sub_self]; rfl
  have h6 : (ns.take 6).length ≤ 6 := by rw [List.length_take]; omega
  have hs6 : (6 : Nat) ≤ sizeLine := by decide
  have hit : ∀ {e : Expr}, EvOk n fd230.scope.names [("script", V.lst ns)] σ e (.new ((ns.take 6).map iI)) σ → IterOk n fd230.scope.names [("script", V.lst ns)] σ e (.lst σ.length) (σ ++ [Ob.list ((ns.take 6).map iI)]) := fun h => IterOk.list (l := (ns.take 6).map iI) h rfl (by show (σ ++ [Ob.list _])[σ.length]? = _; rw [List.getElem?_append_right (Nat.le_refl _), Nat.sub_self]; rfl)
  have ef : ((((ns.take 6).map iI).map V.it).filter fun _ => true).map mod32 = ((ns.take 6).map (·.fmod 32)).map iI := by
    rw [List.filter_eq_self.mpr (fun _ _ => rfl), List.map_map, List.map_map, List.map_map]; rfl
  refine BodyOk.cons (ρ₁ := setL [("script", V.lst ns)] "drawn" (V.obj (σ ++ [Ob.list ((ns.take 6).map iI)]).length)) (σ₁ := (σ ++ [Ob.list ((ns.take 6).map iI)]) ++ [Ob.list (((ns.take 6).map (·.fmod 32)).map iI)]) (ef ▸ ExOk.assignComp (by rfl) (p := fun _ => true) (f := mod32) rfl rfl rfl (compS (by rfl)) (hit (EvOk.cut (r := .v (.lst ns)) (EvOk.name (X := .lst ns) rfl rfl rfl rfl) PartOk.none (PartOk.some (EvOk.const (a := .int 6) rfl)) ?_)) hL ?_ (fun _ _ => rfl) ?_ ?_) ?_
  · show (if (ns.map fun i => It.at (.int i)).length ≤ sizeLine then some (RV.new (sliceL (ns.map iI) none (some 6))) else none) = _
    rw [if_pos (by rw [List.length_map]; exact hz), slice6]
  · rw [List.length_map, List.length_map]; omega
  · intro X hX; rfl
  · intro X hX _
    obtain ⟨y, hy, rfl⟩ := List.mem_map.mp hX
    obtain ⟨i, hi, rfl⟩ := List.mem_map.mp hy
    exact EvOk.bin (a := .int i) (b := .int 32) (EvOk.name (X := .int i) rfl rfl rfl rfl) (EvOk.const rfl) (by rfl)
  · generalize hS : σ ++ [Ob.list ((ns.take 6).map iI)] = S
    have hk : (S ++ [Ob.list (((ns.take 6).map (·.fmod 32)).map iI)])[S.length]? = some (.list (((ns.take 6).map (·.fmod 32)).map iI)) := by
      rw [List.getElem?_append_right (Nat.le_refl _), Nat.sub_self]; rfl
    have e3 : (σ ++ [Ob.list ((ns.take 6).map iI), Ob.list (((ns.take 6).map (·.fmod 32)).map iI)]) = S ++ [Ob.list (((ns.take 6).map (·.fmod 32)).map iI)] := by rw [← hS, List.append_assoc]; rfl
    rw [e3]
    have hlen : (((ns.take 6).map (·.fmod 32)).map iI).length = min 6 ns.length := by simp
    have e4 : ((numsL ns).map iI) = ((ns.take 6).map (·.fmod 32)).map iI ++ sliceL (([3, 3, 3, 3, 1, 1] : List Int).map iI) (some ((min 6 ns.length : Nat) : Int)) none := by
      rw [sliceL_plain]
      unfold numsL
      rw [List.map_append, List.map_drop]
      congr 1
      simp only [Option.elim]
      rw [show clipAt (([3, 3, 3, 3, 1, 1] : List Int).map iI).length ((min 6 ns.length : Nat) : Int) = min (min 6 ns.length) 6 from clipAt_nat 6 _, Nat.min_eq_left (Nat.min_le_left _ _)]
      rw [List.take_of_length_le (by simp)]
    rw [e4]
    refine BodyOk.ret (ExOk.ret (EvOk.cat (a := .v (.obj S.length)) (EvOk.name (X := .obj S.length) rfl rfl rfl rfl) (EvOk.cut (r := .new (([3, 3, 3, 3, 1, 1] : List Int).map iI)) (EvOk.list (Vs := [.int 3, .int 3, .int 3, .int 3, .int 1, .int 1]) (EvsOk.cons (r := .at (.int 3)) rfl (EvOk.const rfl) (EvsOk.cons (r := .at (.int 3)) rfl (EvOk.const rfl) (EvsOk.cons (r := .at (.int 3)) rfl (EvOk.const rfl) (EvsOk.cons (r := .at (.int 3)) rfl (EvOk.const rfl) (EvsOk.cons (r := .at (.int 1)) rfl (EvOk.const rfl) (EvsOk.cons (r := .at (.int 1)) rfl (EvOk.const rfl) EvsOk.nil)))))) rfl (by show 6 ≤ sizeLine; decide))
      (PartOk.some (i := ((min 6 ns.length : Nat) : Int)) (EvOk.callB (id := "len") rfl rfl (by kernel_rfl) rfl (EvsOk.cons (r := .v (.obj S.length)) rfl (EvOk.name (X := .obj S.length) rfl rfl rfl rfl) EvsOk.nil) (hlen ▸ BiOk.lenL (objL_last _ _) (by rw [hlen]; omega)))) PartOk.none (by show (if 6 ≤ sizeLine then some _ else none) = _; rw [if_pos hs6])) ?_ rfl ?_))
    · show (match (S ++ [Ob.list (((ns.take 6).map (·.fmod 32)).map iI)])[S.length]? with | some (.list l) => some l | _ => none) = _
      rw [hk]
    · have := e4 ▸ (show ((numsL ns).map iI).length ≤ 12 from by unfold numsL; simp; omega)
      rw [List.length_append] at this
      have h12 : (12 : Nat) ≤ sizeLine := by decide
      omega
end Mine
end
section
/-! ## text R23 -/
set_option maxRecDepth 100000
set_option maxHeartbeats 400000
namespace Mine
/-! a comprehension whose elements change the world, by steps; no tests -/
section
variable {w : World} {A : Around} {E : Value → Shared → Prop} {B : Heap} {nm : Nm} {α α' α₀ : Al} {ρ ρ' : Rho} {env : Env} {s s' s₀ : Shared} {σ σ' σ₀ : List Ob} {P : Params} {W : Nat → Prop} {h h' : Heap} {I : Nat} {src : Src} {i : Nat}
noncomputable def CInvS (P : Params) (B : Heap) (α₀ : Al) (s₀ : Shared) (τ : Nat → List Ob) (src : Src) (L : List V) (f : V → It) (I D C : Nat) (k : Nat) (s' : Shared) : Prop :=
  ∃ i α' ys q m, k = L.length - i ∧ i ≤ L.length ∧ Post P B noW α₀ s₀ α' (τ i) s' ∧ IterSt α' s'.heap I src i ∧ s'.heap.get? D = some (listObj ys q) ∧ All2 (IIs α' s'.heap) ys ((L.take i).map f) ∧ s'.heap.Ns C m ∧ ¬ InX α' D ∧ ¬ InX α' C
theorem comp_loopS {n : Nat} {τ : Nat → List Ob} {elt iter : Expr} {x : Str} {px pos : Pos} {scope : Scope} {cl : List (Str × Addr)} {L : List V} {f : V → It} {RR : Result → Shared → Prop} {D C : Nat}
    (S : CompS nm ρ scope x) (hL : ∀ i, i ≤ L.length → srcL (τ i) src = some L) (hz : L.length ≤ sizeLine)
    (he : ∀ i X, L[i]? = some X → EvOk n scope.names (rhoC scope.names ρ x X) (τ i) elt (.v (.it (f X))) (τ (i + 1)))
    (bs : Bs w B) (rm : Room n A) (F : FR B nm α ρ env s.heap) (R : Rel w.params B α σ s.heap) (c1 : ∀ y c, cl.lookup y = some c → env.cells.lookup y = some c) (c2 : ∀ y, (y, NameKind.free) ∈ scope.names → ∃ c, cl.lookup y = some c)
    (hI : s.heap.get? I = none) (hsD : s.heap.get? D = none) (hsC : s.heap.get? C = none) (hBC : B.objs.size ≤ C)
    (hq : ∀ α' s' m, Post w.params B noW α s α' (τ L.length) s' → RIs s.heap α' s'.heap (.ref D) (.new (L.map f)) → s'.heap.Ns C m → ¬ InX α' C → RR (.ok .next) s') {k : Nat} (h0 : CInvS w.params B α s τ src L f I D C k s') :
    codeAny (Mo w) A (.compLoop (.ListComp elt [⟨.Name x px, iter, [], 0⟩] scope pos) 0 (.ref I) (.ref D) (compEnvC scope cl C env)) RR s' := by
  have hBI := R.noneB hI
  refine codeAny_compLoop_tests (CInvS w.params B α s τ src L f I D C) ?_ k h0
  rintro k s' ⟨i, α', ys, q, m, rfl, hiL, pp, H, hD, hys, hCs, nD, nC⟩
  have hICne : I ≠ C := by
    rintro rfl
    obtain ⟨o, e, fs, d⟩ := H.fields
    obtain ⟨o', es, ep, e', d', _⟩ := hCs
    rw [e] at e'; cases e'; rw [d] at d'; cases d'
  have hIDne : I ≠ D := by
    rintro rfl
    obtain ⟨o, e, fs, d⟩ := H.fields
    rw [e] at hD; cases hD; cases d
  have hDC : D ≠ C := by
    rintro rfl
    obtain ⟨o', es, ep, e', d', _⟩ := hCs
    rw [hD] at e'; cases e'; cases d'
  rcases Nat.lt_or_ge i L.length with hlt | hge
  · have ei : L[i]? = some L[i] := List.getElem?_eq_getElem hlt
    generalize hXd : L[i] = X at ei
    obtain ⟨xi, hxi⟩ := srcIt (hL i hiL) ei
    refine next_item pp.rel H (hL i hiL) ei fun v h' tk hs' H' hv => ?_
    have pa := pp.butT (tk := tk) hs'.extBut hI (H.notX pp.rel) hBI H.nt
    have hv' : VIs α' h' v X := by
      subst hxi
      exact IIs.butT (show IIs α' s'.heap v xi from hv) hs'.extBut H.nt
    have hCs' : h'.Ns C m := hCs.sameBut hs' (Ne.symm hICne)
    refine wpAny_assign_Name (wpAny_storeName_local (lookup_relabel_local S.var) hCs' (fun h₂ hn₂ hs₂ => ?_) (by simp [compEnvC, relabel, S.kind]))
    have pb := pa.butT (tk := tk + 1) hs₂.extBut hsC nC (R.noneB hsC) (ns_nt hCs')
    have hv₂ : VIs α' h₂ v X := by
      subst hxi
      exact IIs.butT (show IIs α' h' v xi from hv') hs₂.extBut (ns_nt hCs')
    have H₂ : IterSt α' h₂ I src (i + 1) := by
      have := H'.move (m := []) (h' := h₂) fun o e => hs₂.extBut _ _ hICne e
      rwa [List.append_nil] at this
    have hD₂ : h₂.get? D = some (listObj ys q) := hs₂.extBut _ _ hDC (hs'.extBut _ _ (Ne.symm hIDne) hD)
    have hys₂ : All2 (IIs α' h₂) ys ((L.take i).map f) := hys.imp fun _ _ z => (z.butT hs'.extBut H.nt).butT hs₂.extBut (ns_nt hCs')
    have FC := comp_FR (F.post R pb) S c1 c2 hn₂ (by simp) hv₂ nC hBC pb.rel.base (by rw [hxi]; rfl)
    have take1 : (L.take (i + 1)).map f = (L.take i).map f ++ [f X] := by
      rw [List.take_add_one, ei]
      simp only [Option.toList_some, List.map_append, List.map_cons, List.map_nil]
    refine wpAny_tests_nil ?_
    refine he i X ei w A B α' _ _ _ _ bs rm FC pb.rel fun y α4 s4 p4 r4 => ?_
    obtain ⟨m4, em4, hm4⟩ := p4.ext
    have nD4 : ¬ InX α4 D := em4 ▸ not_inX nD hm4 hD₂
    have nC4 : ¬ InX α4 C := em4 ▸ (let ⟨o, _, _, e, _⟩ := hn₂; not_inX nC hm4 e)
    have H4 := H₂.post pb.rel id p4
    have hD4 := p4.frm _ _ hD₂ nD id
    have hys4 := hys₂.imp fun _ _ z => p4.iis z fun _ _ _ z => z.elim
    have hC4 : s4.heap.Ns C _ := hn₂.at' fun o e => p4.frm _ _ e nC id
    have hlen : ys.toArray.size ≤ sizeLine := by
      have e1 := hys4.length
      have e3 : (L.take i).length ≤ L.length := by rw [List.length_take]; omega
      rw [List.length_map] at e1
      rw [List.size_toArray]; omega
    refine wpAny_list_append_plain (hsz := hlen) (items := ys.toArray) ⟨q, hD4⟩ fun h₅ hl₅ hs₅ => ?_
    have p34 := pb.trans p4
    have p5 := p34.butT (tk := s4.toks) hs₅.extBut hsD nD4 (R.noneB hsD) (list_nt hD4)
    obtain ⟨q5, e5⟩ := hl₅
    refine ⟨_, ?_, i + 1, α4, ys ++ [y], q5, _, rfl, hlt, p5, ?_, ?_, ?_, hC4.sameBut hs₅ (Ne.symm hDC), nD4, nC4⟩
    · omega
    · have := H4.move (m := []) (h' := h₅) fun o e => hs₅.extBut _ _ hIDne e
      rwa [List.append_nil] at this
    · rw [e5]; simp
    · rw [take1]
      refine All2.app (hys4.imp fun _ _ z => z.butT hs₅.extBut (list_nt hD4)) (.cons ?_ .nil)
      exact IIs.butT (show IIs α4 s4.heap y (f X) from r4) hs₅.extBut (list_nt hD4)
  · have hiL' : i = L.length := Nat.le_antisymm hiL hge
    subst hiL'
    refine next_end rm.hh pp.rel H (hL _ hiL) hge fun h' hx => ?_
    have pa := pp.butT (tk := s'.toks) hx hI (H.notX pp.rel) hBI H.nt
    refine hq α' _ m pa ⟨D, ys, q, rfl, hsD, nD, hx _ _ (Ne.symm hIDne) hD, ?_⟩ (hCs.extBut hx (Ne.symm hICne)) nC
    have := hys.imp fun _ _ z => z.butT hx H.nt
    rwa [List.take_length] at this
theorem comp_coreS {n : Nat} {τ : Nat → List Ob} {elt iter : Expr} {x : Str} {px pos pos' : Pos} {scope : Scope} {L : List V} {f : V → It} {use : Option (Value → Sem Unit)} {Q : Value → Shared → Prop}
    (S : CompS nm ρ scope x) (hi : IterOk n nm ρ σ iter src (τ 0)) (hL : ∀ i, i ≤ L.length → srcL (τ i) src = some L) (hz : L.length ≤ sizeLine) (hs : ∀ env x, foldedSetIterable iter env x = pure x)
    (he : ∀ i X, L[i]? = some X → EvOk n scope.names (rhoC scope.names ρ x X) (τ i) elt (.v (.it (f X))) (τ (i + 1)))
    (bs : Bs w B) (rm : Room n A) (F : FR B nm α ρ env s.heap) (R : Rel w.params B α σ s.heap)
    (hq : ∀ (D C : Nat) α' s' m, Post w.params B noW α s α' (τ L.length) s' → RIs s.heap α' s'.heap (.ref D) (.new (L.map f)) → s'.heap.Ns C m → ¬ InX α' C → s.heap.get? C = none → C ≠ D → compPost (Mo w) A E use Q (.ref D) C (.ok .next) s') :
    wpAny (Mo w) A (comprehension (.ListComp elt [⟨.Name x px, iter, [], 0⟩] scope pos) scope env pos' (newList []) false (eval iter env) use) Q E s := by
  obtain ⟨cl, hclos, c1, c2⟩ := closure_ok (env := env) (scope := scope) (fun y hy hk => by
    obtain ⟨e1, e2⟩ := S.free y hy hk
    obtain ⟨Y, hY, _⟩ := any_some e2
    have hkc : env.kindOf y.1 = some .cell := by
      rcases F.kinds y.1 _ e1 with e | ⟨e, _⟩
      · exact e
      · cases e
    obtain ⟨c, _, a, _⟩ := F.cells y.1 Y hY (.inl hkc)
    exact ⟨c, a⟩)
  refine wpAny_comprehension_free (g := ⟨.Name x px, iter, [], 0⟩) (gs := []) (use := use) rfl (hs env) hclos S.kind S.names ?_
  refine hi w A B α env s _ _ bs rm F R fun I α1 s1 p1 hI H1 => ?_
  refine wpAny_newObj_type (wpAny_newFunctionEnv S.cell (by intro y hy; simp at hy) (fun h₁ hns₁ hsb₁ => ?_) S.kind)
  dsimp only at hns₁ hsb₁ ⊢
  generalize hH2 : s1.heap.push { cls := .type "list", dict := none, data := .seq ([] : List Value).toArray } = H2 at hns₁ hsb₁ ⊢
  have hC : H2.objs.size = s1.heap.objs.size + 1 := by rw [← hH2, Heap.size_push]
  have hDC : s1.heap.objs.size ≠ H2.objs.size := by omega
  have kp : ∀ (b : Nat) o, s1.heap.get? b = some o → h₁.get? b = some o := fun b o e => by
    have hb := Heap.lt_size e
    exact hsb₁.extBut b o (Nat.ne_of_lt (Nat.lt_trans hb (hC ▸ Nat.lt_succ_self _))) (Heap.get?_push_of_some _ (hH2 ▸ Heap.get?_push_of_some _ e))
  have hD1 : h₁.get? s1.heap.objs.size = some (listObj [] 0) := hsb₁.extBut _ _ hDC (Heap.get?_push_of_some _ (hH2 ▸ Heap.get?_push_size _ rfl))
  have hDn : s1.heap.get? s1.heap.objs.size = none := Heap.get?_none_of_le (Nat.le_refl _)
  have hCn : s1.heap.get? H2.objs.size = none := Heap.get?_none_of_le (by omega)
  have hBC : B.objs.size ≤ H2.objs.size := Nat.le_trans (p1.rel.sizeB bs) (by omega)
  have p2 : Post w.params B noW α s α1 (τ 0) { s1 with heap := h₁, toks := s1.toks + ([] : List (Str × Value)).length } := p1.trans (Post.ofKeeps p1.rel kp)
  have nX : ∀ {b : Nat}, s1.heap.get? b = none → ¬ InX α1 b := fun hb q => by
    obtain ⟨o, e, _⟩ := p1.rel.inX_some q
    rw [hb] at e; cases e
  have H1' : IterSt α1 h₁ I src 0 := by
    have := H1.move (m := []) (h' := h₁) fun o e => kp _ _ e
    rwa [List.append_nil] at this
  have loop : codeAny (Mo w) A (.compLoop (.ListComp elt [⟨.Name x px, iter, [], 0⟩] scope pos) 0 (.ref I) (.ref s1.heap.objs.size) (compEnvC scope cl H2.objs.size env)) (compPost (Mo w) A E use Q (.ref s1.heap.objs.size) H2.objs.size) { s1 with heap := h₁, toks := s1.toks + ([] : List (Str × Value)).length } := by
    refine comp_loopS (src := src) (L := L) (f := f) (τ := τ) S hL hz he bs rm F R c1 c2 hI (p1.grow _ hDn) (p1.grow _ hCn) hBC (fun α' s' m a b c d => hq _ _ α' s' m a b c d (p1.grow _ hCn) (Ne.symm hDC)) (k := L.length) ⟨0, α1, [], 0, _, rfl, Nat.zero_le _, p2, H1', hD1, .nil, hns₁, nX hDn, nX hCn⟩
  exact codeAny_compStart_list loop (iter_self H1' loop)
theorem EvOk.compS {n : Nat} (τ : Nat → List Ob) {σ' : List Ob} {elt iter : Expr} {x : Str} {px pos : Pos} {scope : Scope} {L : List V} {f : V → It}
    (S : CompS nm ρ scope x) (hi : IterOk n nm ρ σ iter src (τ 0)) (hL : ∀ i, i ≤ L.length → srcL (τ i) src = some L) (hz : L.length ≤ sizeLine) (hs : ∀ env x, foldedSetIterable iter env x = pure x)
    (he : ∀ i X, L[i]? = some X → EvOk n scope.names (rhoC scope.names ρ x X) (τ i) elt (.v (.it (f X))) (τ (i + 1))) (hσ : τ L.length = σ') :
    EvOk n nm ρ σ (.ListComp elt [⟨.Name x px, iter, [], 0⟩] scope pos) (.new (L.map f)) σ' := by
  subst hσ
  intro w A B α env s Q E bs rm F R hq
  rw [eval_ListComp]
  refine comp_coreS (f := f) (use := none) (τ := τ) S hi hL hz hs he bs rm F R fun D C α' s' m pp rr hn nC hC hCD => ?_
  refine ⟨m, hn, fun h' hs' => ?_⟩
  have p2 := pp.butT (tk := s'.toks) hs'.extBut hC nC (R.noneB hC) (ns_nt hn)
  refine hq _ _ _ p2 ?_
  obtain ⟨a, vs, k, e, e1, e2, e3, e4⟩ := rr
  cases e
  exact ⟨D, vs, k, rfl, e1, e2, hs'.extBut _ _ (Ne.symm hCD) e3, e4.imp fun _ _ z => z.butT hs'.extBut (ns_nt hn)⟩
/-- what an expression leaves behind and nobody sees -/
theorem EvOk.drop {n : Nat} {e : Expr} {σ' junk : List Ob} {r : RV} (h : EvOk n nm ρ σ e r (σ' ++ junk)) (hl : σ'.length = σ.length) (hc : σ'.all (clOb σ.length) = true) (hr : clRV σ.length r = true) : EvOk n nm ρ σ e r σ' := by
  intro w A B α env s Q E bs rm F R hq
  refine h w A B α env s Q E bs rm F R fun v α' s' p rr => ?_
  obtain ⟨m, rfl, hm⟩ := p.ext
  have hlen : α.length = σ.length := R.obs.length
  have R2 : Rel w.params B α σ' s'.heap := by
    refine ⟨p.rel.base, R.new, ?_, R.apart⟩
    refine all2_mem (all2_split (l := α) (m := σ') (hlen.trans hl.symm) p.rel.obs) fun q hq ob hob z => ?_
    exact cut_ob hlen (List.all_eq_true.mp hc ob hob) z
  refine hq v α s' ⟨p.like, ⟨[], by simp, fun _ h => nomatch h⟩, p.frm, p.grow, R2⟩ ?_
  cases r with
  | v x => exact cut_v hlen hr rr
  | new l => obtain ⟨a, vs, q, e1, e2, e3, e4, e5⟩ := rr; exact ⟨a, vs, q, e1, e2, fun z => e3 z.app, e4, cut_its hlen hr e5⟩
theorem TrOk.drop {n : Nat} {e : Expr} {σ' junk : List Ob} {b : Bool} (h : TrOk n nm ρ σ e b (σ' ++ junk)) (hl : σ'.length = σ.length) (hc : σ'.all (clOb σ.length) = true) : TrOk n nm ρ σ e b σ' := by
  intro w A B α env s Q E bs rm F R hq
  refine h w A B α env s Q E bs rm F R fun α' s' p => ?_
  obtain ⟨m, rfl, hm⟩ := p.ext
  have hlen : α.length = σ.length := R.obs.length
  have R2 : Rel w.params B α σ' s'.heap := by
    refine ⟨p.rel.base, R.new, ?_, R.apart⟩
    refine all2_mem (all2_split (l := α) (m := σ') (hlen.trans hl.symm) p.rel.obs) fun q hq ob hob z => ?_
    exact cut_ob hlen (List.all_eq_true.mp hc ob hob) z
  exact hq α s' ⟨p.like, ⟨[], by simp, fun _ h => nomatch h⟩, p.frm, p.grow, R2⟩
/-- a loop with an invariant, that goes to its end -/
theorem loop_inv {n : Nat} {tg : Expr} {body : List Stmt} {L : List V} (St : Nat → Rho → List Ob → Prop) (hsrc : ∀ i ρ σ, St i ρ σ → srcL σ src = some L)
    (step : ∀ i X ρ σ, L[i]? = some X → St i ρ σ → ∃ ρ₁ ρ₂ σ₂, TgOk nm ρ src tg X ρ₁ ∧ ExsOk n nm ρ₁ σ body .go ρ₂ σ₂ ∧ St (i + 1) ρ₂ σ₂) :
    ∀ (d i : Nat) (ρ : Rho) (σ : List Ob), i + d = L.length → St i ρ σ → ∃ k ρ' σ', LoopD n nm src tg body k i ρ σ .go ρ' σ' ∧ St L.length ρ' σ'
  | 0, i, ρ, σ, h, hS => ⟨0, ρ, σ, .done (hsrc _ _ _ hS) (by omega), (show i = L.length by omega) ▸ hS⟩
  | d + 1, i, ρ, σ, h, hS => by
    have hi : i < L.length := by omega
    obtain ⟨ρ₁, ρ₂, σ₂, t, b, hS'⟩ := step i L[i] ρ σ (List.getElem?_eq_getElem hi) hS
    obtain ⟨k, ρ', σ', D, hE⟩ := loop_inv St hsrc step d (i + 1) ρ₂ σ₂ (by omega) hS'
    exact ⟨k + 1, ρ', σ', .step (hsrc _ _ _ hS) (List.getElem?_eq_getElem hi) t b D, hE⟩
end
end Mine
end
section
/-! ## text R24 -/
open PySem.Builtin PySem.Builtin.Str PySem.StrLaws
set_option maxRecDepth 100000
set_option maxHeartbeats 400000
namespace Mine
section
variable {n : Nat} {nm : Nm} {ρ ρ₁ ρ₂ ρ' : Rho} {σ σ₁ σ₂ σ₃ : List Ob} {src : Src}
theorem ExsOk.congrIn {ss : List Stmt} {o : Out} (e : ∀ x, ρ'.lookup x = ρ.lookup x) (h : ExsOk n nm ρ' σ ss o ρ₁ σ₁) : ExsOk n nm ρ σ ss o ρ₁ σ₁ :=
  fun w A B α env s Q E bs rm F R hq => h w A B α env s Q E bs rm (F.congr e) R hq
theorem BodyOk.congrIn {ss : List Stmt} {r : RV} (e : ∀ x, ρ'.lookup x = ρ.lookup x) (h : BodyOk n nm ρ' σ ss r σ₁) : BodyOk n nm ρ σ ss r σ₁ := by
  obtain ⟨o, ρ₁, h, hr⟩ := h
  exact ⟨o, ρ₁, h.congrIn e, hr⟩
theorem EvOk.congr {e : Expr} {r : RV} (q : ∀ x, ρ'.lookup x = ρ.lookup x) (h : EvOk n nm ρ' σ e r σ₁) : EvOk n nm ρ σ e r σ₁ :=
  fun w A B α env s Q E bs rm F R hq => h w A B α env s Q E bs rm (F.congr q) R hq
/-- fewer names -/
noncomputable def SubR (ρ' ρ : Rho) : Prop := ∀ x X, ρ'.lookup x = some X → ρ.lookup x = some X
theorem FR.sub {B : Heap} {α : Al} {env : Env} {h : Heap} (F : FR B nm α ρ env h) (e : SubR ρ' ρ) : FR B nm α ρ' env h := by
  obtain ⟨m, hF, hm⟩ := F.fr
  exact ⟨F.fkind, F.glob, F.blt, F.kinds, ⟨m, hF, fun x X h1 h2 => hm x X (e x X h1) h2⟩, fun x X h1 h2 => F.cells x X (e x X h1) h2, F.off, fun x a h1 => F.nods x a (e x _ h1)⟩
theorem FW.sub {B : Heap} {α : Al} {env : Env} {h : Heap} (F : FW B nm α ρ env h) (e : SubR ρ' ρ) : FW B nm α ρ' env h :=
  ⟨F.toFR.sub e, F.cellOk, F.cap⟩
theorem ExsOk.sub {ss : List Stmt} {o : Out} (e : SubR ρ' ρ) (h : ExsOk n nm ρ' σ ss o ρ₁ σ₁) : ExsOk n nm ρ σ ss o ρ₁ σ₁ :=
  fun w A B α env s Q E bs rm F R hq => h w A B α env s Q E bs rm (F.sub e) R hq
theorem BodyOk.sub {ss : List Stmt} {r : RV} (e : SubR ρ' ρ) (h : BodyOk n nm ρ' σ ss r σ₁) : BodyOk n nm ρ σ ss r σ₁ := by
  obtain ⟨o, ρ₁, h, hr⟩ := h
  exact ⟨o, ρ₁, h.sub e, hr⟩
theorem SubR.refl : SubR ρ ρ := fun _ _ h => h
theorem SubR.trans {ρ₁ ρ₂ ρ₃ : Rho} (a : SubR ρ₁ ρ₂) (b : SubR ρ₂ ρ₃) : SubR ρ₁ ρ₃ := fun x X h => b x X (a x X h)
/-- a name is given, the base holds it not -/
theorem SubR.tg {base : Rho} {y : Str} {Y : V} (h : SubR base ρ) (hb : base.lookup y = none) : SubR (base ++ [(y, Y)]) (setL ρ y Y) := fun x X e => by
  rw [lookup_setL]
  by_cases q : x = y
  · subst q
    rw [List.lookup_append, hb] at e
    simp at e
    rw [if_pos rfl, e]
  · rw [if_neg q]
    rw [List.lookup_append, List.lookup_cons, beq_false_of_ne q] at e
    refine h x X ?_
    cases hl : base.lookup x with
    | none => rw [hl] at e; simp at e
    | some Z => rw [hl] at e; simpa using e
theorem SubR.set {base : Rho} {y : Str} {Y : V} (h : SubR base ρ) (hb : base.lookup y = none) : SubR base (setL ρ y Y) := fun x X e => by
  rw [lookup_setL]
  by_cases q : x = y
  · subst q; rw [hb] at e; cases e
  · rw [if_neg q]; exact h x X e
theorem SubR.app {base m : Rho} : SubR base (base ++ m) := fun x X e => by
  rw [List.lookup_append, e]; rfl
theorem SubR.get {base : Rho} {x : Str} {X : V} (h : SubR base ρ) (e : base.lookup x = some X) : ρ.lookup x = some X := h x X e
/-- the same names, but for those named -/
noncomputable def EqOff (names : List Str) (ρ base : Rho) : Prop := ∀ x, x ∉ names → ρ.lookup x = base.lookup x
theorem EqOff.refl {names : List Str} : EqOff names ρ ρ := fun _ _ => rfl
theorem EqOff.set {names : List Str} {base : Rho} {y : Str} {Y : V} (h : EqOff names ρ base) (hy : y ∈ names) : EqOff names (setL ρ y Y) base := fun x hx => by
  rw [lookup_setL, if_neg (show ¬ x = y from fun e => hx (by rw [e]; exact hy)), h x hx]
/-- the names of the loop, made plain -/
theorem EqOff.one {base : Rho} {y : Str} {Y : V} (h : EqOff [y] ρ base) (hb : base.lookup y = none) : ∀ x, (base ++ [(y, Y)]).lookup x = (setL ρ y Y).lookup x := fun x => by
  rw [lookup_setL]
  by_cases e : x = y
  · subst e
    rw [if_pos rfl, List.lookup_append, hb]
    simp
  · rw [if_neg e, List.lookup_append, h x (by simpa using e), List.lookup_cons, beq_false_of_ne e]
    simp
theorem BodyOk.forInv {tg iter : Expr} {body : List Stmt} {pos : Pos} {ss : List Stmt} {r : RV} {L : List V} (St : Nat → Rho → List Ob → Prop) (hi : IterOk n nm ρ σ iter src σ₁) (hs : ∀ env x, foldedSetIterable iter env x = pure x)
    (hsrc : ∀ i ρ σ, St i ρ σ → srcL σ src = some L) (h0 : St 0 ρ σ₁)
    (step : ∀ i X ρ σ, L[i]? = some X → St i ρ σ → ∃ ρ₁ ρ₂ σ₂, TgOk nm ρ src tg X ρ₁ ∧ ExsOk n nm ρ₁ σ body .go ρ₂ σ₂ ∧ St (i + 1) ρ₂ σ₂)
    (h2 : ∀ ρ' σ', St L.length ρ' σ' → BodyOk n nm ρ' σ' ss r σ₃) : BodyOk n nm ρ σ (.For tg iter body [] pos :: ss) r σ₃ := by
  obtain ⟨k, ρ', σ', D, hE⟩ := loop_inv St hsrc step L.length 0 ρ σ₁ (by omega) h0
  exact BodyOk.cons (ExOk.for hi D hs) (h2 ρ' σ' hE)
theorem ExsOk.forInv {tg iter : Expr} {body : List Stmt} {pos : Pos} {ss : List Stmt} {o : Out} {L : List V} (St : Nat → Rho → List Ob → Prop) (hi : IterOk n nm ρ σ iter src σ₁) (hs : ∀ env x, foldedSetIterable iter env x = pure x)
    (hsrc : ∀ i ρ σ, St i ρ σ → srcL σ src = some L) (h0 : St 0 ρ σ₁)
    (step : ∀ i X ρ σ, L[i]? = some X → St i ρ σ → ∃ ρ₁ ρ₂ σ₂, TgOk nm ρ src tg X ρ₁ ∧ ExsOk n nm ρ₁ σ body .go ρ₂ σ₂ ∧ St (i + 1) ρ₂ σ₂)
    (h2 : ∀ ρ' σ', St L.length ρ' σ' → ∃ ρ₂, ExsOk n nm ρ' σ' ss o ρ₂ σ₃) : ∃ ρ₂, ExsOk n nm ρ σ (.For tg iter body [] pos :: ss) o ρ₂ σ₃ := by
  obtain ⟨k, ρ', σ', D, hE⟩ := loop_inv St hsrc step L.length 0 ρ σ₁ (by omega) h0
  obtain ⟨ρ₂, h⟩ := h2 ρ' σ' hE
  exact ⟨ρ₂, ExsOk.cons (ExOk.for hi D hs) h⟩
theorem look_rhoC {names : Nm} {x y : Str} {X Y : V} (hf : (names.lookup y == some .free) = true) (hne : (y == x) = false) (h : ρ.lookup y = some Y) : (rhoC names ρ x X).lookup y = some Y := by
  unfold rhoC
  rw [List.lookup_cons, hne]
  dsimp only
  rw [lookup_filterK (q := fun z => names.lookup z == some .free), if_pos hf, h]
theorem clAt_mono {k k' : Nat} (hk : k ≤ k') : ∀ {a : At}, clAt k a = true → clAt k' a = true
  | .obj i, h => by
    have : i < k := of_decide_eq_true h
    exact decide_eq_true (by omega)
  | .none, _ | .bool _, _ | .int _, _ | .str _, _ | .ty _, _ | .ref _, _ | .bi _, _ => rfl
theorem clIt_mono {k k' : Nat} (hk : k ≤ k') : ∀ {x : It}, clIt k x = true → clIt k' x = true
  | .at a, h => clAt_mono hk h
  | .tup l, h => by
    show l.all (clAt k') = true
    rw [List.all_eq_true]; intro a ha; exact clAt_mono hk (List.all_eq_true.mp h a ha)
theorem clOb_mono {k k' : Nat} (hk : k ≤ k') : ∀ {o : Ob}, clOb k o = true → clOb k' o = true
  | .list l, h => by
    show l.all (clIt k') = true
    rw [List.all_eq_true]; intro a ha; exact clIt_mono hk (List.all_eq_true.mp h a ha)
  | .hdr none, _ => rfl
  | .hdr (some a), h => clAt_mono hk h
theorem Cl.push {o : Ob} (h : Cl σ) (ho : clOb (σ.length + 1) o = true) : Cl (σ ++ [o]) := by
  unfold Cl at h ⊢
  rw [List.all_eq_true, List.length_append]
  intro x hx
  rcases List.mem_append.mp hx with hx | hx
  · exact clOb_mono (Nat.le_add_right _ _) (List.all_eq_true.mp h x hx)
  · rw [List.mem_singleton.mp hx]; exact ho
theorem Cl.set {o : Ob} {k : Nat} (h : Cl σ) (ho : clOb σ.length o = true) : Cl (σ.set k o) := by
  unfold Cl at h ⊢
  rw [List.length_set, List.all_eq_true]
  intro ob hob
  rcases List.mem_or_eq_of_mem_set hob with hm | rfl
  · exact List.all_eq_true.mp h ob hm
  · exact ho
noncomputable def strI (x : Str) : It := .at (.str x)
theorem cl_strs (k : Nat) (l : List Str) : (l.map strI).all (clIt k) = true := by
  rw [List.all_eq_true]; intro x hx; obtain ⟨y, _, rfl⟩ := List.mem_map.mp hx; rfl
theorem Cl.pushS (h : Cl σ) (l : List Str) : Cl (σ ++ [.list (l.map strI)]) := h.push (cl_strs _ l)
theorem strsIt_mapI (l : List Str) : strsIt (l.map strI) = some l := strsIt_map l
theorem objL_app {j : Nat} {l : List It} {m : List Ob} (h : objL σ j = some l) : objL (σ ++ m) j = some l := by
  unfold objL at h ⊢
  cases e : σ[j]? with
  | none => rw [e] at h; cases h
  | some o => rw [e] at h; rw [List.getElem?_append_left (List.getElem?_eq_some_iff.mp e).1, e]; exact h
theorem objL_get {j : Nat} {l : List It} (h : objL σ j = some l) : σ[j]? = some (.list l) := by
  unfold objL at h
  split at h
  · cases h; assumption
  · cases h
theorem objL_of {j : Nat} {l : List It} (h : σ[j]? = some (.list l)) : objL σ j = some l := by unfold objL; rw [h]
theorem objL_lt {j : Nat} {l : List It} (h : objL σ j = some l) : j < σ.length := (List.getElem?_eq_some_iff.mp (objL_get h)).1
theorem seqOf_obj {j : Nat} {l : List It} (h : objL σ j = some l) : seqOf σ (.v (.obj j)) = some l := by
  unfold seqOf; dsimp only; rw [objL_get h]
theorem srcL_obj {j : Nat} {l : List It} (h : objL σ j = some l) : srcL σ (.lst j) = some (l.map V.it) := by
  unfold srcL; dsimp only; rw [objL_get h]
theorem pick_nat {β : Type} {l : List β} {i : Nat} {x : β} (h : l[i]? = some x) (hi : i < 2 ^ 62) : pick l (i : Int) = some x := by
  unfold pick
  rw [if_pos (by omega), if_pos (by omega), Int.toNat_natCast, h]
theorem idx_obj {j i : Nat} {l : List It} {x : It} (h : objL σ j = some l) (hx : l[i]? = some x) (hi : i < 2 ^ 62) : idxI σ (.v (.obj j)) (.int (i : Int)) = some (.it x) := by
  show (match seqOf σ (.v (.obj j)) with | some l => (pick l (i : Int)).map V.it | none => _) = _
  rw [seqOf_obj h]
  dsimp only
  rw [pick_nat hx hi]; rfl
/-- ''.join(fresh list) -/
theorem EvOk.joinNew {k : Nat} {p ap pos : Pos} {e : Expr} {l : List It} {ys : List Str} {x : Str} (hc : Cl σ) (hf : methForm (.Constant (.str x) k p) "join" ap pos [e] []) (hp : plainE e = true) (h : EvOk n nm ρ σ e (.new l) σ) (hs : strsIt l = some ys) (hok : JoinOk x ys = true) :
    EvOk n nm ρ σ (.Call (.Attribute (.Constant (.str x) k p) "join" ap) [e] [] pos) (.at (.str (Txt.join x ys))) σ :=
  EvOk.drop (junk := [.list l]) (EvOk.methB (r0 := .at (.str x)) (id := "str.join") hf (by simp [hp]) (EvOk.const rfl) (MbOk.str fun M A s pl Q E t h => GM.join h) (EvsOk.cons hp h EvsOk.nil) (BiOk.join (objL_last _ _) hs hok)) rfl hc rfl
theorem EqOff.app1 {base : Rho} {y : Str} {Y : V} : EqOff [y] (base ++ [(y, Y)]) base := fun x hx => by
  have e : ¬ x = y := by simpa using hx
  rw [List.lookup_append, List.lookup_cons, beq_false_of_ne e]
  simp
theorem BodyOk.reach {ss : List Stmt} {r : RV} (h : ∃ o ρ', ExsOk n nm ρ σ ss o ρ' σ₁ ∧ retOf o = some r) : BodyOk n nm ρ σ ss r σ₁ := h
end
end Mine
end
section
/-! ## text P13 -/
open PySem.Builtin PySem.Builtin.Str PySem.StrLaws
set_option maxRecDepth 100000
set_option maxHeartbeats 400000
namespace Mine
/-- switch i turns lamp j -/
noncomputable def turnB (ns : List Nat) (i j : Nat) : Bool := (ns.getD (min i j) 0).testBit (if i ≤ j then j - i else i - j)
theorem fdiv_bit (a k : Nat) : (((a : Int).fdiv ((2 : Int) ^ k)).fmod 2 == 1) = a.testBit k := by
  have e1 : ((2 : Int) ^ k) = ((2 ^ k : Nat) : Int) := by simp
  rw [e1, Int.fdiv_eq_ediv_of_nonneg _ (Int.natCast_nonneg _), Int.fmod_eq_emod_of_nonneg _ (by decide)]
  rw [Nat.testBit_eq_decide_div_mod_eq]
  rw [Bool.eq_iff_iff, beq_iff_eq, decide_eq_true_eq]
  have e2 : ((a : Int) / ((2 ^ k : Nat) : Int)) % 2 = ((a / 2 ^ k % 2 : Nat) : Int) := by simp
  rw [e2]; omega
noncomputable def natI (k : Nat) : It := .at (.int (k : Int))
noncomputable def natOf : V → Nat
  | .it (.at (.int i)) => i.toNat
  | _ => 0
noncomputable def ltrI (X : V) : It := strI (ch (97 + natOf X))
theorem filt5 (q : Nat → Bool) : ((List.range 5).filter q).map (fun j => ch (97 + j)) = abcL (q 0) (q 1) (q 2) (q 3) (q 4) := by
  show (([0, 1, 2, 3, 4] : List Nat).filter q).map _ = _
  unfold abcL
  simp only [List.filter_cons, List.filter_nil]
  cases q 0 <;> cases q 1 <;> cases q 2 <;> cases q 3 <;> cases q 4 <;> rfl
theorem joinOk_abcL : ∀ a b c d e : Bool, JoinOk "" (abcL a b c d e) = true := by decide +kernel
theorem comp5 (q : Nat → Bool) : ((((List.range 5).map fun i => V.int (i : Nat)).filter fun X => q (natOf X)).map ltrI) = (abcL (q 0) (q 1) (q 2) (q 3) (q 4)).map strI := by
  rw [← filt5, List.filter_map, List.map_map, List.map_map]
  rfl
theorem letter_at : ∀ j : Nat, j < 5 → strAt "abcde" (j : Int) = some (ch (97 + j)) := by decide +kernel
noncomputable def rowM (ns : List Nat) (i : Nat) : Nat := maskQ (turnB ns i 0) (turnB ns i 1) (turnB ns i 2) (turnB ns i 3) (turnB ns i 4)
/-- five rows of lamps -/
noncomputable def rowsT (f : Nat → Nat) : List It := (List.range 5).map fun i => strI (sub (f i))
theorem mem_rng5 {X : V} (h : X ∈ (List.range 5).map fun i => V.int (i : Nat)) : ∃ j : Nat, j < 5 ∧ X = .int (j : Nat) := by
  obtain ⟨j, hj, e⟩ := List.mem_map.mp h
  exact ⟨j, List.mem_range.mp hj, e.symm⟩
theorem pyl (x : Int) : ∀ k < 5, divisionGoesByPylong x ((2 : Int) ^ k) = false := fun k hk => PyProof.noPylong_of_log2 (by
  match k, hk with
  | 0, _ | 1, _ | 2, _ | 3, _ | 4, _ => decide)
/-- numbers[min(i, j)] // 2 ** abs(i - j) % 2 == 1 -/
theorem bit_val {σ : List Ob} {ns : List Nat} {jj i j : Nat} (hj : objL σ jj = some (ns.map natI)) (hl : ns.length = 6) (hi5 : i < 5) (hj5 : j < 5) :
    idxI σ (.v (.obj jj)) (.int (if (j : Int) < (i : Int) then (j : Int) else (i : Int))) = some (.int ((ns.getD (min i j) 0 : Nat) : Int)) := by
  have e : (if (j : Int) < (i : Int) then (j : Int) else (i : Int)) = ((min i j : Nat) : Int) := by
    split <;> omega
  rw [e]
  have hm : min i j < ns.length := by omega
  refine idx_obj (x := natI (ns.getD (min i j) 0)) hj ?_ (by omega)
  rw [List.getElem?_map, List.getD_eq_getElem?_getD, List.getElem?_eq_getElem hm]; rfl
theorem abs_val {i j : Nat} : (if (i : Int) - (j : Int) < 0 then -((i : Int) - (j : Int)) else (i : Int) - (j : Int)) = (((if i ≤ j then j - i else i - j) : Nat) : Int) := by
  split <;> split <;> omega
end Mine
end
section
/-! ## text P14 -/
open PySem.Builtin PySem.Builtin.Str PySem.StrLaws
set_option maxRecDepth 100000
set_option maxHeartbeats 400000
namespace Mine
theorem push_set {σ : List Ob} {a b : Ob} : (σ ++ [a]).set σ.length b = σ ++ [b] := by
  rw [List.set_append_right _ _ (Nat.le_refl _), Nat.sub_self]; rfl
noncomputable def rowsN (f : Nat → Nat) (k : Nat) : List It := (List.range k).map fun i => strI (sub (f i))
theorem rowsN_succ (f : Nat → Nat) (k : Nat) : rowsN f (k + 1) = rowsN f k ++ [strI (sub (f k))] := by
  unfold rowsN; rw [List.range_succ, List.map_append]; rfl
theorem cl_rowsN (f : Nat → Nat) (k c : Nat) : (rowsN f k).all (clIt c) = true := by
  rw [List.all_eq_true]; intro x hx; obtain ⟨i, _, rfl⟩ := List.mem_map.mp hx; rfl
theorem rowsN_len (f : Nat → Nat) (k : Nat) : (rowsN f k).length = k := by unfold rowsN; simp
theorem law_rows {n jj : Nat} {ns : List Nat} {σ : List Ob} (hc : Cl σ) (hj : objL σ jj = some (ns.map natI)) (hl : ns.length = 6) (hb : ∀ x ∈ ns, x < 32) : FnOk (n + 1) 235 [.obj jj] [] σ (.v (.obj σ.length)) (σ ++ [.list (rowsT (rowM ns))]) := by
  refine fn_okB at235 (bind235 _) (show (["numbers"] : List Str).Nodup from by decide) (by rfl) ?_
  refine BodyOk.cons (ρ₁ := setL [("numbers", V.obj jj)] "rows" (V.obj σ.length)) (σ₁ := σ ++ [.list []]) (ExOk.assign (r := .new []) (EvOk.list (Vs := []) EvsOk.nil rfl (by decide)) rfl rfl (by decide) rfl) ?_
  have hr5 : srcL (σ ++ [Ob.list []]) (.rng 5) = some ((List.range 5).map fun i => V.int (i : Nat)) := rfl
  have hz5 : (5 : Nat) ≤ sizeLine := by decide
  refine BodyOk.forInv (src := .rng 5) (L := (List.range 5).map fun i => V.int (i : Nat)) (St := fun i ρ σ' => EqOff ["i"] ρ [("numbers", V.obj jj), ("rows", V.obj σ.length)] ∧ σ' = σ ++ [.list (rowsN (rowM ns) i)]) (IterOk.rng (N := 5) rfl rfl (EvOk.const rfl) (by decide) (by decide)) (fun _ _ => rfl) (fun _ _ _ _ => rfl) ⟨EqOff.refl, rfl⟩ ?_ ?_
  · rintro i X ρ σ' hX ⟨hρ, rfl⟩
    have hi : i < 5 := by have := (List.getElem?_eq_some_iff.mp hX).1; simpa using this
    have eX : X = V.int (i : Nat) := by
      rw [List.getElem?_map, List.getElem?_range hi] at hX
      exact (Option.some.inj hX).symm
    subst eX
    have hc1 : Cl (σ ++ [Ob.list (rowsN (rowM ns) i)]) := hc.push (cl_rowsN _ _ _)
    have hj1 : objL (σ ++ [Ob.list (rowsN (rowM ns) i)]) jj = some (ns.map natI) := objL_app hj
    refine ⟨setL ρ "i" (V.int (i : Nat)), [("numbers", V.obj jj), ("rows", V.obj σ.length), ("i", V.int (i : Nat))], σ ++ [.list (rowsN (rowM ns) (i + 1))], TgOk.name rfl (by decide) rfl, ?_, EqOff.app1 (base := [("numbers", V.obj jj), ("rows", V.obj σ.length)]), rfl⟩
    refine ExsOk.congrIn (hρ.one rfl) ?_
    refine ExsOk.cons (σ₁ := σ ++ [.list (rowsN (rowM ns) (i + 1))]) (ExOk.expr (r := .at .none) (EvOk.methB (r0 := .v (.obj σ.length)) (id := "list.append") (fun env => by rfl) rfl (EvOk.name (X := .obj σ.length) rfl rfl rfl rfl) (MbOk.append (objL_last _ _))
      (EvsOk.cons (σ₁ := σ ++ [.list (rowsN (rowM ns) i)]) (r := .at (.str (sub (rowM ns i)))) rfl ?_ EvsOk.nil) ?_) rfl) ExsOk.nil
    · unfold rowM
      rw [← join_abcL]
      refine EvOk.joinNew (l := (abcL (turnB ns i 0) (turnB ns i 1) (turnB ns i 2) (turnB ns i 3) (turnB ns i 4)).map strI) hc1 (fun env => by rfl) rfl ?_ (strsIt_mapI _) (joinOk_abcL _ _ _ _ _)
      rw [← comp5 (turnB ns i)]
      refine EvOk.comp (src := .rng 5) (p := fun X => turnB ns i (natOf X)) (f := ltrI) (compS (by rfl)) (IterOk.rng (N := 5) rfl rfl (EvOk.const rfl) (by decide) (by decide)) rfl (by rw [List.length_map]; exact hz5) (fun _ _ => rfl) ?_ ?_
      · intro X hX
        obtain ⟨j, hj5, rfl⟩ := mem_rng5 hX
        have e := fdiv_bit (ns.getD (min i j) 0) (if i ≤ j then j - i else i - j)
        have hk : (if i ≤ j then j - i else i - j) < 5 := by split <;> omega
        show TrOk _ _ _ _ _ _ _
        refine TrOk.cmp (a := .int ((((ns.getD (min i j) 0 : Nat) : Int).fdiv ((2 : Int) ^ (if i ≤ j then j - i else i - j))).fmod 2)) (b := .int 1) (EvOk.bin (a := .int (((ns.getD (min i j) 0 : Nat) : Int).fdiv ((2 : Int) ^ (if i ≤ j then j - i else i - j)))) (b := .int 2) (EvOk.bin (a := .int ((ns.getD (min i j) 0 : Nat) : Int)) (b := .int ((2 : Int) ^ (if i ≤ j then j - i else i - j)))
          (EvOk.sub (r := .v (.obj jj)) (i := .int (if (j : Int) < (i : Int) then (j : Int) else (i : Int))) (EvOk.name (X := .obj jj) rfl rfl rfl rfl) (EvOk.callB (id := "min") rfl rfl (by kernel_rfl) rfl (EvsOk.cons (r := .at (.int (i : Int))) rfl (EvOk.name (X := .int (i : Int)) rfl rfl rfl rfl) (EvsOk.cons (r := .at (.int (j : Int))) rfl (EvOk.name (X := .int (j : Int)) rfl rfl rfl rfl) EvsOk.nil)) BiOk.min2) (bit_val hj1 hl hi hj5))
          (EvOk.bin (a := .int 2) (b := .int (((if i ≤ j then j - i else i - j : Nat) : Int))) (EvOk.const rfl) (EvOk.callB (id := "abs") rfl rfl (by kernel_rfl) rfl (EvsOk.cons (r := .at (.int ((i : Int) - (j : Int)))) rfl (EvOk.bin (EvOk.name (X := .int (i : Int)) rfl rfl rfl rfl) (EvOk.name (X := .int (j : Int)) rfl rfl rfl rfl) rfl) EvsOk.nil) (BiOk.atoms (ats := [.int ((i : Int) - (j : Int))]) rfl ?_)) ?_) ?_) (EvOk.const rfl) (by rfl)) (EvOk.const rfl) (by show some _ = some _; rw [e]; rfl) rfl
        · show some _ = some _
          rw [← abs_val]
        · show (if _ then _ else _) = _
          rw [if_pos ⟨by omega, by omega, by decide⟩, Int.toNat_natCast]
        · show (if _ then _ else _) = _
          have hp := pyl ((ns.getD (min i j) 0 : Nat) : Int) _ hk
          have h0 : ((2 : Int) ^ (if i ≤ j then j - i else i - j)) ≠ 0 := by
            have : (0 : Int) < (2 : Int) ^ (if i ≤ j then j - i else i - j) := Int.pow_pos (by decide)
            omega
          generalize ((2 : Int) ^ (if i ≤ j then j - i else i - j)) = q at hp h0
          rw [hp, if_neg (by simp [h0])]
      · intro X hX _
        obtain ⟨j, hj5, rfl⟩ := mem_rng5 hX
        refine EvOk.sub (r := .at (.str "abcde")) (i := .int (j : Int)) (EvOk.const rfl) (EvOk.name (X := .int (j : Int)) rfl rfl rfl rfl) ?_
        show (strAt "abcde" (j : Int)).map (fun y => V.str y) = some (V.it (strI (ch (97 + j))))
        have q := letter_at j hj5
        generalize strAt "abcde" (j : Int) = z at q
        subst q
        rfl
    · have := BiOk.append (n := n) (x := strI (sub (rowM ns i))) (objL_last σ (rowsN (rowM ns) i)) (by rw [rowsN_len]; omega)
      rw [push_set, ← rowsN_succ] at this
      exact this
  · rintro ρ' σ' ⟨hρ, rfl⟩
    refine BodyOk.ret (ExOk.ret (EvOk.name (X := .obj σ.length) rfl ?_ rfl rfl))
    rw [hρ _ (by decide)]; rfl
end Mine
end
section
/-! ## text R25 -/
open PySem.Builtin PySem.Builtin.Str PySem.StrLaws
set_option maxRecDepth 100000
set_option maxHeartbeats 400000
namespace Mine
theorem dataIts_strs : ∀ l : List Str, dataIts (l.map strI) = some (l.map PyData.str)
  | [] => rfl
  | x :: l => by
    rw [List.map_cons]
    show (match dataIt (strI x), dataIts (l.map strI) with | some d, some ds => some (d :: ds) | _, _ => none) = _
    rw [dataIts_strs l]; rfl
theorem dataIts_ents : ∀ E : List Ent, dataIts (E.map ent) = some (E.map fun e => PyData.tuple [.str e.1, .str e.2])
  | [] => rfl
  | x :: l => by
    rw [List.map_cons]
    show (match dataIt (ent x), dataIts (l.map ent) with | some d, some ds => some (d :: ds) | _, _ => none) = _
    rw [dataIts_ents l]; rfl
noncomputable abbrev OkS (l : List Str) : Prop := ∀ x ∈ l, PyData.strOk x = true
noncomputable abbrev OkE (E : List Ent) : Prop := ∀ e ∈ E, PyData.strOk e.1 = true ∧ PyData.strOk e.2 = true
theorem lay_strs : ∀ l : List Str, OkS l → PyData.canLayAll0 (l.map PyData.str) = true
  | [], _ => rfl
  | x :: r, h => by simp [PyData.canLayAll0, PyData.canLay0, lay_strs r fun y hy => h y (.tail _ hy), h x (.head _)]
theorem depth_strs : ∀ l : List Str, PyData.depthAll (l.map PyData.str) = 0
  | [] => rfl
  | _ :: r => by simp [PyData.depthAll, PyData.depth, depth_strs r]
theorem shaped_strs (l : List Str) (h : OkS l) : SeqAt.shaped (.list (l.map PyData.str)) = true := by
  simp [SeqAt.shaped, PyData.canLay0, PyData.depth, lay_strs l h, depth_strs]
theorem lay_ents : ∀ E : List Ent, OkE E → PyData.canLayAll0 (E.map fun e => PyData.tuple [.str e.1, .str e.2]) = true
  | [], _ => rfl
  | x :: r, h => by simp [PyData.canLayAll0, PyData.canLay0, lay_ents r fun y hy => h y (.tail _ hy), (h x (.head _)).1, (h x (.head _)).2]
theorem depth_ents : ∀ E : List Ent, PyData.depthAll (E.map fun e => PyData.tuple [.str e.1, .str e.2]) ≤ 1
  | [] => by simp [PyData.depthAll]
  | _ :: r => by
    have := depth_ents r
    simp [PyData.depthAll, PyData.depth]
    omega
theorem shaped_ents (E : List Ent) (h : OkE E) : SeqAt.shaped (.list (E.map fun e => PyData.tuple [.str e.1, .str e.2])) = true := by
  have := depth_ents E
  simp [SeqAt.shaped, PyData.canLay0, PyData.depth, lay_ents E h]
  omega
theorem strOk_txt {x : Str} (h : txtOk x = true) : PyData.strOk x = true := by
  unfold txtOk at h
  unfold PyData.strOk
  rw [Array.all_eq_true']
  intro c hc
  have := List.all_eq_true.mp h c (Array.mem_toList_iff.mpr hc)
  simp only [Bool.and_eq_true, decide_eq_true_eq] at this
  rw [decide_eq_true_eq]; omega
section
variable {σ : List Ob} {a b : RV}
theorem dataOf_strs {l : List Str} (h : seqOf σ a = some (l.map strI)) : dataOf σ a = some (.list (l.map PyData.str)) := by
  unfold dataOf; rw [h]; dsimp only; rw [dataIts_strs]; rfl
theorem dataOf_ents {E : List Ent} (h : seqOf σ a = some (E.map ent)) : dataOf σ a = some (.list (E.map fun e => PyData.tuple [.str e.1, .str e.2])) := by
  unfold dataOf; rw [h]; dsimp only; rw [dataIts_ents]; rfl
theorem cmpD_ne_strs {l : List Str} (h : OkS l) (ha : seqOf σ a = some (l.map strI)) (hb : seqOf σ b = some (l.map strI)) : cmpD σ .NotEq a b = some false := by
  unfold cmpD
  rw [dataOf_strs ha, dataOf_strs hb]
  dsimp only
  rw [shaped_strs l h, Bool.and_self, if_pos rfl, SeqAt.eqv_refl _ (SeqAt.canLay_of_shaped (shaped_strs l h))]; rfl
theorem cmpD_ne_nil {x : Str} {l : List Str} (h : OkS (x :: l)) (ha : seqOf σ a = some ((x :: l).map strI)) (hb : seqOf σ b = some []) : cmpD σ .NotEq a b = some true := by
  unfold cmpD
  rw [dataOf_strs ha, dataOf_strs (l := []) hb]
  dsimp only
  rw [shaped_strs _ h, shaped_strs [] (fun _ q => by cases q), Bool.and_self, if_pos rfl]; rfl
theorem cmpD_eq_nil {x : Str} {l : List Str} (h : OkS (x :: l)) (ha : seqOf σ a = some ((x :: l).map strI)) (hb : seqOf σ b = some []) : cmpD σ .Eq a b = some false := by
  unfold cmpD
  rw [dataOf_strs ha, dataOf_strs (l := []) hb]
  dsimp only
  rw [shaped_strs _ h, shaped_strs [] (fun _ q => by cases q), Bool.and_self, if_pos rfl]; rfl
theorem cmpD_eq_strs {l : List Str} (h : OkS l) (ha : seqOf σ a = some (l.map strI)) (hb : seqOf σ b = some (l.map strI)) : cmpD σ .Eq a b = some true := by
  unfold cmpD
  rw [dataOf_strs ha, dataOf_strs hb]
  dsimp only
  rw [shaped_strs l h, Bool.and_self, if_pos rfl, SeqAt.eqv_refl _ (SeqAt.canLay_of_shaped (shaped_strs l h))]
theorem cmpD_eq_ents {E : List Ent} (h : OkE E) (ha : seqOf σ a = some (E.map ent)) (hb : seqOf σ b = some (E.map ent)) : cmpD σ .Eq a b = some true := by
  unfold cmpD
  rw [dataOf_ents ha, dataOf_ents hb]
  dsimp only
  rw [shaped_ents E h, Bool.and_self, if_pos rfl, SeqAt.eqv_refl _ (SeqAt.canLay_of_shaped (shaped_ents E h))]
end
theorem cmpR_new {σ : List Ob} {op : CmpOp} {x : List It} {b : RV} : cmpR σ op (.new x) b = cmpD σ op (.new x) b := rfl
theorem cmpR_obj {σ : List Ob} {op : CmpOp} {i : Nat} (h : ∀ y, cmpI op (.obj i) y = none) : ∀ {b : RV}, cmpR σ op (.v (.obj i)) b = cmpD σ op (.v (.obj i)) b
  | .new _ => rfl
  | .v (.lst _) => rfl
  | .v (.nod _) => rfl
  | .v (.it (.tup _)) => rfl
  | .v (.it (.at y)) => by
    show (match cmpI op (.obj i) y with | some r => some r | none => cmpD σ op (.v (.obj i)) (.v (.it (.at y)))) = _
    rw [h]
/-! a Headers object at the end of the world -/
noncomputable def S0 (σ : List Ob) (E : List Ent) : List Ob := σ ++ [.hdr (some (.obj (σ.length + 1))), .list (E.map ent)]
theorem S0_len (σ : List Ob) (E : List Ent) : (S0 σ E).length = σ.length + 2 := by unfold S0; simp
theorem S0_hd (σ : List Ob) (E : List Ent) : HdAt (S0 σ E) σ.length (σ.length + 1) E := by
  unfold S0
  constructor
  · rw [List.getElem?_append_right (Nat.le_refl _)]; simp
  · rw [List.getElem?_append_right (by omega)]; simp
theorem S0_set (σ : List Ob) (E E' : List Ent) : (S0 σ E).set (σ.length + 1) (.list (E'.map ent)) = S0 σ E' := by
  unfold S0
  rw [List.set_append_right _ _ (by omega)]; simp
theorem S0_setM (σ : List Ob) (E E' : List Ent) (m : List Ob) : (S0 σ E ++ m).set (σ.length + 1) (.list (E'.map ent)) = S0 σ E' ++ m := by
  rw [List.set_append_left _ _ (by rw [S0_len]; omega), S0_set]
theorem cl_ents (k : Nat) (E : List Ent) : (E.map ent).all (clIt k) = true := by
  rw [List.all_eq_true]; intro x hx; obtain ⟨y, _, rfl⟩ := List.mem_map.mp hx; rfl
theorem Cl.S0 {σ : List Ob} (h : Cl σ) (E : List Ent) : Cl (S0 σ E) := by
  have h1 : Cl (σ ++ [Ob.hdr none]) := h.push rfl
  have h2 := h1.push (o := .list (E.map ent)) (cl_ents _ E)
  have h3 := h2.set (o := .hdr (some (.obj (σ.length + 1)))) (k := σ.length) (by show decide _ = true; rw [decide_eq_true]; simp)
  have e : ((σ ++ [Ob.hdr none]) ++ [Ob.list (E.map ent)]).set σ.length (.hdr (some (.obj (σ.length + 1)))) = Mine.S0 σ E := by
    unfold Mine.S0
    rw [List.append_assoc, List.set_append_right _ _ (Nat.le_refl _)]; simp
  rwa [e] at h3
end Mine
end
section
/-! ## text P15 -/
open PySem.Builtin PySem.Builtin.Str PySem.StrLaws
set_option maxRecDepth 100000
set_option maxHeartbeats 400000
namespace Mine
/-! the book of told lamps: entries and what they tell -/
noncomputable def valsE (E : List Ent) (x : Str) : List Str := (E.filter fun e => Txt.lower e.1 == x).map (·.2)
theorem valsE_app (E E' : List Ent) (x : Str) : valsE (E ++ E') x = valsE E x ++ valsE E' x := by unfold valsE; rw [List.filter_append, List.map_append]
theorem allE_vals (E : List Ent) (x : Str) : allE E x = (valsE E x).map strI := by unfold allE valsE; rw [List.map_map]; rfl
theorem getS_vals (E : List Ent) (x : Str) : getS E x = (valsE E x).head? := by
  unfold getS valsE
  rw [List.head?_map, List.head?_filter]
noncomputable def nmT (odd k : Nat) : Str := ch ((if (k + odd) % 2 = 0 then 97 else 65) + k % 5)
noncomputable def entT (odd k : Nat) : Ent := (nmT odd k, ch (97 + k / 5))
noncomputable def condT (f : Nat → Nat) (k : Nat) : Bool := (f (k % 5)).testBit (k / 5)
noncomputable def E25 (f : Nat → Nat) (odd n : Nat) : List Ent := ((List.range n).filter (condT f)).map (entT odd)
noncomputable def nmA (i : Nat) : Str := ch (if i % 2 = 0 then 97 + i else 65 + i)
noncomputable def nmB (i : Nat) : Str := ch (if i % 2 = 0 then 65 + i else 97 + i)
noncomputable def exT (f : Nat → Nat) (n : Nat) : List Ent := ((List.range n).filter fun i => f i == 0).map fun i => (nmA i, ("" : Str))
theorem lowS : ∀ r : Nat, r < 5 → Txt.lower (ch (97 + r)) = ch (97 + r) := by decide +kernel
theorem lowG : ∀ r : Nat, r < 5 → Txt.lower (ch (65 + r)) = ch (97 + r) := by decide +kernel
theorem ch_inj {a b : Nat} : (ch a == ch b) = decide (a = b) := by
  rw [Bool.eq_iff_iff, beq_iff_eq, decide_eq_true_eq]
  constructor
  · intro h
    have := congrArg (fun x : Str => x.cps.toList) h
    simpa using this
  · rintro rfl; rfl
theorem low_nmT (odd k : Nat) : Txt.lower (nmT odd k) = ch (97 + k % 5) := by
  unfold nmT
  have h5 : k % 5 < 5 := Nat.mod_lt _ (by decide)
  split
  · exact lowS _ h5
  · exact lowG _ h5
theorem low_nmA {i : Nat} (hi : i < 5) : Txt.lower (nmA i) = ch (97 + i) := by
  unfold nmA; split
  · exact lowS _ hi
  · exact lowG _ hi
theorem low_nmB {i : Nat} (hi : i < 5) : Txt.lower (nmB i) = ch (97 + i) := by
  unfold nmB; split
  · exact lowG _ hi
  · exact lowS _ hi
theorem rng25 : ∀ i : Nat, i < 5 → (List.range 25).filter (fun k => k % 5 == i) = (List.range 5).map fun l => 5 * l + i := by decide +kernel
theorem vals25 (f : Nat → Nat) (odd : Nat) {i : Nat} (hi : i < 5) : valsE (E25 f odd 25) (ch (97 + i)) = (ltr (f i)).map ch := by
  unfold valsE E25
  rw [List.filter_map, List.map_map, List.filter_filter]
  have e1 : (fun a => ((fun e : Ent => Txt.lower e.1 == ch (97 + i)) ∘ entT odd) a && condT f a) = fun k => condT f k && (k % 5 == i) := by
    funext k
    show (Txt.lower (nmT odd k) == ch (97 + i) && condT f k) = _
    rw [low_nmT, ch_inj, Bool.and_comm]
    congr 1
    rw [Bool.eq_iff_iff, decide_eq_true_eq, beq_iff_eq]
    omega
  rw [e1, ← List.filter_filter, rng25 i hi, List.filter_map, List.map_map]
  unfold ltr bitsL
  rw [List.map_map]
  have e2 : (condT f ∘ fun l => 5 * l + i) = fun l => (f i).testBit l := by
    funext l
    show (f ((5 * l + i) % 5)).testBit ((5 * l + i) / 5) = _
    rw [show (5 * l + i) % 5 = i by omega, show (5 * l + i) / 5 = l by omega]
  rw [e2]
  refine List.map_congr_left fun l _ => ?_
  show ch (97 + (5 * l + i) / 5) = ch (97 + l)
  rw [show (5 * l + i) / 5 = l by omega]
theorem valsX (f : Nat → Nat) {i : Nat} : ∀ n, n ≤ 5 → valsE (exT f n) (ch (97 + i)) = if i < n ∧ f i = 0 then [("" : Str)] else []
  | 0, _ => by rw [if_neg (by omega)]; rfl
  | n + 1, hn => by
    have e : exT f (n + 1) = exT f n ++ (if f n = 0 then [(nmA n, ("" : Str))] else []) := by
      unfold exT
      rw [List.range_succ, List.filter_append, List.map_append]
      congr 1
      rw [List.filter_cons]
      by_cases h : f n = 0 <;> simp [h]
    rw [e, valsE_app, valsX f n (by omega)]
    by_cases h : f n = 0
    · rw [if_pos h]
      have e2 : valsE [(nmA n, ("" : Str))] (ch (97 + i)) = if n = i then [("" : Str)] else [] := by
        unfold valsE
        rw [List.filter_cons, low_nmA (by omega), ch_inj]
        by_cases q : n = i
        · rw [if_pos (by simp [q]), if_pos q]; rfl
        · rw [if_neg (by simp; omega), if_neg q]; rfl
      rw [e2]
      by_cases q : n = i
      · subst q
        rw [if_neg (by omega), if_pos rfl, if_pos ⟨by omega, h⟩]; rfl
      · rw [if_neg q, List.append_nil]
        by_cases q2 : i < n ∧ f i = 0
        · rw [if_pos q2, if_pos ⟨by omega, q2.2⟩]
        · rw [if_neg q2, if_neg]; rintro ⟨h1, h2⟩; exact q2 ⟨by omega, h2⟩
    · rw [if_neg h]
      have e2 : valsE [] (ch (97 + i)) = [] := rfl
      rw [e2, List.append_nil]
      by_cases q2 : i < n ∧ f i = 0
      · rw [if_pos q2, if_pos ⟨by omega, q2.2⟩]
      · rw [if_neg q2, if_neg]; rintro ⟨h1, h2⟩
        refine q2 ⟨?_, h2⟩
        rcases Nat.lt_or_ge i n with z | z
        · exact z
        · have : i = n := by omega
          subst this; exact absurd h2 h
noncomputable def firstL (m : Nat) : Str := ⟨((ltr m).take 1).toArray⟩
theorem ltr_zero : ltr 0 = [] := by decide
theorem ltr_ne : ∀ m : Nat, m < 32 → m ≠ 0 → (ltr m).head? = some (((ltr m).head?).getD 0) := by decide +kernel
theorem first_zero : firstL 0 = "" := by decide +kernel
theorem head_first : ∀ m : Nat, m < 32 → m ≠ 0 → ((ltr m).map ch).head? = some (firstL m) := by decide +kernel
theorem join_ltr : ∀ m : Nat, m < 32 → Txt.join "" ((ltr m).map ch) = sub m := by decide +kernel
theorem joinOk_ltr : ∀ m : Nat, m < 32 → JoinOk "" ((ltr m).map ch) = true := by decide +kernel
theorem get_told (f : Nat → Nat) (odd : Nat) {i n : Nat} (hi : i < 5) (hn : n ≤ 5) (hf : f i < 32) :
    getS (E25 f odd 25 ++ exT f n) (ch (97 + i)) = if f i = 0 then (if i < n then some ("" : Str) else none) else some (firstL (f i)) := by
  rw [getS_vals, valsE_app, vals25 f odd hi, valsX f n hn]
  by_cases h : f i = 0
  · rw [h, ltr_zero, if_pos rfl]
    by_cases q : i < n
    · rw [if_pos ⟨q, rfl⟩, if_pos q]; rfl
    · rw [if_neg (by omega), if_neg q]; rfl
  · rw [if_neg h, if_neg (by omega), List.append_nil]
    exact head_first _ hf h
theorem all_told (f : Nat → Nat) (odd : Nat) {i : Nat} (hi : i < 5) (hf : f i < 32) :
    allE (E25 f odd 25 ++ exT f 5) (ch (97 + i)) = ((ltr (f i)).map ch ++ (if f i = 0 then [("" : Str)] else [])).map strI := by
  rw [allE_vals, valsE_app, vals25 f odd hi, valsX f 5 (Nat.le_refl _)]
  by_cases h : f i = 0
  · rw [if_pos ⟨hi, h⟩, if_pos h]
  · rw [if_neg (fun z => h z.2), if_neg h]
theorem join_told (m : Nat) (hm : m < 32) : Txt.join "" ((ltr m).map ch ++ (if m = 0 then [("" : Str)] else [])) = sub m ∧ JoinOk "" ((ltr m).map ch ++ (if m = 0 then [("" : Str)] else [])) = true := by
  by_cases h : m = 0
  · subst h; exact ⟨by decide +kernel, by decide +kernel⟩
  · rw [if_neg h, List.append_nil]; exact ⟨join_ltr m hm, joinOk_ltr m hm⟩
theorem E25_succ (f : Nat → Nat) (odd k : Nat) : E25 f odd (k + 1) = if condT f k = true then E25 f odd k ++ [entT odd k] else E25 f odd k := by
  unfold E25
  rw [List.range_succ, List.filter_append, List.map_append, List.filter_cons]
  cases condT f k <;> simp
theorem exT_succ (f : Nat → Nat) (n : Nat) : exT f (n + 1) = if f n = 0 then exT f n ++ [(nmA n, ("" : Str))] else exT f n := by
  unfold exT
  rw [List.range_succ, List.filter_append, List.map_append, List.filter_cons]
  by_cases h : f n = 0 <;> simp [h]
theorem E25_len (f : Nat → Nat) (odd n : Nat) : (E25 f odd n).length ≤ n := by
  unfold E25; rw [List.length_map]; exact Nat.le_trans (List.length_filter_le _ _) (by simp)
theorem exT_len (f : Nat → Nat) (n : Nat) : (exT f n).length ≤ n := by
  unfold exT; rw [List.length_map]; exact Nat.le_trans (List.length_filter_le _ _) (by simp)
end Mine
end
section
/-! ## text P16 -/
open PySem.Builtin PySem.Builtin.Str PySem.StrLaws
set_option maxRecDepth 100000
set_option maxHeartbeats 400000
namespace Mine
noncomputable def ET (f : Nat → Nat) (odd n : Nat) : List Ent := E25 f odd 25 ++ exT f n
theorem ch_len (c : Nat) : (ch c).length = 1 := rfl
theorem small25 (f : Nat → Nat) (odd n : Nat) : smallE (E25 f odd n) := by
  intro e he
  unfold E25 at he
  obtain ⟨k, _, rfl⟩ := List.mem_map.mp he
  show (ch _).length ≤ _
  rw [ch_len]; decide
theorem smallT (f : Nat → Nat) (odd n : Nat) : smallE (ET f odd n) := by
  intro e he
  rcases List.mem_append.mp he with he | he
  · exact small25 f odd 25 e he
  · unfold exT at he
    obtain ⟨k, _, rfl⟩ := List.mem_map.mp he
    show (ch _).length ≤ _
    rw [ch_len]; decide
theorem lenT (f : Nat → Nat) (odd : Nat) {n : Nat} (hn : n ≤ 5) : (ET f odd n).length ≤ sizeLine := by
  unfold ET
  rw [List.length_append]
  have := E25_len f odd 25
  have := exT_len f n
  have : (30 : Nat) ≤ sizeLine := by decide
  omega
theorem txt_ch {c : Nat} (h1 : 32 ≤ c) (h2 : c < 127) : txtOk (ch c) = true := by
  show ([c].all fun c => decide (32 ≤ c) && decide (c < 127)) = true
  simp [h1, h2]
theorem one_line : (1 : Nat) ≤ sizeLine := by decide
noncomputable def idxN (X : V) : Nat := ((strOf X).cps.getD 0 0 - 65) % 32
theorem idx_nmA : ∀ t : Nat, t < 5 → idxN (V.str (nmA t)) = t := by
  have h : ∀ t : Nat, t < 5 → ((nmA t).cps.getD 0 0 - 65) % 32 = t := by decide +kernel
  exact h
theorem idx_nmB : ∀ t : Nat, t < 5 → idxN (V.str (nmB t)) = t := by
  have h : ∀ t : Nat, t < 5 → ((nmB t).cps.getD 0 0 - 65) % 32 = t := by decide +kernel
  exact h
noncomputable def firstsT (f : Nat → Nat) : List Str := (List.range 5).map fun i => firstL (f i)
theorem src_aB (σ : List Ob) : srcL σ (.str "aBcDe") = some ((List.range 5).map fun t => V.str (nmA t)) := by rfl
theorem src_Ab (σ : List Ob) : srcL σ (.str "AbCdE") = some ((List.range 5).map fun t => V.str (nmB t)) := by rfl
theorem slice1 (m : Nat) : Txt.slice (sub m) none (some 1) = firstL m := by
  have e : Txt.slice (sub m) none (some 1) = Txt.slice (sub m) (some ((0 : Nat) : Int)) (some 1) := by
    unfold Txt.slice
    rw [sliceIdx_none_lo]; rfl
  rw [e]
  by_cases h : 1 ≤ (sub m).length
  · have := slice_nat (x := sub m) (a := 0) (b := 1) (by omega) h
    rw [codes_sub, List.drop_zero] at this
    exact this
  · have h0 : (ltr m) = [] := by
      have := len_codes (sub m)
      rw [codes_sub] at this
      exact List.length_eq_zero_iff.mp (by omega)
    have e2 : sub m = "" := by unfold sub; rw [h0]; rfl
    have e3 : firstL m = "" := by unfold firstL; rw [h0]; rfl
    rw [e2, e3]; decide +kernel
theorem fmod_nat (a b : Nat) : ((a : Int)).fmod (b : Int) = ((a % b : Nat) : Int) := by
  rw [Int.fmod_eq_emod_of_nonneg _ (Int.natCast_nonneg _)]; simp
theorem fdiv_nat (a b : Nat) : ((a : Int)).fdiv (b : Int) = ((a / b : Nat) : Int) := by
  rw [Int.fdiv_eq_ediv_of_nonneg _ (Int.natCast_nonneg _)]; simp
theorem letter_at' : ∀ j : Nat, j < 5 → strAt "ABCDE" (j : Int) = some (ch (65 + j)) := by decide +kernel
theorem name_val (odd k : Nat) : strAt (if (k + odd) % 2 = 0 then "abcde" else "ABCDE") ((k % 5 : Nat) : Int) = some (nmT odd k) := by
  have h5 : k % 5 < 5 := Nat.mod_lt _ (by decide)
  unfold nmT
  split
  · exact letter_at _ h5
  · exact letter_at' _ h5
theorem pick2 (odd k : Nat) : pick ([strI "abcde", strI "ABCDE"] : List It) (((k + odd) % 2 : Nat) : Int) = some (strI (if (k + odd) % 2 = 0 then "abcde" else "ABCDE")) := by
  refine pick_nat ?_ (by omega)
  by_cases h : (k + odd) % 2 = 0
  · rw [if_pos h, h]; rfl
  · rw [if_neg h, show (k + odd) % 2 = 1 by omega]; rfl
theorem mem_len5 {L : List V} {g : Nat → V} (e : L = (List.range 5).map g) {i : Nat} {X : V} (h : L[i]? = some X) : i < 5 ∧ X = g i := by
  subst e
  have hi : i < 5 := by have := (List.getElem?_eq_some_iff.mp h).1; simpa using this
  refine ⟨hi, ?_⟩
  rw [List.getElem?_map, List.getElem?_range hi] at h
  exact (Option.some.inj h).symm
theorem mem_rngX {g : Nat → V} {X : V} {n : Nat} (h : X ∈ (List.range n).map g) : ∃ j : Nat, j < n ∧ X = g j := by
  obtain ⟨j, hj, e⟩ := List.mem_map.mp h
  exact ⟨j, List.mem_range.mp hj, e.symm⟩
end Mine
end
section
/-! ## text P17 -/
open PySem.Builtin PySem.Builtin.Str PySem.StrLaws
set_option maxRecDepth 100000
set_option maxHeartbeats 400000
namespace Mine
noncomputable abbrev bodyT : List Stmt := fB (topS 18)
noncomputable abbrev noS : Stmt := .Pass ⟨0, 0, 0, 0⟩
noncomputable abbrev rhoT (jr odd k : Nat) (z : Str) (X : V) (h : Nat) : Rho := [("rows", V.obj jr), ("odd", V.int (odd : Nat)), ("turns", V.obj h), (z, X)]
theorem told_add {n jr odd k : Nat} {f : Nat → Nat} {σ : List Ob} (hc : Cl σ) (hj : objL σ jr = some (rowsT f)) (hk : k < 25) :
    ExsOk (n + 19) fd240.scope.names (rhoT jr odd k "k" (V.int (k : Nat)) σ.length) (S0 σ (E25 f odd k)) (forB (bodyT.getD 1 noS)) .go (rhoT jr odd k "k" (V.int (k : Nat)) σ.length) (S0 σ (E25 f odd (k + 1))) := by
  have h5 : k % 5 < 5 := Nat.mod_lt _ (by decide)
  have h5' : k / 5 < 5 := by omega
  have hj1 : objL (S0 σ (E25 f odd k)) jr = some (rowsT f) := objL_app hj
  have e5 : ((5 : Nat) : Int) = 5 := rfl
  have e2 : ((2 : Nat) : Int) = 2 := rfl
  have vdiv : binI .FloorDiv (.int (k : Int)) (.int 5) = some (.int ((k / 5 : Nat) : Int)) := by
    have hp : divisionGoesByPylong (k : Int) 5 = false := PyProof.noPylong_of_log2 (by decide)
    show (if (5 : Int) = 0 ∨ divisionGoesByPylong (k : Int) 5 = true then none else some (At.int ((k : Int).fdiv 5))) = _
    rw [hp, if_neg (by simp), ← e5, fdiv_nat]
  have vmod : binI .Mod (.int (k : Int)) (.int 5) = some (.int ((k % 5 : Nat) : Int)) := by
    show (if (5 : Int) = 0 then none else some (At.int ((k : Int).fmod 5))) = _
    rw [if_neg (by decide), ← e5, fmod_nat]
  have vpar : binI .Mod (.int ((k : Int) + (odd : Int))) (.int 2) = some (.int (((k + odd) % 2 : Nat) : Int)) := by
    show (if (2 : Int) = 0 then none else some (At.int (((k : Int) + (odd : Int)).fmod 2))) = _
    rw [if_neg (by decide), ← e2, ← fmod_nat]; rfl
  have letK : ∀ {σ' : List Ob}, idxI σ' (.at (.str "abcde")) (.int ((k / 5 : Nat) : Int)) = some (.str (ch (97 + k / 5))) := by
    intro σ'
    show (strAt "abcde" ((k / 5 : Nat) : Int)).map (fun y => V.str y) = _
    rw [letter_at _ h5']; rfl
  have rowK : idxI (S0 σ (E25 f odd k)) (.v (.obj jr)) (.int ((k % 5 : Nat) : Int)) = some (.it (strI (sub (f (k % 5))))) := by
    refine idx_obj hj1 ?_ (by omega)
    unfold rowsT
    rw [List.getElem?_map, List.getElem?_range h5]; rfl
  have test : TrOk (n + 19) fd240.scope.names (rhoT jr odd k "k" (V.int (k : Nat)) σ.length) (S0 σ (E25 f odd k)) (match (forB (bodyT.getD 1 noS)).getD 0 noS with | .If t _ _ _ => t | _ => .Constant .none 0 ⟨0,0,0,0⟩) (condT f k) (S0 σ (E25 f odd k)) := by
    refine TrOk.cmp (a := .str (ch (97 + k / 5))) (b := .str (sub (f (k % 5)))) (EvOk.sub (r := .at (.str "abcde")) (i := .int ((k / 5 : Nat) : Int)) (EvOk.const rfl) (EvOk.bin (a := .int (k : Int)) (b := .int 5) (EvOk.name (X := .int (k : Int)) rfl rfl rfl rfl) (EvOk.const rfl) vdiv) letK)
      (EvOk.sub (r := .v (.obj jr)) (i := .int ((k % 5 : Nat) : Int)) (X := .it (strI (sub (f (k % 5))))) (EvOk.name (X := .obj jr) rfl rfl rfl rfl) (EvOk.bin (a := .int (k : Int)) (b := .int 5) (EvOk.name (X := .int (k : Int)) rfl rfl rfl rfl) (EvOk.const rfl) vmod) rowK) ?_ rfl
    show some (isIn (sub (f (k % 5))) (ch (97 + k / 5))) = _
    rw [isIn_sub _ h5']; rfl
  rw [E25_succ]
  cases hcd : condT f k with
  | false =>
    rw [hcd] at test
    rw [if_neg (by decide)]
    exact ExsOk.cons (ExOk.ifF test ExsOk.nil) ExsOk.nil
  | true =>
    rw [hcd] at test
    rw [if_pos rfl]
    have hz : (E25 f odd k).length ≤ sizeLine := by
      have := E25_len f odd k
      have : (30 : Nat) ≤ sizeLine := by decide
      omega
    have ha := hdr_add (n := n + 17) (x := nmT odd k) (v := ch (97 + k / 5)) (hc.S0 _) (S0_hd σ (E25 f odd k)) hz (by unfold nmT; split <;> exact txt_ch (by omega) (by omega)) (by unfold nmT; rw [ch_len]; exact one_line) (txt_ch (by omega) (by omega)) (by rw [ch_len]; decide)
    rw [S0_set] at ha
    refine ExsOk.cons (ExOk.ifT test (ExsOk.cons (ExOk.expr (r := .at .none) (EvOk.methU hm172 (fun env => by rfl) rfl (EvOk.name (X := .obj σ.length) rfl rfl rfl rfl) (S0_hd σ _).hj (EvsOk.cons (σ₁ := S0 σ (E25 f odd k)) (r := .at (.str (nmT odd k))) rfl ?_ (EvsOk.cons (σ₁ := S0 σ (E25 f odd k)) (r := .at (.str (ch (97 + k / 5)))) rfl ?_ EvsOk.nil)) ha) rfl) ExsOk.nil)) ExsOk.nil
    · refine EvOk.sub (r := .at (.str (if (k + odd) % 2 = 0 then "abcde" else "ABCDE"))) (i := .int ((k % 5 : Nat) : Int)) (EvOk.sub (r := .new [strI "abcde", strI "ABCDE"]) (i := .int (((k + odd) % 2 : Nat) : Int)) (X := .str (if (k + odd) % 2 = 0 then "abcde" else "ABCDE")) (EvOk.list (Vs := [.str "abcde", .str "ABCDE"]) (EvsOk.cons (r := .at (.str "abcde")) rfl (EvOk.const rfl) (EvsOk.cons (r := .at (.str "ABCDE")) rfl (EvOk.const rfl) EvsOk.nil)) rfl (by decide))
        (EvOk.bin (a := .int ((k : Int) + (odd : Int))) (b := .int 2) (EvOk.bin (a := .int (k : Int)) (b := .int (odd : Int)) (EvOk.name (X := .int (k : Int)) rfl rfl rfl rfl) (EvOk.name (X := .int (odd : Int)) rfl rfl rfl rfl) rfl) (EvOk.const rfl) vpar) ?_) (EvOk.bin (a := .int (k : Int)) (b := .int 5) (EvOk.name (X := .int (k : Int)) rfl rfl rfl rfl) (EvOk.const rfl) vmod) ?_
      · show (pick ([strI "abcde", strI "ABCDE"] : List It) (((k + odd) % 2 : Nat) : Int)).map V.it = _
        rw [pick2]; rfl
      · show (strAt (if (k + odd) % 2 = 0 then "abcde" else "ABCDE") ((k % 5 : Nat) : Int)).map (fun y => V.str y) = _
        rw [name_val]; rfl
    · exact EvOk.sub (r := .at (.str "abcde")) (i := .int ((k / 5 : Nat) : Int)) (EvOk.const rfl) (EvOk.bin (a := .int (k : Int)) (b := .int 5) (EvOk.name (X := .int (k : Int)) rfl rfl rfl rfl) (EvOk.const rfl) vdiv) letK
end Mine
end
section
/-! ## text P18 -/
open PySem.Builtin PySem.Builtin.Str PySem.StrLaws
set_option maxRecDepth 100000
set_option maxHeartbeats 400000
namespace Mine
noncomputable def vfL : Ob := .list [strI "", strI "f"]
noncomputable def ST (σ : List Ob) (f : Nat → Nat) (odd t : Nat) : List Ob := S0 σ (ET f odd t) ++ [vfL]
theorem ST_hd (σ : List Ob) (f : Nat → Nat) (odd t : Nat) : HdAt (ST σ f odd t) σ.length (σ.length + 1) (ET f odd t) := (S0_hd σ _).app
theorem ST_obj {σ : List Ob} {f : Nat → Nat} {odd t j : Nat} {l : List It} (h : objL σ j = some l) : objL (ST σ f odd t) j = some l := objL_app (objL_app h)
theorem Cl.ST {σ : List Ob} (h : Cl σ) (f : Nat → Nat) (odd t : Nat) : Cl (ST σ f odd t) := (h.S0 _).push rfl
theorem txt_firstL : ∀ m : Nat, m < 32 → txtOk (firstL m) = true := by decide +kernel
theorem ok_firstsT {f : Nat → Nat} (hf : ∀ i < 5, f i < 32) : OkS (firstsT f) := by
  intro x hx
  obtain ⟨i, hi, rfl⟩ := List.mem_map.mp hx
  exact strOk_txt (txt_firstL _ (hf i (List.mem_range.mp hi)))
/-- turns.setdefault(name, value), at the t-th name -/
theorem told_default {n t i odd : Nat} {f : Nat → Nat} {v : Str} {σ : List Ob} (ht : t < 5) (hf : f t < 32) (hi : (i = 0 ∧ v = "") ∨ (i ≠ 0 ∧ v = "f")) :
    FnOk (n + 19) 165 [.obj σ.length, .str (nmA t), .str v] [] (ST σ f odd (if i = 0 then t else 5)) (.at (.str (firstL (f t)))) (ST σ f odd (if i = 0 then t + 1 else 5)) := by
  have hle : (if i = 0 then t else 5) ≤ 5 := by split <;> omega
  have hv : txtOk v = true ∧ v.length ≤ sizeLine := by
    rcases hi with ⟨_, rfl⟩ | ⟨_, rfl⟩
    · exact ⟨rfl, by decide⟩
    · exact ⟨rfl, by decide⟩
  have hx : txtOk (nmA t) = true := by unfold nmA; split <;> exact txt_ch (by omega) (by omega)
  have hl := low_nmA ht
  have h := hdr_setdefault (n := n + 16) (x := nmA t) (v := v) (by omega) (ST_hd σ f odd (if i = 0 then t else 5)) (smallT f odd _) (lenT f odd hle) (by unfold nmA; rw [ch_len]; decide) hx (by rw [hl]; exact txt_ch (by omega) (by omega)) (by rw [hl, ch_len]; exact one_line) hv.1 hv.2
  have hg : getS (ET f odd (if i = 0 then t else 5)) (Txt.lower (nmA t)) = if f t = 0 then (if t < (if i = 0 then t else 5) then some ("" : Str) else none) else some (firstL (f t)) := by
    rw [hl]; exact get_told f odd ht hle hf
  rw [hg] at h
  by_cases h0 : f t = 0
  · rw [if_pos h0] at h
    rw [h0, first_zero]
    rcases hi with ⟨rfl, rfl⟩ | ⟨hi, rfl⟩
    · rw [if_pos rfl, if_neg (Nat.lt_irrefl t)] at h
      rw [if_pos rfl, if_pos rfl]
      have e : ET f odd (t + 1) = ET f odd t ++ [(nmA t, ("" : Str))] := by
        unfold ET; rw [exT_succ, if_pos h0, List.append_assoc]
      have h2 : FnOk (n + 19) 165 [.obj σ.length, .str (nmA t), .str ""] [] (ST σ f odd t) (.at (.str "")) ((ST σ f odd t).set (σ.length + 1) (.list ((ET f odd t ++ [(nmA t, ("" : Str))]).map ent))) := h
      have e3 : (ST σ f odd t).set (σ.length + 1) (.list ((ET f odd t ++ [(nmA t, ("" : Str))]).map ent)) = ST σ f odd (t + 1) := by
        unfold ST; rw [S0_setM, e]
      rw [e3] at h2
      exact h2
    · rw [if_neg hi, if_pos ht] at h
      rw [if_neg hi, if_neg hi]
      exact h
  · rw [if_neg h0] at h
    have e : ET f odd (t + 1) = ET f odd t := by unfold ET; rw [exT_succ, if_neg h0]
    have e2 : ST σ f odd (if i = 0 then t + 1 else 5) = ST σ f odd (if i = 0 then t else 5) := by
      unfold ST
      split
      · rw [e]
      · rfl
    rw [e2]
    exact h
theorem told_test {n jr odd i : Nat} {f : Nat → Nat} {v : Str} {σ : List Ob} (hj : objL σ jr = some (rowsT f)) (hf : ∀ i < 5, f i < 32) (hi : (i = 0 ∧ v = "") ∨ (i = 1 ∧ v = "f")) :
    ExsOk (n + 19) fd240.scope.names (rhoT jr odd 0 "value" (V.str v) σ.length) (ST σ f odd (if i = 0 then 0 else 5)) (forB (bodyT.getD 2 noS)) .go (rhoT jr odd 0 "value" (V.str v) σ.length) (ST σ f odd 5) := by
  have hi' : (i = 0 ∧ v = "") ∨ (i ≠ 0 ∧ v = "f") := by
    rcases hi with h | ⟨rfl, h⟩
    · exact .inl h
    · exact .inr ⟨by decide, h⟩
  have eL : ((List.range 5).map fun t => V.str (nmA t)).map (fun X => strI (firstL (f (idxN X)))) = (firstsT f).map strI := by
    unfold firstsT
    rw [List.map_map, List.map_map]
    refine List.map_congr_left fun t ht => ?_
    show strI (firstL (f (idxN (V.str (nmA t))))) = _
    rw [idx_nmA t (List.mem_range.mp ht)]; rfl
  have eR : (((rowsT f).map V.it).filter fun _ => true).map (fun X => strI (Txt.slice (strOf X) none (some 1))) = (firstsT f).map strI := by
    unfold firstsT rowsT
    rw [List.filter_eq_self.mpr (fun _ _ => rfl), List.map_map, List.map_map, List.map_map]
    refine List.map_congr_left fun t ht => ?_
    show strI (Txt.slice (sub (f t)) none (some 1)) = _
    rw [slice1]; rfl
  have h5z : (5 : Nat) ≤ sizeLine := by decide
  refine ExsOk.cons (ExOk.ifF (TrOk.cmpR (a := .new ((firstsT f).map strI)) (b := .new ((firstsT f).map strI)) (σ₁ := ST σ f odd 5) (σ₂ := ST σ f odd 5) (by omega) ?_ ?_ (by rw [cmpR_new]; exact cmpD_ne_strs (ok_firstsT hf) rfl rfl) rfl) ExsOk.nil) ExsOk.nil
  · rw [← eL]
    refine EvOk.compS (src := .str "aBcDe") (τ := fun t => ST σ f odd (if i = 0 then t else 5)) (compS (by rfl)) ?_ ?_ ?_ (fun _ _ => rfl) ?_ ?_
    · have e : (if i = 0 then 0 else 5) = (if i = 0 then 0 else 5) := rfl
      exact IterOk.str (EvOk.const rfl)
    · intro t _; exact src_aB _
    · rw [List.length_map, List.length_range]; exact h5z
    · intro t X hX
      obtain ⟨ht, rfl⟩ := mem_len5 (g := fun t => V.str (nmA t)) rfl hX
      have hfn := told_default (n := n) (odd := odd) (σ := σ) (v := v) ht (hf t ht) hi'
      show EvOk _ _ _ _ _ (.at (.str (firstL (f (idxN (V.str (nmA t))))))) _
      rw [idx_nmA t ht]
      exact EvOk.methU hm165 (fun env => by rfl) rfl (EvOk.name (X := .obj σ.length) rfl rfl rfl rfl) (ST_hd σ f odd _).hj (EvsOk.cons (r := .at (.str (nmA t))) rfl (EvOk.name (X := .str (nmA t)) rfl rfl rfl rfl) (EvsOk.cons (r := .at (.str v)) rfl (EvOk.name (X := .str v) rfl rfl rfl rfl) EvsOk.nil)) hfn
    · rw [List.length_map, List.length_range]
      split <;> rfl
  · rw [← eR]
    have hj' : objL (ST σ f odd 5) jr = some (rowsT f) := ST_obj hj
    refine EvOk.comp (src := .lst jr) (p := fun _ => true) (compS (by rfl)) (IterOk.list (r := .v (.obj jr)) (EvOk.name (X := .obj jr) rfl rfl rfl rfl) rfl (objL_get hj')) (srcL_obj hj') ?_ (fun _ _ => rfl) (fun _ _ => rfl) ?_
    · rw [List.length_map]; unfold rowsT; rw [List.length_map, List.length_range]; exact h5z
    · intro X hX _
      obtain ⟨y, hy, rfl⟩ := List.mem_map.mp hX
      obtain ⟨t, ht, rfl⟩ := List.mem_map.mp hy
      refine EvOk.cut (r := .at (.str (sub (f t)))) (EvOk.name (X := .str (sub (f t))) rfl rfl rfl rfl) PartOk.none (PartOk.some (EvOk.const (a := .int 1) rfl)) ?_
      have hz : (sub (f t)).length ≤ sizeLine := by have := len_sub (f t); omega
      show (if (sub (f t)).length ≤ sizeLine then some (RV.at (.str (Txt.slice (sub (f t)) none (some 1)))) else none) = _
      rw [if_pos hz]; rfl
theorem law_told {n jr odd : Nat} {f : Nat → Nat} {σ : List Ob} (hc : Cl σ) (hj : objL σ jr = some (rowsT f)) (hf : ∀ i < 5, f i < 32) : FnOk (n + 20) 240 [.obj jr, .int (odd : Nat)] [] σ (.new (rowsT f)) σ := by
  refine FnOk.drop (junk := [.hdr (some (.obj (σ.length + 1))), .list ((ET f odd 5).map ent), vfL]) ?_ rfl hc (by
    show (rowsT f).all _ = true
    rw [List.all_eq_true]; intro x hx; obtain ⟨i, _, rfl⟩ := List.mem_map.mp hx; rfl)
  have eS : σ ++ [Ob.hdr (some (.obj (σ.length + 1))), .list ((ET f odd 5).map ent), vfL] = ST σ f odd 5 := by
    unfold ST S0; simp
  rw [eS]
  have h5z : (5 : Nat) ≤ sizeLine := by decide
  refine fn_okB at240 (bind240 _ _) (show nd2 "rows" "odd" from by decide) (by rfl) ?_
  refine BodyOk.cons (ρ₁ := [("rows", V.obj jr), ("odd", V.int (odd : Nat)), ("turns", V.obj σ.length)]) (σ₁ := S0 σ []) (ExOk.assign (r := .v (.obj σ.length)) (make_hdr (n := n + 17) rfl) rfl rfl (by decide) rfl) ?_
  refine BodyOk.forInv (src := .rng 25) (L := (List.range 25).map fun i => V.int (i : Nat)) (St := fun i ρ σ' => SubR [("rows", V.obj jr), ("odd", V.int (odd : Nat)), ("turns", V.obj σ.length)] ρ ∧ σ' = S0 σ (E25 f odd i)) (IterOk.rng (N := 25) rfl rfl (EvOk.const rfl) (by decide) (by decide)) (fun _ _ => rfl) (fun _ _ _ _ => rfl) ⟨SubR.refl, rfl⟩ ?_ ?_
  · rintro i X ρ σ' hX ⟨hρ, rfl⟩
    have hi : i < 25 := by have := (List.getElem?_eq_some_iff.mp hX).1; simpa using this
    have eX : X = V.int (i : Nat) := by
      rw [List.getElem?_map, List.getElem?_range hi] at hX
      exact (Option.some.inj hX).symm
    subst eX
    refine ⟨setL ρ "k" (V.int (i : Nat)), _, S0 σ (E25 f odd (i + 1)), TgOk.name rfl (by decide) rfl, ?_, SubR.app (base := [("rows", V.obj jr), ("odd", V.int (odd : Nat)), ("turns", V.obj σ.length)]) (m := [("k", V.int (i : Nat))]), rfl⟩
    exact ExsOk.sub (hρ.tg rfl) (told_add hc hj hi)
  · rintro ρ' σ' ⟨hρ, rfl⟩
    rw [List.length_map, List.length_range]
    have e0 : S0 σ (E25 f odd 25) ++ [vfL] = ST σ f odd 0 := by
      unfold ST ET exT; simp
    have lenS : (S0 σ (E25 f odd 25)).length = σ.length + 2 := S0_len _ _
    have hv0 : ∀ t, (ST σ f odd t)[σ.length + 2]? = some vfL := fun t => by
      unfold ST
      rw [List.getElem?_append_right (by rw [S0_len]; exact Nat.le_refl _), S0_len, Nat.sub_self]; rfl
    refine BodyOk.forInv (σ₁ := ST σ f odd 0) (src := .lst (σ.length + 2)) (L := [V.str "", V.str "f"]) (St := fun i ρ σ' => SubR [("rows", V.obj jr), ("odd", V.int (odd : Nat)), ("turns", V.obj σ.length)] ρ ∧ σ' = ST σ f odd (if i = 0 then 0 else 5)) ?_ (fun _ _ => rfl) ?_ ⟨hρ, by rw [if_pos rfl]⟩ ?_ ?_
    · rw [← e0]
      refine IterOk.list (r := .new [strI "", strI "f"]) (l := [strI "", strI "f"]) (EvOk.list (Vs := [.str "", .str "f"]) (EvsOk.cons (r := .at (.str "")) rfl (EvOk.const rfl) (EvsOk.cons (r := .at (.str "f")) rfl (EvOk.const rfl) EvsOk.nil)) rfl (by decide)) ?_ ?_
      · show V.obj (S0 σ (E25 f odd 25)).length = _; rw [lenS]
      · show (S0 σ (E25 f odd 25) ++ [vfL])[σ.length + 2]? = _
        rw [e0, hv0]; rfl
    · rintro i ρ σ' ⟨_, rfl⟩
      show (match (ST σ f odd _)[σ.length + 2]? with | some (.list l) => some (l.map V.it) | _ => none) = _
      rw [hv0]; rfl
    · rintro i X ρ σ' hX ⟨hρ2, rfl⟩
      have hi : ∃ v, X = V.str v ∧ ((i = 0 ∧ v = "") ∨ (i = 1 ∧ v = "f")) := by
        match i, hX with
        | 0, hX => exact ⟨"", (Option.some.inj hX).symm, .inl ⟨rfl, rfl⟩⟩
        | 1, hX => exact ⟨"f", (Option.some.inj hX).symm, .inr ⟨rfl, rfl⟩⟩
        | i + 2, hX => simp at hX
      obtain ⟨v, rfl, hi⟩ := hi
      refine ⟨setL ρ "value" (V.str v), _, ST σ f odd 5, TgOk.name rfl (by decide) rfl, ExsOk.sub (hρ2.tg rfl) (told_test hj hf hi), SubR.app (base := [("rows", V.obj jr), ("odd", V.int (odd : Nat)), ("turns", V.obj σ.length)]) (m := [("value", V.str v)]), ?_⟩
      rw [if_neg (by omega)]
    · rintro ρ2 σ2 ⟨hρ2, rfl⟩
      show BodyOk _ _ _ (ST σ f odd 5) _ _ _
      refine BodyOk.sub hρ2 (BodyOk.ret (ExOk.ret ?_))
      have eB : (((List.range 5).map fun t => V.str (nmB t)).filter fun _ => true).map (fun X => strI (sub (f (idxN X)))) = rowsT f := by
        unfold rowsT
        rw [List.filter_eq_self.mpr (fun _ _ => rfl), List.map_map]
        refine List.map_congr_left fun t ht => ?_
        show strI (sub (f (idxN (V.str (nmB t))))) = _
        rw [idx_nmB t (List.mem_range.mp ht)]
      rw [← eB]
      refine EvOk.comp (src := .str "AbCdE") (p := fun _ => true) (compS (by rfl)) (IterOk.str (EvOk.const rfl)) (src_Ab _) (by rw [List.length_map, List.length_range]; exact h5z) (fun _ _ => rfl) (fun _ _ => rfl) ?_
      intro X hX _
      obtain ⟨t, ht, rfl⟩ := mem_rngX (g := fun t => V.str (nmB t)) hX
      show EvOk _ _ _ _ _ (.at (.str (sub (f (idxN (V.str (nmB t))))))) _
      rw [idx_nmB t ht]
      obtain ⟨j1, j2⟩ := join_told (f t) (hf t ht)
      rw [← j1]
      have hl := low_nmB ht
      have hg := hdr_get_all (n := n + 17) (x := nmB t) (ST_hd σ f odd 5) (smallT f odd _) (lenT f odd (Nat.le_refl _)) (by unfold nmB; rw [ch_len]; decide) (by rw [hl]; exact txt_ch (by omega) (by omega)) (by rw [hl, ch_len]; exact one_line)
      rw [hl, show allE (ET f odd 5) (ch (97 + t)) = _ from all_told f odd ht (hf t ht)] at hg
      exact EvOk.joinNew (hc.ST f odd 5) (fun env => by rfl) rfl (EvOk.methU hm114 (fun env => by rfl) rfl (EvOk.name (X := .obj σ.length) rfl rfl rfl rfl) (ST_hd σ f odd 5).hj (EvsOk.cons (r := .at (.str (nmB t))) rfl (EvOk.name (X := .str (nmB t)) rfl rfl rfl rfl) EvsOk.nil) hg) (strsIt_mapI _) j2
end Mine
end
section
/-! ## text P19 -/
open PySem.Builtin PySem.Builtin.Str PySem.StrLaws
set_option maxRecDepth 100000
set_option maxHeartbeats 400000
namespace Mine
/-! the book of rows: entries, by numbers -/
noncomputable def low (m : Nat) : Nat := (bitsL m).headD 0
structure BkE where
  k : Nat
  m : Nat
  c : Nat
noncomputable def nmK (k m : Nat) : Str := ch ((if k % 2 = 0 then 97 else 65) + low m)
noncomputable def entB (b : BkE) : Ent := (nmK b.k b.m, rowS b.m b.c)
noncomputable def look (B : List BkE) (p : Nat) : Option BkE := B.find? fun b => low b.m == p
theorem low_lt : ∀ m : Nat, m < 32 → low m < 5 := by decide +kernel
theorem low_bit : ∀ m : Nat, m < 32 → m ≠ 0 → m.testBit (low m) = true := by decide +kernel
theorem low_mod : ∀ m : Nat, m < 32 → m ≠ 0 → m % 2 ^ (low m + 1) = 2 ^ low m := by decide +kernel
theorem low_xor : ∀ m : Nat, m < 32 → ∀ k : Nat, k < 32 → m ≠ 0 → k ≠ 0 → low m = low k → (m ^^^ k) % 2 ^ (low m + 1) = 0 := by decide +kernel
theorem low_ge : ∀ m : Nat, m < 32 → m ≠ 0 → ∀ d : Nat, d < 6 → m % 2 ^ d = 0 → d ≤ low m := by decide +kernel
theorem xor_lt {m k : Nat} (hm : m < 32) (hk : k < 32) : m ^^^ k < 32 := Nat.xor_lt_two_pow (n := 5) hm hk
theorem first_at : ∀ m : Nat, m < 32 → m ≠ 0 → strAt (sub m) 0 = some (ch (97 + low m)) := by decide +kernel
theorem upS : ∀ r : Nat, r < 5 → Txt.upper (ch (97 + r)) = ch (65 + r) := by decide +kernel
theorem low_nmK {k m : Nat} (hm : m < 32) : Txt.lower (nmK k m) = ch (97 + low m) := by
  unfold nmK
  split
  · exact lowS _ (low_lt m hm)
  · exact lowG _ (low_lt m hm)
theorem getS_look {B : List BkE} (hB : ∀ b ∈ B, b.m < 32) (p : Nat) : getS (B.map entB) (ch (97 + p)) = (look B p).map fun b => rowS b.m b.c := by
  unfold getS look
  induction B with
  | nil => rfl
  | cons b B ih =>
    rw [List.map_cons, List.find?_cons, List.find?_cons]
    have e : (Txt.lower (entB b).1 == ch (97 + p)) = (low b.m == p) := by
      show (Txt.lower (nmK b.k b.m) == ch (97 + p)) = _
      rw [low_nmK (hB b (.head _)), ch_inj, Bool.eq_iff_iff, decide_eq_true_eq, beq_iff_eq]
      omega
    rw [e]
    cases low b.m == p
    · exact ih fun b' hb' => hB b' (.tail _ hb')
    · rfl
theorem split_dot : ∀ {a b r s : List Nat}, (46 ∉ a) → (46 ∉ b) → a ++ 46 :: r = b ++ 46 :: s → a = b ∧ r = s
  | [], [], r, s, _, _, h => ⟨rfl, by simpa using h⟩
  | [], y :: b, r, s, _, hb, h => by
    simp only [List.nil_append, List.cons_append, List.cons.injEq] at h
    exact absurd (h.1 ▸ List.mem_cons_self) hb
  | x :: a, [], r, s, ha, _, h => by
    simp only [List.nil_append, List.cons_append, List.cons.injEq] at h
    exact absurd (h.1 ▸ List.mem_cons_self) ha
  | x :: a, y :: b, r, s, ha, hb, h => by
    simp only [List.cons_append, List.cons.injEq] at h
    obtain ⟨e1, e2⟩ := split_dot (fun q => ha (.tail _ q)) (fun q => hb (.tail _ q)) h.2
    exact ⟨by rw [h.1, e1], e2⟩
theorem ltr_inj : ∀ m : Nat, m < 32 → ∀ k : Nat, k < 32 → ltr m = ltr k → m = k := by decide +kernel
theorem no_dot (m : Nat) : 46 ∉ ltr m := fun h => by have := ltr_letters h; omega
theorem rowS_inj {m c m' c' : Nat} (hm : m < 32) (hm' : m' < 32) (hc : c < 32) (hc' : c' < 32) (h : rowS m c = rowS m' c') : m = m' ∧ c = c' := by
  have e := congrArg codes h
  rw [(rowL m c).eq, (rowL m' c').eq] at e
  obtain ⟨e1, e2⟩ := split_dot (no_dot _) (no_dot _) e
  simp only [List.cons.injEq, true_and] at e2
  have e3 := List.append_cancel_right e2
  exact ⟨ltr_inj m hm m' hm' e1, ltr_inj c hc c' hc' e3⟩
/-- rows are added till nothing is left or none stands -/
noncomputable def red (B : List BkE) : Nat → Nat → Nat → Nat × Nat
  | 0, m, c => (m, c)
  | d + 1, m, c => if m = 0 then (m, c) else match look B (low m) with
    | none => (m, c)
    | some b => red B d (m ^^^ b.m) (c ^^^ b.c)
structure OkB (B : List BkE) : Prop where
  ok : ∀ b ∈ B, b.m < 32 ∧ b.m ≠ 0 ∧ b.c < 32
theorem look_mem {B : List BkE} {p : Nat} {b : BkE} (h : look B p = some b) : b ∈ B ∧ low b.m = p := by
  unfold look at h
  exact ⟨List.mem_of_find?_eq_some h, by have := List.find?_some h; simpa using this⟩
theorem red_lt {B : List BkE} (hB : OkB B) : ∀ (d m c : Nat), m < 32 → c < 32 → (red B d m c).1 < 32 ∧ (red B d m c).2 < 32
  | 0, m, c, hm, hc => ⟨hm, hc⟩
  | d + 1, m, c, hm, hc => by
    unfold red
    split
    · exact ⟨hm, hc⟩
    · split
      · exact ⟨hm, hc⟩
      · rename_i b hb
        obtain ⟨h1, _⟩ := look_mem hb
        obtain ⟨q1, q2, q3⟩ := hB.ok b h1
        exact red_lt hB d _ _ (xor_lt hm q1) (xor_lt hc q3)
theorem red_step {m d : Nat} {b : BkE} {B : List BkE} (hB : OkB B) (hm : m < 32) (h0 : m ≠ 0) (hd : d < 5) (hz : m % 2 ^ (4 - d) = 0) (hb : look B (low m) = some b) : (m ^^^ b.m) % 2 ^ (5 - d) = 0 := by
  obtain ⟨h1, h2⟩ := look_mem hb
  obtain ⟨q1, q2, q3⟩ := hB.ok b h1
  have hx := low_xor m hm b.m q1 h0 q2 h2.symm
  have hl := low_ge m hm h0 (4 - d) (by omega) hz
  have hdv : 2 ^ (5 - d) ∣ 2 ^ (low m + 1) := Nat.pow_dvd_pow 2 (by omega)
  exact Nat.mod_eq_zero_of_dvd (Nat.dvd_trans hdv (Nat.dvd_of_mod_eq_zero hx))
theorem red_end {B : List BkE} (hB : OkB B) : ∀ (d m c : Nat), d ≤ 5 → m < 32 → m % 2 ^ (5 - d) = 0 → (red B d m c).1 = 0 ∨ look B (low (red B d m c).1) = none
  | 0, m, c, hd, hm, hz => .inl (by
    show m = 0
    have : (2 : Nat) ^ (5 - 0) = 32 := rfl
    rw [this] at hz; omega)
  | d + 1, m, c, hd, hm, hz => by
    unfold red
    split
    · rename_i h; exact .inl h
    · rename_i h0
      split
      · rename_i h; exact .inr h
      · rename_i b hb
        obtain ⟨h1, _⟩ := look_mem hb
        exact red_end hB d _ _ (by omega) (xor_lt hm (hB.ok b h1).1) (red_step hB hm h0 (by omega) (by rw [show 4 - d = 5 - (d + 1) by omega]; exact hz) hb)
end Mine
end
section
/-! ## text P20 -/
open PySem.Builtin PySem.Builtin.Str PySem.StrLaws
set_option maxRecDepth 100000
set_option maxHeartbeats 400000
namespace Mine
noncomputable def whTest : Stmt → Expr
  | .While t _ _ _ => t
  | _ => .Constant .none 0 ⟨0, 0, 0, 0⟩
theorem sub_ne : ∀ m : Nat, m < 32 → (sub m != ("" : Str)) = decide (m ≠ 0) := by decide +kernel
theorem sub_eq : ∀ m : Nat, m < 32 → (sub m == ("" : Str)) = decide (m = 0) := by decide +kernel
theorem sub_zero : sub 0 = "" := by decide +kernel
theorem smallB {B : List BkE} : smallE (B.map entB) := by
  intro e he
  obtain ⟨b, _, rfl⟩ := List.mem_map.mp he
  show (ch _).length ≤ _
  rw [ch_len]; decide
noncomputable abbrev rhoC3 (jb m c : Nat) : Rho := [("board", V.str (sub m)), ("book", V.obj jb), ("choice", V.str (sub c))]
theorem choice_body {n jb kb m c : Nat} {B : List BkE} {σ : List Ob} (hc : Cl σ) (hd : HdAt σ jb kb (B.map entB)) (hB : OkB B) (hm : m < 32) (h0 : m ≠ 0) (hcc : c < 32) :
    (∃ ρ', ExsOk (n + 19) fd259.scope.names (rhoC3 jb m c) σ (forB ((fB (topS 21)).getD 1 noS)) (match look B (low m) with | none => .ret (.at .none) | some b => .go) ρ' σ ∧ ∀ b, look B (low m) = some b → SubR (rhoC3 jb (m ^^^ b.m) (c ^^^ b.c)) ρ') := by
  have hl := low_lt m hm
  have hlow : Txt.lower (ch (65 + low m)) = ch (97 + low m) := lowG _ hl
  have hg := hdr_get (n := n + 17) (x := ch (65 + low m)) (by omega) hd smallB (by rw [ch_len]; decide) (by rw [hlow]; exact txt_ch (by omega) (by omega)) (by rw [hlow, ch_len]; exact one_line)
  rw [hlow, getE_getS, getS_look (fun b hb => (hB.ok b hb).1)] at hg
  have key : ∀ {a : At}, (match (look B (low m)).map (fun b => rowS b.m b.c) with | some v => At.str v | none => .none) = a →
      EvOk (n + 19) fd259.scope.names (rhoC3 jb m c) σ (match (forB ((fB (topS 21)).getD 1 noS)).getD 0 noS with | .Assign _ e _ => e | _ => .Constant .none 0 ⟨0, 0, 0, 0⟩) (.at a) σ := by
    rintro a rfl
    refine EvOk.methU hm122 (fun env => by rfl) rfl (EvOk.name (X := .obj jb) rfl rfl rfl rfl) hd.hj (EvsOk.cons (r := .at (.str (ch (65 + low m)))) rfl (EvOk.methB (r0 := .at (.str (ch (97 + low m)))) (id := "str.upper") (fun env => by rfl) rfl (EvOk.sub (r := .at (.str (sub m))) (i := .int 0) (EvOk.name (X := .str (sub m)) rfl rfl rfl rfl) (EvOk.const rfl) ?_) (MbOk.str fun M A s pl Q E t h => GM.upper h) EvsOk.nil (BiOk.atoms (ats := [.str (ch (97 + low m))]) rfl ?_)) EvsOk.nil) hg
    · show (strAt (sub m) 0).map (fun y => V.str y) = _
      rw [first_at m hm h0]; rfl
    · show (if (ch (97 + low m)).length ≤ 5592405 then some (At.str (Txt.upper (ch (97 + low m)))) else none) = _
      rw [if_pos (by rw [ch_len]; decide), upS _ hl]
  cases hb : look B (low m) with
  | none =>
    have k := key (a := .none) (by rw [hb]; rfl)
    refine ⟨_, ExsOk.cons (ρ₁ := rhoC3 jb m c ++ ([("stands", V.none)] : Rho)) (σ₁ := σ) (ExOk.assign (r := .at .none) k rfl rfl (by decide) rfl) (ExsOk.ret (ExOk.ifT (TrOk.cmp (EvOk.name (X := .none) rfl rfl rfl rfl) (EvOk.const (a := .none) rfl) rfl rfl) (ExsOk.ret (ExOk.ret (EvOk.const rfl))))), fun b q => nomatch q⟩
  | some b =>
    have k := key (a := .str (rowS b.m b.c)) (by rw [hb]; rfl)
    obtain ⟨h1, h2⟩ := look_mem hb
    obtain ⟨q1, q2, q3⟩ := hB.ok b h1
    refine ⟨rhoC3 jb (m ^^^ b.m) (c ^^^ b.c) ++ ([("stands", V.str (rowS b.m b.c))] : Rho), ?_, fun b' q => ?_⟩
    · refine ExsOk.cons (ρ₁ := rhoC3 jb m c ++ ([("stands", V.str (rowS b.m b.c))] : Rho)) (σ₁ := σ) (ExOk.assign (r := .at (.str (rowS b.m b.c))) k rfl rfl (by decide) rfl) ?_
      refine ExsOk.cons (ExOk.ifF (TrOk.cmp (EvOk.name (X := .str (rowS b.m b.c)) rfl rfl rfl rfl) (EvOk.const (a := .none) rfl) rfl rfl) ExsOk.nil) ?_
      refine ExsOk.cons (ρ₁ := rhoC3 jb (m ^^^ b.m) c ++ ([("stands", V.str (rowS b.m b.c))] : Rho)) (σ₁ := σ) (ExOk.assign (r := .at (.str (sub (m ^^^ b.m)))) (EvOk.callG (f := 245) rfl rfl (by kernel_rfl) rfl keep245 (EvsOk.cons (r := .at (.str (sub m))) rfl (EvOk.name (X := .str (sub m)) rfl rfl rfl rfl) (EvsOk.cons (r := .at (.str (sub b.m))) rfl (prefix_ok (c := b.c) rfl rfl rfl rfl (fun env => by rfl)) EvsOk.nil)) (law_sum' (n := n + 18) hm q1 hc)) rfl rfl (by decide) rfl) ?_
      refine ExsOk.cons (ρ₁ := rhoC3 jb (m ^^^ b.m) (c ^^^ b.c) ++ ([("stands", V.str (rowS b.m b.c))] : Rho)) (σ₁ := σ) (ExOk.assign (r := .at (.str (sub (c ^^^ b.c)))) (EvOk.callG (f := 245) rfl rfl (by kernel_rfl) rfl keep245 (EvsOk.cons (r := .at (.str (sub c))) rfl (EvOk.name (X := .str (sub c)) rfl rfl rfl rfl) (EvsOk.cons (r := .at (.str (sub b.c))) rfl (EvOk.callG (f := 193) rfl rfl (by kernel_rfl) rfl keep193 (EvsOk.cons (r := .at (.str (rowS b.m b.c))) rfl (EvOk.name (X := .str (rowS b.m b.c)) rfl rfl rfl rfl) EvsOk.nil) (strip_row (n := n + 14) (m := b.m) (c := b.c))) EvsOk.nil)) (law_sum' (n := n + 18) hcc q3 hc)) rfl rfl (by decide) rfl) ExsOk.nil
    · cases q
      exact SubR.app (base := rhoC3 jb (m ^^^ b.m) (c ^^^ b.c))
end Mine
end
section
/-! ## text P21 -/
open PySem.Builtin PySem.Builtin.Str PySem.StrLaws
set_option maxRecDepth 100000
set_option maxHeartbeats 400000
namespace Mine
theorem TrOk.sub {n : Nat} {nm : Nm} {ρ ρ' : Rho} {σ σ₁ : List Ob} {e : Expr} {b : Bool} (q : SubR ρ' ρ) (h : TrOk n nm ρ' σ e b σ₁) : TrOk n nm ρ σ e b σ₁ :=
  fun w A B α env s Q E bs rm F R hq => h w A B α env s Q E bs rm (F.sub q) R hq
theorem EvOk.sub' {n : Nat} {nm : Nm} {ρ ρ' : Rho} {σ σ₁ : List Ob} {e : Expr} {r : RV} (q : SubR ρ' ρ) (h : EvOk n nm ρ' σ e r σ₁) : EvOk n nm ρ σ e r σ₁ :=
  fun w A B α env s Q E bs rm F R hq => h w A B α env s Q E bs rm (F.sub q) R hq
noncomputable abbrev whC : Stmt := (fB (topS 21)).getD 1 noS
theorem choice_test {n jb m c : Nat} {σ : List Ob} (hm : m < 32) : TrOk (n + 19) fd259.scope.names (rhoC3 jb m c) σ (whTest whC) (decide (m ≠ 0)) σ :=
  TrOk.cmp (a := .str (sub m)) (b := .str "") (EvOk.name (X := .str (sub m)) rfl rfl rfl rfl) (EvOk.const rfl) (by show some (sub m != "") = _; rw [sub_ne m hm]) rfl
theorem choice_loop {n jb kb : Nat} {B : List BkE} {σ : List Ob} (hc : Cl σ) (hd : HdAt σ jb kb (B.map entB)) (hB : OkB B) : ∀ (d m c : Nat) (ρ : Rho), d ≤ 5 → m < 32 → c < 32 → m % 2 ^ (5 - d) = 0 → SubR (rhoC3 jb m c) ρ →
    ∃ j ρ', WhileD (n + 19) fd259.scope.names (whTest whC) (forB whC) j ρ σ (if (red B d m c).1 = 0 then .go else .ret (.at .none)) ρ' σ ∧ ((red B d m c).1 = 0 → SubR (rhoC3 jb 0 (red B d m c).2) ρ')
  | d, 0, c, ρ, hd5, hm, hcc, hz, hρ => by
    have e : red B d 0 c = (0, c) := by cases d <;> rfl
    rw [e, if_pos rfl]
    refine ⟨0, ρ, .done (TrOk.sub hρ (choice_test (m := 0) (by omega))), fun _ => hρ⟩
  | 0, m + 1, c, ρ, hd5, hm, hcc, hz, hρ => by
    have : (2 : Nat) ^ (5 - 0) = 32 := rfl
    rw [this] at hz; omega
  | d + 1, m + 1, c, ρ, hd5, hm, hcc, hz, hρ => by
    have h0 : m + 1 ≠ 0 := by omega
    have t := TrOk.sub hρ (choice_test (n := n) (jb := jb) (c := c) (σ := σ) (m := m + 1) hm)
    rw [decide_eq_true h0] at t
    obtain ⟨ρ2, b2, hs⟩ := choice_body (n := n) hc hd hB hm h0 hcc
    unfold red
    rw [if_neg h0]
    cases hb : look B (low (m + 1)) with
    | none =>
      rw [hb] at b2
      dsimp only
      rw [if_neg h0]
      exact ⟨0, ρ2, .ret t (ExsOk.sub hρ b2), fun h => absurd h h0⟩
    | some b =>
      rw [hb] at b2
      obtain ⟨h1, _⟩ := look_mem hb
      obtain ⟨q1, q2, q3⟩ := hB.ok b h1
      obtain ⟨j, ρ', D, hE⟩ := choice_loop (n := n) hc hd hB d ((m + 1) ^^^ b.m) (c ^^^ b.c) ρ2 (by omega) (xor_lt hm q1) (xor_lt hcc q3) (red_step hB hm h0 (by omega) (by rw [show 4 - d = 5 - (d + 1) by omega]; exact hz) hb) (hs b hb)
      exact ⟨j + 1, ρ', .step t (ExsOk.sub hρ b2) D, hE⟩
noncomputable def chosen (B : List BkE) (m : Nat) : Option Nat := if (red B 5 m 0).1 = 0 then some (red B 5 m 0).2 else none
noncomputable def chAt : Option Nat → At
  | some c => .str (sub c)
  | none => .none
theorem law_choice {n jb kb m : Nat} {B : List BkE} {σ : List Ob} (hc : Cl σ) (hd : HdAt σ jb kb (B.map entB)) (hB : OkB B) (hm : m < 32) : FnOk (n + 20) 259 [.str (sub m), .obj jb] [] σ (.at (chAt (chosen B m))) σ := by
  refine fn_okB at259 (bind259 _ _) (show nd2 "board" "book" from by decide) (by rfl) ?_
  refine BodyOk.cons (ρ₁ := rhoC3 jb m 0) (σ₁ := σ) (ExOk.assign (r := .at (.str (sub 0))) (EvOk.const (by rfl)) rfl rfl (by decide) rfl) ?_
  obtain ⟨j, ρ', D, hE⟩ := choice_loop (n := n) hc hd hB 5 m 0 _ (Nat.le_refl _) hm (by decide) (by rw [Nat.sub_self]; exact Nat.mod_one m) (SubR.refl (ρ := rhoC3 jb m 0))
  unfold chosen
  by_cases h : (red B 5 m 0).1 = 0
  · rw [if_pos h] at D ⊢
    refine BodyOk.cons (ExOk.while D) (BodyOk.sub (hE h) (BodyOk.ret (ExOk.ret (EvOk.name (X := .str (sub (red B 5 m 0).2)) rfl rfl rfl rfl))))
  · rw [if_neg h] at D ⊢
    exact BodyOk.ret (ExOk.while D)
end Mine
end
section
/-! ## text P22 -/
open PySem.Builtin PySem.Builtin.Str PySem.StrLaws
set_option maxRecDepth 100000
set_option maxHeartbeats 400000
namespace Mine
theorem top_xorB : ∀ k : Nat, k < 5 → ∀ c : Nat, c < 32 → ∀ e : Nat, e < 32 → (!(Nat.ble (2 ^ k) c && Nat.blt c (2 ^ (k + 1)) && Nat.blt e (2 ^ k)) || (Nat.ble (2 ^ k) (c ^^^ e) && Nat.blt (c ^^^ e) (2 ^ (k + 1)))) = true := by decide +kernel
theorem top_xor (k : Nat) (hk : k < 5) (c : Nat) (hc : c < 32) (e : Nat) (he : e < 32) (h1 : 2 ^ k ≤ c) (h2 : c < 2 ^ (k + 1)) (h3 : e < 2 ^ k) : 2 ^ k ≤ c ^^^ e ∧ c ^^^ e < 2 ^ (k + 1) := by
  have h := top_xorB k hk c hc e he
  rw [Nat.ble_eq_true_of_le h1, show c.blt (2 ^ (k + 1)) = true from Nat.ble_eq_true_of_le h2, show e.blt (2 ^ k) = true from Nat.ble_eq_true_of_le h3] at h
  simp only [Bool.and_self, Bool.not_true, Bool.false_or, Bool.and_eq_true] at h
  exact ⟨Nat.le_of_ble_eq_true h.1, Nat.le_of_ble_eq_true h.2⟩
theorem pow_le32 {k : Nat} (h : k < 5) : 2 ^ (k + 1) ≤ 32 := Nat.pow_le_pow_right (n := 2) (by decide) (show k + 1 ≤ 5 by omega)
theorem red_top {B : List BkE} {k : Nat} (hk : k < 5) (hB : ∀ b ∈ B, b.c < 2 ^ k) : ∀ (d m c : Nat), 2 ^ k ≤ c → c < 2 ^ (k + 1) → 2 ^ k ≤ (red B d m c).2 ∧ (red B d m c).2 < 2 ^ (k + 1)
  | 0, m, c, h1, h2 => ⟨h1, h2⟩
  | d + 1, m, c, h1, h2 => by
    unfold red
    split
    · exact ⟨h1, h2⟩
    · split
      · exact ⟨h1, h2⟩
      · rename_i b hb
        have q := hB b (look_mem hb).1
        have p1 := pow_le32 hk
        have p2 : 2 ^ k ≤ 2 ^ (k + 1) := Nat.pow_le_pow_right (by decide) (by omega)
        have h := top_xor k hk c (by omega) b.c (by omega) h1 h2 q
        exact red_top hk hB d _ _ h.1 h.2
noncomputable def stepB (f : Nat → Nat) (k : Nat) (S : List BkE × List Nat) : List BkE × List Nat :=
  if (red S.1 5 (f k) (2 ^ k)).1 = 0 then (S.1, S.2 ++ [(red S.1 5 (f k) (2 ^ k)).2]) else (S.1 ++ [⟨k, (red S.1 5 (f k) (2 ^ k)).1, (red S.1 5 (f k) (2 ^ k)).2⟩], S.2)
noncomputable def elim (f : Nat → Nat) : Nat → List BkE × List Nat
  | 0 => ([], [])
  | k + 1 => stepB f k (elim f k)
structure WalkB (k : Nat) (S : List BkE × List Nat) : Prop where
  ok : OkB S.1
  top : ∀ b ∈ S.1, b.c < 2 ^ k
  len : S.1.length + S.2.length = k
  w : ∀ c ∈ S.2, c < 32
theorem walkB {f : Nat → Nat} (hf : ∀ i < 5, f i < 32) : ∀ k ≤ 5, WalkB k (elim f k)
  | 0, _ => ⟨⟨fun _ h => nomatch h⟩, fun _ h => (nomatch h), rfl, fun _ h => nomatch h⟩
  | k + 1, hk => by
    have ih := walkB hf k (by omega)
    have p1 := pow_le32 (show k < 5 by omega)
    have p2 : 2 ^ k < 2 ^ (k + 1) := Nat.pow_lt_pow_right (by decide) (by omega)
    have ht := red_top (show k < 5 by omega) ih.top 5 (f k) (2 ^ k) (Nat.le_refl _) p2
    have hl := red_lt ih.ok 5 (f k) (2 ^ k) (hf k (by omega)) (by omega)
    show WalkB (k + 1) (stepB f k (elim f k))
    unfold stepB
    generalize elim f k = S at ih ht hl
    have hlen := ih.len
    split
    · refine ⟨ih.ok, fun b hb => Nat.lt_trans (ih.top b hb) p2, by simp; omega, fun c hc => ?_⟩
      rcases List.mem_append.mp hc with hc | hc
      · exact ih.w c hc
      · rw [List.mem_singleton.mp hc]; exact hl.2
    · rename_i h0
      refine ⟨⟨fun b hb => ?_⟩, fun b hb => ?_, by simp; omega, ih.w⟩
      · rcases List.mem_append.mp hb with hb | hb
        · exact ih.ok.ok b hb
        · rw [List.mem_singleton.mp hb]; exact ⟨hl.1, h0, hl.2⟩
      · rcases List.mem_append.mp hb with hb | hb
        · exact Nat.lt_trans (ih.top b hb) p2
        · rw [List.mem_singleton.mp hb]; exact ht.2
/-! the world of the walk that fills the book -/
noncomputable def subI (w : Nat) : It := strI (sub w)
noncomputable def SFG (σ : List Ob) (kb : Nat) (B : List BkE) (W : List Nat) (L : List BkE) : List Ob := σ.set kb (.list ((B.map entB).map ent)) ++ [.list (W.map subI), .list ((L.map entB).map ent)]
section
variable {σ : List Ob} {kb jb jt : Nat} {B L : List BkE} {W : List Nat}
theorem SFG_hd (h : HdAt σ jb kb []) : HdAt (SFG σ kb B W L) jb kb (B.map entB) := by
  have hne : jb ≠ kb := by
    rintro rfl
    have := h.hj.symm.trans h.hk
    cases this
  have hk := (List.getElem?_eq_some_iff.mp h.hk).1
  have hj := (List.getElem?_eq_some_iff.mp h.hj).1
  unfold SFG
  constructor
  · rw [List.getElem?_append_left (by rw [List.length_set]; exact hj), List.getElem?_set_ne (Ne.symm hne)]; exact h.hj
  · rw [List.getElem?_append_left (by rw [List.length_set]; exact hk), List.getElem?_set_self hk]
theorem SFG_old {l : List It} (h : objL σ jt = some l) (hne : jt ≠ kb) : objL (SFG σ kb B W L) jt = some l := by
  refine objL_app (objL_of ?_)
  rw [List.getElem?_set_ne (Ne.symm hne)]; exact objL_get h
theorem SFG_w : objL (SFG σ kb B W L) σ.length = some (W.map subI) := by
  refine objL_of ?_
  unfold SFG
  rw [List.getElem?_append_right (by rw [List.length_set]; exact Nat.le_refl _), List.length_set, Nat.sub_self]; rfl
theorem SFG_l : objL (SFG σ kb B W L) (σ.length + 1) = some ((L.map entB).map ent) := by
  refine objL_of ?_
  unfold SFG
  rw [List.getElem?_append_right (by rw [List.length_set]; omega), List.length_set, show σ.length + 1 - σ.length = 1 by omega]; rfl
theorem SFG_setW (w : Nat) : (SFG σ kb B W L).set σ.length (.list (W.map subI ++ [subI w])) = SFG σ kb B (W ++ [w]) L := by
  unfold SFG
  rw [List.set_append_right _ _ (by rw [List.length_set]; exact Nat.le_refl _), List.length_set, Nat.sub_self, List.map_append]; rfl
theorem SFG_setL (b : BkE) : (SFG σ kb B W L).set (σ.length + 1) (.list ((L.map entB).map ent ++ [ent (entB b)])) = SFG σ kb B W (L ++ [b]) := by
  unfold SFG
  rw [List.set_append_right _ _ (by rw [List.length_set]; omega), List.length_set, show σ.length + 1 - σ.length = 1 by omega, List.map_append, List.map_append]; rfl
theorem SFG_setB (hk : kb < σ.length) (b : BkE) : (SFG σ kb B W L).set kb (.list ((B.map entB ++ [entB b]).map ent)) = SFG σ kb (B ++ [b]) W L := by
  unfold SFG
  rw [List.set_append_left _ _ (by rw [List.length_set]; exact hk), List.set_set]
  simp only [List.map_append, List.map_cons, List.map_nil]
theorem cl_subs (k : Nat) (W : List Nat) : (W.map subI).all (clIt k) = true := by
  rw [List.all_eq_true]; intro x hx; obtain ⟨y, _, rfl⟩ := List.mem_map.mp hx; rfl
theorem Cl.SFG (h : Cl σ) : Cl (SFG σ kb B W L) := by
  have h1 := h.set (k := kb) (o := .list ((B.map entB).map ent)) (cl_ents _ _)
  have h2 := (h1.push (o := .list (W.map subI)) (cl_subs _ _)).push (o := .list ((L.map entB).map ent)) (cl_ents _ _)
  unfold Mine.SFG
  rw [List.append_assoc] at h2
  exact h2
theorem SFG_len : (SFG σ kb B W L).length = σ.length + 2 := by unfold SFG; simp
end
theorem txt_row (m c : Nat) : txtOk (rowS m c) = true := by
  unfold txtOk
  rw [List.all_eq_true]
  intro x hx
  have hx' : x ∈ codes (rowS m c) := hx
  rw [(rowL m c).eq] at hx'
  simp only [List.mem_append, List.mem_cons, List.not_mem_nil, or_false] at hx'
  simp only [Bool.and_eq_true, decide_eq_true_eq]
  have : 32 ≤ x ∧ x < 127 := by
    rcases hx' with h | h | h | h | h | h | h
    · have := ltr_letters h; omega
    · omega
    · omega
    · omega
    · omega
    · have := ltr_letters h; omega
    · omega
  exact this
theorem len_row (m c : Nat) : (rowS m c).length ≤ 100 := by
  have h := (rowL m c).len
  have h1 : (ltr m).length ≤ 5 := by have := len_sub m; rwa [len_codes, codes_sub] at this
  have h2 : (ltr c).length ≤ 5 := by have := len_sub c; rwa [len_codes, codes_sub] at this
  omega
end Mine
end
section
/-! ## text P23 -/
open PySem.Builtin PySem.Builtin.Str PySem.StrLaws
set_option maxRecDepth 100000
set_option maxHeartbeats 400000
namespace Mine
noncomputable abbrev rhoF (jt jb h k m c : Nat) : Rho := [("told", V.obj jt), ("book", V.obj jb), ("fallen", V.obj h), ("laid", V.obj (h + 1)), ("k", V.int (k : Nat)), ("lamps", V.str (sub m)), ("choice", V.str (sub c))]
noncomputable abbrev rhoFn (nm row : Str) : Rho := [("name", V.str nm), ("row", V.str row)]
noncomputable abbrev whF : Stmt := (forB ((fB (topS 20)).getD 1 noS)).getD 1 noS
theorem fallen_test {n jt jb h k m c : Nat} {σ : List Ob} (hm : m < 32) : TrOk (n + 19) fd252.scope.names (rhoF jt jb h k m c) σ (whTest whF) (decide (m ≠ 0)) σ :=
  TrOk.cmp (a := .str (sub m)) (b := .str "") (EvOk.name (X := .str (sub m)) rfl rfl rfl rfl) (EvOk.const rfl) (by show some (sub m != "") = _; rw [sub_ne m hm]) rfl
theorem add_str {x y : Str} (h : x.length + y.length ≤ 1000) : binI .Add (.str x) (.str y) = some (.str (x ++ y)) := by
  show (if x.length + y.length ≤ sizeLine then some (At.str (x ++ y)) else none) = _
  have : (1000 : Nat) ≤ sizeLine := by decide
  rw [if_pos (by omega)]
theorem fallen_names {n jt jb h k m c : Nat} {σ : List Ob} (hm : m < 32) (h0 : m ≠ 0) (hk : k < 5) :
    ExOk (n + 19) fd252.scope.names (rhoF jt jb h k m c) σ ((forB whF).getD 0 noS) .go (rhoF jt jb h k m c ++ rhoFn (nmK k m) (rowS m c)) σ := by
  have hl := low_lt m hm
  have l1 := len_sub m
  have l2 := len_sub c
  have e2 : ((2 : Nat) : Int) = 2 := rfl
  have first : ∀ {σ' : List Ob}, idxI σ' (.at (.str (sub m))) (.int 0) = some (.str (ch (97 + low m))) := by
    intro σ'
    show (strAt (sub m) 0).map (fun y => V.str y) = _
    rw [first_at m hm h0]; rfl
  refine ExOk.assign2 (a := .str (nmK k m)) (b := .str (rowS m c)) (EvOk.tuple (Vs := [.str (nmK k m), .str (rowS m c)]) (EvsOk.cons (r := .at (.str (nmK k m))) (σ₁ := σ) rfl ?_ (EvsOk.cons (r := .at (.str (rowS m c))) (σ₁ := σ) rfl ?_ EvsOk.nil)) rfl (by show 2 ≤ sizeLine; decide)) rfl rfl rfl ?_
  · refine EvOk.sub (r := .new [strI (ch (97 + low m)), strI (ch (65 + low m))]) (i := .int ((k % 2 : Nat) : Int)) (EvOk.list (Vs := [.str (ch (97 + low m)), .str (ch (65 + low m))]) (EvsOk.cons (r := .at (.str (ch (97 + low m)))) rfl (EvOk.sub (r := .at (.str (sub m))) (i := .int 0) (EvOk.name (X := .str (sub m)) rfl rfl rfl rfl) (EvOk.const rfl) first)
      (EvsOk.cons (r := .at (.str (ch (65 + low m)))) rfl (EvOk.methB (r0 := .at (.str (ch (97 + low m)))) (id := "str.upper") (fun env => by rfl) rfl (EvOk.sub (r := .at (.str (sub m))) (i := .int 0) (EvOk.name (X := .str (sub m)) rfl rfl rfl rfl) (EvOk.const rfl) first) (MbOk.str fun M A s pl Q E t h => GM.upper h) EvsOk.nil (BiOk.atoms (ats := [.str (ch (97 + low m))]) rfl ?_)) EvsOk.nil)) rfl (by show 2 ≤ sizeLine; decide))
      (EvOk.bin (a := .int (k : Int)) (b := .int 2) (EvOk.name (X := .int (k : Int)) rfl rfl rfl rfl) (EvOk.const rfl) ?_) ?_
    · show (if (ch (97 + low m)).length ≤ 5592405 then some (At.str (Txt.upper (ch (97 + low m)))) else none) = _
      rw [if_pos (by rw [ch_len]; decide), upS _ hl]
    · show (if (2 : Int) = 0 then none else some (At.int ((k : Int).fmod 2))) = _
      rw [if_neg (by decide), ← e2, fmod_nat]
    · show (pick ([strI (ch (97 + low m)), strI (ch (65 + low m))] : List It) ((k % 2 : Nat) : Int)).map V.it = _
      have : pick ([strI (ch (97 + low m)), strI (ch (65 + low m))] : List It) ((k % 2 : Nat) : Int) = some (strI (nmK k m)) := by
        refine pick_nat ?_ (by omega)
        unfold nmK
        by_cases h : k % 2 = 0
        · rw [if_pos h, h]; rfl
        · rw [if_neg h, show k % 2 = 1 by omega]; rfl
      rw [this]; rfl
  · unfold rowS
    refine EvOk.bin (a := .str (sub m ++ ".by." ++ sub c)) (b := .str ": By 1.5") (EvOk.bin (a := .str (sub m ++ ".by.")) (b := .str (sub c)) (EvOk.bin (a := .str (sub m)) (b := .str ".by.") (EvOk.name (X := .str (sub m)) rfl rfl rfl rfl) (EvOk.const rfl) (add_str ?_)) (EvOk.name (X := .str (sub c)) rfl rfl rfl rfl) (add_str ?_)) (EvOk.const rfl) (add_str ?_)
    · have : (Str.ofString ".by.").length = 4 := by rfl
      omega
    · rw [Str.length_append]
      have : (Str.ofString ".by.").length = 4 := by rfl
      omega
    · rw [Str.length_append, Str.length_append]
      have : (Str.ofString ".by.").length = 4 := by rfl
      have : (Str.ofString ": By 1.5").length = 8 := by rfl
      omega
  · intro env h1 h2 h3
    exact swapped2 h1 h2 h3 rfl rfl rfl rfl rfl rfl
end Mine
end
section
/-! ## text P24 -/
open PySem.Builtin PySem.Builtin.Str PySem.StrLaws
set_option maxRecDepth 100000
set_option maxHeartbeats 400000
namespace Mine
structure BkAt (σ : List Ob) (jb kb jt : Nat) (f : Nat → Nat) : Prop where
  cl : Cl σ
  hd : HdAt σ jb kb []
  told : objL σ jt = some (rowsT f)
  ne : jt ≠ kb
theorem BkAt.lt {σ : List Ob} {jb kb jt : Nat} {f : Nat → Nat} (h : BkAt σ jb kb jt f) : kb < σ.length := (List.getElem?_eq_some_iff.mp h.hd.hk).1
theorem set_default {n k m c jb kb jt : Nat} {f : Nat → Nat} {B : List BkE} {W : List Nat} {σ : List Ob} (H : BkAt σ jb kb jt f) (hB : OkB B) (hBl : B.length ≤ 5) (hm : m < 32) (h0 : m ≠ 0) :
    FnOk (n + 19) 165 [.obj jb, .str (nmK k m), .str (rowS m c)] [] (SFG σ kb B W B) (.at (.str (match look B (low m) with | none => rowS m c | some b => rowS b.m b.c))) (match look B (low m) with | none => SFG σ kb (B ++ [⟨k, m, c⟩]) W B | some b => SFG σ kb B W B) := by
  have hl := low_lt m hm
  have hlow := low_nmK (k := k) hm
  have hz : (B.map entB).length ≤ sizeLine := by
    rw [List.length_map]
    have : (5 : Nat) ≤ sizeLine := by decide
    omega
  have hx : txtOk (nmK k m) = true := by unfold nmK; split <;> exact txt_ch (by omega) (by omega)
  have h := hdr_setdefault (n := n + 16) (x := nmK k m) (v := rowS m c) (by omega) (SFG_hd (B := B) (L := B) (W := W) H.hd) smallB hz (by unfold nmK; rw [ch_len]; decide) hx (by rw [hlow]; exact txt_ch (by omega) (by omega)) (by rw [hlow, ch_len]; exact one_line) (txt_row m c) (by
    have := len_row m c
    have : (100 : Nat) ≤ sizeLine := by decide
    omega)
  rw [hlow, getS_look (fun b hb => (hB.ok b hb).1)] at h
  cases hb : look B (low m) with
  | none =>
    rw [hb] at h
    have h2 : FnOk (n + 19) 165 [.obj jb, .str (nmK k m), .str (rowS m c)] [] (SFG σ kb B W B) (.at (.str (rowS m c))) ((SFG σ kb B W B).set kb (.list ((B.map entB ++ [entB ⟨k, m, c⟩]).map ent))) := h
    rw [SFG_setB H.lt] at h2
    exact h2
  | some b => rw [hb] at h; exact h
theorem fallen_body {n k m c jb kb jt : Nat} {f : Nat → Nat} {B : List BkE} {W : List Nat} {σ : List Ob} (H : BkAt σ jb kb jt f) (hB : OkB B) (hBl : B.length ≤ 5) (hm : m < 32) (h0 : m ≠ 0) (hk : k < 5) (hcc : c < 32) (hc1 : 2 ^ k ≤ c) (hBt : ∀ b ∈ B, b.c < 2 ^ k) :
    ∃ ρ', ExsOk (n + 19) fd252.scope.names (rhoF jt jb σ.length k m c) (SFG σ kb B W B) (forB whF) (match look B (low m) with | none => .brk | some b => .go) ρ' (match look B (low m) with | none => SFG σ kb (B ++ [⟨k, m, c⟩]) W (B ++ [⟨k, m, c⟩]) | some b => SFG σ kb B W B)
      ∧ (look B (low m) = none → SubR (rhoF jt jb σ.length k m c) ρ') ∧ ∀ b, look B (low m) = some b → SubR (rhoF jt jb σ.length k (m ^^^ b.m) (c ^^^ b.c)) ρ' := by
  have hset := set_default (n := n) (k := k) (m := m) (c := c) (W := W) H hB hBl hm h0
  have hcl : ∀ {B' L : List BkE} {W : List Nat}, Cl (SFG σ kb B' W L) := H.cl.SFG
  have hd : ∀ {B' L : List BkE} {W : List Nat}, HdAt (SFG σ kb B' W L) jb kb (B'.map entB) := SFG_hd H.hd
  have stand : ∀ {v : Str} {σ' : List Ob}, FnOk (n + 19) 165 [.obj jb, .str (nmK k m), .str (rowS m c)] [] (SFG σ kb B W B) (.at (.str v)) σ' →
      ExOk (n + 19) fd252.scope.names (rhoF jt jb σ.length k m c ++ rhoFn (nmK k m) (rowS m c)) (SFG σ kb B W B) ((forB whF).getD 1 noS) .go (rhoF jt jb σ.length k m c ++ rhoFn (nmK k m) (rowS m c) ++ ([("stands", V.str v)] : Rho)) σ' := fun hf =>
    ExOk.assign (EvOk.methU hm165 (fun env => by rfl) rfl (EvOk.name (X := .obj jb) rfl rfl rfl rfl) hd.hj (EvsOk.cons (r := .at (.str (nmK k m))) rfl (EvOk.name (X := .str (nmK k m)) rfl rfl rfl rfl) (EvsOk.cons (r := .at (.str (rowS m c))) rfl (EvOk.name (X := .str (rowS m c)) rfl rfl rfl rfl) EvsOk.nil)) hf) rfl rfl (by decide) rfl
  cases hb : look B (low m) with
  | none =>
    rw [hb] at hset
    dsimp only at hset ⊢
    refine ⟨rhoF jt jb σ.length k m c ++ rhoFn (nmK k m) (rowS m c) ++ ([("stands", V.str (rowS m c))] : Rho), ?_, fun _ => ?_, fun b q => nomatch q⟩
    · refine ExsOk.cons (fallen_names hm h0 hk) (ExsOk.cons (stand hset) (ExsOk.brk (ExOk.ifT (TrOk.cmp (a := .str (rowS m c)) (b := .str (rowS m c)) (EvOk.name (X := .str (rowS m c)) rfl rfl rfl rfl) (EvOk.name (X := .str (rowS m c)) rfl rfl rfl rfl) (by show some (rowS m c == rowS m c) = _; rw [beq_self_eq_true]) rfl)
        (ExsOk.cons (ExOk.expr (r := .at .none) (EvOk.methB (r0 := .v (.obj (σ.length + 1))) (id := "list.append") (fun env => by rfl) rfl (EvOk.name (X := .obj (σ.length + 1)) rfl rfl rfl rfl) (MbOk.append SFG_l) (EvsOk.cons (σ₁ := SFG σ kb (B ++ [⟨k, m, c⟩]) W B) (r := .v (.it (ent (entB ⟨k, m, c⟩)))) rfl ?_ EvsOk.nil) ?_) rfl) (ExsOk.brk ExOk.break)))))
      · exact EvOk.tuple (Vs := [.str (nmK k m), .str (rowS m c)]) (EvsOk.cons (r := .at (.str (nmK k m))) rfl (EvOk.name (X := .str (nmK k m)) rfl rfl rfl rfl) (EvsOk.cons (r := .at (.str (rowS m c))) rfl (EvOk.name (X := .str (rowS m c)) rfl rfl rfl rfl) EvsOk.nil)) rfl (by show 2 ≤ sizeLine; decide)
      · have := BiOk.append (n := n + 19) (x := ent (entB ⟨k, m, c⟩)) (SFG_l (σ := σ) (kb := kb) (B := B ++ [⟨k, m, c⟩]) (L := B) (W := W)) (by
          rw [List.length_map, List.length_map]
          have : (5 : Nat) ≤ sizeLine := by decide
          omega)
        rw [SFG_setL] at this
        exact this
    · rw [List.append_assoc]; exact SubR.app
  | some b =>
    rw [hb] at hset
    dsimp only at hset ⊢
    obtain ⟨h1, h2⟩ := look_mem hb
    obtain ⟨q1, q2, q3⟩ := hB.ok b h1
    have hne : (rowS b.m b.c == rowS m c) = false := by
      rw [beq_eq_false_iff_ne]
      intro e
      have := (rowS_inj q1 hm q3 hcc e).2
      have := hBt b h1
      omega
    refine ⟨rhoF jt jb σ.length k (m ^^^ b.m) (c ^^^ b.c) ++ rhoFn (nmK k m) (rowS m c) ++ ([("stands", V.str (rowS b.m b.c))] : Rho), ?_, fun q => (nomatch q), fun b' q => ?_⟩
    · refine ExsOk.cons (fallen_names hm h0 hk) (ExsOk.cons (stand hset) (ExsOk.cons (ExOk.ifF (TrOk.cmp (a := .str (rowS b.m b.c)) (b := .str (rowS m c)) (EvOk.name (X := .str (rowS b.m b.c)) rfl rfl rfl rfl) (EvOk.name (X := .str (rowS m c)) rfl rfl rfl rfl) (by show some (rowS b.m b.c == rowS m c) = _; rw [hne]) rfl) ExsOk.nil) ?_))
      refine ExsOk.cons (ρ₁ := rhoF jt jb σ.length k (m ^^^ b.m) c ++ rhoFn (nmK k m) (rowS m c) ++ ([("stands", V.str (rowS b.m b.c))] : Rho)) (σ₁ := SFG σ kb B W B) (ExOk.assign (r := .at (.str (sub (m ^^^ b.m)))) (EvOk.callG (f := 245) rfl rfl (by kernel_rfl) rfl keep245 (EvsOk.cons (r := .at (.str (sub m))) rfl (EvOk.name (X := .str (sub m)) rfl rfl rfl rfl) (EvsOk.cons (r := .at (.str (sub b.m))) rfl (prefix_ok (c := b.c) rfl rfl rfl rfl (fun env => by rfl)) EvsOk.nil)) (law_sum' (n := n + 18) hm q1 hcl)) rfl rfl (by decide) rfl) ?_
      exact ExsOk.cons (ρ₁ := rhoF jt jb σ.length k (m ^^^ b.m) (c ^^^ b.c) ++ rhoFn (nmK k m) (rowS m c) ++ ([("stands", V.str (rowS b.m b.c))] : Rho)) (σ₁ := SFG σ kb B W B) (ExOk.assign (r := .at (.str (sub (c ^^^ b.c)))) (EvOk.callG (f := 245) rfl rfl (by kernel_rfl) rfl keep245 (EvsOk.cons (r := .at (.str (sub c))) rfl (EvOk.name (X := .str (sub c)) rfl rfl rfl rfl) (EvsOk.cons (r := .at (.str (sub b.c))) rfl (EvOk.callG (f := 193) rfl rfl (by kernel_rfl) rfl keep193 (EvsOk.cons (r := .at (.str (rowS b.m b.c))) rfl (EvOk.name (X := .str (rowS b.m b.c)) rfl rfl rfl rfl) EvsOk.nil) (strip_row (n := n + 14) (m := b.m) (c := b.c))) EvsOk.nil)) (law_sum' (n := n + 18) hcc q3 hcl)) rfl rfl (by decide) rfl) ExsOk.nil
    · cases q
      rw [List.append_assoc]; exact SubR.app
end Mine
end
section
/-! ## text P25 -/
open PySem.Builtin PySem.Builtin.Str PySem.StrLaws
set_option maxRecDepth 100000
set_option maxHeartbeats 400000
namespace Mine
noncomputable def SFr (σ : List Ob) (kb k : Nat) (B : List BkE) (W : List Nat) (r : Nat × Nat) : List Ob := if r.1 = 0 then SFG σ kb B W B else SFG σ kb (B ++ [⟨k, r.1, r.2⟩]) W (B ++ [⟨k, r.1, r.2⟩])
theorem fallen_loop {n k jb kb jt : Nat} {f : Nat → Nat} {B : List BkE} {W : List Nat} {σ : List Ob} (H : BkAt σ jb kb jt f) (hB : OkB B) (hBl : B.length ≤ 5) (hk : k < 5) (hBt : ∀ b ∈ B, b.c < 2 ^ k) : ∀ (d m c : Nat) (ρ : Rho), d ≤ 5 → m < 32 → c < 32 → 2 ^ k ≤ c → c < 2 ^ (k + 1) → m % 2 ^ (5 - d) = 0 → SubR (rhoF jt jb σ.length k m c) ρ →
    ∃ j ρ', WhileD (n + 19) fd252.scope.names (whTest whF) (forB whF) j ρ (SFG σ kb B W B) .go ρ' (SFr σ kb k B W (red B d m c)) ∧ SubR (rhoF jt jb σ.length k (red B d m c).1 (red B d m c).2) ρ'
  | d, 0, c, ρ, hd5, hm, hcc, hc1, hc2, hz, hρ => by
    have e : red B d 0 c = (0, c) := by cases d <;> rfl
    rw [e]
    unfold SFr
    rw [if_pos rfl]
    exact ⟨0, ρ, .done (TrOk.sub hρ (fallen_test (m := 0) (by omega))), hρ⟩
  | 0, m + 1, c, ρ, hd5, hm, hcc, hc1, hc2, hz, hρ => by
    have : (2 : Nat) ^ (5 - 0) = 32 := rfl
    rw [this] at hz; omega
  | d + 1, m + 1, c, ρ, hd5, hm, hcc, hc1, hc2, hz, hρ => by
    have h0 : m + 1 ≠ 0 := by omega
    have t := TrOk.sub hρ (fallen_test (n := n) (jt := jt) (jb := jb) (h := σ.length) (k := k) (c := c) (σ := SFG σ kb B W B) (m := m + 1) hm)
    rw [decide_eq_true h0] at t
    obtain ⟨ρ2, b2, hs0, hs⟩ := fallen_body (n := n) (W := W) H hB hBl hm h0 hk hcc hc1 hBt
    unfold red
    rw [if_neg h0]
    cases hb : look B (low (m + 1)) with
    | none =>
      rw [hb] at b2
      dsimp only at b2 ⊢
      unfold SFr
      rw [if_neg h0]
      exact ⟨0, ρ2, .brk t (ExsOk.sub hρ b2), hs0 hb⟩
    | some b =>
      rw [hb] at b2
      dsimp only at b2 ⊢
      obtain ⟨h1, _⟩ := look_mem hb
      obtain ⟨q1, q2, q3⟩ := hB.ok b h1
      have ht := top_xor k hk c hcc b.c q3 hc1 hc2 (hBt b h1)
      obtain ⟨j, ρ', D, hE⟩ := fallen_loop (n := n) (W := W) H hB hBl hk hBt d ((m + 1) ^^^ b.m) (c ^^^ b.c) ρ2 (by omega) (xor_lt hm q1) (xor_lt hcc q3) ht.1 ht.2 (red_step hB hm h0 (by omega) (by rw [show 4 - d = 5 - (d + 1) by omega]; exact hz) hb) (hs b hb)
      exact ⟨j + 1, ρ', .step t (ExsOk.sub hρ b2) D, hE⟩
noncomputable abbrev rhoF0 (jt jb h : Nat) : Rho := [("told", V.obj jt), ("book", V.obj jb), ("fallen", V.obj h), ("laid", V.obj (h + 1))]
theorem one_bit : ∀ k : Nat, k < 5 → ch (97 + k) = sub (2 ^ k) := by decide +kernel
theorem fallen_row {n k jb kb jt : Nat} {f : Nat → Nat} {S : List BkE × List Nat} {σ : List Ob} (H : BkAt σ jb kb jt f) (hf : ∀ i < 5, f i < 32) (hk : k < 5) (hS : WalkB k S) :
    ∃ ρ', ExsOk (n + 19) fd252.scope.names (rhoF0 jt jb σ.length ++ ([("k", V.int (k : Nat))] : Rho)) (SFG σ kb S.1 S.2 S.1) (forB ((fB (topS 20)).getD 1 noS)) .go ρ' (SFG σ kb (stepB f k S).1 (stepB f k S).2 (stepB f k S).1) ∧ SubR (rhoF0 jt jb σ.length) ρ' := by
  have hlen := hS.len
  have hcl : ∀ {B' L : List BkE} {W : List Nat}, Cl (SFG σ kb B' W L) := H.cl.SFG
  have p1 := pow_le32 hk
  have p2 : 2 ^ k < 2 ^ (k + 1) := Nat.pow_lt_pow_right (by decide) (by omega)
  have rowK : idxI (SFG σ kb S.1 S.2 S.1) (.v (.obj jt)) (.int (k : Int)) = some (.it (strI (sub (f k)))) := by
    refine idx_obj (SFG_old H.told H.ne) ?_ (by omega)
    unfold rowsT
    rw [List.getElem?_map, List.getElem?_range hk]; rfl
  obtain ⟨j, ρ', D, hE⟩ := fallen_loop (n := n) (W := S.2) H hS.ok (by omega) hk hS.top 5 (f k) (2 ^ k) (rhoF jt jb σ.length k (f k) (2 ^ k)) (Nat.le_refl _) (hf k hk) (by omega) (Nat.le_refl _) p2 (by rw [Nat.sub_self]; exact Nat.mod_one _) SubR.refl
  have hlt := red_lt hS.ok 5 (f k) (2 ^ k) (hf k hk) (by omega)
  unfold stepB
  generalize hr : red S.1 5 (f k) (2 ^ k) = r at D hE hlt
  have tst : ∀ {σ' : List Ob} {m c : Nat}, m < 32 → TrOk (n + 19) fd252.scope.names (rhoF jt jb σ.length k m c) σ' (whTest (match (forB ((fB (topS 20)).getD 1 noS)).getD 2 noS with | .If t b1 b2 p => .While t b1 b2 p | s => s)) (decide (m = 0)) σ' := fun {σ'} {m} {c} hm =>
    TrOk.cmp (a := .str (sub m)) (b := .str "") (EvOk.name (X := .str (sub m)) rfl rfl rfl rfl) (EvOk.const rfl) (by show some (sub m == "") = _; rw [sub_eq m hm]) rfl
  have fin : ∃ ρ2, ExsOk (n + 19) fd252.scope.names ρ' (SFr σ kb k S.1 S.2 r) ((forB ((fB (topS 20)).getD 1 noS)).drop 2) .go ρ2 (SFG σ kb (if r.1 = 0 then (S.1, S.2 ++ [r.2]) else (S.1 ++ [⟨k, r.1, r.2⟩], S.2)).1 (if r.1 = 0 then (S.1, S.2 ++ [r.2]) else (S.1 ++ [⟨k, r.1, r.2⟩], S.2)).2 (if r.1 = 0 then (S.1, S.2 ++ [r.2]) else (S.1 ++ [⟨k, r.1, r.2⟩], S.2)).1) ∧ SubR (rhoF0 jt jb σ.length) ρ2 := by
    unfold SFr
    have t := tst (σ' := SFr σ kb k S.1 S.2 r) (c := r.2) hlt.1
    unfold SFr at t
    by_cases h : r.1 = 0
    · rw [if_pos h, if_pos h]
      rw [decide_eq_true h, if_pos h] at t
      refine ⟨rhoF jt jb σ.length k r.1 r.2, ExsOk.sub hE (ExsOk.cons (ExOk.ifT t (ExsOk.cons (ExOk.expr (r := .at .none) (EvOk.methB (r0 := .v (.obj σ.length)) (id := "list.append") (fun env => by rfl) rfl (EvOk.name (X := .obj σ.length) rfl rfl rfl rfl) (MbOk.append SFG_w) (EvsOk.cons (r := .at (.str (sub r.2))) rfl (EvOk.name (X := .str (sub r.2)) rfl rfl rfl rfl) EvsOk.nil) ?_) rfl) ExsOk.nil)) ExsOk.nil), SubR.app⟩
      have := BiOk.append (n := n + 19) (x := subI r.2) (SFG_w (σ := σ) (kb := kb) (B := S.1) (L := S.1) (W := S.2)) (by
        rw [List.length_map]
        have : (5 : Nat) ≤ sizeLine := by decide
        omega)
      rw [SFG_setW] at this
      exact this
    · rw [if_neg h, if_neg h]
      rw [decide_eq_false h, if_neg h] at t
      exact ⟨rhoF jt jb σ.length k r.1 r.2, ExsOk.sub hE (ExsOk.cons (ExOk.ifF t ExsOk.nil) ExsOk.nil), SubR.app⟩
  obtain ⟨ρ2, h2, s2⟩ := fin
  refine ⟨ρ2, ExsOk.cons (ρ₁ := rhoF jt jb σ.length k (f k) (2 ^ k)) (σ₁ := SFG σ kb S.1 S.2 S.1) (ExOk.assign2 (a := .str (sub (f k))) (b := .str (sub (2 ^ k))) (EvOk.tuple (Vs := [.str (sub (f k)), .str (sub (2 ^ k))]) (EvsOk.cons (r := .at (.str (sub (f k)))) (σ₁ := SFG σ kb S.1 S.2 S.1) rfl ?_ (EvsOk.cons (r := .at (.str (sub (2 ^ k)))) (σ₁ := SFG σ kb S.1 S.2 S.1) rfl ?_ EvsOk.nil)) rfl (by show 2 ≤ sizeLine; decide)) rfl rfl rfl ?_) (ExsOk.cons (ExOk.while D) h2), s2⟩
  · exact EvOk.sub (r := .v (.obj jt)) (i := .int (k : Int)) (EvOk.name (X := .obj jt) rfl rfl rfl rfl) (EvOk.name (X := .int (k : Int)) rfl rfl rfl rfl) rowK
  · refine EvOk.sub (r := .at (.str "abcde")) (i := .int (k : Int)) (EvOk.const rfl) (EvOk.name (X := .int (k : Int)) rfl rfl rfl rfl) ?_
    show (strAt "abcde" (k : Int)).map (fun y => V.str y) = _
    rw [letter_at k hk, ← one_bit k hk]; rfl
  · intro env h1 h2 h3
    exact swapped2 h1 h2 h3 rfl rfl rfl rfl rfl rfl
end Mine
end
section
/-! ## text P26 -/
open PySem.Builtin PySem.Builtin.Str PySem.StrLaws
set_option maxRecDepth 100000
set_option maxHeartbeats 400000
namespace Mine
theorem EvsOk.cast {n : Nat} {nm : Nm} {ρ : Rho} {σ σ₁ σ₂ : List Ob} {es : List Expr} {Vs Vs' : List V} (h : EvsOk n nm ρ σ es Vs σ₁) (e1 : Vs = Vs') (e2 : σ₁ = σ₂) : EvsOk n nm ρ σ es Vs' σ₂ := by subst e1; subst e2; exact h
theorem SFG_start {σ : List Ob} {jb kb : Nat} (h : HdAt σ jb kb []) : SFG σ kb [] [] [] = σ ++ [.list [], .list []] := by
  unfold SFG
  congr 1
  have e := h.hk
  apply List.ext_getElem?
  intro i
  by_cases hi : i = kb
  · subst hi
    rw [List.getElem?_set_self (List.getElem?_eq_some_iff.mp e).1, e]; rfl
  · rw [List.getElem?_set_ne (Ne.symm hi)]
theorem ok_entB {B : List BkE} : OkB B → OkE (B.map entB) := by
  intro hB e he
  obtain ⟨b, hb, rfl⟩ := List.mem_map.mp he
  obtain ⟨q1, q2, q3⟩ := hB.ok b hb
  have hl := low_lt b.m q1
  refine ⟨strOk_txt ?_, strOk_txt (txt_row _ _)⟩
  show txtOk (nmK b.k b.m) = true
  unfold nmK; split <;> exact txt_ch (by omega) (by omega)
theorem law_fallen {n jb kb jt : Nat} {f : Nat → Nat} {σ : List Ob} (H : BkAt σ jb kb jt f) (hf : ∀ i < 5, f i < 32) : FnOk (n + 20) 252 [.obj jt, .obj jb] [] σ (.v (.obj σ.length)) (SFG σ kb (elim f 5).1 (elim f 5).2 (elim f 5).1) := by
  have hS := walkB hf 5 (Nat.le_refl _)
  have hlen := hS.len
  have h5z : (5 : Nat) ≤ sizeLine := by decide
  refine fn_okB at252 (bind252 _ _) (show nd2 "told" "book" from by decide) (by rfl) ?_
  refine BodyOk.cons (ρ₁ := rhoF0 jt jb σ.length) (σ₁ := SFG σ kb [] [] []) (ExOk.assign2 (a := .obj σ.length) (b := .obj (σ.length + 1)) (EvOk.tuple (Vs := [.obj σ.length, .obj (σ.length + 1)]) (EvsOk.cast (EvsOk.cons (r := .new []) rfl (EvOk.list (Vs := []) EvsOk.nil rfl (by decide)) (EvsOk.cons (r := .new []) rfl (EvOk.list (Vs := []) EvsOk.nil rfl (by decide)) EvsOk.nil)) ?_ ?_) rfl (by show 2 ≤ sizeLine; decide)) rfl rfl rfl ?_) ?_
  · show [V.obj σ.length, V.obj (σ ++ [Ob.list []]).length] = _
    rw [List.length_append]; rfl
  · rw [SFG_start H.hd]
    show (σ ++ [Ob.list []]) ++ [Ob.list []] = _
    rw [List.append_assoc]; rfl
  · intro env h1 h2 h3
    exact swapped2 h1 h2 h3 rfl rfl rfl rfl rfl rfl
  · refine BodyOk.forInv (src := .rng 5) (L := (List.range 5).map fun i => V.int (i : Nat)) (St := fun i ρ σ' => SubR (rhoF0 jt jb σ.length) ρ ∧ σ' = SFG σ kb (elim f i).1 (elim f i).2 (elim f i).1) (IterOk.rng (N := 5) rfl rfl (EvOk.const rfl) (by decide) (by decide)) (fun _ _ => rfl) (fun _ _ _ _ => rfl) ⟨SubR.refl, rfl⟩ ?_ ?_
    · rintro i X ρ σ' hX ⟨hρ, rfl⟩
      obtain ⟨hi, rfl⟩ := mem_len5 (g := fun i => V.int (i : Nat)) rfl hX
      obtain ⟨ρ2, hb, h2⟩ := fallen_row (n := n) H hf hi (walkB hf i (by omega))
      exact ⟨setL ρ "k" (V.int (i : Nat)), ρ2, _, TgOk.name rfl (by decide) rfl, ExsOk.sub (hρ.tg rfl) hb, h2, rfl⟩
    · rintro ρ' σ' ⟨hρ, rfl⟩
      rw [List.length_map, List.length_range]
      refine BodyOk.sub hρ (BodyOk.ret (ExOk.ret (EvOk.ifexp (c := true) (TrOk.cmpR (a := .new (((elim f 5).1.map entB).map ent)) (b := .v (.obj (σ.length + 1))) (by omega) (EvOk.methU hm139 (fun env => by rfl) rfl (EvOk.name (X := .obj jb) rfl rfl rfl rfl) (SFG_hd H.hd).hj EvsOk.nil (hdr_items (n := n + 18) (SFG_hd H.hd) (by rw [List.length_map]; omega))) (EvOk.name (X := .obj (σ.length + 1)) rfl rfl rfl rfl) ?_ rfl) ?_)))
      · rw [cmpR_new]
        exact cmpD_eq_ents (ok_entB hS.ok) rfl (seqOf_obj SFG_l)
      · rw [if_pos rfl]
        exact EvOk.name (X := .obj σ.length) rfl rfl rfl rfl
end Mine
end
section
/-! ## text E1 -/
open PySem.Builtin PySem.Builtin.Str PySem.StrLaws
set_option maxRecDepth 100000
set_option maxHeartbeats 400000
namespace Mine
/-! '...' + (l + '...') * t -/
noncomputable def fitL (l : Nat) : Nat → List Nat
  | 0 => [46, 46, 46]
  | t + 1 => 46 :: 46 :: 46 :: l :: fitL l t
noncomputable def fitS (l t : Nat) : Str := ⟨(fitL l t).toArray⟩
theorem codes_fit (l t : Nat) : codes (fitS l t) = fitL l t := by simp [fitS]
theorem fitL_len (l : Nat) : ∀ t, (fitL l t).length = 4 * t + 3
  | 0 => rfl
  | t + 1 => by
    show (fitL l t).length + 1 + 1 + 1 + 1 = _
    rw [fitL_len l t]; omega
theorem fit_len (l t : Nat) : (fitS l t).length = 4 * t + 3 := by rw [len_codes, codes_fit, fitL_len]
theorem fitL_get (l : Nat) : ∀ t i, i < 4 * t + 3 → (fitL l t)[i]? = some (if i % 4 = 3 then l else 46)
  | 0, 0, _ => rfl
  | 0, 1, _ => rfl
  | 0, 2, _ => rfl
  | 0, i + 3, h => by omega
  | t + 1, 0, _ => rfl
  | t + 1, 1, _ => rfl
  | t + 1, 2, _ => rfl
  | t + 1, 3, _ => rfl
  | t + 1, i + 4, h => by
    show (fitL l t)[i]? = _
    rw [fitL_get l t i (by omega), Nat.add_mod_right]
theorem take3 {L : List Nat} {i : Nat} : ((L.drop i).take 3 == [46, 46, 46]) = true ↔ L[i]? = some 46 ∧ L[i + 1]? = some 46 ∧ L[i + 2]? = some 46 := by
  rw [beq_iff_eq]
  have e0 : L[i]? = (L.drop i)[0]? := by rw [List.getElem?_drop]; rfl
  have e1 : L[i + 1]? = (L.drop i)[1]? := by rw [List.getElem?_drop]
  have e2 : L[i + 2]? = (L.drop i)[2]? := by rw [List.getElem?_drop]
  rw [e0, e1, e2]
  match L.drop i with
  | [] => simp
  | [a] => simp
  | [a, b] => simp
  | a :: b :: c :: r => simp
theorem at_fit {l t i : Nat} (hl : l ≠ 46) : StrLaws.At (fitS l t) "..." (fitS l t).length i ↔ i % 4 = 0 ∧ i ≤ 4 * t := by
  unfold StrLaws.At
  rw [subAt_eq, show (Str.ofString "...").length = 3 from rfl, show (Str.ofString "...").cps.toList = [46, 46, 46] from rfl, show (fitS l t).cps.toList = fitL l t from codes_fit l t, take3, fit_len]
  constructor
  · rintro ⟨h, h0, h1, h2⟩
    rw [fitL_get l t _ (by omega)] at h0 h1 h2
    refine ⟨?_, by omega⟩
    have := Option.some.inj h0
    have := Option.some.inj h1
    have := Option.some.inj h2
    by_cases q0 : i % 4 = 3
    · rw [if_pos q0] at *; exact absurd ‹_› hl
    by_cases q1 : (i + 1) % 4 = 3
    · have z := Option.some.inj h1; rw [if_pos q1] at z; exact absurd z hl
    by_cases q2 : (i + 2) % 4 = 3
    · have z := Option.some.inj h2; rw [if_pos q2] at z; exact absurd z hl
    omega
  · rintro ⟨h1, h2⟩
    rw [fitL_get l t _ (by omega), fitL_get l t _ (by omega), fitL_get l t _ (by omega), if_neg (by omega), if_neg (by omega), if_neg (by omega)]
    exact ⟨by omega, rfl, rfl, rfl⟩
noncomputable def fitW (l t : Nat) : List Str := "" :: (List.replicate t (ch l) ++ [("" : Str)])
theorem sub_empty {x : Str} {a b : Nat} (h : b ≤ a ∨ x.length ≤ a) : strSub x a b = "" := by
  apply Str.ext'
  apply Array.toList_inj.mp
  rw [strSub_toList]
  show _ = []
  rcases h with h | h
  · rw [show b - a = 0 by omega, List.take_zero]
  · rw [List.drop_eq_nil_of_le (by rw [len_codes] at h; exact h), List.take_nil]
theorem sub_one {x : Str} {a c : Nat} (h : (codes x)[a]? = some c) : strSub x a (a + 1) = ch c := by
  apply Str.ext'
  apply Array.toList_inj.mp
  rw [strSub_toList, show a + 1 - a = 1 by omega]
  show _ = [c]
  have hlt := (List.getElem?_eq_some_iff.mp h).1
  have e : List.drop a x.cps.toList = c :: List.drop (a + 1) x.cps.toList := by
    rw [List.drop_eq_getElem_cons hlt]
    congr 1
    exact (List.getElem?_eq_some_iff.mp h).2
  rw [e]; rfl
theorem fit_parts {l t : Nat} (hl : l ≠ 46) : ∀ (cuts : List Nat) (j f : Nat), j ≤ t → StrLaws.ChainG (fitS l t) "..." (fitS l t).length (4 * j + 3) cuts f → (∀ k, f ≤ k → ¬ StrLaws.At (fitS l t) "..." (fitS l t).length k) →
    partsFrom (fitS l t) 3 (4 * j + 3) cuts = List.replicate (t - j) (ch l) ++ [("" : Str)]
  | [], j, f, hj, h, hn => by
    have e : f = 4 * j + 3 := h
    have : j = t := by
      rcases Nat.lt_or_ge j t with q | q
      · exact absurd ((at_fit hl).mpr ⟨by omega, by omega⟩) (hn (4 * (j + 1)) (by omega))
      · omega
    subst this
    rw [Nat.sub_self]
    show [strSub (fitS l j) (4 * j + 3) (fitS l j).length] = _
    rw [sub_empty (.inl (by rw [fit_len]; exact Nat.le_refl _))]; rfl
  | c :: r, j, f, hj, ⟨h1, h2, h3, h4⟩, hn => by
    obtain ⟨q1, q2⟩ := (at_fit hl).mp h2
    have hc : c = 4 * (j + 1) := by
      rcases Nat.lt_or_ge (4 * (j + 1)) c with q | q
      · exact absurd ((at_fit hl).mpr ⟨by omega, by omega⟩) (h3 (4 * (j + 1)) (by omega) q)
      · omega
    subst hc
    have ih := fit_parts hl r (j + 1) f (by omega) h4 hn
    show strSub (fitS l t) (4 * j + 3) (4 * (j + 1)) :: partsFrom (fitS l t) 3 (4 * (j + 1) + 3) r = _
    rw [ih, show 4 * (j + 1) = (4 * j + 3) + 1 by omega, sub_one (c := l) (by rw [codes_fit, fitL_get l t _ (by omega), if_pos (by omega)]), show t - j = (t - (j + 1)) + 1 by omega, List.replicate_succ]; rfl
theorem fit_occ {l t : Nat} (hl : l ≠ 46) : partsBetween (fitS l t) (occurrences (fitS l t) "..." 0 (fitS l t).length ((fitS l t).length + 1)) 3 = fitW l t ∧ (occurrences (fitS l t) "..." 0 (fitS l t).length ((fitS l t).length + 1)).isEmpty = false := by
  obtain ⟨f, h, hn⟩ := occ_tight (fitS l t) "..." (by decide)
  revert h
  generalize occurrences (fitS l t) "..." 0 (fitS l t).length ((fitS l t).length + 1) = cuts
  intro h
  cases cuts with
  | nil =>
    have e : f = 0 := h
    exact absurd ((at_fit hl).mpr ⟨by omega, by omega⟩) (hn 0 (by omega))
  | cons c r =>
    obtain ⟨h1, h2, h3, h4⟩ := h
    have hc : c = 0 := by
      rcases Nat.eq_zero_or_pos c with q | q
      · exact q
      · exact absurd ((at_fit hl).mpr ⟨by omega, by omega⟩) (h3 0 (by omega) q)
    subst hc
    have h4' : StrLaws.ChainG (fitS l t) "..." (fitS l t).length (4 * 0 + 3) r f := h4
    have e := fit_parts hl r 0 f (Nat.zero_le _) h4' hn
    refine ⟨?_, rfl⟩
    rw [partsBetween_eq]
    show strSub (fitS l t) 0 0 :: partsFrom (fitS l t) 3 (4 * 0 + 3) r = _
    rw [e, sub_empty (.inl (Nat.le_refl _))]; rfl
theorem kind_low {x : Str} (h : ∀ c ∈ codes x, c < 256) : Str.strKind x = 1 := by
  unfold Str.strKind
  rw [if_pos]
  rw [Array.all_eq_true']
  intro c hc
  exact decide_eq_true (h c (Array.mem_toList_iff.mpr hc))
theorem fit_split {l t : Nat} (hl : l ≠ 46) (hl2 : l < 256) : Txt.split (fitS l t) "..." = fitW l t := by
  have k1 : Str.strKind (fitS l t) = 1 := kind_low fun c hc => by
    rw [codes_fit] at hc
    obtain ⟨i, hi⟩ := List.getElem?_of_mem hc
    have hlt := (List.getElem?_eq_some_iff.mp hi).1
    rw [fitL_len] at hlt
    rw [fitL_get l t i hlt] at hi
    have := Option.some.inj hi
    split at this <;> omega
  have k2 : Str.strKind "..." = 1 := by decide +kernel
  obtain ⟨e1, e2⟩ := fit_occ (t := t) hl
  unfold Txt.split
  rw [if_neg (by rw [k1, k2, fit_len]; show ¬ (decide (4 * t + 3 < 3) || decide (1 < 1)) = true; simp), e2, if_neg (by decide)]
  exact e1
theorem fit_in {l t : Nat} (hl : l ≠ 46) : isIn (fitS l t) "..." = true := by
  unfold isIn
  rw [found_iff]
  have h := (at_fit (t := t) (i := 0) hl).mpr ⟨rfl, Nat.zero_le _⟩
  exact ⟨0, h.1, h.2⟩
end Mine
end
section
/-! ## text E2 -/
open PySem.Builtin PySem.Builtin.Str PySem.StrLaws
set_option maxRecDepth 100000
set_option maxHeartbeats 400000
namespace Mine
theorem first_occ (l : Nat) : ∀ L : List Nat, l ∈ L → ∃ q : Nat, L[q]? = some l ∧ (∀ m, m < q → L[m]? ≠ some l) ∧ L.count l = 1 + (L.drop (q + 1)).count l
  | [], h => nomatch h
  | a :: L, h => by
    by_cases e : a = l
    · subst e
      exact ⟨0, rfl, fun m hm => by omega, by rw [List.count_cons]; simp; omega⟩
    · have hm : l ∈ L := by
        rcases List.mem_cons.mp h with h | h
        · exact absurd h.symm e
        · exact h
      obtain ⟨q, h1, h2, h3⟩ := first_occ l L hm
      refine ⟨q + 1, h1, fun m hm => ?_, ?_⟩
      · cases m with
        | zero => exact fun z => e (Option.some.inj z)
        | succ m => exact h2 m (by omega)
      · rw [List.count_cons, h3, beq_false_of_ne e]; simp
theorem find4_empty {x : Str} {p : Nat} (h : p ≤ x.length) : find4 x "" (p : Int) (x.length : Int) = (p : Int) := by
  unfold find4
  rw [fromIndex_nat, fromIndex_nat, Nat.min_self]
  have hA : StrLaws.At x "" x.length p := by
    refine ⟨by show p + 0 ≤ _; omega, ?_⟩
    rw [subAt_eq]; rfl
  rcases occ_at x "" p x.length 1 (Nat.le_refl _) with ⟨e, hn⟩ | ⟨a, r, e, ha, hA', hm⟩
  · exact absurd hA (hn p (Nat.le_refl _))
  · rw [e]
    have : a = p := by
      rcases Nat.lt_or_ge p a with q | q
      · exact absurd hA (hm p (Nat.le_refl _) q)
      · omega
    subst this; rfl
theorem find_step {x : Str} {l p : Nat} (hp : p ≤ x.length) (h : l ∈ (codes x).drop p) : ∃ q : Nat, p ≤ q ∧ q < x.length ∧ find4 x (ch l) (p : Int) (x.length : Int) = (q : Int) ∧ ((codes x).drop p).count l = 1 + ((codes x).drop (q + 1)).count l := by
  obtain ⟨q, h1, h2, h3⟩ := first_occ l _ h
  rw [List.getElem?_drop] at h1
  have hlt := (List.getElem?_eq_some_iff.mp h1).1
  rw [List.drop_drop] at h3
  refine ⟨p + q, by omega, by rw [len_codes]; exact hlt, ?_, by rw [h3]; rfl⟩
  refine find4_at (c := l) ?_ ?_ h1 fun m hm1 hm2 => ?_
  · rw [fromIndex_nat]; omega
  · rw [fromIndex_nat, Nat.min_self, len_codes]; exact hlt
  · rw [fromIndex_nat] at hm1
    have := h2 (m - p) (by omega)
    rw [List.getElem?_drop, show p + (m - p) = m by omega] at this
    exact this
theorem find_none {x : Str} {l p : Nat} (h : l ∉ (codes x).drop p) : find4 x (ch l) (p : Int) (x.length : Int) = -1 := by
  refine find4_no (c := l) fun m h1 h2 q => h ?_
  rw [fromIndex_nat] at h1
  have e : ((codes x).drop p)[m - p]? = some l := by
    rw [List.getElem?_drop, show p + (m - p) = m by omega]; exact q
  exact List.mem_of_getElem? e
noncomputable abbrev rhoE (l t : Nat) (g : Str) (h p : Nat) : Rho := [("want", V.str (fitS l t)), ("got", V.str g), ("ws", V.obj h), ("startpos", V.int (p : Nat)), ("endpos", V.int (g.length : Nat))]
noncomputable abbrev emFor : Stmt := (fB (topS 9)).getD 9 noS
noncomputable def forT : Stmt → Expr
  | .For t _ _ _ _ => t
  | _ => .Constant .none 0 ⟨0, 0, 0, 0⟩
/-- one turn: a piece that is found -/
theorem em_hit {n l t h p q : Nat} {g wd : Str} {σ : List Ob} {ρ : Rho} (hρ : SubR (rhoE l t g h p) ρ) (hf : find4 g wd (p : Int) (g.length : Int) = (q : Int)) (hw : wd.length ≤ 1) :
    ExsOk (n + 19) fd186.scope.names (setL ρ "w" (V.str wd)) σ (forB emFor) .go (setL (setL (setL ρ "w" (V.str wd)) "startpos" (V.int (q : Nat))) "startpos" (V.int ((q + wd.length : Nat) : Int))) σ := by
  have l0 : (setL ρ "w" (V.str wd)).lookup ("w" : Str) = some (V.str wd) := by rw [lookup_setL, if_pos rfl]
  have l1 : ∀ x X, (x == ("w" : Str)) = false → (rhoE l t g h p).lookup x = some X → (setL ρ "w" (V.str wd)).lookup x = some X := fun x X hx e => by
    rw [lookup_setL, if_neg (by simpa using hx), hρ x X e]
  have hz : wd.length ≤ sizeLine := Nat.le_trans hw (by decide)
  generalize setL ρ "w" (V.str wd) = ρ1 at l0 l1
  refine ExsOk.cons (ρ₁ := setL ρ1 "startpos" (V.int (q : Nat))) (σ₁ := σ) (ExOk.assign (r := .at (.int (q : Int))) (EvOk.methB (r0 := .at (.str g)) (id := "str.find") (fun env => by rfl) rfl (EvOk.name (X := .str g) rfl (l1 _ _ rfl rfl) rfl rfl) (MbOk.str fun M A s pl Q E t h => GM.find h) (EvsOk.cons (r := .at (.str wd)) rfl (EvOk.name (X := .str wd) rfl l0 rfl rfl) (EvsOk.cons (r := .at (.int (p : Int))) rfl (EvOk.name (X := .int (p : Int)) rfl (l1 _ _ rfl rfl) rfl rfl) (EvsOk.cons (r := .at (.int (g.length : Int))) rfl (EvOk.name (X := .int (g.length : Int)) rfl (l1 _ _ rfl rfl) rfl rfl) EvsOk.nil)))
    (BiOk.atoms (ats := [.str g, .str wd, .int (p : Int), .int (g.length : Int)]) rfl (by show some (At.int (find4 g wd (p : Int) (g.length : Int))) = _; rw [hf]))) rfl rfl (by decide) rfl) ?_
  have ls : (setL ρ1 "startpos" (V.int (q : Nat))).lookup ("startpos" : Str) = some (V.int (q : Nat)) := by rw [lookup_setL, if_pos rfl]
  have lw : (setL ρ1 "startpos" (V.int (q : Nat))).lookup ("w" : Str) = some (V.str wd) := by rw [lookup_setL, if_neg (by decide), l0]
  refine ExsOk.cons (ExOk.ifF (TrOk.cmp (a := .int (q : Int)) (b := .int 0) (EvOk.name (X := .int (q : Int)) rfl ls rfl rfl) (EvOk.const rfl) (by show some (decide ((q : Int) < 0)) = _; rw [decide_eq_false (by omega)]) rfl) ExsOk.nil) ?_
  exact ExsOk.cons (ExOk.aug (a := .int (q : Int)) (b := .int (wd.length : Int)) (c := .int ((q + wd.length : Nat) : Int)) ls (EvOk.callB (id := "len") rfl rfl (by kernel_rfl) rfl (EvsOk.cons (r := .at (.str wd)) rfl (EvOk.name (X := .str wd) rfl lw rfl rfl) EvsOk.nil) (BiOk.atoms (ats := [.str wd]) (r := .int wd.length) rfl (by simp [strM, hz]))) rfl (by show some (At.int ((q : Int) + (wd.length : Int))) = _; rw [Int.natCast_add])) ExsOk.nil
theorem em_miss {n l t h p : Nat} {g wd : Str} {σ : List Ob} {ρ : Rho} (hρ : SubR (rhoE l t g h p) ρ) (hf : find4 g wd (p : Int) (g.length : Int) = -1) :
    ExsOk (n + 19) fd186.scope.names (setL ρ "w" (V.str wd)) σ (forB emFor) (.ret (.at (.bool false))) (setL (setL ρ "w" (V.str wd)) "startpos" (V.int (-1))) σ := by
  have l0 : (setL ρ "w" (V.str wd)).lookup ("w" : Str) = some (V.str wd) := by rw [lookup_setL, if_pos rfl]
  have l1 : ∀ x X, (x == ("w" : Str)) = false → (rhoE l t g h p).lookup x = some X → (setL ρ "w" (V.str wd)).lookup x = some X := fun x X hx e => by
    rw [lookup_setL, if_neg (by simpa using hx), hρ x X e]
  generalize setL ρ "w" (V.str wd) = ρ1 at l0 l1
  refine ExsOk.cons (ρ₁ := setL ρ1 "startpos" (V.int (-1))) (σ₁ := σ) (ExOk.assign (r := .at (.int (-1))) (EvOk.methB (r0 := .at (.str g)) (id := "str.find") (fun env => by rfl) rfl (EvOk.name (X := .str g) rfl (l1 _ _ rfl rfl) rfl rfl) (MbOk.str fun M A s pl Q E t h => GM.find h) (EvsOk.cons (r := .at (.str wd)) rfl (EvOk.name (X := .str wd) rfl l0 rfl rfl) (EvsOk.cons (r := .at (.int (p : Int))) rfl (EvOk.name (X := .int (p : Int)) rfl (l1 _ _ rfl rfl) rfl rfl) (EvsOk.cons (r := .at (.int (g.length : Int))) rfl (EvOk.name (X := .int (g.length : Int)) rfl (l1 _ _ rfl rfl) rfl rfl) EvsOk.nil)))
    (BiOk.atoms (ats := [.str g, .str wd, .int (p : Int), .int (g.length : Int)]) rfl (by show some (At.int (find4 g wd (p : Int) (g.length : Int))) = _; rw [hf]))) rfl rfl (by decide) rfl) ?_
  have ls : (setL ρ1 "startpos" (V.int (-1))).lookup ("startpos" : Str) = some (V.int (-1)) := by rw [lookup_setL, if_pos rfl]
  exact ExsOk.ret (ExOk.ifT (TrOk.cmp (a := .int (-1)) (b := .int 0) (EvOk.name (X := .int (-1)) rfl ls rfl rfl) (EvOk.const rfl) rfl rfl) (ExsOk.ret (ExOk.ret (EvOk.const rfl))))
theorem em_next {l t h p q k : Nat} {g wd : Str} {ρ : Rho} (hρ : SubR (rhoE l t g h p) ρ) (hk : k = q + wd.length) : SubR (rhoE l t g h k) (setL (setL (setL ρ "w" (V.str wd)) "startpos" (V.int (q : Nat))) "startpos" (V.int ((q + wd.length : Nat) : Int))) := by
  subst hk
  intro x X e
  rw [lookup_setL]
  by_cases h1 : x = "startpos"
  · subst h1
    rw [if_pos rfl]
    exact e
  · rw [if_neg h1, lookup_setL, if_neg h1, lookup_setL]
    have hw : x ≠ ("w" : Str) := by
      rintro rfl
      have q : (rhoE l t g h (q + wd.length)).lookup ("w" : Str) = none := rfl
      rw [q] at e; cases e
    rw [if_neg hw]
    refine hρ x X ?_
    have b1 : (x == ("startpos" : Str)) = false := beq_false_of_ne h1
    simp only [rhoE, List.lookup_cons, b1] at e ⊢
    exact e
end Mine
end
section
/-! ## text E3 -/
open PySem.Builtin PySem.Builtin.Str PySem.StrLaws
set_option maxRecDepth 100000
set_option maxHeartbeats 400000
namespace Mine
noncomputable def fitV (l t : Nat) : List V := ((fitW l t).map strI).map V.it
theorem fitW_len (l t : Nat) : (fitW l t).length = t + 2 := by unfold fitW; simp
theorem fitV_len (l t : Nat) : (fitV l t).length = t + 2 := by unfold fitV; rw [List.length_map, List.length_map, fitW_len]
theorem fitV_zero (l t : Nat) : (fitV l t)[0]? = some (V.str "") := rfl
theorem fitV_mid {l t i : Nat} (h : i < t) : (fitV l t)[i + 1]? = some (V.str (ch l)) := by
  unfold fitV fitW
  rw [List.getElem?_map, List.getElem?_map, List.getElem?_cons_succ, List.getElem?_append_left (by simpa using h), List.getElem?_replicate, if_pos h]; rfl
theorem fitV_end {l t : Nat} : (fitV l t)[t + 1]? = some (V.str "") := by
  unfold fitV fitW
  rw [List.getElem?_map, List.getElem?_map, List.getElem?_cons_succ, List.getElem?_append_right (by simp)]; simp [strI]
theorem em_loop {n l t h : Nat} {g : Str} {σ : List Ob} (hs : srcL σ (.lst h) = some (fitV l t)) : ∀ (d i p : Nat) (ρ : Rho), i + d = t → p ≤ g.length → SubR (rhoE l t g h p) ρ →
    ∃ k ρ', LoopD (n + 19) fd186.scope.names (.lst h) (forT emFor) (forB emFor) k (i + 1) ρ σ (if d ≤ ((codes g).drop p).count l then .go else .ret (.at (.bool false))) ρ' σ
  | 0, i, p, ρ, hi, hp, hρ => by
    have : i = t := by omega
    subst this
    rw [if_pos (Nat.zero_le _)]
    exact ⟨1, _, .step hs fitV_end (TgOk.name rfl (by decide) rfl) (em_hit (n := n) hρ (find4_empty hp) (by decide)) (.done hs (by rw [fitV_len]; omega))⟩
  | d + 1, i, p, ρ, hi, hp, hρ => by
    by_cases hm : l ∈ (codes g).drop p
    · obtain ⟨q, h1, h2, h3, h4⟩ := find_step hp hm
      obtain ⟨k, ρ', D⟩ := em_loop (n := n) hs d (i + 1) (q + 1) _ (by omega) (by omega) (em_next (q := q) (k := q + 1) (wd := ch l) hρ rfl)
      have e : (d + 1 ≤ ((codes g).drop p).count l) = (d ≤ ((codes g).drop (q + 1)).count l) := by rw [h4]; exact propext ⟨fun z => by omega, fun z => by omega⟩
      refine ⟨k + 1, ρ', ?_⟩
      have e2 : (if d + 1 ≤ ((codes g).drop p).count l then Out.go else .ret (.at (.bool false))) = (if d ≤ ((codes g).drop (q + 1)).count l then Out.go else .ret (.at (.bool false))) := by
        by_cases z : d ≤ ((codes g).drop (q + 1)).count l
        · rw [if_pos z, if_pos (e ▸ z)]
        · rw [if_neg z, if_neg (fun y => z (e ▸ y))]
      rw [e2]
      exact .step hs (fitV_mid (by omega)) (TgOk.name rfl (by decide) rfl) (em_hit (n := n) hρ h3 (Nat.le_refl _)) D
    · rw [if_neg (by rw [List.count_eq_zero_of_not_mem hm]; omega)]
      exact ⟨0, _, .ret hs (fitV_mid (by omega)) (TgOk.name rfl (by decide) rfl) (em_miss (n := n) hρ (find_none hm))⟩
theorem fitW_last (l t : Nat) : (fitW l t)[t + 1]? = some "" := by
  unfold fitW
  rw [List.getElem?_cons_succ, List.getElem?_append_right (by simp)]; simp
theorem pick_last {β : Type} {L : List β} {m : Nat} {x : β} (hl : L.length = m + 1) (hx : L[m]? = some x) (hm : m < 2 ^ 62) : pick L (-1) = some x := by
  unfold pick
  rw [if_pos (by omega), if_neg (by omega), if_pos (by omega), show ((-1 : Int) + (L.length : Int)).toNat = m by omega, hx]
theorem ellipsis {n l t : Nat} {g : Str} {σ : List Ob} (hc : Cl σ) (hl : l ≠ 46) (hl2 : l < 256) (ht : t ≤ 1000) (hg : g.length ≤ 1000) : FnOk (n + 20) 186 [.str (fitS l t), .str g] [] σ (.at (.bool (decide (t ≤ (codes g).count l)))) σ := by
  refine FnOk.drop (junk := [.list ((fitW l t).map strI)]) ?_ rfl hc rfl
  have hk : (10000 : Nat) ≤ sizeLine := by decide
  have hfl := fit_len l t
  generalize hS : σ ++ [Ob.list ((fitW l t).map strI)] = S
  have hws : objL S σ.length = some ((fitW l t).map strI) := by rw [← hS]; exact objL_last _ _
  have hsrc : srcL S (.lst σ.length) = some (fitV l t) := srcL_obj hws
  have hlen : ((fitW l t).map strI).length = t + 2 := by rw [List.length_map, fitW_len]
  refine fn_okB at186 (bind186 _ _) (show nd2 "want" "got" from by decide) (by rfl) ?_
  refine BodyOk.skip (σ₁ := σ) (TrOk.cmp (a := .str "...") (b := .str (fitS l t)) (EvOk.glob (a := .str "...") rfl (by kernel_rfl) rfl) (EvOk.name (X := .str (fitS l t)) rfl rfl rfl rfl) (by show some (!isIn (fitS l t) "...") = _; rw [fit_in hl]; rfl) rfl) ?_
  obtain ⟨e1, e2⟩ := fit_occ (t := t) hl
  have hsp := BiOk.split (n := n + 19) (σ := σ) (x := fitS l t) (y := "...") rfl (by omega) (by rw [show (Str.ofString "...").length = 3 from rfl, e1, fitW_len]; omega)
  rw [fit_split hl hl2] at hsp
  refine BodyOk.cons (ρ₁ := [("want", V.str (fitS l t)), ("got", V.str g), ("ws", V.obj σ.length)]) (σ₁ := S) (hS ▸ ExOk.assign (r := .new ((fitW l t).map strI)) (EvOk.methB (r0 := .at (.str (fitS l t))) (id := "str.split") (fun env => by rfl) rfl (EvOk.name (X := .str (fitS l t)) rfl rfl rfl rfl) (MbOk.str fun M A s pl Q E t h => GM.split h) (EvsOk.cons (r := .at (.str "...")) rfl (EvOk.glob (a := .str "...") rfl (by kernel_rfl) rfl) EvsOk.nil) hsp) rfl rfl (by decide) rfl) ?_
  refine BodyOk.cons (σ₁ := S) (ExOk.assert (TrOk.cmp (a := .int ((t + 2 : Nat) : Int)) (b := .int 2) (EvOk.callB (id := "len") rfl rfl (by kernel_rfl) rfl (EvsOk.cons (r := .v (.obj σ.length)) rfl (EvOk.name (X := .obj σ.length) rfl rfl rfl rfl) EvsOk.nil) (hlen ▸ BiOk.lenL hws (by rw [hlen]; omega))) (EvOk.const rfl) (by show some (decide ((2 : Int) ≤ ((t + 2 : Nat) : Int))) = _; rw [decide_eq_true (by omega)]) rfl)) ?_
  refine BodyOk.cons (ρ₁ := rhoE l t g σ.length 0) (σ₁ := S) (ExOk.assign2 (a := .int 0) (b := .int (g.length : Nat)) (EvOk.tuple (Vs := [.int 0, .int (g.length : Nat)]) (EvsOk.cons (r := .at (.int 0)) rfl (EvOk.const rfl) (EvsOk.cons (r := .at (.int (g.length : Nat))) rfl (EvOk.callB (id := "len") rfl rfl (by kernel_rfl) rfl (EvsOk.cons (r := .at (.str g)) rfl (EvOk.name (X := .str g) rfl rfl rfl rfl) EvsOk.nil) (BiOk.atoms (ats := [.str g]) (r := .int (g.length : Nat)) rfl (by show (if g.length ≤ sizeLine then some (At.int (g.length : Nat)) else none) = _; rw [if_pos (by omega)]))) EvsOk.nil)) rfl (by show 2 ≤ sizeLine; decide)) rfl rfl rfl ?_) ?_
  · intro env h1 h2 h3
    exact swapped2 h1 h2 h3 rfl rfl rfl rfl rfl rfl
  · have i0 : idxI S (.v (.obj σ.length)) (.int 0) = some (.str "") := idx_obj (i := 0) (x := strI "") hws rfl (by decide)
    have i1 : idxI S (.v (.obj σ.length)) (.int (-1)) = some (.str "") := by
      show (match seqOf S (.v (.obj σ.length)) with | some l => (pick l (-1)).map V.it | none => _) = _
      rw [seqOf_obj hws]
      dsimp only
      rw [pick_last (m := t + 1) (x := strI "") (by rw [hlen]) (by rw [List.getElem?_map, fitW_last]; rfl) (by omega)]; rfl
    refine BodyOk.cons (ρ₁ := rhoE l t g σ.length 0 ++ ([("w", V.str "")] : Rho)) (σ₁ := S) (ExOk.assign (r := .at (.str "")) (EvOk.sub (r := .v (.obj σ.length)) (i := .int 0) (EvOk.name (X := .obj σ.length) rfl rfl rfl rfl) (EvOk.const rfl) i0) rfl rfl (by decide) rfl) ?_
    refine BodyOk.cons (σ₁ := S) (ExOk.ifF (TrOk.val (r := .at (.str "")) rfl (EvOk.name (X := .str "") rfl rfl rfl rfl) (by decide +kernel)) ExsOk.nil) ?_
    refine BodyOk.cons (ρ₁ := rhoE l t g σ.length 0 ++ ([("w", V.str "")] : Rho)) (σ₁ := S) (ExOk.assign (r := .at (.str "")) (EvOk.sub (r := .v (.obj σ.length)) (i := .int (-1)) (EvOk.name (X := .obj σ.length) rfl rfl rfl rfl) (EvOk.neg (i := 1) (EvOk.const rfl)) i1) rfl rfl (by decide) rfl) ?_
    refine BodyOk.cons (σ₁ := S) (ExOk.ifF (TrOk.val (r := .at (.str "")) rfl (EvOk.name (X := .str "") rfl rfl rfl rfl) (by decide +kernel)) ExsOk.nil) ?_
    refine BodyOk.skip (σ₁ := S) (TrOk.cmp (a := .int 0) (b := .int (g.length : Nat)) (EvOk.name (X := .int 0) rfl rfl rfl rfl) (EvOk.name (X := .int (g.length : Nat)) rfl rfl rfl rfl) (by show some (decide (((g.length : Nat) : Int) < 0)) = _; rw [decide_eq_false (by omega)]) rfl) ?_
    have hρ : SubR (rhoE l t g σ.length 0) (rhoE l t g σ.length 0 ++ ([("w", V.str "")] : Rho)) := SubR.app
    obtain ⟨k, ρ', D⟩ := em_loop (n := n) (g := g) hsrc t 0 0 _ (by omega) (Nat.zero_le _) (em_next (q := 0) (k := 0) (wd := "") hρ rfl)
    have D1 := LoopD.step hsrc (fitV_zero l t) (TgOk.name rfl (by decide) rfl) (em_hit (n := n) hρ (find4_empty (p := 0) (Nat.zero_le _)) (by decide)) D
    rw [List.drop_zero] at D1
    have hi : IterOk (n + 19) fd186.scope.names (rhoE l t g σ.length 0 ++ ([("w", V.str "")] : Rho)) S (match emFor with | .For _ i _ _ _ => i | _ => .Constant .none 0 ⟨0, 0, 0, 0⟩) (.lst σ.length) S := IterOk.list (r := .v (.obj σ.length)) (EvOk.name (X := .obj σ.length) rfl rfl rfl rfl) rfl (objL_get hws)
    by_cases hle : t ≤ (codes g).count l
    · rw [if_pos hle] at D1
      rw [decide_eq_true hle]
      exact BodyOk.cons (ExOk.for hi D1 (fun _ _ => rfl)) (BodyOk.ret (ExOk.ret (EvOk.const rfl)))
    · rw [if_neg hle] at D1
      rw [decide_eq_false hle]
      exact BodyOk.ret (ExOk.for hi D1 (fun _ _ => rfl))
end Mine
end
section
/-! ## text L1 -/
open PySem.Builtin PySem.Builtin.Str PySem.StrLaws
set_option maxRecDepth 100000
set_option maxHeartbeats 400000
namespace Mine
theorem foldl_reps (c : Array Nat) : ∀ (k : Nat) (acc : Array Nat), ((List.replicate k c).foldl (· ++ ·) acc).toList = acc.toList ++ (List.replicate k c.toList).flatten
  | 0, acc => by simp
  | k + 1, acc => by
    rw [List.replicate_succ, List.foldl_cons, foldl_reps c k]
    simp [List.replicate_succ]
theorem codes_mul (x : Str) (t : Nat) : codes (Txt.mul x (t : Int)) = (List.replicate t (codes x)).flatten := by
  unfold Txt.mul
  by_cases h1 : (t : Int) < 1
  · rw [if_pos h1, show t = 0 by omega]; rfl
  · rw [if_neg h1]
    by_cases h2 : ((t : Int) == 1 || x.length == 0) = true
    · rw [if_pos h2]
      rw [Bool.or_eq_true, beq_iff_eq, beq_iff_eq] at h2
      rcases h2 with h | h
      · rw [show t = 1 by omega]; simp
      · have : codes x = [] := List.length_eq_zero_iff.mp (by rw [← len_codes]; exact h)
        rw [this]; simp
    · rw [if_neg h2]
      show ((List.replicate (t : Int).toNat x.cps).foldl (· ++ ·) #[]).toList = _
      rw [foldl_reps, Int.toNat_natCast]; simp
theorem eq_codes {x y : Str} (h : codes x = codes y) : x = y := Str.ext' (Array.toList_inj.mp h)
theorem codes_app (x y : Str) : codes (x ++ y) = codes x ++ codes y := by show (x ++ y).cps.toList = _; rw [Str.cps_append, Array.toList_append]
theorem codes_mk (l : List Nat) : codes ⟨l.toArray⟩ = l := by simp
theorem codes_ch (c : Nat) : codes (ch c) = [c] := rfl
theorem codes_dots : codes "..." = [46, 46, 46] := rfl
theorem fit_made (l t : Nat) : ("..." : Str) ++ Txt.mul (ch l ++ "...") (t : Int) = fitS l t := by
  apply eq_codes
  rw [codes_app, codes_mul, codes_fit, codes_app, codes_ch, codes_dots]
  induction t with
  | zero => rfl
  | succ t ih =>
    rw [List.replicate_succ, List.flatten_cons]
    show [46, 46, 46] ++ (l :: [46, 46, 46] ++ _) = 46 :: 46 :: 46 :: l :: fitL l t
    rw [← ih]; rfl
theorem fitL_snoc (l : Nat) : ∀ t, fitL l t ++ [l, 46, 46, 46] = fitL l (t + 1)
  | 0 => rfl
  | t + 1 => by
    show 46 :: 46 :: 46 :: l :: (fitL l t ++ [l, 46, 46, 46]) = _
    rw [fitL_snoc l t]; rfl
theorem fit_more (l t : Nat) : fitS l t ++ ch l ++ ("..." : Str) = fitS l (t + 1) := by
  apply eq_codes
  rw [codes_app, codes_app, codes_fit, codes_fit, codes_ch, codes_dots, List.append_assoc]
  exact fitL_snoc l t
theorem pRun_marks {c : Nat} (hc : c ≠ 34) (r : List Nat) : ∀ t : Nat, pRun (List.replicate t 34 ++ c :: r) = List.replicate (t / 2) 34 ++ (if t % 2 = 0 then c :: pRun r else [])
  | 0 => by
    show pRun (c :: r) = _
    rw [pRun_cons hc]; rfl
  | 1 => by
    show pRun (34 :: c :: r) = _
    rw [pRun, if_pos rfl, if_neg hc]; rfl
  | t + 2 => by
    have ih := pRun_marks hc r t
    rw [List.replicate_succ, List.replicate_succ, List.cons_append, List.cons_append, pRun, if_pos rfl, if_pos rfl, ih, show (t + 2) / 2 = t / 2 + 1 by omega, show (t + 2) % 2 = t % 2 by omega, List.replicate_succ]; rfl
theorem slice_last (x : Str) : Txt.slice x (some (-1)) none = ⟨((codes x).getLast?.toList).toArray⟩ := by
  by_cases h : x.length = 0
  · have e : x = "" := eq_codes (by
      have : codes x = [] := List.length_eq_zero_iff.mp (by rw [← len_codes]; exact h)
      rw [this]; rfl)
    subst e; decide +kernel
  · have e := sliceText_from_neg (x := x) (i := -1) (by decide) (by omega)
    have hl := len_codes x
    show sliceText x (some (-1)) none = _
    rw [e]
    congr 2
    show ((codes x).drop ((-1 : Int) + x.length).toNat).take (((codes x).length : Int) - (-1 + x.length)).toNat = _
    generalize codes x = L at hl
    rw [hl] at h ⊢
    rw [show ((L.length : Int) - (-1 + (L.length : Int))).toNat = 1 by omega, show ((-1 : Int) + (L.length : Int)).toNat = L.length - 1 by omega]
    rcases List.eq_nil_or_concat L with rfl | ⟨M, a, rfl⟩
    · simp at h
    · simp
/-- the letters below j that pass -/
noncomputable def litN (q : Nat → Bool) (j : Nat) : Str := ⟨(((List.range j).filter q).map (97 + ·)).toArray⟩
theorem litN_zero (q : Nat → Bool) : litN q 0 = "" := rfl
theorem litN_succ (q : Nat → Bool) (j : Nat) : litN q (j + 1) = if q j = true then litN q j ++ ch (97 + j) else litN q j := by
  apply eq_codes
  unfold litN
  rw [codes_mk, List.range_succ, List.filter_append, List.map_append, List.filter_cons]
  cases q j
  · rw [if_neg (by decide), if_neg (by decide), codes_mk]; simp
  · rw [if_pos rfl, if_pos rfl, codes_app, codes_mk, codes_ch]; simp
theorem litN_five (q : Nat → Bool) : litN q 5 = sub (maskQ (q 0) (q 1) (q 2) (q 3) (q 4)) := by
  rw [← join_abcL, ← filt5]
  apply eq_codes
  unfold litN
  rw [codes_mk]
  show (([0, 1, 2, 3, 4] : List Nat).filter q).map _ = codes (Txt.join "" ((([0, 1, 2, 3, 4] : List Nat).filter q).map _))
  simp only [List.filter_cons, List.filter_nil]
  cases q 0 <;> cases q 1 <;> cases q 2 <;> cases q 3 <;> cases q 4 <;> rfl
theorem litN_len (q : Nat → Bool) (j : Nat) : (litN q j).length ≤ j := by
  rw [len_codes]
  unfold litN
  rw [codes_mk, List.length_map]
  exact Nat.le_trans (List.length_filter_le _ _) (by simp)
theorem count_codes (x : Str) (c : Nat) : Txt.count x (ch c) = ((codes x).count c : Nat) := by
  rw [show Txt.count x (ch c) = cnt c (codes x) from count_cnt x c]
  generalize codes x = L
  induction L with
  | nil => rfl
  | cons a L ih =>
    rw [cnt_cons, ih, List.count_cons]
    by_cases h : a = c
    · subst h; simp; omega
    · rw [if_neg h, beq_false_of_ne h]; simp
end Mine
end
section
/-! ## text L2 -/
open PySem.Builtin PySem.Builtin.Str PySem.StrLaws
set_option maxRecDepth 100000
set_option maxHeartbeats 400000
namespace Mine
noncomputable def turnL (f : Nat → Nat) (c : Nat) : List Nat := (bitsL c).flatMap fun i => ltr (f i)
noncomputable def turnS (f : Nat → Nat) (c : Nat) : Str := ⟨(turnL f c).toArray⟩
noncomputable def oddQ (f : Nat → Nat) (c i : Nat) : Bool := decide ((turnL f c).count (97 + i) % 2 = 1)
theorem codes_sjoin : ∀ ys : List Str, codes (Str.join "" ys) = (ys.map codes).flatten
  | [] => rfl
  | [x] => by simp [Str.join]
  | x :: y :: r => by
    show codes (x ++ "" ++ Str.join "" (y :: r)) = _
    rw [codes_app, codes_app, codes_sjoin (y :: r), show codes "" = [] from rfl]; simp
theorem codes_join (ys : List Str) : codes (Txt.join "" ys) = (ys.map codes).flatten := by
  show codes (glued "" ys) = _
  rw [StrLaws.glued_eq_join, codes_sjoin]
theorem turned_join (f : Nat → Nat) (c : Nat) : Txt.join "" ((ltr c).map fun k => sub (f (k - 97))) = turnS f c := by
  apply eq_codes
  rw [codes_join]
  unfold turnS turnL ltr
  rw [codes_mk, List.map_map, List.map_map, List.flatMap_def]
  congr 1
  refine List.map_congr_left fun i _ => ?_
  show codes (sub (f (97 + i - 97))) = _
  rw [show 97 + i - 97 = i by omega, codes_sub]; rfl
theorem bitsL_len (c : Nat) : (bitsL c).length ≤ 5 := by
  unfold bitsL
  exact Nat.le_trans (List.length_filter_le _ _) (by simp)
theorem ltr_len (c : Nat) : (ltr c).length ≤ 5 := by unfold ltr; rw [List.length_map]; exact bitsL_len c
theorem turned_ok (f : Nat → Nat) (c : Nat) : JoinOk "" ((ltr c).map fun k => sub (f (k - 97))) = true := by
  refine joinOk_of ?_
  have h := sumLen_le (B := 5) ((ltr c).map fun k => sub (f (k - 97))) (fun y hy => by
    obtain ⟨k, _, rfl⟩ := List.mem_map.mp hy
    exact len_sub _)
  have hl := ltr_len c
  rw [List.length_map] at h ⊢
  have e : (Str.ofString "").length = 0 := rfl
  rw [e]
  omega
theorem turnL_len (f : Nat → Nat) (c : Nat) : (turnL f c).length ≤ 25 := by
  unfold turnL
  have hb := bitsL_len c
  generalize bitsL c = L at hb
  have : ∀ L : List Nat, (L.flatMap fun i => ltr (f i)).length ≤ 5 * L.length := by
    intro L
    induction L with
    | nil => simp
    | cons a L ih =>
      rw [List.flatMap_cons, List.length_append, List.length_cons]
      have := ltr_len (f a)
      omega
  have := this L
  omega
theorem index_abc : ∀ i : Nat, i < 5 → occurrences "abcde" (ch (97 + i)) 0 (Str.ofString "abcde").length 1 = [i] := by decide +kernel
noncomputable def codeV (X : V) : Nat := (strOf X).cps.getD 0 0
theorem code_ch (k : Nat) : codeV (V.str (ch k)) = k := rfl
theorem src_sub (σ : List Ob) (c : Nat) : srcL σ (.str (sub c)) = some ((ltr c).map fun k => V.str (ch k)) := by
  show some ((codes (sub c)).map fun k => V.str (ch k)) = _
  rw [codes_sub]
noncomputable def nameL (l t : Nat) : Str := ⟨(List.replicate (t / 2) 34 ++ (if t % 2 = 0 then [l] else [])).toArray⟩
theorem name_made (l t : Nat) : Txt.mul "\"" ((t / 2 : Nat) : Int) ++ Txt.mul (ch l) ((1 - t % 2 : Nat) : Int) = nameL l t := by
  apply eq_codes
  unfold nameL
  rw [codes_app, codes_mul, codes_mul, show codes "\"" = [34] from rfl, codes_ch, codes_mk]
  have : ∀ (k c : Nat), (List.replicate k [c]).flatten = List.replicate k c := by
    intro k c
    induction k with
    | zero => rfl
    | succ k ih => rw [List.replicate_succ, List.flatten_cons, ih]; rfl
  rw [this, this]
  congr 1
  rcases Nat.mod_two_eq_zero_or_one t with h | h
  · rw [h]; rfl
  · rw [h]; rfl
theorem asked_made (l t : Nat) : codes (("257 \"" : Str) ++ Txt.mul "\"" (t : Int) ++ ch l ++ "\"") = [50, 53, 55, 32, 34] ++ (List.replicate t 34 ++ [l, 34]) := by
  rw [codes_app, codes_app, codes_app, codes_mul, codes_ch, show codes "\"" = [34] from rfl, show codes "257 \"" = [50, 53, 55, 32, 34] from rfl]
  have : (List.replicate t [34]).flatten = List.replicate t 34 := by
    induction t with
    | zero => rfl
    | succ k ih => rw [List.replicate_succ, List.flatten_cons, ih]; rfl
  rw [this]; simp
theorem name_last {l t : Nat} (hl : l ≠ 34) : (Txt.slice (nameL l t) (some (-1)) none != ch l) = decide (t % 2 = 1) := by
  rw [slice_last]
  unfold nameL
  rw [codes_mk]
  rcases Nat.mod_two_eq_zero_or_one t with h | h
  · rw [if_pos h, List.getLast?_append, h]
    show ((ch l) != ch l) = _
    simp
  · rw [if_neg (by omega), List.append_nil, h, List.getLast?_replicate]
    split
    · show ((⟨#[]⟩ : Str) != ch l) = true
      rw [bne_iff_ne]
      intro e
      have := congrArg codes e
      simp at this
    · show (ch 34 != ch l) = true
      rw [bne_iff_ne]
      intro e
      have := congrArg codes e
      simp at this
      exact hl this.symm
theorem mul_val {x : Str} {n : Nat} (hx : x.length ≤ 16) (hn : n ≤ 1000) : binI .Mult (.str x) (.int (n : Int)) = some (.str (Txt.mul x (n : Int))) := by
  show (if x.length ≤ 16 ∧ (-1000 : Int) ≤ (n : Int) ∧ (n : Int) ≤ 1048576 then some (At.str (Txt.mul x (n : Int))) else none) = _
  rw [if_pos ⟨hx, by omega, by omega⟩]
theorem len_mulC (x : Str) (t : Nat) : (Txt.mul x (t : Int)).length = t * x.length := by
  rw [len_codes, codes_mul, len_codes]
  generalize codes x = L
  induction t with
  | zero => simp
  | succ k ih => rw [List.replicate_succ, List.flatten_cons, List.length_append, ih, Nat.succ_mul]; omega
end Mine
end
section
/-! ## text L3 -/
open PySem.Builtin PySem.Builtin.Str PySem.StrLaws
set_option maxRecDepth 100000
set_option maxHeartbeats 400000
namespace Mine
noncomputable abbrev rhoL (jt : Nat) (f : Nat → Nat) (c j : Nat) : Rho := [("told", V.obj jt), ("choice", V.str (sub c)), ("turned", V.str (turnS f c)), ("lit", V.str (litN (oddQ f c) j))]
noncomputable abbrev litFor : Stmt := (fB (topS 22)).getD 2 noS
theorem turnS_len (f : Nat → Nat) (c : Nat) : (turnS f c).length ≤ 25 := by
  rw [len_codes]; unfold turnS; rw [codes_mk]; exact turnL_len f c
theorem codes_turnS (f : Nat → Nat) (c : Nat) : codes (turnS f c) = turnL f c := by unfold turnS; rw [codes_mk]
theorem lit_body {n jt c j : Nat} {f : Nat → Nat} {σ : List Ob} (hc : Cl σ) (hj : j < 5) :
    ∃ m, ExsOk (n + 29) fd264.scope.names (rhoL jt f c j ++ ([("lamp", V.str (ch (97 + j)))] : Rho)) σ (forB litFor) .go (rhoL jt f c (j + 1) ++ m) σ := by
  generalize ht : (turnL f c).count (97 + j) = t
  have ht25 : t ≤ 25 := by
    rw [← ht]; exact Nat.le_trans List.count_le_length (turnL_len f c)
  have hTl := turnS_len f c
  have hk : (10000 : Nat) ≤ sizeLine := by decide
  have e2 : ((2 : Nat) : Int) = 2 := rfl
  have vdiv : binI .FloorDiv (.int (t : Int)) (.int 2) = some (.int ((t / 2 : Nat) : Int)) := by
    have hp : divisionGoesByPylong (t : Int) 2 = false := PyProof.noPylong_of_log2 (by decide)
    show (if (2 : Int) = 0 ∨ divisionGoesByPylong (t : Int) 2 = true then none else some (At.int ((t : Int).fdiv 2))) = _
    rw [hp, if_neg (by simp), ← e2, fdiv_nat]
  have vmod : binI .Mod (.int (t : Int)) (.int 2) = some (.int ((t % 2 : Nat) : Int)) := by
    show (if (2 : Int) = 0 then none else some (At.int ((t : Int).fmod 2))) = _
    rw [if_neg (by decide), ← e2, fmod_nat]
  have vsub : binI .Sub (.int 1) (.int ((t % 2 : Nat) : Int)) = some (.int ((1 - t % 2 : Nat) : Int)) := by
    show some (At.int ((1 : Int) - ((t % 2 : Nat) : Int))) = _
    rw [show (1 : Int) - ((t % 2 : Nat) : Int) = ((1 - t % 2 : Nat) : Int) by omega]
  have hdots : (Str.ofString "...").length = 3 := rfl
  have hq : (Str.ofString "\"").length = 1 := rfl
  have h257 : (Str.ofString "257 \"").length = 5 := rfl
  -- times
  refine ⟨[("lamp", V.str (ch (97 + j))), ("times", V.int (t : Nat)), ("fits", V.str (fitS (97 + j) t)), ("name", V.str (nameL (97 + j) t))], ?_⟩
  refine ExsOk.cons (ρ₁ := rhoL jt f c j ++ ([("lamp", V.str (ch (97 + j))), ("times", V.int (t : Nat))] : Rho)) (σ₁ := σ) (ExOk.assign (r := .at (.int (t : Nat))) (EvOk.methB (r0 := .at (.str (turnS f c))) (id := "str.count") (fun env => by rfl) rfl (EvOk.name (X := .str (turnS f c)) rfl rfl rfl rfl) (MbOk.str fun M A s pl Q E t h => GM.count h) (EvsOk.cons (r := .at (.str (ch (97 + j)))) rfl (EvOk.name (X := .str (ch (97 + j))) rfl rfl rfl rfl) EvsOk.nil) (BiOk.atoms (ats := [.str (turnS f c), .str (ch (97 + j))]) rfl (by
    show some (At.int (Txt.count (turnS f c) (ch (97 + j)))) = _
    rw [count_codes, codes_turnS, ht]))) rfl rfl (by decide) rfl) ?_
  -- fits
  refine ExsOk.cons (ρ₁ := rhoL jt f c j ++ ([("lamp", V.str (ch (97 + j))), ("times", V.int (t : Nat)), ("fits", V.str (fitS (97 + j) t))] : Rho)) (σ₁ := σ) (ExOk.assign (r := .at (.str (fitS (97 + j) t))) (fit_made (97 + j) t ▸ EvOk.bin (a := .str "...") (b := .str (Txt.mul (ch (97 + j) ++ "...") (t : Int))) (EvOk.const rfl) (EvOk.bin (a := .str (ch (97 + j) ++ "...")) (b := .int (t : Nat)) (EvOk.bin (a := .str (ch (97 + j))) (b := .str "...") (EvOk.name (X := .str (ch (97 + j))) rfl rfl rfl rfl) (EvOk.const rfl) (add_str (by rw [ch_len, hdots]; omega))) (EvOk.name (X := .int (t : Nat)) rfl rfl rfl rfl) (mul_val (by rw [Str.length_append, ch_len, hdots]; omega) (by omega))) (add_str (by rw [len_mulC, Str.length_append, ch_len, hdots]; omega))) rfl rfl (by decide) rfl) ?_
  -- the two questions
  have m1 := ellipsis (n := n + 9) (l := 97 + j) (t := t) (g := turnS f c) hc (by omega) (by omega) (by omega) (by omega)
  have m2 := ellipsis (n := n + 9) (l := 97 + j) (t := t + 1) (g := turnS f c) hc (by omega) (by omega) (by omega) (by omega)
  rw [codes_turnS, ht, decide_eq_true (Nat.le_refl t)] at m1
  rw [codes_turnS, ht, decide_eq_false (by omega)] at m2
  refine ExsOk.cons (ExOk.ifF (TrOk.bool (AllOk.goOr (σ₁ := σ) (TrOk.cmp (a := .bool true) (b := .bool true) (EvOk.callG (f := 186) rfl rfl (by kernel_rfl) rfl keep186 (EvsOk.cons (r := .at (.str (fitS (97 + j) t))) rfl (EvOk.name (X := .str (fitS (97 + j) t)) rfl rfl rfl rfl) (EvsOk.cons (r := .at (.str (turnS f c))) rfl (EvOk.name (X := .str (turnS f c)) rfl rfl rfl rfl) EvsOk.nil)) m1) (EvOk.const rfl) rfl rfl)
    (AllOk.goOr (σ₁ := σ) (TrOk.cmp (a := .bool false) (b := .bool false) (EvOk.callG (f := 186) rfl rfl (by kernel_rfl) rfl keep186 (EvsOk.cons (r := .at (.str (fitS (97 + j) (t + 1)))) (σ₁ := σ) rfl (fit_more (97 + j) t ▸ EvOk.bin (a := .str (fitS (97 + j) t ++ ch (97 + j))) (b := .str "...") (EvOk.bin (a := .str (fitS (97 + j) t)) (b := .str (ch (97 + j))) (EvOk.name (X := .str (fitS (97 + j) t)) rfl rfl rfl rfl) (EvOk.name (X := .str (ch (97 + j))) rfl rfl rfl rfl) (add_str (by rw [fit_len, ch_len]; omega))) (EvOk.const rfl) (add_str (by rw [Str.length_append, fit_len, ch_len, hdots]; omega))) (EvsOk.cons (r := .at (.str (turnS f c))) rfl (EvOk.name (X := .str (turnS f c)) rfl rfl rfl rfl) EvsOk.nil)) m2) (EvOk.const rfl) rfl rfl) AllOk.nil))) ExsOk.nil) ?_
  -- name
  have hcode := asked_made (97 + j) t
  have hlen : (("257 \"" : Str) ++ Txt.mul "\"" (t : Int) ++ ch (97 + j) ++ "\"").length = t + 7 := by
    rw [len_codes, hcode]; simp
  have hpar := parse257 (n := n + 28) (σ := σ) hcode (by omega)
  rw [pRun_marks (by omega) [34] t, show pRun [34] = [] from rfl] at hpar
  refine ExsOk.cons (ρ₁ := rhoL jt f c j ++ ([("lamp", V.str (ch (97 + j))), ("times", V.int (t : Nat)), ("fits", V.str (fitS (97 + j) t)), ("name", V.str (nameL (97 + j) t))] : Rho)) (σ₁ := σ) (ExOk.assign (r := .at (.str (nameL (97 + j) t))) (EvOk.callG (f := 225) rfl rfl (by kernel_rfl) rfl keep225 (EvsOk.cons (r := .at (.str (("257 \"" : Str) ++ Txt.mul "\"" (t : Int) ++ ch (97 + j) ++ "\""))) rfl (EvOk.bin (a := .str (("257 \"" : Str) ++ Txt.mul "\"" (t : Int) ++ ch (97 + j))) (b := .str "\"") (EvOk.bin (a := .str (("257 \"" : Str) ++ Txt.mul "\"" (t : Int))) (b := .str (ch (97 + j))) (EvOk.bin (a := .str "257 \"") (b := .str (Txt.mul "\"" (t : Int))) (EvOk.const rfl) (EvOk.bin (a := .str "\"") (b := .int (t : Nat)) (EvOk.const rfl) (EvOk.name (X := .int (t : Nat)) rfl rfl rfl rfl) (mul_val (by rw [hq]; omega) (by omega))) (add_str (by rw [len_mulC, h257, hq]; omega)))
    (EvOk.name (X := .str (ch (97 + j))) rfl rfl rfl rfl) (add_str (by rw [Str.length_append, len_mulC, ch_len, h257, hq]; omega))) (EvOk.const rfl) (add_str (by rw [Str.length_append, Str.length_append, len_mulC, ch_len, h257, hq]; omega))) EvsOk.nil) hpar) rfl rfl (by decide) rfl) ?_
  -- its form
  refine ExsOk.cons (ExOk.ifF (TrOk.cmp (a := .str (nameL (97 + j) t)) (b := .str (nameL (97 + j) t)) (EvOk.name (X := .str (nameL (97 + j) t)) rfl rfl rfl rfl) (name_made (97 + j) t ▸ EvOk.bin (a := .str (Txt.mul "\"" ((t / 2 : Nat) : Int))) (b := .str (Txt.mul (ch (97 + j)) ((1 - t % 2 : Nat) : Int))) (EvOk.bin (a := .str "\"") (b := .int ((t / 2 : Nat) : Int)) (EvOk.const rfl) (EvOk.bin (a := .int (t : Nat)) (b := .int 2) (EvOk.name (X := .int (t : Nat)) rfl rfl rfl rfl) (EvOk.const rfl) vdiv) (mul_val (by rw [hq]; omega) (by omega)))
    (EvOk.bin (a := .str (ch (97 + j))) (b := .int ((1 - t % 2 : Nat) : Int)) (EvOk.name (X := .str (ch (97 + j))) rfl rfl rfl rfl) (EvOk.bin (a := .int 1) (b := .int ((t % 2 : Nat) : Int)) (EvOk.const rfl) (EvOk.bin (a := .int (t : Nat)) (b := .int 2) (EvOk.name (X := .int (t : Nat)) rfl rfl rfl rfl) (EvOk.const rfl) vmod) vsub) (mul_val (by rw [ch_len]; omega) (by omega))) (add_str (by rw [len_mulC, len_mulC, hq, ch_len]; omega))) (by show some (nameL (97 + j) t != nameL (97 + j) t) = _; rw [bne_self_eq_false]) rfl) ExsOk.nil) ?_
  -- lit
  have hnl : (nameL (97 + j) t).length ≤ 30 := by
    rw [← name_made, Str.length_append, len_mulC, len_mulC, hq, ch_len]; omega
  have hodd : oddQ f c j = decide (t % 2 = 1) := by unfold oddQ; rw [ht]
  have hll := litN_len (oddQ f c) j
  have tst : TrOk (n + 29) fd264.scope.names (rhoL jt f c j ++ ([("lamp", V.str (ch (97 + j))), ("times", V.int (t : Nat)), ("fits", V.str (fitS (97 + j) t)), ("name", V.str (nameL (97 + j) t))] : Rho)) σ (whTest (match (forB litFor).getD 5 noS with | .If t b1 b2 p => .While t b1 b2 p | s => s)) (oddQ f c j) σ :=
    TrOk.cmp (a := .str (Txt.slice (nameL (97 + j) t) (some (-1)) none)) (b := .str (ch (97 + j))) (EvOk.cut (r := .at (.str (nameL (97 + j) t))) (EvOk.name (X := .str (nameL (97 + j) t)) rfl rfl rfl rfl) (PartOk.some (EvOk.neg (i := 1) (EvOk.const rfl))) PartOk.none (by
      show (if (nameL (97 + j) t).length ≤ sizeLine then some (RV.at (.str (Txt.slice (nameL (97 + j) t) (some (-1)) none))) else none) = _
      rw [if_pos (by omega)])) (EvOk.name (X := .str (ch (97 + j))) rfl rfl rfl rfl) (by
      show some (Txt.slice (nameL (97 + j) t) (some (-1)) none != ch (97 + j)) = _
      rw [name_last (by omega), hodd]) rfl
  cases ho : oddQ f c j with
  | false =>
    rw [ho] at tst
    have e : litN (oddQ f c) (j + 1) = litN (oddQ f c) j := by rw [litN_succ, ho, if_neg (by decide)]
    show ExsOk _ _ _ _ _ _ (([("told", V.obj jt), ("choice", V.str (sub c)), ("turned", V.str (turnS f c)), ("lit", V.str (litN (oddQ f c) (j + 1)))] : Rho) ++ _) _
    rw [e]
    exact ExsOk.cons (ExOk.ifF tst ExsOk.nil) ExsOk.nil
  | true =>
    rw [ho] at tst
    have e : litN (oddQ f c) (j + 1) = litN (oddQ f c) j ++ ch (97 + j) := by rw [litN_succ, ho, if_pos rfl]
    show ExsOk _ _ _ _ _ _ (([("told", V.obj jt), ("choice", V.str (sub c)), ("turned", V.str (turnS f c)), ("lit", V.str (litN (oddQ f c) (j + 1)))] : Rho) ++ _) _
    rw [e]
    exact ExsOk.cons (ExOk.ifT tst (ExsOk.cons (ExOk.assign (r := .at (.str (litN (oddQ f c) j ++ ch (97 + j)))) (EvOk.bin (a := .str (litN (oddQ f c) j)) (b := .str (ch (97 + j))) (EvOk.name (X := .str (litN (oddQ f c) j)) rfl rfl rfl rfl) (EvOk.name (X := .str (ch (97 + j))) rfl rfl rfl rfl) (add_str (by rw [ch_len]; omega))) rfl rfl (by decide) rfl) ExsOk.nil)) ExsOk.nil
end Mine
end
section
/-! ## text L4 -/
open PySem.Builtin PySem.Builtin.Str PySem.StrLaws
set_option maxRecDepth 100000
set_option maxHeartbeats 400000
namespace Mine
noncomputable def litM (f : Nat → Nat) (c : Nat) : Nat := maskQ (oddQ f c 0) (oddQ f c 1) (oddQ f c 2) (oddQ f c 3) (oddQ f c 4)
theorem abc_range : abc.map V.str = (List.range 5).map fun i => V.str (ch (97 + i)) := by rfl
theorem law_lit {n jt c : Nat} {f : Nat → Nat} {σ : List Ob} (hc : Cl σ) (hj : objL σ jt = some (rowsT f)) : FnOk (n + 30) 264 [.obj jt, .str (sub c)] [] σ (.at (.str (sub (litM f c)))) σ := by
  have h5z : (5 : Nat) ≤ sizeLine := by decide
  refine fn_okB at264 (bind264 _ _) (show nd2 "told" "choice" from by decide) (by rfl) ?_
  refine BodyOk.cons (ρ₁ := [("told", V.obj jt), ("choice", V.str (sub c)), ("turned", V.str (turnS f c))]) (σ₁ := σ) (ExOk.assign (r := .at (.str (turnS f c))) ?_ rfl rfl (by decide) rfl) ?_
  · rw [← turned_join]
    refine EvOk.joinNew (l := ((ltr c).map fun k => sub (f (k - 97))).map strI) hc (fun env => by rfl) rfl ?_ (strsIt_mapI _) (turned_ok f c)
    have e : (((ltr c).map fun k => V.str (ch k)).filter fun _ => true).map (fun X => strI (sub (f (codeV X - 97)))) = ((ltr c).map fun k => sub (f (k - 97))).map strI := by
      rw [List.filter_eq_self.mpr (fun _ _ => rfl), List.map_map, List.map_map]
      exact List.map_congr_left fun k _ => rfl
    rw [← e]
    refine EvOk.comp (src := .str (sub c)) (p := fun _ => true) (compS (by rfl)) (IterOk.str (EvOk.name (X := .str (sub c)) rfl rfl rfl rfl)) (src_sub _ c) (by rw [List.length_map]; have := ltr_len c; omega) (fun _ _ => rfl) (fun _ _ => rfl) ?_
    intro X hX _
    obtain ⟨k, hk, rfl⟩ := List.mem_map.mp hX
    obtain ⟨i, hi, _, rfl⟩ := mem_ltr.mp hk
    show EvOk _ _ _ _ _ (.v (.it (strI (sub (f (97 + i - 97)))))) _
    rw [show 97 + i - 97 = i by omega]
    refine EvOk.sub (r := .v (.obj jt)) (i := .int (i : Nat)) (EvOk.name (X := .obj jt) rfl rfl rfl rfl) (EvOk.methB (r0 := .at (.str "abcde")) (id := "str.index") (fun env => by rfl) rfl (EvOk.const rfl) (MbOk.str fun M A s pl Q E t h => GM.index h) (EvsOk.cons (r := .at (.str (ch (97 + i)))) rfl (EvOk.name (X := .str (ch (97 + i))) rfl rfl rfl rfl) EvsOk.nil) (BiOk.atoms (ats := [.str "abcde", .str (ch (97 + i))]) rfl ?_)) (idx_obj (i := i) hj ?_ (by omega))
    · show (match occurrences "abcde" (ch (97 + i)) 0 (Str.ofString "abcde").length 1 with | i :: _ => some (At.int i) | [] => none) = _
      rw [index_abc i hi]
    · unfold rowsT
      rw [List.getElem?_map, List.getElem?_range hi]; rfl
  · refine BodyOk.cons (ρ₁ := rhoL jt f c 0) (σ₁ := σ) (ExOk.assign (r := .at (.str (litN (oddQ f c) 0))) (EvOk.const (by rfl)) rfl rfl (by decide) rfl) ?_
    refine BodyOk.forInv (src := .str "abcde") (L := (List.range 5).map fun i => V.str (ch (97 + i))) (St := fun i ρ σ' => SubR (rhoL jt f c i) ρ ∧ σ' = σ) (IterOk.str (EvOk.const rfl)) (fun _ _ => rfl) (fun _ _ _ _ => by rw [abc_src, abc_range]) ⟨SubR.refl, rfl⟩ ?_ ?_
    · rintro i X ρ σ' hX ⟨hρ, rfl⟩
      obtain ⟨hi, rfl⟩ := mem_len5 (g := fun i => V.str (ch (97 + i))) rfl hX
      obtain ⟨m, hb⟩ := lit_body (n := n) (jt := jt) (c := c) (f := f) hc hi
      exact ⟨setL ρ "lamp" (V.str (ch (97 + i))), _, σ', TgOk.name rfl (by decide) rfl, ExsOk.sub (hρ.tg rfl) hb, SubR.app, rfl⟩
    · rintro ρ' σ' ⟨hρ, rfl⟩
      rw [List.length_map, List.length_range] at hρ
      refine BodyOk.sub hρ (BodyOk.ret (ExOk.ret ?_))
      unfold litM
      rw [← litN_five]
      exact EvOk.name (X := .str (litN (oddQ f c) 5)) rfl rfl rfl rfl
/-! _law_shared -/
noncomputable def meets (w b : Nat) : Bool := decide ((bitsL (w &&& b)).length % 2 = 1)
noncomputable def marksS (t : Nat) : Str := ⟨(List.replicate t 34).toArray⟩
noncomputable def shareS (t : Nat) : Str := ⟨(List.replicate (t / 2) 34 ++ (if t % 2 = 0 then [111] else [])).toArray⟩
theorem marks_zero : marksS 0 = "" := rfl
theorem marks_succ (t : Nat) : marksS t ++ ("\"" : Str) = marksS (t + 1) := by
  apply eq_codes
  unfold marksS
  rw [codes_app, show codes "\"" = [34] from rfl, codes_mk, codes_mk, List.replicate_succ']
theorem marks_len (t : Nat) : (marksS t).length = t := by
  rw [len_codes]; unfold marksS; rw [codes_mk, List.length_replicate]
theorem shared_asked (t : Nat) : codes (("257 \"" : Str) ++ marksS t ++ "o\" ") = [50, 53, 55, 32, 34] ++ (List.replicate t 34 ++ [111, 34, 32]) := by
  rw [codes_app, codes_app, show codes "257 \"" = [50, 53, 55, 32, 34] from rfl, show codes "o\" " = [111, 34, 32] from rfl]
  unfold marksS
  rw [codes_mk]; simp
/-- how many of the letters of w lie in b -/
noncomputable def meetN (w b k : Nat) : Nat := (((bitsL w).take k).filter fun i => b.testBit i).length
noncomputable abbrev rhoS (w b t : Nat) : Rho := [("word", V.str (sub w)), ("board", V.str (sub b)), ("marks", V.str (marksS t))]
theorem meetN_succ {w b k i : Nat} (h : (bitsL w)[k]? = some i) : meetN w b (k + 1) = if b.testBit i = true then meetN w b k + 1 else meetN w b k := by
  unfold meetN
  rw [List.take_add_one, h]
  simp only [Option.toList_some, List.filter_append, List.length_append, List.filter_cons, List.filter_nil]
  split <;> rfl
theorem bitsL_mem {w k i : Nat} (h : (bitsL w)[k]? = some i) : i < 5 := by
  have := List.mem_of_getElem? h
  unfold bitsL at this
  exact List.mem_range.mp (List.mem_filter.mp this).1
theorem fit_one (l : Nat) : ("..." : Str) ++ ch l ++ ("..." : Str) = fitS l 1 := by
  have := fit_more l 0
  rw [← this]; rfl
theorem count_sub : ∀ b : Nat, b < 32 → ∀ i : Nat, i < 5 → decide (1 ≤ (ltr b).count (97 + i)) = b.testBit i := by decide +kernel
theorem law_shared {n w b : Nat} {σ : List Ob} (hc : Cl σ) (hb : b < 32) : FnOk (n + 30) 271 [.str (sub w), .str (sub b)] [] σ (.at (.str (shareS (meetN w b 5)))) σ := by
  have h5z : (10000 : Nat) ≤ sizeLine := by decide
  have hdots : (Str.ofString "...").length = 3 := rfl
  have hq : (Str.ofString "\"").length = 1 := rfl
  have h257 : (Str.ofString "257 \"").length = 5 := rfl
  have ho : (Str.ofString "o\" ").length = 3 := rfl
  have hbl := bitsL_len w
  have hsl := len_sub b
  refine fn_okB at271 (bind271 _ _) (show nd2 "word" "board" from by decide) (by rfl) ?_
  refine BodyOk.cons (ρ₁ := rhoS w b (meetN w b 0)) (σ₁ := σ) (ExOk.assign (r := .at (.str (marksS (meetN w b 0)))) (EvOk.const (by rfl)) rfl rfl (by decide) rfl) ?_
  refine BodyOk.forInv (src := .str (sub w)) (L := (ltr w).map fun k => V.str (ch k)) (St := fun i ρ σ' => SubR (rhoS w b (meetN w b i)) ρ ∧ σ' = σ) (IterOk.str (EvOk.name (X := .str (sub w)) rfl rfl rfl rfl)) (fun _ _ => rfl) (fun _ _ _ _ => src_sub _ w) ⟨SubR.refl, rfl⟩ ?_ ?_
  · rintro k X ρ σ' hX ⟨hρ, rfl⟩
    obtain ⟨i, hi, rfl⟩ : ∃ i, (bitsL w)[k]? = some i ∧ X = V.str (ch (97 + i)) := by
      unfold ltr at hX
      rw [List.map_map, List.getElem?_map] at hX
      cases hb' : (bitsL w)[k]? with
      | none => rw [hb'] at hX; cases hX
      | some i => rw [hb'] at hX; exact ⟨i, rfl, (Option.some.inj hX).symm⟩
    have hi5 := bitsL_mem hi
    have hk5 : k < 5 := by have := (List.getElem?_eq_some_iff.mp hi).1; omega
    have m1 := ellipsis (n := n + 9) (l := 97 + i) (t := 1) (g := sub b) hc (by omega) (by omega) (by omega) (by omega)
    rw [codes_sub, count_sub b hb i hi5] at m1
    have hin := isIn_sub b hi5
    have hml : meetN w b k ≤ 5 := by
      unfold meetN
      refine Nat.le_trans (List.length_filter_le _ _) ?_
      rw [List.length_take]; omega
    refine ⟨setL ρ "x" (V.str (ch (97 + i))), rhoS w b (meetN w b (k + 1)) ++ ([("x", V.str (ch (97 + i))), ("said", V.bool (b.testBit i))] : Rho), σ', TgOk.name rfl (by decide) rfl, ExsOk.sub (hρ.tg rfl) ?_, SubR.app, rfl⟩
    refine ExsOk.cons (ρ₁ := rhoS w b (meetN w b k) ++ ([("x", V.str (ch (97 + i))), ("said", V.bool (b.testBit i))] : Rho)) (σ₁ := σ') (ExOk.assign (r := .at (.bool (b.testBit i))) (EvOk.callG (f := 186) rfl rfl (by kernel_rfl) rfl keep186 (EvsOk.cons (r := .at (.str (fitS (97 + i) 1))) (σ₁ := σ') rfl (fit_one (97 + i) ▸ EvOk.bin (a := .str (("..." : Str) ++ ch (97 + i))) (b := .str "...") (EvOk.bin (a := .str "...") (b := .str (ch (97 + i))) (EvOk.const rfl) (EvOk.name (X := .str (ch (97 + i))) rfl rfl rfl rfl) (add_str (by rw [ch_len, hdots]; omega))) (EvOk.const rfl) (add_str (by rw [Str.length_append, ch_len, hdots]; omega)))
      (EvsOk.cons (r := .at (.str (sub b))) rfl (EvOk.name (X := .str (sub b)) rfl rfl rfl rfl) EvsOk.nil)) m1) rfl rfl (by decide) rfl) ?_
    refine ExsOk.cons (ExOk.ifF (TrOk.cmp (a := .bool (b.testBit i)) (b := .bool (b.testBit i)) (EvOk.name (X := .bool (b.testBit i)) rfl rfl rfl rfl) (EvOk.cmp (a := .str (ch (97 + i))) (b := .str (sub b)) (EvOk.name (X := .str (ch (97 + i))) rfl rfl rfl rfl) (EvOk.name (X := .str (sub b)) rfl rfl rfl rfl) (by show some (isIn (sub b) (ch (97 + i))) = _; rw [hin]) rfl) (by show some (b.testBit i != b.testBit i) = _; rw [bne_self_eq_false]) rfl) ExsOk.nil) ?_
    rw [meetN_succ hi]
    cases hbi : b.testBit i with
    | false =>
      rw [if_neg (by decide)]
      exact ExsOk.cons (ExOk.ifF (TrOk.val (r := .at (.bool false)) rfl (EvOk.name (X := .bool false) rfl rfl rfl rfl) rfl) ExsOk.nil) ExsOk.nil
    | true =>
      rw [if_pos rfl]
      exact ExsOk.cons (ExOk.ifT (TrOk.val (r := .at (.bool true)) rfl (EvOk.name (X := .bool true) rfl rfl rfl rfl) rfl) (ExsOk.cons (ExOk.assign (r := .at (.str (marksS (meetN w b k + 1)))) (marks_succ (meetN w b k) ▸ EvOk.bin (a := .str (marksS (meetN w b k))) (b := .str "\"") (EvOk.name (X := .str (marksS (meetN w b k))) rfl rfl rfl rfl) (EvOk.const rfl) (add_str (by rw [marks_len, hq]; omega))) rfl rfl (by decide) rfl) ExsOk.nil)) ExsOk.nil
  · rintro ρ' σ' ⟨hρ, rfl⟩
    have hfull : meetN w b ((ltr w).map fun k => V.str (ch k)).length = meetN w b 5 := by
      unfold meetN
      rw [List.length_map]
      unfold ltr
      rw [List.length_map, List.take_length, List.take_of_length_le hbl]
    rw [hfull] at hρ
    have hml : meetN w b 5 ≤ 5 := by
      unfold meetN
      refine Nat.le_trans (List.length_filter_le _ _) ?_
      rw [List.length_take]; omega
    generalize meetN w b 5 = t at hρ hml
    have hcode := shared_asked t
    have hlen : (("257 \"" : Str) ++ marksS t ++ "o\" ").length = t + 8 := by
      rw [len_codes, hcode]; simp
    have hpar := parse257 (n := n + 28) (σ := σ') hcode (by omega)
    rw [pRun_marks (by decide) [34, 32] t, show pRun [34, 32] = [] from rfl] at hpar
    refine BodyOk.sub hρ (BodyOk.ret (ExOk.ret ?_))
    exact EvOk.callG (f := 225) rfl rfl (by kernel_rfl) rfl keep225 (EvsOk.cons (r := .at (.str (("257 \"" : Str) ++ marksS t ++ "o\" "))) rfl (EvOk.bin (a := .str (("257 \"" : Str) ++ marksS t)) (b := .str "o\" ") (EvOk.bin (a := .str "257 \"") (b := .str (marksS t)) (EvOk.const rfl) (EvOk.name (X := .str (marksS t)) rfl rfl rfl rfl) (add_str (by rw [marks_len, h257]; omega))) (EvOk.const rfl) (add_str (by rw [Str.length_append, marks_len, h257, ho]; omega))) EvsOk.nil) hpar
end Mine
end
section
/-! ## text C1 -/
open PySem.Builtin PySem.Builtin.Str PySem.StrLaws
set_option maxRecDepth 100000
set_option maxHeartbeats 400000
namespace Mine
noncomputable def endS (w b : Nat) : Str := Txt.slice (shareS (meetN w b 5)) (some (-1)) none
noncomputable def oddM (w b : Nat) : Bool := decide (meetN w b 5 % 2 = 1)
theorem meetN_le (w b : Nat) : meetN w b 5 ≤ 5 := by
  unfold meetN
  refine Nat.le_trans (List.length_filter_le _ _) ?_
  rw [List.length_take]; omega
theorem endS_all : ∀ t : Nat, t < 6 → Txt.slice (shareS t) (some (-1)) none = (if t % 2 = 0 then ("o" : Str) else if t / 2 = 0 then "" else "\"") := by decide +kernel
theorem shareS_len (t : Nat) (h : t ≤ 5) : (shareS t).length ≤ 10 := by
  rw [len_codes]; unfold shareS; rw [codes_mk, List.length_append, List.length_replicate]
  split <;> simp <;> omega
theorem endS_o (w b : Nat) : (endS w b != ("o" : Str)) = oddM w b := by
  unfold endS oddM
  have h := meetN_le w b
  rw [endS_all _ (by omega)]
  rcases Nat.mod_two_eq_zero_or_one (meetN w b 5) with q | q
  · rw [if_pos q, q]; rfl
  · rw [if_neg (by omega), q]
    split <;> rfl
theorem endS_q (w b : Nat) : (endS w b == ("?" : Str)) = false := by
  unfold endS
  have h := meetN_le w b
  rw [endS_all _ (by omega)]
  split
  · rfl
  · split <;> rfl
theorem endS_txt (w b : Nat) : PyData.strOk (endS w b) = true := by
  refine strOk_txt ?_
  unfold endS
  have h := meetN_le w b
  rw [endS_all _ (by omega)]
  split
  · rfl
  · split <;> rfl
noncomputable def endsL (W : List Nat) (b : Nat) : List Str := W.map fun w => endS w b
noncomputable def notO (W : List Nat) (b : Nat) : List Str := (endsL W b).filter fun x => x != ("o" : Str)
theorem notO_eq (W : List Nat) (b : Nat) : notO W b = (W.filter fun w => oddM w b).map fun w => endS w b := by
  unfold notO endsL
  rw [List.filter_map]
  congr 1
  refine List.filter_congr fun w _ => ?_
  exact endS_o w b
/-- which switch words a text stands for -/
noncomputable def subV (X : V) : Str := strOf X
structure Comes (f : Nat → Nat) (B : List BkE) (W : List Nat) (b : Nat) : Prop where
  no : chosen B b = none → ∃ w ∈ W, oddM w b = true
  yes : ∀ c, chosen B b = some c → (∀ w ∈ W, oddM w b = false) ∧ litM f c = b
noncomputable abbrev rhoK (jt jb jf h b : Nat) : Rho := [("told", V.obj jt), ("book", V.obj jb), ("fallen", V.obj jf), ("board", V.str (sub b)), ("ends", V.obj h)]
theorem okS_notO (W : List Nat) (b : Nat) : OkS (notO W b) := by
  intro x hx
  rw [notO_eq] at hx
  obtain ⟨w, _, rfl⟩ := List.mem_map.mp hx
  exact endS_txt w b
/-- [x for x in ends if x != 'o'] -/
theorem comp_notO {n h b : Nat} {W : List Nat} {σ : List Ob} {ρ : Rho} (hW : W.length ≤ 5) (he : objL σ h = some ((endsL W b).map strI)) {x : Str} {px pos : Pos} {iter t : Expr} {scope : Scope}
    (S : CompS fd276.scope.names ρ scope x) (hi : EvOk n fd276.scope.names ρ σ iter (.v (.obj h)) σ) (hs : ∀ env x, foldedSetIterable iter env x = pure x)
    (ht : ∀ y : Str, TrOk n scope.names (rhoC scope.names ρ x (V.str y)) σ t (y != ("o" : Str)) σ) {elt : Expr} (hel : ∀ y : Str, EvOk n scope.names (rhoC scope.names ρ x (V.str y)) σ elt (.at (.str y)) σ) :
    EvOk n fd276.scope.names ρ σ (.ListComp elt [⟨.Name x px, iter, [t], 0⟩] scope pos) (.new ((notO W b).map strI)) σ := by
  have e1 : ((((endsL W b).map strI).map V.it).filter fun X => strOf X != ("o" : Str)).map (fun X => strI (strOf X)) = (notO W b).map strI := by
    unfold notO
    rw [List.map_map, List.filter_map, List.map_map]
    rfl
  rw [← e1]
  refine EvOk.comp (src := .lst h) (p := fun X => strOf X != ("o" : Str)) S (IterOk.list hi rfl (objL_get he)) (srcL_obj he) ?_ hs ?_ ?_
  · rw [List.length_map, List.length_map]; unfold endsL; rw [List.length_map]
    have : (5 : Nat) ≤ sizeLine := by decide
    omega
  · intro X hX
    obtain ⟨y, hy, rfl⟩ := List.mem_map.mp hX
    obtain ⟨z, hz, rfl⟩ := List.mem_map.mp hy
    exact ht z
  · intro X hX _
    obtain ⟨y, hy, rfl⟩ := List.mem_map.mp hX
    obtain ⟨z, hz, rfl⟩ := List.mem_map.mp hy
    exact hel z
noncomputable def endX (b : Nat) (x : Str) : Str := Txt.slice (shareS ((codes x).filter fun c => b.testBit (c - 97)).length) (some (-1)) none
theorem endX_sub (w b : Nat) : endX b (sub w) = endS w b := by
  unfold endX endS meetN
  rw [codes_sub]
  unfold ltr
  rw [List.filter_map, List.length_map, List.take_of_length_le (bitsL_len w)]
  congr 2
  congr 1
  refine List.filter_congr fun i _ => ?_
  show b.testBit (97 + i - 97) = _
  rw [show 97 + i - 97 = i by omega]
theorem law_comes {n jt jb kb jf b : Nat} {f : Nat → Nat} {B : List BkE} {W : List Nat} {σ : List Ob} (hc : Cl σ) (hj : objL σ jt = some (rowsT f)) (hd : HdAt σ jb kb (B.map entB)) (hB : OkB B) (hf : objL σ jf = some (W.map subI)) (hW : W.length ≤ 5) (hb : b < 32) (H : Comes f B W b) :
    FnOk (n + 31) 276 [.obj jt, .obj jb, .obj jf, .str (sub b)] [] σ (.at (.bool true)) σ := by
  refine FnOk.drop (junk := [.list ((endsL W b).map strI)]) ?_ rfl hc rfl
  have h5z : (10 : Nat) ≤ sizeLine := by decide
  refine fn_okB at276 (bind276 _ _ _ _) (show (["told", "book", "fallen", "board"] : List Str).Nodup from by decide) (by rfl) ?_
  have ef : (((W.map subI).map V.it).filter fun _ => true).map (fun X => strI (endX b (strOf X))) = (endsL W b).map strI := by
    unfold endsL
    rw [List.filter_eq_self.mpr (fun _ _ => rfl), List.map_map, List.map_map, List.map_map]
    refine List.map_congr_left fun w _ => ?_
    show strI (endX b (sub w)) = _
    rw [endX_sub]; rfl
  generalize hS : σ ++ [Ob.list ((endsL W b).map strI)] = S
  have hcS : Cl S := hS ▸ hc.pushS _
  have hen : objL S σ.length = some ((endsL W b).map strI) := by rw [← hS]; exact objL_last _ _
  have hjS : objL S jt = some (rowsT f) := hS ▸ objL_app hj
  have hdS : HdAt S jb kb (B.map entB) := hS ▸ hd.app
  refine BodyOk.cons (ρ₁ := rhoK jt jb jf σ.length b) (σ₁ := S) (hS ▸ ef ▸ ExOk.assignComp (by rfl) (src := .lst jf) (p := fun _ => true) (f := fun X => strI (endX b (strOf X))) rfl rfl rfl (compS (by rfl)) (IterOk.list (r := .v (.obj jf)) (EvOk.name (X := .obj jf) rfl rfl rfl rfl) rfl (objL_get hf)) (srcL_obj hf) ?_ (fun _ _ => rfl) (fun _ _ => rfl) ?_) ?_
  · rw [List.length_map, List.length_map]; omega
  · intro X hX _
    obtain ⟨y, hy, rfl⟩ := List.mem_map.mp hX
    obtain ⟨w, hw, rfl⟩ := List.mem_map.mp hy
    show EvOk _ _ _ _ _ (.at (.str (endX b (sub w)))) _
    rw [endX_sub]
    refine EvOk.cut (r := .at (.str (shareS (meetN w b 5)))) (EvOk.callG (f := 271) rfl rfl (by kernel_rfl) rfl keep271 (EvsOk.cons (r := .at (.str (sub w))) rfl (EvOk.name (X := .str (sub w)) rfl rfl rfl rfl) (EvsOk.cons (r := .at (.str (sub b))) rfl (EvOk.name (X := .str (sub b)) rfl rfl rfl rfl) EvsOk.nil)) (law_shared (n := n) hc hb)) (PartOk.some (EvOk.neg (i := 1) (EvOk.const rfl))) PartOk.none ?_
    have hz := shareS_len _ (meetN_le w b)
    show (if (shareS (meetN w b 5)).length ≤ sizeLine then some (RV.at (.str (Txt.slice (shareS (meetN w b 5)) (some (-1)) none))) else none) = _
    rw [if_pos (by omega)]; rfl
  · refine BodyOk.cons (ρ₁ := rhoK jt jb jf σ.length b ++ ([("choice", .it (.at (chAt (chosen B b))))] : Rho)) (σ₁ := S) (ExOk.assign (r := .at (chAt (chosen B b))) (EvOk.callG (f := 259) rfl rfl (by kernel_rfl) rfl keep259 (EvsOk.cons (r := .at (.str (sub b))) rfl (EvOk.name (X := .str (sub b)) rfl rfl rfl rfl) (EvsOk.cons (r := .v (.obj jb)) rfl (EvOk.name (X := .obj jb) rfl rfl rfl rfl) EvsOk.nil)) (law_choice (n := n + 10) hcS hdS hB hb)) rfl rfl (by decide) rfl) ?_
    have hany : cmpR S .In (.at (.str "?")) (.v (.obj σ.length)) = some false := by
      show (strsOf S (.v (.obj σ.length))).map (fun l => l.any (· == ("?" : Str))) = some false
      unfold strsOf
      rw [seqOf_obj hen]
      show (strsIt ((endsL W b).map strI)).map _ = _
      rw [strsIt_mapI]
      show some _ = some _
      congr 1
      rw [List.any_eq_false]
      intro y hy
      unfold endsL at hy
      obtain ⟨w, _, rfl⟩ := List.mem_map.mp hy
      rw [endS_q]; decide
    refine BodyOk.skip (σ₁ := S) (TrOk.cmpR (a := .at (.str "?")) (b := .v (.obj σ.length)) (by omega) (EvOk.const rfl) (EvOk.name (X := .obj σ.length) rfl rfl rfl rfl) hany rfl) ?_
    have key : ∀ {ρ : Rho} {e : Expr} {pos : Pos} {op : CmpOp} {r : Bool}, EvOk (n + 30) fd276.scope.names ρ S e (.new ((notO W b).map strI)) S → (op = .NotEq ∨ op = .Eq) → cmpD S op (.new ((notO W b).map strI)) (.new []) = some r →
        ∀ {p2 : Pos}, EvOk (n + 30) fd276.scope.names ρ S (.Compare e [op] [.List [] p2] pos) (.at (.bool r)) S := fun {ρ} {e} {pos} {op} {r} h hop hd {p2} =>
      EvOk.cmpR (by omega) h (EvOk.list (Vs := []) (l := []) EvsOk.nil rfl (by decide)) (by rw [cmpR_new]; exact hd) (by rcases hop with rfl | rfl <;> rfl)
    cases hch : chosen B b with
    | none =>
      obtain ⟨w, hw, hodd⟩ := H.no hch
      have hne : ∃ x r, notO W b = x :: r := by
        rw [notO_eq]
        have hm : w ∈ W.filter fun w => oddM w b := List.mem_filter.mpr ⟨hw, hodd⟩
        cases hfl : W.filter fun w => oddM w b with
        | nil => rw [hfl] at hm; cases hm
        | cons a r => exact ⟨_, _, rfl⟩
      obtain ⟨x, r, hx⟩ := hne
      have hcm : cmpD S .NotEq (.new ((notO W b).map strI)) (.new []) = some true := by
        have ho := okS_notO W b
        rw [hx] at ho ⊢
        exact cmpD_ne_nil ho rfl rfl
      refine BodyOk.ifT (TrOk.cmp (a := .none) (b := .none) (EvOk.name (X := .none) rfl rfl rfl rfl) (EvOk.const rfl) rfl rfl) (ExsOk.ret (ExOk.ret (key ?_ (.inl rfl) hcm)))
      exact comp_notO hW hen (compS (by rfl)) (EvOk.name (X := .obj σ.length) rfl rfl rfl rfl) (fun _ _ => rfl) (fun y => TrOk.cmp (a := .str y) (b := .str "o") (EvOk.name (X := .str y) rfl rfl rfl rfl) (EvOk.const rfl) rfl rfl) (fun y => EvOk.name (X := .str y) rfl rfl rfl rfl)
    | some c =>
      obtain ⟨hev, hlit⟩ := H.yes c hch
      have hnil : notO W b = [] := by
        rw [notO_eq]
        have : W.filter (fun w => oddM w b) = [] := by
          rw [List.filter_eq_nil_iff]; intro w hw; rw [hev w hw]; decide
        rw [this]; rfl
      have hcm : cmpD S .Eq (.new ((notO W b).map strI)) (.new []) = some true := by
        rw [hnil]
        exact cmpD_eq_strs (l := []) (fun _ h => by cases h) rfl rfl
      refine BodyOk.skip (σ₁ := S) (TrOk.cmp (a := .str (sub c)) (b := .none) (EvOk.name (X := .str (sub c)) rfl rfl rfl rfl) (EvOk.const rfl) rfl rfl) ?_
      have hl := law_lit (n := n) (c := c) hcS hjS
      rw [hlit] at hl
      refine BodyOk.ret (ExOk.ret (EvOk.bool2 (σ₁ := S) (b := true) (r := .at (.bool true)) (key ?_ (.inr rfl) hcm) rfl ?_))
      · exact comp_notO hW hen (compS (by rfl)) (EvOk.name (X := .obj σ.length) rfl rfl rfl rfl) (fun _ _ => rfl) (fun y => TrOk.cmp (a := .str y) (b := .str "o") (EvOk.name (X := .str y) rfl rfl rfl rfl) (EvOk.const rfl) rfl rfl) (fun y => EvOk.name (X := .str y) rfl rfl rfl rfl)
      · show EvOk _ _ _ _ _ _ _
        exact EvOk.cmp (a := .str (sub b)) (b := .str (sub b)) (EvOk.callG (f := 264) rfl rfl (by kernel_rfl) rfl keep264 (EvsOk.cons (r := .v (.obj jt)) rfl (EvOk.name (X := .obj jt) rfl rfl rfl rfl) (EvsOk.cons (r := .at (.str (sub c))) rfl (EvOk.name (X := .str (sub c)) rfl rfl rfl rfl) EvsOk.nil)) hl) (EvOk.name (X := .str (sub b)) rfl rfl rfl rfl) (by show some (sub b == sub b) = _; rw [beq_self_eq_true]) rfl
end Mine
end
section
/-! ## text D1 -/
open PySem.Builtin PySem.Builtin.Str PySem.StrLaws
set_option maxRecDepth 100000
set_option maxHeartbeats 400000
namespace Mine
/-- the six numbers -/
noncomputable def nums6 (ns : List Int) : List Nat := (numsL ns).map Int.toNat
theorem numsL_pos (ns : List Int) : ∀ x ∈ numsL ns, 0 ≤ x ∧ x < 32 := by
  intro x hx
  unfold numsL at hx
  rcases List.mem_append.mp hx with h | h
  · obtain ⟨y, _, rfl⟩ := List.mem_map.mp h
    rw [Int.fmod_eq_emod_of_nonneg _ (by decide)]
    omega
  · have := List.mem_of_mem_drop h
    simp only [List.mem_cons, List.not_mem_nil, or_false] at this
    omega
theorem numsL_len (ns : List Int) : (numsL ns).length = 6 := by
  unfold numsL
  rw [List.length_append, List.length_map, List.length_take, List.length_drop]
  show min 6 ns.length + (6 - min 6 ns.length) = 6
  omega
theorem nums6_len (ns : List Int) : (nums6 ns).length = 6 := by unfold nums6; rw [List.length_map, numsL_len]
theorem nums6_lt (ns : List Int) : ∀ x ∈ nums6 ns, x < 32 := by
  intro x hx
  obtain ⟨y, hy, rfl⟩ := List.mem_map.mp hx
  have := numsL_pos ns y hy
  omega
theorem nums6_back (ns : List Int) : (nums6 ns).map (fun k : Nat => (k : Int)) = numsL ns := by
  unfold nums6
  rw [List.map_map]
  conv => rhs; rw [← List.map_id (numsL ns)]
  refine List.map_congr_left fun x hx => ?_
  have := numsL_pos ns x hx
  show ((x.toNat : Nat) : Int) = x
  omega
theorem nums6_it (ns : List Int) : (numsL ns).map iI = (nums6 ns).map natI := by
  rw [← nums6_back, List.map_map]; rfl
theorem intsIt_nat : ∀ l : List Nat, intsIt (l.map natI) = some (l.map fun k : Nat => (k : Int))
  | [] => rfl
  | a :: l => by
    rw [List.map_cons]
    show (intsIt (l.map natI)).map ((a : Int) :: ·) = _
    rw [intsIt_nat l]; rfl
theorem sum_nat : ∀ l : List Nat, (l.map fun k : Nat => (k : Int)).sum = ((l.sum : Nat) : Int)
  | [] => rfl
  | a :: l => by
    rw [List.map_cons, List.sum_cons, List.sum_cons, sum_nat l, Int.natCast_add]
noncomputable def diagM (f : Nat → Nat) : Nat := maskQ ((f 0).testBit 0) ((f 1).testBit 1) ((f 2).testBit 2) ((f 3).testBit 3) ((f 4).testBit 4)
noncomputable def boardM (x : Nat) : Nat := maskQ (x.testBit 0) (x.testBit 1) (x.testBit 2) (x.testBit 3) (x.testBit 4)
structure Holds (NS : List Nat) : Prop where
  zero : ∀ w ∈ (elim (rowM NS) 5).2, litM (rowM NS) w = 0
  own : ∃ c, chosen (elim (rowM NS) 5).1 (diagM (rowM NS)) = some c ∧ litM (rowM NS) c = diagM (rowM NS)
  comes : Comes (rowM NS) (elim (rowM NS) 5).1 (elim (rowM NS) 5).2 (boardM (NS.getD 5 0))
theorem rowM_lt (NS : List Nat) (i : Nat) : rowM NS i < 32 := maskQ_lt _ _ _ _ _
theorem rowsT_strs (f : Nat → Nat) : rowsT f = ((List.range 5).map fun i => sub (f i)).map strI := by unfold rowsT; rw [List.map_map]; rfl
theorem txt_sub (m : Nat) : txtOk (sub m) = true := by
  unfold txtOk
  rw [List.all_eq_true]
  intro c hc
  have : c ∈ codes (sub m) := hc
  rw [codes_sub] at this
  have := ltr_letters this
  simp; omega
theorem okS_rows (f : Nat → Nat) : OkS ((List.range 5).map fun i => sub (f i)) := by
  intro x hx
  obtain ⟨i, _, rfl⟩ := List.mem_map.mp hx
  exact strOk_txt (txt_sub _)
noncomputable def W1 (NS : List Nat) : List Ob := [.list (NS.map natI)]
noncomputable def W2 (NS : List Nat) : List Ob := W1 NS ++ [.list (rowsT (rowM NS))]
noncomputable def W3 (NS : List Nat) : List Ob := W2 NS ++ [.list (rowsT (rowM NS))]
noncomputable def W4 (NS : List Nat) : List Ob := W3 NS ++ [.list (rowsT (rowM NS))]
noncomputable def W5 (NS : List Nat) : List Ob := S0 (W4 NS) []
noncomputable def W6 (NS : List Nat) : List Ob := SFG (W5 NS) 5 (elim (rowM NS) 5).1 (elim (rowM NS) 5).2 (elim (rowM NS) 5).1
theorem cl_rowsT (k : Nat) (f : Nat → Nat) : (rowsT f).all (clIt k) = true := by rw [rowsT_strs]; exact cl_strs _ _
theorem cl_nats (k : Nat) (l : List Nat) : (l.map natI).all (clIt k) = true := by
  rw [List.all_eq_true]; intro x hx; obtain ⟨y, _, rfl⟩ := List.mem_map.mp hx; rfl
section
variable (NS : List Nat)
theorem cl1 : Cl (W1 NS) := by
  have : Cl ([] : List Ob) := rfl
  exact this.push (o := .list (NS.map natI)) (cl_nats _ _)
theorem cl2 : Cl (W2 NS) := (cl1 NS).push (cl_rowsT _ _)
theorem cl3 : Cl (W3 NS) := (cl2 NS).push (cl_rowsT _ _)
theorem cl4 : Cl (W4 NS) := (cl3 NS).push (cl_rowsT _ _)
theorem cl5 : Cl (W5 NS) := (cl4 NS).S0 _
theorem cl6 : Cl (W6 NS) := (cl5 NS).SFG
theorem bk5 : BkAt (W5 NS) 4 5 2 (rowM NS) := ⟨cl5 NS, S0_hd (W4 NS) [], rfl, by decide⟩
theorem told6 : objL (W6 NS) 2 = some (rowsT (rowM NS)) := SFG_old rfl (by decide)
theorem nums6' : objL (W6 NS) 0 = some (NS.map natI) := SFG_old rfl (by decide)
theorem fallen6 : objL (W6 NS) 6 = some ((elim (rowM NS) 5).2.map subI) := SFG_w (σ := W5 NS)
theorem hd6 : HdAt (W6 NS) 4 5 ((elim (rowM NS) 5).1.map entB) := SFG_hd (S0_hd (W4 NS) [])
end
end Mine
end
section
/-! ## text D2 -/
open PySem.Builtin PySem.Builtin.Str PySem.StrLaws
set_option maxRecDepth 100000
set_option maxHeartbeats 400000
namespace Mine
noncomputable abbrev rhoW (ns : List Int) : Rho := [("script", V.lst ns), ("numbers", V.obj 0), ("told", V.obj 2)]
theorem law_ok {n : Nat} {ns : List Int} (hz : ns.length ≤ sizeLine) (H : Holds (nums6 ns)) : ∃ σ', FnOk (n + 40) 281 [.lst ns] [] [] (.at (.bool true)) σ' := by
  have h5z : (10 : Nat) ≤ sizeLine := by decide
  generalize hN : nums6 ns = NS at H
  have hNl : NS.length = 6 := hN ▸ nums6_len ns
  have hNb : ∀ x ∈ NS, x < 32 := hN ▸ nums6_lt ns
  have hnum := law_numbers (n := n + 38) (σ := []) (ns := ns) rfl hz
  rw [nums6_it, hN] at hnum
  have hf : ∀ i < 5, rowM NS i < 32 := fun i _ => rowM_lt NS i
  have hw := walkB hf 5 (Nat.le_refl _)
  have hrows : ∀ {σ : List Ob}, Cl σ → objL σ 0 = some (NS.map natI) → FnOk (n + 39) 235 [.obj 0] [] σ (.v (.obj σ.length)) (σ ++ [.list (rowsT (rowM NS))]) := fun hc ho => law_rows (n := n + 38) hc ho hNl hNb
  refine ⟨W6 NS, fn_okB at281 (bind281 _) (show (["script"] : List Str).Nodup from by decide) (by rfl) ?_⟩
  -- numbers
  refine BodyOk.cons (ρ₁ := [("script", V.lst ns), ("numbers", V.obj 0)]) (σ₁ := W1 NS) (ExOk.assign (r := .new (NS.map natI)) (EvOk.callG (f := 230) rfl rfl (by kernel_rfl) rfl keep230 (EvsOk.cons (r := .v (.lst ns)) rfl (EvOk.name (X := .lst ns) rfl rfl rfl rfl) EvsOk.nil) hnum) rfl rfl (by decide) rfl) ?_
  -- told
  refine BodyOk.cons (ρ₁ := rhoW ns) (σ₁ := W3 NS) (ExOk.assign (r := .new (rowsT (rowM NS))) (EvOk.callG (f := 240) rfl rfl (by kernel_rfl) rfl keep240 (EvsOk.cons (r := .v (.obj 1)) (σ₁ := W2 NS) rfl (EvOk.callG (f := 235) rfl rfl (by kernel_rfl) rfl keep235 (EvsOk.cons (r := .v (.obj 0)) rfl (EvOk.name (X := .obj 0) rfl rfl rfl rfl) EvsOk.nil) (hrows (cl1 NS) rfl)) (EvsOk.cons (r := .at (.int ((NS.sum : Nat) : Int))) (σ₁ := W2 NS) rfl (EvOk.callB (id := "sum") rfl rfl (by kernel_rfl) rfl (EvsOk.cons (r := .v (.obj 0)) rfl (EvOk.name (X := .obj 0) rfl rfl rfl rfl) EvsOk.nil) ?_) EvsOk.nil)) (law_told (n := n + 19) (odd := NS.sum) (cl2 NS) rfl hf)) rfl rfl (by decide) rfl) ?_
  · rw [← sum_nat]
    exact BiOk.sum (l := NS.map natI) rfl (intsIt_nat NS)
  -- told != rows
  refine BodyOk.skip (σ₁ := W4 NS) (TrOk.cmpR (a := .v (.obj 2)) (b := .v (.obj 3)) (σ₁ := W3 NS) (by omega) (EvOk.name (X := .obj 2) rfl rfl rfl rfl) (EvOk.callG (f := 235) rfl rfl (by kernel_rfl) rfl keep235 (EvsOk.cons (r := .v (.obj 0)) rfl (EvOk.name (X := .obj 0) rfl rfl rfl rfl) EvsOk.nil) (hrows (cl3 NS) rfl)) ?_ rfl) ?_
  · rw [cmpR_obj (fun y => by cases y <;> rfl)]
    exact cmpD_ne_strs (okS_rows (rowM NS)) (by rw [← rowsT_strs]; rfl) (by rw [← rowsT_strs]; rfl)
  -- book
  refine BodyOk.cons (ρ₁ := rhoW ns ++ ([("book", V.obj 4)] : Rho)) (σ₁ := W5 NS) (ExOk.assign (r := .v (.obj 4)) (make_hdr (n := n + 37) (σ := W4 NS) rfl) rfl rfl (by decide) rfl) ?_
  -- fallen
  refine BodyOk.cons (ρ₁ := rhoW ns ++ ([("book", V.obj 4), ("fallen", V.obj 6)] : Rho)) (σ₁ := W6 NS) (ExOk.assign (r := .v (.obj 6)) (EvOk.callG (f := 252) rfl rfl (by kernel_rfl) rfl keep252 (EvsOk.cons (r := .v (.obj 2)) rfl (EvOk.name (X := .obj 2) rfl rfl rfl rfl) (EvsOk.cons (r := .v (.obj 4)) rfl (EvOk.name (X := .obj 4) rfl rfl rfl rfl) EvsOk.nil)) (law_fallen (n := n + 19) (bk5 NS) hf)) rfl rfl (by decide) rfl) ?_
  have hlit : ∀ c, FnOk (n + 39) 264 [.obj 2, .str (sub c)] [] (W6 NS) (.at (.str (sub (litM (rowM NS) c)))) (W6 NS) := fun c => law_lit (n := n + 9) (cl6 NS) (told6 NS)
  -- nothing that fell turns a lamp
  have ez : ((((elim (rowM NS) 5).2.map subI).map V.it).filter fun _ => false).map (fun X => strI (strOf X)) = [] := by
    rw [List.filter_eq_nil_iff.mpr (fun _ _ => by decide)]; rfl
  refine BodyOk.skip (σ₁ := W6 NS) (TrOk.bool (AllOk.goOr (σ₁ := W6 NS) (TrOk.cmp (a := .obj 6) (b := .none) (EvOk.name (X := .obj 6) rfl rfl rfl rfl) (EvOk.const rfl) rfl rfl) (AllOk.goOr (σ₁ := W6 NS) (TrOk.cmpR (a := .new []) (b := .new []) (σ₁ := W6 NS) (by omega) ?_ (EvOk.list (Vs := []) (l := []) EvsOk.nil rfl (by decide)) (by rw [cmpR_new]; exact cmpD_ne_strs (l := []) (fun _ h => by cases h) rfl rfl) rfl) AllOk.nil))) ?_
  · rw [← ez]
    refine EvOk.comp (src := .lst 6) (p := fun _ => false) (f := fun X => strI (strOf X)) (compS (by rfl)) (IterOk.list (r := .v (.obj 6)) (EvOk.name (X := .obj 6) rfl rfl rfl rfl) rfl (objL_get (fallen6 NS))) (srcL_obj (fallen6 NS)) ?_ (fun _ _ => rfl) ?_ (fun _ _ h => by cases h)
    · rw [List.length_map, List.length_map]
      have := hw.len
      omega
    · intro X hX
      obtain ⟨y, hy, rfl⟩ := List.mem_map.mp hX
      obtain ⟨w, hw', rfl⟩ := List.mem_map.mp hy
      refine TrOk.cmp (a := .str (sub (litM (rowM NS) w))) (b := .str "") (EvOk.callG (f := 264) rfl rfl (by kernel_rfl) rfl keep264 (EvsOk.cons (r := .v (.obj 2)) rfl (EvOk.name (X := .obj 2) rfl rfl rfl rfl) (EvsOk.cons (r := .at (.str (sub w))) rfl (EvOk.name (X := .str (sub w)) rfl rfl rfl rfl) EvsOk.nil)) (hlit w)) (EvOk.const rfl) ?_ rfl
      rw [H.zero w hw', sub_zero]; rfl
  -- own
  refine BodyOk.cons (ρ₁ := rhoW ns ++ ([("book", V.obj 4), ("fallen", V.obj 6), ("own", V.str (sub (diagM (rowM NS))))] : Rho)) (σ₁ := W6 NS) (ExOk.assign (r := .at (.str (sub (diagM (rowM NS))))) ?_ rfl rfl (by decide) rfl) ?_
  · unfold diagM
    rw [← join_abcL]
    refine EvOk.joinNew (l := (abcL ((rowM NS 0).testBit 0) ((rowM NS 1).testBit 1) ((rowM NS 2).testBit 2) ((rowM NS 3).testBit 3) ((rowM NS 4).testBit 4)).map strI) (cl6 NS) (fun env => by rfl) rfl ?_ (strsIt_mapI _) (joinOk_abcL _ _ _ _ _)
    have eo : (((List.range 5).map fun i => V.str (ch (97 + i))).filter fun X => (rowM NS (codeV X - 97)).testBit (codeV X - 97)).map (fun X => strI (strOf X)) = (abcL ((rowM NS 0).testBit 0) ((rowM NS 1).testBit 1) ((rowM NS 2).testBit 2) ((rowM NS 3).testBit 3) ((rowM NS 4).testBit 4)).map strI := by
      rw [← filt5 (fun i => (rowM NS i).testBit i), List.filter_map, List.map_map, List.map_map]
      have e1 : ((fun X => (rowM NS (codeV X - 97)).testBit (codeV X - 97)) ∘ fun i : Nat => V.str (ch (97 + i))) = fun i => (rowM NS i).testBit i := by
        funext i
        show (rowM NS (97 + i - 97)).testBit (97 + i - 97) = _
        rw [show 97 + i - 97 = i by omega]
      rw [e1]; rfl
    rw [← eo]
    refine EvOk.comp (src := .str "abcde") (p := fun X => (rowM NS (codeV X - 97)).testBit (codeV X - 97)) (f := fun X => strI (strOf X)) (compS (by rfl)) (IterOk.str (EvOk.const rfl)) (by rw [abc_src, abc_range]) (by rw [List.length_map, List.length_range]; omega) (fun _ _ => rfl) ?_ ?_
    · intro X hX
      obtain ⟨i, hi, rfl⟩ := mem_rngX (g := fun i => V.str (ch (97 + i))) hX
      show TrOk _ _ _ _ _ ((rowM NS (97 + i - 97)).testBit (97 + i - 97)) _
      rw [show 97 + i - 97 = i by omega]
      refine TrOk.cmp (a := .str (ch (97 + i))) (b := .str (sub (rowM NS i))) (EvOk.name (X := .str (ch (97 + i))) rfl rfl rfl rfl) (EvOk.sub (r := .v (.obj 2)) (i := .int (i : Nat)) (X := .str (sub (rowM NS i))) (EvOk.name (X := .obj 2) rfl rfl rfl rfl) (EvOk.methB (r0 := .at (.str "abcde")) (id := "str.index") (fun env => by rfl) rfl (EvOk.const rfl) (MbOk.str fun M A s pl Q E t h => GM.index h) (EvsOk.cons (r := .at (.str (ch (97 + i)))) rfl (EvOk.name (X := .str (ch (97 + i))) rfl rfl rfl rfl) EvsOk.nil) (BiOk.atoms (ats := [.str "abcde", .str (ch (97 + i))]) rfl ?_)) (idx_obj (i := i) (x := strI (sub (rowM NS i))) (told6 NS) ?_ (by omega))) ?_ rfl
      · show (match occurrences "abcde" (ch (97 + i)) 0 (Str.ofString "abcde").length 1 with | i :: _ => some (At.int i) | [] => none) = _
        rw [index_abc i hi]
      · unfold rowsT
        rw [List.getElem?_map, List.getElem?_range hi]; rfl
      · show some (isIn (sub (rowM NS i)) (ch (97 + i))) = _
        rw [isIn_sub _ hi]
    · intro X hX _
      obtain ⟨i, hi, rfl⟩ := mem_rngX (g := fun i => V.str (ch (97 + i))) hX
      exact EvOk.name (X := .str (ch (97 + i))) rfl rfl rfl rfl
  -- its choice
  obtain ⟨c0, hch, hl0⟩ := H.own
  have hcho := law_choice (n := n + 19) (m := diagM (rowM NS)) (cl6 NS) (hd6 NS) hw.ok (maskQ_lt _ _ _ _ _)
  rw [hch] at hcho
  refine BodyOk.cons (ρ₁ := rhoW ns ++ ([("book", V.obj 4), ("fallen", V.obj 6), ("own", V.str (sub (diagM (rowM NS)))), ("choice", V.str (sub c0))] : Rho)) (σ₁ := W6 NS) (ExOk.assign (r := .at (.str (sub c0))) (EvOk.callG (f := 259) rfl rfl (by kernel_rfl) rfl keep259 (EvsOk.cons (r := .at (.str (sub (diagM (rowM NS))))) rfl (EvOk.name (X := .str (sub (diagM (rowM NS)))) rfl rfl rfl rfl) (EvsOk.cons (r := .v (.obj 4)) rfl (EvOk.name (X := .obj 4) rfl rfl rfl rfl) EvsOk.nil)) hcho) rfl rfl (by decide) rfl) ?_
  have hl1 := hlit c0
  rw [hl0] at hl1
  refine BodyOk.skip (σ₁ := W6 NS) (TrOk.bool (AllOk.goOr (σ₁ := W6 NS) (TrOk.cmp (a := .str (sub c0)) (b := .none) (EvOk.name (X := .str (sub c0)) rfl rfl rfl rfl) (EvOk.const rfl) rfl rfl) (AllOk.goOr (σ₁ := W6 NS) (TrOk.cmp (a := .str (sub (diagM (rowM NS)))) (b := .str (sub (diagM (rowM NS)))) (EvOk.callG (f := 264) rfl rfl (by kernel_rfl) rfl keep264 (EvsOk.cons (r := .v (.obj 2)) rfl (EvOk.name (X := .obj 2) rfl rfl rfl rfl) (EvsOk.cons (r := .at (.str (sub c0))) rfl (EvOk.name (X := .str (sub c0)) rfl rfl rfl rfl) EvsOk.nil)) hl1) (EvOk.name (X := .str (sub (diagM (rowM NS)))) rfl rfl rfl rfl) (by show some (sub (diagM (rowM NS)) != sub (diagM (rowM NS))) = _; rw [bne_self_eq_false]) rfl) AllOk.nil))) ?_
  -- what comes
  have hcm := law_comes (n := n + 8) (b := boardM (NS.getD 5 0)) (cl6 NS) (told6 NS) (hd6 NS) hw.ok (fallen6 NS) (by have := hw.len; omega) (maskQ_lt _ _ _ _ _) H.comes
  refine BodyOk.ret (ExOk.ret (EvOk.callG (f := 276) rfl rfl (by kernel_rfl) rfl keep276 (EvsOk.cons (r := .v (.obj 2)) rfl (EvOk.name (X := .obj 2) rfl rfl rfl rfl) (EvsOk.cons (r := .v (.obj 4)) rfl (EvOk.name (X := .obj 4) rfl rfl rfl rfl) (EvsOk.cons (r := .v (.obj 6)) rfl (EvOk.name (X := .obj 6) rfl rfl rfl rfl) (EvsOk.cons (r := .at (.str (sub (boardM (NS.getD 5 0))))) (σ₁ := W6 NS) rfl ?_ EvsOk.nil)))) hcm))
  unfold boardM
  rw [← join_abcL]
  refine EvOk.joinNew (l := (abcL ((NS.getD 5 0).testBit 0) ((NS.getD 5 0).testBit 1) ((NS.getD 5 0).testBit 2) ((NS.getD 5 0).testBit 3) ((NS.getD 5 0).testBit 4)).map strI) (cl6 NS) (fun env => by rfl) rfl ?_ (strsIt_mapI _) (joinOk_abcL _ _ _ _ _)
  rw [← comp5 (fun k => (NS.getD 5 0).testBit k)]
  refine EvOk.comp (src := .rng 5) (p := fun X => (NS.getD 5 0).testBit (natOf X)) (f := ltrI) (compS (by rfl)) (IterOk.rng (N := 5) rfl rfl (EvOk.const rfl) (by decide) (by decide)) rfl (by rw [List.length_map, List.length_range]; omega) (fun _ _ => rfl) ?_ ?_
  · intro X hX
    obtain ⟨j, hj5, rfl⟩ := mem_rng5 hX
    have e := fdiv_bit (NS.getD 5 0) j
    show TrOk _ _ _ _ _ ((NS.getD 5 0).testBit j) _
    refine TrOk.cmp (a := .int ((((NS.getD 5 0 : Nat) : Int).fdiv ((2 : Int) ^ j)).fmod 2)) (b := .int 1) (EvOk.bin (a := .int (((NS.getD 5 0 : Nat) : Int).fdiv ((2 : Int) ^ j))) (b := .int 2) (EvOk.bin (a := .int ((NS.getD 5 0 : Nat) : Int)) (b := .int ((2 : Int) ^ j))
      (EvOk.sub (r := .v (.obj 0)) (i := .int 5) (X := .int ((NS.getD 5 0 : Nat) : Int)) (EvOk.name (X := .obj 0) rfl rfl rfl rfl) (EvOk.const rfl) (idx_obj (i := 5) (x := natI (NS.getD 5 0)) (nums6' NS) ?_ (by decide))) (EvOk.bin (a := .int 2) (b := .int (j : Nat)) (EvOk.const rfl) (EvOk.name (X := .int (j : Nat)) rfl rfl rfl rfl) ?_) ?_) (EvOk.const rfl) (by rfl)) (EvOk.const rfl) (by show some _ = some _; rw [e]) rfl
    · rw [List.getElem?_map, List.getD_eq_getElem?_getD, List.getElem?_eq_getElem (by omega)]; rfl
    · show (if _ then _ else _) = _
      rw [if_pos ⟨by omega, by omega, by decide⟩, Int.toNat_natCast]
    · show (if _ then _ else _) = _
      have hp := pyl ((NS.getD 5 0 : Nat) : Int) j hj5
      have h0 : ((2 : Int) ^ j) ≠ 0 := by
        have : (0 : Int) < (2 : Int) ^ j := Int.pow_pos (by decide)
        omega
      generalize ((2 : Int) ^ j) = q at hp h0
      rw [hp, if_neg (by simp [h0])]
  · intro X hX _
    obtain ⟨j, hj5, rfl⟩ := mem_rng5 hX
    refine EvOk.sub (r := .at (.str "abcde")) (i := .int (j : Int)) (EvOk.const rfl) (EvOk.name (X := .int (j : Int)) rfl rfl rfl rfl) ?_
    show (strAt "abcde" (j : Int)).map (fun y => V.str y) = some (V.it (strI (ch (97 + j))))
    have q := letter_at j hj5
    generalize strAt "abcde" (j : Int) = z at q
    subst q
    rfl
end Mine
end
section
/-! ## text M1 -/
open PySem.Builtin PySem.Builtin.Str PySem.StrLaws
set_option maxRecDepth 100000
set_option maxHeartbeats 400000
namespace Mine
/-! sums of bits -/
noncomputable def bs : Nat → (Nat → Bool) → Bool
  | 0, _ => false
  | n + 1, g => bs n g ^^ g n
theorem bs_congr {g h : Nat → Bool} : ∀ n, (∀ i, i < n → g i = h i) → bs n g = bs n h
  | 0, _ => rfl
  | n + 1, e => by
    show (bs n g ^^ g n) = (bs n h ^^ h n)
    rw [bs_congr n fun i hi => e i (by omega), e n (by omega)]
theorem bs_false : ∀ n, bs n (fun _ => false) = false
  | 0 => rfl
  | n + 1 => by show (bs n _ ^^ false) = false; rw [bs_false n]; rfl
theorem bs_xor (g h : Nat → Bool) : ∀ n, bs n (fun i => g i ^^ h i) = (bs n g ^^ bs n h)
  | 0 => rfl
  | n + 1 => by
    show (bs n _ ^^ (g n ^^ h n)) = ((bs n g ^^ g n) ^^ (bs n h ^^ h n))
    rw [bs_xor g h n]
    cases bs n g <;> cases bs n h <;> cases g n <;> cases h n <;> rfl
theorem bs_and (b : Bool) (g : Nat → Bool) : ∀ n, bs n (fun i => b && g i) = (b && bs n g)
  | 0 => by cases b <;> rfl
  | n + 1 => by
    show (bs n _ ^^ (b && g n)) = (b && (bs n g ^^ g n))
    rw [bs_and b g n]
    cases b <;> cases bs n g <;> cases g n <;> rfl
theorem bs_swap (g : Nat → Nat → Bool) (m : Nat) : ∀ n, bs n (fun i => bs m (fun j => g i j)) = bs m (fun j => bs n (fun i => g i j))
  | 0 => (bs_false m).symm
  | n + 1 => by
    show (bs n _ ^^ bs m (fun j => g n j)) = bs m (fun j => bs n (fun i => g i j) ^^ g n j)
    rw [bs_swap g m n, bs_xor]
theorem bs_quad (x : Nat → Bool) (A : Nat → Nat → Bool) : ∀ n, (∀ i j, i < n → j < n → A i j = A j i) → bs n (fun i => x i && bs n (fun j => x j && A i j)) = bs n (fun i => x i && A i i)
  | 0, _ => rfl
  | n + 1, hA => by
    have ih := bs_quad x A n fun i j hi hj => hA i j (by omega) (by omega)
    show (bs n (fun i => x i && (bs n (fun j => x j && A i j) ^^ (x n && A i n))) ^^ (x n && (bs n (fun j => x j && A n j) ^^ (x n && A n n)))) = (bs n (fun i => x i && A i i) ^^ (x n && A n n))
    have e1 : bs n (fun i => x i && (bs n (fun j => x j && A i j) ^^ (x n && A i n))) = (bs n (fun i => x i && bs n (fun j => x j && A i j)) ^^ (x n && bs n (fun i => x i && A n i))) := by
      rw [← bs_and, ← bs_xor]
      refine bs_congr n fun i hi => ?_
      rw [hA i n (by omega) (by omega)]
      cases x i <;> cases x n <;> cases A n i <;> cases bs n (fun j => x j && A i j) <;> rfl
    rw [e1, ih]
    cases bs n (fun i => x i && A i i) <;> cases x n <;> cases bs n (fun j => x j && A n j) <;> cases A n n <;> rfl
/-! words, boards -/
noncomputable def dot (w b : Nat) : Bool := bs 5 fun i => w.testBit i && b.testBit i
theorem dot_xor (w a b : Nat) : dot w (a ^^^ b) = (dot w a ^^ dot w b) := by
  unfold dot
  rw [← bs_xor]
  refine bs_congr 5 fun i _ => ?_
  rw [Nat.testBit_xor]
  cases w.testBit i <;> cases a.testBit i <;> cases b.testBit i <;> rfl
theorem dot_zero (w : Nat) : dot w 0 = false := by
  unfold dot
  rw [← bs_false 5]
  refine bs_congr 5 fun i _ => ?_
  rw [Nat.zero_testBit, Bool.and_false]
theorem oddM_dot : ∀ w : Nat, w < 32 → ∀ b : Nat, b < 32 → oddM w b = dot w b := by decide +kernel
noncomputable def symF (f : Nat → Nat) : Prop := ∀ i j, i < 5 → j < 5 → (f i).testBit j = (f j).testBit i
/-- the switches of c turn just m -/
structure Comb (f : Nat → Nat) (c m : Nat) : Prop where
  lt : m < 32
  bit : ∀ j, j < 5 → m.testBit j = bs 5 fun i => c.testBit i && (f i).testBit j
theorem Comb.xor {f : Nat → Nat} {c m c' m' : Nat} (h : Comb f c m) (h' : Comb f c' m') : Comb f (c ^^^ c') (m ^^^ m') := by
  refine ⟨xor_lt h.lt h'.lt, fun j hj => ?_⟩
  rw [Nat.testBit_xor, h.bit j hj, h'.bit j hj, ← bs_xor]
  refine bs_congr 5 fun i _ => ?_
  rw [Nat.testBit_xor]
  cases c.testBit i <;> cases c'.testBit i <;> cases (f i).testBit j <;> rfl
theorem Comb.zero {f : Nat → Nat} : Comb f 0 0 := ⟨by decide, fun j _ => by
  rw [Nat.zero_testBit, ← bs_false 5]
  refine bs_congr 5 fun i _ => ?_
  rw [Nat.zero_testBit, Bool.false_and]⟩
theorem bs_pick (g : Nat → Bool) (k : Nat) : ∀ n, bs n (fun i => decide (k = i) && g i) = (decide (k < n) && g k)
  | 0 => by simp [bs]
  | n + 1 => by
    show (bs n _ ^^ (decide (k = n) && g n)) = _
    rw [bs_pick g k n]
    rcases Nat.lt_trichotomy k n with h | h | h
    · rw [decide_eq_true h, decide_eq_true (show k < n + 1 by omega), decide_eq_false (show ¬ k = n by omega)]; simp
    · subst h
      rw [decide_eq_false (Nat.lt_irrefl k), decide_eq_true (Nat.lt_succ_self k), decide_eq_true rfl]; simp
    · rw [decide_eq_false (show ¬ k < n by omega), decide_eq_false (show ¬ k < n + 1 by omega), decide_eq_false (show ¬ k = n by omega)]; simp
theorem Comb.one {f : Nat → Nat} {k : Nat} (hk : k < 5) (hf : f k < 32) : Comb f (2 ^ k) (f k) := ⟨hf, fun j hj => by
  have e := bs_pick (fun i => (f i).testBit j) k 5
  rw [decide_eq_true hk, Bool.true_and] at e
  rw [← e]
  refine bs_congr 5 fun i _ => ?_
  rw [Nat.testBit_two_pow]⟩
theorem dot_sym {f : Nat → Nat} (hs : symF f) {c m w v : Nat} (h : Comb f c m) (h' : Comb f w v) : dot w m = dot c v := by
  have e1 : dot w m = bs 5 fun j => bs 5 fun i => w.testBit j && (c.testBit i && (f i).testBit j) := by
    unfold dot
    refine bs_congr 5 fun j hj => ?_
    rw [h.bit j hj, bs_and]
  have e2 : dot c v = bs 5 fun i => bs 5 fun j => c.testBit i && (w.testBit j && (f j).testBit i) := by
    unfold dot
    refine bs_congr 5 fun i hi => ?_
    rw [h'.bit i hi, bs_and]
  rw [e1, e2, bs_swap]
  refine bs_congr 5 fun i hi => bs_congr 5 fun j hj => ?_
  rw [hs i j hi hj]
  cases w.testBit j <;> cases c.testBit i <;> rfl
theorem dot_diag {f : Nat → Nat} (hs : symF f) {w v : Nat} (h : Comb f w v) : dot w v = bs 5 fun i => w.testBit i && (f i).testBit i := by
  rw [← bs_quad (fun i => w.testBit i) (fun i j => (f i).testBit j) 5 (fun i j hi hj => hs i j hi hj)]
  unfold dot
  refine bs_congr 5 fun j hj => ?_
  show _ = (w.testBit j && bs 5 fun i => w.testBit i && (f j).testBit i)
  rw [h.bit j hj]
  congr 1
  refine bs_congr 5 fun i hi => ?_
  rw [hs i j hi hj]
theorem maskQ_bit : ∀ a b c d e : Bool, (maskQ a b c d e).testBit 0 = a ∧ (maskQ a b c d e).testBit 1 = b ∧ (maskQ a b c d e).testBit 2 = c ∧ (maskQ a b c d e).testBit 3 = d ∧ (maskQ a b c d e).testBit 4 = e := by decide +kernel
theorem maskQ_fn (q : Nat → Bool) : ∀ i, i < 5 → (maskQ (q 0) (q 1) (q 2) (q 3) (q 4)).testBit i = q i := by
  have h := maskQ_bit (q 0) (q 1) (q 2) (q 3) (q 4)
  intro i hi
  match i, hi with
  | 0, _ => exact h.1
  | 1, _ => exact h.2.1
  | 2, _ => exact h.2.2.1
  | 3, _ => exact h.2.2.2.1
  | 4, _ => exact h.2.2.2.2
theorem eq_mask {m : Nat} (hm : m < 32) (q : Nat → Bool) (h : ∀ j, j < 5 → m.testBit j = q j) : maskQ (q 0) (q 1) (q 2) (q 3) (q 4) = m := by
  rw [← h 0 (by decide), ← h 1 (by decide), ← h 2 (by decide), ← h 3 (by decide), ← h 4 (by decide)]
  exact mask_bits m hm
theorem count_ltr : ∀ m : Nat, m < 32 → ∀ j : Nat, j < 5 → (ltr m).count (97 + j) = (m.testBit j).toNat := by decide +kernel
theorem odd_bs {f : Nat → Nat} (hf : ∀ i < 5, f i < 32) {c j : Nat} (hj : j < 5) : oddQ f c j = bs 5 fun i => c.testBit i && (f i).testBit j := by
  have key : ∀ n, n ≤ 5 → decide (((((List.range n).filter fun i => c.testBit i).flatMap fun i => ltr (f i)).count (97 + j)) % 2 = 1) = bs n fun i => c.testBit i && (f i).testBit j := by
    intro n
    induction n with
    | zero => intro _; rfl
    | succ n ih =>
      intro hn
      show _ = (bs n (fun i => c.testBit i && (f i).testBit j) ^^ (c.testBit n && (f n).testBit j))
      rw [← ih (by omega), List.range_succ, List.filter_append, List.flatMap_append, List.count_append]
      generalize (((List.range n).filter fun i => c.testBit i).flatMap fun i => ltr (f i)).count (97 + j) = a
      rw [List.filter_cons, List.filter_nil]
      cases hc : c.testBit n with
      | false => rw [if_neg (by decide)]; simp
      | true =>
        rw [if_pos rfl, List.flatMap_cons, List.flatMap_nil, List.append_nil, count_ltr (f n) (hf n (by omega)) j hj]
        rcases Nat.mod_two_eq_zero_or_one a with h | h <;> cases (f n).testBit j <;> simp [Bool.toNat, h, Nat.add_mod]
  exact key 5 (Nat.le_refl _)
theorem Comb.lit {f : Nat → Nat} (hf : ∀ i < 5, f i < 32) {c m : Nat} (h : Comb f c m) : litM f c = m := by
  unfold litM
  refine eq_mask h.lt (fun j => oddQ f c j) fun j hj => ?_
  show _ = oddQ f c j
  rw [odd_bs hf hj, h.bit j hj]
end Mine
end
section
/-! ## text M2 -/
open PySem.Builtin PySem.Builtin.Str PySem.StrLaws
set_option maxRecDepth 100000
set_option maxHeartbeats 400000
namespace Mine
theorem nodup_len : ∀ (n : Nat) (l : List Nat), l.Nodup → (∀ x ∈ l, x < n) → l.length ≤ n
  | 0, l, _, h => by
    cases l with
    | nil => exact Nat.le_refl _
    | cons a l => exact absurd (h a (.head _)) (Nat.not_lt_zero _)
  | n + 1, l, hn, h => by
    by_cases hm : n ∈ l
    · have h1 := nodup_len n (l.erase n) (hn.erase n) fun x hx => by
        have hx' := (hn.mem_erase_iff).mp hx
        have := h x hx'.2
        omega
      rw [List.length_erase_of_mem hm] at h1
      omega
    · have h1 := nodup_len n l hn fun x hx => by
        have := h x hx
        have : x ≠ n := fun e => hm (e ▸ hx)
        omega
      omega
theorem top_log : ∀ k : Nat, k < 5 → ∀ w : Nat, w < 32 → 2 ^ k ≤ w → w < 2 ^ (k + 1) → w.log2 = k := by decide +kernel
theorem log_small : ∀ k : Nat, k < 6 → ∀ w : Nat, w < 32 → w ≠ 0 → w < 2 ^ k → w.log2 < k := by decide +kernel
theorem dot_top : ∀ w : Nat, w < 32 → ∀ m : Nat, m < 32 → w ≠ 0 → m ≠ 0 → w.log2 = low m → dot w m = true := by decide +kernel
theorem red_comb {f : Nat → Nat} {B : List BkE} {m0 : Nat} (hB : ∀ e ∈ B, Comb f e.c e.m) : ∀ (d m c : Nat), Comb f c (m ^^^ m0) → Comb f (red B d m c).2 ((red B d m c).1 ^^^ m0)
  | 0, m, c, h => h
  | d + 1, m, c, h => by
    unfold red
    split
    · exact h
    · split
      · exact h
      · rename_i b hb
        refine red_comb hB d _ _ ?_
        have h2 := h.xor (hB b (look_mem hb).1)
        have e : m ^^^ m0 ^^^ b.m = m ^^^ b.m ^^^ m0 := by rw [Nat.xor_assoc, Nat.xor_comm m0, ← Nat.xor_assoc]
        rwa [e] at h2
structure Inv (f : Nat → Nat) (k : Nat) (S : List BkE × List Nat) : Prop where
  walk : WalkB k S
  comb : ∀ e ∈ S.1, Comb f e.c e.m
  fall : ∀ w ∈ S.2, Comb f w 0
  small : ∀ w ∈ S.2, w ≠ 0 ∧ w < 2 ^ k
  lows : (S.1.map fun e => low e.m).Nodup
  tops : (S.2.map Nat.log2).Nodup
theorem nodup_snoc {l : List Nat} {a : Nat} (h : l.Nodup) (ha : a ∉ l) : (l ++ [a]).Nodup := by
  rw [List.nodup_append]
  refine ⟨h, by simp, fun x hx y hy => ?_⟩
  rw [List.mem_singleton.mp hy]
  rintro rfl
  exact ha hx
theorem inv_elim {f : Nat → Nat} (hf : ∀ i < 5, f i < 32) : ∀ k ≤ 5, Inv f k (elim f k)
  | 0, _ => ⟨walkB hf 0 (by omega), fun _ h => (nomatch h), fun _ h => (nomatch h), fun _ h => (nomatch h), by simp [elim], by simp [elim]⟩
  | k + 1, hk => by
    have ih := inv_elim hf k (by omega)
    have hw := walkB hf (k + 1) hk
    have p1 := pow_le32 (show k < 5 by omega)
    have p2 : 2 ^ k < 2 ^ (k + 1) := Nat.pow_lt_pow_right (by decide) (by omega)
    have hfk := hf k (by omega)
    have ht := red_top (show k < 5 by omega) ih.walk.top 5 (f k) (2 ^ k) (Nat.le_refl _) p2
    have hl := red_lt ih.walk.ok 5 (f k) (2 ^ k) hfk (by omega)
    have he := red_end ih.walk.ok 5 (f k) (2 ^ k) (Nat.le_refl _) hfk (by rw [Nat.sub_self]; exact Nat.mod_one _)
    have hc := red_comb (m0 := 0) ih.comb 5 (f k) (2 ^ k) (by rw [Nat.xor_zero]; exact Comb.one (by omega) hfk)
    rw [Nat.xor_zero] at hc
    have e : elim f (k + 1) = stepB f k (elim f k) := rfl
    rw [e] at hw ⊢
    unfold stepB at hw ⊢
    generalize elim f k = S at ih ht hl he hc hw
    generalize red S.1 5 (f k) (2 ^ k) = r at ht hl he hc hw
    by_cases h0 : r.1 = 0
    · rw [if_pos h0] at hw ⊢
      rw [h0] at hc
      refine ⟨hw, ih.comb, fun w hw' => ?_, fun w hw' => ?_, ih.lows, ?_⟩
      · rcases List.mem_append.mp hw' with h | h
        · exact ih.fall w h
        · rw [List.mem_singleton.mp h]; exact hc
      · rcases List.mem_append.mp hw' with h | h
        · have := ih.small w h; exact ⟨this.1, by omega⟩
        · rw [List.mem_singleton.mp h]
          have : 0 < 2 ^ k := Nat.pos_of_ne_zero (by simp)
          exact ⟨by omega, ht.2⟩
      · show ((S.2 ++ [r.2]).map Nat.log2).Nodup
        rw [List.map_append]
        refine nodup_snoc ih.tops fun hm => ?_
        obtain ⟨w, hw', e⟩ := List.mem_map.mp hm
        have h1 := ih.small w hw'
        have h2 := log_small k (by omega) w (ih.walk.w w hw') h1.1 h1.2
        rw [e, top_log k (by omega) r.2 hl.2 ht.1 ht.2] at h2
        omega
    · rw [if_neg h0] at hw ⊢
      refine ⟨hw, fun e he' => ?_, ih.fall, fun w hw' => ?_, ?_, ih.tops⟩
      · rcases List.mem_append.mp he' with h | h
        · exact ih.comb e h
        · rw [List.mem_singleton.mp h]; exact hc
      · have := ih.small w hw'; exact ⟨this.1, by omega⟩
      · show (List.map (fun e : BkE => low e.m) (S.1 ++ [(⟨k, r.1, r.2⟩ : BkE)])).Nodup
        rw [List.map_append]
        refine nodup_snoc ih.lows fun hm => ?_
        obtain ⟨b, hb, eb⟩ := List.mem_map.mp hm
        have hn : look S.1 (low r.1) = none := by
          rcases he with h | h
          · exact absurd h h0
          · exact h
        unfold look at hn
        rw [List.find?_eq_none] at hn
        exact hn b hb (by simpa using eb)
section
variable {f : Nat → Nat} (hf : ∀ i < 5, f i < 32) (hs : symF f)
include hf hs
theorem apart {S : List BkE × List Nat} (h : Inv f 5 S) : ∀ e ∈ S.1, ∀ w ∈ S.2, low e.m ≠ w.log2 := by
  intro e he w hw q
  have o := h.walk.ok.ok e he
  have t := dot_top w (h.walk.w w hw) e.m o.1 (h.small w hw).1 o.2.1 q.symm
  rw [dot_sym hs (h.comb e he) (h.fall w hw), dot_zero] at t
  cases t
/-- each place is a first lamp of the book or a last switch of what fell -/
theorem covers {S : List BkE × List Nat} (h : Inv f 5 S) {p : Nat} (hp : p < 5) : (∃ e ∈ S.1, low e.m = p) ∨ ∃ w ∈ S.2, w.log2 = p := by
  have hnd : (S.1.map (fun e => low e.m) ++ S.2.map Nat.log2).Nodup := by
    rw [List.nodup_append]
    refine ⟨h.lows, h.tops, fun x hx y hy q => ?_⟩
    obtain ⟨e, he, rfl⟩ := List.mem_map.mp hx
    obtain ⟨w, hw, rfl⟩ := List.mem_map.mp hy
    exact apart hf hs h e he w hw q
  have hlt : ∀ x ∈ S.1.map (fun e => low e.m) ++ S.2.map Nat.log2, x < 5 := by
    intro x hx
    rcases List.mem_append.mp hx with hx | hx
    · obtain ⟨e, he, rfl⟩ := List.mem_map.mp hx
      exact low_lt e.m (h.walk.ok.ok e he).1
    · obtain ⟨w, hw, rfl⟩ := List.mem_map.mp hx
      exact log_small 5 (by decide) w (h.walk.w w hw) (h.small w hw).1 (h.small w hw).2
  have hlen : (S.1.map (fun e => low e.m) ++ S.2.map Nat.log2).length = 5 := by
    rw [List.length_append, List.length_map, List.length_map]; exact h.walk.len
  by_cases hm : p ∈ S.1.map (fun e => low e.m) ++ S.2.map Nat.log2
  · rcases List.mem_append.mp hm with hm | hm
    · obtain ⟨e, he, q⟩ := List.mem_map.mp hm; exact .inl ⟨e, he, q⟩
    · obtain ⟨w, hw, q⟩ := List.mem_map.mp hm; exact .inr ⟨w, hw, q⟩
  · have := nodup_len 5 (p :: (S.1.map (fun e => low e.m) ++ S.2.map Nat.log2)) (List.nodup_cons.mpr ⟨hm, hnd⟩) fun x hx => by
      rcases List.mem_cons.mp hx with rfl | hx
      · exact hp
      · exact hlt x hx
    rw [List.length_cons, hlen] at this
    omega
theorem stuck {S : List BkE × List Nat} (h : Inv f 5 S) {b : Nat} (hb : b < 32) (hn : chosen S.1 b = none) : ∃ w ∈ S.2, dot w b = true := by
  have hr := red_lt h.walk.ok 5 b 0 hb (by decide)
  have he := red_end h.walk.ok 5 b 0 (Nat.le_refl _) hb (by rw [Nat.sub_self]; exact Nat.mod_one _)
  have hc := red_comb (m0 := b) h.comb 5 b 0 (by rw [Nat.xor_self]; exact Comb.zero)
  unfold chosen at hn
  generalize red S.1 5 b 0 = r at hr he hc hn
  have h0 : r.1 ≠ 0 := fun e => by rw [if_pos e] at hn; cases hn
  have hl : look S.1 (low r.1) = none := by
    rcases he with h | h
    · exact absurd h h0
    · exact h
  rcases covers hf hs h (low_lt r.1 hr.1) with ⟨e, he', q⟩ | ⟨w, hw, q⟩
  · unfold look at hl
    rw [List.find?_eq_none] at hl
    exact absurd (by simpa using q) (hl e he')
  · refine ⟨w, hw, ?_⟩
    have t := dot_top w (h.walk.w w hw) r.1 hr.1 (h.small w hw).1 h0 q
    have z := dot_sym hs hc (h.fall w hw)
    rw [dot_zero, dot_xor, t] at z
    cases hd : dot w b with
    | true => rfl
    | false => rw [hd] at z; cases z
theorem chosen_comb {S : List BkE × List Nat} (h : Inv f 5 S) {b c : Nat} (hb : b < 32) (hn : chosen S.1 b = some c) : Comb f c b := by
  have hc := red_comb (m0 := b) h.comb 5 b 0 (by rw [Nat.xor_self]; exact Comb.zero)
  unfold chosen at hn
  split at hn
  · rename_i h0
    rw [h0, Nat.zero_xor] at hc
    cases hn
    exact hc
  · cases hn
end
theorem rowM_bit (NS : List Nat) (i : Nat) : ∀ j, j < 5 → (rowM NS i).testBit j = turnB NS i j := maskQ_fn (turnB NS i)
theorem turnB_sym (NS : List Nat) (i j : Nat) : turnB NS i j = turnB NS j i := by
  unfold turnB
  rw [Nat.min_comm]
  congr 1
  split <;> split <;> omega
theorem rowM_sym (NS : List Nat) : symF (rowM NS) := fun i j hi hj => by
  rw [rowM_bit NS i j hj, rowM_bit NS j i hi, turnB_sym]
theorem holds_all (NS : List Nat) : Holds NS := by
  have hf : ∀ i < 5, rowM NS i < 32 := fun i _ => rowM_lt NS i
  have hs := rowM_sym NS
  have h := inv_elim hf 5 (Nat.le_refl _)
  have hbm : boardM (NS.getD 5 0) < 32 := maskQ_lt _ _ _ _ _
  have hdm : diagM (rowM NS) < 32 := maskQ_lt _ _ _ _ _
  refine ⟨fun w hw => (h.fall w hw).lit hf, ?_, ⟨fun hn => ?_, fun c hc => ?_⟩⟩
  · cases hch : chosen (elim (rowM NS) 5).1 (diagM (rowM NS)) with
    | some c => exact ⟨c, rfl, (chosen_comb hf hs h hdm hch).lit hf⟩
    | none =>
      obtain ⟨w, hw, t⟩ := stuck hf hs h hdm hch
      have z := dot_diag hs (h.fall w hw)
      rw [dot_zero] at z
      have e : dot w (diagM (rowM NS)) = bs 5 fun i => w.testBit i && (rowM NS i).testBit i := by
        unfold dot
        refine bs_congr 5 fun i hi => ?_
        congr 1
        exact maskQ_fn (fun i => (rowM NS i).testBit i) i hi
      rw [e, ← z] at t
      cases t
  · obtain ⟨w, hw, t⟩ := stuck hf hs h hbm hn
    exact ⟨w, hw, by rw [oddM_dot w (h.walk.w w hw) _ hbm]; exact t⟩
  · have hcb := chosen_comb hf hs h hbm hc
    refine ⟨fun w hw => ?_, hcb.lit hf⟩
    rw [oddM_dot w (h.walk.w w hw) _ hbm, dot_sym hs hcb (h.fall w hw), dot_zero]
end Mine
end
section
/-! ## text G1 -/
set_option maxRecDepth 100000
set_option maxHeartbeats 400000
namespace Mine
noncomputable def cutH (h : Heap) (n : Nat) : Heap := { h with objs := h.objs.extract 0 n }
theorem cut_in {h : Heap} {n a : Nat} (ha : a < n) : (cutH h n).get? a = h.get? a := by
  unfold cutH Heap.get?
  have e : (h.objs.extract 0 n)[a]? = h.objs[a]? := by
    rw [Array.getElem?_extract]
    by_cases hs : a < h.objs.size
    · rw [if_pos (by omega)]; simp
    · rw [if_neg (by omega), Array.getElem?_eq_none (by omega)]
  dsimp only
  rw [e]
theorem cut_out {h : Heap} {n a : Nat} (ha : n ≤ a) : (cutH h n).get? a = none := by
  refine Heap.get?_none_of_le ?_
  show (h.objs.extract 0 n).size ≤ a
  rw [Array.size_extract]; omega
theorem cut_keeps {h : Heap} {n : Nat} (a : Nat) (o : Obj) (e : (cutH h n).get? a = some o) : h.get? a = some o := by
  rcases Nat.lt_or_ge a n with q | q
  · rwa [cut_in q] at e
  · rw [cut_out q] at e; cases e
theorem look_mem' {a : Nat} {o : Obj} (K : List (Nat × Obj)) (h : K.lookup a = some o) : (a, o) ∈ K := by
  induction K with
  | nil => cases h
  | cons p K ih =>
    obtain ⟨b, q⟩ := p
    rw [List.lookup_cons] at h
    by_cases e : a = b
    · subst e
      rw [beq_self_eq_true] at h
      simp only [Option.some.injEq] at h
      rw [h]
      exact List.mem_cons_self
    · rw [beq_false_of_ne e] at h
      exact List.mem_cons_of_mem _ (ih h)
theorem asF_small : asF.all (fun a => decide (a < 282)) = true := by decide +kernel
theorem bs_cut {w : World} {h : Heap} {mb : Str → Option Value} (K : (KF w.params).In h) (hb : h.Ns builtinsNs mb) (hbb : ∀ x : Str, x ≠ "__name__" → mb x = bootBuiltins x) (hn : h.NoLimit) : Bs w (cutH h 282) := by
  have h281 : 281 < h.objs.size := Heap.lt_size (K 281 (ob281 w.params) (by rfl))
  refine ⟨fun a o e => ?_, ⟨mb, hb.at' fun o e => ?_, hbb⟩, hn.at fun o e => ?_, ?_⟩
  · have hm : a ∈ asF := by
      rw [asF_eq w.params]
      exact List.mem_map.mpr ⟨(a, o), look_mem' _ e, rfl⟩
    have := of_decide_eq_true (List.all_eq_true.mp asF_small a hm)
    rw [cut_in this]; exact K a o e
  · rw [cut_in (by decide)]; exact e
  · rw [cut_in (by decide)]; exact e
  · show (h.objs.extract 0 282).size = 282
    rw [Array.size_extract]; omega
theorem law_at {w : World} {h : Heap} {mg : Str → Option Value} {a : Nat} (K : (KF w.params).In h) (hg : h.Ns mainGlobals mg) (hmg : mg "law" = some (.ref a)) : a = 281 := by
  obtain ⟨o, es, ep, e1, e2, _, e3⟩ := hg
  have e4 : h.get? mainGlobals = some (ob3 w.params) := K _ _ (by kernel_rfl)
  rw [e4] at e1
  have e0 := Option.some.inj e1
  have e6 : gEnt w.params = es := by
    unfold gEnt
    rw [e0]
    unfold entsOf
    obtain ⟨c, d, dd, sl⟩ := o
    simp only at e2
    subst e2
    rfl
  have e5 : nsFind (gEnt w.params) "law" = some (.ref a) := by rw [e6]; exact (e3 _).trans hmg
  have e7 : nsFind (gEnt w.params) "law" = some (.ref 281) := by kernel_rfl
  rw [e7] at e5
  exact (Value.ref.inj (Option.some.inj e5)).symm
theorem ints_all2 : ∀ {vs : List Value} {ns : List Int}, IntsAre vs ns → All2 (fun v i => ∃ t, v = Value.int i t) vs ns
  | _, _, .nil => .nil
  | _, _, .cons _ t r => .cons ⟨t, rfl⟩ (ints_all2 r)
theorem main_call {w : World} {s₁ : Shared} {mg mb : Str → Option Value} {a L : Nat} {vs : List Value} {ns : List Int} {k : Nat} {Q E : Value → Shared → Prop} (K : (KF w.params).In s₁.heap) (hg : s₁.heap.Ns mainGlobals mg) (hmg : mg "law" = some (.ref a))
    (hb : s₁.heap.Ns builtinsNs mb) (hbb : ∀ x : Str, x ≠ "__name__" → mb x = bootBuiltins x) (hn : s₁.heap.NoLimit) (hL : s₁.heap.get? L = some (listObj vs k)) (hI : IntsAre vs ns) (hl : ns.length ≤ 63)
    (hq : ∀ s', (∀ b o, s₁.heap.get? b = some o → s'.heap.get? b = some o) → s'.os = s₁.os → s'.gens = s₁.gens → Q (.bool true) s') : wpAny (Mo w) callerA (call (.ref a) [.ref L]) Q E s₁ := by
  obtain rfl := law_at K hg hmg
  have hz : ns.length ≤ sizeLine := by
    have : (63 : Nat) ≤ sizeLine := by decide
    omega
  obtain ⟨σ', hfn⟩ := law_ok (n := 0) hz (holds_all (nums6 ns))
  have hbs := bs_cut K hb hbb hn
  refine hfn.call (B := cutH s₁.heap 282) (α := []) hbs ⟨rfl, by decide +kernel, by decide +kernel⟩ ⟨cut_keeps, fun p h => (nomatch h), .nil, fun i j p q h => by simp at h⟩ (.cons ⟨L, vs, k, rfl, fun ⟨p, hp, _⟩ => (nomatch hp), hL, ints_all2 hI⟩ .nil) .nil fun v α' s' p r => ?_
  have hv : v = .bool true := r
  subst hv
  obtain ⟨h', tk, e⟩ := p.like
  refine hq s' (fun b o hb => p.frm b o hb (fun ⟨q, hq, _⟩ => (nomatch hq)) id) ?_ ?_
  · rw [e]
  · rw [e]
end Mine
end
section
/-! ## text G2 -/
set_option maxRecDepth 100000
set_option maxHeartbeats 4000000
namespace Mine
noncomputable abbrev HK : Hook := kHook KF asF (fun P => asF_eq P)
theorem promised_ok : RL.row.toRowW.promised := ⟨[.list []], by decide +kernel, by decide +kernel⟩
theorem walk_ok {d : DefRec} {kwd : List (Str × Expr)} (hd0 : d.name = "law") : WalkO vw loose (XL vw []) HK.says RL.row.toRowW d kwd fun f vs => PySem.call f vs := by
  intro w s₀ s₁ mg mb G Y a o pm cd doc dV kV ho hd hcd hD hmg hg args vals as hpre hlay hrd hwl hlo
  have KX : (KF w.params).In s₁.heap := kIn_of (e := fun P => asF_eq P) Y
  have T := G.T
  have hmg' : mg "law" = some (.ref a) := hd0 ▸ hmg
  have Tg := T.g
  have Tb := T.b
  have Tn := T.nolimit
  have Tbb := T.builtins
  clear T G Y hcd hD ho hd hmg
  wrow_args hpre hlay hrd hwl hlo
  rename_i ns _ _ _ _ _ _ _ L vs _ hL _ w1 _ hI _ hle _
  have hl : ns.length ≤ 63 := by omega
  obtain ⟨vs', k, hob, hI'⟩ : ∃ vs' k, s₁.heap.get? L = some (listObj vs' k) ∧ IntsAre vs' ns := by
    obtain ⟨o, e1, e2, k, e3⟩ := hL
    cases w1 with
    | @list _ vs' _ e4 _ =>
      have e5 := e4
      rw [e1] at e4
      have e6 := Option.some.inj e4
      subst e6
      have e7 : vs'.toArray = vs.toArray := by simp only [Data.seq.injEq] at e3; exact e3.1
      have e8 : vs' = vs := by simpa using congrArg Array.toList e7
      subst e8
      exact ⟨vs', 0, e5, hI⟩
  refine main_call KX Tg hmg' Tb Tbb Tn hob hI' hl fun s' hk ho hgn => ?_
  refine GoodW.toG ⟨.inl ⟨.bool true, .bool true, [], rfl, fun _ => rfl, .bool true, ?_, fun _ => ⟨.nil, fun _ h => (nomatch h)⟩⟩, hk, ho, by rw [hgn, hg]⟩
  kernel_rfl
theorem holds_ok : RL.Holds := by
  refine holds_law saidOk fun said => PySem.W.holds_open (q := vw) (loose := loose) (Xt := fun s => xlAt vw [] s && recOk (RowW.records RL.row.toRowW) s) (XP := XL vw []) (Yf := HK.obs) (Ya := HK.val) (YP := HK.says) (N := 3768) leftOk HK.of HK.keeps (fun s e => xl_of s (Bool.and_eq_true_iff.mp e).1) XL.keeps (by rfl) (by rfl) (by rfl) (fun s e => recFacts_of (Bool.and_eq_true_iff.mp e).2) (by rfl) said (by decide +kernel) ⟨rfl, rfl, rfl, rfl, rfl, by decide +kernel⟩ promised_ok (walk_ok rfl)
end Mine
end
theorem PySem.Challenge.cw_ux0029_01_holds : PySem.Challenge.rw_ux0029_01.Holds :=
  Mine.holds_ok
