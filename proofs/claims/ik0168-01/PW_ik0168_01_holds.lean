import PyProof.Rows.All
import Wide.All
import OpenK.AllK
import Wide.FinOn
import KE.KEqSeq
import Wide.Once
import PySem.Challenge.RW_ik0168_01
open PySem PySem.W PyProof.Rows
set_option Elab.async false
set_option maxRecDepth 100000
set_option maxHeartbeats 0
set_option compiler.extract_closed false
set_option rowWalk.seconds 0
namespace Mine
/-- a statement of the row's text, at its top or in a class there -/
noncomputable def stAt (i : Nat) : Stmt := PySem.Challenge.pw_ik0168_01.main.body.getD i (.Pass ⟨0, 0, 0, 0⟩)
noncomputable def stIn (i j : Nat) : Stmt := match stAt i with
  | .ClassDef _ _ _ b _ _ _ _ _ _ _ => b.getD j (.Pass ⟨0, 0, 0, 0⟩)
  | s => s
/-- what a def's statement makes -/
noncomputable def fo (s : Stmt) (q : Str) (g : Addr) (cl : List (Str × Addr)) (d k doc pm : Value) (an : Option Addr) (c ct : Value) (b : Addr) : Data := match DefRec.ofStmt? s with
  | some ⟨name, args, body, sc, _⟩ => .func ⟨name, q, args, .stmts body, sc, g, cl, d, k, doc, pm, an, c, ct, b⟩
  | none => .plain
end Mine
namespace Mine
noncomputable def kb38 (_ : Params) : Obj := { cls := Value.type "tuple", data := Data.seq #[] }
noncomputable def kb40 (_ : Params) : Obj := { cls := Value.type "tuple", data := Data.seq #[Value.str (Str.ofString "k") 327] }
noncomputable def kb41 (_ : Params) : Obj := { cls := Value.type "tuple", data := Data.seq #[] }
noncomputable def kb43 (_ : Params) : Obj := { cls := Value.type "code", data := Data.fields #[Value.str (Str.ofString "_wall") 324, Value.str (Str.ofString "_wall") 325, Value.str (Str.ofString "/claim/cut.py") 326, Value.int 3 0, Value.int 1 0, Value.int 0 0, Value.int 0 0, Value.int 3 0, Value.ref 38, Value.bool true, Value.int 318 0, Value.ref 39, Value.none, Value.ref 40, Value.ref 41, Value.ref 42, Value.int 328 0, Value.int 3 0, Value.str (Str.ofString "/claim/cut.py") 329] }
noncomputable def kb44 (_ : Params) : Obj := { cls := Value.type "function", data := fo (stAt 2) (Str.ofString "_wall") 3 [] Value.none Value.none Value.none (Value.str (Str.ofString "__main__") 164) none (Value.ref 43) Value.none 0 }
noncomputable def kb45 (_ : Params) : Obj := { cls := Value.type "tuple", data := Data.seq #[] }
noncomputable def kb47 (_ : Params) : Obj := { cls := Value.type "tuple", data := Data.seq #[Value.str (Str.ofString "text") 336] }
noncomputable def kb48 (_ : Params) : Obj := { cls := Value.type "tuple", data := Data.seq #[] }
noncomputable def kb50 (_ : Params) : Obj := { cls := Value.type "code", data := Data.fields #[Value.str (Str.ofString "_raise_serialization_error") 333, Value.str (Str.ofString "_raise_serialization_error") 334, Value.str (Str.ofString "/claim/cut.py") 335, Value.int 7 0, Value.int 1 0, Value.int 0 0, Value.int 0 0, Value.int 3 0, Value.ref 45, Value.bool true, Value.int 318 0, Value.ref 46, Value.none, Value.ref 47, Value.ref 48, Value.ref 49, Value.int 337 0, Value.int 7 0, Value.str (Str.ofString "/claim/cut.py") 338] }
noncomputable def kb51 (_ : Params) : Obj := { cls := Value.type "function", data := fo (stAt 4) (Str.ofString "_raise_serialization_error") 3 [] Value.none Value.none Value.none (Value.str (Str.ofString "cpy313.xml.etree.ElementTree") 331) none (Value.ref 50) Value.none 0 }
noncomputable def kb52 (_ : Params) : Obj := { cls := Value.type "tuple", data := Data.seq #[] }
noncomputable def kb54 (_ : Params) : Obj := { cls := Value.type "tuple", data := Data.seq #[Value.str (Str.ofString "text") 343] }
noncomputable def kb55 (_ : Params) : Obj := { cls := Value.type "tuple", data := Data.seq #[] }
noncomputable def kb57 (_ : Params) : Obj := { cls := Value.type "code", data := Data.fields #[Value.str (Str.ofString "_escape_cdata") 340, Value.str (Str.ofString "_escape_cdata") 341, Value.str (Str.ofString "/claim/cut.py") 342, Value.int 9 0, Value.int 1 0, Value.int 0 0, Value.int 0 0, Value.int 3 0, Value.ref 52, Value.bool true, Value.int 318 0, Value.ref 53, Value.none, Value.ref 54, Value.ref 55, Value.ref 56, Value.int 344 0, Value.int 9 0, Value.str (Str.ofString "/claim/cut.py") 345] }
noncomputable def kb58 (_ : Params) : Obj := { cls := Value.type "function", data := fo (stAt 5) (Str.ofString "_escape_cdata") 3 [] Value.none Value.none Value.none (Value.str (Str.ofString "cpy313.xml.etree.ElementTree") 331) none (Value.ref 57) Value.none 0 }
noncomputable def kb59 (_ : Params) : Obj := { cls := Value.type "tuple", data := Data.seq #[] }
noncomputable def kb61 (_ : Params) : Obj := { cls := Value.type "tuple", data := Data.seq #[Value.str (Str.ofString "text") 350] }
noncomputable def kb62 (_ : Params) : Obj := { cls := Value.type "tuple", data := Data.seq #[] }
noncomputable def kb64 (_ : Params) : Obj := { cls := Value.type "code", data := Data.fields #[Value.str (Str.ofString "_escape_attrib") 347, Value.str (Str.ofString "_escape_attrib") 348, Value.str (Str.ofString "/claim/cut.py") 349, Value.int 20 0, Value.int 1 0, Value.int 0 0, Value.int 0 0, Value.int 3 0, Value.ref 59, Value.bool true, Value.int 318 0, Value.ref 60, Value.none, Value.ref 61, Value.ref 62, Value.ref 63, Value.int 351 0, Value.int 20 0, Value.str (Str.ofString "/claim/cut.py") 352] }
noncomputable def kb65 (_ : Params) : Obj := { cls := Value.type "function", data := fo (stAt 6) (Str.ofString "_escape_attrib") 3 [] Value.none Value.none Value.none (Value.str (Str.ofString "cpy313.xml.etree.ElementTree") 331) none (Value.ref 64) Value.none 0 }
noncomputable def kb66 (_ : Params) : Obj := { cls := Value.type "tuple", data := Data.seq #[] }
noncomputable def kb68 (_ : Params) : Obj := { cls := Value.type "tuple", data := Data.seq #[Value.str (Str.ofString "text") 357] }
noncomputable def kb69 (_ : Params) : Obj := { cls := Value.type "tuple", data := Data.seq #[] }
noncomputable def kb71 (_ : Params) : Obj := { cls := Value.type "code", data := Data.fields #[Value.str (Str.ofString "_escape_attrib_html") 354, Value.str (Str.ofString "_escape_attrib_html") 355, Value.str (Str.ofString "/claim/cut.py") 356, Value.int 39 0, Value.int 1 0, Value.int 0 0, Value.int 0 0, Value.int 3 0, Value.ref 66, Value.bool true, Value.int 318 0, Value.ref 67, Value.none, Value.ref 68, Value.ref 69, Value.ref 70, Value.int 358 0, Value.int 39 0, Value.str (Str.ofString "/claim/cut.py") 359] }
noncomputable def kb72 (_ : Params) : Obj := { cls := Value.type "function", data := fo (stAt 7) (Str.ofString "_escape_attrib_html") 3 [] Value.none Value.none Value.none (Value.str (Str.ofString "cpy313.xml.etree.ElementTree") 331) none (Value.ref 71) Value.none 0 }
noncomputable def kb73 (_ : Params) : Obj := { cls := Value.type "tuple", data := Data.seq #[] }
noncomputable def kb75 (_ : Params) : Obj := { cls := Value.type "tuple", data := Data.seq #[Value.str (Str.ofString "text") 364] }
noncomputable def kb76 (_ : Params) : Obj := { cls := Value.type "tuple", data := Data.seq #[] }
noncomputable def kb78 (_ : Params) : Obj := { cls := Value.type "code", data := Data.fields #[Value.str (Str.ofString "_escape_cdata_c14n") 361, Value.str (Str.ofString "_escape_cdata_c14n") 362, Value.str (Str.ofString "/claim/cut.py") 363, Value.int 50 0, Value.int 1 0, Value.int 0 0, Value.int 0 0, Value.int 3 0, Value.ref 73, Value.bool true, Value.int 318 0, Value.ref 74, Value.none, Value.ref 75, Value.ref 76, Value.ref 77, Value.int 365 0, Value.int 50 0, Value.str (Str.ofString "/claim/cut.py") 366] }
noncomputable def kb79 (_ : Params) : Obj := { cls := Value.type "function", data := fo (stAt 8) (Str.ofString "_escape_cdata_c14n") 3 [] Value.none Value.none Value.none (Value.str (Str.ofString "cpy313.xml.etree.ElementTree") 331) none (Value.ref 78) Value.none 0 }
noncomputable def kb80 (_ : Params) : Obj := { cls := Value.type "tuple", data := Data.seq #[] }
noncomputable def kb82 (_ : Params) : Obj := { cls := Value.type "tuple", data := Data.seq #[Value.str (Str.ofString "text") 371] }
noncomputable def kb83 (_ : Params) : Obj := { cls := Value.type "tuple", data := Data.seq #[] }
noncomputable def kb85 (_ : Params) : Obj := { cls := Value.type "code", data := Data.fields #[Value.str (Str.ofString "_escape_attrib_c14n") 368, Value.str (Str.ofString "_escape_attrib_c14n") 369, Value.str (Str.ofString "/claim/cut.py") 370, Value.int 63 0, Value.int 1 0, Value.int 0 0, Value.int 0 0, Value.int 3 0, Value.ref 80, Value.bool true, Value.int 318 0, Value.ref 81, Value.none, Value.ref 82, Value.ref 83, Value.ref 84, Value.int 372 0, Value.int 63 0, Value.str (Str.ofString "/claim/cut.py") 373] }
noncomputable def kb86 (_ : Params) : Obj := { cls := Value.type "function", data := fo (stAt 9) (Str.ofString "_escape_attrib_c14n") 3 [] Value.none Value.none Value.none (Value.str (Str.ofString "cpy313.xml.etree.ElementTree") 331) none (Value.ref 85) Value.none 0 }
noncomputable def kb90 (_ : Params) : Obj := { cls := Value.type "tuple", data := Data.seq #[Value.int 14 0, Value.int 14 0, Value.int 4 0, Value.int 1 0, Value.int 1 0, Value.int 9 0, Value.int 0 0, Value.int 64 0, Value.int 0 0, Value.int 1342177280 0, Value.int 0 0, Value.int 0 0, Value.int 0 0, Value.int 0 0, Value.int 0 0, Value.int 17 0, Value.int 0 0, Value.int 13 0, Value.int 11 0, Value.int 9 0, Value.int 0 0, Value.int 64 0, Value.int 0 0, Value.int 1342177280 0, Value.int 0 0, Value.int 0 0, Value.int 0 0, Value.int 0 0, Value.int 0 0, Value.int 17 0, Value.int 1 0, Value.int 1 0] }
noncomputable def kb91 (_ : Params) : Obj := { cls := Value.type "re.Pattern", data := Data.fields #[Value.str (Str.ofString "([&~|])") 376, Value.int 32 411, Value.int 1 0, Value.none, Value.none, Value.ref 90, Value.int 0 0] }
noncomputable def kb93 (_ : Params) : Obj := { cls := Value.type "dict", data := Data.dict #[{ hash := 40, key := Value.int 40 416, val := Value.str (Str.ofString "\\(") 420 }, { hash := 41, key := Value.int 41 422, val := Value.str (Str.ofString "\\)") 426 }, { hash := 91, key := Value.int 91 428, val := Value.str (Str.ofString "\\[") 432 }, { hash := 93, key := Value.int 93 434, val := Value.str (Str.ofString "\\]") 438 }, { hash := 123, key := Value.int 123 440, val := Value.str (Str.ofString "\\{") 444 }, { hash := 125, key := Value.int 125 446, val := Value.str (Str.ofString "\\}") 450 }, { hash := 63, key := Value.int 63 452, val := Value.str (Str.ofString "\\?") 456 }, { hash := 42, key := Value.int 42 458, val := Value.str (Str.ofString "\\*") 462 }, { hash := 43, key := Value.int 43 464, val := Value.str (Str.ofString "\\+") 468 }, { hash := 45, key := Value.int 45 470, val := Value.str (Str.ofString "\\-") 474 }, { hash := 124, key := Value.int 124 476, val := Value.str (Str.ofString "\\|") 480 }, { hash := 94, key := Value.int 94 482, val := Value.str (Str.ofString "\\^") 486 }, { hash := 36, key := Value.int 36 488, val := Value.str (Str.ofString "\\$") 492 }, { hash := 92, key := Value.int 92 494, val := Value.str (Str.ofString "\\\\") 498 }, { hash := 46, key := Value.int 46 500, val := Value.str (Str.ofString "\\.") 504 }, { hash := 38, key := Value.int 38 506, val := Value.str (Str.ofString "\\&") 510 }, { hash := 126, key := Value.int 126 512, val := Value.str (Str.ofString "\\~") 516 }, { hash := 35, key := Value.int 35 518, val := Value.str (Str.ofString "\\#") 522 }, { hash := 32, key := Value.int 32 524, val := Value.str (Str.ofString "\\ ") 528 }, { hash := 9, key := Value.int 9 530, val := Value.str (Str.ofString "\\\t") 534 }, { hash := 10, key := Value.int 10 536, val := Value.str (Str.ofString "\\\n") 540 }, { hash := 13, key := Value.int 13 542, val := Value.str (Str.ofString "\\\x0d") 546 }, { hash := 11, key := Value.int 11 548, val := Value.str (Str.ofString "\\\x0b") 552 }, { hash := 12, key := Value.int 12 554, val := Value.str (Str.ofString "\\\x0c") 558 }] 24 }
noncomputable def ob0 (P : Params) : Obj := { cls := Value.type "dict", data := Data.dict #[{ hash := PyData.keyHash P (Str.ofString "__name__"), key := Value.str (Str.ofString "__name__") 1, val := Value.str (Str.ofString "builtins") 160 }, { hash := PyData.keyHash P (Str.ofString "__doc__"), key := Value.str (Str.ofString "__doc__") 2, val := Value.builtin "builtins.__doc__:str#opaque" }, { hash := PyData.keyHash P (Str.ofString "__package__"), key := Value.str (Str.ofString "__package__") 3, val := Value.builtin "builtins.__package__:str#opaque" }, { hash := PyData.keyHash P (Str.ofString "__loader__"), key := Value.str (Str.ofString "__loader__") 4, val := Value.builtin "builtins.__loader__:shared#opaque" }, { hash := PyData.keyHash P (Str.ofString "__spec__"), key := Value.str (Str.ofString "__spec__") 5, val := Value.builtin "builtins.__spec__#opaque" }, { hash := PyData.keyHash P (Str.ofString "__build_class__"), key := Value.str (Str.ofString "__build_class__") 6, val := Value.builtin "__build_class__" }, { hash := PyData.keyHash P (Str.ofString "__import__"), key := Value.str (Str.ofString "__import__") 7, val := Value.builtin "__import__" }, { hash := PyData.keyHash P (Str.ofString "abs"), key := Value.str (Str.ofString "abs") 8, val := Value.builtin "abs" }, { hash := PyData.keyHash P (Str.ofString "all"), key := Value.str (Str.ofString "all") 9, val := Value.builtin "all" }, { hash := PyData.keyHash P (Str.ofString "any"), key := Value.str (Str.ofString "any") 10, val := Value.builtin "any" }, { hash := PyData.keyHash P (Str.ofString "ascii"), key := Value.str (Str.ofString "ascii") 11, val := Value.builtin "ascii" }, { hash := PyData.keyHash P (Str.ofString "bin"), key := Value.str (Str.ofString "bin") 12, val := Value.builtin "bin" }, { hash := PyData.keyHash P (Str.ofString "breakpoint"), key := Value.str (Str.ofString "breakpoint") 13, val := Value.builtin "breakpoint" }, { hash := PyData.keyHash P (Str.ofString "callable"), key := Value.str (Str.ofString "callable") 14, val := Value.builtin "callable" }, { hash := PyData.keyHash P (Str.ofString "chr"), key := Value.str (Str.ofString "chr") 15, val := Value.builtin "chr" }, { hash := PyData.keyHash P (Str.ofString "compile"), key := Value.str (Str.ofString "compile") 16, val := Value.builtin "compile" }, { hash := PyData.keyHash P (Str.ofString "delattr"), key := Value.str (Str.ofString "delattr") 17, val := Value.builtin "delattr" }, { hash := PyData.keyHash P (Str.ofString "dir"), key := Value.str (Str.ofString "dir") 18, val := Value.builtin "dir" }, { hash := PyData.keyHash P (Str.ofString "divmod"), key := Value.str (Str.ofString "divmod") 19, val := Value.builtin "divmod" }, { hash := PyData.keyHash P (Str.ofString "eval"), key := Value.str (Str.ofString "eval") 20, val := Value.builtin "eval" }, { hash := PyData.keyHash P (Str.ofString "exec"), key := Value.str (Str.ofString "exec") 21, val := Value.builtin "exec" }, { hash := PyData.keyHash P (Str.ofString "format"), key := Value.str (Str.ofString "format") 22, val := Value.builtin "format" }, { hash := PyData.keyHash P (Str.ofString "getattr"), key := Value.str (Str.ofString "getattr") 23, val := Value.builtin "getattr" }, { hash := PyData.keyHash P (Str.ofString "globals"), key := Value.str (Str.ofString "globals") 24, val := Value.builtin "globals" }, { hash := PyData.keyHash P (Str.ofString "hasattr"), key := Value.str (Str.ofString "hasattr") 25, val := Value.builtin "hasattr" }, { hash := PyData.keyHash P (Str.ofString "hash"), key := Value.str (Str.ofString "hash") 26, val := Value.builtin "hash" }, { hash := PyData.keyHash P (Str.ofString "hex"), key := Value.str (Str.ofString "hex") 27, val := Value.builtin "hex" }, { hash := PyData.keyHash P (Str.ofString "id"), key := Value.str (Str.ofString "id") 28, val := Value.builtin "id" }, { hash := PyData.keyHash P (Str.ofString "input"), key := Value.str (Str.ofString "input") 29, val := Value.builtin "input" }, { hash := PyData.keyHash P (Str.ofString "isinstance"), key := Value.str (Str.ofString "isinstance") 30, val := Value.builtin "isinstance" }, { hash := PyData.keyHash P (Str.ofString "issubclass"), key := Value.str (Str.ofString "issubclass") 31, val := Value.builtin "issubclass" }, { hash := PyData.keyHash P (Str.ofString "iter"), key := Value.str (Str.ofString "iter") 32, val := Value.builtin "iter" }, { hash := PyData.keyHash P (Str.ofString "aiter"), key := Value.str (Str.ofString "aiter") 33, val := Value.builtin "aiter" }, { hash := PyData.keyHash P (Str.ofString "len"), key := Value.str (Str.ofString "len") 34, val := Value.builtin "len" }, { hash := PyData.keyHash P (Str.ofString "locals"), key := Value.str (Str.ofString "locals") 35, val := Value.builtin "locals" }, { hash := PyData.keyHash P (Str.ofString "max"), key := Value.str (Str.ofString "max") 36, val := Value.builtin "max" }, { hash := PyData.keyHash P (Str.ofString "min"), key := Value.str (Str.ofString "min") 37, val := Value.builtin "min" }, { hash := PyData.keyHash P (Str.ofString "next"), key := Value.str (Str.ofString "next") 38, val := Value.builtin "next" }, { hash := PyData.keyHash P (Str.ofString "anext"), key := Value.str (Str.ofString "anext") 39, val := Value.builtin "anext" }, { hash := PyData.keyHash P (Str.ofString "oct"), key := Value.str (Str.ofString "oct") 40, val := Value.builtin "oct" }, { hash := PyData.keyHash P (Str.ofString "ord"), key := Value.str (Str.ofString "ord") 41, val := Value.builtin "ord" }, { hash := PyData.keyHash P (Str.ofString "pow"), key := Value.str (Str.ofString "pow") 42, val := Value.builtin "pow" }, { hash := PyData.keyHash P (Str.ofString "print"), key := Value.str (Str.ofString "print") 43, val := Value.builtin "print" }, { hash := PyData.keyHash P (Str.ofString "repr"), key := Value.str (Str.ofString "repr") 44, val := Value.builtin "repr" }, { hash := PyData.keyHash P (Str.ofString "round"), key := Value.str (Str.ofString "round") 45, val := Value.builtin "round" }, { hash := PyData.keyHash P (Str.ofString "setattr"), key := Value.str (Str.ofString "setattr") 46, val := Value.builtin "setattr" }, { hash := PyData.keyHash P (Str.ofString "sorted"), key := Value.str (Str.ofString "sorted") 47, val := Value.builtin "sorted" }, { hash := PyData.keyHash P (Str.ofString "sum"), key := Value.str (Str.ofString "sum") 48, val := Value.builtin "sum" }, { hash := PyData.keyHash P (Str.ofString "vars"), key := Value.str (Str.ofString "vars") 49, val := Value.builtin "vars" }, { hash := PyData.keyHash P (Str.ofString "None"), key := Value.str (Str.ofString "None") 50, val := Value.none }, { hash := PyData.keyHash P (Str.ofString "Ellipsis"), key := Value.str (Str.ofString "Ellipsis") 51, val := Value.ellipsis }, { hash := PyData.keyHash P (Str.ofString "NotImplemented"), key := Value.str (Str.ofString "NotImplemented") 52, val := Value.notImplemented }, { hash := PyData.keyHash P (Str.ofString "False"), key := Value.str (Str.ofString "False") 53, val := Value.bool false }, { hash := PyData.keyHash P (Str.ofString "True"), key := Value.str (Str.ofString "True") 54, val := Value.bool true }, { hash := PyData.keyHash P (Str.ofString "bool"), key := Value.str (Str.ofString "bool") 55, val := Value.type "bool" }, { hash := PyData.keyHash P (Str.ofString "memoryview"), key := Value.str (Str.ofString "memoryview") 56, val := Value.type "memoryview" }, { hash := PyData.keyHash P (Str.ofString "bytearray"), key := Value.str (Str.ofString "bytearray") 57, val := Value.type "bytearray" }, { hash := PyData.keyHash P (Str.ofString "bytes"), key := Value.str (Str.ofString "bytes") 58, val := Value.type "bytes" }, { hash := PyData.keyHash P (Str.ofString "classmethod"), key := Value.str (Str.ofString "classmethod") 59, val := Value.type "classmethod" }, { hash := PyData.keyHash P (Str.ofString "complex"), key := Value.str (Str.ofString "complex") 60, val := Value.type "complex" }, { hash := PyData.keyHash P (Str.ofString "dict"), key := Value.str (Str.ofString "dict") 61, val := Value.type "dict" }, { hash := PyData.keyHash P (Str.ofString "enumerate"), key := Value.str (Str.ofString "enumerate") 62, val := Value.type "enumerate" }, { hash := PyData.keyHash P (Str.ofString "filter"), key := Value.str (Str.ofString "filter") 63, val := Value.type "filter" }, { hash := PyData.keyHash P (Str.ofString "float"), key := Value.str (Str.ofString "float") 64, val := Value.type "float" }, { hash := PyData.keyHash P (Str.ofString "frozenset"), key := Value.str (Str.ofString "frozenset") 65, val := Value.type "frozenset" }, { hash := PyData.keyHash P (Str.ofString "property"), key := Value.str (Str.ofString "property") 66, val := Value.type "property" }, { hash := PyData.keyHash P (Str.ofString "int"), key := Value.str (Str.ofString "int") 67, val := Value.type "int" }, { hash := PyData.keyHash P (Str.ofString "list"), key := Value.str (Str.ofString "list") 68, val := Value.type "list" }, { hash := PyData.keyHash P (Str.ofString "map"), key := Value.str (Str.ofString "map") 69, val := Value.type "map" }, { hash := PyData.keyHash P (Str.ofString "object"), key := Value.str (Str.ofString "object") 70, val := Value.type "object" }, { hash := PyData.keyHash P (Str.ofString "range"), key := Value.str (Str.ofString "range") 71, val := Value.type "range" }, { hash := PyData.keyHash P (Str.ofString "reversed"), key := Value.str (Str.ofString "reversed") 72, val := Value.type "reversed" }, { hash := PyData.keyHash P (Str.ofString "set"), key := Value.str (Str.ofString "set") 73, val := Value.type "set" }, { hash := PyData.keyHash P (Str.ofString "slice"), key := Value.str (Str.ofString "slice") 74, val := Value.type "slice" }, { hash := PyData.keyHash P (Str.ofString "staticmethod"), key := Value.str (Str.ofString "staticmethod") 75, val := Value.type "staticmethod" }, { hash := PyData.keyHash P (Str.ofString "str"), key := Value.str (Str.ofString "str") 76, val := Value.type "str" }, { hash := PyData.keyHash P (Str.ofString "super"), key := Value.str (Str.ofString "super") 77, val := Value.type "super" }, { hash := PyData.keyHash P (Str.ofString "tuple"), key := Value.str (Str.ofString "tuple") 78, val := Value.type "tuple" }, { hash := PyData.keyHash P (Str.ofString "type"), key := Value.str (Str.ofString "type") 79, val := Value.type "type" }, { hash := PyData.keyHash P (Str.ofString "zip"), key := Value.str (Str.ofString "zip") 80, val := Value.type "zip" }, { hash := PyData.keyHash P (Str.ofString "__debug__"), key := Value.str (Str.ofString "__debug__") 81, val := Value.bool true }, { hash := PyData.keyHash P (Str.ofString "BaseException"), key := Value.str (Str.ofString "BaseException") 82, val := Value.type "BaseException" }, { hash := PyData.keyHash P (Str.ofString "BaseExceptionGroup"), key := Value.str (Str.ofString "BaseExceptionGroup") 83, val := Value.type "BaseExceptionGroup" }, { hash := PyData.keyHash P (Str.ofString "Exception"), key := Value.str (Str.ofString "Exception") 84, val := Value.type "Exception" }, { hash := PyData.keyHash P (Str.ofString "GeneratorExit"), key := Value.str (Str.ofString "GeneratorExit") 85, val := Value.type "GeneratorExit" }, { hash := PyData.keyHash P (Str.ofString "KeyboardInterrupt"), key := Value.str (Str.ofString "KeyboardInterrupt") 86, val := Value.type "KeyboardInterrupt" }, { hash := PyData.keyHash P (Str.ofString "SystemExit"), key := Value.str (Str.ofString "SystemExit") 87, val := Value.type "SystemExit" }, { hash := PyData.keyHash P (Str.ofString "ArithmeticError"), key := Value.str (Str.ofString "ArithmeticError") 88, val := Value.type "ArithmeticError" }, { hash := PyData.keyHash P (Str.ofString "AssertionError"), key := Value.str (Str.ofString "AssertionError") 89, val := Value.type "AssertionError" }, { hash := PyData.keyHash P (Str.ofString "AttributeError"), key := Value.str (Str.ofString "AttributeError") 90, val := Value.type "AttributeError" }, { hash := PyData.keyHash P (Str.ofString "BufferError"), key := Value.str (Str.ofString "BufferError") 91, val := Value.type "BufferError" }, { hash := PyData.keyHash P (Str.ofString "EOFError"), key := Value.str (Str.ofString "EOFError") 92, val := Value.type "EOFError" }, { hash := PyData.keyHash P (Str.ofString "ImportError"), key := Value.str (Str.ofString "ImportError") 93, val := Value.type "ImportError" }, { hash := PyData.keyHash P (Str.ofString "LookupError"), key := Value.str (Str.ofString "LookupError") 94, val := Value.type "LookupError" }, { hash := PyData.keyHash P (Str.ofString "MemoryError"), key := Value.str (Str.ofString "MemoryError") 95, val := Value.type "MemoryError" }, { hash := PyData.keyHash P (Str.ofString "NameError"), key := Value.str (Str.ofString "NameError") 96, val := Value.type "NameError" }, { hash := PyData.keyHash P (Str.ofString "OSError"), key := Value.str (Str.ofString "OSError") 97, val := Value.type "OSError" }, { hash := PyData.keyHash P (Str.ofString "ReferenceError"), key := Value.str (Str.ofString "ReferenceError") 98, val := Value.type "ReferenceError" }, { hash := PyData.keyHash P (Str.ofString "RuntimeError"), key := Value.str (Str.ofString "RuntimeError") 99, val := Value.type "RuntimeError" }, { hash := PyData.keyHash P (Str.ofString "StopAsyncIteration"), key := Value.str (Str.ofString "StopAsyncIteration") 100, val := Value.type "StopAsyncIteration" }, { hash := PyData.keyHash P (Str.ofString "StopIteration"), key := Value.str (Str.ofString "StopIteration") 101, val := Value.type "StopIteration" }, { hash := PyData.keyHash P (Str.ofString "SyntaxError"), key := Value.str (Str.ofString "SyntaxError") 102, val := Value.type "SyntaxError" }, { hash := PyData.keyHash P (Str.ofString "SystemError"), key := Value.str (Str.ofString "SystemError") 103, val := Value.type "SystemError" }, { hash := PyData.keyHash P (Str.ofString "TypeError"), key := Value.str (Str.ofString "TypeError") 104, val := Value.type "TypeError" }, { hash := PyData.keyHash P (Str.ofString "ValueError"), key := Value.str (Str.ofString "ValueError") 105, val := Value.type "ValueError" }, { hash := PyData.keyHash P (Str.ofString "Warning"), key := Value.str (Str.ofString "Warning") 106, val := Value.type "Warning" }, { hash := PyData.keyHash P (Str.ofString "FloatingPointError"), key := Value.str (Str.ofString "FloatingPointError") 107, val := Value.type "FloatingPointError" }, { hash := PyData.keyHash P (Str.ofString "OverflowError"), key := Value.str (Str.ofString "OverflowError") 108, val := Value.type "OverflowError" }, { hash := PyData.keyHash P (Str.ofString "ZeroDivisionError"), key := Value.str (Str.ofString "ZeroDivisionError") 109, val := Value.type "ZeroDivisionError" }, { hash := PyData.keyHash P (Str.ofString "BytesWarning"), key := Value.str (Str.ofString "BytesWarning") 110, val := Value.type "BytesWarning" }, { hash := PyData.keyHash P (Str.ofString "DeprecationWarning"), key := Value.str (Str.ofString "DeprecationWarning") 111, val := Value.type "DeprecationWarning" }, { hash := PyData.keyHash P (Str.ofString "EncodingWarning"), key := Value.str (Str.ofString "EncodingWarning") 112, val := Value.type "EncodingWarning" }, { hash := PyData.keyHash P (Str.ofString "FutureWarning"), key := Value.str (Str.ofString "FutureWarning") 113, val := Value.type "FutureWarning" }, { hash := PyData.keyHash P (Str.ofString "ImportWarning"), key := Value.str (Str.ofString "ImportWarning") 114, val := Value.type "ImportWarning" }, { hash := PyData.keyHash P (Str.ofString "PendingDeprecationWarning"), key := Value.str (Str.ofString "PendingDeprecationWarning") 115, val := Value.type "PendingDeprecationWarning" }, { hash := PyData.keyHash P (Str.ofString "ResourceWarning"), key := Value.str (Str.ofString "ResourceWarning") 116, val := Value.type "ResourceWarning" }, { hash := PyData.keyHash P (Str.ofString "RuntimeWarning"), key := Value.str (Str.ofString "RuntimeWarning") 117, val := Value.type "RuntimeWarning" }, { hash := PyData.keyHash P (Str.ofString "SyntaxWarning"), key := Value.str (Str.ofString "SyntaxWarning") 118, val := Value.type "SyntaxWarning" }, { hash := PyData.keyHash P (Str.ofString "UnicodeWarning"), key := Value.str (Str.ofString "UnicodeWarning") 119, val := Value.type "UnicodeWarning" }, { hash := PyData.keyHash P (Str.ofString "UserWarning"), key := Value.str (Str.ofString "UserWarning") 120, val := Value.type "UserWarning" }, { hash := PyData.keyHash P (Str.ofString "BlockingIOError"), key := Value.str (Str.ofString "BlockingIOError") 121, val := Value.type "BlockingIOError" }, { hash := PyData.keyHash P (Str.ofString "ChildProcessError"), key := Value.str (Str.ofString "ChildProcessError") 122, val := Value.type "ChildProcessError" }, { hash := PyData.keyHash P (Str.ofString "ConnectionError"), key := Value.str (Str.ofString "ConnectionError") 123, val := Value.type "ConnectionError" }, { hash := PyData.keyHash P (Str.ofString "FileExistsError"), key := Value.str (Str.ofString "FileExistsError") 124, val := Value.type "FileExistsError" }, { hash := PyData.keyHash P (Str.ofString "FileNotFoundError"), key := Value.str (Str.ofString "FileNotFoundError") 125, val := Value.type "FileNotFoundError" }, { hash := PyData.keyHash P (Str.ofString "InterruptedError"), key := Value.str (Str.ofString "InterruptedError") 126, val := Value.type "InterruptedError" }, { hash := PyData.keyHash P (Str.ofString "IsADirectoryError"), key := Value.str (Str.ofString "IsADirectoryError") 127, val := Value.type "IsADirectoryError" }, { hash := PyData.keyHash P (Str.ofString "NotADirectoryError"), key := Value.str (Str.ofString "NotADirectoryError") 128, val := Value.type "NotADirectoryError" }, { hash := PyData.keyHash P (Str.ofString "PermissionError"), key := Value.str (Str.ofString "PermissionError") 129, val := Value.type "PermissionError" }, { hash := PyData.keyHash P (Str.ofString "ProcessLookupError"), key := Value.str (Str.ofString "ProcessLookupError") 130, val := Value.type "ProcessLookupError" }, { hash := PyData.keyHash P (Str.ofString "TimeoutError"), key := Value.str (Str.ofString "TimeoutError") 131, val := Value.type "TimeoutError" }, { hash := PyData.keyHash P (Str.ofString "IndentationError"), key := Value.str (Str.ofString "IndentationError") 132, val := Value.type "IndentationError" }, { hash := PyData.keyHash P (Str.ofString "_IncompleteInputError"), key := Value.str (Str.ofString "_IncompleteInputError") 133, val := Value.type "_IncompleteInputError" }, { hash := PyData.keyHash P (Str.ofString "IndexError"), key := Value.str (Str.ofString "IndexError") 134, val := Value.type "IndexError" }, { hash := PyData.keyHash P (Str.ofString "KeyError"), key := Value.str (Str.ofString "KeyError") 135, val := Value.type "KeyError" }, { hash := PyData.keyHash P (Str.ofString "ModuleNotFoundError"), key := Value.str (Str.ofString "ModuleNotFoundError") 136, val := Value.type "ModuleNotFoundError" }, { hash := PyData.keyHash P (Str.ofString "NotImplementedError"), key := Value.str (Str.ofString "NotImplementedError") 137, val := Value.type "NotImplementedError" }, { hash := PyData.keyHash P (Str.ofString "PythonFinalizationError"), key := Value.str (Str.ofString "PythonFinalizationError") 138, val := Value.type "PythonFinalizationError" }, { hash := PyData.keyHash P (Str.ofString "RecursionError"), key := Value.str (Str.ofString "RecursionError") 139, val := Value.type "RecursionError" }, { hash := PyData.keyHash P (Str.ofString "UnboundLocalError"), key := Value.str (Str.ofString "UnboundLocalError") 140, val := Value.type "UnboundLocalError" }, { hash := PyData.keyHash P (Str.ofString "UnicodeError"), key := Value.str (Str.ofString "UnicodeError") 141, val := Value.type "UnicodeError" }, { hash := PyData.keyHash P (Str.ofString "BrokenPipeError"), key := Value.str (Str.ofString "BrokenPipeError") 142, val := Value.type "BrokenPipeError" }, { hash := PyData.keyHash P (Str.ofString "ConnectionAbortedError"), key := Value.str (Str.ofString "ConnectionAbortedError") 143, val := Value.type "ConnectionAbortedError" }, { hash := PyData.keyHash P (Str.ofString "ConnectionRefusedError"), key := Value.str (Str.ofString "ConnectionRefusedError") 144, val := Value.type "ConnectionRefusedError" }, { hash := PyData.keyHash P (Str.ofString "ConnectionResetError"), key := Value.str (Str.ofString "ConnectionResetError") 145, val := Value.type "ConnectionResetError" }, { hash := PyData.keyHash P (Str.ofString "TabError"), key := Value.str (Str.ofString "TabError") 146, val := Value.type "TabError" }, { hash := PyData.keyHash P (Str.ofString "UnicodeDecodeError"), key := Value.str (Str.ofString "UnicodeDecodeError") 147, val := Value.type "UnicodeDecodeError" }, { hash := PyData.keyHash P (Str.ofString "UnicodeEncodeError"), key := Value.str (Str.ofString "UnicodeEncodeError") 148, val := Value.type "UnicodeEncodeError" }, { hash := PyData.keyHash P (Str.ofString "UnicodeTranslateError"), key := Value.str (Str.ofString "UnicodeTranslateError") 149, val := Value.type "UnicodeTranslateError" }, { hash := PyData.keyHash P (Str.ofString "ExceptionGroup"), key := Value.str (Str.ofString "ExceptionGroup") 150, val := Value.type "ExceptionGroup" }, { hash := PyData.keyHash P (Str.ofString "EnvironmentError"), key := Value.str (Str.ofString "EnvironmentError") 151, val := Value.type "OSError" }, { hash := PyData.keyHash P (Str.ofString "IOError"), key := Value.str (Str.ofString "IOError") 152, val := Value.type "OSError" }, { hash := PyData.keyHash P (Str.ofString "open"), key := Value.str (Str.ofString "open") 153, val := Value.builtin "open" }, { hash := PyData.keyHash P (Str.ofString "quit"), key := Value.str (Str.ofString "quit") 154, val := Value.builtin "builtins.quit#opaque" }, { hash := PyData.keyHash P (Str.ofString "exit"), key := Value.str (Str.ofString "exit") 155, val := Value.builtin "builtins.exit#opaque" }, { hash := PyData.keyHash P (Str.ofString "copyright"), key := Value.str (Str.ofString "copyright") 156, val := Value.builtin "builtins.copyright#opaque" }, { hash := PyData.keyHash P (Str.ofString "credits"), key := Value.str (Str.ofString "credits") 157, val := Value.builtin "builtins.credits#opaque" }, { hash := PyData.keyHash P (Str.ofString "license"), key := Value.str (Str.ofString "license") 158, val := Value.builtin "builtins.license#opaque" }, { hash := PyData.keyHash P (Str.ofString "help"), key := Value.str (Str.ofString "help") 159, val := Value.builtin "builtins.help#opaque" }] 159 }
noncomputable def ob1 (P : Params) : Obj := { cls := Value.type "dict", data := Data.dict #[{ hash := PyData.keyHash P (Str.ofString "builtins"), key := Value.str (Str.ofString "builtins") 162, val := Value.ref 4 }, { hash := PyData.keyHash P (Str.ofString "__main__"), key := Value.str (Str.ofString "__main__") 163, val := Value.ref 5 }, { hash := PyData.keyHash P (Str.ofString "_sre"), key := Value.str (Str.ofString "_sre") 244, val := Value.ref 12 }, { hash := PyData.keyHash P (Str.ofString "_collections"), key := Value.str (Str.ofString "_collections") 292, val := Value.ref 30 }] 4 }
noncomputable def ob2 (P : Params) : Obj := { cls := Value.none, data := Data.dict #[{ hash := PyData.keyHash P (Str.ofString "\x69mport.loaded._sre"), key := Value.str (Str.ofString "\x69mport.loaded._sre") 183, val := Value.bool true }, { hash := PyData.keyHash P (Str.ofString "class._frozen_importlib.BuiltinImporter"), key := Value.str (Str.ofString "class._frozen_importlib.BuiltinImporter") 185, val := Value.ref 14 }, { hash := PyData.keyHash P (Str.ofString "watched.\x69mport"), key := Value.str (Str.ofString "watched.\x69mport") 206, val := Value.ref 18 }, { hash := PyData.keyHash P (Str.ofString "class._frozen_importlib.ModuleSpec"), key := Value.str (Str.ofString "class._frozen_importlib.ModuleSpec") 216, val := Value.ref 22 }, { hash := PyData.keyHash P (Str.ofString "sys.modules.booked-epoch"), key := Value.str (Str.ofString "sys.modules.booked-epoch") 245, val := Value.int 4 0 }, { hash := PyData.keyHash P (Str.ofString "\x69mport.later-laid._sre"), key := Value.str (Str.ofString "\x69mport.later-laid._sre") 270, val := Value.bool true }, { hash := PyData.keyHash P (Str.ofString "watched.library"), key := Value.str (Str.ofString "watched.library") 272, val := Value.ref 27 }, { hash := PyData.keyHash P (Str.ofString "watched.library-objects"), key := Value.str (Str.ofString "watched.library-objects") 0, val := Value.str (Str.ofString "\x0c\x1e") 0 }, { hash := PyData.keyHash P (Str.ofString "watched.library-deep._sre"), key := Value.str (Str.ofString "watched.library-deep._sre") 273, val := Value.str (Str.ofString "\x04\x00\x00\x0b\x04\x00\x00\x0b\x04\x00\x00\x03\x04\x00\x00\x0b\x08\x04dict\x02") 0 }, { hash := PyData.keyHash P (Str.ofString "\x69mport.loaded._collections"), key := Value.str (Str.ofString "\x69mport.loaded._collections") 280, val := Value.bool true }, { hash := PyData.keyHash P (Str.ofString "sys.modules.landed._collections"), key := Value.str (Str.ofString "sys.modules.landed._collections") 294, val := Value.bool true }, { hash := PyData.keyHash P (Str.ofString "\x69mport.later-laid._collections"), key := Value.str (Str.ofString "\x69mport.later-laid._collections") 309, val := Value.bool true }, { hash := PyData.keyHash P (Str.ofString "watched.library-deep._collections"), key := Value.str (Str.ofString "watched.library-deep._collections") 311, val := Value.str (Str.ofString "\x04\x00\x00\x1d\x04\x00\x00\x1d\x04\x00\x00\x03\x04\x00\x00\x1d\x08\x04dict\x02") 0 }] 13 }
noncomputable def ob3 (P : Params) : Obj := { cls := Value.type "dict", data := Data.dict #[{ hash := PyData.keyHash P (Str.ofString "__name__"), key := Value.str (Str.ofString "__name__") 165, val := Value.str (Str.ofString "__main__") 164 }, { hash := PyData.keyHash P (Str.ofString "__doc__"), key := Value.str (Str.ofString "__doc__") 166, val := Value.none }, { hash := PyData.keyHash P (Str.ofString "__package__"), key := Value.str (Str.ofString "__package__") 167, val := Value.none }, { hash := PyData.keyHash P (Str.ofString "__loader__"), key := Value.str (Str.ofString "__loader__") 168, val := Value.builtin "__main__.__loader__#opaque" }, { hash := PyData.keyHash P (Str.ofString "__spec__"), key := Value.str (Str.ofString "__spec__") 169, val := Value.none }, { hash := PyData.keyHash P (Str.ofString "__annotations__"), key := Value.str (Str.ofString "__annotations__") 170, val := Value.ref 6 }, { hash := PyData.keyHash P (Str.ofString "__builtins__"), key := Value.str (Str.ofString "__builtins__") 171, val := Value.ref 4 }, { hash := PyData.keyHash P (Str.ofString "__file__"), key := Value.str (Str.ofString "__file__") 173, val := Value.str (Str.ofString "/claim/cut.py") 172 }, { hash := PyData.keyHash P (Str.ofString "__cached__"), key := Value.str (Str.ofString "__cached__") 174, val := Value.none }, { hash := PyData.keyHash P (Str.ofString "_sre"), key := Value.str (Str.ofString "_sre") 275, val := Value.ref 12 }, { hash := PyData.keyHash P (Str.ofString "deque"), key := Value.str (Str.ofString "deque") 317, val := Value.type "collections.deque" }] 11 }
noncomputable def ob4 (_ : Params) : Obj := { cls := Value.type "module", dict := some 0 }
noncomputable def ob5 (_ : Params) : Obj := { cls := Value.type "module", dict := some 3 }
noncomputable def ob6 (_ : Params) : Obj := { cls := Value.type "dict", data := Data.dict #[] }
noncomputable def ob7 (_ : Params) : Obj := { cls := Value.type "tuple", data := Data.seq #[] }
noncomputable def ob8 (_ : Params) : Obj := { cls := Value.none, data := Data.fields #[] }
noncomputable def ob9 (_ : Params) : Obj := { cls := Value.type "code", data := Data.fields #[Value.str (Str.ofString "<module>") 176, Value.str (Str.ofString "<module>") 177, Value.str (Str.ofString "/claim/cut.py") 178, Value.int 1 0, Value.int 0 0, Value.int 0 0, Value.int 0 0, Value.int 0 0, Value.ref 7, Value.bool false, Value.int 175 0, Value.ref 8, Value.none, Value.none, Value.none, Value.none, Value.int 179 0, Value.int 1 0, Value.str (Str.ofString "/claim/cut.py") 180] }
noncomputable def ob10 (_ : Params) : Obj := { cls := Value.type "frame", slots := #[some (Value.ref 9), some (Value.ref 3), some (Value.ref 3), none, some (Value.str (Str.ofString "__main__") 164), none, some (Value.ref 0)] }
noncomputable def ob11 (P : Params) : Obj := { cls := Value.type "dict", data := Data.dict #[{ hash := PyData.keyHash P (Str.ofString "__name__"), key := Value.str (Str.ofString "__name__") 247, val := Value.str (Str.ofString "_sre") 246 }, { hash := PyData.keyHash P (Str.ofString "__doc__"), key := Value.str (Str.ofString "__doc__") 248, val := Value.none }, { hash := PyData.keyHash P (Str.ofString "__package__"), key := Value.str (Str.ofString "__package__") 250, val := Value.str (Str.ofString "") 249 }, { hash := PyData.keyHash P (Str.ofString "__loader__"), key := Value.str (Str.ofString "__loader__") 251, val := Value.ref 14 }, { hash := PyData.keyHash P (Str.ofString "__spec__"), key := Value.str (Str.ofString "__spec__") 252, val := Value.ref 26 }, { hash := PyData.keyHash P (Str.ofString "compile"), key := Value.str (Str.ofString "compile") 253, val := Value.builtin "_sre.compile" }, { hash := PyData.keyHash P (Str.ofString "template"), key := Value.str (Str.ofString "template") 254, val := Value.builtin "_sre.template" }, { hash := PyData.keyHash P (Str.ofString "getcodesize"), key := Value.str (Str.ofString "getcodesize") 255, val := Value.builtin "_sre.getcodesize" }, { hash := PyData.keyHash P (Str.ofString "ascii_iscased"), key := Value.str (Str.ofString "ascii_iscased") 256, val := Value.builtin "_sre.ascii_iscased" }, { hash := PyData.keyHash P (Str.ofString "unicode_iscased"), key := Value.str (Str.ofString "unicode_iscased") 257, val := Value.builtin "_sre.unicode_iscased" }, { hash := PyData.keyHash P (Str.ofString "ascii_tolower"), key := Value.str (Str.ofString "ascii_tolower") 258, val := Value.builtin "_sre.ascii_tolower" }, { hash := PyData.keyHash P (Str.ofString "unicode_tolower"), key := Value.str (Str.ofString "unicode_tolower") 259, val := Value.builtin "_sre.unicode_tolower" }, { hash := PyData.keyHash P (Str.ofString "MAGIC"), key := Value.str (Str.ofString "MAGIC") 261, val := Value.int 20230612 260 }, { hash := PyData.keyHash P (Str.ofString "CODESIZE"), key := Value.str (Str.ofString "CODESIZE") 263, val := Value.int 4 262 }, { hash := PyData.keyHash P (Str.ofString "MAXREPEAT"), key := Value.str (Str.ofString "MAXREPEAT") 265, val := Value.int 4294967295 264 }, { hash := PyData.keyHash P (Str.ofString "MAXGROUPS"), key := Value.str (Str.ofString "MAXGROUPS") 267, val := Value.int 1073741823 266 }, { hash := PyData.keyHash P (Str.ofString "copyright"), key := Value.str (Str.ofString "copyright") 269, val := Value.str (Str.ofString " SRE 2.2.2 Copyright (c) 1997-2002 by Secret Labs AB ") 268 }] 17 }
noncomputable def ob12 (_ : Params) : Obj := { cls := Value.type "module", dict := some 11 }
noncomputable def ob13 (P : Params) : Obj := { cls := Value.type "dict", data := Data.dict #[{ hash := PyData.keyHash P (Str.ofString "__module__"), key := Value.str (Str.ofString "__module__") 189, val := Value.str (Str.ofString "_frozen_importlib") 186 }, { hash := PyData.keyHash P (Str.ofString "__firstlineno__"), key := Value.str (Str.ofString "__firstlineno__") 190, val := Value.int 971 187 }, { hash := PyData.keyHash P (Str.ofString "__doc__"), key := Value.str (Str.ofString "__doc__") 191, val := Value.builtin "_frozen_importlib.BuiltinImporter.__doc__:str#opaque" }, { hash := PyData.keyHash P (Str.ofString "_ORIGIN"), key := Value.str (Str.ofString "_ORIGIN") 192, val := Value.str (Str.ofString "built-in") 188 }, { hash := PyData.keyHash P (Str.ofString "find_spec"), key := Value.str (Str.ofString "find_spec") 193, val := Value.builtin "_frozen_importlib.BuiltinImporter.find_spec#opaque" }, { hash := PyData.keyHash P (Str.ofString "create_module"), key := Value.str (Str.ofString "create_module") 194, val := Value.builtin "_frozen_importlib.BuiltinImporter.create_module#opaque" }, { hash := PyData.keyHash P (Str.ofString "exec_module"), key := Value.str (Str.ofString "exec_module") 195, val := Value.builtin "_frozen_importlib.BuiltinImporter.exec_module#opaque" }, { hash := PyData.keyHash P (Str.ofString "get_code"), key := Value.str (Str.ofString "get_code") 196, val := Value.builtin "_frozen_importlib.BuiltinImporter.get_code#opaque" }, { hash := PyData.keyHash P (Str.ofString "get_source"), key := Value.str (Str.ofString "get_source") 197, val := Value.builtin "_frozen_importlib.BuiltinImporter.get_source#opaque" }, { hash := PyData.keyHash P (Str.ofString "is_package"), key := Value.str (Str.ofString "is_package") 198, val := Value.builtin "_frozen_importlib.BuiltinImporter.is_package#opaque" }, { hash := PyData.keyHash P (Str.ofString "load_module"), key := Value.str (Str.ofString "load_module") 199, val := Value.builtin "_frozen_importlib.BuiltinImporter.load_module#opaque" }, { hash := PyData.keyHash P (Str.ofString "__static_attributes__"), key := Value.str (Str.ofString "__static_attributes__") 200, val := Value.ref 15 }, { hash := PyData.keyHash P (Str.ofString "__dict__"), key := Value.str (Str.ofString "__dict__") 202, val := Value.ref 16 }, { hash := PyData.keyHash P (Str.ofString "__weakref__"), key := Value.str (Str.ofString "__weakref__") 204, val := Value.ref 17 }] 14 }
noncomputable def ob14 (_ : Params) : Obj := { cls := Value.type "type", data := Data.cls { name := Str.ofString "BuiltinImporter", bases := [Value.type "object"], mro := [Value.ref 14, Value.type "object"], ns := 13, qualname := Str.ofString "BuiltinImporter" } }
noncomputable def ob15 (_ : Params) : Obj := { cls := Value.type "tuple", data := Data.seq #[] }
noncomputable def ob16 (_ : Params) : Obj := { cls := Value.type "getset_descriptor", data := Data.fields #[Value.str (Str.ofString "__dict__") 201, Value.ref 14, Value.builtin "function.__dict__", Value.builtin "function.__dict__#set"] }
noncomputable def ob17 (_ : Params) : Obj := { cls := Value.type "getset_descriptor", data := Data.fields #[Value.str (Str.ofString "__weakref__") 203, Value.ref 14, Value.builtin "ExceptionGroup.__weakref__", Value.none] }
noncomputable def ob18 (_ : Params) : Obj := { cls := Value.none, data := Data.seq #[Value.int 13 0, Value.str (Str.ofString "\x06½\n__module__\x06º\x11_frozen_importlib\x06¾\x0f__firstlineno__\x04»\x00ϋ\x06¿\x07__doc__\t4_frozen_importlib.BuiltinImporter.__doc__:str#opaque\x06À\x07_ORIGIN\x06¼\x08built-in\x06Á\tfind_spec\t2_frozen_importlib.BuiltinImporter.find_spec#opaque\x06Â\x0dcreate_module\t6_frozen_importlib.BuiltinImporter.create_module#opaque\x06Ã\x0bexec_module\t4_frozen_importlib.BuiltinImporter.exec_module#opaque\x06Ä\x08get_code\t1_frozen_importlib.BuiltinImporter.get_code#opaque\x06Å\nget_source\t3_frozen_importlib.BuiltinImporter.get_source#opaque\x06Æ\nis_package\t3_frozen_importlib.BuiltinImporter.is_package#opaque\x06Ç\x0bload_module\t4_frozen_importlib.BuiltinImporter.load_module#opaque\x06È\x15__static_attributes__\x04\x00\x00\x0f\x06Ê\x08__dict__\x04\x00\x00\x10\x06Ì\x0b__weakref__\x04\x00\x00\x11") 0, Value.bool true, Value.bool true, Value.str (Str.ofString "") 205, Value.int 21 0, Value.str (Str.ofString "\x06ã\n__module__\x06Ù\x11_frozen_importlib\x06ä\x0f__firstlineno__\x04Ú\x00Ȳ\x06å\x07__doc__\t/_frozen_importlib.ModuleSpec.__doc__:str#opaque\x06æ\x08__init__\t,_frozen_importlib.ModuleSpec.__init__#opaque\x06ç\x08__repr__\t,_frozen_importlib.ModuleSpec.__repr__#opaque\x06è\x06__eq__\t*_frozen_importlib.ModuleSpec.__eq__#opaque\x06é\x06cached\t*_frozen_importlib.ModuleSpec.cached#opaque\x06ê\x06parent\t*_frozen_importlib.ModuleSpec.parent#opaque\x06ë\x0chas_location\t0_frozen_importlib.ModuleSpec.has_location#opaque\x06ì\x15__static_attributes__\x04\x00\x00\x17\x06î\x08__dict__\x04\x00\x00\x18\x06ð\x0b__weakref__\x04\x00\x00\x19\x06ñ\x08__hash__\x00") 0, Value.bool true, Value.bool true, Value.str (Str.ofString "") 242] 1 }
noncomputable def ob19 (_ : Params) : Obj := { cls := Value.type "list", data := Data.seq #[] }
noncomputable def ob20 (P : Params) : Obj := { cls := Value.type "dict", data := Data.dict #[{ hash := PyData.keyHash P (Str.ofString "name"), key := Value.str (Str.ofString "name") 208, val := Value.str (Str.ofString "_sre") 207 }, { hash := PyData.keyHash P (Str.ofString "loader"), key := Value.str (Str.ofString "loader") 209, val := Value.ref 14 }, { hash := PyData.keyHash P (Str.ofString "origin"), key := Value.str (Str.ofString "origin") 210, val := Value.str (Str.ofString "built-in") 184 }, { hash := PyData.keyHash P (Str.ofString "loader_state"), key := Value.str (Str.ofString "loader_state") 211, val := Value.none }, { hash := PyData.keyHash P (Str.ofString "submodule_search_locations"), key := Value.str (Str.ofString "submodule_search_locations") 212, val := Value.none }, { hash := PyData.keyHash P (Str.ofString "_uninitialized_submodules"), key := Value.str (Str.ofString "_uninitialized_submodules") 213, val := Value.ref 19 }, { hash := PyData.keyHash P (Str.ofString "_set_fileattr"), key := Value.str (Str.ofString "_set_fileattr") 214, val := Value.bool false }, { hash := PyData.keyHash P (Str.ofString "_cached"), key := Value.str (Str.ofString "_cached") 215, val := Value.none }, { hash := PyData.keyHash P (Str.ofString "_initializing"), key := Value.str (Str.ofString "_initializing") 243, val := Value.bool false }] 9 }
noncomputable def ob21 (P : Params) : Obj := { cls := Value.type "dict", data := Data.dict #[{ hash := PyData.keyHash P (Str.ofString "__module__"), key := Value.str (Str.ofString "__module__") 227, val := Value.str (Str.ofString "_frozen_importlib") 217 }, { hash := PyData.keyHash P (Str.ofString "__firstlineno__"), key := Value.str (Str.ofString "__firstlineno__") 228, val := Value.int 562 218 }, { hash := PyData.keyHash P (Str.ofString "__doc__"), key := Value.str (Str.ofString "__doc__") 229, val := Value.builtin "_frozen_importlib.ModuleSpec.__doc__:str#opaque" }, { hash := PyData.keyHash P (Str.ofString "__init__"), key := Value.str (Str.ofString "__init__") 230, val := Value.builtin "_frozen_importlib.ModuleSpec.__init__#opaque" }, { hash := PyData.keyHash P (Str.ofString "__repr__"), key := Value.str (Str.ofString "__repr__") 231, val := Value.builtin "_frozen_importlib.ModuleSpec.__repr__#opaque" }, { hash := PyData.keyHash P (Str.ofString "__eq__"), key := Value.str (Str.ofString "__eq__") 232, val := Value.builtin "_frozen_importlib.ModuleSpec.__eq__#opaque" }, { hash := PyData.keyHash P (Str.ofString "cached"), key := Value.str (Str.ofString "cached") 233, val := Value.builtin "_frozen_importlib.ModuleSpec.cached#opaque" }, { hash := PyData.keyHash P (Str.ofString "parent"), key := Value.str (Str.ofString "parent") 234, val := Value.builtin "_frozen_importlib.ModuleSpec.parent#opaque" }, { hash := PyData.keyHash P (Str.ofString "has_location"), key := Value.str (Str.ofString "has_location") 235, val := Value.builtin "_frozen_importlib.ModuleSpec.has_location#opaque" }, { hash := PyData.keyHash P (Str.ofString "__static_attributes__"), key := Value.str (Str.ofString "__static_attributes__") 236, val := Value.ref 23 }, { hash := PyData.keyHash P (Str.ofString "__dict__"), key := Value.str (Str.ofString "__dict__") 238, val := Value.ref 24 }, { hash := PyData.keyHash P (Str.ofString "__weakref__"), key := Value.str (Str.ofString "__weakref__") 240, val := Value.ref 25 }, { hash := PyData.keyHash P (Str.ofString "__hash__"), key := Value.str (Str.ofString "__hash__") 241, val := Value.none }] 13 }
noncomputable def ob22 (_ : Params) : Obj := { cls := Value.type "type", data := Data.cls { name := Str.ofString "ModuleSpec", bases := [Value.type "object"], mro := [Value.ref 22, Value.type "object"], ns := 21, qualname := Str.ofString "ModuleSpec" } }
noncomputable def ob23 (_ : Params) : Obj := { cls := Value.type "tuple", data := Data.seq #[Value.str (Str.ofString "_cached") 219, Value.str (Str.ofString "_set_fileattr") 220, Value.str (Str.ofString "_uninitialized_submodules") 221, Value.str (Str.ofString "loader") 222, Value.str (Str.ofString "loader_state") 223, Value.str (Str.ofString "name") 224, Value.str (Str.ofString "origin") 225, Value.str (Str.ofString "submodule_search_locations") 226] }
noncomputable def ob24 (_ : Params) : Obj := { cls := Value.type "getset_descriptor", data := Data.fields #[Value.str (Str.ofString "__dict__") 237, Value.ref 22, Value.builtin "function.__dict__", Value.builtin "function.__dict__#set"] }
noncomputable def ob25 (_ : Params) : Obj := { cls := Value.type "getset_descriptor", data := Data.fields #[Value.str (Str.ofString "__weakref__") 239, Value.ref 22, Value.builtin "ExceptionGroup.__weakref__", Value.none] }
noncomputable def ob26 (_ : Params) : Obj := { cls := Value.ref 22, dict := some 20 }
noncomputable def ob27 (_ : Params) : Obj := { cls := Value.none, data := Data.seq #[Value.int 11 0, Value.str { cps := #[6, 247, 8, 95, 95, 110, 97, 109, 101, 95, 95, 6, 246, 4, 95, 115, 114, 101, 6, 248, 7, 95, 95, 100, 111, 99, 95, 95, 0, 6, 250, 11, 95, 95, 112, 97, 99, 107, 97, 103, 101, 95, 95, 6, 249, 0, 6, 251, 10, 95, 95, 108, 111, 97, 100, 101, 114, 95, 95, 4, 0, 0, 14, 6, 252, 8, 95, 95, 115, 112, 101, 99, 95, 95, 4, 0, 0, 26, 6, 253, 7, 99, 111, 109, 112, 105, 108, 101, 9, 12, 95, 115, 114, 101, 46, 99, 111, 109, 112, 105, 108, 101, 6, 254, 8, 116, 101, 109, 112, 108, 97, 116, 101, 9, 13, 95, 115, 114, 101, 46, 116, 101, 109, 112, 108, 97, 116, 101, 6, 255, 11, 103, 101, 116, 99, 111, 100, 101, 115, 105, 122, 101, 9, 16, 95, 115, 114, 101, 46, 103, 101, 116, 99, 111, 100, 101, 115, 105, 122, 101, 6, 256, 13, 97, 115, 99, 105, 105, 95, 105, 115, 99, 97, 115, 101, 100, 9, 18, 95, 115, 114, 101, 46, 97, 115, 99, 105, 105, 95, 105, 115, 99, 97, 115, 101, 100, 6, 257, 15, 117, 110, 105, 99, 111, 100, 101, 95, 105, 115, 99, 97, 115, 101, 100, 9, 20, 95, 115, 114, 101, 46, 117, 110, 105, 99, 111, 100, 101, 95, 105, 115, 99, 97, 115, 101, 100, 6, 258, 13, 97, 115, 99, 105, 105, 95, 116, 111, 108, 111, 119, 101, 114, 9, 18, 95, 115, 114, 101, 46, 97, 115, 99, 105, 105, 95, 116, 111, 108, 111, 119, 101, 114, 6, 259, 15, 117, 110, 105, 99, 111, 100, 101, 95, 116, 111, 108, 111, 119, 101, 114, 9, 20, 95, 115, 114, 101, 46, 117, 110, 105, 99, 111, 100, 101, 95, 116, 111, 108, 111, 119, 101, 114, 6, 261, 5, 77, 65, 71, 73, 67, 4, 260, 0, 20230612, 6, 263, 8, 67, 79, 68, 69, 83, 73, 90, 69, 4, 262, 0, 4, 6, 265, 9, 77, 65, 88, 82, 69, 80, 69, 65, 84, 4, 264, 0, 4294967295, 6, 267, 9, 77, 65, 88, 71, 82, 79, 85, 80, 83, 4, 266, 0, 1073741823, 6, 269, 9, 99, 111, 112, 121, 114, 105, 103, 104, 116, 6, 268, 53, 32, 83, 82, 69, 32, 50, 46, 50, 46, 50, 32, 67, 111, 112, 121, 114, 105, 103, 104, 116, 32, 40, 99, 41, 32, 49, 57, 57, 55, 45, 50, 48, 48, 50, 32, 98, 121, 32, 83, 101, 99, 114, 101, 116, 32, 76, 97, 98, 115, 32, 65, 66, 32] } 0, Value.bool true, Value.bool false, Value.str (Str.ofString "_sre") 271, Value.int 29 0, Value.str (Str.ofString "\x06Ĩ\x08__name__\x06ħ\x0c_collections\x06ĩ\x07__doc__\t\x1f_collections.__doc__:str#opaque\x06ī\x0b__package__\x06Ī\x00\x06Ĭ\n__loader__\x04\x00\x00\x0e\x06ĭ\x08__spec__\x04\x00\x00!\x06Į\x0f_count_elements\t\x1c_collections._count_elements\x06į\x05deque\x08\x11collections.deque\x06İ\x0bdefaultdict\x08\x17collections.defaultdict\x06ı\x0f_deque_iterator\x08\x1bcollections._deque_iterator\x06Ĳ\x17_deque_reverse_iterator\x08#collections._deque_reverse_iterator\x06ĳ\x0c_tuplegetter\x08\x18collections._tuplegetter\x06Ĵ\x0bOrderedDict\x08\x17collections.OrderedDict") 0, Value.bool true, Value.bool false, Value.str (Str.ofString "_collections") 310] 1 }
noncomputable def ob28 (_ : Params) : Obj := { cls := Value.type "tuple", data := Data.seq #[Value.str (Str.ofString "deque") 277] }
noncomputable def ob29 (P : Params) : Obj := { cls := Value.type "dict", data := Data.dict #[{ hash := PyData.keyHash P (Str.ofString "__name__"), key := Value.str (Str.ofString "__name__") 296, val := Value.str (Str.ofString "_collections") 295 }, { hash := PyData.keyHash P (Str.ofString "__doc__"), key := Value.str (Str.ofString "__doc__") 297, val := Value.builtin "_collections.__doc__:str#opaque" }, { hash := PyData.keyHash P (Str.ofString "__package__"), key := Value.str (Str.ofString "__package__") 299, val := Value.str (Str.ofString "") 298 }, { hash := PyData.keyHash P (Str.ofString "__loader__"), key := Value.str (Str.ofString "__loader__") 300, val := Value.ref 14 }, { hash := PyData.keyHash P (Str.ofString "__spec__"), key := Value.str (Str.ofString "__spec__") 301, val := Value.ref 33 }, { hash := PyData.keyHash P (Str.ofString "_count_elements"), key := Value.str (Str.ofString "_count_elements") 302, val := Value.builtin "_collections._count_elements" }, { hash := PyData.keyHash P (Str.ofString "deque"), key := Value.str (Str.ofString "deque") 303, val := Value.type "collections.deque" }, { hash := PyData.keyHash P (Str.ofString "defaultdict"), key := Value.str (Str.ofString "defaultdict") 304, val := Value.type "collections.defaultdict" }, { hash := PyData.keyHash P (Str.ofString "_deque_iterator"), key := Value.str (Str.ofString "_deque_iterator") 305, val := Value.type "collections._deque_iterator" }, { hash := PyData.keyHash P (Str.ofString "_deque_reverse_iterator"), key := Value.str (Str.ofString "_deque_reverse_iterator") 306, val := Value.type "collections._deque_reverse_iterator" }, { hash := PyData.keyHash P (Str.ofString "_tuplegetter"), key := Value.str (Str.ofString "_tuplegetter") 307, val := Value.type "collections._tuplegetter" }, { hash := PyData.keyHash P (Str.ofString "OrderedDict"), key := Value.str (Str.ofString "OrderedDict") 308, val := Value.type "collections.OrderedDict" }] 12 }
noncomputable def ob30 (_ : Params) : Obj := { cls := Value.type "module", dict := some 29 }
noncomputable def ob31 (_ : Params) : Obj := { cls := Value.type "list", data := Data.seq #[] }
noncomputable def ob32 (P : Params) : Obj := { cls := Value.type "dict", data := Data.dict #[{ hash := PyData.keyHash P (Str.ofString "name"), key := Value.str (Str.ofString "name") 283, val := Value.str (Str.ofString "_collections") 282 }, { hash := PyData.keyHash P (Str.ofString "loader"), key := Value.str (Str.ofString "loader") 284, val := Value.ref 14 }, { hash := PyData.keyHash P (Str.ofString "origin"), key := Value.str (Str.ofString "origin") 285, val := Value.str (Str.ofString "built-in") 281 }, { hash := PyData.keyHash P (Str.ofString "loader_state"), key := Value.str (Str.ofString "loader_state") 286, val := Value.none }, { hash := PyData.keyHash P (Str.ofString "submodule_search_locations"), key := Value.str (Str.ofString "submodule_search_locations") 287, val := Value.none }, { hash := PyData.keyHash P (Str.ofString "_uninitialized_submodules"), key := Value.str (Str.ofString "_uninitialized_submodules") 288, val := Value.ref 31 }, { hash := PyData.keyHash P (Str.ofString "_set_fileattr"), key := Value.str (Str.ofString "_set_fileattr") 289, val := Value.bool false }, { hash := PyData.keyHash P (Str.ofString "_cached"), key := Value.str (Str.ofString "_cached") 290, val := Value.none }, { hash := PyData.keyHash P (Str.ofString "_initializing"), key := Value.str (Str.ofString "_initializing") 291, val := Value.bool false }] 9 }
noncomputable def ob33 (_ : Params) : Obj := { cls := Value.ref 22, dict := some 32 }
noncomputable def ob11x (P : Params) : Obj := { cls := Value.type "dict", data := Data.dict #[{ hash := PyData.keyHash P (Str.ofString "__name__"), key := Value.str (Str.ofString "__name__") 247, val := Value.str (Str.ofString "_sre") 246 }, { hash := PyData.keyHash P (Str.ofString "__doc__"), key := Value.str (Str.ofString "__doc__") 248, val := Value.none }, { hash := PyData.keyHash P (Str.ofString "__package__"), key := Value.str (Str.ofString "__package__") 250, val := Value.str (Str.ofString "") 249 }, { hash := PyData.keyHash P (Str.ofString "__loader__"), key := Value.str (Str.ofString "__loader__") 251, val := Value.builtin "off-the-table:_sre.__loader__:shared#opaque" }, { hash := PyData.keyHash P (Str.ofString "__spec__"), key := Value.str (Str.ofString "__spec__") 252, val := Value.builtin "off-the-table:_sre.__spec__:shared#opaque" }, { hash := PyData.keyHash P (Str.ofString "compile"), key := Value.str (Str.ofString "compile") 253, val := Value.builtin "_sre.compile" }, { hash := PyData.keyHash P (Str.ofString "template"), key := Value.str (Str.ofString "template") 254, val := Value.builtin "off-the-table:_sre.template:shared#opaque" }, { hash := PyData.keyHash P (Str.ofString "getcodesize"), key := Value.str (Str.ofString "getcodesize") 255, val := Value.builtin "off-the-table:_sre.getcodesize:shared#opaque" }, { hash := PyData.keyHash P (Str.ofString "ascii_iscased"), key := Value.str (Str.ofString "ascii_iscased") 256, val := Value.builtin "off-the-table:_sre.ascii_iscased:shared#opaque" }, { hash := PyData.keyHash P (Str.ofString "unicode_iscased"), key := Value.str (Str.ofString "unicode_iscased") 257, val := Value.builtin "off-the-table:_sre.unicode_iscased:shared#opaque" }, { hash := PyData.keyHash P (Str.ofString "ascii_tolower"), key := Value.str (Str.ofString "ascii_tolower") 258, val := Value.builtin "off-the-table:_sre.ascii_tolower:shared#opaque" }, { hash := PyData.keyHash P (Str.ofString "unicode_tolower"), key := Value.str (Str.ofString "unicode_tolower") 259, val := Value.builtin "off-the-table:_sre.unicode_tolower:shared#opaque" }, { hash := PyData.keyHash P (Str.ofString "MAGIC"), key := Value.str (Str.ofString "MAGIC") 261, val := Value.int 20230612 260 }, { hash := PyData.keyHash P (Str.ofString "CODESIZE"), key := Value.str (Str.ofString "CODESIZE") 263, val := Value.int 4 262 }, { hash := PyData.keyHash P (Str.ofString "MAXREPEAT"), key := Value.str (Str.ofString "MAXREPEAT") 265, val := Value.int 4294967295 264 }, { hash := PyData.keyHash P (Str.ofString "MAXGROUPS"), key := Value.str (Str.ofString "MAXGROUPS") 267, val := Value.int 1073741823 266 }, { hash := PyData.keyHash P (Str.ofString "copyright"), key := Value.str (Str.ofString "copyright") 269, val := Value.str (Str.ofString " SRE 2.2.2 Copyright (c) 1997-2002 by Secret Labs AB ") 268 }] 17 }
noncomputable def ob29x (P : Params) : Obj := { cls := Value.type "dict", data := Data.dict #[{ hash := PyData.keyHash P (Str.ofString "__name__"), key := Value.str (Str.ofString "__name__") 296, val := Value.str (Str.ofString "_collections") 295 }, { hash := PyData.keyHash P (Str.ofString "__doc__"), key := Value.str (Str.ofString "__doc__") 297, val := Value.builtin "off-the-table:_collections.__doc__:shared#opaque" }, { hash := PyData.keyHash P (Str.ofString "__package__"), key := Value.str (Str.ofString "__package__") 299, val := Value.str (Str.ofString "") 298 }, { hash := PyData.keyHash P (Str.ofString "__loader__"), key := Value.str (Str.ofString "__loader__") 300, val := Value.builtin "off-the-table:_collections.__loader__:shared#opaque" }, { hash := PyData.keyHash P (Str.ofString "__spec__"), key := Value.str (Str.ofString "__spec__") 301, val := Value.builtin "off-the-table:_collections.__spec__:shared#opaque" }, { hash := PyData.keyHash P (Str.ofString "_count_elements"), key := Value.str (Str.ofString "_count_elements") 302, val := Value.builtin "_collections._count_elements" }, { hash := PyData.keyHash P (Str.ofString "deque"), key := Value.str (Str.ofString "deque") 303, val := Value.type "collections.deque" }, { hash := PyData.keyHash P (Str.ofString "defaultdict"), key := Value.str (Str.ofString "defaultdict") 304, val := Value.type "collections.defaultdict" }, { hash := PyData.keyHash P (Str.ofString "_deque_iterator"), key := Value.str (Str.ofString "_deque_iterator") 305, val := Value.builtin "off-the-table:_collections._deque_iterator:shared#opaque" }, { hash := PyData.keyHash P (Str.ofString "_deque_reverse_iterator"), key := Value.str (Str.ofString "_deque_reverse_iterator") 306, val := Value.builtin "off-the-table:_collections._deque_reverse_iterator:shared#opaque" }, { hash := PyData.keyHash P (Str.ofString "_tuplegetter"), key := Value.str (Str.ofString "_tuplegetter") 307, val := Value.type "collections._tuplegetter" }, { hash := PyData.keyHash P (Str.ofString "OrderedDict"), key := Value.str (Str.ofString "OrderedDict") 308, val := Value.type "collections.OrderedDict" }] 12 }
noncomputable def ob34 (_ : Params) : Obj := { cls := Value.type "tuple", data := Data.seq #[] }
noncomputable def ob35 (_ : Params) : Obj := { cls := Value.none, data := Data.fields #[] }
noncomputable def ob36 (_ : Params) : Obj := { cls := Value.type "code", data := Data.fields #[Value.str (Str.ofString "<module>") 319, Value.str (Str.ofString "<module>") 320, Value.str (Str.ofString "/claim/cut.py") 321, Value.int 1 0, Value.int 0 0, Value.int 0 0, Value.int 0 0, Value.int 0 0, Value.ref 34, Value.bool false, Value.int 318 0, Value.ref 35, Value.none, Value.none, Value.none, Value.none, Value.int 322 0, Value.int 1 0, Value.str (Str.ofString "/claim/cut.py") 323] }
noncomputable def ob37 (_ : Params) : Obj := { cls := Value.type "frame", slots := #[some (Value.ref 36), some (Value.ref 3), some (Value.ref 3), none, some (Value.str (Str.ofString "__main__") 164), none, some (Value.ref 0)] }
noncomputable def ob3x (P : Params) : Obj := { cls := Value.type "dict", data := Data.dict #[{ hash := PyData.keyHash P (Str.ofString "__name__"), key := Value.str (Str.ofString "__name__") 165, val := Value.str (Str.ofString "re") 413 }, { hash := PyData.keyHash P (Str.ofString "__doc__"), key := Value.str (Str.ofString "__doc__") 166, val := Value.none }, { hash := PyData.keyHash P (Str.ofString "__package__"), key := Value.str (Str.ofString "__package__") 167, val := Value.none }, { hash := PyData.keyHash P (Str.ofString "__loader__"), key := Value.str (Str.ofString "__loader__") 168, val := Value.builtin "__main__.__loader__#opaque" }, { hash := PyData.keyHash P (Str.ofString "__spec__"), key := Value.str (Str.ofString "__spec__") 169, val := Value.none }, { hash := PyData.keyHash P (Str.ofString "__annotations__"), key := Value.str (Str.ofString "__annotations__") 170, val := Value.ref 6 }, { hash := PyData.keyHash P (Str.ofString "__builtins__"), key := Value.str (Str.ofString "__builtins__") 171, val := Value.ref 4 }, { hash := PyData.keyHash P (Str.ofString "__file__"), key := Value.str (Str.ofString "__file__") 173, val := Value.str (Str.ofString "/claim/cut.py") 172 }, { hash := PyData.keyHash P (Str.ofString "__cached__"), key := Value.str (Str.ofString "__cached__") 174, val := Value.none }, { hash := PyData.keyHash P (Str.ofString "_sre"), key := Value.str (Str.ofString "_sre") 275, val := Value.ref 12 }, { hash := PyData.keyHash P (Str.ofString "deque"), key := Value.str (Str.ofString "deque") 317, val := Value.type "collections.deque" }, { hash := PyData.keyHash P (Str.ofString "_wall"), key := Value.str (Str.ofString "_wall") 330, val := Value.ref 44 }, { hash := PyData.keyHash P (Str.ofString "_raise_serialization_error"), key := Value.str (Str.ofString "_raise_serialization_error") 339, val := Value.ref 51 }, { hash := PyData.keyHash P (Str.ofString "_escape_cdata"), key := Value.str (Str.ofString "_escape_cdata") 346, val := Value.ref 58 }, { hash := PyData.keyHash P (Str.ofString "_escape_attrib"), key := Value.str (Str.ofString "_escape_attrib") 353, val := Value.ref 65 }, { hash := PyData.keyHash P (Str.ofString "_escape_attrib_html"), key := Value.str (Str.ofString "_escape_attrib_html") 360, val := Value.ref 72 }, { hash := PyData.keyHash P (Str.ofString "_escape_cdata_c14n"), key := Value.str (Str.ofString "_escape_cdata_c14n") 367, val := Value.ref 79 }, { hash := PyData.keyHash P (Str.ofString "_escape_attrib_c14n"), key := Value.str (Str.ofString "_escape_attrib_c14n") 374, val := Value.ref 86 }, { hash := PyData.keyHash P (Str.ofString "twin_re_1_fnmatch"), key := Value.str (Str.ofString "twin_re_1_fnmatch") 412, val := Value.ref 91 }, { hash := PyData.keyHash P (Str.ofString "_special_chars_map"), key := Value.str (Str.ofString "_special_chars_map") 560, val := Value.ref 93 }] 20 }
noncomputable def ob35x (_ : Params) : Obj := { cls := Value.none, data := Data.fields #[Value.int 3 0, Value.int 0 0, Value.ref 43, Value.int 7 0, Value.int 0 0, Value.ref 50, Value.int 9 0, Value.int 0 0, Value.ref 57, Value.int 20 0, Value.int 0 0, Value.ref 64, Value.int 39 0, Value.int 0 0, Value.ref 71, Value.int 50 0, Value.int 0 0, Value.ref 78, Value.int 63 0, Value.int 0 0, Value.ref 85] }
noncomputable def ob39 (_ : Params) : Obj := { cls := Value.none, data := Data.fields #[] }
noncomputable def ob42 (_ : Params) : Obj := { cls := Value.none, data := fo (stAt 2) (Str.ofString "_wall") 0 [] Value.none Value.none Value.none Value.none none Value.none Value.none 0 }
noncomputable def ob46 (_ : Params) : Obj := { cls := Value.none, data := Data.fields #[] }
noncomputable def ob49 (_ : Params) : Obj := { cls := Value.none, data := fo (stAt 4) (Str.ofString "_raise_serialization_error") 0 [] Value.none Value.none Value.none Value.none none Value.none Value.none 0 }
noncomputable def ob53 (_ : Params) : Obj := { cls := Value.none, data := Data.fields #[] }
noncomputable def ob56 (_ : Params) : Obj := { cls := Value.none, data := fo (stAt 5) (Str.ofString "_escape_cdata") 0 [] Value.none Value.none Value.none Value.none none Value.none Value.none 0 }
noncomputable def ob60 (_ : Params) : Obj := { cls := Value.none, data := Data.fields #[] }
noncomputable def ob63 (_ : Params) : Obj := { cls := Value.none, data := fo (stAt 6) (Str.ofString "_escape_attrib") 0 [] Value.none Value.none Value.none Value.none none Value.none Value.none 0 }
noncomputable def ob67 (_ : Params) : Obj := { cls := Value.none, data := Data.fields #[] }
noncomputable def ob70 (_ : Params) : Obj := { cls := Value.none, data := fo (stAt 7) (Str.ofString "_escape_attrib_html") 0 [] Value.none Value.none Value.none Value.none none Value.none Value.none 0 }
noncomputable def ob74 (_ : Params) : Obj := { cls := Value.none, data := Data.fields #[] }
noncomputable def ob77 (_ : Params) : Obj := { cls := Value.none, data := fo (stAt 8) (Str.ofString "_escape_cdata_c14n") 0 [] Value.none Value.none Value.none Value.none none Value.none Value.none 0 }
noncomputable def ob81 (_ : Params) : Obj := { cls := Value.none, data := Data.fields #[] }
noncomputable def ob84 (_ : Params) : Obj := { cls := Value.none, data := fo (stAt 9) (Str.ofString "_escape_attrib_c14n") 0 [] Value.none Value.none Value.none Value.none none Value.none Value.none 0 }
noncomputable def ob87 (_ : Params) : Obj := { cls := Value.type "list", data := Data.seq #[Value.int 14 378, Value.int 14 379, Value.int 4 380, Value.int 1 381, Value.int 1 382, Value.int 9 383, Value.int 0 384, Value.int 64 385, Value.int 0 386, Value.int 1342177280 387, Value.int 0 388, Value.int 0 389, Value.int 0 390, Value.int 0 391, Value.int 0 392, Value.int 17 393, Value.int 0 394, Value.int 13 395, Value.int 11 396, Value.int 9 397, Value.int 0 398, Value.int 64 399, Value.int 0 400, Value.int 1342177280 401, Value.int 0 402, Value.int 0 403, Value.int 0 404, Value.int 0 405, Value.int 0 406, Value.int 17 407, Value.int 1 408, Value.int 1 409] }
noncomputable def ob88 (_ : Params) : Obj := { cls := Value.type "dict", data := Data.dict #[] }
noncomputable def ob89 (_ : Params) : Obj := { cls := Value.type "tuple", data := Data.seq #[Value.none, Value.none] }
noncomputable def ob92 (_ : Params) : Obj := { cls := Value.type "bytes_iterator", data := Data.fields #[Value.none, Value.int 24 0] }
noncomputable def ob94 (_ : Params) : Obj := { cls := Value.type "dict", data := Data.dict #[] 2 }
noncomputable def ob95 (_ : Params) : Obj := { cls := Value.type "tuple", data := Data.seq #[] }
noncomputable def ob96 (_ : Params) : Obj := { cls := Value.type "StopIteration", data := Data.fields #[Value.ref 95, Value.none, Value.none, Value.none, Value.bool false, Value.none] }
noncomputable def tr1530 (P : Params) : BT := (.node (ob0 P) (.node (ob1 P) (.node (ob3 P) (.node (ob7 P) (.node (ob15 P) (.node (ob31 P) .nil .nil) .nil) (.node (ob23 P) .nil .nil)) (.node (ob11 P) (.node (ob19 P) .nil .nil) (.node (ob27 P) .nil .nil))) (.node (ob5 P) (.node (ob9 P) (.node (ob17 P) (.node (ob33 P) .nil .nil) .nil) (.node (ob25 P) .nil .nil)) (.node (ob13 P) (.node (ob21 P) .nil .nil) (.node (ob29 P) .nil .nil)))) (.node (ob2 P) (.node (ob4 P) (.node (ob8 P) (.node (ob16 P) (.node (ob32 P) .nil .nil) .nil) (.node (ob24 P) .nil .nil)) (.node (ob12 P) (.node (ob20 P) .nil .nil) (.node (ob28 P) .nil .nil))) (.node (ob6 P) (.node (ob10 P) (.node (ob18 P) .nil .nil) (.node (ob26 P) .nil .nil)) (.node (ob14 P) (.node (ob22 P) .nil .nil) (.node (ob30 P) .nil .nil)))))
noncomputable def he74 (P : Params) : Heap := ⟨⟨[(ob0 P), (ob1 P), (ob2 P), (ob3 P), (ob4 P), (ob5 P), (ob6 P), (ob7 P), (ob8 P), (ob9 P), (ob10 P), (ob11x P), (ob12 P), (ob13 P), (ob14 P), (ob15 P), (ob16 P), (ob17 P), (ob18 P), (ob19 P), (ob20 P), (ob21 P), (ob22 P), (ob23 P), (ob24 P), (ob25 P), (ob26 P), (ob27 P), (ob28 P), (ob29x P), (ob30 P), (ob31 P), (ob32 P), (ob33 P)]⟩, {}⟩
noncomputable def he78 (P : Params) : Heap := ⟨⟨[(ob0 P), (ob1 P), (ob2 P), (ob3 P), (ob4 P), (ob5 P), (ob6 P), (ob7 P), (ob8 P), (ob9 P), (ob10 P), (ob11x P), (ob12 P), (ob13 P), (ob14 P), (ob15 P), (ob16 P), (ob17 P), (ob18 P), (ob19 P), (ob20 P), (ob21 P), (ob22 P), (ob23 P), (ob24 P), (ob25 P), (ob26 P), (ob27 P), (ob28 P), (ob29x P), (ob30 P), (ob31 P), (ob32 P), (ob33 P), (ob34 P), (ob35 P), (ob36 P), (ob37 P)]⟩, {}⟩
noncomputable def tr79 (P : Params) : BT := (.node (ob0 P) (.node (ob1 P) (.node (ob3 P) (.node (ob7 P) (.node (ob15 P) (.node (ob31 P) .nil .nil) .nil) (.node (ob23 P) .nil .nil)) (.node (ob11x P) (.node (ob19 P) (.node (ob35 P) .nil .nil) .nil) (.node (ob27 P) .nil .nil))) (.node (ob5 P) (.node (ob9 P) (.node (ob17 P) (.node (ob33 P) .nil .nil) .nil) (.node (ob25 P) .nil .nil)) (.node (ob13 P) (.node (ob21 P) (.node (ob37 P) .nil .nil) .nil) (.node (ob29x P) .nil .nil)))) (.node (ob2 P) (.node (ob4 P) (.node (ob8 P) (.node (ob16 P) (.node (ob32 P) .nil .nil) .nil) (.node (ob24 P) .nil .nil)) (.node (ob12 P) (.node (ob20 P) (.node (ob36 P) .nil .nil) .nil) (.node (ob28 P) .nil .nil))) (.node (ob6 P) (.node (ob10 P) (.node (ob18 P) (.node (ob34 P) .nil .nil) .nil) (.node (ob26 P) .nil .nil)) (.node (ob14 P) (.node (ob22 P) .nil .nil) (.node (ob30 P) .nil .nil)))))
noncomputable def tr142 (P : Params) : BT := (.node (ob0 P) (.node (ob1 P) (.node (ob3x P) (.node (ob7 P) (.node (ob15 P) (.node (ob31 P) (.node (ob63 P) .nil .nil) (.node (ob95 P) .nil .nil)) (.node (kb47 P) (.node (kb79 P) .nil .nil) .nil)) (.node (ob23 P) (.node (ob39 P) (.node (kb71 P) .nil .nil) .nil) (.node (kb55 P) (.node (ob87 P) .nil .nil) .nil))) (.node (ob11x P) (.node (ob19 P) (.node (ob35x P) (.node (ob67 P) .nil .nil) .nil) (.node (kb51 P) (.node (kb83 P) .nil .nil) .nil)) (.node (ob27 P) (.node (kb43 P) (.node (kb75 P) .nil .nil) .nil) (.node (kb59 P) (.node (kb91 P) .nil .nil) .nil)))) (.node (ob5 P) (.node (ob9 P) (.node (ob17 P) (.node (ob33 P) (.node (kb65 P) .nil .nil) .nil) (.node (ob49 P) (.node (ob81 P) .nil .nil) .nil)) (.node (ob25 P) (.node (kb41 P) (.node (kb73 P) .nil .nil) .nil) (.node (kb57 P) (.node (ob89 P) .nil .nil) .nil))) (.node (ob13 P) (.node (ob21 P) (.node (ob37 P) (.node (kb69 P) .nil .nil) .nil) (.node (ob53 P) (.node (kb85 P) .nil .nil) .nil)) (.node (ob29x P) (.node (kb45 P) (.node (ob77 P) .nil .nil) .nil) (.node (kb61 P) (.node (kb93 P) .nil .nil) .nil))))) (.node (ob2 P) (.node (ob4 P) (.node (ob8 P) (.node (ob16 P) (.node (ob32 P) (.node (kb64 P) .nil .nil) (.node (ob96 P) .nil .nil)) (.node (kb48 P) (.node (kb80 P) .nil .nil) .nil)) (.node (ob24 P) (.node (kb40 P) (.node (kb72 P) .nil .nil) .nil) (.node (ob56 P) (.node (ob88 P) .nil .nil) .nil))) (.node (ob12 P) (.node (ob20 P) (.node (ob36 P) (.node (kb68 P) .nil .nil) .nil) (.node (kb52 P) (.node (ob84 P) .nil .nil) .nil)) (.node (ob28 P) (.node (kb44 P) (.node (kb76 P) .nil .nil) .nil) (.node (ob60 P) (.node (ob92 P) .nil .nil) .nil)))) (.node (ob6 P) (.node (ob10 P) (.node (ob18 P) (.node (ob34 P) (.node (kb66 P) .nil .nil) .nil) (.node (kb50 P) (.node (kb82 P) .nil .nil) .nil)) (.node (ob26 P) (.node (ob42 P) (.node (ob74 P) .nil .nil) .nil) (.node (kb58 P) (.node (kb90 P) .nil .nil) .nil))) (.node (ob14 P) (.node (ob22 P) (.node (kb38 P) (.node (ob70 P) .nil .nil) .nil) (.node (kb54 P) (.node (kb86 P) .nil .nil) .nil)) (.node (ob30 P) (.node (ob46 P) (.node (kb78 P) .nil .nil) .nil) (.node (kb62 P) (.node (ob94 P) .nil .nil) .nil))))))
end Mine
namespace Mine
noncomputable abbrev prr : Program := PySem.Challenge.rw_ik0168_01.row.toRowW.1
noncomputable abbrev envT : Env := { scope := prr.main.scope, locals := mainNs, globals := mainNs, cells := [], code := .ref 36, frame := some 37 }
noncomputable abbrev bodyT : List Stmt := behindTheImports prr
noncomputable abbrev cT : Code := .body bodyT envT
noncomputable abbrev frT : List Frame := [topFrame ⟨0, 0, 0, 0⟩]
noncomputable abbrev sStart (os : OsState) : SharedT := ⟨.nil, 0, {}, ⟨[]⟩, {}, 1, os⟩
noncomputable abbrev sOpen (w : World) (os : OsState) : SharedT := ⟨tr1530 w.params, 34, {}, ⟨[]⟩, {}, 318, os⟩
noncomputable abbrev sTop (w : World) (os : OsState) : SharedT := ⟨tr79 w.params, 38, {}, ⟨[]⟩, {}, 324, os⟩
theorem start_is : (sStart (start (opening prr)).1.os).abs = (start (opening prr)).1 := by kernel_rfl
theorem run_open (w : World) : (fun os => (impGoT treeTable (opening prr) w 1085 (sStart os) (start (opening prr)).2).map fun r => (r.1, r.2.atExitBegin)) = fun os => some (sOpen w os, some []) := by
  rw [PySem.W.Fast.te14789777615569096658, PySem.W.Fast.te14364793385576792824]
  kernel_rfl
theorem run_fence (w : World) : (fun os => (fenceModules? prr (sOpen w os).abs).map (fun s => (s.heap, s.gens, s.drawn, s.toks))) = fun _ => some (he74 w.params, ⟨[]⟩, {}, 318) := by
  rw [PySem.W.Fast.te14289696077712309145]
  kernel_rfl
theorem run_size (w : World) : ((he74 w.params).isNs mainGlobals && (⟨[]⟩ : Array GenState).size == 0, (he74 w.params).objs.size, (he74 w.params).nsMap mainGlobals "__annotations__") = (true, 34, some (.ref 6)) := by kernel_rfl
end Mine
namespace Mine
theorem den_te : @denote = PySem.W.Fast.tw11892475500146522536 := PySem.W.Fast.te11892475500146522536
theorem run_pre (w : World) : (fun os => topGo treeTable prr w 34 (some (.ref 6)) 12 ⟨he74 w.params, ⟨[]⟩, {}, 318, os⟩ (topStub prr)) = fun os => some (⟨he78 w.params, ⟨[]⟩, {}, 324, os⟩, ⟨denote treeTable cT, cT, ⟨0, 0, 0, 0⟩, frT⟩) := by
  rw [PySem.W.Fast.te15667345088766844465, PySem.W.Fast.te14364793385576792824, PySem.W.Fast.te11892475500146522536]
  kernel_rfl
theorem run_block (w : World) : (fun os => segRun treeTable prr w 34 (some (.ref 6)) 1 1 ⟨he78 w.params, ⟨[]⟩, {}, 324, os⟩ (blockOf bodyT envT cT ⟨0, 0, 0, 0⟩ frT)) = fun os => some (.next, (sTop w os).abs, cT, ⟨0, 0, 0, 0⟩) := by
  rw [PySem.W.Fast.te14374325043358763698, PySem.W.Fast.te14364793385576792824]
  kernel_rfl
end Mine
namespace Mine
theorem said_strict : (!(importedModules PySem.Challenge.rw_ik0168_01.row.prog.main.body).all cThrough.contains) = false := by decide +kernel
theorem said_bare : List.filter (readsOut PySem.Challenge.rw_ik0168_01.row.prog PySem.Challenge.rw_ik0168_01.row.prog.main.body) [Str.ofString "vars", Str.ofString "dir", Str.ofString "locals"] = [] := by
  rw [PySem.W.Fast.te13343964577679436407]
  kernel_rfl
theorem said_road : noRoadLSs { strict := false, foot := none, bare := [] } PySem.Challenge.rw_ik0168_01.row.prog.main.body = true := by
  rw [PySem.W.Fast.te8326940854005059898]
  kernel_rfl
theorem said : PySem.Challenge.rw_ik0168_01.wellSaid = true := by
  delta OpenLaw.wellSaid OpenRow.wellSaid OpenRow.partSaid looksOpen
  rw [said_strict, said_bare, said_road]
  repeat' (with_reducible refine look_both ?_ ?_)
  all_goals first
    | (simp only [PySem.W.Fast.te11788848310118352699, PySem.W.Fast.te9807087744658564304, PySem.W.Fast.te12862048085361865435, PySem.W.Fast.te8377067652309620493, PySem.W.Fast.te18344453789297297638, PySem.W.Fast.te8326940854005059898, PySem.W.Fast.te17119622794617984870, PySem.W.Fast.te3471404346716756564, PySem.W.Fast.te6984425678791042302, PySem.W.Fast.te12879404354523853263, PySem.W.Fast.te10792542408131684335, PySem.W.Fast.te8179353310426384613, PySem.W.Fast.te16286561074155671207]; kernel_rfl)
    | kernel_rfl
noncomputable abbrev lo14 : List Str := [Str.ofString "twin_re_1_fnmatch", Str.ofString "_special_chars_map", Str.ofString "twin_re_1_shlex", Str.ofString "UnsupportedOperation", Str.ofString "IOBase", Str.ofString "BufferedIOBase", Str.ofString "TextIOBase", Str.ofString "BytesIO", Str.ofString "StringIO", Str.ofString "join_path", Str.ofString "shlex", Str.ofString "split", Str.ofString "join_shlex", Str.ofString "_find_unsafe"]
noncomputable def vwBody (b : List Stmt) : List Stmt := b.take 3 ++ (b.drop 4).take 7 ++ (b.drop 12).take 2 ++ (b.drop 15).take 2 ++ (b.drop 18).take 8 ++ (b.drop 27).take 4 ++ (b.drop 32).take 2 ++ (b.drop 35).take 1 ++ (b.drop 37).take 4 ++ (b.drop 42).take 7
noncomputable def vw : Program := { PySem.Challenge.rw_ik0168_01.row.toRowW.1 with main := { PySem.Challenge.rw_ik0168_01.row.toRowW.1.main with body := vwBody PySem.Challenge.rw_ik0168_01.row.toRowW.1.main.body } }
noncomputable abbrev sMid (w : World) (os : OsState) : SharedT := ⟨tr142 w.params, 97, {}, ⟨[]⟩, {}, 561, os⟩
noncomputable def RunB (w : World) : Prop := (fun os => segRunT treeTable prr w 34 (some (.ref 6)) 1 1600 (sTop w os) (piecesOf (bodyT.take 11) envT cT ⟨0, 0, 0, 0⟩ frT)) = fun os => some (.next, sMid w os, cT, ⟨82, 0, 82, 18⟩)
theorem fin_run (w : World) (s : Shared) (p : Pos) : topRun treeTable prr w 34 (some (.ref 6)) 3 s ⟨doneF .next, cT, p, frT⟩ = some s := by
  obtain ⟨heap, gens, drawn, toks, os⟩ := s
  rfl
/-- what the tree holds at an address -/
noncomputable def tget (s : SharedT) (a : Nat) : Option Obj := match Nat.blt a s.n with
  | true => (s.tree.get a).bind alive
  | false => none
theorem tget_some {s : SharedT} {a : Nat} {o : Obj} (h : tget s a = some o) : s.abs.heap.get? a = some o := by
  unfold tget at h
  cases hb : Nat.blt a s.n with
  | false => rw [hb] at h; cases h
  | true =>
    rw [hb] at h
    obtain ⟨o', h1, h2⟩ := Option.bind_eq_some_iff.mp h
    have l : a < s.n := by simpa [Nat.blt_eq] using hb
    exact (abs_get l h1).trans h2
theorem map_get {s : SharedT} {α : Type} {f : α → Obj} : ∀ {as : List Nat} {l : List α}, as.map (tget s) = l.map (fun x => some (f x)) → as.map s.abs.heap.get? = l.map fun x => some (f x)
  | [], [], _ => rfl
  | [], _ :: _, h => by cases h
  | _ :: _, [], h => by cases h
  | a :: as, x :: l, h => by
    rw [List.map_cons, List.map_cons] at h
    obtain ⟨h1, h2⟩ := List.cons.inj h
    rw [List.map_cons, List.map_cons, tget_some h1, map_get h2]
noncomputable abbrev xtT (s : Shared) : Bool := xlAt vw [] s && recOk (RowW.records PySem.Challenge.rw_ik0168_01.row.toRowW) s
noncomputable abbrev topOk (w : World) (s : Shared) : Bool := staticsOk (importedModules prr.main.body) (he74 w.params) s.heap && namesBound prr s.heap && gensDone s && laidKept (he74 w.params) s.heap
noncomputable def RunC (K : Params → Frag) (as ts : List Nat) (w : World) : Prop :=
  (fun os => (segRunT treeTable prr w 34 (some (.ref 6)) 1 5300 (sMid w os) (piecesOf (bodyT.drop 11) envT cT ⟨82, 0, 82, 18⟩ frT)).map fun r =>
    (r.1, r.2.2.1, topOk w r.2.1.abs, openSeen vw lo14 (importedModules prr.main.body) xtT true r.2.1.abs, as.map (tget r.2.1), ts.map (tget r.2.1))) =
  fun _ => some (.next, cT, true, openGood vw lo14, (K w.params).map fun p => some p.2, ts.map fun _ => some (tabObj #[]))
theorem opens (w : World) : (fencedOpening treeTable prr w 13554).map (fun s => (s.heap, s.gens, s.drawn, s.toks)) = some (he74 w.params, ⟨[]⟩, {}, 318) := by
  refine open_cut (p := prr) (N := 13554) (M := 1085 + 1) (He := fun P => absHeap (tr1530 P) 34 {}) (H₀ := he74) (ge := ⟨[]⟩) (g₀ := ⟨[]⟩) (de := {}) (d₀ := {}) (ke := 318) (k₀ := 318) (fun w => ?_) (by rfl) (fun w => run_fence w) w
  obtain ⟨⟨s, t⟩, e1, e2⟩ := Option.map_eq_some_iff.mp (congrFun (run_open w) (start (opening prr)).1.os)
  obtain ⟨e3, e4⟩ := Prod.mk.inj e2
  dsimp only at e3 e4
  subst e3
  have g := impGo_of e1
  rw [start_is] at g
  refine imp_go g ?_
  unfold importEnds
  rw [e4]
  rfl
theorem left_k {K : Params → Frag} {as : List Addr} {eK : ∀ P, as = (K P).map (·.1)} {ts : List Addr} (hB : ∀ w, RunB w) (hC : ∀ w, RunC K as ts w) :
    LeftO prr vw lo14 xtT (Hook.obs (kmHook K as eK ts)) (Hook.val (kmHook K as eK ts)) 13554 := fun w => by
  obtain ⟨⟨h, gs, d, k, os⟩, e, e'⟩ := Option.map_eq_some_iff.mp (opens w)
  obtain ⟨rfl, e'⟩ := Prod.mk.inj e'
  obtain ⟨rfl, e'⟩ := Prod.mk.inj e'
  obtain ⟨rfl, rfl⟩ := Prod.mk.inj e'
  obtain ⟨z1, z'⟩ := Prod.mk.inj (run_size w)
  obtain ⟨z2, z3⟩ := Prod.mk.inj z'
  obtain ⟨⟨f, sT, c', p'⟩, c1, c4⟩ := Option.map_eq_some_iff.mp (congrFun (hC w) os)
  obtain ⟨rfl, c5⟩ := Prod.mk.inj c4
  obtain ⟨h5, c6⟩ := Prod.mk.inj c5
  obtain ⟨l1, c7⟩ := Prod.mk.inj c6
  obtain ⟨c9, c8⟩ := Prod.mk.inj c7
  obtain ⟨d1, d2⟩ := Prod.mk.inj c8
  dsimp only at h5 l1 c9 d1 d2
  subst h5
  have c3 := fin_run w sT.abs p'
  have y : Hook.obs (kmHook K as eK ts) sT.abs = Hook.val (kmHook K as eK ts) w := Prod.ext (map_get d1) (map_get d2)
  have r0 : topRun treeTable prr w 34 (some (.ref 6)) (12 + (1 + (1600 + (5300 + 3)))) ⟨he74 w.params, ⟨[]⟩, {}, 318, os⟩ (topStub prr) = some sT.abs := by
    refine go_top (congrFun (run_pre w) os) ?_
    refine piece_block (congrFun (run_block w) os) ?_
    have b1 : restOf bodyT envT cT ⟨0, 0, 0, 0⟩ frT = restOf (bodyT.take 11 ++ (bodyT.drop 11 ++ [])) envT cT ⟨0, 0, 0, 0⟩ frT := by rw [List.append_nil, List.take_append_drop]
    rw [b1]
    refine piece_app (segRun_of (congrFun (hB w) os)) ?_
    exact piece_app (segRun_of c1) (piece_nil c3)
  have r1 := topRun_mono 6638 _ _ _ _ r0
  have t : topFrom treeTable prr w 13554 ⟨he74 w.params, ⟨[]⟩, {}, 318, os⟩ = some sT.abs := by
    unfold topFrom
    dsimp only
    rw [z1, z2, z3]
    dsimp only
    rw [show (13554 : Nat) = 12 + (1 + (1600 + (5300 + 3))) + 6638 from rfl, r1]
    show (match topOk w sT.abs with | true => _ | false => _) = _
    rw [l1]
  unfold openEnds
  rw [e]
  show (topFrom treeTable prr w 13554 _).map _ = _
  rw [t]
  exact congrArg some (Prod.ext c9 y)
theorem runB_ways (h : ∀ (a b : Bool) (w : World), RunB ((w.withFollow "special-get-raises" a).withFollow "comprehension-iter-twice" b)) (w : World) : RunB w :=
  byRow2 "comprehension-iter-twice" (P := fun w => RunB w) (fun w => byRow2 "special-get-raises" (P := fun w => RunB (w.withFollow "comprehension-iter-twice" false)) (fun w => h false false w) (fun w => h true false w) w)
    (fun w => byRow2 "special-get-raises" (P := fun w => RunB (w.withFollow "comprehension-iter-twice" true)) (fun w => h false true w) (fun w => h true true w) w) w
theorem runB_1 (w : World) : RunB ((w.withFollow "special-get-raises" false).withFollow "comprehension-iter-twice" false) := by
  unfold RunB
  rw [PySem.W.Fast.te10110043849684766642, PySem.W.Fast.te14364793385576792824]
  kernel_rfl
theorem runB_2 (w : World) : RunB ((w.withFollow "special-get-raises" false).withFollow "comprehension-iter-twice" true) := by
  unfold RunB
  rw [PySem.W.Fast.te10110043849684766642, PySem.W.Fast.te14364793385576792824]
  kernel_rfl
theorem runB_3 (w : World) : RunB ((w.withFollow "special-get-raises" true).withFollow "comprehension-iter-twice" false) := by
  unfold RunB
  rw [PySem.W.Fast.te10110043849684766642, PySem.W.Fast.te14364793385576792824]
  kernel_rfl
theorem runB_4 (w : World) : RunB ((w.withFollow "special-get-raises" true).withFollow "comprehension-iter-twice" true) := by
  unfold RunB
  rw [PySem.W.Fast.te10110043849684766642, PySem.W.Fast.te14364793385576792824]
  kernel_rfl
theorem runB_all (w : World) : RunB w := by
  refine runB_ways (fun a b w => ?_) w
  cases a <;> cases b
  · exact runB_1 w
  · exact runB_2 w
  · exact runB_3 w
  · exact runB_4 w
end Mine
namespace Mine
/-- the same for a decorated def -/
noncomputable def foD (s : Stmt) (q : Str) (g : Addr) (cl : List (Str × Addr)) (d k doc pm : Value) (an : Option Addr) (c ct : Value) (b : Addr) : Data := match (scan [s] ([], [], [])).1 with
  | [⟨name, args, body, sc, _⟩] => .func ⟨name, q, args, .stmts body, sc, g, cl, d, k, doc, pm, an, c, ct, b⟩
  | _ => .plain
noncomputable def fn44 : Data := by
  refine' (?f : ∀ b : Data, fo (stAt 2) (.ofString "_wall") 3 [] .none .none .none (.str (.ofString "__main__") 164) none (.ref 43) .none 0 = b → Data) _ ?h
  case f => exact fun b _ => b
  case h => conv => lhs; whnf
noncomputable def fn51 : Data := by
  refine' (?f : ∀ b : Data, fo (stAt 4) (.ofString "_raise_serialization_error") 3 [] .none .none .none (.str (.ofString "cpy313.xml.etree.ElementTree") 331) none (.ref 50) .none 0 = b → Data) _ ?h
  case f => exact fun b _ => b
  case h => conv => lhs; whnf
noncomputable def fn58 : Data := by
  refine' (?f : ∀ b : Data, fo (stAt 5) (.ofString "_escape_cdata") 3 [] .none .none .none (.str (.ofString "cpy313.xml.etree.ElementTree") 331) none (.ref 57) .none 0 = b → Data) _ ?h
  case f => exact fun b _ => b
  case h => conv => lhs; whnf
noncomputable def fn65 : Data := by
  refine' (?f : ∀ b : Data, fo (stAt 6) (.ofString "_escape_attrib") 3 [] .none .none .none (.str (.ofString "cpy313.xml.etree.ElementTree") 331) none (.ref 64) .none 0 = b → Data) _ ?h
  case f => exact fun b _ => b
  case h => conv => lhs; whnf
noncomputable def fn72 : Data := by
  refine' (?f : ∀ b : Data, fo (stAt 7) (.ofString "_escape_attrib_html") 3 [] .none .none .none (.str (.ofString "cpy313.xml.etree.ElementTree") 331) none (.ref 71) .none 0 = b → Data) _ ?h
  case f => exact fun b _ => b
  case h => conv => lhs; whnf
noncomputable def fn79 : Data := by
  refine' (?f : ∀ b : Data, fo (stAt 8) (.ofString "_escape_cdata_c14n") 3 [] .none .none .none (.str (.ofString "cpy313.xml.etree.ElementTree") 331) none (.ref 78) .none 0 = b → Data) _ ?h
  case f => exact fun b _ => b
  case h => conv => lhs; whnf
noncomputable def fn86 : Data := by
  refine' (?f : ∀ b : Data, fo (stAt 9) (.ofString "_escape_attrib_c14n") 3 [] .none .none .none (.str (.ofString "cpy313.xml.etree.ElementTree") 331) none (.ref 85) .none 0 = b → Data) _ ?h
  case f => exact fun b _ => b
  case h => conv => lhs; whnf
noncomputable def fn103 : Data := by
  refine' (?f : ∀ b : Data, fo (stAt 13) (.ofString "escape") 3 [] .none .none .none (.str (.ofString "re") 413) none (.ref 102) .none 0 = b → Data) _ ?h
  case f => exact fun b _ => b
  case h => conv => lhs; whnf
noncomputable def fn110 : Data := by
  refine' (?f : ∀ b : Data, fo (stAt 15) (.ofString "_translate") 3 [] .none .none .none (.str (.ofString "cpy313.fnmatch") 568) none (.ref 109) .none 0 = b → Data) _ ?h
  case f => exact fun b _ => b
  case h => conv => lhs; whnf
noncomputable def fn129 : Data := by
  refine' (?f : ∀ b : Data, fo (stAt 19) (.ofString "_index") 3 [] .none .none .none (.str (.ofString "io") 629) none (.ref 128) .none 0 = b → Data) _ ?h
  case f => exact fun b _ => b
  case h => conv => lhs; whnf
noncomputable def fn156 : Data := by
  refine' (?f : ∀ b : Data, fo (stIn 21 1) (.ofString "IOBase.__new__") 3 [] .none .none .none (.str (.ofString "io") 629) none (.ref 155) .none 0 = b → Data) _ ?h
  case f => exact fun b _ => b
  case h => conv => lhs; whnf
noncomputable def fn433 : Data := by
  refine' (?f : ∀ b : Data, fo (stIn 25 1) (.ofString "StringIO.__init__") 3 [] (.ref 426) .none .none (.str (.ofString "io") 629) none (.ref 432) .none 0 = b → Data) _ ?h
  case f => exact fun b _ => b
  case h => conv => lhs; whnf
noncomputable def fn440 : Data := by
  refine' (?f : ∀ b : Data, fo (stIn 25 2) (.ofString "StringIO.__translated") 3 [] .none .none .none (.str (.ofString "io") 629) none (.ref 439) .none 0 = b → Data) _ ?h
  case f => exact fun b _ => b
  case h => conv => lhs; whnf
noncomputable def fn447 : Data := by
  refine' (?f : ∀ b : Data, fo (stIn 25 3) (.ofString "StringIO.__check") 3 [] .none .none .none (.str (.ofString "io") 629) none (.ref 446) .none 0 = b → Data) _ ?h
  case f => exact fun b _ => b
  case h => conv => lhs; whnf
noncomputable def fn601 : Data := by
  refine' (?f : ∀ b : Data, fo (stIn 25 24) (.ofString "StringIO.truncate") 3 [] (.ref 594) .none .none (.str (.ofString "io") 629) none (.ref 600) .none 0 = b → Data) _ ?h
  case f => exact fun b _ => b
  case h => conv => lhs; whnf
noncomputable def fn609 : Data := by
  refine' (?f : ∀ b : Data, fo (stIn 25 25) (.ofString "StringIO.read") 3 [] (.ref 602) .none .none (.str (.ofString "io") 629) none (.ref 608) .none 0 = b → Data) _ ?h
  case f => exact fun b _ => b
  case h => conv => lhs; whnf
noncomputable def fn722 : Data := by
  refine' (?f : ∀ b : Data, fo (stIn 35 0) (.ofString "shlex.__init__") 3 [] (.ref 715) .none .none (.str (.ofString "cpy313.shlex") 1345) none (.ref 721) .none 0 = b → Data) _ ?h
  case f => exact fun b _ => b
  case h => conv => lhs; whnf
noncomputable def fn729 : Data := by
  refine' (?f : ∀ b : Data, foD (stIn 35 1) (.ofString "shlex.punctuation_chars") 3 [] .none .none .none (.str (.ofString "cpy313.shlex") 1345) none (.ref 728) .none 0 = b → Data) _ ?h
  case f => exact fun b _ => b
  case h => conv => lhs; whnf
noncomputable def fn737 : Data := by
  refine' (?f : ∀ b : Data, fo (stIn 35 2) (.ofString "shlex.push_token") 3 [] .none .none .none (.str (.ofString "cpy313.shlex") 1345) none (.ref 736) .none 0 = b → Data) _ ?h
  case f => exact fun b _ => b
  case h => conv => lhs; whnf
noncomputable def fn759 : Data := by
  refine' (?f : ∀ b : Data, fo (stIn 35 5) (.ofString "shlex.get_token") 3 [] .none .none .none (.str (.ofString "cpy313.shlex") 1345) none (.ref 758) .none 0 = b → Data) _ ?h
  case f => exact fun b _ => b
  case h => conv => lhs; whnf
noncomputable def fn766 : Data := by
  refine' (?f : ∀ b : Data, fo (stIn 35 6) (.ofString "shlex.read_token") 3 [] .none .none .none (.str (.ofString "cpy313.shlex") 1345) none (.ref 765) .none 0 = b → Data) _ ?h
  case f => exact fun b _ => b
  case h => conv => lhs; whnf
noncomputable def fn788 : Data := by
  refine' (?f : ∀ b : Data, fo (stIn 35 9) (.ofString "shlex.__iter__") 3 [] .none .none .none (.str (.ofString "cpy313.shlex") 1345) none (.ref 787) .none 0 = b → Data) _ ?h
  case f => exact fun b _ => b
  case h => conv => lhs; whnf
noncomputable def fn795 : Data := by
  refine' (?f : ∀ b : Data, fo (stIn 35 10) (.ofString "shlex.__next__") 3 [] .none .none .none (.str (.ofString "cpy313.shlex") 1345) none (.ref 794) .none 0 = b → Data) _ ?h
  case f => exact fun b _ => b
  case h => conv => lhs; whnf
noncomputable def fn810 : Data := by
  refine' (?f : ∀ b : Data, fo (stAt 36) (.ofString "split") 3 [] (.ref 803) .none .none (.str (.ofString "cpy313.shlex") 1345) none (.ref 809) .none 0 = b → Data) _ ?h
  case f => exact fun b _ => b
  case h => conv => lhs; whnf
noncomputable def fn817 : Data := by
  refine' (?f : ∀ b : Data, fo (stAt 37) (.ofString "join") 3 [] .none .none .none (.str (.ofString "cpy313.shlex") 1345) none (.ref 816) .none 0 = b → Data) _ ?h
  case f => exact fun b _ => b
  case h => conv => lhs; whnf
noncomputable def fn825 : Data := by
  refine' (?f : ∀ b : Data, fo (stAt 40) (.ofString "quote") 3 [] .none .none .none (.str (.ofString "cpy313.shlex") 1345) none (.ref 824) .none 0 = b → Data) _ ?h
  case f => exact fun b _ => b
  case h => conv => lhs; whnf
noncomputable def fn832 : Data := by
  refine' (?f : ∀ b : Data, fo (stAt 42) (.ofString "_law_tables") 3 [] .none .none .none (.str (.ofString "law_ik0168_01") 1513) none (.ref 831) .none 0 = b → Data) _ ?h
  case f => exact fun b _ => b
  case h => conv => lhs; whnf
noncomputable def fn839 : Data := by
  refine' (?f : ∀ b : Data, fo (stAt 43) (.ofString "_law_word") 3 [] .none .none .none (.str (.ofString "law_ik0168_01") 1513) none (.ref 838) .none 0 = b → Data) _ ?h
  case f => exact fun b _ => b
  case h => conv => lhs; whnf
noncomputable def fn844 : Data := by
  refine' (?f : ∀ b : Data, fo (stAt 44) (.ofString "_law_takes") 3 [] .none .none .none (.str (.ofString "law_ik0168_01") 1513) none (.ref 843) .none 0 = b → Data) _ ?h
  case f => exact fun b _ => b
  case h => conv => lhs; whnf
noncomputable def fn851 : Data := by
  refine' (?f : ∀ b : Data, fo (stAt 45) (.ofString "_law_refuses") 3 [] .none .none .none (.str (.ofString "law_ik0168_01") 1513) none (.ref 850) .none 0 = b → Data) _ ?h
  case f => exact fun b _ => b
  case h => conv => lhs; whnf
noncomputable def fn856 : Data := by
  refine' (?f : ∀ b : Data, fo (stAt 46) (.ofString "_law_told") 3 [] .none .none .none (.str (.ofString "law_ik0168_01") 1513) none (.ref 855) .none 0 = b → Data) _ ?h
  case f => exact fun b _ => b
  case h => conv => lhs; whnf
noncomputable def fn861 : Data := by
  refine' (?f : ∀ b : Data, fo (stAt 47) (.ofString "_law_due") 3 [] .none .none .none (.str (.ofString "law_ik0168_01") 1513) none (.ref 860) .none 0 = b → Data) _ ?h
  case f => exact fun b _ => b
  case h => conv => lhs; whnf
noncomputable def fn866 : Data := by
  refine' (?f : ∀ b : Data, fo (stAt 48) (.ofString "law") 3 [] .none .none .none (.str (.ofString "law_ik0168_01") 1513) none (.ref 865) .none 0 = b → Data) _ ?h
  case f => exact fun b _ => b
  case h => conv => lhs; whnf
noncomputable def hd.heap_1 : Params → Frag := by
  refine' (?f : ∀ b : Params → Frag, (fun P => (nat_lit 2,⟨.none,none,.dict #[⟨PyData.keyHash P (.ofString "\x69mport.loaded._sre"),.str (.ofString "\x69mport.loaded._sre") 183,.bool true⟩,⟨PyData.keyHash P (.ofString "class._frozen_importlib.BuiltinImporter"),.str (.ofString "class._frozen_importlib.BuiltinImporter") 185,.ref 14⟩,⟨PyData.keyHash P (.ofString "watched.\x69mport"),.str (.ofString "watched.\x69mport") 206,.ref 18⟩,⟨PyData.keyHash P (.ofString "class._frozen_importlib.ModuleSpec"),.str (.ofString "class._frozen_importlib.ModuleSpec") 216,.ref 22⟩,⟨PyData.keyHash P (.ofString "sys.modules.booked-epoch"),.str (.ofString "sys.modules.booked-epoch") 245,.int 4 0⟩,⟨PyData.keyHash P (.ofString "\x69mport.later-laid._sre"),.str (.ofString "\x69mport.later-laid._sre") 270,.bool true⟩,⟨PyData.keyHash P (.ofString "watched.library"),.str (.ofString "watched.library") 272,.ref 27⟩,⟨PyData.keyHash P (.ofString "watched.library-objects"),.str (.ofString "watched.library-objects") 0,.str (.ofString "\x0c\x1e") 0⟩,⟨PyData.keyHash P (.ofString "watched.library-deep._sre"),.str (.ofString "watched.library-deep._sre") 273,.str (.ofString "\x04\x00\x00\x0b\x04\x00\x00\x0b\x04\x00\x00\x03\x04\x00\x00\x0b\x08\x04dict\x02") 0⟩,⟨PyData.keyHash P (.ofString "\x69mport.loaded._collections"),.str (.ofString "\x69mport.loaded._collections") 280,.bool true⟩,⟨PyData.keyHash P (.ofString "sys.modules.landed._collections"),.str (.ofString "sys.modules.landed._collections") 294,.bool true⟩,⟨PyData.keyHash P (.ofString "\x69mport.later-laid._collections"),.str (.ofString "\x69mport.later-laid._collections") 309,.bool true⟩,⟨PyData.keyHash P (.ofString "watched.library-deep._collections"),.str (.ofString "watched.library-deep._collections") 311,.str (.ofString "\x04\x00\x00\x1d\x04\x00\x00\x1d\x04\x00\x00\x03\x04\x00\x00\x1d\x08\x04dict\x02") 0⟩,⟨PyData.keyHash P (.ofString "type.__subclasses__.OSError.0"),.str (.ofString "type.__subclasses__.OSError.0") 665,.int 139 0⟩,⟨PyData.keyHash P (.ofString "type.__subclasses__.OSError.n"),.str (.ofString "type.__subclasses__.OSError.n") 666,.int 1 0⟩] 15,#[]⟩) ::
(nat_lit 3,⟨.type "dict",none,.dict (List.toArray (⟨PyData.keyHash P (.ofString "__name__"),.str (.ofString "__name__") 165,.str (.ofString "law_ik0168_01") 1513⟩::⟨PyData.keyHash P (.ofString "__doc__"),.str (.ofString "__doc__") 166,.none⟩::⟨PyData.keyHash P (.ofString "__package__"),.str (.ofString "__package__") 167,.none⟩::⟨PyData.keyHash P (.ofString "__loader__"),.str (.ofString "__loader__") 168,.builtin "__main__.__loader__#opaque"⟩::⟨PyData.keyHash P (.ofString "__spec__"),.str (.ofString "__spec__") 169,.none⟩::⟨PyData.keyHash P (.ofString "__annotations__"),.str (.ofString "__annotations__") 170,.ref 6⟩::⟨PyData.keyHash P (.ofString "__builtins__"),.str (.ofString "__builtins__") 171,.ref 4⟩::⟨PyData.keyHash P (.ofString "__file__"),.str (.ofString "__file__") 173,.str (.ofString "/claim/cut.py") 172⟩::⟨PyData.keyHash P (.ofString "__cached__"),.str (.ofString "__cached__") 174,.none⟩::⟨PyData.keyHash P (.ofString "_sre"),.str (.ofString "_sre") 275,.ref 12⟩::⟨PyData.keyHash P (.ofString "deque"),.str (.ofString "deque") 317,.type "collections.deque"⟩::⟨PyData.keyHash P (.ofString "_wall"),.str (.ofString "_wall") 330,.ref 44⟩::⟨PyData.keyHash P (.ofString "_raise_serialization_error"),.str (.ofString "_raise_serialization_error") 339,.ref 51⟩::⟨PyData.keyHash P (.ofString "_escape_cdata"),.str (.ofString "_escape_cdata") 346,.ref 58⟩::⟨PyData.keyHash P (.ofString "_escape_attrib"),.str (.ofString "_escape_attrib") 353,.ref 65⟩::⟨PyData.keyHash P (.ofString "_escape_attrib_html"),.str (.ofString "_escape_attrib_html") 360,.ref 72⟩::⟨PyData.keyHash P (.ofString "_escape_cdata_c14n"),.str (.ofString "_escape_cdata_c14n") 367,.ref 79⟩::⟨PyData.keyHash P (.ofString "_escape_attrib_c14n"),.str (.ofString "_escape_attrib_c14n") 374,.ref 86⟩::⟨PyData.keyHash P (.ofString "twin_re_1_fnmatch"),.str (.ofString "twin_re_1_fnmatch") 412,.ref 91⟩::⟨PyData.keyHash P (.ofString "_special_chars_map"),.str (.ofString "_special_chars_map") 560,.ref 93⟩::⟨PyData.keyHash P (.ofString "escape"),.str (.ofString "escape") 567,.ref 103⟩::⟨PyData.keyHash P (.ofString "_translate"),.str (.ofString "_translate") 588,.ref 110⟩::⟨PyData.keyHash P (.ofString "twin_re_1_shlex"),.str (.ofString "twin_re_1_shlex") 628,.ref 115⟩::⟨PyData.keyHash P (.ofString "_whence"),.str (.ofString "_whence") 638,.ref 122⟩::⟨PyData.keyHash P (.ofString "_index"),.str (.ofString "_index") 646,.ref 129⟩::⟨PyData.keyHash P (.ofString "UnsupportedOperation"),.str (.ofString "UnsupportedOperation") 668,.ref 139⟩::⟨PyData.keyHash P (.ofString "IOBase"),.str (.ofString "IOBase") 700,.ref 159⟩::⟨PyData.keyHash P (.ofString "BufferedIOBase"),.str (.ofString "BufferedIOBase") 718,.ref 174⟩::⟨PyData.keyHash P (.ofString "TextIOBase"),.str (.ofString "TextIOBase") 736,.ref 186⟩::⟨PyData.keyHash P (.ofString "BytesIO"),.str (.ofString "BytesIO") 998,.ref 416⟩::⟨PyData.keyHash P (.ofString "StringIO"),.str (.ofString "StringIO") 1285,.ref 663⟩::⟨PyData.keyHash P (.ofString "_kind"),.str (.ofString "_kind") 1296,.ref 672⟩::⟨PyData.keyHash P (.ofString "_fspath"),.str (.ofString "_fspath") 1305,.ref 679⟩::⟨PyData.keyHash P (.ofString "_check_arg_types"),.str (.ofString "_check_arg_types") 1315,.ref 686⟩::⟨PyData.keyHash P (.ofString "isabs"),.str (.ofString "isabs") 1322,.ref 693⟩::⟨PyData.keyHash P (.ofString "join"),.str (.ofString "join") 1333,.ref 817⟩::⟨PyData.keyHash P (.ofString "join_path"),.str (.ofString "join_path") 1334,.ref 700⟩::⟨PyData.keyHash P (.ofString "dirname"),.str (.ofString "dirname") 1344,.ref 707⟩::⟨PyData.keyHash P (.ofString "shlex"),.str (.ofString "shlex") 1485,.ref 798⟩::⟨PyData.keyHash P (.ofString "split"),.str (.ofString "split") 1495,.ref 810⟩::⟨PyData.keyHash P (.ofString "join_shlex"),.str (.ofString "join_shlex") 1503,.ref 817⟩::⟨PyData.keyHash P (.ofString "_find_unsafe"),.str (.ofString "_find_unsafe") 1505,.ref 818⟩::⟨PyData.keyHash P (.ofString "quote"),.str (.ofString "quote") 1512,.ref 825⟩::⟨PyData.keyHash P (.ofString "_law_tables"),.str (.ofString "_law_tables") 1525,.ref 832⟩::⟨PyData.keyHash P (.ofString "_law_word"),.str (.ofString "_law_word") 1533,.ref 839⟩::⟨PyData.keyHash P (.ofString "_law_takes"),.str (.ofString "_law_takes") 1539,.ref 844⟩::⟨PyData.keyHash P (.ofString "_law_refuses"),.str (.ofString "_law_refuses") 1547,.ref 851⟩::⟨PyData.keyHash P (.ofString "_law_told"),.str (.ofString "_law_told") 1553,.ref 856⟩::⟨PyData.keyHash P (.ofString "_law_due"),.str (.ofString "_law_due") 1559,.ref 861⟩::⟨PyData.keyHash P (.ofString "law"),.str (.ofString "law") 1565,.ref 866⟩::[])) 50,#[]⟩) ::
(nat_lit 38,⟨.type "tuple",none,.seq #[] 0,#[]⟩) ::
(nat_lit 40,⟨.type "tuple",none,.seq #[.str (.ofString "k") 327] 0,#[]⟩) ::
(nat_lit 41,⟨.type "tuple",none,.seq #[] 0,#[]⟩) ::
(nat_lit 43,⟨.type "code",none,.fields #[.str (.ofString "_wall") 324,.str (.ofString "_wall") 325,.str (.ofString "/claim/cut.py") 326,.int 3 0,.int 1 0,.int 0 0,.int 0 0,.int 3 0,.ref 38,.bool true,.int 318 0,.ref 39,.none,.ref 40,.ref 41,.ref 42,.int 328 0,.int 3 0,.str (.ofString "/claim/cut.py") 329],#[]⟩) ::
(nat_lit 44,⟨.type "function",none,fn44,#[]⟩) ::
(nat_lit 45,⟨.type "tuple",none,.seq #[] 0,#[]⟩) ::
(nat_lit 47,⟨.type "tuple",none,.seq #[.str (.ofString "text") 336] 0,#[]⟩) ::
(nat_lit 48,⟨.type "tuple",none,.seq #[] 0,#[]⟩) ::
(nat_lit 50,⟨.type "code",none,.fields #[.str (.ofString "_raise_serialization_error") 333,.str (.ofString "_raise_serialization_error") 334,.str (.ofString "/claim/cut.py") 335,.int 7 0,.int 1 0,.int 0 0,.int 0 0,.int 3 0,.ref 45,.bool true,.int 318 0,.ref 46,.none,.ref 47,.ref 48,.ref 49,.int 337 0,.int 7 0,.str (.ofString "/claim/cut.py") 338],#[]⟩) ::
(nat_lit 51,⟨.type "function",none,fn51,#[]⟩) ::
(nat_lit 52,⟨.type "tuple",none,.seq #[] 0,#[]⟩) ::
(nat_lit 54,⟨.type "tuple",none,.seq #[.str (.ofString "text") 343] 0,#[]⟩) ::
(nat_lit 55,⟨.type "tuple",none,.seq #[] 0,#[]⟩) ::
(nat_lit 57,⟨.type "code",none,.fields #[.str (.ofString "_escape_cdata") 340,.str (.ofString "_escape_cdata") 341,.str (.ofString "/claim/cut.py") 342,.int 9 0,.int 1 0,.int 0 0,.int 0 0,.int 3 0,.ref 52,.bool true,.int 318 0,.ref 53,.none,.ref 54,.ref 55,.ref 56,.int 344 0,.int 9 0,.str (.ofString "/claim/cut.py") 345],#[]⟩) ::
(nat_lit 58,⟨.type "function",none,fn58,#[]⟩) ::
(nat_lit 59,⟨.type "tuple",none,.seq #[] 0,#[]⟩) ::
(nat_lit 61,⟨.type "tuple",none,.seq #[.str (.ofString "text") 350] 0,#[]⟩) ::
(nat_lit 62,⟨.type "tuple",none,.seq #[] 0,#[]⟩) ::
(nat_lit 64,⟨.type "code",none,.fields #[.str (.ofString "_escape_attrib") 347,.str (.ofString "_escape_attrib") 348,.str (.ofString "/claim/cut.py") 349,.int 20 0,.int 1 0,.int 0 0,.int 0 0,.int 3 0,.ref 59,.bool true,.int 318 0,.ref 60,.none,.ref 61,.ref 62,.ref 63,.int 351 0,.int 20 0,.str (.ofString "/claim/cut.py") 352],#[]⟩) ::
(nat_lit 65,⟨.type "function",none,fn65,#[]⟩) ::
(nat_lit 66,⟨.type "tuple",none,.seq #[] 0,#[]⟩) ::
(nat_lit 68,⟨.type "tuple",none,.seq #[.str (.ofString "text") 357] 0,#[]⟩) ::
(nat_lit 69,⟨.type "tuple",none,.seq #[] 0,#[]⟩) ::
(nat_lit 71,⟨.type "code",none,.fields #[.str (.ofString "_escape_attrib_html") 354,.str (.ofString "_escape_attrib_html") 355,.str (.ofString "/claim/cut.py") 356,.int 39 0,.int 1 0,.int 0 0,.int 0 0,.int 3 0,.ref 66,.bool true,.int 318 0,.ref 67,.none,.ref 68,.ref 69,.ref 70,.int 358 0,.int 39 0,.str (.ofString "/claim/cut.py") 359],#[]⟩) ::
(nat_lit 72,⟨.type "function",none,fn72,#[]⟩) ::
(nat_lit 73,⟨.type "tuple",none,.seq #[] 0,#[]⟩) ::
(nat_lit 75,⟨.type "tuple",none,.seq #[.str (.ofString "text") 364] 0,#[]⟩) ::
(nat_lit 76,⟨.type "tuple",none,.seq #[] 0,#[]⟩) ::
(nat_lit 78,⟨.type "code",none,.fields #[.str (.ofString "_escape_cdata_c14n") 361,.str (.ofString "_escape_cdata_c14n") 362,.str (.ofString "/claim/cut.py") 363,.int 50 0,.int 1 0,.int 0 0,.int 0 0,.int 3 0,.ref 73,.bool true,.int 318 0,.ref 74,.none,.ref 75,.ref 76,.ref 77,.int 365 0,.int 50 0,.str (.ofString "/claim/cut.py") 366],#[]⟩) ::
(nat_lit 79,⟨.type "function",none,fn79,#[]⟩) ::
(nat_lit 80,⟨.type "tuple",none,.seq #[] 0,#[]⟩) ::
(nat_lit 82,⟨.type "tuple",none,.seq #[.str (.ofString "text") 371] 0,#[]⟩) ::
(nat_lit 83,⟨.type "tuple",none,.seq #[] 0,#[]⟩) ::
(nat_lit 85,⟨.type "code",none,.fields #[.str (.ofString "_escape_attrib_c14n") 368,.str (.ofString "_escape_attrib_c14n") 369,.str (.ofString "/claim/cut.py") 370,.int 63 0,.int 1 0,.int 0 0,.int 0 0,.int 3 0,.ref 80,.bool true,.int 318 0,.ref 81,.none,.ref 82,.ref 83,.ref 84,.int 372 0,.int 63 0,.str (.ofString "/claim/cut.py") 373],#[]⟩) ::
(nat_lit 86,⟨.type "function",none,fn86,#[]⟩) ::
(nat_lit 90,⟨.type "tuple",none,.seq (List.toArray (.int 14 0::.int 14 0::.int 4 0::.int 1 0::.int 1 0::.int 9 0::.int 0 0::.int 64 0::.int 0 0::.int 1342177280 0::.int 0 0::.int 0 0::.int 0 0::.int 0 0::.int 0 0::.int 17 0::.int 0 0::.int 13 0::.int 11 0::.int 9 0::.int 0 0::.int 64 0::.int 0 0::.int 1342177280 0::.int 0 0::.int 0 0::.int 0 0::.int 0 0::.int 0 0::.int 17 0::.int 1 0::.int 1 0::[])) 0,#[]⟩) ::
(nat_lit 91,⟨.type "re.Pattern",none,.fields #[.str (.ofString "([&~|])") 376,.int 32 411,.int 1 0,.none,.none,.ref 90,.int 0 0],#[]⟩) ::
(nat_lit 93,⟨.type "dict",none,.dict #[⟨40,.int 40 416,.str (.ofString "\\(") 420⟩,⟨41,.int 41 422,.str (.ofString "\\)") 426⟩,⟨91,.int 91 428,.str (.ofString "\\[") 432⟩,⟨93,.int 93 434,.str (.ofString "\\]") 438⟩,⟨123,.int 123 440,.str (.ofString "\\{") 444⟩,⟨125,.int 125 446,.str (.ofString "\\}") 450⟩,⟨63,.int 63 452,.str (.ofString "\\?") 456⟩,⟨42,.int 42 458,.str (.ofString "\\*") 462⟩,⟨43,.int 43 464,.str (.ofString "\\+") 468⟩,⟨45,.int 45 470,.str (.ofString "\\-") 474⟩,⟨124,.int 124 476,.str (.ofString "\\|") 480⟩,⟨94,.int 94 482,.str (.ofString "\\^") 486⟩,⟨36,.int 36 488,.str (.ofString "\\$") 492⟩,⟨92,.int 92 494,.str (.ofString "\\\\") 498⟩,⟨46,.int 46 500,.str (.ofString "\\.") 504⟩,⟨38,.int 38 506,.str (.ofString "\\&") 510⟩,⟨126,.int 126 512,.str (.ofString "\\~") 516⟩,⟨35,.int 35 518,.str (.ofString "\\#") 522⟩,⟨32,.int 32 524,.str (.ofString "\\ ") 528⟩,⟨9,.int 9 530,.str (.ofString "\\\t") 534⟩,⟨10,.int 10 536,.str (.ofString "\\\n") 540⟩,⟨13,.int 13 542,.str (.ofString "\\\x0d") 546⟩,⟨11,.int 11 548,.str (.ofString "\\\x0b") 552⟩,⟨12,.int 12 554,.str (.ofString "\\\x0c") 558⟩] 24,#[]⟩) ::
(nat_lit 97,⟨.type "tuple",none,.seq #[] 0,#[]⟩) ::
(nat_lit 99,⟨.type "tuple",none,.seq #[.str (.ofString "pattern") 564] 0,#[]⟩) ::
(nat_lit 100,⟨.type "tuple",none,.seq #[] 0,#[]⟩) ::
(nat_lit 102,⟨.type "code",none,.fields #[.str (.ofString "escape") 561,.str (.ofString "escape") 562,.str (.ofString "/claim/cut.py") 563,.int 83 0,.int 1 0,.int 0 0,.int 0 0,.int 3 0,.ref 97,.bool true,.int 318 0,.ref 98,.none,.ref 99,.ref 100,.ref 101,.int 565 0,.int 83 0,.str (.ofString "/claim/cut.py") 566],#[]⟩) ::
(nat_lit 103,⟨.type "function",none,fn103,#[]⟩) ::
(nat_lit 104,⟨.type "tuple",none,.seq #[] 0,#[]⟩) ::
(nat_lit 106,⟨.type "tuple",none,.seq #[.str (.ofString "pat") 573,.str (.ofString "STAR") 574,.str (.ofString "QUESTION_MARK") 575,.str (.ofString "res") 576,.str (.ofString "add") 577,.str (.ofString "i") 578,.str (.ofString "n") 579,.str (.ofString "c") 580,.str (.ofString "j") 581,.str (.ofString "stuff") 582,.str (.ofString "chunks") 583,.str (.ofString "k") 584,.str (.ofString "chunk") 585] 0,#[]⟩) ::
(nat_lit 107,⟨.type "tuple",none,.seq #[] 0,#[]⟩) ::
(nat_lit 109,⟨.type "code",none,.fields #[.str (.ofString "_translate") 570,.str (.ofString "_translate") 571,.str (.ofString "/claim/cut.py") 572,.int 90 0,.int 3 0,.int 0 0,.int 0 0,.int 3 0,.ref 104,.bool true,.int 318 0,.ref 105,.none,.ref 106,.ref 107,.ref 108,.int 586 0,.int 90 0,.str (.ofString "/claim/cut.py") 587],#[]⟩) ::
(nat_lit 110,⟨.type "function",none,fn110,#[]⟩) ::
(nat_lit 114,⟨.type "tuple",none,.seq (List.toArray (.int 14 0::.int 17 0::.int 4 0::.int 1 0::.int 1 0::.int 21 0::.int 9 0::.int 0 0::.int 604043296 0::.int 1 0::.int 0 0::.int 0 0::.int 0 0::.int 0 0::.int 0 0::.int 8 0::.int 4 0::.int 0 0::.int 13 0::.int 14 0::.int 21 0::.int 9 0::.int 0 0::.int 604043296 0::.int 1 0::.int 0 0::.int 0 0::.int 0 0::.int 0 0::.int 0 0::.int 8 0::.int 4 0::.int 0 0::.int 1 0::[])) 0,#[]⟩) ::
(nat_lit 115,⟨.type "re.Pattern",none,.fields #[.str (.ofString "[^\\w@%+=:,./-]") 590,.int 256 627,.int 0 0,.none,.none,.ref 114,.int 0 0],#[]⟩) ::
(nat_lit 116,⟨.type "tuple",none,.seq #[] 0,#[]⟩) ::
(nat_lit 123,⟨.type "tuple",none,.seq #[] 0,#[]⟩) ::
(nat_lit 125,⟨.type "tuple",none,.seq #[.str (.ofString "n") 642,.str (.ofString "what") 643] 0,#[]⟩) ::
(nat_lit 126,⟨.type "tuple",none,.seq #[] 0,#[]⟩) ::
(nat_lit 128,⟨.type "code",none,.fields #[.str (.ofString "_index") 639,.str (.ofString "_index") 640,.str (.ofString "/claim/cut.py") 641,.int 159 0,.int 2 0,.int 0 0,.int 0 0,.int 3 0,.ref 123,.bool true,.int 318 0,.ref 124,.none,.ref 125,.ref 126,.ref 127,.int 644 0,.int 159 0,.str (.ofString "/claim/cut.py") 645],#[]⟩) ::
(nat_lit 129,⟨.type "function",none,fn129,#[]⟩) ::
(nat_lit 150,⟨.type "tuple",none,.seq #[] 0,#[]⟩) ::
(nat_lit 152,⟨.type "tuple",none,.seq #[.str (.ofString "cls") 686,.str (.ofString "args") 687,.str (.ofString "kwargs") 688] 0,#[]⟩) ::
(nat_lit 153,⟨.type "tuple",none,.seq #[] 0,#[]⟩) ::
(nat_lit 155,⟨.type "code",none,.fields #[.str (.ofString "__new__") 683,.str (.ofString "IOBase.__new__") 684,.str (.ofString "/claim/cut.py") 685,.int 171 0,.int 1 0,.int 1 0,.int 0 0,.int 15 0,.ref 150,.bool true,.int 318 0,.ref 151,.none,.ref 152,.ref 153,.ref 154,.int 689 0,.int 171 0,.str (.ofString "/claim/cut.py") 690],#[]⟩) ::
(nat_lit 156,⟨.type "function",none,fn156,#[]⟩) ::
(nat_lit 157,⟨.type "tuple",none,.seq #[] 0,#[]⟩) ::
(nat_lit 158,⟨.type "dict",none,.dict #[⟨PyData.keyHash P (.ofString "__module__"),.str (.ofString "__module__") 676,.str (.ofString "io") 681⟩,⟨PyData.keyHash P (.ofString "__firstlineno__"),.str (.ofString "__firstlineno__") 680,.int 168 679⟩,⟨PyData.keyHash P (.ofString "__new__"),.str (.ofString "__new__") 691,.ref 160⟩,⟨PyData.keyHash P (.ofString "__static_attributes__"),.str (.ofString "__static_attributes__") 692,.ref 157⟩,⟨PyData.keyHash P (.ofString "__dict__"),.str (.ofString "__dict__") 695,.ref 161⟩,⟨PyData.keyHash P (.ofString "__weakref__"),.str (.ofString "__weakref__") 697,.ref 162⟩,⟨PyData.keyHash P (.ofString "__doc__"),.str (.ofString "__doc__") 698,.none⟩] 4,#[]⟩) ::
(nat_lit 159,⟨.type "type",none,.cls ⟨.ofString "IOBase",[.type "object"],[.ref 159,.type "object"],158,.ofString "IOBase",true,[],[.ref 174,.ref 186],false,none,false⟩,#[none,none,some (.str (.ofString "IOBase") 669),some (.str (.ofString "IOBase") 677),some .none,some (.bool true)]⟩) ::
(nat_lit 160,⟨.type "staticmethod",none,.fields #[.ref 156],#[]⟩) ::
(nat_lit 161,⟨.type "getset_descriptor",none,.fields #[.str (.ofString "__dict__") 694,.ref 159,.builtin "function.__dict__",.builtin "function.__dict__#set"],#[]⟩) ::
(nat_lit 162,⟨.type "getset_descriptor",none,.fields #[.str (.ofString "__weakref__") 696,.ref 159,.builtin "ExceptionGroup.__weakref__",.none],#[]⟩) ::
(nat_lit 174,⟨.type "type",none,.cls ⟨.ofString "BufferedIOBase",[.ref 159],[.ref 174,.ref 159,.type "object"],173,.ofString "BufferedIOBase",true,[],[.ref 416],false,none,false⟩,#[some (.ref 165),none,some (.str (.ofString "BufferedIOBase") 701),some (.str (.ofString "BufferedIOBase") 709),some .none,some (.bool true)]⟩) ::
(nat_lit 184,⟨.type "tuple",none,.seq #[] 0,#[]⟩) ::
(nat_lit 185,⟨.type "dict",none,.dict #[⟨PyData.keyHash P (.ofString "__module__"),.str (.ofString "__module__") 726,.str (.ofString "io") 731⟩,⟨PyData.keyHash P (.ofString "__firstlineno__"),.str (.ofString "__firstlineno__") 730,.int 177 729⟩,⟨PyData.keyHash P (.ofString "__static_attributes__"),.str (.ofString "__static_attributes__") 733,.ref 184⟩,⟨PyData.keyHash P (.ofString "__doc__"),.str (.ofString "__doc__") 734,.none⟩] 2,#[]⟩) ::
(nat_lit 186,⟨.type "type",none,.cls ⟨.ofString "TextIOBase",[.ref 159],[.ref 186,.ref 159,.type "object"],185,.ofString "TextIOBase",true,[],[.ref 663],false,none,false⟩,#[some (.ref 177),none,some (.str (.ofString "TextIOBase") 719),some (.str (.ofString "TextIOBase") 727),some .none,some (.bool true)]⟩) ::
(nat_lit 416,⟨.type "type",none,.cls ⟨.ofString "BytesIO",[.ref 174],[.ref 416,.ref 174,.ref 159,.type "object"],415,.ofString "BytesIO",true,[],[],false,none,false⟩,#[some (.ref 189),none,some (.str (.ofString "BytesIO") 737),some (.str (.ofString "BytesIO") 745),some .none,some (.bool true)]⟩) ::
(nat_lit 426,⟨.type "tuple",none,.seq #[.str (.ofString "") 1013,.str (.ofString "\n") 1014] 0,#[]⟩) ::
(nat_lit 427,⟨.type "tuple",none,.seq #[] 0,#[]⟩) ::
(nat_lit 429,⟨.type "tuple",none,.seq #[.str (.ofString "self") 1018,.str (.ofString "initial_value") 1019,.str (.ofString "newline") 1020] 0,#[]⟩) ::
(nat_lit 430,⟨.type "tuple",none,.seq #[] 0,#[]⟩) ::
(nat_lit 432,⟨.type "code",none,.fields #[.str (.ofString "__init__") 1015,.str (.ofString "StringIO.__init__") 1016,.str (.ofString "/claim/cut.py") 1017,.int 352 0,.int 3 0,.int 0 0,.int 0 0,.int 3 0,.ref 427,.bool true,.int 318 0,.ref 428,.none,.ref 429,.ref 430,.ref 431,.int 1021 0,.int 352 0,.str (.ofString "/claim/cut.py") 1022],#[]⟩) ::
(nat_lit 433,⟨.type "function",none,fn433,#[]⟩) ::
(nat_lit 434,⟨.type "tuple",none,.seq #[] 0,#[]⟩) ::
(nat_lit 436,⟨.type "tuple",none,.seq #[.str (.ofString "self") 1027,.str (.ofString "s") 1028,.str (.ofString "newline") 1029] 0,#[]⟩) ::
(nat_lit 437,⟨.type "tuple",none,.seq #[] 0,#[]⟩) ::
(nat_lit 439,⟨.type "code",none,.fields #[.str (.ofString "__translated") 1024,.str (.ofString "StringIO.__translated") 1025,.str (.ofString "/claim/cut.py") 1026,.int 365 0,.int 2 0,.int 0 0,.int 0 0,.int 3 0,.ref 434,.bool true,.int 318 0,.ref 435,.none,.ref 436,.ref 437,.ref 438,.int 1030 0,.int 365 0,.str (.ofString "/claim/cut.py") 1031],#[]⟩) ::
(nat_lit 440,⟨.type "function",none,fn440,#[]⟩) ::
(nat_lit 441,⟨.type "tuple",none,.seq #[] 0,#[]⟩) ::
(nat_lit 443,⟨.type "tuple",none,.seq #[.str (.ofString "self") 1036] 0,#[]⟩) ::
(nat_lit 444,⟨.type "tuple",none,.seq #[] 0,#[]⟩) ::
(nat_lit 446,⟨.type "code",none,.fields #[.str (.ofString "__check") 1033,.str (.ofString "StringIO.__check") 1034,.str (.ofString "/claim/cut.py") 1035,.int 373 0,.int 1 0,.int 0 0,.int 0 0,.int 3 0,.ref 441,.bool true,.int 318 0,.ref 442,.none,.ref 443,.ref 444,.ref 445,.int 1037 0,.int 373 0,.str (.ofString "/claim/cut.py") 1038],#[]⟩) ::
(nat_lit 447,⟨.type "function",none,fn447,#[]⟩) ::
(nat_lit 600,⟨.type "code",none,.fields #[.str (.ofString "truncate") 1197,.str (.ofString "StringIO.truncate") 1198,.str (.ofString "/claim/cut.py") 1199,.int 492 0,.int 2 0,.int 2 0,.int 0 0,.int 3 0,.ref 595,.bool true,.int 318 0,.ref 596,.none,.ref 597,.ref 598,.ref 599,.int 1202 0,.int 492 0,.str (.ofString "/claim/cut.py") 1203],#[]⟩) ::
(nat_lit 601,⟨.type "function",none,fn601,#[]⟩) ::
(nat_lit 602,⟨.type "tuple",none,.seq #[.int (-1) 1206] 0,#[]⟩) ::
(nat_lit 603,⟨.type "tuple",none,.seq #[] 0,#[]⟩) ::
(nat_lit 605,⟨.type "tuple",none,.seq #[.str (.ofString "self") 1210,.str (.ofString "size") 1211,.str (.ofString "start") 1212,.str (.ofString "stop") 1213] 0,#[]⟩) ::
(nat_lit 606,⟨.type "tuple",none,.seq #[] 0,#[]⟩) ::
(nat_lit 608,⟨.type "code",none,.fields #[.str (.ofString "read") 1207,.str (.ofString "StringIO.read") 1208,.str (.ofString "/claim/cut.py") 1209,.int 495 0,.int 2 0,.int 2 0,.int 0 0,.int 3 0,.ref 603,.bool true,.int 318 0,.ref 604,.none,.ref 605,.ref 606,.ref 607,.int 1214 0,.int 495 0,.str (.ofString "/claim/cut.py") 1215],#[]⟩) ::
(nat_lit 609,⟨.type "function",none,fn609,#[]⟩) ::
(nat_lit 662,⟨.type "dict",none,.dict (List.toArray (⟨PyData.keyHash P (.ofString "__module__"),.str (.ofString "__module__") 1006,.str (.ofString "_io") 1011⟩::⟨PyData.keyHash P (.ofString "__firstlineno__"),.str (.ofString "__firstlineno__") 1010,.int 349 1009⟩::⟨PyData.keyHash P (.ofString "__init__"),.str (.ofString "__init__") 1023,.ref 433⟩::⟨PyData.keyHash P (.ofString "_StringIO__translated"),.str (.ofString "_StringIO__translated") 1032,.ref 440⟩::⟨PyData.keyHash P (.ofString "_StringIO__check"),.str (.ofString "_StringIO__check") 1039,.ref 447⟩::⟨PyData.keyHash P (.ofString "_StringIO__check_dot"),.str (.ofString "_StringIO__check_dot") 1046,.ref 454⟩::⟨PyData.keyHash P (.ofString "_StringIO__line"),.str (.ofString "_StringIO__line") 1061,.ref 461⟩::⟨PyData.keyHash P (.ofString "closed"),.str (.ofString "closed") 1069,.ref 469⟩::⟨PyData.keyHash P (.ofString "line_buffering"),.str (.ofString "line_buffering") 1077,.ref 477⟩::⟨PyData.keyHash P (.ofString "newlines"),.str (.ofString "newlines") 1085,.ref 485⟩::⟨PyData.keyHash P (.ofString "encoding"),.str (.ofString "encoding") 1093,.ref 493⟩::⟨PyData.keyHash P (.ofString "errors"),.str (.ofString "errors") 1101,.ref 501⟩::⟨PyData.keyHash P (.ofString "close"),.str (.ofString "close") 1108,.ref 508⟩::⟨PyData.keyHash P (.ofString "__enter__"),.str (.ofString "__enter__") 1115,.ref 515⟩::⟨PyData.keyHash P (.ofString "__exit__"),.str (.ofString "__exit__") 1123,.ref 522⟩::⟨PyData.keyHash P (.ofString "readable"),.str (.ofString "readable") 1130,.ref 529⟩::⟨PyData.keyHash P (.ofString "writable"),.str (.ofString "writable") 1137,.ref 536⟩::⟨PyData.keyHash P (.ofString "seekable"),.str (.ofString "seekable") 1144,.ref 543⟩::⟨PyData.keyHash P (.ofString "isatty"),.str (.ofString "isatty") 1151,.ref 550⟩::⟨PyData.keyHash P (.ofString "flush"),.str (.ofString "flush") 1158,.ref 557⟩::⟨PyData.keyHash P (.ofString "fileno"),.str (.ofString "fileno") 1165,.ref 564⟩::⟨PyData.keyHash P (.ofString "detach"),.str (.ofString "detach") 1172,.ref 571⟩::⟨PyData.keyHash P (.ofString "getvalue"),.str (.ofString "getvalue") 1179,.ref 578⟩::⟨PyData.keyHash P (.ofString "tell"),.str (.ofString "tell") 1186,.ref 585⟩::⟨PyData.keyHash P (.ofString "seek"),.str (.ofString "seek") 1196,.ref 593⟩::⟨PyData.keyHash P (.ofString "truncate"),.str (.ofString "truncate") 1204,.ref 601⟩::⟨PyData.keyHash P (.ofString "read"),.str (.ofString "read") 1216,.ref 609⟩::⟨PyData.keyHash P (.ofString "readline"),.str (.ofString "readline") 1226,.ref 617⟩::⟨PyData.keyHash P (.ofString "readlines"),.str (.ofString "readlines") 1236,.ref 625⟩::⟨PyData.keyHash P (.ofString "__iter__"),.str (.ofString "__iter__") 1243,.ref 632⟩::⟨PyData.keyHash P (.ofString "__next__"),.str (.ofString "__next__") 1251,.ref 639⟩::⟨PyData.keyHash P (.ofString "write"),.str (.ofString "write") 1263,.ref 646⟩::⟨PyData.keyHash P (.ofString "writelines"),.str (.ofString "writelines") 1271,.ref 653⟩::⟨PyData.keyHash P (.ofString "__repr__"),.str (.ofString "__repr__") 1278,.ref 660⟩::⟨PyData.keyHash P (.ofString "__static_attributes__"),.str (.ofString "__static_attributes__") 1282,.ref 661⟩::⟨PyData.keyHash P (.ofString "__doc__"),.str (.ofString "__doc__") 1283,.none⟩::[])) 2,#[]⟩) ::
(nat_lit 663,⟨.type "type",none,.cls ⟨.ofString "StringIO",[.ref 186],[.ref 663,.ref 186,.ref 159,.type "object"],662,.ofString "StringIO",true,[],[],false,none,false⟩,#[some (.ref 419),none,some (.str (.ofString "StringIO") 999),some (.str (.ofString "StringIO") 1007),some .none,some (.bool true)]⟩) ::
(nat_lit 715,⟨.type "tuple",none,.seq #[.none,.none,.bool false,.bool false] 0,#[]⟩) ::
(nat_lit 716,⟨.type "tuple",none,.seq #[] 0,#[]⟩) ::
(nat_lit 718,⟨.type "tuple",none,.seq #[.str (.ofString "self") 1362,.str (.ofString "instream") 1363,.str (.ofString "infile") 1364,.str (.ofString "posix") 1365,.str (.ofString "punctuation_chars") 1366,.str (.ofString "t") 1367] 0,#[]⟩) ::
(nat_lit 719,⟨.type "tuple",none,.seq #[] 0,#[]⟩) ::
(nat_lit 721,⟨.type "code",none,.fields #[.str (.ofString "__init__") 1359,.str (.ofString "shlex.__init__") 1360,.str (.ofString "/claim/cut.py") 1361,.int 621 0,.int 5 0,.int 0 0,.int 0 0,.int 3 0,.ref 716,.bool true,.int 318 0,.ref 717,.none,.ref 718,.ref 719,.ref 720,.int 1368 0,.int 621 0,.str (.ofString "/claim/cut.py") 1369],#[]⟩) ::
(nat_lit 722,⟨.type "function",none,fn722,#[]⟩) ::
(nat_lit 723,⟨.type "tuple",none,.seq #[] 0,#[]⟩) ::
(nat_lit 725,⟨.type "tuple",none,.seq #[.str (.ofString "self") 1374] 0,#[]⟩) ::
(nat_lit 726,⟨.type "tuple",none,.seq #[] 0,#[]⟩) ::
(nat_lit 728,⟨.type "code",none,.fields #[.str (.ofString "punctuation_chars") 1371,.str (.ofString "shlex.punctuation_chars") 1372,.str (.ofString "/claim/cut.py") 1373,.int 662 0,.int 1 0,.int 0 0,.int 0 0,.int 3 0,.ref 723,.bool true,.int 318 0,.ref 724,.none,.ref 725,.ref 726,.ref 727,.int 1375 0,.int 662 0,.str (.ofString "/claim/cut.py") 1376],#[]⟩) ::
(nat_lit 729,⟨.type "function",none,fn729,#[]⟩) ::
(nat_lit 730,⟨.type "property",none,.fields #[.ref 729,.none,.none,.none,.str (.ofString "punctuation_chars") 1378,.bool false],#[]⟩) ::
(nat_lit 731,⟨.type "tuple",none,.seq #[] 0,#[]⟩) ::
(nat_lit 733,⟨.type "tuple",none,.seq #[.str (.ofString "self") 1382,.str (.ofString "tok") 1383] 0,#[]⟩) ::
(nat_lit 734,⟨.type "tuple",none,.seq #[] 0,#[]⟩) ::
(nat_lit 736,⟨.type "code",none,.fields #[.str (.ofString "push_token") 1379,.str (.ofString "shlex.push_token") 1380,.str (.ofString "/claim/cut.py") 1381,.int 666 0,.int 2 0,.int 0 0,.int 0 0,.int 3 0,.ref 731,.bool true,.int 318 0,.ref 732,.none,.ref 733,.ref 734,.ref 735,.int 1384 0,.int 666 0,.str (.ofString "/claim/cut.py") 1385],#[]⟩) ::
(nat_lit 737,⟨.type "function",none,fn737,#[]⟩) ::
(nat_lit 738,⟨.type "tuple",none,.seq #[.none] 0,#[]⟩) ::
(nat_lit 739,⟨.type "tuple",none,.seq #[] 0,#[]⟩) ::
(nat_lit 741,⟨.type "tuple",none,.seq #[.str (.ofString "self") 1390,.str (.ofString "newstream") 1391,.str (.ofString "newfile") 1392] 0,#[]⟩) ::
(nat_lit 742,⟨.type "tuple",none,.seq #[] 0,#[]⟩) ::
(nat_lit 744,⟨.type "code",none,.fields #[.str (.ofString "push_source") 1387,.str (.ofString "shlex.push_source") 1388,.str (.ofString "/claim/cut.py") 1389,.int 669 0,.int 3 0,.int 0 0,.int 0 0,.int 3 0,.ref 739,.bool true,.int 318 0,.ref 740,.none,.ref 741,.ref 742,.ref 743,.int 1393 0,.int 669 0,.str (.ofString "/claim/cut.py") 1394],#[]⟩) ::
(nat_lit 746,⟨.type "tuple",none,.seq #[] 0,#[]⟩) ::
(nat_lit 748,⟨.type "tuple",none,.seq #[.str (.ofString "self") 1399] 0,#[]⟩) ::
(nat_lit 749,⟨.type "tuple",none,.seq #[] 0,#[]⟩) ::
(nat_lit 751,⟨.type "code",none,.fields #[.str (.ofString "pop_source") 1396,.str (.ofString "shlex.pop_source") 1397,.str (.ofString "/claim/cut.py") 1398,.int 682 0,.int 1 0,.int 0 0,.int 0 0,.int 3 0,.ref 746,.bool true,.int 318 0,.ref 747,.none,.ref 748,.ref 749,.ref 750,.int 1400 0,.int 682 0,.str (.ofString "/claim/cut.py") 1401],#[]⟩) ::
(nat_lit 753,⟨.type "tuple",none,.seq #[] 0,#[]⟩) ::
(nat_lit 755,⟨.type "tuple",none,.seq #[.str (.ofString "self") 1406,.str (.ofString "tok") 1407,.str (.ofString "raw") 1408,.str (.ofString "spec") 1409,.str (.ofString "newfile") 1410,.str (.ofString "newstream") 1411] 0,#[]⟩) ::
(nat_lit 756,⟨.type "tuple",none,.seq #[] 0,#[]⟩) ::
(nat_lit 758,⟨.type "code",none,.fields #[.str (.ofString "get_token") 1403,.str (.ofString "shlex.get_token") 1404,.str (.ofString "/claim/cut.py") 1405,.int 689 0,.int 1 0,.int 0 0,.int 0 0,.int 3 0,.ref 753,.bool true,.int 318 0,.ref 754,.none,.ref 755,.ref 756,.ref 757,.int 1412 0,.int 689 0,.str (.ofString "/claim/cut.py") 1413],#[]⟩) ::
(nat_lit 759,⟨.type "function",none,fn759,#[]⟩) ::
(nat_lit 760,⟨.type "tuple",none,.seq #[] 0,#[]⟩) ::
(nat_lit 762,⟨.type "tuple",none,.seq #[.str (.ofString "self") 1418,.str (.ofString "quoted") 1419,.str (.ofString "escapedstate") 1420,.str (.ofString "nextchar") 1421,.str (.ofString "result") 1422] 0,#[]⟩) ::
(nat_lit 763,⟨.type "tuple",none,.seq #[] 0,#[]⟩) ::
(nat_lit 765,⟨.type "code",none,.fields #[.str (.ofString "read_token") 1415,.str (.ofString "shlex.read_token") 1416,.str (.ofString "/claim/cut.py") 1417,.int 716 0,.int 1 0,.int 0 0,.int 0 0,.int 3 0,.ref 760,.bool true,.int 318 0,.ref 761,.none,.ref 762,.ref 763,.ref 764,.int 1423 0,.int 716 0,.str (.ofString "/claim/cut.py") 1424],#[]⟩) ::
(nat_lit 766,⟨.type "function",none,fn766,#[]⟩) ::
(nat_lit 767,⟨.type "tuple",none,.seq #[] 0,#[]⟩) ::
(nat_lit 769,⟨.type "tuple",none,.seq #[.str (.ofString "self") 1429,.str (.ofString "newfile") 1430] 0,#[]⟩) ::
(nat_lit 770,⟨.type "tuple",none,.seq #[] 0,#[]⟩) ::
(nat_lit 772,⟨.type "code",none,.fields #[.str (.ofString "sourcehook") 1426,.str (.ofString "shlex.sourcehook") 1427,.str (.ofString "/claim/cut.py") 1428,.int 853 0,.int 2 0,.int 0 0,.int 0 0,.int 3 0,.ref 767,.bool true,.int 318 0,.ref 768,.none,.ref 769,.ref 770,.ref 771,.int 1431 0,.int 853 0,.str (.ofString "/claim/cut.py") 1432],#[]⟩) ::
(nat_lit 774,⟨.type "tuple",none,.seq #[.none,.none] 0,#[]⟩) ::
(nat_lit 775,⟨.type "tuple",none,.seq #[] 0,#[]⟩) ::
(nat_lit 777,⟨.type "tuple",none,.seq #[.str (.ofString "self") 1437,.str (.ofString "infile") 1438,.str (.ofString "lineno") 1439] 0,#[]⟩) ::
(nat_lit 778,⟨.type "tuple",none,.seq #[] 0,#[]⟩) ::
(nat_lit 780,⟨.type "code",none,.fields #[.str (.ofString "error_leader") 1434,.str (.ofString "shlex.error_leader") 1435,.str (.ofString "/claim/cut.py") 1436,.int 860 0,.int 3 0,.int 0 0,.int 0 0,.int 3 0,.ref 775,.bool true,.int 318 0,.ref 776,.none,.ref 777,.ref 778,.ref 779,.int 1440 0,.int 860 0,.str (.ofString "/claim/cut.py") 1441],#[]⟩) ::
(nat_lit 782,⟨.type "tuple",none,.seq #[] 0,#[]⟩) ::
(nat_lit 784,⟨.type "tuple",none,.seq #[.str (.ofString "self") 1446] 0,#[]⟩) ::
(nat_lit 785,⟨.type "tuple",none,.seq #[] 0,#[]⟩) ::
(nat_lit 787,⟨.type "code",none,.fields #[.str (.ofString "__iter__") 1443,.str (.ofString "shlex.__iter__") 1444,.str (.ofString "/claim/cut.py") 1445,.int 863 0,.int 1 0,.int 0 0,.int 0 0,.int 3 0,.ref 782,.bool true,.int 318 0,.ref 783,.none,.ref 784,.ref 785,.ref 786,.int 1447 0,.int 863 0,.str (.ofString "/claim/cut.py") 1448],#[]⟩) ::
(nat_lit 788,⟨.type "function",none,fn788,#[]⟩) ::
(nat_lit 789,⟨.type "tuple",none,.seq #[] 0,#[]⟩) ::
(nat_lit 791,⟨.type "tuple",none,.seq #[.str (.ofString "self") 1453,.str (.ofString "token") 1454] 0,#[]⟩) ::
(nat_lit 792,⟨.type "tuple",none,.seq #[] 0,#[]⟩) ::
(nat_lit 794,⟨.type "code",none,.fields #[.str (.ofString "__next__") 1450,.str (.ofString "shlex.__next__") 1451,.str (.ofString "/claim/cut.py") 1452,.int 866 0,.int 1 0,.int 0 0,.int 0 0,.int 3 0,.ref 789,.bool true,.int 318 0,.ref 790,.none,.ref 791,.ref 792,.ref 793,.int 1455 0,.int 866 0,.str (.ofString "/claim/cut.py") 1456],#[]⟩) ::
(nat_lit 795,⟨.type "function",none,fn795,#[]⟩) ::
(nat_lit 796,⟨.type "tuple",none,.seq #[.str (.ofString "_punctuation_chars") 1458,.str (.ofString "_pushback_chars") 1459,.str (.ofString "commenters") 1460,.str (.ofString "debug") 1461,.str (.ofString "eof") 1462,.str (.ofString "escape") 1463,.str (.ofString "escapedquotes") 1464,.str (.ofString "filestack") 1465,.str (.ofString "infile") 1466,.str (.ofString "instream") 1467,.str (.ofString "lineno") 1468,.str (.ofString "posix") 1469,.str (.ofString "pushback") 1470,.str (.ofString "quotes") 1471,.str (.ofString "source") 1472,.str (.ofString "state") 1473,.str (.ofString "token") 1474,.str (.ofString "whitespace") 1475,.str (.ofString "whitespace_split") 1476,.str (.ofString "wordchars") 1477] 0,#[]⟩) ::
(nat_lit 797,⟨.type "dict",none,.dict #[⟨PyData.keyHash P (.ofString "__module__"),.str (.ofString "__module__") 1354,.str (.ofString "cpy313.shlex") 1345⟩,⟨PyData.keyHash P (.ofString "__firstlineno__"),.str (.ofString "__firstlineno__") 1358,.int 619 1357⟩,⟨PyData.keyHash P (.ofString "__init__"),.str (.ofString "__init__") 1370,.ref 722⟩,⟨PyData.keyHash P (.ofString "punctuation_chars"),.str (.ofString "punctuation_chars") 1378,.ref 730⟩,⟨PyData.keyHash P (.ofString "push_token"),.str (.ofString "push_token") 1386,.ref 737⟩,⟨PyData.keyHash P (.ofString "push_source"),.str (.ofString "push_source") 1395,.ref 745⟩,⟨PyData.keyHash P (.ofString "pop_source"),.str (.ofString "pop_source") 1402,.ref 752⟩,⟨PyData.keyHash P (.ofString "get_token"),.str (.ofString "get_token") 1414,.ref 759⟩,⟨PyData.keyHash P (.ofString "read_token"),.str (.ofString "read_token") 1425,.ref 766⟩,⟨PyData.keyHash P (.ofString "sourcehook"),.str (.ofString "sourcehook") 1433,.ref 773⟩,⟨PyData.keyHash P (.ofString "error_leader"),.str (.ofString "error_leader") 1442,.ref 781⟩,⟨PyData.keyHash P (.ofString "__iter__"),.str (.ofString "__iter__") 1449,.ref 788⟩,⟨PyData.keyHash P (.ofString "__next__"),.str (.ofString "__next__") 1457,.ref 795⟩,⟨PyData.keyHash P (.ofString "__static_attributes__"),.str (.ofString "__static_attributes__") 1478,.ref 796⟩,⟨PyData.keyHash P (.ofString "__dict__"),.str (.ofString "__dict__") 1480,.ref 799⟩,⟨PyData.keyHash P (.ofString "__weakref__"),.str (.ofString "__weakref__") 1482,.ref 800⟩,⟨PyData.keyHash P (.ofString "__doc__"),.str (.ofString "__doc__") 1483,.none⟩] 4,#[]⟩) ::
(nat_lit 798,⟨.type "type",none,.cls ⟨.ofString "shlex",[.type "object"],[.ref 798,.type "object"],797,.ofString "shlex",true,[],[],false,none,false⟩,#[none,none,some (.str (.ofString "shlex") 1347),some (.str (.ofString "shlex") 1355),some (.builtin "object.__new__"),some (.bool true)]⟩) ::
(nat_lit 799,⟨.type "getset_descriptor",none,.fields #[.str (.ofString "__dict__") 1479,.ref 798,.builtin "function.__dict__",.builtin "function.__dict__#set"],#[]⟩) ::
(nat_lit 800,⟨.type "getset_descriptor",none,.fields #[.str (.ofString "__weakref__") 1481,.ref 798,.builtin "ExceptionGroup.__weakref__",.none],#[]⟩) ::
(nat_lit 803,⟨.type "tuple",none,.seq #[.bool false,.bool true] 0,#[]⟩) ::
(nat_lit 804,⟨.type "tuple",none,.seq #[] 0,#[]⟩) ::
(nat_lit 806,⟨.type "tuple",none,.seq #[.str (.ofString "s") 1489,.str (.ofString "comments") 1490,.str (.ofString "posix") 1491,.str (.ofString "lex") 1492] 0,#[]⟩) ::
(nat_lit 807,⟨.type "tuple",none,.seq #[] 0,#[]⟩) ::
(nat_lit 809,⟨.type "code",none,.fields #[.str (.ofString "split") 1486,.str (.ofString "split") 1487,.str (.ofString "/claim/cut.py") 1488,.int 871 0,.int 3 0,.int 0 0,.int 0 0,.int 3 0,.ref 804,.bool true,.int 318 0,.ref 805,.none,.ref 806,.ref 807,.ref 808,.int 1493 0,.int 871 0,.str (.ofString "/claim/cut.py") 1494],#[]⟩) ::
(nat_lit 810,⟨.type "function",none,fn810,#[]⟩) ::
(nat_lit 811,⟨.type "tuple",none,.seq #[] 0,#[]⟩) ::
(nat_lit 813,⟨.type "tuple",none,.seq #[.str (.ofString "split_command") 1499] 0,#[]⟩) ::
(nat_lit 814,⟨.type "tuple",none,.seq #[] 0,#[]⟩) ::
(nat_lit 816,⟨.type "code",none,.fields #[.str (.ofString "join") 1496,.str (.ofString "join") 1497,.str (.ofString "/claim/cut.py") 1498,.int 879 0,.int 1 0,.int 0 0,.int 0 0,.int 3 0,.ref 811,.bool true,.int 318 0,.ref 812,.none,.ref 813,.ref 814,.ref 815,.int 1500 0,.int 879 0,.str (.ofString "/claim/cut.py") 1501],#[]⟩) ::
(nat_lit 817,⟨.type "function",none,fn817,#[]⟩) ::
(nat_lit 818,⟨.type "builtin_function_or_method",none,.fields #[.builtin "re.Pattern.search",.ref 115],#[]⟩) ::
(nat_lit 819,⟨.type "tuple",none,.seq #[] 0,#[]⟩) ::
(nat_lit 821,⟨.type "tuple",none,.seq #[.str (.ofString "s") 1509] 0,#[]⟩) ::
(nat_lit 822,⟨.type "tuple",none,.seq #[] 0,#[]⟩) ::
(nat_lit 824,⟨.type "code",none,.fields #[.str (.ofString "quote") 1506,.str (.ofString "quote") 1507,.str (.ofString "/claim/cut.py") 1508,.int 883 0,.int 1 0,.int 0 0,.int 0 0,.int 3 0,.ref 819,.bool true,.int 318 0,.ref 820,.none,.ref 821,.ref 822,.ref 823,.int 1510 0,.int 883 0,.str (.ofString "/claim/cut.py") 1511],#[]⟩) ::
(nat_lit 825,⟨.type "function",none,fn825,#[]⟩) ::
(nat_lit 826,⟨.type "tuple",none,.seq #[] 0,#[]⟩) ::
(nat_lit 828,⟨.type "tuple",none,.seq #[.str (.ofString "cdata") 1518,.str (.ofString "attrib") 1519,.str (.ofString "html") 1520,.str (.ofString "plain") 1521,.str (.ofString "named") 1522] 0,#[]⟩) ::
(nat_lit 829,⟨.type "tuple",none,.seq #[] 0,#[]⟩) ::
(nat_lit 831,⟨.type "code",none,.fields #[.str (.ofString "_law_tables") 1515,.str (.ofString "_law_tables") 1516,.str (.ofString "/claim/cut.py") 1517,.int 890 0,.int 0 0,.int 0 0,.int 0 0,.int 3 0,.ref 826,.bool true,.int 318 0,.ref 827,.none,.ref 828,.ref 829,.ref 830,.int 1523 0,.int 890 0,.str (.ofString "/claim/cut.py") 1524],#[]⟩) ::
(nat_lit 832,⟨.type "function",none,fn832,#[]⟩) ::
(nat_lit 833,⟨.type "tuple",none,.seq #[] 0,#[]⟩) ::
(nat_lit 835,⟨.type "tuple",none,.seq #[.str (.ofString "n") 1529,.str (.ofString "signs") 1530] 0,#[]⟩) ::
(nat_lit 836,⟨.type "tuple",none,.seq #[] 0,#[]⟩) ::
(nat_lit 838,⟨.type "code",none,.fields #[.str (.ofString "_law_word") 1526,.str (.ofString "_law_word") 1527,.str (.ofString "/claim/cut.py") 1528,.int 897 0,.int 1 0,.int 0 0,.int 0 0,.int 3 0,.ref 833,.bool true,.int 318 0,.ref 834,.none,.ref 835,.ref 836,.ref 837,.int 1531 0,.int 897 0,.str (.ofString "/claim/cut.py") 1532],#[]⟩) ::
(nat_lit 839,⟨.type "function",none,fn839,#[]⟩) ::
(nat_lit 840,⟨.type "tuple",none,.seq #[] 0,#[]⟩) ::
(nat_lit 843,⟨.type "code",none,.fields #[.str (.ofString "_law_takes") 1534,.str (.ofString "_law_takes") 1535,.str (.ofString "/claim/cut.py") 1536,.int 900 0,.int 2 0,.int 0 0,.int 0 0,.int 3 0,.ref 840,.bool true,.int 318 0,.ref 841,.none,.none,.none,.ref 842,.int 1537 0,.int 900 0,.str (.ofString "/claim/cut.py") 1538],#[]⟩) ::
(nat_lit 844,⟨.type "function",none,fn844,#[]⟩) ::
(nat_lit 845,⟨.type "tuple",none,.seq #[] 0,#[]⟩) ::
(nat_lit 847,⟨.type "tuple",none,.seq #[.str (.ofString "writer") 1543,.str (.ofString "thing") 1544] 0,#[]⟩) ::
(nat_lit 848,⟨.type "tuple",none,.seq #[] 0,#[]⟩) ::
(nat_lit 850,⟨.type "code",none,.fields #[.str (.ofString "_law_refuses") 1540,.str (.ofString "_law_refuses") 1541,.str (.ofString "/claim/cut.py") 1542,.int 912 0,.int 2 0,.int 0 0,.int 0 0,.int 3 0,.ref 845,.bool true,.int 318 0,.ref 846,.none,.ref 847,.ref 848,.ref 849,.int 1545 0,.int 912 0,.str (.ofString "/claim/cut.py") 1546],#[]⟩) ::
(nat_lit 851,⟨.type "function",none,fn851,#[]⟩) ::
(nat_lit 852,⟨.type "tuple",none,.seq #[] 0,#[]⟩) ::
(nat_lit 855,⟨.type "code",none,.fields #[.str (.ofString "_law_told") 1548,.str (.ofString "_law_told") 1549,.str (.ofString "/claim/cut.py") 1550,.int 918 0,.int 2 0,.int 0 0,.int 0 0,.int 3 0,.ref 852,.bool true,.int 318 0,.ref 853,.none,.none,.none,.ref 854,.int 1551 0,.int 918 0,.str (.ofString "/claim/cut.py") 1552],#[]⟩) ::
(nat_lit 856,⟨.type "function",none,fn856,#[]⟩) ::
(nat_lit 857,⟨.type "tuple",none,.seq #[] 0,#[]⟩) ::
(nat_lit 860,⟨.type "code",none,.fields #[.str (.ofString "_law_due") 1554,.str (.ofString "_law_due") 1555,.str (.ofString "/claim/cut.py") 1556,.int 925 0,.int 1 0,.int 0 0,.int 0 0,.int 3 0,.ref 857,.bool true,.int 318 0,.ref 858,.none,.none,.none,.ref 859,.int 1557 0,.int 925 0,.str (.ofString "/claim/cut.py") 1558],#[]⟩) ::
(nat_lit 861,⟨.type "function",none,fn861,#[]⟩) ::
(nat_lit 862,⟨.type "tuple",none,.seq #[] 0,#[]⟩) ::
(nat_lit 865,⟨.type "code",none,.fields #[.str (.ofString "law") 1560,.str (.ofString "law") 1561,.str (.ofString "/claim/cut.py") 1562,.int 937 0,.int 1 0,.int 0 0,.int 0 0,.int 3 0,.ref 862,.bool true,.int 318 0,.ref 863,.none,.none,.none,.ref 864,.int 1563 0,.int 937 0,.str (.ofString "/claim/cut.py") 1564],#[]⟩) ::
(nat_lit 866,⟨.type "function",none,fn866,#[]⟩) :: []) = b → (Params → Frag)) _ ?h
  case f => exact fun b _ => b
  case h => (delta fn44 fn51 fn58 fn65 fn72 fn79 fn86 fn103 fn110 fn129 fn156 fn433 fn440 fn447 fn601 fn609 fn722 fn729 fn737 fn759 fn766 fn788 fn795 fn810 fn817 fn825 fn832 fn839 fn844 fn851 fn856 fn861 fn866; exact rfl)
noncomputable abbrev hdAs : List Addr := nat_lit 2 :: nat_lit 3 :: nat_lit 38 :: nat_lit 40 :: nat_lit 41 :: nat_lit 43 :: nat_lit 44 :: nat_lit 45 :: nat_lit 47 :: nat_lit 48 :: nat_lit 50 :: nat_lit 51 :: nat_lit 52 :: nat_lit 54 :: nat_lit 55 :: nat_lit 57 :: nat_lit 58 :: nat_lit 59 :: nat_lit 61 :: nat_lit 62 :: nat_lit 64 :: nat_lit 65 :: nat_lit 66 :: nat_lit 68 :: nat_lit 69 :: nat_lit 71 :: nat_lit 72 :: nat_lit 73 :: nat_lit 75 :: nat_lit 76 :: nat_lit 78 :: nat_lit 79 :: nat_lit 80 :: nat_lit 82 :: nat_lit 83 :: nat_lit 85 :: nat_lit 86 :: nat_lit 90 :: nat_lit 91 :: nat_lit 93 :: nat_lit 97 :: nat_lit 99 :: nat_lit 100 :: nat_lit 102 :: nat_lit 103 :: nat_lit 104 :: nat_lit 106 :: nat_lit 107 :: nat_lit 109 :: nat_lit 110 :: nat_lit 114 :: nat_lit 115 :: nat_lit 116 :: nat_lit 123 :: nat_lit 125 :: nat_lit 126 :: nat_lit 128 :: nat_lit 129 :: nat_lit 150 :: nat_lit 152 :: nat_lit 153 :: nat_lit 155 :: nat_lit 156 :: nat_lit 157 :: nat_lit 158 :: nat_lit 159 :: nat_lit 160 :: nat_lit 161 :: nat_lit 162 :: nat_lit 174 :: nat_lit 184 :: nat_lit 185 :: nat_lit 186 :: nat_lit 416 :: nat_lit 426 :: nat_lit 427 :: nat_lit 429 :: nat_lit 430 :: nat_lit 432 :: nat_lit 433 :: nat_lit 434 :: nat_lit 436 :: nat_lit 437 :: nat_lit 439 :: nat_lit 440 :: nat_lit 441 :: nat_lit 443 :: nat_lit 444 :: nat_lit 446 :: nat_lit 447 :: nat_lit 600 :: nat_lit 601 :: nat_lit 602 :: nat_lit 603 :: nat_lit 605 :: nat_lit 606 :: nat_lit 608 :: nat_lit 609 :: nat_lit 662 :: nat_lit 663 :: nat_lit 715 :: nat_lit 716 :: nat_lit 718 :: nat_lit 719 :: nat_lit 721 :: nat_lit 722 :: nat_lit 723 :: nat_lit 725 :: nat_lit 726 :: nat_lit 728 :: nat_lit 729 :: nat_lit 730 :: nat_lit 731 :: nat_lit 733 :: nat_lit 734 :: nat_lit 736 :: nat_lit 737 :: nat_lit 738 :: nat_lit 739 :: nat_lit 741 :: nat_lit 742 :: nat_lit 744 :: nat_lit 746 :: nat_lit 748 :: nat_lit 749 :: nat_lit 751 :: nat_lit 753 :: nat_lit 755 :: nat_lit 756 :: nat_lit 758 :: nat_lit 759 :: nat_lit 760 :: nat_lit 762 :: nat_lit 763 :: nat_lit 765 :: nat_lit 766 :: nat_lit 767 :: nat_lit 769 :: nat_lit 770 :: nat_lit 772 :: nat_lit 774 :: nat_lit 775 :: nat_lit 777 :: nat_lit 778 :: nat_lit 780 :: nat_lit 782 :: nat_lit 784 :: nat_lit 785 :: nat_lit 787 :: nat_lit 788 :: nat_lit 789 :: nat_lit 791 :: nat_lit 792 :: nat_lit 794 :: nat_lit 795 :: nat_lit 796 :: nat_lit 797 :: nat_lit 798 :: nat_lit 799 :: nat_lit 800 :: nat_lit 803 :: nat_lit 804 :: nat_lit 806 :: nat_lit 807 :: nat_lit 809 :: nat_lit 810 :: nat_lit 811 :: nat_lit 813 :: nat_lit 814 :: nat_lit 816 :: nat_lit 817 :: nat_lit 818 :: nat_lit 819 :: nat_lit 821 :: nat_lit 822 :: nat_lit 824 :: nat_lit 825 :: nat_lit 826 :: nat_lit 828 :: nat_lit 829 :: nat_lit 831 :: nat_lit 832 :: nat_lit 833 :: nat_lit 835 :: nat_lit 836 :: nat_lit 838 :: nat_lit 839 :: nat_lit 840 :: nat_lit 843 :: nat_lit 844 :: nat_lit 845 :: nat_lit 847 :: nat_lit 848 :: nat_lit 850 :: nat_lit 851 :: nat_lit 852 :: nat_lit 855 :: nat_lit 856 :: nat_lit 857 :: nat_lit 860 :: nat_lit 861 :: nat_lit 862 :: nat_lit 865 :: nat_lit 866 :: []
theorem hdAs_is : ∀ P, hdAs = (hd.heap_1 P).map (·.1) := fun _ => by kernel_rfl
theorem runC_all (w : World) : RunC hd.heap_1 hdAs [105] w := by
  unfold RunC openSeen openGood
  rw [PySem.W.Fast.te10110043849684766642, PySem.W.Fast.te14364793385576792824, PySem.W.Fast.te5923862056798008813, PySem.W.Fast.te5160383126252970620, PySem.W.Fast.te3399658132070893891, PySem.W.Fast.te5991557255702980513, PySem.W.Fast.te10880121769531294198, PySem.W.Fast.te821141287760084731, PySem.W.Fast.te479339242167458305, PySem.W.Fast.te16090120013241838585, PySem.W.Fast.te3247288618530077131, PySem.W.Fast.te2386780881361962483, PySem.W.Fast.te11698064438423848299, PySem.W.Fast.te7317090234206586261, PySem.W.Fast.te7369524293546568484]
  kernel_rfl
theorem left_hd : LeftO prr vw lo14 xtT (Hook.obs (kmHook hd.heap_1 hdAs hdAs_is [105])) (Hook.val (kmHook hd.heap_1 hdAs hdAs_is [105])) 13554 := left_k runB_all runC_all
end Mine
namespace Mine
theorem fill0 : (fun (_ : OpenLaw) (_ : Params → Frag) => True) PySem.Challenge.rw_ik0168_01 hd.heap_1 := by
  k_fill
  trivial
theorem om_neg (n : Nat) : (-9223372036854775808 : Int) < (n : Int) := Int.lt_of_lt_of_le (by decide) (Int.natCast_nonneg n)
theorem om_top {n : Nat} (h : n ≤ 1000) : (n : Int) < 9223372036854775808 := Int.lt_of_le_of_lt (Int.ofNat_le.mpr h) (by decide)
theorem om_top2 {n m : Nat} (h : n < m) (h' : m ≤ 1000) : (n : Int) < 9223372036854775808 := om_top (Nat.le_trans (Nat.le_of_lt h) h')
theorem om_lo (a b : Nat) : -(a : Int) ≤ (b : Int) := Int.le_trans (Int.neg_nonpos_of_nonneg (Int.natCast_nonneg a)) (Int.natCast_nonneg b)
theorem om_lo0 (a : Nat) : -(a : Int) ≤ 0 := Int.neg_nonpos_of_nonneg (Int.natCast_nonneg a)
theorem om_big {n : Nat} (h : n ≤ 1000) : n ≤ 16777216 := Nat.le_trans h (by decide)
theorem om_far {n : Nat} (h : n ≤ 1000) : ¬ ((n : Int) ≥ 2 ^ 63) := fun q => absurd (Int.le_trans q (Int.ofNat_le.mpr h)) (by decide)
theorem on2 {a b : Nat} {p q : Prop} (h : p ∧ b ≠ a ∧ q) : a ≠ b := Ne.symm h.2.1
theorem on4 {a b : Nat} {p q r s : Prop} (h : p ∧ q ∧ r ∧ b ≠ a ∧ s) : a ≠ b := Ne.symm h.2.2.2.1
theorem on5 {a b : Nat} {p q r s t : Prop} (h : p ∧ q ∧ r ∧ s ∧ b ≠ a ∧ t) : a ≠ b := Ne.symm h.2.2.2.2.1
theorem on6 {a b : Nat} {p q r s t u : Prop} (h : p ∧ q ∧ r ∧ s ∧ t ∧ b < a ∧ u) : a ≠ b := Nat.ne_of_gt h.2.2.2.2.2.1
theorem ol2 {a b : Nat} (h : a ≤ b) : a ≤ b + 1 + 1 := Nat.le_succ_of_le (Nat.le_succ_of_le h)
theorem ol4 {a b : Nat} (h : a ≤ b) : a ≤ b + 1 + 1 + 1 + 1 := ol2 (ol2 h)
theorem ol5 {a b c : Nat} (h : a < b) : a < b + c := Nat.lt_of_lt_of_le h (Nat.le_add_right _ _)
local macro_rules | `(tactic| omega) => `(tactic| first
  | with_reducible first
    | assumption
    | (show @Ne Nat _ _; first | exact Ne.symm ‹_› | exact Nat.ne_of_gt ‹_› | exact on2 ‹_› | exact on4 ‹_› | exact on5 ‹_› | exact on6 ‹_›)
    | (show @LE.le Nat _ _ _; first | exact om_big ‹_› | exact Nat.le_succ_of_le ‹_› | exact ol2 ‹_› | exact ol4 ‹_›)
    | exact Nat.succ_pos _
    | exact om_neg _
    | exact om_lo _ _
    | exact om_lo0 _
    | exact om_top ‹_›
    | exact om_far ‹_›
    | exact Int.ofNat_lt.mpr ‹_›
    | exact ol5 ‹_›
  | exact Nat.le_of_ble_eq_true rfl
  | decide
  | omega +splitDisjunctions)

theorem sub_r {α : Type} {l : List α} : ∀ q ∈ l, q ∈ l := fun _ h => h
theorem sub_n {α : Type} {l : List α} : ∀ q ∈ ([] : List α), q ∈ l := fun _ h => nomatch h
theorem sub_c {α : Type} {a : α} {l l' : List α} (h : a ∈ l') (t : ∀ q ∈ l, q ∈ l') : ∀ q ∈ a :: l, q ∈ l' := fun q hq => by
  cases hq with
  | head => exact h
  | tail _ hq => exact t q hq
theorem sub_t {α : Type} {a : α} {l l' : List α} (t : ∀ q ∈ l, q ∈ l') : ∀ q ∈ l, q ∈ a :: l' := fun q hq => .tail _ (t q hq)
theorem all_c {α : Type} {P : α → Prop} {a : α} {l : List α} (h : P a) (t : ∀ q ∈ l, P q) : ∀ q ∈ a :: l, P q := fun q hq => by
  cases hq with
  | head => exact h
  | tail _ hq => exact t q hq
theorem mk_off {I C D a : Nat} (f : @Ne Nat a I ∧ @Ne Nat a C ∧ @Ne Nat a D) : a ≠ I ∧ a ≠ D ∧ a ∉ [C] := ⟨f.1, f.2.2, fun q' => f.2.1 (List.mem_singleton.mp q')⟩

/-- a def's env, its address last; what stands around its body, as one term -/
noncomputable abbrev eF (q : Str) (sc : Scope) (f : Addr) (cd : Value) (L : Addr) : Env := envOf q sc L f cd
noncomputable abbrev aF (D U : Nat) (q : Str) (sc : Scope) (f : Addr) (cd : Value) (o : List Env) (L : Addr) : Around := Around.deeper ⟨none, D, some o, some [], U⟩ (eF q sc f cd L)
theorem wp_enter {w : World} {p : Program} {D U : Nat} {A₁ : Around} {base g : Heap} {e : Env} {o : List Env} {q : Str} {sc : Scope} {f : Addr} {cd : Value} {L : Addr} {body : List Stmt} {Q : Flow → Shared → Prop} {E : Value → Shared → Prop} {s : Shared}
    (B : Below A₁ base (e :: o) g) (h : ∀ A₂ o', Below A₂ base o' g → wpAny (model p w) (aF D U q sc f cd o' L) (execs body (eF q sc f cd L)) Q E s) :
    wpAny (model p w) (Around.deeper ⟨none, D, some (e :: o), some [], U⟩ (envOf q sc L f cd)) (execs body (envOf q sc L f cd)) Q E s := h A₁ (e :: o) B
noncomputable abbrev eFC (q : Str) (sc : Scope) (f : Addr) (cd : Value) (L : Addr) : Env := envOfC q sc L f cd
noncomputable abbrev aFC (D U : Nat) (q : Str) (sc : Scope) (f : Addr) (cd : Value) (o : List Env) (L : Addr) : Around := Around.deeper ⟨none, D, some o, some [], U⟩ (eFC q sc f cd L)
theorem wp_enterC {w : World} {p : Program} {D U : Nat} {A₁ : Around} {base g : Heap} {e : Env} {o : List Env} {q : Str} {sc : Scope} {f : Addr} {cd : Value} {L : Addr} {body : List Stmt} {Q : Flow → Shared → Prop} {E : Value → Shared → Prop} {s : Shared}
    (B : Below A₁ base (e :: o) g) (h : ∀ A₂ o', Below A₂ base o' g → wpAny (model p w) (aFC D U q sc f cd o' L) (execs body (eFC q sc f cd L)) Q E s) :
    wpAny (model p w) (Around.deeper ⟨none, D, some (e :: o), some [], U⟩ (envOfC q sc L f cd)) (execs body (envOfC q sc L f cd)) Q E s := h A₁ (e :: o) B

local macro_rules | `(tactic| x_close) => `(tactic| (apply_assumption; assumption))
section
open PySem

/-- one sign turned into a text, the others kept -/
noncomputable def put (c : Nat) (r : List Nat) (t : List Nat) : List Nat := t.flatMap fun x => if x = c then r else [x]

theorem put_free (c : Nat) (r : List Nat) : ∀ l : List Nat, c ∉ l → put c r l = l
  | [], _ => rfl
  | k :: l, h => by
    have h1 : ¬ k = c := fun e => h (e ▸ List.mem_cons_self ..)
    have h2 : c ∉ l := fun m => h (List.mem_cons_of_mem _ m)
    have ih := put_free c r l h2
    unfold put at ih ⊢
    rw [List.flatMap_cons, if_neg h1, ih]; rfl

theorem put_append (c : Nat) (r : List Nat) (a b : List Nat) : put c r (a ++ b) = put c r a ++ put c r b := by
  unfold put; rw [List.flatMap_append]

theorem put_one (c : Nat) (r : List Nat) : put c r [c] = r := by simp [put]

theorem put_join (c : Nat) (z : Str) : ∀ parts : List Str, (∀ p ∈ parts, c ∉ p.cps.toList) → put c z.cps.toList (Str.join ⟨#[c]⟩ parts).cps.toList = (Str.join z parts).cps.toList
  | [], _ => rfl
  | [p], h => put_free c _ _ (h p (List.mem_singleton.mpr rfl))
  | p :: q :: r, h => by
    have ih := put_join c z (q :: r) fun a ha => h a (List.mem_cons_of_mem _ ha)
    show put c z.cps.toList (p ++ ⟨#[c]⟩ ++ Str.join ⟨#[c]⟩ (q :: r)).cps.toList = (p ++ z ++ Str.join z (q :: r)).cps.toList
    simp only [Str.cps_append, Array.toList_append]
    rw [put_append, put_append, ih, put_free c _ _ (h p (List.mem_cons_self ..))]
    show p.cps.toList ++ put c z.cps.toList [c] ++ _ = _
    rw [put_one]

theorem replace_put (x z : Str) (c : Nat) : (Txt.replace x ⟨#[c]⟩ z).cps.toList = put c z.cps.toList x.cps.toList := by
  rw [StrLaws.replace_one, ← put_join c z _ (StrLaws.split_free x c), StrLaws.join_split]

/-- the same, of texts -/
noncomputable def putS (c : Nat) (z : Str) (x : Str) : Str := ⟨(put c z.cps.toList x.cps.toList).toArray⟩

theorem replace_putS (x z : Str) (c : Nat) : Txt.replace x ⟨#[c]⟩ z = putS c z x := by
  apply Str.ext'
  show (Txt.replace x ⟨#[c]⟩ z).cps = (put c z.cps.toList x.cps.toList).toArray
  rw [← replace_put]

theorem putS_free {c : Nat} {z x : Str} (h : decide (c ∈ x.cps.toList) = false) : putS c z x = x := by
  apply Str.ext'
  show (put c z.cps.toList x.cps.toList).toArray = x.cps
  rw [put_free c _ _ (of_decide_eq_false h)]

/-- what a table makes of a sign -/
noncomputable abbrev Tab := List (Nat × List Nat)
noncomputable def Tab.of (T : Tab) (c : Nat) : List Nat := match T.lookup c with
  | some r => r
  | none => [c]
noncomputable def Tab.ref (T : Tab) (c : Nat) : List Nat := match T.lookup c with
  | some r => r
  | none => []
noncomputable def esc (T : Tab) (t : List Nat) : List Nat := t.flatMap T.of

/-- one after the other -/
noncomputable def seqPut : Tab → List Nat → List Nat
  | [], t => t
  | (c, r) :: T, t => seqPut T (put c r t)

theorem seqPut_append : ∀ (T : Tab) (a b : List Nat), seqPut T (a ++ b) = seqPut T a ++ seqPut T b
  | [], _, _ => rfl
  | (c, r) :: T, a, b => by
    show seqPut T (put c r (a ++ b)) = seqPut T (put c r a) ++ seqPut T (put c r b)
    rw [put_append, seqPut_append T]

theorem seqPut_nil : ∀ T : Tab, seqPut T [] = []
  | [] => rfl
  | (_, _) :: T => seqPut_nil T

theorem seqPut_flat (T : Tab) : ∀ t : List Nat, seqPut T t = t.flatMap fun c => seqPut T [c]
  | [] => seqPut_nil T
  | c :: t => by
    rw [List.flatMap_cons, ← seqPut_flat T t, ← seqPut_append]; rfl

theorem seqPut_other (c : Nat) : ∀ T : Tab, c ∉ T.map (·.1) → seqPut T [c] = [c]
  | [], _ => rfl
  | (k, r) :: T, h => by
    have h1 : ¬ c = k := fun e => h (e ▸ List.mem_cons_self ..)
    have h2 : c ∉ T.map (·.1) := fun m => h (List.mem_cons_of_mem _ m)
    show seqPut T (put k r [c]) = [c]
    have : put k r [c] = [c] := by simp [put, h1]
    rw [this, seqPut_other c T h2]

theorem lookup_other (c : Nat) : ∀ T : Tab, c ∉ T.map (·.1) → T.lookup c = none
  | [], _ => rfl
  | (k, r) :: T, h => by
    have h1 : ¬ c = k := fun e => h (e ▸ List.mem_cons_self ..)
    have h2 : c ∉ T.map (·.1) := fun m => h (List.mem_cons_of_mem _ m)
    rw [List.lookup_cons, beq_eq_false_iff_ne.mpr h1]
    exact lookup_other c T h2

/-- in turn is at once, where the table's own signs say so -/
theorem seqPut_esc (T : Tab) (h : ∀ c ∈ T.map (·.1), seqPut T [c] = T.of c) (t : List Nat) : seqPut T t = esc T t := by
  rw [seqPut_flat]
  unfold esc
  congr 1
  funext c
  by_cases hc : c ∈ T.map (·.1)
  · exact h c hc
  · rw [seqPut_other c T hc]
    unfold Tab.of
    rw [lookup_other c T hc]
end
section
open PySem
theorem runs_toks {M : Model} {Γ : Ctx} {p : Pos} {t : Sem Fin} {fs : List Frame} {s s' : Shared} {e : End} (h : Runs M Γ p t fs s e s') : s.toks ≤ s'.toks := by
  induction h <;> first
    | exact Nat.le_refl _
    | assumption
    | (simp only [Shared.setGen] at *; omega)
    | (dsimp only at *; omega)
    | omega
theorem wakes_toks {M : Model} {Γ : Ctx} {p : Pos} {g : Nat} {r : Resume} {s s' : Shared} {res : GenResult} (h : Wakes M Γ p g r s res s') : s.toks ≤ s'.toks := by
  unfold Wakes at h
  split at h
  · exact h.elim
  · split at h
    · obtain ⟨e₁, s₁, hr, _, _, rfl⟩ := h
      have := runs_toks hr
      simpa [Shared.setGen] using this
    · obtain ⟨_, rfl⟩ := h; exact Nat.le_refl _
    · obtain ⟨_, rfl⟩ := h; exact Nat.le_refl _
  · obtain ⟨e₁, s₁, hr, _, _, rfl⟩ := h
    have := runs_toks hr
    simpa [Shared.setGen] using this
  · obtain ⟨_, rfl⟩ := h; exact Nat.le_refl _
  · obtain ⟨_, rfl⟩ := h; exact Nat.le_refl _
theorem wp_toks {α : Type} {M : Model} {Γ : Ctx} (n : Nat) (t : Sem α) : ∀ {Q : α → Pos → Shared → Prop} {E : Value → Pos → Shared → Prop} (p : Pos) (s : Shared), n ≤ s.toks →
    Sem.wp M Γ t (fun a p' s' => n ≤ s'.toks → Q a p' s') (fun e p' s' => n ≤ s'.toks → E e p' s') p s → Sem.wp M Γ t Q E p s := by
  induction t with
  | pure a => intro Q E p s hn h; rw [Sem.wp] at h ⊢; exact h hn
  | raise e => intro Q E p s hn h; rw [Sem.wp] at h ⊢; exact h hn
  | unsupported => intro Q E p s hn h; rw [Sem.wp] at h; exact h.elim
  | finish => intro Q E p s hn h; rw [Sem.wp] at h; exact h.elim
  | rule _ k ih => intro Q E p s hn h; rw [Sem.wp] at h ⊢; exact ih _ _ _ hn h
  | «at» _ k ih => intro Q E p s hn h; rw [Sem.wp] at h ⊢; exact ih _ _ _ hn h
  | load a _ k ih => intro Q E p s hn h; rw [Sem.wp] at h ⊢; obtain ⟨o, ho, h⟩ := h; exact ⟨o, ho, ih _ _ _ hn h⟩
  | update a _ f k ih => intro Q E p s hn h; rw [Sem.wp] at h ⊢; obtain ⟨ho, h⟩ := h; exact ⟨ho, ih _ _ _ hn h⟩
  | loadIfAlive a k ih => intro Q E p s hn h; rw [Sem.wp] at h ⊢; exact ih _ _ _ hn h
  | point _ k ih => intro Q E p s hn h; rw [Sem.wp] at h ⊢; exact ih _ _ _ hn h
  | register => intro Q E p s hn h; rw [Sem.wp] at h; exact h.elim
  | alloc o k ih => intro Q E p s hn h; rw [Sem.wp] at h ⊢; exact ih _ _ _ hn h
  | fresh k ih => intro Q E p s hn h; rw [Sem.wp] at h ⊢; exact ih _ _ _ (Nat.le_succ_of_le hn) h
  | ask k ih => intro Q E p s hn h; rw [Sem.wp] at h ⊢; exact ih _ _ _ hn h
  | choose src m k ih => intro Q E p s hn h; rw [Sem.wp] at h ⊢; obtain ⟨ho, h⟩ := h; exact ⟨ho, ih _ _ _ hn h⟩
  | os q _ k ih => intro Q E p s hn h; rw [Sem.wp] at h ⊢; exact ih _ _ _ hn h
  | call c hh _ _ k ih => intro Q E p s hn h; rw [Sem.wp] at h ⊢; obtain ⟨r, s₁, hr, h⟩ := h; exact ⟨r, s₁, hr, ih _ _ _ (Nat.le_trans hn (runs_toks hr)) h⟩
  | handled own k ih => intro Q E p s hn h; rw [Sem.wp] at h ⊢; exact ih _ _ _ hn h
  | genState g k ih => intro Q E p s hn h; rw [Sem.wp] at h ⊢; obtain ⟨o, ho, h⟩ := h; exact ⟨o, ho, ih _ _ _ hn h⟩
  | newGen c k ih => intro Q E p s hn h; rw [Sem.wp] at h ⊢; exact ih _ _ _ hn h
  | resume g r _ k ih => intro Q E p s hn h; rw [Sem.wp] at h ⊢; obtain ⟨r, s₁, hr, h⟩ := h; exact ⟨r, s₁, hr, ih _ _ _ (Nat.le_trans hn (wakes_toks hr)) h⟩
  | «yield» => intro Q E p s hn h; rw [Sem.wp] at h; exact h.elim
  | stack k ih => intro Q E p s hn h; rw [Sem.wp] at h ⊢; exact ih _ _ _ hn h
  | fork => intro Q E p s hn h; rw [Sem.wp] at h; exact h.elim
  | thread k ih => intro Q E p s hn h; rw [Sem.wp] at h ⊢; exact ih _ _ _ hn h
  | await => intro Q E p s hn h; rw [Sem.wp] at h; exact h.elim
/-- tokens never fall -/
theorem tok_keep {α : Type} {M : Model} {A : Around} {t : Sem α} {Q : α → Shared → Prop} {E : Value → Shared → Prop} {s : Shared}
    (h : wpAny M A t (fun a s' => s.toks ≤ s'.toks → Q a s') (fun e s' => s.toks ≤ s'.toks → E e s') s) : wpAny M A t Q E s :=
  fun Γ p hΓ => wp_toks s.toks t p s (Nat.le_refl _) (h Γ p hΓ)
end
section
noncomputable abbrev wsc : Scope := { kind := .function, names := [(Str.ofString "text", .local), (Str.ofString "TypeError", .globalImplicit), (Str.ofString "AttributeError", .globalImplicit), (Str.ofString "_raise_serialization_error", .globalImplicit)], isGenerator := false, isCoroutine := false }
theorem put_len (c : Nat) (r : List Nat) (b : Nat) (hr : r.length ≤ b) (hb : 1 ≤ b) : ∀ t : List Nat, (put c r t).length ≤ t.length * b
  | [] => Nat.zero_le _
  | k :: t => by
    have ih := put_len c r b hr hb t
    unfold put at ih ⊢
    rw [List.flatMap_cons, List.length_append, List.length_cons, Nat.succ_mul]
    have : (if k = c then r else [k]).length ≤ b := by split <;> simpa
    omega
theorem putS_len {c : Nat} {z x : Str} {n zl : Nat} (hx : x.length ≤ n) (hz : z.length ≤ zl) (hz1 : 1 ≤ zl) : (putS c z x).length ≤ n * zl := by
  have h := put_len c z.cps.toList zl (by simpa [Str.length] using hz) hz1 x.cps.toList
  have e : (putS c z x).length = (put c z.cps.toList x.cps.toList).length := by simp [putS, Str.length]
  have e2 : x.cps.toList.length = x.length := by simp [Str.length]
  rw [e]
  rw [e2] at h
  exact Nat.le_trans h (Nat.mul_le_mul_right _ hx)
theorem if_rep {prog : Program} {w : World} {A : Around} {E : Value → Shared → Prop} {s : Shared} {name : Str} {L a : Addr} {cd : Value} {h₀ : Heap} {m : Str → Option Value} {news : List (Addr × Obj)} {c z x : Str} {t : Tok}
    {p1 p2 p3 p4 p5 p6 p7 p8 p9 p10 p11 : Pos} {Q : Flow → Shared → Prop}
    (F : Fr h₀ L s.heap m) (N : News h₀ L s.heap news) (hm : m (Str.ofString "text") = some (.str x t)) (ht : 0 < s.toks) {n zl : Nat} (hx : x.length ≤ n) (hn : n ≤ 1048576) (hz : z.length ≤ zl) (hzl : zl ≤ 14) (hz1 : 1 ≤ zl) (hcz : (c == z) = false) {k : Nat} (hc : c = ⟨#[k]⟩) {pl : Sem Bool}
    (hQ : ∀ t' h' tk', 0 < tk' → (putS k z x).length ≤ n * zl → Fr h₀ L h' (fun y => if y = Str.ofString "text" then some (.str (putS k z x) t') else m y) → News h₀ L h' news → Q .next { s with heap := h', toks := tk' })
    (he : eval (.Call (.Attribute (.Name (Str.ofString "text") p5) (Str.ofString "replace") p6) [.Constant (.str c) 0 p7, .Constant (.str z) 0 p8] [] p9) (envOf name wsc L a cd) = (do
      let ov ← eval (.Name (Str.ofString "text") p5) (envOf name wsc L a cd)
      standAt p6.atName
      let (f, first) ← holding [ov] (getMethod ov (Str.ofString "replace") pl)
      callWith p9 f first (backTo p9 (starEach [.Constant (.str c) 0 p7, .Constant (.str z) 0 p8] (envOf name wsc L a cd))) []) := by rfl) :
    wpAny (model prog w) A (exec (.If (.Compare (.Constant (.str c) 0 p1) [.In] [.Name (Str.ofString "text") p2] p3) [.Assign [.Name (Str.ofString "text") p4] (.Call (.Attribute (.Name (Str.ofString "text") p5) (Str.ofString "replace") p6) [.Constant (.str c) 0 p7, .Constant (.str z) 0 p8] [] p9) p10] [] p11) (envOf name wsc L a cd)) Q E s := by
  obtain ⟨heap, gens, drawn, toks, os⟩ := s
  dsimp only at *
  subst hc
  have hQ := fun t' h' tk' ht => hQ t' h' tk' ht (putS_len hx hz hz1)
  rw [← replace_putS] at hQ
  walk1
  walk1
  walk1
  refine ld F hm ?_
  walk1
  walk1
  walk1
  dsimp only
  have hf := StrLaws.found_one x k
  split
  · rename_i he
    rw [he] at hf
    rw [replace_putS, putS_free hf.symm] at hQ
    walk1
    refine hQ t heap _ (Nat.succ_pos _) ?_ N
    have e : (fun y => if y = Str.ofString "text" then some (Value.str x t) else m y) = m := by
      funext y
      by_cases hy : y = Str.ofString "text"
      · rw [if_pos hy, hy, hm]
      · rw [if_neg hy]
    rw [e]
    exact F
  · walk1
    walk1
    refine MethodCall_ (pl := pl) ?_ he
    refine ld F hm ?_
    walk1
    walk1
    walk1
    walk1
    walk1
    walk1
    walk1
    refine tok_keep ?_
    dsimp only
    refine SC.replaceW (by show toks + 1 ≠ 0; omega) (by show toks + 1 + 1 ≠ 0; omega) (by show toks + 1 ≠ toks + 1 + 1; omega) hcz (Nat.le_trans hx hn) (Nat.le_trans hz hzl) ?_
    intro t' kk hk
    refine storeX_L (cl := []) F N ?_
    intro h' F' N'
    dsimp only at hk ⊢
    walk1
    exact hQ t' h' _ (Nat.succ_pos _) F' N'
end
section
theorem tok_more {α : Type} {M : Model} {A : Around} {t : Sem α} {Q : α → Shared → Prop} {E : Value → Shared → Prop} {s : Shared} (h : wpAny M A t Q E s) : wpAny M A t (fun a s' => s.toks ≤ s'.toks ∧ Q a s') E s :=
  tok_keep (wpAny_mono h (fun _ _ q hle => ⟨hle, q⟩) fun _ _ q _ => q)
/-- what a turn of a loop leaves -/
noncomputable def TurnEnd (h₀ : Heap) (L : Addr) (s : Shared) (I : Addr) (it : Obj) (J : (Str → Option Value) → List (Addr × Obj) → Prop) (Q : Flow → Shared → Prop) (f : Flow) (s₃ : Shared) : Prop :=
  match f with
  | .ret v => Q (.ret v) s₃
  | .brk => Q .next s₃
  | _ => ∃ h tk m news, s₃ = { s with heap := h, toks := tk } ∧ Fr h₀ L h m ∧ News h₀ L h ((I, it) :: news) ∧ (∀ p ∈ news, p.1 ≠ I) ∧ J m news
noncomputable def HasList (ax : Addr) (items : List Value) (news : List (Addr × Obj)) : Prop := ∃ lo n, (ax, lo) ∈ news ∧ lo.cls = .type "list" ∧ lo.data = .seq items.toArray n
theorem HasList.is {h₀ h : Heap} {L ax : Addr} {items : List Value} {news : List (Addr × Obj)} (x : HasList ax items news) (N : News h₀ L h news) : h.IsList ax items.toArray := by
  obtain ⟨lo, n, hm, hc, hd⟩ := x
  exact ⟨lo, (N _ hm).1, hc, n, hd⟩
inductive ForLI (s : Shared) (items : List Value) (ax L : Addr) (h₀ : Heap) (J : Nat → (Str → Option Value) → List (Addr × Obj) → Prop) (k : Nat) (s' : Shared) : Prop
  | mk (h : Heap) (tk i : Nat) (m : Str → Option Value) (news : List (Addr × Obj)) (e0 : s' = { s with heap := h, toks := tk }) (e1 : s.toks ≤ tk) (e2 : i ≤ items.length) (e3 : k = items.length + 1 - i) (e4 : h.IsListIter s.heap.objs.size ax i) (e5 : Fr h₀ L h m) (e6 : News h₀ L h news) (e7 : (∀ p ∈ news, p.1 ≠ s.heap.objs.size)) (e8 : J i m news) : ForLI s items ax L h₀ J k s'
theorem for_led {prog : Program} {w : World} {A : Around} {s : Shared} {h₀ : Heap} {L : Addr} {env : Env} {target iter : Expr} {body : List Stmt} {pos : Pos} {Q : Flow → Shared → Prop}
    {m₀ : Str → Option Value} {news₀ : List (Addr × Obj)} {ax : Addr} {items : List Value} (J : Nat → (Str → Option Value) → List (Addr × Obj) → Prop)
    (hh : A.handled = none) (F : Fr h₀ L s.heap m₀) (N : News h₀ L s.heap news₀)
    (hI : ∀ Q' E', Q' (.ref ax) s → wpAny (model prog w) A (eval iter env) Q' E' s)
    (hsrc : ∀ i m news, J i m news → HasList ax items news) (hJ : J 0 m₀ news₀)
    (turn : ∀ i v I it h tk m news, items[i]? = some v → J i m news → Fr h₀ L h m → News h₀ L h ((I, it) :: news) → (∀ p ∈ news, p.1 ≠ I) → it.cls = .type "list_iterator" → s.toks ≤ tk →
      wpAny (model prog w) A (assign target env v) (fun _ s₂ => wpAny (model prog w) A (execs body env) (TurnEnd h₀ L s I it (J (i + 1)) Q) (fun _ _ => False) s₂) (fun _ _ => False) { s with heap := h, toks := tk })
    (done : ∀ h tk m news, J items.length m news → Fr h₀ L h m → News h₀ L h news → s.toks ≤ tk → Q .next { s with heap := h, toks := tk })
    (ht : ∀ it v, letOwnedTupleGo target it v = pure () := by intro _ _; rfl)
    (hs : ∀ x, foldedSetIterable iter env x = pure x := by intro _; rfl) :
    wpAny (model prog w) A (exec (.For target iter body [] pos) env) Q (fun _ _ => False) s := by
  refine wpAny_For (hI _ _ ?_) hs
  have hl := (hsrc 0 m₀ news₀ hJ).is N
  refine wpAny_pyIter_list hl ?_
  have hlt : ax < s.heap.objs.size := by obtain ⟨_, e, _⟩ := hl; exact Heap.lt_size e
  have hnw : ∀ p ∈ news₀, p.1 ≠ s.heap.objs.size := fun p hp => Nat.ne_of_lt (Heap.lt_size (N p hp).1)
  have hI₀ : h₀.get? s.heap.objs.size = none := next_is_new F
  have hIL : s.heap.objs.size ≠ L := Nat.ne_of_gt F.ns.lt
  refine codeAny_forLoop (ForLI s items ax L h₀ J)
    ?_ (items.length + 1) ⟨_, _, 0, m₀, news₀, rfl, Nat.le_refl _, Nat.zero_le _, rfl, ⟨_, Heap.get?_push_size _ rfl, rfl, rfl⟩, F.push _, fun p hp => ⟨Heap.get?_push_of_some _ (N p hp).1, (N p hp).2⟩, hnw, hJ⟩ (ht _)
  rintro k s' ⟨h, tk, i, m, news, rfl, htk, hi, rfl, hit, F', N', hn, hJ'⟩
  have hl' := (hsrc i m news hJ').is N'
  by_cases hlt' : i < items.length
  · have hx : items.toArray[i]? = some items[i] := by simp [hlt']
    refine wpAny_pyNext_list_item hit hl' hx fun h₁ hit₁ hs₁ => ?_
    obtain ⟨it, hitE, hit2⟩ := id hit₁
    have F₁ : Fr h₀ L h₁ m := F'.change hs₁ hIL hI₀
    have N₁ : News h₀ L h₁ ((s.heap.objs.size, it) :: news) := fun p hp => by
      rcases List.mem_cons.mp hp with rfl | hp
      · exact ⟨hitE, hIL, hI₀⟩
      · exact ⟨hs₁.extBut _ _ (hn p hp) (N' p hp).1, (N' p hp).2⟩
    have nv : ∀ e s', False → notedBy (model prog w) A env (fun e s' => cameBackBy (model prog w) A env (fun _ _ => False) e s') e s' := fun _ _ h => h.elim
    refine wpAny_mono (tok_more (turn i items[i] _ it h₁ tk m news (by simp [hlt']) hJ' F₁ N₁ hn hit2.1 htk)) (fun _ s₂ h₂ => wpAny_mono (tok_more h₂.2) (fun f s₃ h₃ => ?_) nv) nv
    obtain ⟨hle₃, h₃⟩ := h₃
    have hle : s.toks ≤ s₃.toks := Nat.le_trans htk (Nat.le_trans h₂.1 hle₃)
    have fin : (∃ h tk m news, s₃ = { s with heap := h, toks := tk } ∧ Fr h₀ L h m ∧ News h₀ L h ((s.heap.objs.size, it) :: news) ∧ (∀ p ∈ news, p.1 ≠ s.heap.objs.size) ∧ J (i + 1) m news) →
        ∃ k, k < items.length + 1 - i ∧ ForLI s items ax L h₀ J k s₃ := by
      rintro ⟨h₂, tk₂, m₂, news₂, rfl, F₂, N₂, hn₂, hJ₂⟩
      exact ⟨items.length + 1 - (i + 1), by omega, h₂, tk₂, i + 1, m₂, news₂, rfl, hle, hlt', rfl, ⟨it, (N₂ _ (List.mem_cons_self ..)).1, hit2⟩, F₂, fun p hp => N₂ p (List.mem_cons_of_mem _ hp), hn₂, hJ₂⟩
    cases f with
    | ret v => exact h₃
    | brk => exact h₃
    | next => exact fin h₃
    | cont => exact fin h₃
  · obtain rfl : i = items.length := by omega
    refine wpAny_pyNext_list_end hh hit hl' (by simp) fun h₁ hs₁ => wpAny_execs_nil ?_
    have hk : ∀ b o, b ∉ [s.heap.objs.size] → h.get? b = some o → h₁.get? b = some o := fun b o hb e => hs₁ b o (fun q => hb (List.mem_singleton.mpr q)) e
    refine done h₁ tk m news hJ' (LCg.fr_but F' hk (Ne.symm hIL) hI₀) (fun p hp => ⟨hs₁ _ _ (hn p hp) (N' p hp).1, (N' p hp).2⟩) htk
end
section
noncomputable def CtEl (f : Int → Bool) (k : Int) (news : List (Addr × Obj)) (y : Value) (news' : List (Addr × Obj)) : Prop := news' = news ∧ f k = true ∧ ∃ t, y = .int (k + 1) t
noncomputable def CtNo (f : Int → Bool) (k : Int) (news : List (Addr × Obj)) (_ : Value) (news' : List (Addr × Obj)) : Prop := news' = news ∧ f k = false
theorem ints_snoc {y : Int} {t : Tok} : ∀ {vs : List Value} {ys : List Int}, IntsAre vs ys → IntsAre (vs ++ [.int y t]) (ys ++ [y])
  | _, _, .nil => .cons y t .nil
  | _, _, .cons z u r => .cons z u (ints_snoc r)
theorem ct_ints {prog : Program} {w : World} {A : Around} {h₀ : Heap} {L : Addr} {m : Str → Option Value} {env : Env} {ct elt : Expr} {x : Str} {scope : Scope} {cl : List (Str × Addr)} {s : Shared} {S : List (Addr × Obj) → Prop} {Fin : List Value → List (Addr × Obj) → Prop} {news : List (Addr × Obj)}
    {vs : List Value} {ns : List Int} (f : Int → Bool) (hi : IntsAre vs ns)
    (turn : ∀ k t I oI C oC D m₂ ys h tk (E' : Value → Shared → Prop), k ∈ ns → LCg.NsObj oC m₂ → m₂ x = some (.int k t) → Fr h₀ L h m → News h₀ L h ((I, oI) :: (C, oC) :: (D, LCg.lst ys) :: news) → LCg.Off3 I C D news → ((@Ne Nat I C) ∧ (@Ne Nat I D) ∧ (@Ne Nat C D)) →
      wpAny (model prog w) A (isTrue ct (compEnvC scope cl C env) (eval ct (compEnvC scope cl C env))) (fun ok s' => if ok = true then
        wpAny (model prog w) A (eval elt (compEnvC scope cl C env)) (LCg.CompEnd h₀ L m { s with heap := h, toks := tk } I oI C oC D (LCg.lst ys) S (CtEl f k news)) E' s'
        else LCg.CompEnd h₀ L m { s with heap := h, toks := tk } I oI C oC D (LCg.lst ys) S (CtNo f k news) Value.none s') E' { s with heap := h, toks := tk })
    (fin : ∀ ys, IntsAre ys ((ns.filter f).map (· + 1)) → Fin ys news) :
    LCt.CompRestT prog w A h₀ L m env ct elt x scope cl s S (fun i v => vs.toArray[i]? = some v) Fin vs.toArray.size 0 [] news := by
  have key : ∀ (j i : Nat) (ys : List Value), i + j = ns.length → IntsAre ys (((ns.take i).filter f).map (· + 1)) → LCt.CompRestT prog w A h₀ L m env ct elt x scope cl s S (fun i v => vs.toArray[i]? = some v) Fin j i ys news := by
    intro j
    induction j with
    | zero =>
      intro i ys hi' hy
      have e : i = ns.length := by omega
      subst e
      rw [List.take_length] at hy
      exact LCt.CompRestT.zero (fin ys hy)
    | succ j ih =>
      intro i ys hi' hy
      refine LCt.CompRestT.succ ?_
      intro v I oI C oC D m₂ h tk E' hv hC hx F N off ne
      obtain ⟨k, t, hk, rfl⟩ : ∃ k t, ns[i]? = some k ∧ v = .int k t := by
        obtain ⟨k, t, e, hk⟩ := IntsAre.at hi i v (by simpa using hv)
        exact ⟨k, t, hk, e⟩
      refine wpAny_mono (turn k t I oI C oC D m₂ ys h tk E' (List.mem_of_getElem? hk) hC hx F N off ne) (fun ok s₂ hq => ?_) fun _ _ e => e
      have tk1 : ns.take (i + 1) = ns.take i ++ [k] := by rw [List.take_add_one, hk]; rfl
      cases ok with
      | true =>
        simp only [if_true] at hq ⊢
        refine wpAny_mono hq (fun y s₃ hq => ?_) fun _ _ e => e
        obtain ⟨h', tk', nw, e, F', N', off', hS, hn, hf, t', hy'⟩ := hq
        subst hn
        refine ⟨h', tk', nw, e, F', N', off', hS, ih (i + 1) _ (by omega) ?_⟩
        rw [tk1, List.filter_append, List.map_append, hy']
        have e1 : [k].filter f = [k] := by simp [hf]
        rw [e1]
        exact ints_snoc hy
      | false =>
        simp only [Bool.false_eq_true, if_false] at hq ⊢
        obtain ⟨h', tk', nw, e, F', N', off', hS, hn, hf⟩ := hq
        subst hn
        refine ⟨h', tk', nw, e, F', N', off', hS, ih (i + 1) _ (by omega) ?_⟩
        have e1 : [k].filter f = [] := by simp [hf]
        rw [tk1, List.filter_append, List.map_append, e1, List.map_nil, List.append_nil]
        exact hy
  have hl : vs.toArray.size = ns.length := by rw [List.size_toArray, hi.length]
  rw [hl]
  exact key ns.length 0 [] (by omega) (by simp only [List.take_zero, List.filter_nil, List.map_nil]; exact .nil)
end
section
open Builtin Builtin.Str in
theorem slice_end (x : Str) : (Txt.slice x (some (x.length : Int)) (some ((x.length : Int) + 1))).length = 0 := by
  have h1 : ¬ ((x.length : Int) < 0) := by omega
  have h2 : ¬ ((x.length : Int) + 1 < 0) := by omega
  have e1 : max (0 : Int) (min (x.length : Int) (x.length : Int)) = x.length := by omega
  have e2 : max (0 : Int) (min ((x.length : Int) + 1) (x.length : Int)) = x.length := by omega
  have e : strSliceIndices (some (x.length : Int)) (some ((x.length : Int) + 1)) 1 x.length = [] := by
    simp only [strSliceIndices, sliceRange, h1, h2, if_false, e1, e2, show ((1 : Int) > 0) = True from by simp, if_true]
    simp
  unfold Txt.slice
  rw [e]
  split
  · rename_i h; simp at h; exact h.symm
  · rfl
open Builtin Builtin.Str in
theorem slice_one (x : Str) {k : Nat} (hk : k < x.length) : Txt.slice x (some (k : Int)) (some ((k : Int) + 1)) = ⟨#[x.cps[k]'hk]⟩ := by
  have e := StrLaws.sliced_plain x (a := k) (b := k + 1) (by omega) (by omega)
  have e3 : ((k + 1 : Nat) : Int) = (k : Int) + 1 := by omega
  rw [e3] at e
  have hl : x.cps.toList.length = x.length := by simp [Str.length]
  have ed : (x.cps.toList.drop k).take (k + 1 - k) = [x.cps[k]'hk] := by
    rw [show k + 1 - k = 1 by omega, List.drop_eq_getElem_cons (by rw [hl]; exact hk)]
    simp
    rfl
  unfold Txt.slice
  split
  · rename_i h
    have h' : (strSliceIndices (some (k : Int)) (some ((k : Int) + 1)) 1 x.length).length = x.length := by simpa using h
    have h2 := StrLaws.strSliceIndices_plain (a := k) (b := k + 1) (len := x.length) (by omega) (by omega)
    rw [e3] at h2
    rw [h2] at h'
    simp at h'
    have hx : x.cps.size = 1 := h'.symm
    have hk0 : k = 0 := by omega
    subst hk0
    apply Str.ext'
    apply Array.ext
    · simp [hx]
    · intro i h1 h2
      have : i = 0 := by omega
      subst this; rfl
  · rw [e, ed]
theorem item_nat (x : Str) {k : Nat} (hk : k < x.length) : Txt.item x (k : Int) = ⟨#[x.cps[k]'hk]⟩ := by
  unfold Txt.item Txt.charAt
  rw [show seqIndex? (k : Int) x.length = some k from ?_]
  · simp [show k < x.cps.size from hk]
    rfl
  · unfold seqIndex?
    simp; omega
theorem slice_item {x y : Str} {j : Int} (h0 : 0 ≤ j) (h1 : j ≤ x.length) (hy : 1 ≤ y.length) (h : (Txt.slice x (some j) (some (j + 1)) == y) = true) : j < x.length := by
  by_cases h2 : j < x.length
  · exact h2
  · have : j = x.length := by omega
    subst this
    have e := eq_of_beq h
    have := slice_end x
    rw [e] at this
    omega
end
section
theorem in_err {M : Model} {A : Around} {E : Value → Shared → Prop} {s : Shared} {v x : Value} {T : String} {Q : Value → Shared → Prop} (hh : A.handled = none)
    (hs : stdlibNamesSay? v x = none) (ht : typeOf v = pure (.type T)) (h1 : typeLookup (.type T) "__contains__" = pure none) (h2 : typeLookup (.type T) "__iter__" = pure none) (h3 : typeLookup (.type T) "__getitem__" = pure none)
    (hn : typeNameOf v = pure T)
    (hm1 : ((s!"'{T}' object is not iterable" : String) : Str).length ≤ sizeLine) (hm2 : ((s!"argument of type '{T}' is not iterable" : String) : Str).length ≤ sizeLine)
    (h : ∀ h' tk e, Heap.NewExc s.heap h' e "TypeError" → E (.ref e) { s with heap := h', toks := tk }) :
    wpAny M A (compareOp .In x v) Q E s := by
  have sp : ∀ name r, typeLookup (.type T) name = pure r → specialOf v name = pure r := fun name r e => by
    unfold specialOf; rw [ht]; exact e
  unfold compareOp
  refine wpAny_bind ?_
  unfold contains
  refine wpAny_holding ?_
  rw [hs]
  dsimp only
  rw [sp _ _ h1]
  refine wpAny_bind (wpAny_pure ?_)
  simp only [show ((none : Option Value) == some Value.none) = false from rfl, Bool.false_eq_true, if_false]
  refine wpAny_bind ?_
  unfold callSpecialUnlessNone?
  rw [sp _ _ h1]
  refine wpAny_bind (wpAny_pure (wpAny_pure ?_))
  dsimp only
  refine wpAny_bind (wpAny_rule ?_)
  refine wpAny_bind (wpAny_tryCatch ?_)
  unfold pyIter
  rw [sp _ _ h2, sp _ _ h3, hn]
  refine wpAny_bind (wpAny_pure ?_)
  refine wpAny_bind (wpAny_pure ?_)
  dsimp only
  refine wpAny_bind (wpAny_rule (wpAny_bind (wpAny_pure ?_)))
  refine wpAny_raiseTypeError hh (fun h' tk e hx => ?_) hm1
  obtain ⟨ob, t, hob, hc, hd⟩ := hx.there
  refine wpAny_bind (wpAny_isInstance (T := "TypeError") (b := true) ⟨ob, hob, hc⟩ (by rw [isSubtype_type]; kernel_rfl) ?_)
  simp only [if_true]
  refine wpAny_bind (wpAny_pure ?_)
  refine wpAny_raiseTypeError hh (fun h'' tk' e' hx' => ?_) hm2
  refine h h'' tk' e' ⟨fun b o q => hx'.keeps b o (hx.keeps b o q), ?_, hx'.there⟩
  cases q : s.heap.get? e' with
  | none => rfl
  | some o => have := hx.keeps _ _ q; rw [hx'.new] at this; cases this
theorem in_err_int {M : Model} {A : Around} {E : Value → Shared → Prop} {s : Shared} {x : Value} {n : Int} {t : Tok} {Q : Value → Shared → Prop} (hh : A.handled = none)
    (h : ∀ h' tk e, Heap.NewExc s.heap h' e "TypeError" → E (.ref e) { s with heap := h', toks := tk }) : wpAny M A (compareOp .In x (.int n t)) Q E s :=
  in_err (T := "int") hh rfl rfl (by rw [typeLookup_type, builtinLookup_eq_fast]; kernel_rfl) (by rw [typeLookup_type, builtinLookup_eq_fast]; kernel_rfl) (by rw [typeLookup_type, builtinLookup_eq_fast]; kernel_rfl) (by rfl) (by decide +kernel) (by decide +kernel) h
theorem in_err_none {M : Model} {A : Around} {E : Value → Shared → Prop} {s : Shared} {x : Value} {Q : Value → Shared → Prop} (hh : A.handled = none)
    (h : ∀ h' tk e, Heap.NewExc s.heap h' e "TypeError" → E (.ref e) { s with heap := h', toks := tk }) : wpAny M A (compareOp .In x .none) Q E s :=
  in_err (T := "NoneType") hh rfl rfl (by rw [typeLookup_type, builtinLookup_eq_fast]; kernel_rfl) (by rw [typeLookup_type, builtinLookup_eq_fast]; kernel_rfl) (by rw [typeLookup_type, builtinLookup_eq_fast]; kernel_rfl) (by rfl) (by decide +kernel) (by decide +kernel) h
end
section
noncomputable abbrev Led := List (Addr × Obj)
/-- a def's contract: a call from any frame, over any ledger -/
noncomputable abbrev CallT (D U : Nat) (w : World) (p : Program) (loose : List Str) (mean : ExcName → Option Value) (mg mb : Str → Option Value) (f : Addr) (news : Led) (vs : List Value) (R : Heap → Led → Value → Prop) : Prop :=
  ∀ (dp un : Nat) (cn : Str) (cs : Scope) (a : Addr) (ccd : Value) (cl : List (Str × Addr)) (outer : List Env) (A₀ : Around) (base h₀ : Heap) (L : Addr) (m : Str → Option Value) (s : Shared) (Q E : Value → Shared → Prop),
    Below A₀ base outer h₀ → Fr h₀ L s.heap m → (hd.heap_1 w.params).In h₀ → News h₀ L s.heap news → Top p loose mean mg mb h₀ → cs.kind = .function → dp ≤ D → un ≤ U → 0 < s.toks →
    (∀ (v : Value) (tl : Led) (h' : Heap) (tk' : Nat), s.toks ≤ tk' → Fr h₀ L h' m → News h₀ L h' (tl ++ news) → R h₀ tl v → Q v { s with heap := h', toks := tk' }) →
    wpAny (model PySem.Challenge.pw_ik0168_01 w) (ktrTop dp un (some []) cn cs L a ccd cl outer) (call (.ref f) vs) Q E s
/-- the same at one depth -/
noncomputable abbrev CallL (D U : Nat) (w : World) (p : Program) (loose : List Str) (mean : ExcName → Option Value) (mg mb : Str → Option Value) (f : Addr) (news : Led) (vs : List Value) (R : Heap → Led → Value → Prop) : Prop :=
  ∀ (cn : Str) (nms : List (Str × NameKind)) (ig ic : Bool) (mo : List (Str × Const)) (a : Addr) (ccd : Value) (cl : List (Str × Addr)) (outer : List Env) (A₀ : Around) (base h₀ : Heap) (L : Addr) (m : Str → Option Value) (s : Shared) (Q E : Value → Shared → Prop),
    Below A₀ base outer h₀ → Fr h₀ L s.heap m → (hd.heap_1 w.params).In h₀ → News h₀ L s.heap news → Top p loose mean mg mb h₀ → 0 < s.toks →
    (∀ (v : Value) (tl : Led) (h' : Heap) (tk' : Nat), s.toks ≤ tk' → Fr h₀ L h' m → News h₀ L h' (tl ++ news) → R h₀ tl v → Q v { s with heap := h', toks := tk' }) →
    wpAny (model PySem.Challenge.pw_ik0168_01 w) (ktrTop D U (some []) cn { kind := .function, names := nms, isGenerator := ig, isCoroutine := ic, more := mo } L a ccd cl outer) (call (.ref f) vs) Q E s
theorem around_mono {α : Type} {M : Model} {hd : Option Value} {fr : Option (List Env)} {g : Option (List Code)} {d d' u u' : Nat} {t : Sem α} {Q : α → Shared → Prop} {E : Value → Shared → Prop} {s : Shared} (h1 : d' ≤ d) (h2 : u' ≤ u)
    (h : wpAny M ⟨hd, d, fr, g, u⟩ t Q E s) : wpAny M ⟨hd, d', fr, g, u'⟩ t Q E s :=
  fun Γ p hΓ => h Γ p ⟨hΓ.1, Nat.le_trans hΓ.2.1 h1, hΓ.2.2.1, hΓ.2.2.2.1, Nat.le_trans hΓ.2.2.2.2 h2⟩
theorem CallT.of {D U : Nat} {w : World} {p : Program} {loose : List Str} {mean : ExcName → Option Value} {mg mb : Str → Option Value} {f : Addr} {news : Led} {vs : List Value} {R : Heap → Led → Value → Prop}
    (h : CallL D U w p loose mean mg mb f news vs R) : CallT D U w p loose mean mg mb f news vs R :=
  fun dp un cn cs a ccd cl outer A₀ base h₀ L m s Q E hB hF hK hN hT hk hd hu ht hr => by
    obtain ⟨kd, nms, ig, ic, mo⟩ := cs
    dsimp only at hk
    subst hk
    exact around_mono hd hu (h cn nms ig ic mo a ccd cl outer A₀ base h₀ L m s _ _ hB hF hK hN hT ht fun v tl h' tk' hle F N r => hr v tl h' tk' hle F N r)
/-- an answer that is a plain value -/
noncomputable def One (g : Tok → Value) (_ : Heap) (tl : Led) (v : Value) : Prop := tl = [] ∧ ∃ t, v = g t
noncomputable def w_cdata (x : Str) : Str := (putS 62 (Str.ofString "&gt;") (putS 60 (Str.ofString "&lt;") (putS 38 (Str.ofString "&amp;") x)))
noncomputable def w_attrib (x : Str) : Str := (putS 9 (Str.ofString "&#09;") (putS 10 (Str.ofString "&#10;") (putS 13 (Str.ofString "&#13;") (putS 34 (Str.ofString "&quot;") (putS 62 (Str.ofString "&gt;") (putS 60 (Str.ofString "&lt;") (putS 38 (Str.ofString "&amp;") x)))))))
noncomputable def w_html (x : Str) : Str := (putS 34 (Str.ofString "&quot;") (putS 62 (Str.ofString "&gt;") (putS 38 (Str.ofString "&amp;") x)))
noncomputable def w_plain (x : Str) : Str := (putS 13 (Str.ofString "&#xD;") (putS 62 (Str.ofString "&gt;") (putS 60 (Str.ofString "&lt;") (putS 38 (Str.ofString "&amp;") x))))
noncomputable def w_named (x : Str) : Str := (putS 13 (Str.ofString "&#xD;") (putS 10 (Str.ofString "&#xA;") (putS 9 (Str.ofString "&#x9;") (putS 34 (Str.ofString "&quot;") (putS 60 (Str.ofString "&lt;") (putS 38 (Str.ofString "&amp;") x))))))
theorem gen_tok {α : Type} {M : Model} {A : Around} {t : Sem α} {Q : α → Shared → Prop} {E : Value → Shared → Prop} {h : Heap} {g : Array GenState} {d : Drawn} {X : Nat} {os : OsState} (h0 : 0 < X)
    (H : ∀ tk, 0 < tk → wpAny M A t Q E ⟨h, g, d, tk, os⟩) : wpAny M A t Q E ⟨h, g, d, X, os⟩ := H X h0

open PySem.W.X in
theorem x_fin {h₀ h h' : Heap} {L : Addr} {m : Str → Option Value} {news nw : Led} (F : Fr h₀ L h m) (N : News h₀ L h news) (D : Mem h h' [] nw) :
    Fr h₀ L h' m ∧ News h₀ L h' (nw ++ news) := by
  have k : ∀ b o, h.get? b = some o → h'.get? b = some o := fun b o e => D.old b o e (by simp [away])
  refine ⟨F.keeps k, fun p hp => ?_⟩
  rcases List.mem_append.mp hp with hp | hp
  · have z := D.nw p hp
    refine ⟨z.1, fun e => ?_, ?_⟩
    · obtain ⟨o, _, _, ho, _⟩ := F.ns
      rw [e] at z
      rw [z.2] at ho; cases ho
    · cases q : h₀.get? p.1 with
      | none => rfl
      | some o => have := F.keep _ _ q; rw [z.2] at this; cases this
  · exact ⟨k _ _ (N p hp).1, (N p hp).2⟩
theorem news_sub {h₀ h : Heap} {L : Addr} {a b : Led} (N : News h₀ L h b) (hs : ∀ p ∈ a, p ∈ b) : News h₀ L h a := fun p hp => N p (hs p hp)
end
section
open PySem.W.X
/-- a tree's road through the loads of what is known, and through what asks nothing of the state -/
noncomputable def lrun {α : Type} (cf : Setting) (f : Addr → Option Obj) : Nat → Sem α → Sem α
  | 0, t => t
  | n + 1, t => match skim cf 64 t with
    | .load a q k => match f a with
      | some o => lrun cf f n (k o)
      | none => .load a q k
    | t' => t'
section
variable {α : Type} {prog : Program} {w : World} {A : Around} {c : Code} {Q : α → Shared → Prop} {E : Value → Shared → Prop} {h : Heap} {g : Array GenState} {d : Drawn} {tk : Nat} {os : OsState}
theorem y_lrun {f : Addr → Option Obj} (H : ∀ a o, f a = some o → h.get? a = some o) : ∀ (n : Nat) (t : Sem α), wpOwn (model prog w) A c (lrun ⟨prog, w.params⟩ f n t) Q E ⟨h, g, d, tk, os⟩ → wpOwn (model prog w) A c t Q E ⟨h, g, d, tk, os⟩
  | 0, _, x => x
  | n + 1, t, x => by
    refine y_skim _ _ _ _ _ _ _ _ t 64 ?_
    unfold lrun at x
    split at x
    · rename_i a q k e
      rw [e]
      split at x
      · rename_i o eo
        exact y_load _ _ _ _ _ _ _ _ _ _ _ _ _ _ _ _ (H a o eo) (y_lrun H n _ x)
      · exact x
    · exact x
noncomputable def allObj {α : Type} : Sem α → Option Obj
  | .alloc o _ => some o
  | _ => none
noncomputable def allK {α : Type} : Sem α → Addr → Sem α
  | .alloc _ k, a => k a
  | t, _ => t
theorem y_allT {h₀ : Heap} {chg news : List (Addr × Obj)} {t : Sem α} {o : Obj} (e : allObj t = some o) (D : Mem h₀ h chg news) (hf : o.isFreed = false)
    (x : ∀ a h', Mem h₀ h' chg ((a, o) :: news) → wpOwn (model prog w) A c (allK t a) Q E ⟨h', g, d, tk, os⟩) : wpOwn (model prog w) A c t Q E ⟨h, g, d, tk, os⟩ := by
  unfold allObj at e
  split at e
  · cases e
    exact y_alloc _ _ _ _ _ _ _ _ _ _ _ _ _ _ _ _ _ D hf x
  · cases e
noncomputable def ldA {α : Type} : Sem α → Option Addr
  | .load a _ _ => some a
  | _ => none
noncomputable def ldK {α : Type} : Sem α → Obj → Sem α
  | .load _ _ k, o => k o
  | t, _ => t
theorem y_ldT {t : Sem α} {a : Addr} {o : Obj} (e : ldA t = some a) (ho : h.get? a = some o) (x : wpOwn (model prog w) A c (ldK t o) Q E ⟨h, g, d, tk, os⟩) : wpOwn (model prog w) A c t Q E ⟨h, g, d, tk, os⟩ := by
  unfold ldA at e
  split at e
  · cases e
    exact y_load _ _ _ _ _ _ _ _ _ _ _ _ _ _ _ _ ho x
  · cases e
noncomputable def caC {α : Type} : Sem α → Option (Code × Option Value)
  | .call c hd _ _ _ => some (c, hd)
  | _ => none
noncomputable def caK {α : Type} : Sem α → Result → Sem α
  | .call _ _ _ _ k, r => k r
  | t, _ => t
theorem y_caT {t : Sem α} {c' : Code} {s : Shared} (e : caC t = some (c', none)) (x : codeAny (model prog w) ((A.under c).mark none) c' (postR prog w A c Q E (caK t)) s) : wpOwn (model prog w) A c t Q E s := by
  unfold caC at e
  split at e
  · cases e
    exact y_call _ _ _ _ _ _ _ _ _ _ _ _ _ (fun z => nomatch z) x
  · cases e
noncomputable def caQ {α : Type} : Sem α → Bool
  | .call _ none _ _ _ => true
  | _ => false
noncomputable def caD {α : Type} : Sem α → Code
  | .call c _ _ _ _ => c
  | _ => .builtin "" ⟨[], []⟩
theorem y_caX {t : Sem α} {s : Shared} (e : caQ t = true) (x : codeAny (model prog w) ((A.under c).mark none) (caD t) (postR prog w A c Q E (caK t)) s) : wpOwn (model prog w) A c t Q E s := by
  unfold caQ at e
  split at e
  · exact y_call _ _ _ _ _ _ _ _ _ _ _ _ _ (fun z => nomatch z) x
  · cases e
noncomputable def upA {α : Type} : Sem α → Option Addr
  | .update a _ _ _ => some a
  | _ => none
noncomputable def upF {α : Type} : Sem α → Obj → Obj
  | .update _ _ f _, o => f o
  | _, o => o
noncomputable def upK {α : Type} : Sem α → Sem α
  | .update _ _ _ k => k ()
  | t => t
theorem y_upT {h₀ : Heap} {chg news : List (Addr × Obj)} {t : Sem α} {a : Addr} {o o' : Obj} (e : upA t = some a) (ef : upF t o = o') (D : Mem h₀ h chg news) (i : Nat) (hi : news[i]? = some (a, o)) (hf : o'.isFreed = false)
    (x : ∀ h', Mem h₀ h' chg (news.set i (a, o')) → wpOwn (model prog w) A c (upK t) Q E ⟨h', g, d, tk, os⟩) : wpOwn (model prog w) A c t Q E ⟨h, g, d, tk, os⟩ := by
  subst ef
  unfold upA at e
  split at e
  · cases e
    exact y_update _ _ _ _ _ _ _ _ _ _ _ _ _ _ _ _ _ _ _ _ D i hi hf x
  · cases e
theorem y_allX {h₀ : Heap} {chg news : List (Addr × Obj)} {t : Sem α} (e : (allObj t).map Obj.isFreed = some false) (D : Mem h₀ h chg news)
    (x : ∀ a o h', Mem h₀ h' chg ((a, o) :: news) → wpOwn (model prog w) A c (allK t a) Q E ⟨h', g, d, tk, os⟩) : wpOwn (model prog w) A c t Q E ⟨h, g, d, tk, os⟩ := by
  obtain ⟨o, e1, e2⟩ := Option.map_eq_some_iff.mp e
  exact y_allT e1 D e2 fun a h' D' => x a o h' D'
noncomputable def agQ : Sem Fin → Bool
  | .pure (.again c) => c.quiet
  | _ => false
noncomputable def agC : Sem Fin → Code
  | .pure (.again c) => c
  | _ => .builtin "" ⟨[], []⟩
theorem y_agT {A' : Around} {R : Result → Shared → Prop} {t : Sem Fin} {E : Value → Shared → Prop} {s : Shared} (e : agQ t = true) (x : codeAny (model prog w) A' (agC t) R s) : wpOwn (model prog w) A c t (postC prog w A' R) E s := by
  unfold agQ at e
  split at e
  · exact y_pure _ _ _ _ _ _ _ _ _ (y_again _ _ _ _ _ _ e x)
  · cases e
end
theorem den_tw : denote table = PySem.W.XFast.xw11892475500146522536 PySem.W.XFast.tableX := by rw [PySem.W.XFast.xe11892475500146522536, PySem.W.XFast.tableX_eq]
end
section
/-- an empty deque -/
noncomputable abbrev deqO : Obj := { cls := .type "collections.deque", data := .fields #[.none, rawInt 0] }
noncomputable def NeAll (d : Nat) : Led → Prop
  | [] => True
  | p :: r => @Ne Nat p.1 d ∧ NeAll d r
theorem neAll_of {d : Addr} : ∀ {l : Led}, (∀ p ∈ l, p.1 ≠ d) → NeAll d l
  | [], _ => trivial
  | p :: _, h => ⟨h p (.head _), neAll_of fun q hq => h q (.tail _ hq)⟩
theorem mem_ne {h₀ h h' : Heap} {L a : Addr} {o : Obj} {news : Led} (N : News h₀ L h news) (D : X.Mem h h' [] [(a, o)]) : NeAll a news :=
  neAll_of fun p hp e => by
    have z := (D.nw _ (.head _)).2
    have y := (N p hp).1
    rw [e] at y
    rw [y] at z
    cases z
open PySem.W.X in
theorem deque_new (w : World) {fr : Option (List Env)} {Q E : Value → Shared → Prop} {h₀ : Heap} {L : Addr} {m : Str → Option Value} {news : Led} {s : Shared} (hF : Fr h₀ L s.heap m) (hN : News h₀ L s.heap news)
    (hret : ∀ h' a, Fr h₀ L h' m → News h₀ L h' ((a, deqO) :: news) → NeAll a news → Q (.ref a) { s with heap := h' }) :
    wpAny (model PySem.Challenge.pw_ik0168_01 w) ⟨none, 400, fr, some [], 4000⟩ (call (.type "collections.deque") []) Q E s := by
  obtain ⟨h, g, d, tk, os⟩ := s
  refine y_start _ _ _ _ _ _ _ (.call (.type "collections.deque") ⟨[], []⟩) none false [] _ (fun e => nomatch e) ?_
  refine y_code _ _ _ _ _ _ ?_
  rw [den_tw]
  refine y_eq _ _ _ _ _ _ _ _ _ (.pure (.again (.builtin "type.__call__" ⟨[.type "collections.deque"], []⟩))) (by kernel_rfl) ?_
  refine y_pure _ _ _ _ _ _ _ _ _ ?_
  refine y_again _ _ _ _ _ _ (by kernel_rfl) ?_
  refine y_code _ _ _ _ _ _ ?_
  rw [den_tw]
  refine y_caT (c' := .call (.builtin "collections.deque.__new__") ⟨[.type "collections.deque"], []⟩) (by kernel_rfl) ?_
  refine y_code _ _ _ _ _ _ ?_
  rw [den_tw]
  refine y_eq _ _ _ _ _ _ _ _ _ (.pure (.again (.builtin "collections.deque.__new__" ⟨[.type "collections.deque"], []⟩))) (by kernel_rfl) ?_
  refine y_pure _ _ _ _ _ _ _ _ _ ?_
  refine y_again _ _ _ _ _ _ (by kernel_rfl) ?_
  refine y_code _ _ _ _ _ _ ?_
  rw [den_tw]
  refine y_allT (o := deqO) (by kernel_rfl) (Mem.start h) rfl ?_
  intro a h1 D1
  refine y_eq _ _ _ _ _ _ _ _ _ (.pure (.done (.ret (.ref a)))) (by kernel_rfl) ?_
  refine y_pure _ _ _ _ _ _ _ _ _ ?_
  refine y_done _ _ _ _ _ _ ?_
  refine y_ret _ _ _ _ _ _ _ _ _ _ ?_
  refine y_ldT (a := a) (by kernel_rfl) (D1.at 0 a _ rfl) ?_
  refine y_ldT (a := a) (by kernel_rfl) (D1.at 0 a _ rfl) ?_
  refine y_caT (c' := .call (.builtin "collections.deque.__init__") ⟨[.ref a], []⟩) (by kernel_rfl) ?_
  refine y_code _ _ _ _ _ _ ?_
  rw [den_tw]
  refine y_ldT (a := a) (by kernel_rfl) (D1.at 0 a _ rfl) ?_
  refine y_eq _ _ _ _ _ _ _ _ _ (.pure (.again (.builtin "collections.deque.__init__" ⟨[.ref a], []⟩))) (by kernel_rfl) ?_
  refine y_pure _ _ _ _ _ _ _ _ _ ?_
  refine y_again _ _ _ _ _ _ (by kernel_rfl) ?_
  refine y_code _ _ _ _ _ _ ?_
  rw [den_tw]
  refine y_ldT (a := a) (by kernel_rfl) (D1.at 0 a _ rfl) ?_
  refine y_upT (a := a) (o := deqO) (o' := deqO) (by kernel_rfl) (by kernel_rfl) D1 0 rfl rfl ?_
  intro h2 D2
  refine y_ldT (a := a) (by kernel_rfl) (D2.at 0 a _ rfl) ?_
  refine y_eq _ _ _ _ _ _ _ _ _ (.pure (.done (.ret .none))) (by kernel_rfl) ?_
  refine y_pure _ _ _ _ _ _ _ _ _ ?_
  refine y_done _ _ _ _ _ _ ?_
  refine y_ret _ _ _ _ _ _ _ _ _ _ ?_
  refine y_eq _ _ _ _ _ _ _ _ _ (.pure (.done (.ret (.ref a)))) (by kernel_rfl) ?_
  refine y_pure _ _ _ _ _ _ _ _ _ ?_
  refine y_done _ _ _ _ _ _ ?_
  refine y_endOk _ _ _ _ _ _ _ _ _ (.ref a) rfl ?_
  exact hret h2 a (x_fin hF hN D2).1 (x_fin hF hN D2).2 (mem_ne hN D2)
theorem slot_deque_len : Slot "collections.deque" "__len__" "collections.deque.__len__" :=
  .of (owner := "collections.deque") (n := "__len__") (by rw [typeLookup_type, builtinLookup_eq_fast]; kernel_rfl) (by decide +kernel) (by decide +kernel) (by decide +kernel)
    (by first | exact .inl (by decide +kernel) | exact .inr (by decide +kernel)) (by rw [isSubtype_type]; kernel_rfl)
theorem entry_deque_len : entryFor table "collections.deque.__len__" = some Builtin.«collections.deque.__len__» := entryFor_of_tree (by kernel_rfl)
theorem args_deque_len (a : Value) : argsOk "collections.deque.__len__" ⟨[a], []⟩ := by unfold argsOk; kernel_rfl
theorem noBool_deque : typeLookup (.type "collections.deque") "__bool__" = pure none := by rw [typeLookup_type, builtinLookup_eq_fast]; kernel_rfl
theorem deque_truthy {prog : Program} {w : World} {A : Around} {E : Value → Shared → Prop} {s : Shared} {d : Addr} {Q : Bool → Shared → Prop} (ho : s.heap.get? d = some deqO) (h : Q false { s with toks := s.toks + 1 + 1 }) :
    wpAny (model prog w) A (truthy (.ref d)) Q E s := by
  have hT : s.TypeIs (.ref d) "collections.deque" := ⟨_, ho, rfl⟩
  have body : ∀ {A : Around} {Q : Value → Shared → Prop}, Q (.int 0 (s.toks + 1)) { s with toks := s.toks + 1 + 1 } → wpAny (model prog w) A (Builtin.«len» ⟨[.ref d], []⟩) (fun fin s' => ∃ r, fin = .done (.ret r) ∧ Q r s') E s := by
    intro A Q h
    unfold Builtin.«len»
    refine wpAny_bind (m := oneArg "len" _) (wpAny_pure ?_)
    refine wpAny_bind (m := callSpecial? (.ref d) (Str.ofString "__len__")) (wpAny_callSpecial?_slot (name := Str.ofString "__len__") hT slot_deque_len
      (wpAny_call_entry slot_deque_len hT entry_deque_len ?_ (args_deque_len _)))
    unfold Builtin.«collections.deque.__len__» Builtin.Deque.size fieldsOf
    show wpAny _ _ (_ >>= _) _ _ s
    refine wpAny_bind (wpAny_pure (wpAny_bind (wpAny_bind (wpAny_bind (wpAny_load ho (wpAny_pure (wpAny_pure ?_)))))))
    refine wpAny_bind (wpAny_mkInt (wpAny_pure ⟨_, rfl, ?_⟩))
    refine wpAny_bind (wpAny_holding (wpAny_pure ?_))
    refine wpAny_bind (wpAny_letGo ?_)
    exact wpAny_bind (wpAny_mkInt (wpAny_pure ⟨_, rfl, h⟩))
  have key : wpAny (model prog w) A (runValue (.builtin "len" ⟨[.ref d], []⟩)) (fun r s' => r = .int 0 (s.toks + 1) ∧ Q false s') E s := by
    refine wpAny_runValue (codeAny_builtin entry_len ?_)
    rw [Around.under_plainId plain_len _]
    exact wpAny_mono (body (Q := fun r s' => r = .int 0 (s.toks + 1) ∧ Q false s') ⟨rfl, h⟩)
      (fun fin s' h' => by obtain ⟨r, rfl, hq⟩ := h'; exact hq) fun _ _ e => e
  unfold truthy
  first
    | refine wpAny_bind (wpAny_callSpecial?_none (name := Str.ofString "__bool__") hT noBool_deque ?_)
    | refine wpAny_bind (wpAny_pure (wpAny_bind (wpAny_callSpecial?_none (name := Str.ofString "__bool__") hT noBool_deque ?_)))
  first
    | refine wpAny_bind (wpAny_specialOf (name := Str.ofString "__len__") hT slot_deque_len.lookup ?_)
    | refine wpAny_bind (wpAny_pure (wpAny_bind (wpAny_specialOf (name := Str.ofString "__len__") hT slot_deque_len.lookup ?_)))
  first
    | exact wpAny_bind (wpAny_mono key (fun r s' h' => by obtain ⟨rfl, hq⟩ := h'; exact wpAny_pure hq) fun _ _ e => e)
    | exact wpAny_bind (wpAny_pure (wpAny_bind (wpAny_mono key (fun r s' h' => by obtain ⟨rfl, hq⟩ := h'; exact wpAny_pure hq) fun _ _ e => e)))
end
local macro_rules | `(tactic| walk_at "execs cons") => `(tactic| (k_here; (fail_if_success (fail_if_success k_gentoks)); (refine gen_tok (by first | omega | exact Nat.lt_of_lt_of_le (by assumption) (Nat.le_add_right _ _)) ?_); intro tk htk))
local macro_rules | `(tactic| walk_at "execs nil") => `(tactic| (k_here; (fail_if_success (fail_if_success k_gentoks)); (refine gen_tok (by first | omega | exact Nat.lt_of_lt_of_le (by assumption) (Nat.le_add_right _ _)) ?_); intro tk htk))
section
noncomputable def putAll : List (Nat × Str) → Str → Str
  | [], x => x
  | (k, z) :: r, x => putAll r (putS k z x)
/-- a writer's tests, one for each sign of its table, and its return -/
inductive RunsTo (w : World) (body : List Stmt) (tab : List (Nat × Str)) : Prop
  | mk (run : ∀ {A : Around} {E : Value → Shared → Prop} {name : Str} {L a : Addr} {cd : Value} {h₀ : Heap} {news : List (Addr × Obj)} {x : Str} {t : Tok} {m : Str → Option Value} {s : Shared} {Q : Flow → Shared → Prop} {n : Nat},
    Fr h₀ L s.heap m → News h₀ L s.heap news → m (Str.ofString "text") = some (.str x t) → 0 < s.toks → x.length ≤ n → n * 6 ^ tab.length ≤ 6291456 →
    (∀ t' h' tk' m', 0 < tk' → Fr h₀ L h' m' → News h₀ L h' news → Q (.ret (.str (putAll tab x) t')) { s with heap := h', toks := tk' }) →
    wpAny (model PySem.Challenge.pw_ik0168_01 w) A (execs body (envOf name wsc L a cd)) Q E s) : RunsTo w body tab
theorem runs_ret {w : World} {p1 p2 : Pos} : RunsTo w [.Return (some (.Name (Str.ofString "text") p1)) p2] [] := by
  refine .mk ?_
  intro A E name L a cd h₀ news x t m ⟨heap, gens, drawn, toks, os⟩ Q n F N hm ht hx hn hQ
  dsimp only at *
  with_reducible refine PySem.wpAny_execs_cons ?_
  walk1
  refine ld F hm ?_
  exact hQ _ _ _ _ (by omega) F N
theorem runs_cons {w : World} {k : Nat} {c z : Str} {p1 p2 p3 p4 p5 p6 p7 p8 p9 p10 p11 : Pos} {rest : List Stmt} {tab : List (Nat × Str)} (hc : c = ⟨#[k]⟩) (hcz : (c == z) = false) (hz : z.length ≤ 6) (r : RunsTo w rest tab)
    (he : ∀ (name : Str) (L a : Addr) (cd : Value), ∃ pl : Sem Bool, eval (.Call (.Attribute (.Name (Str.ofString "text") p5) (Str.ofString "replace") p6) [.Constant (.str c) 0 p7, .Constant (.str z) 0 p8] [] p9) (envOf name wsc L a cd) = (do
      let ov ← eval (.Name (Str.ofString "text") p5) (envOf name wsc L a cd)
      standAt p6.atName
      let (f, first) ← holding [ov] (getMethod ov (Str.ofString "replace") pl)
      callWith p9 f first (backTo p9 (starEach [.Constant (.str c) 0 p7, .Constant (.str z) 0 p8] (envOf name wsc L a cd))) [])) :
    RunsTo w (.If (.Compare (.Constant (.str c) 0 p1) [.In] [.Name (Str.ofString "text") p2] p3) [.Assign [.Name (Str.ofString "text") p4] (.Call (.Attribute (.Name (Str.ofString "text") p5) (Str.ofString "replace") p6) [.Constant (.str c) 0 p7, .Constant (.str z) 0 p8] [] p9) p10] [] p11 :: rest) ((k, z) :: tab) := by
  refine .mk ?_
  intro A E name L a cd h₀ news x t m ⟨heap, gens, drawn, toks, os⟩ Q n F N hm ht hx hn hQ
  dsimp only at *
  with_reducible refine PySem.wpAny_execs_cons ?_
  have h6 : n * 6 ^ (_ + 1) ≤ 6291456 := hn
  rw [Nat.pow_succ', ← Nat.mul_assoc] at h6
  have h7 : n * 6 ≤ 6291456 := Nat.le_trans (Nat.le_mul_of_pos_right _ (Nat.pow_pos (by decide))) h6
  obtain ⟨pl, he⟩ := he name L a cd
  refine if_rep (zl := 6) F N hm ht hx (by omega) hz (by decide) (by decide) hcz hc ?_ he
  intro t' h' tk' htk hl F' N'
  dsimp only
  obtain ⟨r⟩ := r
  exact r F' N' (if_pos rfl) htk hl h6 hQ
theorem c_writer (w : World) (p : Program) (loose : List Str) (mean : ExcName → Option Value) (mg mb : Str → Option Value) {f : Addr} {q : Str} {a0 a5 a6 a7 a8 a9 b1 b2 b3 b4 : Pos} {ifs : List Stmt} {cdv : Value} {tab : List (Nat × Str)}
    (hl : (hd.heap_1 w.params).lookup f = some ⟨.type "function", none, .func (fnOf q q ⟨[], [⟨.ofString "text", none, a0⟩], none, [], [], none, []⟩ [.Try ifs [.ExceptHandler (some (.Tuple [.Name (.ofString "TypeError") a5, .Name (.ofString "AttributeError") a6] 0 a7)) none [.Expr (.Call (.Name (.ofString "_raise_serialization_error") a8) [.Name (.ofString "text") a9] [] b1) b2] b3] [] [] b4] wsc .none .none .none (.str (.ofString "cpy313.xml.etree.ElementTree") 331) none cdv .none), #[]⟩)
    (hcd : codeIn (hd.heap_1 w.params) cdv q = true) (hw : RunsTo w ifs tab) (hn : 4 * 6 ^ tab.length ≤ 6291456) (x : Str) (tx : Tok) (hx : x.length ≤ 4) (news : Led) :
    CallT 500 5000 w p loose mean mg mb f news [.str x tx] (One fun t => .str (putAll tab x) t) := by
  refine CallT.of ?_
  intro cn nms ig ic mo a ccd cl outer A₀ base h₀ L m s Q E hB hF hK hN hT ht hret
  replace hret := fun t h' tk' a b c => hret (.str (putAll tab x) t) [] h' tk' a b c ⟨rfl, t, rfl⟩
  refine tok_keep ?_
  refine wpAny_call ?_
  k_dflt (refine' code_def ?k1 ?k2 ?k3 ?k4 ?k5 ?kA ?kF ?kK ?k6 ?k7 ?k8 ?k9 ?kB ?_ ?c2 ?c3 ?c4 ?c5; (case kA => exact rfl); (case kF => exact rfl); (case kK => exact rfl); (case k1 => k_asm); (case k2 => k_asm); (case k3 => k_asm); (case k4 => k_asm); (case k5 => k_asm); (case k6 => exact hl); (case k7 => exact hcd); (case k8 => k_room); (case k9 => exact BindsTo.of_eq rfl); (case c5 => decide); (case kB => exact locs rfl); (case c2 => exact rfl); (case c3 => exact rfl); (case c4 => exact rfl); k_whole; intro _ _ _ _ _ _ B' _ _; (try dsimp only); (try k_lift B'); (try k_fold))
  repeat' ((fail_if_success (with_reducible show wpAny _ _ (execs ifs _) _ _ _)); (first | (k_unfold; (try dsimp only)) | (k_end; kc_close) | walk1 | (dsimp only; walk1)))
  rename Fr _ _ _ (fun _ => _) => FX
  rename News _ _ _ _ => NX
  obtain ⟨hw⟩ := hw
  refine' hw ?F ?N ?m ?t hx hn ?_
  case F => exact FX
  case N => exact NX
  case m => exact rfl
  case t => assumption
  intro t' h' tk' m' htk F' N'
  (try dsimp only)
  repeat' (first | (k_unfold; (try dsimp only)) | (k_end; kc_close) | walk1 | (dsimp only; walk1) | (leave1; (try dsimp only)))
  all_goals exact hret _ _ _ (by assumption) (by k_asm) (by k_asm)
theorem c_cdata (w : World) (p : Program) (loose : List Str) (mean : ExcName → Option Value) (mg mb : Str → Option Value) (x : Str) (tx : Tok) (hx : x.length ≤ 4) (news : Led) :
    CallT 500 5000 w p loose mean mg mb 58 news [.str x tx] (One fun t => .str (w_cdata x) t) := by
  refine' c_writer (tab := [(38, Str.ofString "&amp;"), (60, Str.ofString "&lt;"), (62, Str.ofString "&gt;")]) w p loose mean mg mb ?hl ?hcd ?hw (by decide) x tx hx news
  case hl => k_is
  case hcd => k_is
  case hw => exact (runs_cons (by decide +kernel) (by decide +kernel) (by decide) (runs_cons (by decide +kernel) (by decide +kernel) (by decide) (runs_cons (by decide +kernel) (by decide +kernel) (by decide) runs_ret (fun _ _ _ _ => ⟨_, rfl⟩)) (fun _ _ _ _ => ⟨_, rfl⟩)) (fun _ _ _ _ => ⟨_, rfl⟩))
theorem c_attrib (w : World) (p : Program) (loose : List Str) (mean : ExcName → Option Value) (mg mb : Str → Option Value) (x : Str) (tx : Tok) (hx : x.length ≤ 4) (news : Led) :
    CallT 500 5000 w p loose mean mg mb 65 news [.str x tx] (One fun t => .str (w_attrib x) t) := by
  refine' c_writer (tab := [(38, Str.ofString "&amp;"), (60, Str.ofString "&lt;"), (62, Str.ofString "&gt;"), (34, Str.ofString "&quot;"), (13, Str.ofString "&#13;"), (10, Str.ofString "&#10;"), (9, Str.ofString "&#09;")]) w p loose mean mg mb ?hl ?hcd ?hw (by decide) x tx hx news
  case hl => k_is
  case hcd => k_is
  case hw => exact (runs_cons (by decide +kernel) (by decide +kernel) (by decide) (runs_cons (by decide +kernel) (by decide +kernel) (by decide) (runs_cons (by decide +kernel) (by decide +kernel) (by decide) (runs_cons (by decide +kernel) (by decide +kernel) (by decide) (runs_cons (by decide +kernel) (by decide +kernel) (by decide) (runs_cons (by decide +kernel) (by decide +kernel) (by decide) (runs_cons (by decide +kernel) (by decide +kernel) (by decide) runs_ret (fun _ _ _ _ => ⟨_, rfl⟩)) (fun _ _ _ _ => ⟨_, rfl⟩)) (fun _ _ _ _ => ⟨_, rfl⟩)) (fun _ _ _ _ => ⟨_, rfl⟩)) (fun _ _ _ _ => ⟨_, rfl⟩)) (fun _ _ _ _ => ⟨_, rfl⟩)) (fun _ _ _ _ => ⟨_, rfl⟩))
theorem c_html (w : World) (p : Program) (loose : List Str) (mean : ExcName → Option Value) (mg mb : Str → Option Value) (x : Str) (tx : Tok) (hx : x.length ≤ 4) (news : Led) :
    CallT 500 5000 w p loose mean mg mb 72 news [.str x tx] (One fun t => .str (w_html x) t) := by
  refine' c_writer (tab := [(38, Str.ofString "&amp;"), (62, Str.ofString "&gt;"), (34, Str.ofString "&quot;")]) w p loose mean mg mb ?hl ?hcd ?hw (by decide) x tx hx news
  case hl => k_is
  case hcd => k_is
  case hw => exact (runs_cons (by decide +kernel) (by decide +kernel) (by decide) (runs_cons (by decide +kernel) (by decide +kernel) (by decide) (runs_cons (by decide +kernel) (by decide +kernel) (by decide) runs_ret (fun _ _ _ _ => ⟨_, rfl⟩)) (fun _ _ _ _ => ⟨_, rfl⟩)) (fun _ _ _ _ => ⟨_, rfl⟩))
theorem c_plain (w : World) (p : Program) (loose : List Str) (mean : ExcName → Option Value) (mg mb : Str → Option Value) (x : Str) (tx : Tok) (hx : x.length ≤ 4) (news : Led) :
    CallT 500 5000 w p loose mean mg mb 79 news [.str x tx] (One fun t => .str (w_plain x) t) := by
  refine' c_writer (tab := [(38, Str.ofString "&amp;"), (60, Str.ofString "&lt;"), (62, Str.ofString "&gt;"), (13, Str.ofString "&#xD;")]) w p loose mean mg mb ?hl ?hcd ?hw (by decide) x tx hx news
  case hl => k_is
  case hcd => k_is
  case hw => exact (runs_cons (by decide +kernel) (by decide +kernel) (by decide) (runs_cons (by decide +kernel) (by decide +kernel) (by decide) (runs_cons (by decide +kernel) (by decide +kernel) (by decide) (runs_cons (by decide +kernel) (by decide +kernel) (by decide) runs_ret (fun _ _ _ _ => ⟨_, rfl⟩)) (fun _ _ _ _ => ⟨_, rfl⟩)) (fun _ _ _ _ => ⟨_, rfl⟩)) (fun _ _ _ _ => ⟨_, rfl⟩))
theorem c_named (w : World) (p : Program) (loose : List Str) (mean : ExcName → Option Value) (mg mb : Str → Option Value) (x : Str) (tx : Tok) (hx : x.length ≤ 4) (news : Led) :
    CallT 500 5000 w p loose mean mg mb 86 news [.str x tx] (One fun t => .str (w_named x) t) := by
  refine' c_writer (tab := [(38, Str.ofString "&amp;"), (60, Str.ofString "&lt;"), (34, Str.ofString "&quot;"), (9, Str.ofString "&#x9;"), (10, Str.ofString "&#xA;"), (13, Str.ofString "&#xD;")]) w p loose mean mg mb ?hl ?hcd ?hw (by decide) x tx hx news
  case hl => k_is
  case hcd => k_is
  case hw => exact (runs_cons (by decide +kernel) (by decide +kernel) (by decide) (runs_cons (by decide +kernel) (by decide +kernel) (by decide) (runs_cons (by decide +kernel) (by decide +kernel) (by decide) (runs_cons (by decide +kernel) (by decide +kernel) (by decide) (runs_cons (by decide +kernel) (by decide +kernel) (by decide) (runs_cons (by decide +kernel) (by decide +kernel) (by decide) runs_ret (fun _ _ _ _ => ⟨_, rfl⟩)) (fun _ _ _ _ => ⟨_, rfl⟩)) (fun _ _ _ _ => ⟨_, rfl⟩)) (fun _ _ _ _ => ⟨_, rfl⟩)) (fun _ _ _ _ => ⟨_, rfl⟩)) (fun _ _ _ _ => ⟨_, rfl⟩))
end
section
local macro_rules | `(tactic| k_fold) => `(tactic| ((first | refine wp_enter (by assumption) ?_ | refine wp_enterC (by assumption) ?_); intro A2 o2 B2; k_fold))

theorem store_cell {M : Model} {A : Around} {E : Value → Shared → Prop} {s : Shared} {env : Env} {h₀ : Heap} {L c : Addr} {m : Str → Option Value} {o : Obj} {pre post : Led} {x : Str} {v : Value} {v₀ : Option Value} {Q : Unit → Shared → Prop}
    (F : Fr h₀ L s.heap m) (N : News h₀ L s.heap (pre ++ (c, o) :: post)) (ne : ∀ p ∈ pre ++ post, p.1 ≠ c) (hd : o.data = .cell v₀) (hk : env.scope.kind = .function) (hl : env.kindOf x = some .cell) (hc : env.cells.lookup x = some c)
    (h : ∀ h' o', Fr h₀ L h' m → News h₀ L h' (pre ++ (c, o') :: post) → o'.data = .cell (some v) → Q () { s with heap := h' }) : wpAny M A (storeName env x v) Q E s := by
  have hm := N (c, o) (List.mem_append_right _ (List.mem_cons_self ..))
  refine wpAny_storeName_cell hk hl hc ⟨o, hm.1, hd⟩ fun h' hv hs => ?_
  obtain ⟨o', ho', hd'⟩ := hv
  refine h h' o' (F.change hs hm.2.1 hm.2.2) (fun p hp => ?_) hd'
  rcases List.mem_append.mp hp with hp | hp
  · have z := N p (List.mem_append_left _ hp)
    exact ⟨hs.extBut _ _ (ne p (List.mem_append_left _ hp)) z.1, z.2⟩
  · rcases List.mem_cons.mp hp with rfl | hp
    · exact ⟨ho', hm.2⟩
    · have z := N p (List.mem_append_right _ (List.mem_cons_of_mem _ hp))
      exact ⟨hs.extBut _ _ (ne p (List.mem_append_right _ hp)) z.1, z.2⟩
theorem strs_at : ∀ {vs : List Value} {ps : List Str}, StrsAre vs ps → ∀ {i : Nat} {v : Value}, vs[i]? = some v → ∃ p t, ps[i]? = some p ∧ v = .str p t
  | _, _, .nil, i, v, h => by simp at h
  | _, _, .cons y t r, 0, v, h => by simp at h; exact ⟨y, t, by simp, h.symm⟩
  | _, _, .cons y t r, i + 1, v, h => by simpa using strs_at r (by simpa using h)
theorem led_ne {c : Addr} : ∀ {l : Led}, (∀ p ∈ l, p.1 < c) → ∀ p ∈ l, p.1 ≠ c := fun h p hp => Nat.ne_of_lt (h p hp)
theorem allLt_mem {d : Addr} : ∀ {l : Led}, AllLt d l → ∀ p ∈ l, p.1 < d
  | [], _, _, h => nomatch h
  | q :: r, x, p, h => by
    rcases List.mem_cons.mp h with rfl | h
    · exact x.1
    · exact allLt_mem x.2 p h

/-- one part of a pattern, on the places reached -/
noncomputable def takeStep (x : Str) (r : List Int) (part : Str) : List Int :=
  if (part == Str.ofString "*") = true then (match r with | [] => [] | k :: _ => rangeKs k ((x.length : Int) + 1 - k).toNat)
  else if ([Str.ofString "?", Str.ofString "."].any fun y => y == part) = true then (r.filter fun j => decide (j < (x.length : Int))).map (· + 1)
  else if (Txt.item part 0 == Str.ofString "[") = true then (r.filter fun j => decide (j < (x.length : Int)) && !(Builtin.Str.occurrences (Txt.slice part (some 1) (some (-1))) (Txt.item x j) 0 (Txt.slice part (some 1) (some (-1))).length 1).isEmpty).map (· + 1)
  else (r.filter fun j => Txt.slice x (some j) (some (j + 1)) == Txt.item part (-1)).map (· + 1)
noncomputable def reachOf (x : Str) (ps : List Str) : List Int := ps.foldl (takeStep x) [0]
noncomputable def takesB (x : Str) (ps : List Str) : Bool := (reachOf x ps).any fun k => k == (x.length : Int)
theorem reachOf_succ {x : Str} {ps : List Str} {i : Nat} {part : Str} (h : ps[i]? = some part) : reachOf x (ps.take (i + 1)) = takeStep x (reachOf x (ps.take i)) part := by
  unfold reachOf
  rw [List.take_add_one, h, Option.toList_some, List.foldl_append]; rfl
theorem map_form {la pa : Addr} {M : Str → Option Value} (h : M (Str.ofString "parts") = some (.ref pa)) : (fun y => if y = Str.ofString "reach" then some (Value.ref la) else M y) = (fun y => if y = Str.ofString "reach" then some (.ref la) else if y = Str.ofString "parts" then some (.ref pa) else M y) := by
  funext y
  by_cases h1 : y = Str.ofString "reach"
  · simp [h1]
  · by_cases h2 : y = Str.ofString "parts"
    · subst h2; simp [h]
    · simp [h1, h2]
theorem set_reach {ra pa D : Addr} {m2 : Str → Option Value} : ∃ M : Str → Option Value, (fun z => if z = Str.ofString "reach" then some (Value.ref D) else (if z = Str.ofString "reach" then some (Value.ref ra) else if z = Str.ofString "parts" then some (Value.ref pa) else m2 z)) = (fun y => if y = Str.ofString "reach" then some (.ref D) else if y = Str.ofString "parts" then some (.ref pa) else M y) :=
  ⟨m2, by funext z; by_cases h : z = Str.ofString "reach" <;> simp [h]⟩
theorem filt_len {f : Int → Bool} {ks : List Int} {n : Nat} (h : ks.length ≤ n) : ((ks.filter f).map (· + 1)).length ≤ n := by
  rw [List.length_map]; exact Nat.le_trans (List.length_filter_le _ _) h
theorem filt_bnd {f : Int → Bool} {ks : List Int} {n : Int} (h : ∀ k ∈ ks, 0 ≤ k ∧ k ≤ n) (hf : ∀ k, 0 ≤ k → k ≤ n → f k = true → k < n) : ∀ k ∈ (ks.filter f).map (· + 1), 0 ≤ k ∧ k ≤ n := by
  intro k hk
  obtain ⟨j, hj, rfl⟩ := List.mem_map.mp hk
  obtain ⟨hj, hfj⟩ := List.mem_filter.mp hj
  have := h j hj
  have := hf j this.1 this.2 hfj
  omega
inductive TakeJ (L1 pa : Addr) (n : Nat) (vs : List Value) (oT : Obj) (news : Led) (x : Str) (ps : List Str) (i : Nat) (m1 : Str → Option Value) (nw : Led) : Prop
  | mk (ra : Addr) (kvs : List Value) (ks : List Int) (nr : Nat) (oP : Obj) (vP : Option Value) (m2 : Str → Option Value) (e1 : m1 = (fun y => if y = Str.ofString "reach" then some (.ref ra) else if y = Str.ofString "parts" then some (.ref pa) else m2 y)) (e2 : nw = (ra, W.listOf (List.toArray kvs) nr) :: (L1+1+1, oP) :: (L1+1, oT) :: (pa, { cls := .type "list", data := .seq vs.toArray n }) :: news) (e3 : ra ≠ L1 + 1 + 1) (e4 : oP.data = .cell vP) (e5 : IntsAre kvs ks) (e6 : ks.length ≤ x.length + 1) (e7 : (∀ k ∈ ks, 0 ≤ k ∧ k ≤ (x.length : Int))) (e8 : ks = reachOf x (ps.take i)) : TakeJ L1 pa n vs oT news x ps i m1 nw
theorem sub6 {a b c d e : Addr × Obj} {news all : Led} (ha : a ∈ all) (hb : b ∈ all) (hc : c ∈ all) (hd : d ∈ all) (he : e ∈ all) (hn : ∀ p ∈ news, p ∈ all) : ∀ p ∈ a :: b :: c :: d :: e :: news, p ∈ all := by
  intro p hp
  simp only [List.mem_cons] at hp
  rcases hp with rfl | rfl | rfl | rfl | rfl | hp
  · exact ha
  · exact hb
  · exact hc
  · exact hd
  · exact he
  · exact hn p hp
theorem take_turn {h₀ h : Heap} {L1 pa I D : Addr} {n nr : Nat} {vs ys : List Value} {oP oT it : Obj} {news all : Led} {x part : Str} {ps : List Str} {i : Nat} {m2 : Str → Option Value} {s : Shared} {tk : Nat} {Q : Flow → Shared → Prop} {vP : Option Value} {js : List Int}
    (F : Fr h₀ L1 h (fun y => if y = Str.ofString "reach" then some (.ref D) else if y = Str.ofString "parts" then some (.ref pa) else m2 y)) (N : News h₀ L1 h all)
    (hI : (I, it) ∈ all) (hD : (D, W.listOf (List.toArray ys) nr) ∈ all) (hP : (L1 + 1 + 1, oP) ∈ all) (hT : (L1 + 1, oT) ∈ all) (hp : (pa, ({ cls := .type "list", data := .seq vs.toArray n } : Obj)) ∈ all) (hn : ∀ p ∈ news, p ∈ all)
    (oI : (L1 + 1 + 1 ≠ I ∧ L1 + 1 ≠ I ∧ pa ≠ I) ∧ ∀ p ∈ news, p.1 ≠ I) (cT : it.cls ≠ .type "list")
    (dP : oP.data = .cell vP) (hys : IntsAre ys js) (hlen : js.length ≤ x.length + 1) (hb : ∀ k ∈ js, 0 ≤ k ∧ k ≤ (x.length : Int)) (hpi : ps[i]? = some part) (hjs : js = takeStep x (reachOf x (ps.take i)) part) :
    TurnEnd h₀ L1 s I it (TakeJ L1 pa n vs oT news x ps (i + 1)) Q .next { s with heap := h, toks := tk } := by
  refine ⟨h, tk, _, _, rfl, F, news_sub N (sub6 hI hD hP hT hp hn), ?_, D, ys, js, nr, oP, vP, m2, rfl, rfl, ?_, dP, hys, hlen, hb, by rw [reachOf_succ hpi]; exact hjs⟩
  · intro p hp'
    rcases List.mem_cons.mp hp' with rfl | hp'
    · intro e
      have h1 := (N _ hD).1
      have h2 := (N _ hI).1
      rw [e] at h1
      rw [h1] at h2
      exact cT (congrArg Obj.cls (Option.some.inj h2)).symm
    · rcases List.mem_cons.mp hp' with rfl | hp'
      · exact oI.1.1
      · rcases List.mem_cons.mp hp' with rfl | hp'
        · exact oI.1.2.1
        · rcases List.mem_cons.mp hp' with rfl | hp'
          · exact oI.1.2.2
          · exact oI.2 p hp'
  · intro e
    have h1 := (N _ hD).1
    have h2 := (N _ hP).1
    rw [e] at h1
    rw [h1] at h2
    have := congrArg Obj.data (Option.some.inj h2)
    rw [dP] at this
    cases this
set_option maxHeartbeats 1000000 in
theorem c_takes (w : World) (p : Program) (loose : List Str) (mean : ExcName → Option Value) (mg mb : Str → Option Value) (x : Str) (tx : Tok) (hx : x.length ≤ 1000) (pa : Addr) (n : Nat) (vs : List Value) (ps : List Str) (hvs : StrsAre vs ps) (hps : ∀ p ∈ ps, 1 ≤ p.length ∧ p.length ≤ 64) (news : Led) :
    CallT 500 5000 w p loose mean mg mb 844 ((pa, { cls := .type "list", data := .seq vs.toArray n }) :: news) [.ref pa, .str x tx] (One fun _ => .bool (takesB x ps)) := by
  refine CallT.of ?_
  intro cn nms ig ic mo a ccd cl outer A₀ base h₀ L m s Q E hB hF hK hN hT ht hret
  refine wpAny_mono (Q := Q) (E := fun _ _ => False) ?_ (fun _ _ h => h) (fun _ _ h => h.elim)
  have hret1 := fun h' tk' a b (c : News h₀ L h' ((pa, ({ cls := .type "list", data := .seq vs.toArray n } : Obj)) :: news)) => hret (.bool (takesB x ps)) [] h' tk' a b c ⟨rfl, 0, rfl⟩
  refine tok_keep ?_
  repeat' ((fail_if_success (with_reducible show wpAny _ _ (exec (Stmt.For _ _ _ _ _) _) _ _ _)); (first | (k_unfold; (try dsimp only)) | (k_end; wrow_close) | walk1 | (dsimp only; walk1)))
  rename_i g L1 h2 tk2 FG B1 X1 T1 l1a oP oT dP dT A2 o2 B2 la h1 l1b h0' F1 N1 tk0 htk0
  have dP' : oP.data = .cell none := dP
  have dT' : oT.data = .cell (some (.str x tx)) := dT
  clear dP dT
  refine wpAny_mono (E := fun _ _ => False) ?_ (fun _ _ h => h) (fun _ _ h => h.elim)
  have hfar : ∀ p ∈ (pa, ({ cls := .type "list", data := .seq vs.toArray n } : Obj)) :: news, p.1 < L1 := allLt_mem ⟨l1a.1, l1a.2⟩
  refine for_led (items := vs) (ax := pa) (TakeJ L1 pa n vs oT news x ps) rfl F1 N1 ?hI ?hsrc ?hJ ?turn ?done
  case hI => intro Q' E' h; exact nameX_L F1 rfl h
  case hsrc =>
    rintro i m1 nw ⟨ra, kvs, ks, nr, oP, vP, m2, hm1, rfl, hra, dP, hI, hlen, hks0, hks⟩
    exact ⟨({ cls := .type "list", data := .seq vs.toArray n } : Obj), n, by simp, rfl, rfl⟩
  case hJ => exact ⟨la, [.int 0 tk2], [0], 0, oP, none, _, map_form rfl, rfl, Nat.ne_of_gt l1b.1, dP', .cons 0 _ .nil, by simp, by simp, rfl⟩
  case done =>
    rintro hd tkd md nwd ⟨ra, kvs, ks, nr, oP, vP, m2, rfl, rfl, hra, dP, hI, hlen, hks0, hks⟩ Fd Nd htd
    repeat' ((first | (k_unfold; (try dsimp only)) | (k_end; wrow_close) | walk1 | (dsimp only; walk1)))
    have hlv : vs.length = ps.length := hvs.length
    rw [hlv, List.take_length] at hks
    have e9 : (ks.any fun k => k == (x.length : Int)) = takesB x ps := by rw [hks]; rfl
    rw [e9]
    exact hret1 _ _ (by assumption) (by k_asm) (news_sub (by k_asm) (by intro p hp; repeat (first | exact hp | apply List.mem_cons_of_mem)))
  case turn =>
    rintro i v I it h tk m1 nw hv ⟨ra, kvs, ks, nr, oP, vP, m2, rfl, rfl, hra, dP, hI, hlen, hks0, hks⟩ F2 N2 hn hic htk
    obtain ⟨part, tp, hpi, rfl⟩ := strs_at hvs hv
    have hpl := hps part (List.mem_of_getElem? hpi)
    have hsz : kvs.toArray.size ≤ sizeLine := by rw [List.size_toArray, hI.length, sizeLine_eq]; omega
    have oI9 : (L1 + 1 + 1 ≠ I ∧ L1 + 1 ≠ I ∧ pa ≠ I) ∧ ∀ p ∈ news, p.1 ≠ I := ⟨⟨hn _ (.tail _ (.head _)), hn _ (.tail _ (.tail _ (.head _))), hn _ (.tail _ (.tail _ (.tail _ (.head _))))⟩, fun p hp => hn p (.tail _ (.tail _ (.tail _ (.tail _ hp))))⟩
    have hcI : it.cls ≠ .type "list" := by rw [hic]; decide
    refine wpAny_assign_Name (store_cell (pre := [(I, it), (ra, W.listOf (List.toArray kvs) nr)]) F2 N2 ?ne dP rfl rfl rfl ?_)
    case ne =>
      intro p hp
      simp only [List.cons_append, List.nil_append, List.mem_cons] at hp
      rcases hp with rfl | rfl | rfl | rfl | hp
      · exact Ne.symm (hn _ (.tail _ (.head _)))
      · exact hra
      · exact Nat.ne_of_lt (Nat.lt_succ_self _)
      · exact Nat.ne_of_lt (Nat.lt_of_lt_of_le (hfar _ (.head _)) (by omega))
      · exact Nat.ne_of_lt (Nat.lt_of_lt_of_le (hfar _ (.tail _ hp)) (by omega))
    intro h' oP' F3 N3 dP2
    clear F2 N2 F1 N1 dP dP' hv
    dsimp only [List.cons_append, List.nil_append] at N3
    repeat' ((fail_if_success (with_reducible show wpAny _ _ (exec (Stmt.Assign _ (Expr.ListComp _ _ _ _) _) _) _ _ _)); (fail_if_success (with_reducible show wpAny _ _ (exec (Stmt.Assign _ (Expr.IfExp _ _ _ _) _) _) _ _ _)); (first | (k_unfold; (try dsimp only)) | (k_end; wrow_close) | ((with_reducible show wpAny _ _ (exec (Stmt.If _ _ _ _) _) _ _ _); (k_here; k_fold)) | walk1 | (dsimp only; first | ((with_reducible show wpAny _ _ (exec (Stmt.If _ _ _ _) _) _ _ _); (k_here; k_fold)) | walk1)))
    · cases hI with
      | nil =>
        repeat' ((fail_if_success (with_reducible show TurnEnd _ _ _ _ _ _ _ _ _)); (first | (k_unfold; (try dsimp only)) | (k_end; wrow_close) | walk1 | (dsimp only; walk1)))
        all_goals first
          | (exfalso; simp_all; done)
          | skip
        rename Fr _ _ _ _ => FD
        rename News _ _ _ _ => ND
        rw [(set_reach (m2 := m2)).choose_spec] at FD
        refine take_turn (ys := []) FD ND (by k_mem) (by k_mem) (by k_mem) (by k_mem) (by k_mem) (by intro p hp; repeat (first | exact hp | apply List.mem_cons_of_mem)) oI9 hcI dP2 .nil (by simp) (by simp) hpi (by rw [← hks]; unfold takeStep; simp [*])
      | cons k0 t0 hI =>
        have hk0 := hks0 k0 (.head _)
        repeat' ((fail_if_success (with_reducible show TurnEnd _ _ _ _ _ _ _ _ _)); (fail_if_success (with_reducible show wpAny _ _ (call (Value.type "list") _) _ _ _)); (first | (k_unfold; (try dsimp only)) | (k_end; wrow_close) | walk1 | (dsimp only; walk1)))
        all_goals first
          | (exfalso; simp_all; done)
          | skip
        rename IsRange _ _ _ _ _ _ _ _ => rgX
        k_dflt (refine kll_range rfl (by k_asm) (by k_asm) rgX (small_one (by show -(2^62) ≤ k0; omega) (by show k0 < 2^62; omega) (by omega) (by omega)) (rangeSize_nat _ _) (by show ((x.length : Int) + 1 - k0).toNat ≤ 2^24; omega) ?_)
        intro D us c' hD tkD FD ND ltD hus
        repeat' ((fail_if_success (with_reducible show TurnEnd _ _ _ _ _ _ _ _ _)); (first | (k_unfold; (try dsimp only)) | (k_end; wrow_close) | walk1 | (dsimp only; walk1)))
        rename Fr _ _ _ _ => FD
        rename News _ _ _ _ => ND
        rw [(set_reach (m2 := m2)).choose_spec] at FD
        refine take_turn (ys := us) FD ND (by k_mem) (by k_mem) (by k_mem) (by k_mem) (by k_mem) (by intro p hp; repeat (first | exact hp | apply List.mem_cons_of_mem)) oI9 hcI dP2 hus ?_ ?_ hpi (by rw [← hks]; unfold takeStep; rw [if_pos (by assumption)]; rfl)
        · rw [rangeKs_length]; show ((x.length : Int) + 1 - k0).toNat ≤ _; omega
        · intro k hk
          have hb : k0 ≤ k ∧ k < k0 + ((((x.length : Int) + 1 - k0).toNat : Nat) : Int) := mem_rangeKs hk
          omega
    · k_dflt (refine LCt.Assign_ListComp_T (F₀ := by k_asm) (by rfl) (by with_unfolding_all rfl) (by with_unfolding_all rfl) (by decide) (by rfl) (by decide) (by rfl) (by rfl) (by rfl) ?_)
      refine nameX_L (by k_asm) rfl ?_
      k_dflt (refine LCt.CompSrcT.ledger (by rfl) (by k_asm) (by k_asm) (by k_mem) hsz ?_)
      intro g'
      refine ct_ints (fun j => decide (j < (x.length : Int))) hI ?turn ?fin
      case turn =>
        intro k t I1 oI C oC D m2' ys hh tkk E' hk hC hx' F' N' off' ne'
        have hk0 := hks0 k hk
        have off0 := off'
        repeat' ((first | (k_unfold; (try dsimp only)) | (k_end; wrow_close) | walk1 | (dsimp only; walk1)))
        all_goals first
          | exact ⟨_, _, _, rfl, by k_asm, news_sub (by k_asm) (by intro p hp; first | exact hp | exact .tail _ hp | exact .tail _ (.tail _ hp) | exact .tail _ (.tail _ (.tail _ hp)) | exact .tail _ (.tail _ (.tail _ (.tail _ hp)))), off0, .inr ⟨_, by k_mem, rfl, _, rfl⟩, rfl, by first | assumption | (simp [*]; done) | (simp_all; done), ⟨_, rfl⟩⟩
          | exact ⟨_, _, _, rfl, by k_asm, news_sub (by k_asm) (by intro p hp; first | exact hp | exact .tail _ hp | exact .tail _ (.tail _ hp) | exact .tail _ (.tail _ (.tail _ hp)) | exact .tail _ (.tail _ (.tail _ (.tail _ hp)))), off0, .inr ⟨_, by k_mem, rfl, _, rfl⟩, rfl, by first | assumption | (simp [*]; done) | (simp_all; done)⟩
      case fin =>
        intro ys hys D hD tkD FD ND offD
        obtain ⟨M, hM⟩ := set_reach (ra := ra) (pa := pa) (D := D) (m2 := m2)
        rw [hM] at FD
        repeat' ((fail_if_success (with_reducible show TurnEnd _ _ _ _ _ _ _ _ _)); (first | (k_unfold; (try dsimp only)) | (k_end; wrow_close) | walk1 | (dsimp only; walk1)))
        exact take_turn (by k_asm) (by k_asm) (by k_mem) (by k_mem) (by k_mem) (by k_mem) (by k_mem) (by intro p hp; repeat (first | exact hp | apply List.mem_cons_of_mem)) oI9 hcI dP2 hys (filt_len hlen) (filt_bnd hks0 (by intro k h0' h1' hf; exact of_decide_eq_true hf)) hpi (by rw [← hks]; unfold takeStep; simp [*])
    · k_dflt (refine LCt.Assign_ListComp_T (F₀ := by k_asm) (by rfl) (by with_unfolding_all rfl) (by with_unfolding_all rfl) (by decide) (by rfl) (by decide) (by rfl) (by rfl) (by rfl) ?_)
      refine nameX_L (by k_asm) rfl ?_
      k_dflt (refine LCt.CompSrcT.ledger (by rfl) (by k_asm) (by k_asm) (by k_mem) hsz ?_)
      intro g'
      refine ct_ints (fun j => decide (j < (x.length : Int)) && !(Builtin.Str.occurrences (Txt.slice part (some 1) (some (-1))) (Txt.item x j) 0 (Txt.slice part (some 1) (some (-1))).length 1).isEmpty) hI ?turn ?fin
      case turn =>
        intro k t I1 oI C oC D m2' ys hh tkk E' hk hC hx' F' N' off' ne'
        have hk0 := hks0 k hk
        have off0 := off'
        repeat' ((first | (k_unfold; (try dsimp only)) | (k_end; wrow_close) | walk1 | (dsimp only; walk1)))
        all_goals first
          | exact ⟨_, _, _, rfl, by k_asm, news_sub (by k_asm) (by intro p hp; first | exact hp | exact .tail _ hp | exact .tail _ (.tail _ hp) | exact .tail _ (.tail _ (.tail _ hp)) | exact .tail _ (.tail _ (.tail _ (.tail _ hp)))), off0, .inr ⟨_, by k_mem, rfl, _, rfl⟩, rfl, by first | assumption | (simp [*]; done) | (simp_all; done), ⟨_, rfl⟩⟩
          | exact ⟨_, _, _, rfl, by k_asm, news_sub (by k_asm) (by intro p hp; first | exact hp | exact .tail _ hp | exact .tail _ (.tail _ hp) | exact .tail _ (.tail _ (.tail _ hp)) | exact .tail _ (.tail _ (.tail _ (.tail _ hp)))), off0, .inr ⟨_, by k_mem, rfl, _, rfl⟩, rfl, by first | assumption | (simp [*]; done) | (simp_all; done)⟩
      case fin =>
        intro ys hys D hD tkD FD ND offD
        obtain ⟨M, hM⟩ := set_reach (ra := ra) (pa := pa) (D := D) (m2 := m2)
        rw [hM] at FD
        repeat' ((fail_if_success (with_reducible show TurnEnd _ _ _ _ _ _ _ _ _)); (first | (k_unfold; (try dsimp only)) | (k_end; wrow_close) | walk1 | (dsimp only; walk1)))
        exact take_turn (by k_asm) (by k_asm) (by k_mem) (by k_mem) (by k_mem) (by k_mem) (by k_mem) (by intro p hp; repeat (first | exact hp | apply List.mem_cons_of_mem)) oI9 hcI dP2 hys (filt_len hlen) (filt_bnd hks0 (by intro k h0' h1' hf; exact of_decide_eq_true (Bool.and_eq_true_iff.mp hf).1)) hpi (by rw [← hks]; unfold takeStep; simp [*])
    · k_dflt (refine LCt.Assign_ListComp_T (F₀ := by k_asm) (by rfl) (by with_unfolding_all rfl) (by with_unfolding_all rfl) (by decide) (by rfl) (by decide) (by rfl) (by rfl) (by rfl) ?_)
      refine nameX_L (by k_asm) rfl ?_
      k_dflt (refine LCt.CompSrcT.ledger (by rfl) (by k_asm) (by k_asm) (by k_mem) hsz ?_)
      intro g'
      refine ct_ints (fun j => Txt.slice x (some j) (some (j + 1)) == Txt.item part (-1)) hI ?turn ?fin
      case turn =>
        intro k t I1 oI C oC D m2' ys hh tkk E' hk hC hx' F' N' off' ne'
        have hk0 := hks0 k hk
        have off0 := off'
        repeat' ((first | (k_unfold; (try dsimp only)) | (k_end; wrow_close) | walk1 | (dsimp only; walk1)))
        all_goals first
          | exact ⟨_, _, _, rfl, by k_asm, news_sub (by k_asm) (by intro p hp; first | exact hp | exact .tail _ hp | exact .tail _ (.tail _ hp) | exact .tail _ (.tail _ (.tail _ hp)) | exact .tail _ (.tail _ (.tail _ (.tail _ hp)))), off0, .inr ⟨_, by k_mem, rfl, _, rfl⟩, rfl, by first | assumption | (simp [*]; done) | (simp_all; done), ⟨_, rfl⟩⟩
          | exact ⟨_, _, _, rfl, by k_asm, news_sub (by k_asm) (by intro p hp; first | exact hp | exact .tail _ hp | exact .tail _ (.tail _ hp) | exact .tail _ (.tail _ (.tail _ hp)) | exact .tail _ (.tail _ (.tail _ (.tail _ hp)))), off0, .inr ⟨_, by k_mem, rfl, _, rfl⟩, rfl, by first | assumption | (simp [*]; done) | (simp_all; done)⟩
      case fin =>
        intro ys hys D hD tkD FD ND offD
        obtain ⟨M, hM⟩ := set_reach (ra := ra) (pa := pa) (D := D) (m2 := m2)
        rw [hM] at FD
        repeat' ((fail_if_success (with_reducible show TurnEnd _ _ _ _ _ _ _ _ _)); (first | (k_unfold; (try dsimp only)) | (k_end; wrow_close) | walk1 | (dsimp only; walk1)))
        exact take_turn (by k_asm) (by k_asm) (by k_mem) (by k_mem) (by k_mem) (by k_mem) (by k_mem) (by intro p hp; repeat (first | exact hp | apply List.mem_cons_of_mem)) oI9 hcI dP2 hys (filt_len hlen) (filt_bnd hks0 (by intro k h0' h1' hf; exact slice_item (by assumption) (by assumption) (by rw [len_item]; exact Nat.le_refl _) hf)) hpi (by rw [← hks]; unfold takeStep; simp [*])
end
section
noncomputable def signsS : Str := Str.ofString "&<>\"\x0d\n\ta'"
noncomputable def wordParts (n : Int) : List Str := [Txt.item signsS ((n.fdiv 4).fmod 9), Txt.item signsS ((n.fdiv 36).fmod 9), Txt.item signsS ((n.fdiv 324).fmod 9)].take (n.fmod 4).toNat
noncomputable def wordOf (n : Int) : Str := Txt.join (Str.ofString "") (wordParts n)
theorem fmod4 (n : Int) : n.fmod 4 = 0 ∨ n.fmod 4 = 1 ∨ n.fmod 4 = 2 ∨ n.fmod 4 = 3 := by
  rw [Int.fmod_eq_emod_of_nonneg n (by decide)]
  omega
theorem pick_strs (a b c : Str) (t u v : Tok) {q : Int} (h : q = 0 ∨ q = 1 ∨ q = 2 ∨ q = 3) : StrsAre (slicePick #[.str a t, .str b u, .str c v] none (some q) none).toList ([a, b, c].take q.toNat) := by
  rcases h with rfl | rfl | rfl | rfl
  · exact .nil
  · exact .cons a t .nil
  · exact .cons a t (.cons b u .nil)
  · exact .cons a t (.cons b u (.cons c v .nil))
theorem c_word (w : World) (p : Program) (loose : List Str) (mean : ExcName → Option Value) (mg mb : Str → Option Value) (n : Int) (tn : Tok) (news : Led) :
    CallT 500 5000 w p loose mean mg mb 839 news [.int n tn] (One fun t => .str (wordOf n) t) := by
  refine CallT.of ?_
  intro cn nms ig ic mo a ccd cl outer A₀ base h₀ L m s Q E hB hF hK hN hT ht hret
  have hret1 := fun t h' tk' a b (c : News h₀ L h' news) => hret (.str (wordOf n) t) [] h' tk' a b c ⟨rfl, t, rfl⟩
  refine tok_keep ?_
  repeat' ((first | (k_unfold; (try dsimp only)) | (k_end; wrow_close) | walk1 | (dsimp only; walk1)))
  rename News _ _ _ _ => NX
  refine tok_keep ?_
  refine join_list (D := _) (ys := wordParts n) ⟨_, (NX _ (.head _)).1, rfl, _, rfl⟩ (pick_strs _ _ _ _ _ _ (fmod4 n)) ?_ ?_
  · have : ∀ (l : List Str) (k : Nat), (∀ x ∈ l, x.length = 1) → ((l.take k).map (·.length)).sum + (l.take k).length * (Str.ofString "").length ≤ l.length := by
      intro l
      induction l with
      | nil => intro k _; simp
      | cons x r ih =>
        intro k hx
        cases k with
        | zero => simp
        | succ k =>
          have := ih k (fun y hy => hx y (.tail _ hy))
          have e0 : (Str.ofString "").length = 0 := by decide +kernel
          rw [e0] at this ⊢
          simp only [List.take_succ_cons, List.map_cons, List.sum_cons, hx x (.head _), List.length_cons, Nat.mul_zero, Nat.add_zero] at this ⊢
          omega
    refine Nat.le_trans (this _ _ ?_) (by show 3 ≤ _; decide)
    intro x hx
    simp only [List.mem_cons, List.not_mem_nil, or_false] at hx
    rcases hx with rfl | rfl | rfl <;> rfl
  · intro t' k hk
    repeat' ((first | (k_unfold; (try dsimp only)) | (k_end; wrow_close) | walk1 | (dsimp only; walk1)))
    exact hret1 _ _ _ (by assumption) (by k_asm) (news_sub (by k_asm) (by intro p hp; repeat (first | exact hp | apply List.mem_cons_of_mem)))
end
section
/-- the pairs of a table of strings -/
inductive PairsAre : List (Str × Value) → List (Str × Str) → Prop
  | nil : PairsAre [] []
  | cons (k y : Str) (t : Tok) {r : List (Str × Value)} {r' : List (Str × Str)} (h : PairsAre r r') : PairsAre ((k, .str y t) :: r) ((k, y) :: r')
noncomputable def TabOf (w : World) (o : Obj) (kvs : List (Str × Str)) : Prop := ∃ vs, o.IsDictOf (PySem.strKind PySem.Challenge.pw_ik0168_01 w) vs ∧ PairsAre vs kvs
noncomputable def t_cdata : List (Str × Str) := [(Str.ofString "&", Str.ofString "&amp;"), (Str.ofString "<", Str.ofString "&lt;"), (Str.ofString ">", Str.ofString "&gt;")]
noncomputable def t_attrib : List (Str × Str) := [(Str.ofString "&", Str.ofString "&amp;"), (Str.ofString "<", Str.ofString "&lt;"), (Str.ofString ">", Str.ofString "&gt;"), (Str.ofString "\"", Str.ofString "&quot;"), (Str.ofString "\r", Str.ofString "&#13;"), (Str.ofString "\n", Str.ofString "&#10;"), (Str.ofString "\t", Str.ofString "&#09;")]
noncomputable def t_html : List (Str × Str) := [(Str.ofString "&", Str.ofString "&amp;"), (Str.ofString ">", Str.ofString "&gt;"), (Str.ofString "\"", Str.ofString "&quot;")]
noncomputable def t_plain : List (Str × Str) := [(Str.ofString "&", Str.ofString "&amp;"), (Str.ofString "<", Str.ofString "&lt;"), (Str.ofString ">", Str.ofString "&gt;"), (Str.ofString "\r", Str.ofString "&#xD;")]
noncomputable def t_named : List (Str × Str) := [(Str.ofString "&", Str.ofString "&amp;"), (Str.ofString "<", Str.ofString "&lt;"), (Str.ofString "\"", Str.ofString "&quot;"), (Str.ofString "\t", Str.ofString "&#x9;"), (Str.ofString "\n", Str.ofString "&#xA;"), (Str.ofString "\r", Str.ofString "&#xD;")]

/-- the list of the five tables -/
inductive TabsR (w : World) (u1 : Heap) (tl : Led) (v : Value) : Prop
  | mk (l d1 d2 d3 d4 d5 : Addr) (o1 o2 o3 o4 o5 : Obj) (n : Nat) (e1 : v = .ref l) (e2 : tl = [(l, W.listOf #[.ref d1, .ref d2, .ref d3, .ref d4, .ref d5] n), (d5, o5), (d4, o4), (d3, o3), (d2, o2), (d1, o1)]) (e3 : TabOf w o1 t_cdata) (e4 : TabOf w o2 t_attrib) (e5 : TabOf w o3 t_html) (e6 : TabOf w o4 t_plain) (e7 : TabOf w o5 t_named) (e8 : (d1 == sysModules) = false) (e9 : (d2 == sysModules) = false) (e10 : (d3 == sysModules) = false) (e11 : (d4 == sysModules) = false) (e12 : (d5 == sysModules) = false) : TabsR w u1 tl v
theorem c_tables (w : World) (p : Program) (loose : List Str) (mean : ExcName → Option Value) (mg mb : Str → Option Value) (news : Led) :
    CallT 500 5000 w p loose mean mg mb 832 news [] (TabsR w) := by
  refine CallT.of ?_
  intro cn nms ig ic mo a ccd cl outer A₀ base h₀ L m s Q E hB hF hK hN hT ht hret
  refine tok_keep ?_
  repeat' ((first | (k_unfold; (try dsimp only)) | (k_end; wrow_close) | walk1 | (dsimp only; walk1)))
  rename Obj.IsDictOf _ _ _ => D5
  revert D5
  rename Obj.IsDictOf _ _ _ => D4
  revert D4
  rename Obj.IsDictOf _ _ _ => D3
  revert D3
  rename Obj.IsDictOf _ _ _ => D2
  revert D2
  rename Obj.IsDictOf _ _ _ => D1
  intro D2 D3 D4 D5
  rename News _ _ _ _ => NX
  exact hret (.ref _) [_, _, _, _, _, _] _ _ (by assumption) (by k_asm) NX ⟨_, _, _, _, _, _, _, _, _, _, _, _, rfl, rfl, ⟨_, D1, by repeat constructor⟩, ⟨_, D2, by repeat constructor⟩, ⟨_, D3, by repeat constructor⟩, ⟨_, D4, by repeat constructor⟩, ⟨_, D5, by repeat constructor⟩, by assumption, by assumption, by assumption, by assumption, by assumption⟩
end
section
theorem allLt_mem2 {d : Addr} : ∀ {l : Led}, AllLt d l → ∀ p ∈ l, p.1 < d
  | [], _, _, h => nomatch h
  | q :: r, x, p, h => by
    rcases List.mem_cons.mp h with rfl | h
    · exact x.1
    · exact allLt_mem2 x.2 p h

noncomputable abbrev kh (w : World) (x : String) : Int := PyData.keyHash w.params (Str.ofString x)
noncomputable abbrev sk (x : String) (t : Tok) : Value := .str (Str.ofString x) t
/-- the inside of a StringIO -/
noncomputable abbrev sioD (w : World) (t1 t2 t3 : Tok) (nl buf pos : Value) : Obj := dictOf [⟨kh w "_StringIO__newline", sk "_StringIO__newline" t1, nl⟩, ⟨kh w "_StringIO__buf", sk "_StringIO__buf" t2, buf⟩, ⟨kh w "_StringIO__pos", sk "_StringIO__pos" t3, pos⟩] 3
inductive SioR (w : World) (x : Str) (tx : Tok) (news : Led) (u1 : Heap) (tl : Led) (v : Value) : Prop
  | mk (io dx : Addr) (t1 t2 t3 t4 t5 : Tok) (e1 : v = .ref io) (e2 : tl = [(io, instObj 663 dx), (dx, sioD w t1 t2 t3 (.str (Str.ofString "\n") t4) (.str x tx) (.int 0 t5))]) (e3 : NeAll dx news) (e4 : NeAll io news) (e5 : @LT.lt Nat _ dx io) : SioR w x tx news u1 tl v
theorem all_ne {d e : Nat} {news : Led} (h : AllLt e news) (hle : e ≤ d) : ∀ p ∈ news, p.1 ≠ d := fun p hp => Nat.ne_of_lt (Nat.lt_of_lt_of_le (allLt_mem2 h p hp) hle)
theorem deque_truthyN {prog : Program} {w : World} {A : Around} {E : Value → Shared → Prop} {s : Shared} {d : Addr} {Q : Bool → Shared → Prop} {h₀ : Heap} {L : Addr} {news : Led} (N : News h₀ L s.heap news) (hm : (d, deqO) ∈ news) (h : Q false { s with toks := s.toks + 1 + 1 }) :
    wpAny (model prog w) A (truthy (.ref d)) Q E s := deque_truthy (N _ hm).1 h
theorem neAll_all {d : Nat} : ∀ {news : Led}, NeAll d news → ∀ p ∈ news, p.1 ≠ d
  | [], _, _, h => nomatch h
  | q :: r, x, p, h => by
    rcases List.mem_cons.mp h with rfl | h
    · exact x.1
    · exact neAll_all x.2 p h

noncomputable def wordsL : Str := Str.ofString "abcdfeghijklmnopqrstuvwxyzABCDEFGHIJKLMNOPQRSTUVWXYZ0123456789_" ++ Str.ofString "ßàáâãäåæçèéêëìíîïðñòóôõöøùúûüýþÿÀÁÂÃÄÅÆÇÈÉÊËÌÍÎÏÐÑÒÓÔÕÖØÙÚÛÜÝÞ"
/-- what is known of a lexer and of its stream: addresses, tokens, and the parts that change -/
structure LexB where
  lx : Addr
  ld : Addr
  io : Addr
  dx : Addr
  pb : Addr
  fs : Addr
  T : Nat → Tok
  st : Value
  tok : Str
  ln : Int
  buf : Str
  pos : Int
noncomputable abbrev lexD (w : World) (B : LexB) : Obj := dictOf [⟨kh w "instream", sk "instream" (B.T 0), .ref B.io⟩, ⟨kh w "infile", sk "infile" (B.T 1), .none⟩, ⟨kh w "posix", sk "posix" (B.T 2), .bool true⟩, ⟨kh w "eof", sk "eof" (B.T 3), .none⟩, ⟨kh w "commenters", sk "commenters" (B.T 4), .str (Str.ofString "") (B.T 19)⟩, ⟨kh w "wordchars", sk "wordchars" (B.T 5), .str wordsL (B.T 20)⟩, ⟨kh w "whitespace", sk "whitespace" (B.T 6), .str (Str.ofString " \t\r\n") (B.T 21)⟩, ⟨kh w "whitespace_split", sk "whitespace_split" (B.T 7), .bool true⟩, ⟨kh w "quotes", sk "quotes" (B.T 8), .str (Str.ofString "'\"") (B.T 22)⟩, ⟨kh w "escape", sk "escape" (B.T 9), .str (Str.ofString "\\") (B.T 23)⟩, ⟨kh w "escapedquotes", sk "escapedquotes" (B.T 10), .str (Str.ofString "\"") (B.T 24)⟩, ⟨kh w "state", sk "state" (B.T 11), B.st⟩, ⟨kh w "pushback", sk "pushback" (B.T 12), .ref B.pb⟩, ⟨kh w "lineno", sk "lineno" (B.T 13), .int B.ln (B.T 25)⟩, ⟨kh w "debug", sk "debug" (B.T 14), .int 0 (B.T 26)⟩, ⟨kh w "token", sk "token" (B.T 15), .str B.tok (B.T 27)⟩, ⟨kh w "filestack", sk "filestack" (B.T 16), .ref B.fs⟩, ⟨kh w "source", sk "source" (B.T 17), .none⟩, ⟨kh w "_punctuation_chars", sk "_punctuation_chars" (B.T 18), .str (Str.ofString "") (B.T 28)⟩] 19
/-- the lexer's ledger -/
noncomputable abbrev lexL (w : World) (B : LexB) (news : Led) : Led := (B.fs, deqO) :: (B.pb, deqO) :: (B.io, instObj 663 B.dx) :: (B.dx, sioD w (B.T 29) (B.T 30) (B.T 31) (.str (Str.ofString "\n") (B.T 32)) (.str B.buf (B.T 33)) (.int B.pos (B.T 34))) :: (B.lx, instObj 798 B.ld) :: (B.ld, lexD w B) :: news
/-- what is known of its addresses -/
structure LexOk (B : LexB) (news : Led) : Prop where
  al : NeAll B.ld news
  a2 : NeAll B.dx news
  l1 : @LT.lt Nat _ B.ld B.lx
  l2 : @Ne Nat B.lx B.dx
  l3 : @LT.lt Nat _ B.dx B.io
  n1 : @Ne Nat B.ld B.pb
  n2 : @Ne Nat B.lx B.pb
  n3 : @Ne Nat B.dx B.pb
  n4 : @Ne Nat B.io B.pb
  n5 : @Ne Nat B.ld B.fs
  n6 : @Ne Nat B.lx B.fs
  n7 : @Ne Nat B.dx B.fs
  n8 : @Ne Nat B.io B.fs
  n9 : @Ne Nat B.ld B.dx
  n10 : @Ne Nat B.ld B.io
  n11 : @Ne Nat B.lx B.io
/-- a contract whose ledger changes -/
noncomputable abbrev CallN (D U : Nat) (w : World) (p : Program) (loose : List Str) (mean : ExcName → Option Value) (mg mb : Str → Option Value) (f : Addr) (news : Led) (vs : List Value) (R : Heap → Led → Value → Prop) : Prop :=
  ∀ (dp un : Nat) (cn : Str) (cs : Scope) (a : Addr) (ccd : Value) (cl : List (Str × Addr)) (outer : List Env) (A₀ : Around) (base h₀ : Heap) (L : Addr) (m : Str → Option Value) (s : Shared) (Q E : Value → Shared → Prop),
    Below A₀ base outer h₀ → Fr h₀ L s.heap m → (hd.heap_1 w.params).In h₀ → News h₀ L s.heap news → Top p loose mean mg mb h₀ → cs.kind = .function → dp ≤ D → un ≤ U → 0 < s.toks →
    (∀ (v : Value) (led : Led) (h' : Heap) (tk' : Nat), s.toks ≤ tk' → Fr h₀ L h' m → News h₀ L h' led → R h₀ led v → Q v { s with heap := h', toks := tk' }) →
    wpAny (model PySem.Challenge.pw_ik0168_01 w) (ktrTop dp un (some []) cn cs L a ccd cl outer) (call (.ref f) vs) Q E s
noncomputable abbrev CallNL (D U : Nat) (w : World) (p : Program) (loose : List Str) (mean : ExcName → Option Value) (mg mb : Str → Option Value) (f : Addr) (news : Led) (vs : List Value) (R : Heap → Led → Value → Prop) : Prop :=
  ∀ (cn : Str) (nms : List (Str × NameKind)) (ig ic : Bool) (mo : List (Str × Const)) (a : Addr) (ccd : Value) (cl : List (Str × Addr)) (outer : List Env) (A₀ : Around) (base h₀ : Heap) (L : Addr) (m : Str → Option Value) (s : Shared) (Q E : Value → Shared → Prop),
    Below A₀ base outer h₀ → Fr h₀ L s.heap m → (hd.heap_1 w.params).In h₀ → News h₀ L s.heap news → Top p loose mean mg mb h₀ → 0 < s.toks →
    (∀ (v : Value) (led : Led) (h' : Heap) (tk' : Nat), s.toks ≤ tk' → Fr h₀ L h' m → News h₀ L h' led → R h₀ led v → Q v { s with heap := h', toks := tk' }) →
    wpAny (model PySem.Challenge.pw_ik0168_01 w) (ktrTop D U (some []) cn { kind := .function, names := nms, isGenerator := ig, isCoroutine := ic, more := mo } L a ccd cl outer) (call (.ref f) vs) Q E s
theorem CallN.of {D U : Nat} {w : World} {p : Program} {loose : List Str} {mean : ExcName → Option Value} {mg mb : Str → Option Value} {f : Addr} {news : Led} {vs : List Value} {R : Heap → Led → Value → Prop}
    (h : CallNL D U w p loose mean mg mb f news vs R) : CallN D U w p loose mean mg mb f news vs R :=
  fun dp un cn cs a ccd cl outer A₀ base h₀ L m s Q E hB hF hK hN hT hk hd hu ht hr => by
    obtain ⟨kd, nms, ig, ic, mo⟩ := cs
    dsimp only at hk
    subst hk
    exact around_mono hd hu (h cn nms ig ic mo a ccd cl outer A₀ base h₀ L m s _ _ hB hF hK hN hT ht fun v tl h' tk' hle F N r => hr v tl h' tk' hle F N r)

theorem slice_pad (c : Nat) : Txt.slice ((⟨#[c]⟩ : Str) ++ Str.ofString " ") none (some (-1)) = ⟨#[c]⟩ := by
  with_unfolding_all rfl
theorem slice_read (x : Str) {k : Nat} (hk : k < x.length) : Txt.slice (Txt.slice x (some (k : Int)) (some ((k : Int) + 1)) ++ Str.ofString " ") none (some (-1)) = ⟨#[x.cps[k]'hk]⟩ := by
  rw [slice_one x hk, slice_pad]
/-- what a read of one sign gives -/
noncomputable def ReadR (w : World) (B : LexB) (news : Led) (k : Nat) (_ : Heap) (led : Led) (v : Value) : Prop :=
  (k = B.buf.length ∧ led = lexL w B news ∧ ∃ t, v = .str (Str.ofString "") t) ∨
  ∃ (hk : k < B.buf.length) (t : Tok) (T' : Nat → Tok), v = .str ⟨#[B.buf.cps[k]'hk]⟩ t ∧ led = lexL w { B with pos := (k : Int) + 1, T := T' } news

/-- what a turn of a while leaves -/
noncomputable def WhileEnd (h₀ : Heap) (L : Addr) (s : Shared) (J : Nat → (Str → Option Value) → Led → Prop) (n : Nat) (Q : Flow → Shared → Prop) (f : Flow) (s₃ : Shared) : Prop :=
  match f with
  | .ret v => Q (.ret v) s₃
  | .brk => Q .next s₃
  | _ => ∃ h' tk m₂ news₂ n', s₃ = { s with heap := h', toks := tk } ∧ Fr h₀ L h' m₂ ∧ News h₀ L h' news₂ ∧ n' < n ∧ J n' m₂ news₂
theorem while_led {prog : Program} {w : World} {A : Around} {Q : Flow → Shared → Prop} {s : Shared} {env : Env} {h₀ : Heap} {L : Addr} {test : Expr} {body : List Stmt} {pos : Pos} {m : Str → Option Value} {news : Led} (J : Nat → (Str → Option Value) → Led → Prop) {n₀ : Nat}
    (F : Fr h₀ L s.heap m) (N : News h₀ L s.heap news) (hJ : J n₀ m news)
    (turn : ∀ n m₁ news₁ h₁ tk₁, s.toks ≤ tk₁ → Fr h₀ L h₁ m₁ → News h₀ L h₁ news₁ → J n m₁ news₁ →
      wpAny (model prog w) A (isTrue test env (eval test env)) (fun b s₂ =>
        if b = true then wpAny (model prog w) A (execs body env) (WhileEnd h₀ L s J n Q) (fun _ _ => False) s₂ else Q .next s₂) (fun _ _ => False) { s with heap := h₁, toks := tk₁ }) :
    wpAny (model prog w) A (exec (.While test body [] pos) env) Q (fun _ _ => False) s := by
  have nv : ∀ e s', False → notedBy (model prog w) A env (fun e s' => cameBackBy (model prog w) A env (fun _ _ => False) e s') e s' := fun _ _ h => h.elim
  refine wpAny_While (codeAny_whileLoop (fun n s' => ∃ h₁ tk₁ m₁ news₁, s' = { s with heap := h₁, toks := tk₁ } ∧ s.toks ≤ tk₁ ∧ Fr h₀ L h₁ m₁ ∧ News h₀ L h₁ news₁ ∧ J n m₁ news₁) ?_ n₀ ⟨s.heap, s.toks, m, news, rfl, Nat.le_refl _, F, N, hJ⟩)
  rintro n s' ⟨h₁, tk₁, m₁, news₁, rfl, htk, F₁, N₁, J₁⟩
  refine wpAny_mono (tok_more (turn n m₁ news₁ h₁ tk₁ htk F₁ N₁ J₁)) (fun b s₂ h₂ => ?_) nv
  obtain ⟨hle, h₂⟩ := h₂
  cases b with
  | false =>
    simp only [Bool.false_eq_true, if_false] at h₂ ⊢
    exact wpAny_execs_nil h₂
  | true =>
    simp only [if_true] at h₂ ⊢
    refine wpAny_mono (tok_more h₂) (fun f s₃ h₃ => ?_) nv
    obtain ⟨hle3, h₃⟩ := h₃
    have hle4 : s.toks ≤ s₃.toks := Nat.le_trans htk (Nat.le_trans hle hle3)
    have fin : (∃ h' tk m₂ news₂ n', s₃ = { s with heap := h', toks := tk } ∧ Fr h₀ L h' m₂ ∧ News h₀ L h' news₂ ∧ n' < n ∧ J n' m₂ news₂) → ∃ m, m < n ∧ ∃ h₁ tk₁ m₁ news₁, s₃ = { s with heap := h₁, toks := tk₁ } ∧ s.toks ≤ tk₁ ∧ Fr h₀ L h₁ m₁ ∧ News h₀ L h₁ news₁ ∧ J m m₁ news₁ := by
      rintro ⟨h', tk, m₂, news₂, n', rfl, F₂, N₂, hn, J₂⟩
      exact ⟨n', hn, h', tk, m₂, news₂, rfl, hle4, F₂, N₂, J₂⟩
    cases f with
    | ret v => exact h₃
    | brk => exact h₃
    | next => exact fin h₃
    | cont => exact fin h₃
end
theorem na1 {d : Nat} {l : Led} {p : Prop} (h : p ∧ NeAll d l) : ∀ p ∈ l, p.1 ≠ d := neAll_all h.2
theorem na2 {d : Nat} {l : Led} {p q : Prop} (h : p ∧ q ∧ NeAll d l) : ∀ p ∈ l, p.1 ≠ d := neAll_all h.2.2
theorem na3 {d : Nat} {l : Led} {p q r : Prop} (h : p ∧ q ∧ r ∧ NeAll d l) : ∀ p ∈ l, p.1 ≠ d := neAll_all h.2.2.2
theorem nb0 {d : Nat} {l : Led} (h : AllLt d l) : ∀ p ∈ l, p.1 ≠ d := all_ne h (Nat.le_refl _)
theorem nb1 {d : Nat} {l : Led} {p : Prop} (h : p ∧ AllLt d l) : ∀ p ∈ l, p.1 ≠ d := nb0 h.2
theorem nb2 {d : Nat} {l : Led} {p q : Prop} (h : p ∧ q ∧ AllLt d l) : ∀ p ∈ l, p.1 ≠ d := nb0 h.2.2
theorem nb3 {d : Nat} {l : Led} {p q r : Prop} (h : p ∧ q ∧ r ∧ AllLt d l) : ∀ p ∈ l, p.1 ≠ d := nb0 h.2.2.2
local macro_rules | `(tactic| k_all) => `(tactic| with_reducible first | exact neAll_all ‹_› | exact na1 ‹_› | exact na2 ‹_› | exact na3 ‹_› | exact nb0 ‹_› | exact nb1 ‹_› | exact nb2 ‹_› | exact nb3 ‹_›)
local macro_rules | `(tactic| walk_at "truthy ref") => `(tactic| (k_here; k_dflt (refine' deque_truthyN ?kN ?km ?_; (case kN => k_asm); (case km => k_mem)); (try dsimp only)))
section
theorem c_read (w : World) (p : Program) (loose : List Str) (mean : ExcName → Option Value) (mg mb : Str → Option Value) (B : LexB) (news : Led) (tk1 : Tok) (hB : LexOk B news) (hb : B.buf.length ≤ 1000) (k : Nat) (hpk : B.pos = (k : Int)) (hk1 : k ≤ B.buf.length) :
    CallN 450 4500 w p loose mean mg mb 609 (lexL w B news) [.ref B.io, .int 1 tk1] (ReadR w B news k) := by
  obtain ⟨al, a2, l1, l2, l3, n1, n2, n3, n4, n5, n6, n7, n8, n9, n10, n11⟩ := hB
  have hp0 : 0 ≤ B.pos := by omega
  have hp1 : B.pos ≤ (B.buf.length : Int) := by omega
  refine CallN.of ?_
  intro cn nms ig ic mo a ccd cl outer A₀ base h₀ L m s Q E hB hF hK hN hT ht hret
  refine tok_keep ?_
  dsimp only [lexL, lexD] at hN
  repeat' ((first | (k_unfold; (try dsimp only)) | (k_end; wrow_close) | walk1 | (dsimp only; walk1)))
  · have e : k = B.buf.length := by omega
    refine hret _ (lexL w B news) _ _ (by assumption) (by k_asm) (by k_asm) (.inl ⟨e, rfl, _, rfl⟩)
  · have e : k < B.buf.length := by omega
    rename News _ _ _ _ => NX
    refine hret _ (lexL w { B with pos := (k : Int) + 1, T := fun i => if i = 34 then _ else B.T i } news) _ _ (by assumption) (by k_asm) (by rw [hpk] at NX; exact NX) (.inr ⟨e, _, fun i => if i = 34 then _ else B.T i, by rw [hpk, slice_read _ e], rfl⟩)
  · have e : k < B.buf.length := by omega
    have e2 : ((B.buf.length : Nat) : Int) = (k : Int) + 1 := by omega
    rename News _ _ _ _ => NX
    rw [e2] at NX
    refine hret _ (lexL w { B with pos := (k : Int) + 1, T := fun i => if i = 34 then _ else B.T i } news) _ _ (by assumption) (by k_asm) NX (.inr ⟨e, _, fun i => if i = 34 then _ else B.T i, by rw [e2, hpk, slice_read _ e], rfl⟩)
end
theorem ite_T {b : Bool} {P R : Prop} (h : b = true) (q : P) : if b = true then P else R := by rw [if_pos h]; exact q
theorem ite_F {b : Bool} {P R : Prop} (h : b = false) (q : R) : if b = true then P else R := by rw [if_neg (by rw [h]; decide)]; exact q
local macro_rules | `(tactic| walk_at "ite") => `(tactic| first | (with_reducible refine ite_T (by assumption) ?_) | (with_reducible refine ite_F (by assumption) ?_))

section
noncomputable def tokAt (x : Str) (a n : Nat) : Str := ⟨((x.cps.toList.drop a).take n).toArray⟩
theorem tokAt_succ (x : Str) (a n : Nat) (h : a + n < x.length) : tokAt x a (n + 1) = tokAt x a n ++ ⟨#[x.cps[a + n]'h]⟩ := by
  have hl : x.cps.toList.length = x.length := by simp [Str.length]
  unfold tokAt
  rw [List.take_add_one, List.getElem?_drop, List.getElem?_eq_getElem (by rw [hl]; exact h)]
  apply Str.ext'
  show _ = (_ ++ _ : Array Nat)
  simp
  rfl
/-- a quoted word of the line -/
structure WordAt (x : Str) (k n : Nat) : Prop where
  len : k + 2 + n ≤ x.length
  q0 : x.cps[k]? = some 39
  q1 : x.cps[k + 1 + n]? = some 39
  ins : ∀ i, i < n → ∃ c, x.cps[k + 1 + i]? = some c ∧ c ≠ 39 ∧ c ≠ 92
  aft : k + 2 + n = x.length ∨ x.cps[k + 2 + n]? = some 32
inductive TokR (w : World) (B : LexB) (news : Led) (k n : Nat) (u1 : Heap) (led : Led) (v : Value) : Prop
  | mk (T : Nat → Tok) (t : Tok) (st : Value) (ln : Int) (k' : Nat) (e1 : v = .str (tokAt B.buf (k + 1) n) t) (e2 : led = lexL w { B with T := T, st := st, tok := Str.ofString "", ln := ln, pos := (k' : Int) } news) (e3 : ((k + 2 + n = B.buf.length ∧ k' = k + 2 + n ∧ st = .none) ∨ (k + 2 + n < B.buf.length ∧ k' = k + 3 + n ∧ ∃ ts, st = .str (Str.ofString " ") ts))) : TokR w B news k n u1 led v
inductive TokJ (w : World) (B : LexB) (news : Led) (k n : Nat) (j : Nat) (m : Str → Option Value) (led : Led) : Prop
  | mk (T : Nat → Tok) (st : Value) (tok : Str) (ln : Int) (pos : Nat) (q : Bool) (te : Tok) (e1 : led = lexL w { B with T := T, st := st, tok := tok, ln := ln, pos := (pos : Int) } news) (e2 : m (Str.ofString "self") = some (.ref B.lx)) (e3 : m (Str.ofString "quoted") = some (.bool q)) (e4 : m (Str.ofString "escapedstate") = some (.str (Str.ofString " ") te)) (e5 : ((j = n + 3 ∧ k = pos ∧ tok = Str.ofString "" ∧ (∃ ts, st = .str (Str.ofString " ") ts)) ∨ (∃ i, i ≤ n ∧ j = n - i + 2 ∧ pos = k + 1 + i ∧ tok = tokAt B.buf (k + 1) i ∧ ∃ ts, st = .str (Str.ofString "'") ts) ∨ (j = 1 ∧ pos = k + 2 + n ∧ q = true ∧ tok = tokAt B.buf (k + 1) n ∧ ∃ ts, st = .str (Str.ofString "a") ts))) : TokJ w B news k n j m led
theorem sgn_ne {c d : Nat} {y : Str} (hy : y = ⟨#[d]⟩) (h : c ≠ d) : ((⟨#[c]⟩ : Str) == y) = false := by
  subst hy
  rw [beq_eq_false_iff_ne]
  intro e
  exact h (by have := congrArg Str.cps e; simpa using this)
open Builtin Builtin.Str in
theorem occ_no {x y : Str} {c : Nat} (hy : y = ⟨#[c]⟩) (h : c ∉ x.cps.toList) : (!(occurrences x y 0 x.length 1).isEmpty) = false := by
  subst hy
  rw [StrLaws.found_one x c, decide_eq_false h]
open Builtin Builtin.Str in
theorem occ_yes {x y : Str} {c : Nat} (hy : y = ⟨#[c]⟩) (h : c ∈ x.cps.toList) : (!(occurrences x y 0 x.length 1).isEmpty) = true := by
  subst hy
  rw [StrLaws.found_one x c, decide_eq_true h]
theorem no92 {c : Nat} (h : c ≠ 92) : c ∉ (Str.ofString "\\").cps.toList := by
  have e : (Str.ofString "\\").cps.toList = [92] := by decide +kernel
  rw [e]
  simpa using h
theorem tokAt_len (x : Str) (a n : Nat) : (tokAt x a n).length ≤ n := by
  show ((x.cps.toList.drop a).take n).toArray.size ≤ n
  simp
  omega
theorem tokAt_zero (x : Str) (a : Nat) : tokAt x a 0 = Str.ofString "" := rfl
theorem map3 {m : Str → Option Value} {a b c : Value} (h1 : m (Str.ofString "self") = some a) (h2 : m (Str.ofString "quoted") = some b) (h3 : m (Str.ofString "escapedstate") = some c) :
    m = fun y => if y = Str.ofString "self" then some a else if y = Str.ofString "quoted" then some b else if y = Str.ofString "escapedstate" then some c else m y := by
  funext y
  by_cases e1 : y = Str.ofString "self"
  · subst e1; simpa using h1
  · by_cases e2 : y = Str.ofString "quoted"
    · subst e2; rw [if_neg e1, if_pos rfl]; exact h2
    · by_cases e3 : y = Str.ofString "escapedstate"
      · subst e3; rw [if_neg e1, if_neg e2, if_pos rfl]; exact h3
      · rw [if_neg e1, if_neg e2, if_neg e3]
theorem c_tok (w : World) (p : Program) (loose : List Str) (mean : ExcName → Option Value) (mg mb : Str → Option Value) (B : LexB) (news : Led) (hB : LexOk B news) (hb : B.buf.length ≤ 1000) (k n : Nat) (hpk : B.pos = (k : Int)) (hw : WordAt B.buf k n) (ts₀ : Tok) (hst : B.st = .str (Str.ofString " ") ts₀) (htok : B.tok = Str.ofString "") :
    CallN 430 4300 w p loose mean mg mb 766 (lexL w B news) [.ref B.lx] (TokR w B news k n) := by
  obtain ⟨al, a2, l1, l2, l3, n1, n2, n3, n4, n5, n6, n7, n8, n9, n10, n11⟩ := id hB
  obtain ⟨hlen, q0, q1, ins, aft⟩ := id hw
  refine CallN.of ?_
  intro cn nms ig ic mo a ccd cl outer A₀ base h₀ L m s Q E hB hF hK hN hT ht hret
  refine tok_keep ?_
  dsimp only [lexL, lexD] at hN
  repeat' ((fail_if_success (with_reducible show wpAny _ _ (exec (Stmt.While _ _ _ _) _) _ _ _)); (first | (k_unfold; (try dsimp only)) | (k_end; wrow_close) | ((with_reducible refine PySem.wpAny_execs_cons ?_); try dsimp only) | walk1 | (dsimp only; first | ((with_reducible refine PySem.wpAny_execs_cons ?_); try dsimp only) | walk1)))
  refine wpAny_mono (E := fun _ _ => False) ?_ (fun _ _ h => h) (fun _ _ h => h.elim)
  k_fold
  rename Fr _ _ _ (fun _ => _) => FX
  rename News _ _ _ _ => NX
  refine while_led (TokJ w B news k n) FX NX ⟨B.T, B.st, B.tok, B.ln, k, false, _, by rw [← hpk], rfl, rfl, rfl, .inl ⟨rfl, rfl, htok, ts₀, hst⟩⟩ ?_
  rintro j m1 led h1 tk1 htk1 F1 N1 ⟨T, st, tok, ln, pos, q, te, rfl, hm1, hm2, hm3, hj⟩
  rw [map3 hm1 hm2 hm3] at F1
  clear hm1 hm2 hm3 FX NX
  rcases hj with ⟨rfl, rfl, rfl, ts, rfl⟩ | ⟨i, hi, rfl, rfl, rfl, ts, rfl⟩ | ⟨rfl, rfl, rfl, rfl, ts, rfl⟩
  · dsimp only [lexL, lexD] at N1
    repeat' ((fail_if_success (with_reducible show wpAny _ _ (call (Value.ref 609) _) _ _ _)); (first | (k_unfold; (try dsimp only)) | (k_end; wrow_close) | ((with_reducible refine PySem.wpAny_execs_cons ?_); try dsimp only) | ((with_reducible show wpAny _ _ (exec (Stmt.If _ _ _ _) _) _ _ _); (k_here; k_fold)) | walk1 | (dsimp only; first | ((with_reducible refine PySem.wpAny_execs_cons ?_); try dsimp only) | ((with_reducible show wpAny _ _ (exec (Stmt.If _ _ _ _) _) _ _ _); (k_here; k_fold)) | walk1)))
    k_dflt (refine' c_read w p loose mean mg mb { B with T := T, st := .str (Str.ofString " ") ts, tok := Str.ofString "", ln := ln, pos := ((k : Nat) : Int) } news _ ⟨al, a2, l1, l2, l3, n1, n2, n3, n4, n5, n6, n7, n8, n9, n10, n11⟩ hb (k) rfl ?kL0 _ _ _ _ _ _ _ _ _ _ _ _ _ _ _ _ ?kB0 ?kF0 ?kK0 ?kN0 ?kT0 ?kk0 ?kd0 ?ku0 ?kt0 ?kR0)
    case kL0 => show _ ≤ B.buf.length; omega
    case kk0 => rfl
    case kB0 => k_asm
    case kF0 => k_asm
    case kK0 => k_asm
    case kN0 => k_asm
    case kT0 => k_asm
    case kd0 => exact Nat.le_of_ble_eq_true rfl
    case ku0 => exact Nat.le_of_ble_eq_true rfl
    case kt0 => first | assumption | omega | (dsimp only; omega)
    intro v9 led9 h9 tk9 hle9 F9 N9 R9
    rcases R9 with ⟨e, -⟩ | ⟨hk, t, T', rfl, rfl⟩
    · exfalso
      have e' : k = B.buf.length := e
      omega
    · dsimp only at hk ⊢
      dsimp only [lexL, lexD] at N9
      have ec : B.buf.cps[k]'hk = 39 := by
        rw [Array.getElem?_eq_getElem hk] at q0; exact Option.some.inj q0
      simp only [ec]
      have f5 : ((⟨#[39]⟩ : Str) == Str.ofString "\n") = false := rfl
      have f4 : ((((⟨#[39]⟩ : Str).length : Nat) : Int) != 0) = true := rfl
      have g6 : (!(Builtin.Str.occurrences wordsL ⟨#[39]⟩ 0 wordsL.length 1).isEmpty) = false := occ_no (x := wordsL) (y := ⟨#[39]⟩) (c := 39) rfl (by decide +kernel)
      have g1 := occ_no (x := Str.ofString " \t\r\n") (y := ⟨#[39]⟩) (c := 39) rfl (by decide +kernel)
      have g2 := occ_no (x := Str.ofString "") (y := ⟨#[39]⟩) (c := 39) rfl (by decide +kernel)
      have g3 := occ_no (x := Str.ofString "\\") (y := ⟨#[39]⟩) (c := 39) rfl (by decide +kernel)
      have g4 := occ_yes (x := Str.ofString "'\"") (y := ⟨#[39]⟩) (c := 39) rfl (by decide +kernel)
      repeat' ((fail_if_success (with_reducible show WhileEnd _ _ _ _ _ _ _ _)); (first | (k_unfold; (try dsimp only)) | (k_end; wrow_close) | (with_reducible refine PySem.wpAny_execs_nil ?_) | ((with_reducible refine PySem.wpAny_execs_cons ?_); try dsimp only) | ((with_reducible show wpAny _ _ (exec (Stmt.If _ _ _ _) _) _ _ _); (k_here; k_fold)) | walk1 | (dsimp only; first | (with_reducible refine PySem.wpAny_execs_nil ?_) | ((with_reducible refine PySem.wpAny_execs_cons ?_); try dsimp only) | ((with_reducible show wpAny _ _ (exec (Stmt.If _ _ _ _) _) _ _ _); (k_here; k_fold)) | walk1)))
      rename Fr _ _ _ (fun _ => _) => FD
      rename News _ _ _ _ => ND
      refine ⟨_, _, _, lexL w { B with T := fun j => if j = 27 then _ else if j = 25 then _ else if j = 28 then _ else T' j, st := .str (Str.ofString "'") _, tok := Str.ofString "", ln := _, pos := ((k + 1 : Nat) : Int) } news, n - 0 + 2, rfl, FD, ND, by omega, _, _, _, _, _, _, _, rfl, rfl, rfl, rfl, .inr (.inl ⟨0, Nat.zero_le _, rfl, rfl, rfl, _, rfl⟩)⟩
  · dsimp only [lexL, lexD] at N1
    repeat' ((fail_if_success (with_reducible show wpAny _ _ (call (Value.ref 609) _) _ _ _)); (first | (k_unfold; (try dsimp only)) | (k_end; wrow_close) | ((with_reducible refine PySem.wpAny_execs_cons ?_); try dsimp only) | ((with_reducible show wpAny _ _ (exec (Stmt.If _ _ _ _) _) _ _ _); (k_here; k_fold)) | walk1 | (dsimp only; first | ((with_reducible refine PySem.wpAny_execs_cons ?_); try dsimp only) | ((with_reducible show wpAny _ _ (exec (Stmt.If _ _ _ _) _) _ _ _); (k_here; k_fold)) | walk1)))
    k_dflt (refine' c_read w p loose mean mg mb { B with T := T, st := .str (Str.ofString "'") ts, tok := tokAt B.buf (k + 1) i, ln := ln, pos := ((k + 1 + i : Nat) : Int) } news _ ⟨al, a2, l1, l2, l3, n1, n2, n3, n4, n5, n6, n7, n8, n9, n10, n11⟩ hb (k + 1 + i) rfl ?kL1 _ _ _ _ _ _ _ _ _ _ _ _ _ _ _ _ ?kB1 ?kF1 ?kK1 ?kN1 ?kT1 ?kk1 ?kd1 ?ku1 ?kt1 ?kR1)
    case kL1 => show _ ≤ B.buf.length; omega
    case kk1 => rfl
    case kB1 => k_asm
    case kF1 => k_asm
    case kK1 => k_asm
    case kN1 => k_asm
    case kT1 => k_asm
    case kd1 => exact Nat.le_of_ble_eq_true rfl
    case ku1 => exact Nat.le_of_ble_eq_true rfl
    case kt1 => first | assumption | omega | (dsimp only; omega)
    intro v9 led9 h9 tk9 hle9 F9 N9 R9
    rcases R9 with ⟨e, -⟩ | ⟨hk, t, T', rfl, rfl⟩
    · exfalso
      have e' : k + 1 + i = B.buf.length := e
      omega
    dsimp only at hk ⊢
    dsimp only [lexL, lexD] at N9
    rcases Nat.lt_or_ge i n with hin | hin
    · obtain ⟨c, hc, c1, c2⟩ := ins i hin
      have ec : B.buf.cps[k + 1 + i]'hk = c := by
        rw [Array.getElem?_eq_getElem hk] at hc; exact Option.some.inj hc
      have hts := tokAt_succ B.buf (k + 1) i hk
      rw [ec] at hts
      simp only [ec]
      have f1 := sgn_ne (y := Str.ofString "'") rfl c1
      have fl : (tokAt B.buf (k + 1) i).length ≤ 1000 := Nat.le_trans (tokAt_len _ _ _) (by omega)
      have f2 := occ_yes (x := Str.ofString "'\"") (y := Str.ofString "'") (c := 39) rfl (by decide +kernel)
      have f3 := occ_no (x := Str.ofString "\\") (y := ⟨#[c]⟩) (c := c) rfl (no92 c2)
      have f4 : ((((⟨#[c]⟩ : Str).length : Nat) : Int) != 0) = true := rfl
      repeat' ((fail_if_success (with_reducible show WhileEnd _ _ _ _ _ _ _ _)); (first | (k_unfold; (try dsimp only)) | (k_end; wrow_close) | (with_reducible refine PySem.wpAny_execs_nil ?_) | ((with_reducible refine PySem.wpAny_execs_cons ?_); try dsimp only) | ((with_reducible show wpAny _ _ (exec (Stmt.If _ _ _ _) _) _ _ _); (k_here; k_fold)) | walk1 | (dsimp only; first | (with_reducible refine PySem.wpAny_execs_nil ?_) | ((with_reducible refine PySem.wpAny_execs_cons ?_); try dsimp only) | ((with_reducible show wpAny _ _ (exec (Stmt.If _ _ _ _) _) _ _ _); (k_here; k_fold)) | walk1)))
      · rename Fr _ _ _ (fun _ => _) => FD
        rename News _ _ _ _ => ND
        refine ⟨_, _, _, lexL w { B with T := fun j => if j = 27 then _ else if j = 25 then _ else if j = 28 then _ else T' j, st := .str (Str.ofString "'") ts, tok := tokAt B.buf (k + 1) i ++ ⟨#[c]⟩, ln := _, pos := ((k + 1 + i + 1 : Nat) : Int) } news, n - (i + 1) + 2, rfl, FD, ND, by omega, _, _, _, _, _, true, _, rfl, rfl, rfl, rfl, .inr (.inl ⟨i + 1, hin, rfl, rfl, hts.symm, ts, rfl⟩)⟩
      · rename Fr _ _ _ (fun _ => _) => FD
        rename News _ _ _ _ => ND
        refine ⟨_, _, _, lexL w { B with T := fun j => if j = 27 then _ else if j = 25 then _ else if j = 28 then _ else T' j, st := .str (Str.ofString "'") ts, tok := tokAt B.buf (k + 1) i ++ ⟨#[c]⟩, ln := _, pos := ((k + 1 + i + 1 : Nat) : Int) } news, n - (i + 1) + 2, rfl, FD, ND, by omega, _, _, _, _, _, true, _, rfl, rfl, rfl, rfl, .inr (.inl ⟨i + 1, hin, rfl, rfl, hts.symm, ts, rfl⟩)⟩
    · obtain rfl : i = n := by omega
      have ec : B.buf.cps[k + 1 + i]'hk = 39 := by
        rw [Array.getElem?_eq_getElem hk] at q1; exact Option.some.inj q1
      simp only [ec]
      have f1 : ((⟨#[39]⟩ : Str) == Str.ofString "'") = true := rfl
      have f5 : ((⟨#[39]⟩ : Str) == Str.ofString "\n") = false := rfl
      have f2 := occ_yes (x := Str.ofString "'\"") (y := Str.ofString "'") (c := 39) rfl (by decide +kernel)
      have f4 : ((((⟨#[39]⟩ : Str).length : Nat) : Int) != 0) = true := rfl
      repeat' ((fail_if_success (with_reducible show WhileEnd _ _ _ _ _ _ _ _)); (first | (k_unfold; (try dsimp only)) | (k_end; wrow_close) | (with_reducible refine PySem.wpAny_execs_nil ?_) | ((with_reducible refine PySem.wpAny_execs_cons ?_); try dsimp only) | ((with_reducible show wpAny _ _ (exec (Stmt.If _ _ _ _) _) _ _ _); (k_here; k_fold)) | walk1 | (dsimp only; first | (with_reducible refine PySem.wpAny_execs_nil ?_) | ((with_reducible refine PySem.wpAny_execs_cons ?_); try dsimp only) | ((with_reducible show wpAny _ _ (exec (Stmt.If _ _ _ _) _) _ _ _); (k_here; k_fold)) | walk1)))
      rename Fr _ _ _ (fun _ => _) => FD
      rename News _ _ _ _ => ND
      refine ⟨_, _, _, lexL w { B with T := fun j => if j = 27 then _ else if j = 25 then _ else if j = 28 then _ else T' j, st := .str (Str.ofString "a") _, tok := tokAt B.buf (k + 1) i, ln := _, pos := ((k + 1 + i + 1 : Nat) : Int) } news, 1, rfl, FD, ND, by omega, _, _, _, _, _, true, _, rfl, rfl, rfl, rfl, .inr (.inr ⟨rfl, by omega, rfl, rfl, _, rfl⟩)⟩
  · dsimp only [lexL, lexD] at N1
    repeat' ((fail_if_success (with_reducible show wpAny _ _ (call (Value.ref 609) _) _ _ _)); (first | (k_unfold; (try dsimp only)) | (k_end; wrow_close) | ((with_reducible refine PySem.wpAny_execs_cons ?_); try dsimp only) | ((with_reducible show wpAny _ _ (exec (Stmt.If _ _ _ _) _) _ _ _); (k_here; k_fold)) | walk1 | (dsimp only; first | ((with_reducible refine PySem.wpAny_execs_cons ?_); try dsimp only) | ((with_reducible show wpAny _ _ (exec (Stmt.If _ _ _ _) _) _ _ _); (k_here; k_fold)) | walk1)))
    k_dflt (refine' c_read w p loose mean mg mb { B with T := T, st := .str (Str.ofString "a") ts, tok := tokAt B.buf (k + 1) n, ln := ln, pos := ((k + 2 + n : Nat) : Int) } news _ ⟨al, a2, l1, l2, l3, n1, n2, n3, n4, n5, n6, n7, n8, n9, n10, n11⟩ hb (k + 2 + n) rfl ?kL2 _ _ _ _ _ _ _ _ _ _ _ _ _ _ _ _ ?kB2 ?kF2 ?kK2 ?kN2 ?kT2 ?kk2 ?kd2 ?ku2 ?kt2 ?kR2)
    case kL2 => show _ ≤ B.buf.length; omega
    case kk2 => rfl
    case kB2 => k_asm
    case kF2 => k_asm
    case kK2 => k_asm
    case kN2 => k_asm
    case kT2 => k_asm
    case kd2 => exact Nat.le_of_ble_eq_true rfl
    case ku2 => exact Nat.le_of_ble_eq_true rfl
    case kt2 => first | assumption | omega | (dsimp only; omega)
    intro v9 led9 h9 tk9 hle9 F9 N9 R9
    have f6 : (tokAt B.buf (k + 1) n).length ≤ 1000 := Nat.le_trans (tokAt_len _ _ _) (by omega)
    rcases R9 with ⟨e, rfl, t, rfl⟩ | ⟨hk, t, T', rfl, rfl⟩
    · have e' : k + 2 + n = B.buf.length := e
      dsimp only [lexL, lexD] at N9
      have g1 := occ_no (x := Str.ofString "'\"") (y := Str.ofString "a") (c := 97) rfl (by decide +kernel)
      have g2 := occ_no (x := Str.ofString "\\") (y := Str.ofString "a") (c := 97) rfl (by decide +kernel)
      repeat' ((fail_if_success (with_reducible show WhileEnd _ _ _ _ _ _ _ _)); (first | (k_unfold; (try dsimp only)) | (k_end; wrow_close) | (with_reducible refine PySem.wpAny_execs_nil ?_) | ((with_reducible refine PySem.wpAny_execs_cons ?_); try dsimp only) | ((with_reducible show wpAny _ _ (exec (Stmt.If _ _ _ _) _) _ _ _); (k_here; k_fold)) | walk1 | (dsimp only; first | (with_reducible refine PySem.wpAny_execs_nil ?_) | ((with_reducible refine PySem.wpAny_execs_cons ?_); try dsimp only) | ((with_reducible show wpAny _ _ (exec (Stmt.If _ _ _ _) _) _ _ _); (k_here; k_fold)) | walk1)))
      all_goals (repeat (first | k_unfold | dsimp only))
      all_goals dsimp only [WhileEnd]
      repeat' ((first | (k_unfold; (try dsimp only)) | (k_end; wrow_close) | (with_reducible refine PySem.wpAny_execs_nil ?_) | ((with_reducible refine PySem.wpAny_execs_cons ?_); try dsimp only) | ((with_reducible show wpAny _ _ (exec (Stmt.If _ _ _ _) _) _ _ _); (k_here; k_fold)) | walk1 | (dsimp only; first | (with_reducible refine PySem.wpAny_execs_nil ?_) | ((with_reducible refine PySem.wpAny_execs_cons ?_); try dsimp only) | ((with_reducible show wpAny _ _ (exec (Stmt.If _ _ _ _) _) _ _ _); (k_here; k_fold)) | walk1)))
      all_goals
        rename Fr _ _ _ (fun _ => _) => FD
        rename News _ _ _ _ => ND
        refine hret _ (lexL w { B with T := fun j => if j = 27 then _ else if j = 25 then _ else if j = 28 then _ else T j, st := .none, tok := Str.ofString "", ln := _, pos := ((k + 2 + n : Nat) : Int) } news) _ _ (by assumption) (by k_asm) (fun p hp => ND p (List.mem_cons_of_mem _ hp)) ⟨_, _, _, _, _, rfl, rfl, .inl ⟨e', rfl, rfl⟩⟩
    · have e' : k + 2 + n < B.buf.length := hk
      dsimp only at hk ⊢
      dsimp only [lexL, lexD] at N9
      have ec : B.buf.cps[k + 2 + n]'hk = 32 := by
        rcases aft with a | a
        · omega
        · rw [Array.getElem?_eq_getElem hk] at a; exact Option.some.inj a
      simp only [ec]
      have f5 : ((⟨#[32]⟩ : Str) == Str.ofString "\n") = false := rfl
      have f4 : ((((⟨#[32]⟩ : Str).length : Nat) : Int) != 0) = true := rfl
      have g1 := occ_no (x := Str.ofString "'\"") (y := Str.ofString "a") (c := 97) rfl (by decide +kernel)
      have g2 := occ_no (x := Str.ofString "\\") (y := Str.ofString "a") (c := 97) rfl (by decide +kernel)
      have g3 := occ_yes (x := Str.ofString " \t\r\n") (y := ⟨#[32]⟩) (c := 32) rfl (by decide +kernel)
      repeat' ((fail_if_success (with_reducible show WhileEnd _ _ _ _ _ _ _ _)); (first | (k_unfold; (try dsimp only)) | (k_end; wrow_close) | (with_reducible refine PySem.wpAny_execs_nil ?_) | ((with_reducible refine PySem.wpAny_execs_cons ?_); try dsimp only) | ((with_reducible show wpAny _ _ (exec (Stmt.If _ _ _ _) _) _ _ _); (k_here; k_fold)) | walk1 | (dsimp only; first | (with_reducible refine PySem.wpAny_execs_nil ?_) | ((with_reducible refine PySem.wpAny_execs_cons ?_); try dsimp only) | ((with_reducible show wpAny _ _ (exec (Stmt.If _ _ _ _) _) _ _ _); (k_here; k_fold)) | walk1)))
      all_goals (repeat (first | k_unfold | dsimp only))
      all_goals dsimp only [WhileEnd]
      repeat' ((first | (k_unfold; (try dsimp only)) | (k_end; wrow_close) | (with_reducible refine PySem.wpAny_execs_nil ?_) | ((with_reducible refine PySem.wpAny_execs_cons ?_); try dsimp only) | ((with_reducible show wpAny _ _ (exec (Stmt.If _ _ _ _) _) _ _ _); (k_here; k_fold)) | walk1 | (dsimp only; first | (with_reducible refine PySem.wpAny_execs_nil ?_) | ((with_reducible refine PySem.wpAny_execs_cons ?_); try dsimp only) | ((with_reducible show wpAny _ _ (exec (Stmt.If _ _ _ _) _) _ _ _); (k_here; k_fold)) | walk1)))
      all_goals
        rename Fr _ _ _ (fun _ => _) => FD
        rename News _ _ _ _ => ND
        refine hret _ (lexL w { B with T := fun j => if j = 27 then _ else if j = 25 then _ else if j = 28 then _ else T' j, st := .str (Str.ofString " ") _, tok := Str.ofString "", ln := _, pos := ((k + 2 + n + 1 : Nat) : Int) } news) _ _ (by assumption) (by k_asm) (fun p hp => ND p (List.mem_cons_of_mem _ hp)) ⟨_, _, _, _, _, rfl, rfl, .inr ⟨e', by omega, _, rfl⟩⟩
end
section
inductive EofJ (w : World) (B : LexB) (news : Led) (j : Nat) (m : Str → Option Value) (led : Led) : Prop
  | mk (te : Tok) (e1 : led = lexL w B news) (e2 : j = 1) (e3 : m (Str.ofString "self") = some (.ref B.lx)) (e4 : m (Str.ofString "quoted") = some (.bool false)) (e5 : m (Str.ofString "escapedstate") = some (.str (Str.ofString " ") te)) : EofJ w B news j m led
noncomputable def EofR (w : World) (B : LexB) (news : Led) (_ : Heap) (led : Led) (v : Value) : Prop := v = .none ∧ ∃ T, led = lexL w { B with T := T } news
theorem c_eof (w : World) (p : Program) (loose : List Str) (mean : ExcName → Option Value) (mg mb : Str → Option Value) (B : LexB) (news : Led) (hB : LexOk B news) (hb : B.buf.length ≤ 1000) (hpk : B.pos = ((B.buf.length : Nat) : Int)) (hst : B.st = .none) (htok : B.tok = Str.ofString "") :
    CallN 430 4300 w p loose mean mg mb 766 (lexL w B news) [.ref B.lx] (EofR w B news) := by
  obtain ⟨al, a2, l1, l2, l3, n1, n2, n3, n4, n5, n6, n7, n8, n9, n10, n11⟩ := id hB
  obtain ⟨lx, ld, io, dx, pb, fs, T, st, tok, ln, buf, pos⟩ := B
  dsimp only at *
  subst hst htok hpk
  refine CallN.of ?_
  intro cn nms ig ic mo a ccd cl outer A₀ base h₀ L m s Q E hB hF hK hN hT ht hret
  refine tok_keep ?_
  dsimp only [lexL, lexD] at hN
  repeat' ((fail_if_success (with_reducible show wpAny _ _ (exec (Stmt.While _ _ _ _) _) _ _ _)); (first | (k_unfold; (try dsimp only)) | (k_end; wrow_close) | walk1 | (dsimp only; walk1)))
  refine wpAny_mono (E := fun _ _ => False) ?_ (fun _ _ h => h) (fun _ _ h => h.elim)
  rename Fr _ _ _ (fun _ => _) => FX
  rename News _ _ _ _ => NX
  k_fold
  refine while_led (EofJ w ⟨lx, ld, io, dx, pb, fs, T, .none, Str.ofString "", ln, buf, ((buf.length : Nat) : Int)⟩ news) FX NX ⟨_, rfl, rfl, rfl, rfl, rfl⟩ ?_
  rintro j m1 led h1 tk1 htk1 F1 N1 ⟨te, rfl, rfl, hm1, hm2, hm3⟩
  rw [map3 hm1 hm2 hm3] at F1
  clear hm1 hm2 hm3 FX NX
  dsimp only [lexL, lexD] at N1
  repeat' ((fail_if_success (with_reducible show wpAny _ _ (call (Value.ref 609) _) _ _ _)); (first | (k_unfold; (try dsimp only)) | (k_end; wrow_close) | ((with_reducible show wpAny _ _ (exec (Stmt.If _ _ _ _) _) _ _ _); (k_here; k_fold)) | walk1 | (dsimp only; first | ((with_reducible show wpAny _ _ (exec (Stmt.If _ _ _ _) _) _ _ _); (k_here; k_fold)) | walk1)))
  k_dflt (refine' c_read w p loose mean mg mb ⟨lx, ld, io, dx, pb, fs, T, .none, Str.ofString "", ln, buf, ((buf.length : Nat) : Int)⟩ news _ ⟨al, a2, l1, l2, l3, n1, n2, n3, n4, n5, n6, n7, n8, n9, n10, n11⟩ hb (buf.length) rfl ?kL _ _ _ _ _ _ _ _ _ _ _ _ _ _ _ _ ?kB ?kF ?kK ?kN ?kT ?kk ?kd ?ku ?kt ?kR)
  case kL => exact Nat.le_refl _
  case kk => rfl
  case kB => k_asm
  case kF => k_asm
  case kK => k_asm
  case kN => k_asm
  case kT => k_asm
  case kd => exact Nat.le_of_ble_eq_true rfl
  case ku => exact Nat.le_of_ble_eq_true rfl
  case kt => first | assumption | omega | (dsimp only; omega)
  intro v9 led9 h9 tk9 hle9 F9 N9 R9
  rcases R9 with ⟨-, rfl, t, rfl⟩ | ⟨hk, -⟩
  · dsimp only [lexL, lexD] at N9
    repeat' ((fail_if_success (with_reducible show WhileEnd _ _ _ _ _ _ _ _)); (first | (k_unfold; (try dsimp only)) | (k_end; wrow_close) | ((with_reducible show wpAny _ _ (exec (Stmt.If _ _ _ _) _) _ _ _); (k_here; k_fold)) | walk1 | (dsimp only; first | ((with_reducible show wpAny _ _ (exec (Stmt.If _ _ _ _) _) _ _ _); (k_here; k_fold)) | walk1)))
    (repeat (first | k_unfold | dsimp only)); dsimp only [WhileEnd]
    repeat' ((first | (k_unfold; (try dsimp only)) | (k_end; wrow_close) | ((with_reducible show wpAny _ _ (exec (Stmt.If _ _ _ _) _) _ _ _); (k_here; k_fold)) | walk1 | (dsimp only; first | ((with_reducible show wpAny _ _ (exec (Stmt.If _ _ _ _) _) _ _ _); (k_here; k_fold)) | walk1)))
    rename Fr _ _ _ (fun _ => _) => FD
    rename News _ _ _ _ => ND
    refine hret _ (lexL w ⟨lx, ld, io, dx, pb, fs, fun j => if j = 27 then _ else T j, .none, Str.ofString "", ln, buf, ((buf.length : Nat) : Int)⟩ news) _ _ (by assumption) (by k_asm) ND ⟨rfl, _, rfl⟩
  · exact absurd hk (Nat.lt_irrefl _)
end
section
noncomputable def OnceEnd (Q : Flow → Shared → Prop) (f : Flow) (s₃ : Shared) : Prop :=
  match f with
  | .ret v => Q (.ret v) s₃
  | .brk => Q .next s₃
  | _ => False
theorem while_once {prog : Program} {w : World} {A : Around} {Q : Flow → Shared → Prop} {s : Shared} {env : Env} {h₀ : Heap} {L : Addr} {test : Expr} {body : List Stmt} {pos : Pos} {m : Str → Option Value} {news : Led}
    (F : Fr h₀ L s.heap m) (N : News h₀ L s.heap news)
    (turn : ∀ h₁ tk₁, s.toks ≤ tk₁ → Fr h₀ L h₁ m → News h₀ L h₁ news →
      wpAny (model prog w) A (isTrue test env (eval test env)) (fun b s₂ =>
        if b = true then wpAny (model prog w) A (execs body env) (OnceEnd Q) (fun _ _ => False) s₂ else Q .next s₂) (fun _ _ => False) { s with heap := h₁, toks := tk₁ }) :
    wpAny (model prog w) A (exec (.While test body [] pos) env) Q (fun _ _ => False) s := by
  refine while_led (fun j m' led' => j = 0 ∧ m' = m ∧ led' = news) F N ⟨rfl, rfl, rfl⟩ ?_
  rintro j m' led' h₁ tk₁ hle F₁ N₁ ⟨rfl, rfl, rfl⟩
  refine wpAny_mono (turn h₁ tk₁ hle F₁ N₁) (fun b s₂ h₂ => ?_) fun _ _ z => z
  cases b with
  | false => simpa using h₂
  | true =>
    simp only [if_true] at h₂ ⊢
    refine wpAny_mono h₂ (fun f s₃ h₃ => ?_) fun _ _ z => z
    cases f with
    | ret v => exact h₃
    | brk => exact h₃
    | next => exact h₃.elim
    | cont => exact h₃.elim

theorem c_next (w : World) (p : Program) (loose : List Str) (mean : ExcName → Option Value) (mg mb : Str → Option Value) (B : LexB) (news : Led) (hB : LexOk B news) (hb : B.buf.length ≤ 1000) (k n : Nat) (hpk : B.pos = (k : Int)) (hw : WordAt B.buf k n) (ts₀ : Tok) (hst : B.st = .str (Str.ofString " ") ts₀) (htok : B.tok = Str.ofString "") :
    CallN 400 4000 w p loose mean mg mb 795 (lexL w B news) [.ref B.lx] (TokR w B news k n) := by
  obtain ⟨al, a2, l1, l2, l3, n1, n2, n3, n4, n5, n6, n7, n8, n9, n10, n11⟩ := id hB
  refine CallN.of ?_
  intro cn nms ig ic mo a ccd cl outer A₀ base h₀ L m s Q E hBl hF hK hN hT ht hret
  refine tok_keep ?_
  dsimp only [lexL, lexD] at hN
  repeat' ((fail_if_success (with_reducible show wpAny _ _ (call (Value.ref 766) _) _ _ _)); (fail_if_success (with_reducible show wpAny _ _ (exec (Stmt.While _ _ _ _) _) _ _ _)); (first | (k_unfold; (try dsimp only)) | (k_end; wrow_close) | walk1 | (dsimp only; walk1)))
  k_dflt (refine' c_tok w p loose mean mg mb B news hB hb k n hpk hw ts₀ hst htok _ _ _ _ _ _ _ _ _ _ _ _ _ _ _ _ ?kB ?kF ?kK ?kN ?kT ?kk ?kd ?ku ?kt ?kR)
  case kk => rfl
  case kB => k_asm
  case kF => k_asm
  case kK => k_asm
  case kN => k_asm
  case kT => k_asm
  case kd => exact Nat.le_of_ble_eq_true rfl
  case ku => exact Nat.le_of_ble_eq_true rfl
  case kt => first | assumption | omega | (dsimp only; omega)
  rintro v9 led9 h9 tk9 hle9 F9 N9 ⟨T, t, st, ln, k', rfl, rfl, hcase⟩
  dsimp only [lexL, lexD] at N9
  (try dsimp only)
  (try k_fold)
  repeat' ((fail_if_success (with_reducible show wpAny _ _ (exec (Stmt.While _ _ _ _) _) _ _ _)); (first | (k_unfold; (try dsimp only)) | (k_end; wrow_close) | walk1 | (dsimp only; walk1)))
  refine wpAny_mono (E := fun _ _ => False) ?_ (fun _ _ h => h) (fun _ _ h => h.elim)
  rename Fr _ _ _ (fun _ => _) => FX
  rename News _ _ _ _ => NX
  refine while_once FX NX ?_
  intro h1 tk1 hle1 F1 N1
  clear FX NX
  repeat' ((first | (k_unfold; (try dsimp only)) | (k_end; wrow_close) | walk1 | (dsimp only; walk1)))
  rename News _ _ _ _ => ND
  refine hret _ (lexL w { B with T := T, st := st, tok := Str.ofString "", ln := ln, pos := (k' : Int) } news) _ _ (by assumption) (by k_asm) ND ⟨_, _, _, _, _, rfl, rfl, hcase⟩
end
section
theorem mem_ne2 {h₀ h h' : Heap} {L : Addr} {a : Addr × Obj} {nw news : Led} (N : News h₀ L h news) (D : X.Mem h h' [] nw) (ha : a ∈ nw) : NeAll a.1 news :=
  neAll_of fun p hp e => by
    have z := (D.nw _ ha).2
    have y := (N p hp).1
    rw [e] at y
    rw [y] at z
    cases z
open PySem.W.X in
theorem sio_new (w : World) {fr : Option (List Env)} {Q E : Value → Shared → Prop} {h₀ : Heap} {L : Addr} {m : Str → Option Value} {news : Mine.Led} {s : Shared} (hX : (hd.heap_1 w.params).In s.heap) (hF : Fr h₀ L s.heap m) (hN : News h₀ L s.heap news)
    (hret : ∀ h' x dx, Fr h₀ L h' m → News h₀ L h' ((x, instObj 663 dx) :: (dx, emptyDict) :: news) → NeAll dx news → NeAll x news → @LT.lt Nat _ dx x → Q (.ref x) { s with heap := h' }) :
    wpAny (model PySem.Challenge.pw_ik0168_01 w) ⟨none, 480, fr, some [], 4800⟩ (call (.builtin "object.__new__") [.ref 663]) Q E s := by
  obtain ⟨h, g, d, tk, os⟩ := s
  have HK : ∀ a o, (hd.heap_1 w.params).lookup a = some o → h.get? a = some o := fun a o e => hX a o e
  refine y_start _ _ _ _ _ _ _ (.call (.builtin "object.__new__") ⟨[.ref 663], []⟩) none false [] _ (fun e => nomatch e) ?_
  refine y_code _ _ _ _ _ _ ?_
  rw [den_tw]
  refine y_lrun HK 80 _ ?_
  refine y_eq _ _ _ _ _ _ _ _ _ (.pure (.again (.builtin "object.__new__" ⟨[.ref 663], []⟩))) (by kernel_rfl) ?_
  refine y_pure _ _ _ _ _ _ _ _ _ ?_
  refine y_again _ _ _ _ _ _ (by kernel_rfl) ?_
  refine y_code _ _ _ _ _ _ ?_
  rw [den_tw]
  refine y_lrun HK 80 _ ?_
  refine y_allT (o := { cls := .type "dict", data := .dict #[] }) (by kernel_rfl) (Mem.start h) rfl ?_
  intro a h1 D1
  refine y_lrun (fun b o e => D1.old b o (HK b o e) (by simp [away])) 80 _ ?_
  refine y_allT (o := { cls := .ref 663, dict := some a, data := .plain }) (by kernel_rfl) D1 rfl ?_
  intro x h2 D2
  refine y_lrun (fun b o e => D2.old b o (HK b o e) (by simp [away])) 80 _ ?_
  refine y_eq _ _ _ _ _ _ _ _ _ (.pure (.done (.ret (.ref x)))) (by kernel_rfl) ?_
  refine y_pure _ _ _ _ _ _ _ _ _ ?_
  refine y_done _ _ _ _ _ _ ?_
  refine y_endOk _ _ _ _ _ _ _ _ _ (.ref x) rfl ?_
  exact hret h2 x a (x_fin hF hN D2).1 (x_fin hF hN D2).2 (mem_ne2 hN D2 (.tail _ (.head _))) (mem_ne2 hN D2 (.head _)) (List.rel_of_pairwise_cons D2.ord (.head _))
end
section
theorem c_new (w : World) (p : Program) (loose : List Str) (mean : ExcName → Option Value) (mg mb : Str → Option Value) (x : Str) (tx : Tok) (news : Led) :
    CallT 470 4700 w p loose mean mg mb 156 news [.ref 663, .str x tx] (fun _ tl v => ∃ x dx, v = .ref x ∧ tl = [(x, instObj 663 dx), (dx, emptyDict)] ∧ NeAll dx news ∧ NeAll x news ∧ @LT.lt Nat _ dx x) := by
  refine CallT.of ?_
  intro cn nms ig ic mo a ccd cl outer A₀ base h₀ L m s Q E hB hF hK hN hT ht hret
  refine tok_keep ?_
  repeat' ((fail_if_success (with_reducible show wpAny _ _ (call (Value.builtin "object.__new__") _) _ _ _)); (first | (k_unfold; (try dsimp only)) | (k_end; wrow_close) | walk1 | (dsimp only; walk1)))
  rename Fr _ _ _ (fun _ => _) => FX
  rename News _ _ _ _ => NX
  k_dflt (refine around_mono ?kd ?ku (sio_new w ?kX FX NX ?kR))
  case kd => exact Nat.le_of_ble_eq_true rfl
  case ku => exact Nat.le_of_ble_eq_true rfl
  case kX => k_in
  intro h9 x9 dx9 F9 N9 e1 e2 l9
  simp only [NeAll, and_true] at e1 e2
  (try dsimp only)
  (try k_fold)
  clear FX NX
  repeat' ((first | (k_unfold; (try dsimp only)) | (k_end; wrow_close) | walk1 | (dsimp only; walk1)))
  rename News _ _ _ _ => ND
  refine hret (.ref _) [_, _] _ _ (by assumption) (by k_asm) (fun p hp => ND p ?_) ⟨_, _, rfl, rfl, e1.2.2, e2.2.2, l9⟩
  rcases List.mem_cons.mp hp with rfl | hp
  · exact .head _
  · rcases List.mem_cons.mp hp with rfl | hp
    · exact .tail _ (.head _)
    · exact .tail _ (.tail _ (.tail _ (.tail _ hp)))
end
section
theorem c_ini (w : World) (p : Program) (loose : List Str) (mean : ExcName → Option Value) (mg mb : Str → Option Value) (x : Str) (tx : Tok) (io dx : Addr) (hx : x.length ≤ 1000) (news : Led) (al : NeAll dx news) (l1 : @LT.lt Nat _ dx io) :
    CallN 470 4700 w p loose mean mg mb 433 ((io, instObj 663 dx) :: (dx, dictOf [] 0) :: news) [.ref io, .str x tx] (fun _ led v => v = .none ∧ ∃ t1 t2 t3 t4 t5, led = (io, instObj 663 dx) :: (dx, sioD w t1 t2 t3 (.str (Str.ofString "\n") t4) (.str x tx) (.int 0 t5)) :: news) := by
  refine CallN.of ?_
  intro cn nms ig ic mo a ccd cl outer A₀ base h₀ L m s Q E hB hF hK hN hT ht hret
  refine tok_keep ?_
  repeat' ((first | (k_unfold; (try dsimp only)) | (k_end; wrow_close) | walk1 | (dsimp only; walk1)))
  exact hret _ _ _ _ (by assumption) (by k_asm) (by k_asm) ⟨rfl, _, _, _, _, _, rfl⟩
end
section
theorem made663 {w : World} {M : Model} {h : Heap} (X : (hd.heap_1 w.params).In h) : Looks M h (Bind.madeBy (.ref 663)) none := by
  obtain ⟨o, ho, hm, hs⟩ : ∃ o, (hd.heap_1 w.params).lookup 663 = some o ∧ (∃ cd, o.data = .cls cd ∧ cd.mro = [.ref 663, .ref 186, .ref 159, .type "object"]) ∧ (o.slots[4]?).join = some .none := ⟨_, rfl, ⟨_, rfl, rfl⟩, rfl⟩
  obtain ⟨cd, hd1, hd2⟩ := hm
  have hg := X _ _ ho
  obtain ⟨oc, od, oda, osl⟩ := o
  dsimp only at hd1 hs
  subst hd1
  have hc : Looks M h (mroOf (.ref 663)) cd.mro := ((Looks.ld (part := none) hg).andThen .now).andThen .now
  intro A Q E s k q
  unfold Bind.madeBy
  refine wpAny_bind (hc A _ E s k ?_)
  rw [hd2, List.forIn_cons]
  refine wpAny_bind (wpAny_bind (wpAny_bind (wpAny_bind (wpAny_loadPart (k _ _ hg) (wpAny_pure ?_)))))
  dsimp only
  rw [hs]
  exact wpAny_pure (wpAny_pure (wpAny_pure q))
theorem c_sio (w : World) (p : Program) (loose : List Str) (mean : ExcName → Option Value) (mg mb : Str → Option Value) (x : Str) (tx : Tok) (hx : x.length ≤ 1000) (news : Led) :
    CallT 450 4500 w p loose mean mg mb 663 news [.str x tx] (SioR w x tx news) := by
  refine CallT.of ?_
  intro cn nms ig ic mo a ccd cl outer A₀ base h₀ L m s Q E hB hF hK hN hT ht hret
  have X := hK.keeps hF.keep
  obtain ⟨o, ho, cd, hd1, hd2⟩ : ∃ o, (hd.heap_1 w.params).lookup 663 = some o ∧ ∃ cd, o.data = .cls cd ∧ cd.mro.isEmpty = false := ⟨_, rfl, _, rfl, rfl⟩
  have hC := X _ _ ho
  obtain ⟨oc, od, oda, osl⟩ := o
  dsimp only at hd1
  subst hd1
  obtain ⟨h, g, d, t, os⟩ := s
  dsimp only at *
  have call : Looks (model PySem.Challenge.pw_ik0168_01 w) h (specialOf (.ref 663) "__call__") (some (.builtin "type.__call__")) := looks_specialIn X (by k_dflt k_is)
  have typ : Looks (model PySem.Challenge.pw_ik0168_01 w) h (isInstance (.ref 663) (.type "type")) true := looks_instIn X (by k_dflt k_is)
  have made : Looks (model PySem.Challenge.pw_ik0168_01 w) h (Bind.madeBy (.ref 663)) none := made663 X
  refine wpAny_call (codeAny_of_tree ?_)
  show wpAny _ _ (callAny (.ref 663) _) _ _ _
  refine nd_load hC ?_
  show wpAny _ _ (callAny.viaDunder (.ref 663) _) _ _ _
  unfold callAny.viaDunder
  refine wpAny_bind (call.at ?_)
  dsimp only
  rw [tc_bind]
  refine wpAny_bind (wpAny_pure (wpAny_bind (wpAny_pure ?_)))
  refine wpAny_pure (a := Fin.again (.call (.builtin "type.__call__") ⟨[.ref 663, .str x tx], []⟩)) (And.intro rfl ?_)
  refine codeAny_call_builtin_at (Code.quiet_builtin _ (by decide +kernel)) entry_typeCall (check_slot tc_kind tc_split typ (tc_args _ _ _) ?_)
  unfold Builtin.«type.__call__»
  have hm : Looks (model PySem.Challenge.pw_ik0168_01 w) h (mroOf (.ref 663)) cd.mro := ((Looks.ld (part := none) hC).andThen .now).andThen .now
  repeat ((fail_if_success (with_reducible show wpAny _ _ (getAttr _ _ _) _ _ _)); (fail_if_success (with_reducible show wpAny _ _ (getAttr _ _ _ >>= _) _ _ _)); (first | simp only [hd2, Bool.false_eq_true, if_false] | with_reducible refine wpAny_call ?_ | lk))
  first | refine wpAny_bind ?_ | skip
  refine cls_sm hF hK (by k_is) (by k_is) (by k_is) (by k_is) (by k_handed) ?_
  refine wpAny_bind (wpAny_holding ?_)
  k_dflt (refine' c_new w p loose mean mg mb x tx news _ _ _ _ _ _ _ _ _ _ _ _ _ _ _ _ ?kB ?kF ?kK ?kN ?kT ?kk ?kd ?ku ?kt ?kR)
  case kk => rfl
  case kB => exact hB
  case kF => exact hF
  case kK => exact hK
  case kN => exact hN
  case kT => exact hT
  case kd => exact Nat.le_of_ble_eq_true rfl
  case ku => exact Nat.le_of_ble_eq_true rfl
  case kt => show 0 < t + 1; omega
  rintro v9 tl9 h9 tk9 hle9 F9 N9 ⟨io, dx, rfl, rfl, e1, e2, l9⟩
  dsimp only [List.cons_append, List.nil_append] at hle9 N9 ⊢
  have X9 := hK.keeps F9.keep
  have tI : Looks (model PySem.Challenge.pw_ik0168_01 w) h9 (typeOf (.ref io)) (.ref 663) := (Looks.ld (N9 _ (.head _)).1).andThen .now
  have sI : Looks (model PySem.Challenge.pw_ik0168_01 w) h9 (isSubtype (.ref 663) (.ref 663)) true := looks_mroIn X9 (by k_dflt k_is)
  have i1 : Looks (model PySem.Challenge.pw_ik0168_01 w) h9 (typeLookup (.ref 663) "__init__") (some (.ref 433)) := looks_findIn X9 (by k_dflt k_is)
  have b1 : Looks (model PySem.Challenge.pw_ik0168_01 w) h9 (bindSpecial (.ref 433) (.ref io)) (.ref 433, [.ref io]) := bind_fn X9 _ (by k_dflt k_is)
  unfold isInstance
  repeat ((fail_if_success (with_reducible show wpAny _ _ (callSpecial? _ _ _ _) _ _ _)); (fail_if_success (with_reducible show wpAny _ _ (holding _ (callSpecial? _ _ _ _)) _ _ _)); (fail_if_success (with_reducible show wpAny _ _ (holding _ (callSpecial? _ _ _ _) >>= _) _ _ _)); lk)
  refine wpAny_bind (wpAny_holding ?_)
  refine special_fn (K := hd.heap_1 w.params) X9 (InstAt.of_news N9 (.head _) (.tail _ (.head _))) (by k_dflt k_is) (by k_dflt k_is) ?_
  k_dflt (refine' c_ini w p loose mean mg mb x tx io dx hx news e1 l9 _ _ _ _ _ _ _ _ _ _ _ _ _ _ _ _ ?kB1 ?kF1 ?kK1 ?kN1 ?kT1 ?kk1 ?kd1 ?ku1 ?kt1 ?kR1)
  case kk1 => rfl
  case kB1 => exact hB
  case kF1 => exact F9
  case kK1 => exact hK
  case kN1 => exact N9
  case kT1 => exact hT
  case kd1 => exact Nat.le_of_ble_eq_true rfl
  case ku1 => exact Nat.le_of_ble_eq_true rfl
  case kt1 => show 0 < tk9; omega
  rintro v8 led8 h8 tk8 hle8 F8 N8 ⟨rfl, t1, t2, t3, t4, t5, rfl⟩
  repeat lk
  exact hret (.ref io) [_, _] _ _ (by dsimp only at *; omega) F8 N8 ⟨_, _, _, _, _, _, _, rfl, rfl, e1, e2, l9⟩
end
section
open PySem.Calls PySem.Spec
noncomputable abbrev frs (l : List Env) : List Addr := l.filterMap (·.frame)
theorem frs_mem {env : Env} {L b : Addr} {outer : List Env} (hf : env.frame = some L) (hm : b ∈ frs (env :: outer)) : b = L ∨ b ∈ frs outer := by
  obtain ⟨e, he, h⟩ := List.mem_filterMap.mp hm
  rcases List.mem_cons.mp he with rfl | he
  · rw [hf] at h; exact .inl (Option.some.inj h).symm
  · exact .inr (List.mem_filterMap.mpr ⟨e, he, h⟩)
theorem below_pushX {A A' : Around} {base h₀ h : Heap} {outer : List Env} {L a : Addr} {m : Str → Option Value} {name : Str} {scope : Scope} {cd : Value} {cl : List (Str × Addr)}
    (K : Below A base outer h₀) (F : Fr h₀ L h m) (hA : A'.frames = some (envX name scope L a cd cl :: outer)) (hk : scope.kind = .function) : Below A' base (envX name scope L a cd cl :: outer) h := by
  have hnew : base.get? L = none := by
    cases hq : base.get? L with
    | none => rfl
    | some o => exact absurd (Nat.lt_of_lt_of_le (Heap.lt_size (K.stays L o hq)) F.above) (Nat.lt_irrefl _)
  exact ⟨hA, fun b o e => F.keep b o (K.stays b o e), .cons (by show scope.kind ≠ .module; rw [hk]; decide) rfl F.ns hnew (K.frames.of_keeps fun b o e _ => ⟨o, F.keep b o e, rfl⟩)⟩
/-- the ground of a frame after the slots of the frames below were written -/
theorem reground {A₀ : Around} {base h₀ h : Heap} {outer : List Env} (B : Below A₀ base outer h₀) (hk : ∀ b o, h₀.get? b = some o → b ∉ frs outer → h.get? b = some o) (hs : ∀ b o, h₀.get? b = some o → ∃ sl, h.get? b = some { o with slots := sl }) :
    ∃ h₀', KtsTurn (frs outer) h₀ h₀' ∧ Below A₀ base outer h₀' ∧ (∀ b o, h₀'.get? b = some o → h.get? b = some o) := by
  obtain ⟨T₁, S₁⟩ := kts_turn_at (h := h) (fs := frs outer) (g := h₀)
    (fun b hb => by obtain ⟨_, o, ho', _⟩ := B.frames.mem hb; exact ⟨o, ho'⟩) hk (fun b o e _ => hs b o e)
  refine ⟨_, T₁, ⟨B.stack, fun b o e => T₁.other b o (B.stays b o e) (fun hm => ?_), B.frames.of_keeps fun b o e _ => ?_⟩, S₁⟩
  · rw [(B.frames.mem hm).1] at e; cases e
  · obtain ⟨sl', hs'⟩ := T₁.up e
    exact ⟨_, hs', rfl⟩
noncomputable def LeaveG (fs : List Addr) (A₀ : Around) (base : Heap) (outer : List Env) (h₀ : Heap) (L : Addr) (m : Str → Option Value) (g : Heap) (R : Result → Shared → Prop) (v : Value) (s' : Shared) : Prop :=
  ∃ g' L' m' news', KtsTurn fs g g' ∧ Fr g' L' s'.heap m' ∧ News g' L' s'.heap news' ∧ ∀ h₀', KtsTurn (frs outer) h₀ h₀' → Fr h₀' L s'.heap m → News h₀' L s'.heap news' → Below A₀ base outer h₀' → R (.ok (.ret v)) s'
theorem enterG {prog : Program} {w : World} {A₀ A : Around} {s : Shared} {base h₀ : Heap} {outer : List Env} {L a : Addr} {m : Str → Option Value} {cn : Str} {cs : Scope} {ccd : Value} {cl : List (Str × Addr)} {news : Led} {K : Frag} {p : Program} {loose : List Str} {mean : ExcName → Option Value} {mg mb : Str → Option Value}
    {R : Result → Shared → Prop} {name qual : Str} {params : Arguments} {body : List Stmt} {scope : Scope} {dV kV doc pm cdv ct oc : Value} {an od : Option Addr} {osl : Array (Option Value)} {f : Addr} {args : Args} {binds : List (Str × Value)}
    (B : Below A₀ base outer h₀) (F : Fr h₀ L s.heap m) (X₀ : K.In h₀) (N : News h₀ L s.heap news) (T : Top p loose mean mg mb h₀) (D : KtsDicts (frs outer) h₀)
    (hA : A.frames = some (envX cn cs L a ccd cl :: outer))
    (ho : K.lookup f = some ⟨oc, od, .func (fnOf name qual params body scope dV kV doc pm an cdv ct), osl⟩) (hcd : codeIn K cdv qual = true) (hroom : A.depth < recursionLimit)
    (hbind : BindsTo s (fnOf name qual params body scope dV kV doc pm an cdv ct) args binds) (hloc : ∀ y ∈ binds, scope.names.lookup y.1 = some .local)
    (h : ∀ g L' h₁, Fr h₀ L g m → Fr g L' h₁ (fun y => binds.reverse.lookup y) → News g L' h₁ news → Below A base (envX cn cs L a ccd cl :: outer) g → K.In g → Top p loose mean mg mb g → KtsDicts (frs (envX cn cs L a ccd cl :: outer)) g →
      wpAny (model prog w) (A.deeper (envOf qual scope L' f cdv)) (execs body (envOf qual scope L' f cdv))
        (fun fl s' => LeaveG (frs (envX cn cs L a ccd cl :: outer)) A₀ base outer h₀ L m g R (match fl with | .ret v => v | _ => .none) s')
        (fun e s' => wpAny (model prog w) (A.deeper (envOf qual scope L' f cdv)) (leaving (envOf qual scope L' f cdv) e) (fun _ s'' => R (.error e) s'') (fun e' s'' => R (.error e') s'') s')
        { s with heap := h₁, toks := s.toks + binds.length })
    (hck : cs.kind = .function) (hco : scope.isCoroutine = false) (hgen : scope.isGenerator = false) (hk : scope.kind = .function)
    (hcell : ∀ x ∈ scope.names, x.2 ≠ .cell) : codeAny (model prog w) A (.call (.ref f) args) R s := by
  have X := X₀.keeps F.keep
  have nm : ∀ b o, h₀.get? b = some o → b ∉ news.map (·.1) := fun b o e q => by
    obtain ⟨p, hp, rfl⟩ := List.mem_map.mp q
    rw [(N p hp).2.2] at e; cases e
  have st : h₀.StaysIn (hideAll s.heap (news.map (·.1))) := fun b o e => hideAll_get _ (F.keep b o e) (nm b o e)
  obtain ⟨oL, es, ep, hL, hLd, hLk, hLf⟩ := F.ns
  have nL : L ∉ news.map (·.1) := fun q => by
    obtain ⟨p, hp, e⟩ := List.mem_map.mp q
    exact (N p hp).2.1 e
  have hLg := hideAll_get (news.map (·.1)) hL nL
  have B₁ := below_pushX (A' := A) B F hA hck
  have B₂ : Below A base (envX cn cs L a ccd cl :: outer) (hideAll s.heap (news.map (·.1))) := ⟨hA, fun b o e => st b o (B.stays b o e), funFrames_hideAll B₁.frames fun env he b hb hf => by
    cases he with
    | head => exact nL ((Option.some.inj hf : L = b) ▸ hb)
    | tail _ he =>
      obtain ⟨L₁, o₁, hf₁, ho₁⟩ := funFrames_in B.frames env he
      rw [hf₁] at hf
      exact nm L₁ o₁ ho₁ ((Option.some.inj hf : L₁ = b) ▸ hb)⟩
  refine codeAny_call_def (fd := fnOf name qual params body scope dV kV doc pm an cdv ct) (body := body) (binds := binds) hroom (X _ _ ho) rfl (T.nolimit.keeps F.keep) (codeRec_of X hcd) rfl hbind hcell hloc (fun h₁ hns hk₁ => ?_) hco hgen hk
  refine wpAny_mono (h _ s.heap.objs.size h₁ ⟨⟨oL, es, ep, hLg, hLd, hLk, hLf⟩, st, F.above⟩ ⟨hns, fun b o e => hk₁ b o (of_hideAll _ e), Nat.le_of_eq (hideAll_size _ _)⟩
    (fun p hp => ⟨hk₁ _ _ (N p hp).1, Nat.ne_of_lt (Heap.lt_size (N p hp).1), hideAll_none _ (List.mem_map_of_mem hp)⟩) B₂ (X₀.keeps st) (T.keeps st) (fun b hb => by
      rcases frs_mem rfl hb with rfl | hb
      · exact ⟨oL, es, ep, hLg, hLd⟩
      · obtain ⟨o, es', n', ho', hd'⟩ := D b hb
        exact ⟨o, es', n', st b o ho', hd'⟩)) (fun fl s' hl => ?_) fun _ _ y => y
  obtain ⟨g', L', m', news', T', F', N', k⟩ := hl
  have nL₀ : h₀.get? L = none := kts_self F
  obtain ⟨sl, hs⟩ := T'.up hLg
  obtain ⟨h₀', T₁, B₃, S₁⟩ := reground (h := s'.heap) B (fun b o e nmem => F'.keep b o (T'.other b o (st b o e) (fun q => by
      rcases frs_mem rfl q with z | z
      · rw [z, nL₀] at e; cases e
      · exact nmem z))) (fun b o e => by
      obtain ⟨sl', hs'⟩ := T'.up (st b o e)
      exact ⟨sl', F'.keep _ _ hs'⟩)
  refine k h₀' T₁ ⟨⟨_, es, ep, F'.keep _ _ hs, hLd, hLk, hLf⟩, S₁, by rw [T₁.size]; exact F.above⟩ (fun p hp => ⟨(N' p hp).1, fun q => ?_, ?_⟩) B₃
  · have := (N' p hp).2.2; rw [q, hs] at this; cases this
  · refine T₁.none_ _ ?_
    cases q : h₀.get? p.1 with
    | none => rfl
    | some o =>
      obtain ⟨sl', hs'⟩ := T'.up (st _ _ q)
      have := (N' p hp).2.2
      rw [hs'] at this
      cases this
end
section
theorem caught_ground {A₀ : Around} {base h₀ G h' : Heap} {outer : List Env} {L a e t : Addr} {m : Str → Option Value} {name : Str} {scope : Scope} {cd : Value} {cl : List (Str × Addr)} {vs : List Value} {news : Led} {X : String}
    (R : RaisedS base G (envX name scope L a cd cl :: outer) e (.type X) t vs news h') (F : Fr h₀ L G m) (B : Below A₀ base outer h₀) (hsm : G.UpToSlots h') :
    ∃ h₀', KtsTurn (frs outer) h₀ h₀' ∧ Fr h₀' L h' m ∧ News h₀' L h' news ∧ Below A₀ base outer h₀' ∧ ∃ ob, h'.get? e = some ob ∧ ob.cls = .type X := by
  obtain ⟨⟨B', hB, hBG, hl, hfl, hnew⟩, htup⟩ := R
  have nL₀ : h₀.get? L = none := kts_self F
  obtain ⟨h₀', T₁, B₃, S₁⟩ := reground (h := h') B (fun b o ek nmem => hfl.1 b o (hBG b o (F.keep b o ek) (fun q => by
      rcases frs_mem rfl q with z | z
      · rw [z, nL₀] at ek; cases ek
      · exact nmem z))) (fun b o ek => by
      by_cases hm : b ∈ frs outer
      · obtain ⟨_, o', ho', hd⟩ := B.frames.mem hm
        rw [ek] at ho'; cases ho'
        exact hsm b o (F.keep b o ek) hd
      · exact ⟨o.slots, hfl.1 b o (hBG b o (F.keep b o ek) (fun q => by
          rcases frs_mem rfl q with z | z
          · rw [z, nL₀] at ek; cases ek
          · exact hm z))⟩)
  refine ⟨h₀', T₁, ⟨hsm.ns F.ns, S₁, by rw [T₁.size]; exact F.above⟩, fun q hq => ⟨hfl.1 _ _ (hl q hq).1, fun z => ?_, T₁.none_ _ (kts_none F.keep (hl q hq).2.1)⟩, B₃, hfl.there⟩
  obtain ⟨o, _, _, ho, _⟩ := F.ns
  have := (hl q hq).2.1
  rw [z, ho] at this
  cases this
theorem c_stop (w : World) (p : Program) (loose : List Str) (mean : ExcName → Option Value) (mg mb : Str → Option Value) (B : LexB) (news : Led) (hB : LexOk B news) (hb : B.buf.length ≤ 1000) (hpk : B.pos = ((B.buf.length : Nat) : Int)) (hst : B.st = .none) (htok : B.tok = Str.ofString "") :
   ∀ (cn : Str) (nms : List (Str × NameKind)) (ig ic : Bool) (mo : List (Str × Const)) (a : Addr) (ccd : Value) (cl : List (Str × Addr)) (outer : List Env) (A₀ : Around) (base h₀ : Heap) (L : Addr) (m : Str → Option Value) (s : Shared) (Q E : Value → Shared → Prop),
    Below A₀ base outer h₀ → Fr h₀ L s.heap m → (hd.heap_1 w.params).In h₀ → News h₀ L s.heap (lexL w B news) → Top p loose mean mg mb h₀ → 0 < s.toks →
    (∀ (e : Addr) (h₀' h' : Heap) (tk' : Nat) (T' : Nat → Tok), s.toks ≤ tk' → KtsTurn (frs outer) h₀ h₀' → Fr h₀' L h' m → News h₀' L h' (lexL w { B with T := T' } news) → Below A₀ base outer h₀' → (∃ ob, h'.get? e = some ob ∧ ob.cls = .type "StopIteration") → E (.ref e) { s with heap := h', toks := tk' }) →
    wpAny (model PySem.Challenge.pw_ik0168_01 w) (ktrTop 400 4000 (some []) cn { kind := .function, names := nms, isGenerator := ig, isCoroutine := ic, more := mo } L a ccd cl outer) (call (.ref 795) [.ref B.lx]) Q E s := by
  obtain ⟨al, a2, l1, l2, l3, n1, n2, n3, n4, n5, n6, n7, n8, n9, n10, n11⟩ := id hB
  intro cn nms ig ic mo a ccd cl outer A₀ base h₀ L m s Q E hBl hF hK hN hT ht hE
  refine tok_keep ?_
  dsimp only [lexL, lexD] at hN
  repeat' ((fail_if_success (with_reducible show wpAny _ _ (call (Value.ref 766) _) _ _ _)); (fail_if_success (with_reducible show wpAny _ _ (exec (Stmt.While _ _ _ _) _) _ _ _)); (first | (k_unfold; (try dsimp only)) | (k_end; wrow_close) | ((with_reducible show wpAny _ _ (truthy (Value.ref _)) _ _ _); (k_here; k_dflt (refine' deque_truthyN ?kN ?km ?_; (case kN => k_asm); (case km => k_mem)); (try dsimp only))) | walk1 | (dsimp only; first | ((with_reducible show wpAny _ _ (truthy (Value.ref _)) _ _ _); (k_here; k_dflt (refine' deque_truthyN ?kN ?km ?_; (case kN => k_asm); (case km => k_mem)); (try dsimp only))) | walk1)))
  k_dflt (refine' c_eof w p loose mean mg mb B news hB hb hpk hst htok _ _ _ _ _ _ _ _ _ _ _ _ _ _ _ _ ?kB ?kF ?kK ?kN ?kT ?kk ?kd ?ku ?kt ?kR)
  case kk => rfl
  case kB => k_asm
  case kF => k_asm
  case kK => k_asm
  case kN => k_asm
  case kT => k_asm
  case kd => exact Nat.le_of_ble_eq_true rfl
  case ku => exact Nat.le_of_ble_eq_true rfl
  case kt => first | assumption | omega | (dsimp only; omega)
  rintro v9 led9 h9 tk9 hle9 F9 N9 ⟨rfl, T, rfl⟩
  dsimp only [lexL, lexD] at N9
  (try dsimp only)
  (try k_fold)
  repeat' ((fail_if_success (with_reducible show wpAny _ _ (exec (Stmt.While _ _ _ _) _) _ _ _)); (first | (k_unfold; (try dsimp only)) | (k_end; wrow_close) | walk1 | (dsimp only; walk1)))
  refine wpAny_mono (E := fun _ _ => False) ?_ (fun _ _ h => h) (fun _ _ h => h.elim)
  rename Fr _ _ _ (fun _ => _) => FX
  rename News _ _ _ _ => NX
  refine while_once FX NX ?_
  intro h1 tk1 hle1 F1 N1
  clear FX NX
  repeat' ((fail_if_success (with_reducible show OnceEnd _ _ _)); (first | (k_unfold; (try dsimp only)) | (k_end; wrow_close) | ((with_reducible show wpAny _ _ (truthy (Value.ref _)) _ _ _); (k_here; k_dflt (refine' deque_truthyN ?kN ?km ?_; (case kN => k_asm); (case km => k_mem)); (try dsimp only))) | walk1 | (dsimp only; first | ((with_reducible show wpAny _ _ (truthy (Value.ref _)) _ _ _); (k_here; k_dflt (refine' deque_truthyN ?kN ?km ?_; (case kN => k_asm); (case km => k_mem)); (try dsimp only))) | walk1)))
  dsimp only [OnceEnd]
  repeat' ((first | (k_unfold; (try dsimp only)) | (k_end; wrow_close) | ((with_reducible show wpAny _ _ (leaving _ _) _ _ _); (k_here; (refine' leave_raiseS ?k1 (Heap.MadeExc.of (by assumption)) ?k2 ?k3 ?_; (case k1 => assumption); (case k2 => assumption); (case k3 => k_asm); k_whole; intro _ _ R' _ U'; (try dsimp only at R' U' ⊢)))) | walk1 | (dsimp only; first | ((with_reducible show wpAny _ _ (leaving _ _) _ _ _); (k_here; (refine' leave_raiseS ?k1 (Heap.MadeExc.of (by assumption)) ?k2 ?k3 ?_; (case k1 => assumption); (case k2 => assumption); (case k3 => k_asm); k_whole; intro _ _ R' _ U'; (try dsimp only at R' U' ⊢)))) | walk1)))
  rename RaisedS _ _ _ _ _ _ _ _ _ => RS
  rename Heap.UpToSlots _ _ => US
  obtain ⟨h₀', T1, F1', N1', B1', ob⟩ := caught_ground RS (by assumption) hBl US
  exact hE _ h₀' _ _ T (by assumption) T1 F1' N1' B1' ob
end
section
theorem loop_step {prog : Program} {w : World} {A : Around} {S I : Addr} {s : Shared} {R : Result → Shared → Prop}
    (h : wpAny (model prog w) A.in1 (pyNext (.ref I)) (fun r s' => match r with
      | none => R (.ok (.ret .none)) s'
      | some x => ∃ ys c, s'.heap.get? S = some { cls := .type "list", data := .seq ys c } ∧ ys.size < 1000 ∧
        codeAny (model prog w) A (.builtin "list.extend.loop" ⟨[.ref S, .ref I, .none], []⟩) R { s' with heap := s'.heap.update S (Obj.mapSeq (·.push x)) }) (fun e s' => R (.error e) s') s) :
    codeAny (model prog w) A (.builtin "list.extend.loop" ⟨[.ref S, .ref I, .none], []⟩) R s := by
  refine codeAny_builtin F.entry_extend_loop ?_
  rw [Around.under_plainId F.plain_extend_loop _]
  unfold Builtin.«list.extend.loop»
  refine wpAny_bind (wpAny_mono h (fun r s' hr => ?_) fun _ _ z => z)
  cases r with
  | none => exact wpAny_pure hr
  | some x =>
    obtain ⟨ys, c, hS, hz, hc⟩ := hr
    show wpAny _ _ (updateSeq S (·.push x) >>= _) _ _ _
    refine wpAny_bind (wpAny_updateSeq (hz := by have := Array.size_push (xs := ys) x; rw [sizeLine_eq]; omega) hS rfl ?_)
    exact wpAny_pure ⟨plainId_quiet F.plain_extend_loop _, hc⟩
theorem list_start {prog : Program} {w : World} {A : Around} {s : Shared} {Q E : Value → Shared → Prop} {K : Frag} {h₀ : Heap} {L I C f : Addr} {m : Str → Option Value} {news : Led} {ox : Obj} {od : Option Obj} {g : Value}
    (F : Fr h₀ L s.heap m) (X₀ : K.In h₀) (N : News h₀ L s.heap news) (hi : ∀ h', News h₀ L h' news → InstAt h' I ox C od)
    (hs : findIn K (.ref C) "__iter__" = some (some (.ref f))) (hf : isFn K (.ref f) = true) (hn : findIn K (.ref C) "__next__" = some (some g))
    (h1 : findIn K (.ref C) "__len__" = some none) (h2 : findIn K (.ref C) "__length_hint__" = some none)
    (hiter : ∀ (Q' E' : Value → Shared → Prop) (s₁ : Shared) , s₁.gens = s.gens → s₁.drawn = s.drawn → s₁.os = s.os → s.toks ≤ s₁.toks → Fr h₀ L s₁.heap m → News h₀ L s₁.heap news → (∃ c, s₁.heap.get? s.heap.objs.size = some { cls := .type "list", data := .seq #[] c }) →
      (∀ h' tk' c, s.toks ≤ tk' → Fr h₀ L h' m → News h₀ L h' ((s.heap.objs.size, ({ cls := .type "list", data := .seq #[] c } : Obj)) :: news) → Q' (.ref I) { s with heap := h', toks := tk' }) →
      wpAny (model prog w) A.in1.in1 (call (.ref f) [.ref I]) Q' E' s₁)
    (hgo : ∀ h' tk' c, s.toks ≤ tk' → Fr h₀ L h' m → News h₀ L h' ((s.heap.objs.size, ({ cls := .type "list", data := .seq #[] c } : Obj)) :: news) →
      codeAny (model prog w) A.in1 (.builtin "list.extend.loop" ⟨[.ref s.heap.objs.size, .ref I, .none], []⟩) (wants (fun r s₂ => r = .none ∧ Q (.ref s.heap.objs.size) s₂) E) { s with heap := h', toks := tk' }) :
    wpAny (model prog w) A (call (.type "list") [.ref I]) Q E s := by
  have hS : (s.heap.push { cls := .type "list", data := .seq #[] }).get? s.heap.objs.size = some { cls := .type "list", data := .seq #[] } := Heap.get?_push_size _ rfl
  have I0 := hi s.heap N
  have hSI : s.heap.objs.size ≠ I := Ne.symm (Nat.ne_of_lt (Heap.lt_size I0.at_))
  refine callType_codes (Q₁ := fun obj s₁ => obj = .ref s.heap.objs.size ∧ s₁ = { s with heap := s.heap.push { cls := .type "list", data := .seq #[] } }) PySem.F.called_list (PySem.F.typeCall_list_1 _) PySem.F.entry_list_init
    (code_list_new _ ⟨rfl, rfl⟩) fun obj s₁ h₁ => ?_
  obtain ⟨rfl, rfl⟩ := h₁
  refine ⟨⟨_, hS, rfl⟩, PySem.F.args_list_init_2 _ _, ?_⟩
  show wpAny _ A.in1.in1 (do let old ← Builtin.List.listItems (.ref s.heap.objs.size); Builtin.List.listUpdate (.ref s.heap.objs.size) (fun _ => #[]); letGo old.toList.reverse; Builtin.List.listExtendWith (.ref s.heap.objs.size) (.ref I) .none) _ _ _
  refine wpAny_bind ?_
  unfold Builtin.List.listItems
  refine wpAny_bind (wpAny_seqItems hS rfl (wpAny_pure ?_))
  show wpAny _ A.in1.in1 (updateSeq s.heap.objs.size (fun _ => #[]) >>= fun _ => letGo (#[] : Array Value).toList.reverse >>= fun _ => Builtin.List.listExtendWith (.ref s.heap.objs.size) (.ref I) .none) _ _ _
  refine wpAny_bind (wpAny_updateSeq hS rfl ?_)
  have hS₂ := Heap.get?_update_self (Obj.mapSeq (fun _ => (#[] : Array Value))) hS rfl
  have oth : ∀ b o, b ≠ s.heap.objs.size → s.heap.get? b = some o → ((s.heap.push { cls := .type "list", data := .seq #[] }).update s.heap.objs.size (Obj.mapSeq (fun _ => (#[] : Array Value)))).get? b = some o :=
    fun b o hb e => (Heap.get?_update_other _ _ (Ne.symm hb)).trans (Heap.get?_push_of_some _ e)
  have hSnew : h₀.get? s.heap.objs.size = none := next_is_new F
  have hSL : s.heap.objs.size ≠ L := Nat.ne_of_gt F.ns.lt
  have off : ∀ p ∈ news, p.1 ≠ s.heap.objs.size := fun p hp => Nat.ne_of_lt (Heap.lt_size (N p hp).1)
  have hk2 : ∀ b o, b ∉ [s.heap.objs.size] → s.heap.get? b = some o → ((s.heap.push { cls := .type "list", data := .seq #[] }).update s.heap.objs.size (Obj.mapSeq (fun _ => (#[] : Array Value)))).get? b = some o := fun b o hb e => oth b o (fun q => hb (List.mem_singleton.mpr q)) e
  have F2 := LCg.fr_but F hk2 (Ne.symm hSL) hSnew
  have N2 := LCg.news_but N hk2 off
  refine wpAny_bind (wpAny_letGo ?_)
  unfold Builtin.List.listExtendWith
  refine wpAny_bind ((hi _ N2).type.here ?_)
  have h3 : Builtin.List.listSameRef (.ref s.heap.objs.size) (.ref I) = false := by simp [Builtin.List.listSameRef, hSI]
  have h4 : (Value.ref C == Value.type "list") = false := rfl
  have h5 : (Value.ref C == Value.type "tuple") = false := rfl
  simp only [h3, h4, h5, Bool.or_false, Bool.false_eq_true, if_false]
  refine wpAny_bind (owit_iter F2 X₀ (hi _ N2) hs hf (hiter _ _ _ rfl rfl rfl (Nat.le_refl _) F2 N2 ⟨_, hS₂⟩ fun h' tk' c hle F3 N3 => ?_))
  have N3' : News h₀ L h' news := fun p hp => N3 p (.tail _ hp)
  refine owit_it F3 X₀ (hi _ N3') hn ?_
  refine wpAny_bind (wpAny_holding ?_)
  unfold Builtin.List.listLengthHint
  have X3 := X₀.keeps F3.keep
  refine wpAny_bind (wpAny_bind ((hi _ N3').type.here ((looks_findIn X3 h1).here ?_)))
  show wpAny _ A.in1.in1 (specialOf (Value.ref I) (Str.ofString "__length_hint__") >>= _) _ _ _
  refine wpAny_bind (wpAny_bind ((hi _ N3').type.here ((looks_findIn X3 h2).here ?_)))
  refine wpAny_pure ?_
  show wpAny _ A.in1.in1 (rule "list.extend.makes-room" >>= fun _ => Builtin.List.listTouch (.ref s.heap.objs.size) >>= fun _ => again (.builtin "list.extend.loop" ⟨[.ref s.heap.objs.size, .ref I, .none], []⟩)) _ _ _
  refine wpAny_bind (wpAny_rule ?_)
  refine wpAny_bind ?_
  show wpAny _ A.in1.in1 (updateSeq s.heap.objs.size (·.push .none) >>= fun _ => updateSeq s.heap.objs.size (·.pop)) _ _ _
  have hS₃ := (N3 _ (.head _)).1
  refine wpAny_bind (wpAny_updateSeq hS₃ rfl ?_)
  have hS₄ := Heap.get?_update_self (Obj.mapSeq (·.push Value.none)) hS₃ rfl
  refine wpAny_updateSeq hS₄ rfl ?_
  have hS₅ := Heap.get?_update_self (Obj.mapSeq (·.pop)) hS₄ rfl
  have hk5 : ∀ b o, b ∉ [s.heap.objs.size] → h'.get? b = some o → ((h'.update s.heap.objs.size (Obj.mapSeq (·.push Value.none))).update s.heap.objs.size (Obj.mapSeq (·.pop))).get? b = some o :=
    fun b o hb e => (Heap.get?_update_other _ _ (fun q => hb (List.mem_singleton.mpr q.symm))).trans ((Heap.get?_update_other _ _ (fun q => hb (List.mem_singleton.mpr q.symm))).trans e)
  obtain ⟨c5, e5⟩ : ∃ c5, ((h'.update s.heap.objs.size (Obj.mapSeq (·.push Value.none))).update s.heap.objs.size (Obj.mapSeq (·.pop))).get? s.heap.objs.size = some { cls := .type "list", data := .seq #[] c5 } := ⟨_, hS₅⟩
  have NN : News h₀ L ((h'.update s.heap.objs.size (Obj.mapSeq (·.push Value.none))).update s.heap.objs.size (Obj.mapSeq (·.pop))) ((s.heap.objs.size, ({ cls := .type "list", data := .seq #[] c5 } : Obj)) :: news) := by
    intro p hp
    rcases List.mem_cons.mp hp with rfl | hp
    · exact ⟨e5, hSL, hSnew⟩
    · exact LCg.news_but N3' hk5 off p hp
  exact wpAny_pure ⟨plainId_quiet PySem.F.plain_extend_loop _, hgo _ tk' c5 hle (LCg.fr_but F3 hk5 (Ne.symm hSL) hSnew) NN⟩
end
section
noncomputable def Chain (x : Str) : Nat → List Nat → Prop
  | _, [] => False
  | k, [n] => WordAt x k n ∧ k + 2 + n = x.length
  | k, n :: n' :: r => WordAt x k n ∧ k + 2 + n < x.length ∧ Chain x (k + 3 + n) (n' :: r)
noncomputable def wordsAt (x : Str) : Nat → List Nat → List Str
  | _, [] => []
  | k, n :: r => tokAt x (k + 1) n :: wordsAt x (k + 3 + n) r
theorem strs_snoc {y : Str} {t : Tok} : ∀ {vs : List Value} {ys : List Str}, StrsAre vs ys → StrsAre (vs ++ [.str y t]) (ys ++ [y])
  | _, _, .nil => .cons y t .nil
  | _, _, .cons z u r => .cons z u (strs_snoc r)
theorem lexOk_same {B B' : LexB} {news : Led} (h : LexOk B news) (e1 : B'.lx = B.lx) (e2 : B'.ld = B.ld) (e3 : B'.io = B.io) (e4 : B'.dx = B.dx) (e5 : B'.pb = B.pb) (e6 : B'.fs = B.fs) : LexOk B' news := by
  obtain ⟨lx, ld, io, dx, pb, fs, T, st, tok, ln, buf, pos⟩ := B
  obtain ⟨lx', ld', io', dx', pb', fs', T', st', tok', ln', buf', pos'⟩ := B'
  dsimp only at e1 e2 e3 e4 e5 e6
  subst e1 e2 e3 e4 e5 e6
  exact ⟨h.al, h.a2, h.l1, h.l2, h.l3, h.n1, h.n2, h.n3, h.n4, h.n5, h.n6, h.n7, h.n8, h.n9, h.n10, h.n11⟩
noncomputable abbrev lstO (ys : List Value) (c : Nat) : Obj := { cls := .type "list", data := .seq ys.toArray c }
noncomputable def Rest (B : LexB) (k : Nat) : List Nat → Prop
  | [] => B.st = .none ∧ k = B.buf.length
  | n :: r => Chain B.buf k (n :: r) ∧ ∃ ts, B.st = .str (Str.ofString " ") ts
theorem lex_loop (w : World) (p : Program) (loose : List Str) (mean : ExcName → Option Value) (mg mb : Str → Option Value)
    (cn : Str) (nms : List (Str × NameKind)) (ig ic : Bool) (mo : List (Str × Const)) (a : Addr) (ccd : Value) (cl : List (Str × Addr)) (outer : List Env) (A₀ : Around) (base h₀ : Heap) (L : Addr) (m : Str → Option Value) (S : Addr) (news : Led) (R : Result → Shared → Prop)
    (hoff : ∀ p ∈ news, p.1 ≠ S) (hBl : Below A₀ base outer h₀) (hK : (hd.heap_1 w.params).In h₀) (hT : Top p loose mean mg mb h₀) :
    ∀ (ns : List Nat) (k : Nat) (B : LexB) (ys : List Value) (done : List Str) (c : Nat) (s : Shared),
    LexOk B ((S, lstO ys c) :: news) → B.buf.length ≤ 1000 → B.pos = (k : Int) → B.tok = Str.ofString "" → Rest B k ns → StrsAre ys done → ys.length + ns.length ≤ 100 →
    Fr h₀ L s.heap m → News h₀ L s.heap (lexL w B ((S, lstO ys c) :: news)) → 0 < s.toks →
    (∀ (h₀' h' : Heap) (tk' : Nat) (B' : LexB) (ys' : List Value) (c' : Nat), s.toks ≤ tk' → KtsTurn (frs outer) h₀ h₀' → Fr h₀' L h' m → News h₀' L h' (lexL w B' ((S, lstO ys' c') :: news)) → Below A₀ base outer h₀' → StrsAre ys' (done ++ wordsAt B.buf k ns) → R (.ok (.ret .none)) { s with heap := h', toks := tk' }) →
    codeAny (model PySem.Challenge.pw_ik0168_01 w) (ktrTop 380 3800 (some []) cn { kind := .function, names := nms, isGenerator := ig, isCoroutine := ic, more := mo } L a ccd cl outer).in1 (.builtin "list.extend.loop" ⟨[.ref S, .ref B.lx, .none], []⟩) R s := by
  intro ns
  induction ns with
  | nil =>
    intro k B ys done c s hB hb hpk htok hr hys hlen hF hN ht hret
    refine loop_step ?_
    refine owit_next (K := hd.heap_1 w.params) hF hK (InstAt.of_news hN (.tail _ (.tail _ (.tail _ (.tail _ (.head _))))) (.tail _ (.tail _ (.tail _ (.tail _ (.tail _ (.head _))))))) (by k_dflt k_is) (by k_dflt k_is) ?_
    refine around_mono (d := 400) (u := 4000) (by exact Nat.le_of_ble_eq_true rfl) (by exact Nat.le_of_ble_eq_true rfl) (c_stop w p loose mean mg mb B _ hB hb (by rw [hpk, hr.2]) hr.1 htok cn nms ig ic mo a ccd cl outer A₀ base h₀ L m s _ _ hBl hF hK hN hT ht ?_)
    intro e h₀' h' tk' T' hle T1 F1 N1 B1 ob
    obtain ⟨o, ho, hc⟩ := ob
    unfold OwitStop
    refine wpAny_isInstance (b := true) (T := "StopIteration") ⟨o, ho, hc⟩ (by rw [isSubtype_type]; kernel_rfl) ?_
    show (if true = true then _ else _)
    rw [if_pos rfl]
    exact hret h₀' h' tk' _ ys c hle T1 F1 N1 B1 (by simpa [wordsAt] using hys)
  | cons n r ih =>
    intro k B ys done c s hB hb hpk htok hr hys hlen hF hN ht hret
    obtain ⟨hch, ts, hst⟩ := hr
    have hw : WordAt B.buf k n := by cases r with
      | nil => exact hch.1
      | cons _ _ => exact hch.1
    refine loop_step ?_
    refine owit_next (K := hd.heap_1 w.params) hF hK (InstAt.of_news hN (.tail _ (.tail _ (.tail _ (.tail _ (.head _))))) (.tail _ (.tail _ (.tail _ (.tail _ (.tail _ (.head _))))))) (by k_dflt k_is) (by k_dflt k_is) ?_
    refine c_next w p loose mean mg mb B _ hB hb k n hpk hw ts hst htok _ _ cn _ a ccd cl outer A₀ base h₀ L m s _ _ hBl hF hK hN hT rfl (by exact Nat.le_of_ble_eq_true rfl) (by exact Nat.le_of_ble_eq_true rfl) ht ?_
    rintro v led h' tk' hle F1 N1 ⟨T, t, st, ln, k', rfl, rfl, hcase⟩
    have hSo := N1 (S, lstO ys c) (.tail _ (.tail _ (.tail _ (.tail _ (.tail _ (.tail _ (.head _)))))))
    refine ⟨_, _, hSo.1, by have := hlen; simp only [List.length_cons] at this; simp; omega, ?_⟩
    have hk : ∀ b o, b ∉ [S] → h'.get? b = some o → (h'.update S (Obj.mapSeq (·.push (.str (tokAt B.buf (k + 1) n) t)))).get? b = some o := fun b o hb e => (Heap.get?_update_other _ _ (fun q => hb (List.mem_singleton.mpr q.symm))).trans e
    have hS2 := Heap.get?_update_self (Obj.mapSeq (·.push (.str (tokAt B.buf (k + 1) n) t))) hSo.1 rfl
    obtain ⟨c2, hS3⟩ : ∃ c2, (h'.update S (Obj.mapSeq (·.push (.str (tokAt B.buf (k + 1) n) t)))).get? S = some { cls := .type "list", data := .seq (ys.toArray.push (.str (tokAt B.buf (k + 1) n) t)) c2 } := ⟨_, hS2⟩
    rw [List.push_toArray] at hS3
    have F2 := LCg.fr_but F1 hk (Ne.symm hSo.2.1) hSo.2.2
    have ne : ∀ p ∈ lexL w { B with T := T, st := st, tok := Str.ofString "", ln := ln, pos := (k' : Int) } ((S, lstO ys c) :: news), p.2.cls ≠ .type "list" → p.1 ≠ S := fun p hp hc e => by
      have y := (N1 p hp).1
      rw [e, hSo.1] at y
      exact hc (congrArg Obj.cls (Option.some.inj y)).symm
    have N2 : News h₀ L (h'.update S (Obj.mapSeq (·.push (.str (tokAt B.buf (k + 1) n) t)))) (lexL w { B with T := T, st := st, tok := Str.ofString "", ln := ln, pos := (k' : Int) } ((S, lstO (ys ++ [.str (tokAt B.buf (k + 1) n) t]) c2) :: news)) := by
      have old : ∀ p, p ∈ lexL w { B with T := T, st := st, tok := Str.ofString "", ln := ln, pos := (k' : Int) } ((S, lstO ys c) :: news) → p.1 ≠ S → (h'.update S (Obj.mapSeq (·.push (.str (tokAt B.buf (k + 1) n) t)))).get? p.1 = some p.2 ∧ p.1 ≠ L ∧ h₀.get? p.1 = none := fun p hp hn =>
        ⟨hk _ _ (by simpa using hn) (N1 p hp).1, (N1 p hp).2⟩
      have nd1 : Value.type "collections.deque" ≠ .type "list" := by decide
      have nd2 : ∀ b, Value.ref b ≠ .type "list" := fun _ e => nomatch e
      have nd3 : Value.type "dict" ≠ .type "list" := by decide
      exact all_c (old _ (.head _) (ne _ (.head _) nd1)) (all_c (old _ (.tail _ (.head _)) (ne _ (.tail _ (.head _)) nd1)) (all_c (old _ (.tail _ (.tail _ (.head _))) (ne _ (.tail _ (.tail _ (.head _))) (nd2 _))) (all_c (old _ (.tail _ (.tail _ (.tail _ (.head _)))) (ne _ (.tail _ (.tail _ (.tail _ (.head _)))) nd3)) (all_c (old _ (.tail _ (.tail _ (.tail _ (.tail _ (.head _))))) (ne _ (.tail _ (.tail _ (.tail _ (.tail _ (.head _))))) (nd2 _))) (all_c (old _ (.tail _ (.tail _ (.tail _ (.tail _ (.tail _ (.head _)))))) (ne _ (.tail _ (.tail _ (.tail _ (.tail _ (.tail _ (.head _)))))) nd3)) (all_c ⟨hS3, hSo.2⟩ (fun p hp => old _ (.tail _ (.tail _ (.tail _ (.tail _ (.tail _ (.tail _ (.tail _ hp))))))) (hoff p hp))))))))
    have hB2 : LexOk { B with T := T, st := st, tok := Str.ofString "", ln := ln, pos := (k' : Int) } ((S, lstO (ys ++ [.str (tokAt B.buf (k + 1) n) t]) c2) :: news) :=
      ⟨⟨hB.al.1, hB.al.2⟩, ⟨hB.a2.1, hB.a2.2⟩, hB.l1, hB.l2, hB.l3, hB.n1, hB.n2, hB.n3, hB.n4, hB.n5, hB.n6, hB.n7, hB.n8, hB.n9, hB.n10, hB.n11⟩
    refine ih k' { B with T := T, st := st, tok := Str.ofString "", ln := ln, pos := (k' : Int) } (ys ++ [.str (tokAt B.buf (k + 1) n) t]) (done ++ [tokAt B.buf (k + 1) n]) c2 _ hB2 hb rfl rfl ?_ (strs_snoc hys) (by simp only [List.length_append, List.length_cons, List.length_nil] at hlen ⊢; omega) F2 N2 (by show 0 < tk'; omega) ?_
    · cases r with
      | nil =>
        have e := hch.2
        rcases hcase with ⟨_, h2, h3⟩ | ⟨h1, _, _⟩
        · exact ⟨h3, by show k' = B.buf.length; omega⟩
        · omega
      | cons n' r' =>
        have e := hch.2.1
        rcases hcase with ⟨h1, _, _⟩ | ⟨_, h2, h3⟩
        · omega
        · subst h2; exact ⟨hch.2.2, h3⟩
    · intro h₀' h5 tk5 B5 ys5 c5 hle5 T5 F5 N5 B5' hys5
      refine hret h₀' h5 tk5 B5 ys5 c5 (Nat.le_trans hle hle5) T5 F5 N5 B5' ?_
      have e : done ++ wordsAt B.buf k (n :: r) = (done ++ [tokAt B.buf (k + 1) n]) ++ wordsAt B.buf k' r := by
        cases r with
        | nil => simp [wordsAt]
        | cons n' r' =>
          have e := hch.2.1
          rcases hcase with ⟨h1, _, _⟩ | ⟨_, h2, _⟩
          · omega
          · subst h2; simp [wordsAt]
      rw [e]
      exact hys5
end
section
theorem c_iter (w : World) (p : Program) (loose : List Str) (mean : ExcName → Option Value) (mg mb : Str → Option Value) (x : Addr) (news : Led) :
    CallT 390 3900 w p loose mean mg mb 788 news [.ref x] (fun _ tl v => tl = [] ∧ v = .ref x) := by
  refine CallT.of ?_
  intro cn nms ig ic mo a ccd cl outer A₀ base h₀ L m s Q E hB hF hK hN hT ht hret
  refine tok_keep ?_
  repeat' ((first | (k_unfold; (try dsimp only)) | (k_end; wrow_close) | walk1 | (dsimp only; walk1)))
  exact hret (.ref x) [] _ _ (by assumption) (by k_asm) (by k_asm) ⟨rfl, rfl⟩
/-- list(lex) in a def's frame -/
theorem list_lex (w : World) (p : Program) (loose : List Str) (mean : ExcName → Option Value) (mg mb : Str → Option Value)
    (cn : Str) (nms : List (Str × NameKind)) (ig ic : Bool) (mo : List (Str × Const)) (a : Addr) (ccd : Value) (cl : List (Str × Addr)) (outer : List Env) (A₀ : Around) (base h₀ : Heap) (L : Addr) (m : Str → Option Value) (news : Led) (B : LexB) (ns : List Nat) (k : Nat) (s : Shared) (Q E : Value → Shared → Prop)
    (hBl : Below A₀ base outer h₀) (hK : (hd.heap_1 w.params).In h₀) (hT : Top p loose mean mg mb h₀)
    (hB : LexOk B news) (hb : B.buf.length ≤ 1000) (hpk : B.pos = (k : Int)) (htok : B.tok = Str.ofString "") (hr : Rest B k ns) (hlen : ns.length ≤ 100)
    (hF : Fr h₀ L s.heap m) (hN : News h₀ L s.heap (lexL w B news)) (ht : 0 < s.toks)
    (hret : ∀ (h₀' h' : Heap) (tk' : Nat) (B' : LexB) (S : Addr) (ys' : List Value) (c' : Nat), s.toks ≤ tk' → KtsTurn (frs outer) h₀ h₀' → Fr h₀' L h' m → News h₀' L h' (lexL w B' ((S, lstO ys' c') :: news)) → Below A₀ base outer h₀' → StrsAre ys' (wordsAt B.buf k ns) → (∀ q ∈ news, q.1 < S) → Q (.ref S) { s with heap := h', toks := tk' }) :
    wpAny (model PySem.Challenge.pw_ik0168_01 w) (ktrTop 380 3800 (some []) cn { kind := .function, names := nms, isGenerator := ig, isCoroutine := ic, more := mo } L a ccd cl outer) (call (.type "list") [.ref B.lx]) Q E s := by
  have lt : ∀ q ∈ lexL w B news, q.1 < s.heap.objs.size := fun q hq => Heap.lt_size (hN q hq).1
  have ok : ∀ c, LexOk B ((s.heap.objs.size, lstO [] c) :: news) := fun c => by
    have e1 := lt (B.ld, lexD w B) (.tail _ (.tail _ (.tail _ (.tail _ (.tail _ (.head _))))))
    have e2 := lt (B.dx, _) (.tail _ (.tail _ (.tail _ (.head _))))
    exact ⟨⟨Nat.ne_of_gt e1, hB.al⟩, ⟨Nat.ne_of_gt e2, hB.a2⟩, hB.l1, hB.l2, hB.l3, hB.n1, hB.n2, hB.n3, hB.n4, hB.n5, hB.n6, hB.n7, hB.n8, hB.n9, hB.n10, hB.n11⟩
  have sub : ∀ {h' : Heap} {c : Nat}, News h₀ L h' ((s.heap.objs.size, lstO [] c) :: lexL w B news) → News h₀ L h' (lexL w B ((s.heap.objs.size, lstO [] c) :: news)) := fun N q hq => N q (by
    revert q; dsimp only [lexL]; (repeat (first | exact sub_r | (refine sub_c ?_ ?_; focus ((repeat (first | exact List.Mem.head _ | refine List.Mem.tail _ ?_)); done)) | refine sub_t ?_)); done)
  refine list_start (K := hd.heap_1 w.params) (C := 798) (f := 788) hF hK hN (fun h' N' => InstAt.of_news N' (.tail _ (.tail _ (.tail _ (.tail _ (.head _))))) (.tail _ (.tail _ (.tail _ (.tail _ (.tail _ (.head _))))))) (by k_dflt k_is) (by k_dflt k_is) (by k_dflt k_is) (by k_dflt k_is) (by k_dflt k_is) ?_ ?_
  · intro Q' E' s₁ e1 e2 e3 hle F1 N1 hS hq
    obtain ⟨c, hS⟩ := hS
    obtain ⟨h1, g1, d1, t1, o1⟩ := s₁
    dsimp only at e1 e2 e3 hle F1 N1 hS
    subst e1 e2 e3
    have NS : News h₀ L h1 ((s.heap.objs.size, lstO [] c) :: lexL w B news) := fun q hq => by
      rcases List.mem_cons.mp hq with rfl | hq
      · exact ⟨hS, Nat.ne_of_gt hF.ns.lt, next_is_new hF⟩
      · exact N1 q hq
    refine c_iter w p loose mean mg mb B.lx _ _ _ cn _ a ccd cl outer A₀ base h₀ L m _ _ _ hBl F1 hK NS hT rfl (by exact Nat.le_of_ble_eq_true rfl) (by exact Nat.le_of_ble_eq_true rfl) (Nat.lt_of_lt_of_le ht hle) ?_
    rintro v tl h' tk' hle' F' N' ⟨rfl, rfl⟩
    exact hq h' tk' c (Nat.le_trans hle hle') F' N'
  · intro h' tk' c hle F1 N1
    refine lex_loop w p loose mean mg mb cn nms ig ic mo a ccd cl outer A₀ base h₀ L m s.heap.objs.size news _ (fun q hq => Nat.ne_of_lt (lt q (.tail _ (.tail _ (.tail _ (.tail _ (.tail _ (.tail _ hq)))))))) hBl hK hT ns k B [] [] c _ (ok c) hb hpk htok hr .nil (by simpa using hlen) F1 (sub N1) (Nat.lt_of_lt_of_le ht hle) ?_
    intro h₀' h2 tk2 B' ys' c' hle2 T1 F2 N2 B2 hys
    exact ⟨rfl, hret h₀' h2 tk2 B' _ ys' c' (Nat.le_trans hle hle2) T1 F2 N2 B2 hys (fun q hq => lt q (.tail _ (.tail _ (.tail _ (.tail _ (.tail _ (.tail _ hq)))))))⟩
end
section
noncomputable def lineS : Str := Str.ofString "'*&lt;*' '*&quot;*' '*&#*' '*[<>\"]*' '*[\r\n\t]*'"
noncomputable def wordB (x : Str) (k n : Nat) : Bool := decide (k + 2 + n ≤ x.length) && x.cps[k]? == some 39 && x.cps[k + 1 + n]? == some 39 && ((List.range n).all fun i => match x.cps[k + 1 + i]? with | some c => c != 39 && c != 92 | none => false) && (decide (k + 2 + n = x.length) || x.cps[k + 2 + n]? == some 32)
theorem wordAt_of {x : Str} {k n : Nat} (h : wordB x k n = true) : WordAt x k n := by
  unfold wordB at h
  simp only [Bool.and_eq_true, Bool.or_eq_true, decide_eq_true_eq, beq_iff_eq, List.all_eq_true, List.mem_range] at h
  obtain ⟨⟨⟨⟨h1, h2⟩, h3⟩, h4⟩, h5⟩ := h
  refine ⟨h1, h2, h3, fun i hi => ?_, h5⟩
  have := h4 i hi
  split at this
  · rename_i c e
    simp only [Bool.and_eq_true, bne_iff_ne] at this
    exact ⟨c, e, this.1, this.2⟩
  · cases this
theorem chain_line : Chain lineS 0 [6, 8, 4, 7, 7] :=
  ⟨wordAt_of (by decide +kernel), by decide +kernel, wordAt_of (by decide +kernel), by decide +kernel, wordAt_of (by decide +kernel), by decide +kernel, wordAt_of (by decide +kernel), by decide +kernel, wordAt_of (by decide +kernel), by decide +kernel⟩
theorem words_line : wordsAt lineS 0 [6, 8, 4, 7, 7] = [Str.ofString "*&lt;*", Str.ofString "*&quot;*", Str.ofString "*&#*", Str.ofString "*[<>\"]*", Str.ofString "*[\r\n\t]*"] := by decide +kernel
end
section
theorem neAll_lt {d : Nat} {news : Led} (h : AllLt d news) : NeAll d news := neAll_of fun p hp => Nat.ne_of_lt (allLt_mem2 h p hp)
theorem c_split (w : World) (p : Program) (loose : List Str) (mean : ExcName → Option Value) (mg mb : Str → Option Value) (tx : Tok) (news : Led)
    (cn : Str) (nms : List (Str × NameKind)) (ig ic : Bool) (mo : List (Str × Const)) (a : Addr) (ccd : Value) (cl : List (Str × Addr)) (outer : List Env) (A₀ : Around) (base h₀ : Heap) (L : Addr) (m : Str → Option Value) (s : Shared) (Q E : Value → Shared → Prop)
    (hBl : Below A₀ base outer h₀) (hF : Fr h₀ L s.heap m) (hK : (hd.heap_1 w.params).In h₀) (hN : News h₀ L s.heap news) (hT : Top p loose mean mg mb h₀) (hD : KtsDicts (frs outer) h₀) (ht : 0 < s.toks)
    (hret : ∀ (h₀' h' : Heap) (tk' : Nat) (S : Addr) (ys' : List Value) (c' : Nat), KtsTurn (frs outer) h₀ h₀' → Fr h₀' L h' m → News h₀' L h' ((S, lstO ys' c') :: news) → Below A₀ base outer h₀' → StrsAre ys' (wordsAt lineS 0 [6, 8, 4, 7, 7]) → (∀ q ∈ news, q.1 < S) → 0 < tk' → Q (.ref S) { s with heap := h', toks := tk' }) :
    wpAny (model PySem.Challenge.pw_ik0168_01 w) (ktrTop 370 3700 (some []) cn { kind := .function, names := nms, isGenerator := ig, isCoroutine := ic, more := mo } L a ccd cl outer) (call (.ref 810) [.str lineS tx]) Q E s := by
  refine wpAny_call ?_
  k_dflt (refine' enterG hBl hF hK hN hT hD ?kA ?k6 ?k7 ?k8 ?k9 ?kB ?_ ?c2 ?c3 ?c4 ?c5 ?c6; (case kA => exact rfl); (case k6 => k_is); (case k7 => k_is); (case k8 => ktr_room); (case k9 => first | exact BindsTo.of_eq rfl | exact binds_K (by k_in) rfl (by k_is) rfl rfl rfl); (case kB => exact locs rfl); (case c2 => exact rfl); (case c3 => exact rfl); (case c4 => exact rfl); (case c5 => exact rfl); (case c6 => decide); k_whole)
  intro g' L' h' FG' F' N' B' X' T' D'
  (try dsimp only)
  (try k_fold)
  repeat' ((fail_if_success (with_reducible show wpAny _ _ (call (Value.ref 663) _) _ _ _)); (fail_if_success (with_reducible show wpAny _ _ (call (Value.type "collections.deque") _) _ _ _)); (fail_if_success (with_reducible show wpAny _ _ (call (Value.type "list") _) _ _ _)); (first | (k_unfold; (try dsimp only)) | (k_end; wrow_close) | walk1 | (dsimp only; walk1)))
  k_dflt (refine' c_sio w p loose mean mg mb lineS tx (by decide +kernel) _ _ _ _ _ _ _ _ _ _ _ _ _ _ _ _ _ ?kB ?kF ?kK ?kN ?kT ?kk ?kd ?ku ?kt ?kR)
  case kk => rfl
  case kB => k_asm
  case kF => k_asm
  case kK => k_asm
  case kN => k_asm
  case kT => k_asm
  case kd => exact Nat.le_of_ble_eq_true rfl
  case ku => exact Nat.le_of_ble_eq_true rfl
  case kt => first | assumption | omega | (dsimp only; omega)
  rintro v8 led8 h8 tk8 hle8 F8 N8 ⟨io, dx, t1, t2, t3, t4, t5, rfl, rfl, e1, e2, l9⟩
  simp only [NeAll, and_true] at e1 e2
  dsimp only [List.cons_append, List.nil_append] at N8
  (try dsimp only)
  (try k_fold)
  repeat' ((fail_if_success (with_reducible show wpAny _ _ (call (Value.type "collections.deque") _) _ _ _)); (fail_if_success (with_reducible show wpAny _ _ (call (Value.type "list") _) _ _ _)); (first | (k_unfold; (try dsimp only)) | (k_end; wrow_close) | walk1 | (dsimp only; walk1)))
  k_dflt (refine' around_mono ?kd1 ?ku1 (deque_new _ ?kF1 ?kN1 ?kR1))
  case kd1 => exact Nat.le_of_ble_eq_true rfl
  case ku1 => exact Nat.le_of_ble_eq_true rfl
  case kF1 => k_asm
  case kN1 => k_asm
  intro h9 a1 F9 N9 ne1
  (try simp only [NeAll, and_true] at ne1)
  (try dsimp only)
  (try k_fold)
  repeat' ((fail_if_success (with_reducible show wpAny _ _ (call (Value.type "collections.deque") _) _ _ _)); (fail_if_success (with_reducible show wpAny _ _ (call (Value.type "list") _) _ _ _)); (first | (k_unfold; (try dsimp only)) | (k_end; wrow_close) | walk1 | (dsimp only; walk1)))
  k_dflt (refine' around_mono ?kd2 ?ku2 (deque_new _ ?kF2 ?kN2 ?kR2))
  case kd2 => exact Nat.le_of_ble_eq_true rfl
  case ku2 => exact Nat.le_of_ble_eq_true rfl
  case kF2 => k_asm
  case kN2 => k_asm
  intro h9 a2 F9 N9 ne2
  (try simp only [NeAll, and_true] at ne2)
  (try dsimp only)
  (try k_fold)
  repeat' ((fail_if_success (with_reducible show wpAny _ _ (call (Value.type "list") _) _ _ _)); (first | (k_unfold; (try dsimp only)) | (k_end; wrow_close) | walk1 | (dsimp only; walk1)))
  k_dflt (refine' around_mono (d := 380) (u := 3800) ?dd ?uu (list_lex w p loose mean mg mb _ _ _ _ _ _ _ _ _ _ _ _ _ _ news ⟨_, _, io, dx, a1, a2, fun i => [_, _, _, _, _, _, _, _, _, _, _, _, _, _, _, _, _, _, _, _, _, _, _, _, _, _, _, _, _, _, _, _, _, _, _].getD i 0, _, _, _, lineS, 0⟩ [6, 8, 4, 7, 7] 0 _ _ _ ?hBl ?hK ?hT ?hB ?hb ?hp ?htok ?hr ?hl ?hF ?hN ?ht ?hret))
  case hN => k_asm
  case dd => exact Nat.le_of_ble_eq_true rfl
  case uu => exact Nat.le_of_ble_eq_true rfl
  case hBl => k_asm
  case hK => k_asm
  case hT => k_asm
  case hF => k_asm
  case hb => show lineS.length ≤ 1000; decide +kernel
  case hp => rfl
  case htok => rfl
  case hr => exact ⟨chain_line, ⟨_, rfl⟩⟩
  case hl => decide
  case ht => first | assumption | omega | (dsimp only; omega)
  case hB => exact ⟨neAll_of (fun p hp => Nat.ne_of_lt ((by assumption : ∀ p ∈ news, @LT.lt Nat _ p.1 _) p hp)), e1.2.2, by assumption, e1.1, l9, ne1.2.2.2.1, ne1.2.2.1, ne1.2.1, ne1.1, ne2.2.2.2.2.1, ne2.2.2.2.1, ne2.2.2.1, ne2.2.1, e1.2.1, e2.2.1, e2.1⟩
  case hret =>
    intro h₀' h9 tk9 B9 S ys c hle T1 F9 N9 B9' hys hlt
    (try dsimp only)
    (try k_unfold)
    (try dsimp only)
    (try k_unfold)
    (try dsimp only)
    refine ⟨h₀', _, _, (S, lstO ys c) :: news, T1, F9, fun q hq => N9 q ?_, fun h₂ T2 F2 N2 B2 => ?_⟩
    · simp only [lexL, List.mem_cons] at hq ⊢
      rcases hq with h | h <;> simp [h]
    · exact hret h₂ _ _ S ys c T2 F2 N2 B2 hys hlt (by first | omega | (dsimp only at *; omega))
end
section
/-- a list's append, bound -/
noncomputable abbrev appO (a : Addr) : Obj := { cls := .type "builtin_function_or_method", data := .fields #[.builtin "list.append", .ref a] }
theorem slot_list_ga : Slot "list" "__getattribute__" "list.__getattribute__" :=
  .of (owner := "list") (n := "__getattribute__") (by rw [typeLookup_type, builtinLookup_eq_fast]; kernel_rfl) (by decide +kernel) (by decide +kernel) (by decide +kernel)
    (by first | exact .inl (by decide +kernel) | exact .inr (by decide +kernel)) (by rw [isSubtype_type]; kernel_rfl)
open PySem.W.X in
theorem app_ga (w : World) {fr : Option (List Env)} {Q E : Value → Shared → Prop} {a : Addr} {s : Shared} {n : Nat} {t : Tok} (hG : s.heap.get? a = some ⟨.type "list", none, .seq #[] n, #[]⟩)
    (X9 : ∀ {b : Addr} {h' : Heap}, X.Mem s.heap h' [] [(b, appO a)] → Q (.ref b) { s with heap := h' }) :
    wpAny (model PySem.Challenge.pw_ik0168_01 w) ⟨none, 480, fr, some [], 4800⟩ (call (.builtin "list.__getattribute__") [.ref a, .str (Str.ofString "append") t]) Q E s := by
  obtain ⟨h, g, d, tk, os⟩ := s
  refine y_start _ _ _ _ _ _ _ (.call (.builtin "list.__getattribute__") ⟨[.ref a, .str (Str.ofString "append") t], []⟩) none false [] _ (fun e => nomatch e) ?_
  refine y_code _ _ _ _ _ _ ?_
  rw [den_tw]
  refine y_ldT (a := a) (by kernel_rfl) hG ?_
  refine y_agT (by kernel_rfl) ?_
  refine y_code _ _ _ _ _ _ ?_
  rw [den_tw]
  refine y_ldT (a := a) (by kernel_rfl) hG ?_
  refine y_ldT (a := a) (by kernel_rfl) hG ?_
  refine y_ldT (a := a) (by kernel_rfl) hG ?_
  refine y_lrun (f := fun _ => none) (fun _ _ e => nomatch e) 1 _ ?_
  refine y_caX (by kernel_rfl) ?_
  refine y_code _ _ _ _ _ _ ?_
  rw [den_tw]
  refine y_agT (by kernel_rfl) ?_
  refine y_code _ _ _ _ _ _ ?_
  rw [den_tw]
  refine y_ldT (a := a) (by kernel_rfl) hG ?_
  refine y_allT (o := appO a) (by kernel_rfl) (Mem.start h) rfl ?_
  intro b h1 D1
  refine y_eq _ _ _ _ _ _ _ _ _ (.pure (.done (.ret (.ref b)))) (by kernel_rfl) ?_
  refine y_pure _ _ _ _ _ _ _ _ _ ?_
  refine y_done _ _ _ _ _ _ ?_
  refine y_ret _ _ _ _ _ _ _ _ _ _ ?_
  refine y_eq _ _ _ _ _ _ _ _ _ (.pure (.done (.ret (.ref b)))) (by kernel_rfl) ?_
  refine y_pure _ _ _ _ _ _ _ _ _ ?_
  refine y_done _ _ _ _ _ _ ?_
  refine y_endOk _ _ _ _ _ _ _ _ _ (.ref b) rfl ?_
  exact X9 D1
theorem app_attr (w : World) {fr : Option (List Env)} {Q E : Value → Shared → Prop} {h₀ : Heap} {L : Addr} {m : Str → Option Value} {news : Led} {a : Addr} {s : Shared} {n : Nat} {ex : Bool} (hF : Fr h₀ L s.heap m) (hN : News h₀ L s.heap ((a, W.listOf #[] n) :: news))
    (hret : ∀ h' b tk', Fr h₀ L h' m → News h₀ L h' ((b, appO a) :: (a, W.listOf #[] n) :: news) → NeAll b news → @Ne Nat a b → s.toks ≤ tk' → Q (.ref b) { s with heap := h', toks := tk' }) :
    wpAny (model PySem.Challenge.pw_ik0168_01 w) ⟨none, 480, fr, some [], 4800⟩ (getAttr (.ref a) (Str.ofString "append") ex) Q E s := by
  have hG := (hN _ (.head _)).1
  have hT : ∀ t', ({ s with toks := t' } : Shared).TypeIs (.ref a) "list" := fun _ => ⟨_, hG, rfl⟩
  have hlk := slot_list_ga.lookup
  unfold getAttr getAttrBy
  refine wpAny_bind (wpAny_mkText (wpAny_holding (wpAny_bind (wpAny_typeOf (hT _) (wpAny_bind (wpAny_of_eq hlk ?_))))))
  show wpAny _ _ (getAttrByItsOwn (.ref a) (.str (Str.ofString "append") s.toks) (.type "list") (.builtin "list.__getattribute__") true ex) _ _ _
  unfold getAttrByItsOwn hookBefore callGetattribute boundAndCalled
  refine wpAny_bind (wpAny_of_eq (show (if onTheHeap (.type "list") then typeLookup (.type "list") "__getattr__" else pure none) = pure none from rfl) ?_)
  refine wpAny_bind (wpAny_attempt (wpAny_holding ?_))
  have he : (ex && onTheHeap (.builtin "list.__getattribute__")) = false := by cases ex <;> rfl
  rw [he]
  show wpAny _ _ (bindSpecial (.builtin "list.__getattribute__") (.ref a) >>= _) _ _ _
  refine wpAny_bind (wpAny_of_eq (slot_list_ga.bind _) ?_)
  show wpAny _ _ (call (.builtin "list.__getattribute__") [.ref a, .str (Str.ofString "append") s.toks]) _ _ _
  refine app_ga w (s := { s with toks := s.toks + 1 }) hG fun {b h'} D => ?_
  have Z := x_fin hF hN D
  refine wpAny_pure (hret _ _ _ Z.1 Z.2 (neAll_of fun p hp e => ?_) (fun e => ?_) (Nat.le_succ _))
  · have z := (D.nw _ (.head _)).2
    have y := (hN p (.tail _ hp)).1
    rw [e] at y
    rw [y] at z
    cases z
  · have z := (D.nw _ (.head _)).2
    rw [← e, hG] at z
    cases z
theorem quiet_app {args : Args} : (Code.builtin "list.append" args).quiet = true := Code.quiet_builtin _ (by decide +kernel)
theorem sig_app : Manifest.signature? "list.append" = some ⟨.oneArg, "list.append", "append", .self, [⟨"object", .posOnly, true⟩]⟩ := by
  rw [signature?_of (id := "list.append") (n := ['d', 'n', 'e', 'p', 'p', 'a']) (o := ['t', 's', 'i', 'l']) (by kernel_rfl) F.owner_list]; kernel_rfl
theorem kind_app : builtinKind "list.append" = some .method := by decide +kernel
theorem check_app {a : Addr} {v : Value} {M : Model} {A : Around} {E : Value → Shared → Prop} {s : Shared} {Q : Unit → Shared → Prop} {its : Array Value} {n : Nat} (hA : s.heap.get? a = some (W.listOf its n)) (h : Q () s) : wpAny M A (checkBoundCall "list.append" ⟨[.ref a, v], []⟩) Q E s := by
  have k1 : isSubtype (.type "list") (.type "module") = pure false := by rw [isSubtype_type]; kernel_rfl
  have hT : s.TypeIs (.ref a) "list" := ⟨_, hA, rfl⟩
  unfold checkBoundCall
  rw [sig_app, kind_app]
  dsimp only
  refine KFB.if_not rfl ?_
  refine wpAny_bind (wpAny_isInstance hT k1 ?_)
  refine KFB.if_not (by decide +kernel) ?_
  unfold isType
  refine wpAny_bind (wpAny_bind (wpAny_load hA ?_))
  refine wpAny_pure ?_
  refine KFB.if_not rfl ?_
  refine wpAny_bind (wpAny_typeOf hT ?_)
  show wpAny _ _ (Bind.checkArgs _ _ _) _ _ _
  refine wpAny_of_eq (a := ()) (by kernel_rfl) h
theorem app_call (w : World) {A : Around} {Q E : Value → Shared → Prop} {h₀ : Heap} {L : Addr} {m : Str → Option Value} {news : Led} {a b : Addr} {s : Shared} {n : Nat} {its : Array Value} {v : Value} (hF : Fr h₀ L s.heap m) (hN : News h₀ L s.heap ((b, appO a) :: (a, W.listOf its n) :: news))
    (hb : @Ne Nat a b) (ha : NeAll a news) (hn : its.size ≤ 1000)
    (hret : ∀ h' n', Fr h₀ L h' m → News h₀ L h' ((b, appO a) :: (a, W.listOf (its.push v) n') :: news) → Q .none { s with heap := h' }) :
    wpAny (model PySem.Challenge.pw_ik0168_01 w) A (call (.ref b) [v]) Q E s := by
  have hB := (hN _ (.head _)).1
  have hA := (hN _ (.tail _ (.head _))).1
  refine wpAny_call (codeAny_of_tree ?_)
  show wpAny _ A.in1 (callAny (.ref b) ⟨[v], []⟩) _ _ s
  simp only [callAny]
  refine wpAny_bind (wpAny_load hB ?_)
  simp only [show (Value.type "builtin_function_or_method" == Value.type "method" || Value.type "builtin_function_or_method" == Value.type "builtin_function_or_method" || Value.type "builtin_function_or_method" == Value.type "method-wrapper") = true by decide, if_true]
  refine KFB.if_so (by decide) ?_
  refine wpAny_bind (check_app hA ?_)
  refine wpAny_bind (wpAny_pure (wpAny_pure ?_))
  refine ⟨quiet_app, codeAny_builtin F.entry_list_append ?_⟩
  unfold Builtin.«list.append»
  refine wpAny_bind (wpAny_of_eq (a := ((.ref a : Value), v)) (by kernel_rfl) ?_)
  refine wpAny_bind ?_
  unfold Builtin.List.listUpdate
  show wpAny _ _ (updateSeq a fun x => x.push v) _ _ _
  have h1 : its.size ≤ sizeLine := Nat.le_trans hn (by decide +kernel)
  have hz' : (its.push v).size ≤ sizeLine + 1 := by rw [Array.size_push]; omega
  refine wpAny_updateSeq hA rfl (hz := h1) (_hz' := hz') ?_
  refine wpAny_pure ?_
  have hk : ∀ c o, c ∉ [a] → s.heap.get? c = some o → (s.heap.update a (Obj.mapSeq fun x => x.push v)).get? c = some o := fun c o hc e => (Heap.get?_update_other _ _ (fun q => hc (List.mem_singleton.mpr q.symm))).trans e
  have off : ∀ p ∈ (b, appO a) :: news, p.1 ≠ a := fun p hp => by
    rcases List.mem_cons.mp hp with rfl | hp
    · exact Ne.symm hb
    · exact neAll_all ha p hp
  have hS := Heap.get?_update_self (Obj.mapSeq fun x => x.push v) hA rfl
  have N2 := LCg.news_but (fun p hp => hN p (by rcases List.mem_cons.mp hp with rfl | hp; exact .head _; exact .tail _ (.tail _ hp)) : News h₀ L s.heap ((b, appO a) :: news)) hk off
  have hL : L ≠ a := fun e => (hN _ (.tail _ (.head _))).2.1 e.symm
  refine hret _ (if (its.push v).size == its.size then n else n + 1) (LCg.fr_but hF hk hL (hN _ (.tail _ (.head _))).2.2) fun p hp => ?_
  rcases List.mem_cons.mp hp with rfl | hp
  · exact N2 _ (.head _)
  rcases List.mem_cons.mp hp with rfl | hp
  · exact ⟨hS, (hN _ (.tail _ (.head _))).2⟩
  · exact N2 _ (.tail _ hp)
noncomputable def AppAt (x a : Addr) (h : Heap) : Prop := h.get? x = some (appO a)
theorem app_cw {M : Model} {A : Around} {E : Value → Shared → Prop} {s : Shared} {a : Addr} {pos : Pos} {u : Addr} {first : List Value} {args : List (Bool × Sem Value)} {Q : Value → Shared → Prop} (hplain : args.any (·.1) = false)
    (h : wpAny M A (evalArgs (.ref u) true args []) (fun x s₁ => AppAt u a s₁.heap ∧ wpAny M A (call (.ref u) (first ++ x.pos) x.kw) Q E s₁) E s) : wpAny M A (callWith pos (.ref u) first args []) Q E s := by
  have k1 : (Value.type "builtin_function_or_method" != Value.type "method") = true := by decide
  have k2 : (Value.type "builtin_function_or_method" == Value.type "builtin_function_or_method" || Value.type "builtin_function_or_method" == Value.type "method-wrapper") = true := by decide
  unfold callWith
  refine wpAny_bind (wpAny_holding (wpAny_mono h (fun x s₁ hq => wpAny_bind (wpAny_standAt ?_)) fun _ _ e => e))
  obtain ⟨ho, hcall⟩ := hq
  simp only [hplain, List.any_nil, Bool.or_false]
  refine wpAny_bind (m := keeperOf (.ref u)) ?_
  unfold keeperOf
  refine wpAny_bind (wpAny_load ho ?_)
  simp only [k1, k2, if_true]
  refine wpAny_pure ?_
  exact wpAny_bind (wpAny_mono hcall (fun r s₂ hr => wpAny_bind (wpAny_holding (wpAny_point (wpAny_pure hr)))) fun _ _ e => e)
theorem app_callWith {M : Model} {A : Around} {E : Value → Shared → Prop} {s : Shared} {h₀ : Heap} {L : Addr} {news : Led} {a u : Addr} {o : Obj} {pos : Pos} {first : List Value} {env : Env} {e : Expr} {rest : List Expr} {Q : Value → Shared → Prop} (_N : News h₀ L s.heap ((u, appO a) :: (a, o) :: news))
    (h : wpAny M A (spliced (backTo pos (starEach (e :: rest) env))) (fun vs s₁ => AppAt u a s₁.heap ∧ wpAny M A (call (.ref u) (first ++ vs)) Q E s₁) E s)
    (he : starEach (e :: rest) env = (false, eval e env) :: starEach rest env := by rfl) (hplain : (backTo pos (starEach rest env)).any (·.1) = false := by rfl) :
    wpAny M A (callWith pos (.ref u) first (backTo pos (starEach (e :: rest) env)) []) Q E s := by
  rw [he] at h ⊢
  refine app_cw (a := a) (by show (false || (backTo pos (starEach rest env)).any (·.1)) = false; rw [hplain]; rfl) ?_
  exact PySem.Calls.evalArgs_plain h
end
section
section
variable {prog : Program} {w : World} {A : Around} {E : Value → Shared → Prop} {s : Shared} {d : Addr} {f : Int → Option Value} {c : Nat}
theorem key_is (t : Tok) : (intKind prog w).is (c : Int) (.int c t) = true := by simp [intKind, Value.isInt]
theorem lookup_hit {Q : Builtin.Str.Mapped → Shared → Prop} {x : Str} {u : Tok} (hm : s.heap.MapOf (intKind prog w) d f) (hv : f (c : Int) = some (.str x u)) (h : ∀ tk, s.toks ≤ tk → Q (.text x) { s with toks := tk }) :
    wpAny (model prog w) A (Builtin.Str.tableLookup (.ref d) c) Q E s := by
  unfold Builtin.Str.tableLookup
  refine wpAny_bind (wpAny_attempt (wpAny_bind (wpAny_mkInt ?_)))
  refine wpAny_getItem_of (key_is _) hm hv ?_
  dsimp only
  refine wpAny_bind (wpAny_of_eq (a := none) (by kernel_rfl) ?_)
  dsimp only
  refine wpAny_bind (wpAny_of_eq (a := some x) (by kernel_rfl) ?_)
  exact wpAny_pure (h _ (by (try dsimp only); omega))
theorem lookup_miss {Q : Builtin.Str.Mapped → Shared → Prop} (hd : (d == sysModules) = false) (hh : A.handled = none) (hm : s.heap.MapOf (intKind prog w) d f) (hv : f (c : Int) = none)
    (h : ∀ h' tk, s.toks ≤ tk → (∀ b o, s.heap.get? b = some o → h'.get? b = some o) → Q .keep { s with heap := h', toks := tk }) :
    wpAny (model prog w) A (Builtin.Str.tableLookup (.ref d) c) Q E s := by
  have k1 : isSubtype (.type "KeyError") (.type "LookupError") = pure true := by rw [isSubtype_type]; kernel_rfl
  unfold Builtin.Str.tableLookup
  refine wpAny_bind (wpAny_attempt (wpAny_bind (wpAny_mkInt ?_)))
  refine wpAny_getItem_missing_of (s := { s with toks := s.toks + 1 }) (key_is _) hd hh hm hv fun h' e x => ?_
  obtain ⟨ob, t, ho, hc, _⟩ := x.there
  dsimp only
  refine wpAny_bind (wpAny_isInstance (T := "KeyError") ⟨ob, ho, hc⟩ k1 ?_)
  refine KFB.if_so rfl ?_
  exact wpAny_bind (wpAny_rule (wpAny_pure (h _ _ (by (try dsimp only); omega) x.keeps)))
theorem tr_keep {Q : Fin → Shared → Prop} {t : Tok} (hc : c < 128) (hd : (d == sysModules) = false) (hh : A.handled = none) (hm : s.heap.MapOf (intKind prog w) d f) (hv : f (c : Int) = none)
    (h : ∀ h' t' tk, s.toks ≤ t' → (∀ b o, s.heap.get? b = some o → h'.get? b = some o) → Q (.done (.ret (.str ⟨#[c]⟩ t'))) { s with heap := h', toks := tk }) :
    wpAny (model prog w) A (Builtin.«str.translate» ⟨[.str ⟨#[c]⟩ t, .ref d], []⟩) Q E s := by
  unfold Builtin.«str.translate»
  refine wpAny_bind (wpAny_of_eq (a := (Value.str ⟨#[c]⟩ t, (⟨#[c]⟩ : Str), Value.ref d)) (by kernel_rfl) ?_)
  (try dsimp only)
  refine KFB.if_not rfl ?_
  rw [← Array.forIn_toList]
  simp only [List.forIn_cons, List.forIn_nil]
  have h1 : (#[c] : Array Nat).all (· < 128) = true := by simp [hc]
  rw [h1]
  refine wpAny_bind (wpAny_bind ?_)
  refine KFB.if_not (by decide +kernel) ?_
  refine KFB.if_so rfl ?_
  simp only [List.lookup]
  refine wpAny_bind ?_
  refine lookup_miss hd hh hm hv fun h' tk hle hk => ?_
  (try dsimp only)
  refine wpAny_bind (wpAny_pure ?_)
  (try dsimp only)
  refine wpAny_pure ?_
  (try dsimp only)
  refine wpAny_pure ?_
  (try dsimp only)
  refine KFB.if_not (by decide +kernel) ?_
  have e : (List.foldl (fun (acc : Array Nat) (p : Str) => acc ++ p.cps) #[] [(⟨#[c]⟩ : Str)].reverse) = #[c] := by simp
  rw [e]
  unfold retStr
  exact wpAny_bind (wpAny_mkStr (wpAny_pure (h _ _ _ hle hk)) (by show 1 ≤ sizeLine; decide +kernel))
theorem tr_text {Q : Fin → Shared → Prop} {t u : Tok} {x : Str} (hc : c < 128) (hx : x.length = 2) (hm : s.heap.MapOf (intKind prog w) d f) (hv : f (c : Int) = some (.str x u))
    (h : ∀ t' tk, s.toks ≤ t' → Q (.done (.ret (.str x t'))) { s with toks := tk }) :
    wpAny (model prog w) A (Builtin.«str.translate» ⟨[.str ⟨#[c]⟩ t, .ref d], []⟩) Q E s := by
  unfold Builtin.«str.translate»
  refine wpAny_bind (wpAny_of_eq (a := (Value.str ⟨#[c]⟩ t, (⟨#[c]⟩ : Str), Value.ref d)) (by kernel_rfl) ?_)
  (try dsimp only)
  refine KFB.if_not rfl ?_
  rw [← Array.forIn_toList]
  simp only [List.forIn_cons, List.forIn_nil]
  have h1 : (#[c] : Array Nat).all (· < 128) = true := by simp [hc]
  rw [h1]
  refine wpAny_bind (wpAny_bind ?_)
  refine KFB.if_not (by decide +kernel) ?_
  refine KFB.if_so rfl ?_
  simp only [List.lookup]
  refine wpAny_bind ?_
  refine lookup_hit hm hv fun tk hle => ?_
  have e1 : (x.length == 1 && x.cps.all (· < 128)) = false := by rw [hx]; rfl
  simp only [e1]
  (try dsimp only)
  refine wpAny_bind (wpAny_pure ?_)
  (try dsimp only)
  refine wpAny_bind (wpAny_rule ?_)
  refine KFB.if_not rfl ?_
  refine wpAny_bind ?_
  refine lookup_hit (s := { s with toks := tk }) hm hv fun tk2 hle2 => ?_
  (try dsimp only)
  refine wpAny_pure ?_
  (try dsimp only)
  refine wpAny_pure ?_
  (try dsimp only)
  refine KFB.if_not (by rw [hx]; decide +kernel) ?_
  have e : (List.foldl (fun (acc : Array Nat) (p : Str) => acc ++ p.cps) #[] [x].reverse) = x.cps := by simp
  rw [e]
  unfold retStr
  exact wpAny_bind (wpAny_mkStr (wpAny_pure (h _ _ (Nat.le_trans hle hle2))) (by show x.length ≤ sizeLine; rw [hx]; decide +kernel))
end
section
noncomputable def es93 (p : Params) : Array DictEntry := match (hd.heap_1 p).lookup 93 with | some ⟨_, _, .dict es _, _⟩ => es | _ => #[]
noncomputable def ep93 (p : Params) : Nat := match (hd.heap_1 p).lookup 93 with | some ⟨_, _, .dict _ n, _⟩ => n | _ => 0
theorem l93 (p : Params) : (hd.heap_1 p).lookup 93 = some ⟨.type "dict", none, .dict (es93 p) (ep93 p), #[]⟩ := by kernel_rfl
theorem keys93 (prog : Program) (w : World) (p : Params) : KeysOf (intKind prog w) (es93 p) := by
  have h : ((es93 p).toList.all fun e => match e.key with | .int k _ => e.hash == (intKind prog w).hash k | _ => false) = true := by kernel_rfl
  intro e he
  have := List.all_eq_true.mp h e (Array.mem_toList_iff.mpr he)
  revert this
  cases hk : e.key <;> simp
  rename_i k t
  intro q
  exact ⟨k, by simp [intKind, Value.isInt], q⟩
theorem map93 {w : World} {h : Heap} (X : (hd.heap_1 w.params).In h) (prog : Program) : h.MapOf (intKind prog w) 93 (fun k => findBy (intKind prog w).is (es93 w.params) k) :=
  ⟨_, _, _, X _ _ (l93 _), ⟨rfl, rfl, rfl⟩, rfl, keys93 prog w _, fun _ => rfl⟩
noncomputable def textIs (x : Str) : Value → Bool
  | .str y _ => y == x
  | _ => false
theorem textIs_some {x : Str} {o : Option Value} (h : o.any (textIs x) = true) : ∃ u, o = some (.str x u) := by
  cases o with
  | none => cases h
  | some v =>
    cases v <;> first | cases h | skip
    rename_i y u
    exact ⟨u, by rw [eq_of_beq (show (y == x) = true from h)]⟩
/-- what escape gives for a sign -/
noncomputable def EscOk (c : Nat) (x : Str) : Prop := c < 128 ∧ ((x = ⟨#[c]⟩ ∧ ∀ prog w, findBy (intKind prog w).is (es93 w.params) (c : Int) = none) ∨ (x.length = 2 ∧ ∀ prog w, (findBy (intKind prog w).is (es93 w.params) (c : Int)).any (textIs x) = true))
theorem esc38 : EscOk 38 (Str.ofString "\\&") := ⟨by decide, .inr ⟨by decide +kernel, fun prog w => by kernel_rfl⟩⟩
theorem esc108 : EscOk 108 (Str.ofString "l") := ⟨by decide, .inl ⟨by decide +kernel, fun prog w => by kernel_rfl⟩⟩
theorem esc_call {w : World} {A : Around} {E : Value → Shared → Prop} {s : Shared} {Q : Value → Shared → Prop} {c : Nat} {x : Str} {t : Tok} (X : (hd.heap_1 w.params).In s.heap) (hh : A.handled = none) (he : EscOk c x)
    (h : ∀ h' t' tk, s.toks ≤ t' → (∀ b o, s.heap.get? b = some o → h'.get? b = some o) → Q (.str x t') { s with heap := h', toks := tk }) :
    wpAny (model PySem.Challenge.pw_ik0168_01 w) A (call (.builtin "str.translate") [.str ⟨#[c]⟩ t, .ref 93]) Q E s := by
  refine wpAny_call_entry F.slot_str_translate (typeIs_str _ _ _) F.entry_str_translate ?_ (F.args_str_translate_2 _ _)
  obtain ⟨hc, he⟩ := he
  rcases he with ⟨rfl, hv⟩ | ⟨hx, hv⟩
  · exact tr_keep hc rfl hh (map93 X _) (hv _ _) fun h' t' tk hle hk => ⟨_, rfl, h _ _ _ hle hk⟩
  · obtain ⟨u, hv⟩ := textIs_some (hv PySem.Challenge.pw_ik0168_01 w)
    exact tr_text hc hx (map93 X _) hv fun t' tk hle => ⟨_, rfl, h _ _ _ hle fun _ _ e => e⟩
theorem getm_translate {M : Model} {A : Around} {E : Value → Shared → Prop} {s : Shared} {x : Str} {t : Tok} {pl : Sem Bool} {Q : Value × List Value → Shared → Prop} (h : Q (.builtin "str.translate", [.str x t]) s) : wpAny M A (getMethod (.str x t) "translate" pl) Q E s := by
  with_reducible exact GM.of (.str x t) (typeIs_str _ _ _) F.slot_str_translate F.type_str_translate GM.noRef h
end

theorem news_keeps {h₀ h h' : Heap} {L : Addr} {news : Led} (N : News h₀ L h news) (k : ∀ b o, h.get? b = some o → h'.get? b = some o) : News h₀ L h' news := fun p hp => ⟨k _ _ (N p hp).1, (N p hp).2⟩
noncomputable def LoMark (_ : Nat) : Prop := True
theorem gen_lo {lo : Nat} {α : Type} {M : Model} {A : Around} {t : Sem α} {Q : α → Shared → Prop} {E : Value → Shared → Prop} {h : Heap} {g : Array GenState} {d : Drawn} {X : Nat} {os : OsState} (_ : LoMark lo) (h0 : lo ≤ X)
    (H : ∀ tk, lo ≤ tk → wpAny M A t Q E ⟨h, g, d, tk, os⟩) : wpAny M A t Q E ⟨h, g, d, X, os⟩ := H X h0

set_option maxHeartbeats 4000000 in
theorem c_esc (w : World) (p : Program) (loose : List Str) (mean : ExcName → Option Value) (mg mb : Str → Option Value) (news : Led) (c : Nat) (x : Str) (t1 : Tok) (he : EscOk c x) :
    ∀ (dp un : Nat) (cn : Str) (cs : Scope) (a : Addr) (ccd : Value) (cl : List (Str × Addr)) (outer : List Env) (A₀ : Around) (base h₀ : Heap) (L : Addr) (m : Str → Option Value) (s : Shared) (Q E : Value → Shared → Prop),
    Below A₀ base outer h₀ → Fr h₀ L s.heap m → (hd.heap_1 w.params).In h₀ → News h₀ L s.heap news → Top p loose mean mg mb h₀ → cs.kind = .function → dp ≤ 450 → un ≤ 4500 → 0 < s.toks →
    (∀ (t : Tok) (h' : Heap) (tk' : Nat), s.toks ≤ t → s.toks ≤ tk' → Fr h₀ L h' m → News h₀ L h' news → Q (.str x t) { s with heap := h', toks := tk' }) →
    wpAny (model PySem.Challenge.pw_ik0168_01 w) (ktrTop dp un (some []) cn cs L a ccd cl outer) (call (.ref 103) [.str ⟨#[c]⟩ t1]) Q E s := by
  intro dp un cn cs a ccd cl outer A₀ base h₀ L m s Q E hB hF hK hN hT hk hd hu ht hret
  obtain ⟨kd, nms, ig, ic, mo⟩ := cs
  dsimp only at hk
  subst hk
  refine around_mono (d := 450) (u := 4500) hd hu ?_
  refine tok_keep ?_
  have mk : LoMark s.toks := trivial
  repeat' ((first | (k_unfold; (try dsimp only)) | (k_end; wrow_close) | ((with_reducible show wpAny _ _ (call (Value.builtin "str.translate") _ _) _ _ _); (k_here; k_dflt (refine' esc_call ?kX rfl (by assumption) ?_; (case kX => exact Frag.In.keeps (by assumption) (Fr.keep (by k_asm)))); intro _ _ _ hty ky; (try dsimp only at hty); rename Fr _ _ _ _ => FZ; have FY := FZ.keeps ky; rename News _ _ _ _ => NZ; have NY := news_keeps NZ ky; clear FZ NZ; (try dsimp only))) | ((with_reducible show wpAny _ _ (getMethod (Value.str _ _) _ _) _ _ _); (k_here; with_reducible refine getm_translate ?_)) | ((with_reducible show wpAny _ _ (execs _ _) _ _ _); (k_here; (fail_if_success (fail_if_success k_gentoks)); (refine gen_lo (by assumption) (by first | assumption | ((try dsimp only); (repeat first | assumption | refine Nat.le_add_right_of_le ?_); done) | omega | exact Nat.le_trans (by assumption) (Nat.le_add_right _ _)) ?_); intro _ _)) | walk1 | (dsimp only; first | ((with_reducible show wpAny _ _ (call (Value.builtin "str.translate") _ _) _ _ _); (k_here; k_dflt (refine' esc_call ?kX rfl (by assumption) ?_; (case kX => exact Frag.In.keeps (by assumption) (Fr.keep (by k_asm)))); intro _ _ _ hty ky; (try dsimp only at hty); rename Fr _ _ _ _ => FZ; have FY := FZ.keeps ky; rename News _ _ _ _ => NZ; have NY := news_keeps NZ ky; clear FZ NZ; (try dsimp only))) | ((with_reducible show wpAny _ _ (getMethod (Value.str _ _) _ _) _ _ _); (k_here; with_reducible refine getm_translate ?_)) | ((with_reducible show wpAny _ _ (execs _ _) _ _ _); (k_here; (fail_if_success (fail_if_success k_gentoks)); (refine gen_lo (by assumption) (by first | assumption | ((try dsimp only); (repeat first | assumption | refine Nat.le_add_right_of_le ?_); done) | omega | exact Nat.le_trans (by assumption) (Nat.le_add_right _ _)) ?_); intro _ _)) | walk1)))
  exact hret _ _ _ (by omega) (by assumption) (by assumption) (by assumption)
end
section
set_option maxHeartbeats 8000000 in
theorem sub1 (w : World) {fr : Option (List Env)} {Q E : Value → Shared → Prop} {s : Shared} {f : Addr} {t : Tok} {od : Option Addr} {fd : FuncData} {sl : Array (Option Value)} (hX : (hd.heap_1 w.params).In s.heap) (hf : s.heap.get? f = some ⟨.type "function", od, .func fd, sl⟩)
    (X9 : ∀ {t' : Tok} {tk : Nat} {h' : Heap} {nw : List (Addr × Obj)}, X.Mem s.heap h' [] nw → Q (.str ⟨#[60, 62, 34]⟩ t') { s with heap := h', toks := tk }) :
    wpAny (model PySem.Challenge.pw_ik0168_01 w) ⟨none, 480, fr, some [], 4800⟩ (call (.builtin "re.Pattern.sub") [.ref 91, .ref f, .str ⟨#[60, 62, 34]⟩ t]) Q E s := by
  x_run
set_option maxHeartbeats 8000000 in
theorem sub2 (w : World) {fr : Option (List Env)} {Q E : Value → Shared → Prop} {s : Shared} {f : Addr} {t : Tok} {od : Option Addr} {fd : FuncData} {sl : Array (Option Value)} (hX : (hd.heap_1 w.params).In s.heap) (hf : s.heap.get? f = some ⟨.type "function", od, .func fd, sl⟩)
    (X9 : ∀ {t' : Tok} {tk : Nat} {h' : Heap} {nw : List (Addr × Obj)}, X.Mem s.heap h' [] nw → Q (.str ⟨#[13, 10, 9]⟩ t') { s with heap := h', toks := tk }) :
    wpAny (model PySem.Challenge.pw_ik0168_01 w) ⟨none, 480, fr, some [], 4800⟩ (call (.builtin "re.Pattern.sub") [.ref 91, .ref f, .str ⟨#[13, 10, 9]⟩ t]) Q E s := by
  x_run
/-- what is asked of the signs of a set -/
noncomputable def SetOk (y : Str) : Prop := y = ⟨#[60, 62, 34]⟩ ∨ y = ⟨#[13, 10, 9]⟩
theorem sub_set (w : World) {fr : Option (List Env)} {Q E : Value → Shared → Prop} {s : Shared} {f : Addr} {t : Tok} {y : Str} {h₀ : Heap} {L : Addr} {m : Str → Option Value} {news : Led} {od : Option Addr} {fd : FuncData} {sl : Array (Option Value)} (hy : SetOk y) (hK : (hd.heap_1 w.params).In h₀) (hF : Fr h₀ L s.heap m) (hN : News h₀ L s.heap news)
    (hf : (f, (⟨.type "function", od, .func fd, sl⟩ : Obj)) ∈ news)
    (hret : ∀ t' tk h', s.toks ≤ tk → Fr h₀ L h' m → News h₀ L h' news → Q (.str y t') { s with heap := h', toks := tk }) :
    wpAny (model PySem.Challenge.pw_ik0168_01 w) ⟨none, 480, fr, some [], 4800⟩ (call (.builtin "re.Pattern.sub") [.ref 91, .ref f, .str y t]) Q E s := by
  refine tok_keep ?_
  have X9 : ∀ {t' : Tok} {tk : Nat} {h' : Heap} {nw : List (Addr × Obj)}, X.Mem s.heap h' [] nw → s.toks ≤ tk → Q (.str y t') { s with heap := h', toks := tk } := fun D hle => by
    have Z := x_fin hF hN D
    exact hret _ _ _ hle Z.1 (news_sub Z.2 fun p hp => List.mem_append_right _ hp)
  rcases hy with rfl | rfl
  · exact sub1 w (hK.keeps hF.keep) (hN _ hf).1 fun D hle => X9 D hle
  · exact sub2 w (hK.keeps hF.keep) (hN _ hf).1 fun D hle => X9 D hle
theorem plainAttrs_pat : PlainAttrs "re.Pattern" :=
  ⟨⟨"object.__getattribute__", by rw [typeLookup_type, builtinLookup_eq_fast]; kernel_rfl, by decide +kernel⟩, by rw [typeLookup_type, builtinLookup_eq_fast]; kernel_rfl⟩
theorem slot_pat_sub : Slot "re.Pattern" "sub" "re.Pattern.sub" :=
  .of (owner := "re.Pattern") (n := "sub") (by rw [typeLookup_type, builtinLookup_eq_fast]; kernel_rfl) (by decide +kernel) (by decide +kernel) (by decide +kernel)
    (by first | exact .inl (by decide +kernel) | exact .inr (by decide +kernel)) (by rw [isSubtype_type]; kernel_rfl)
theorem type_pat_sub : typeOf (.builtin "re.Pattern.sub") = pure (.type "method_descriptor") := by show builtinType _ = _; rw [builtinType_eq_fast]; kernel_rfl
noncomputable def dt91 (p : Params) : Data := match (hd.heap_1 p).lookup 91 with | some o => o.data | none => .plain
theorem l91 (p : Params) : (hd.heap_1 p).lookup 91 = some ⟨.type "re.Pattern", none, dt91 p, #[]⟩ := by kernel_rfl
theorem getm_sub {M : Model} {A : Around} {E : Value → Shared → Prop} {s : Shared} {pl : Sem Bool} {Q : Value × List Value → Shared → Prop} {p : Params} (X : (hd.heap_1 p).In s.heap) (h : Q (.builtin "re.Pattern.sub", [.ref 91]) s) : wpAny M A (getMethod (.ref 91) "sub" pl) Q E s := by
  have ho := X _ _ (l91 p)
  exact getMethod_builtin (v := .ref 91) ⟨_, ho, rfl⟩ plainAttrs_pat slot_pat_sub type_pat_sub (fun a ea => by injection ea with ea; subst ea; exact ⟨_, ho, rfl⟩) h
end
section
section
variable {prog : Program} {w : World} {A : Around} {E : Value → Shared → Prop} {s : Shared} {h₀ : Heap} {L a b : Addr} {news : Led} {its : Array Value} {c : Nat}
theorem tr_truthy {Q : Bool → Shared → Prop} (N : News h₀ L s.heap ((b, appO a) :: (a, W.listOf its c) :: news)) (hz : its.size ≤ 1000) (hn : 0 < its.size) (h : Q true { s with toks := s.toks + 1 + 1 }) : wpAny (model prog w) A (truthy (.ref a)) Q E s :=
  wpAny_truthy_list (items := its) ⟨_, (N _ (.tail _ (.head _))).1, rfl, _, rfl⟩ (by omega) (by
    have e : (!its.isEmpty) = true := by
      have : its.isEmpty = false := by
        rw [Array.isEmpty_eq_false_iff]
        intro e
        subst e
        exact absurd hn (by decide)
      rw [this]; rfl
    rw [e]
    exact h)
theorem tr_last {value slice : Expr} {u : Tok} {v : Value} {Q : Value → Shared → Prop} (N : News h₀ L s.heap ((b, appO a) :: (a, W.listOf its c) :: news)) (hn : 0 < its.size) (hx : its.toList[its.size - 1]? = some v) (h : Q v s)
    (hs : subscripted slice false (.ref a) (.int (-1) u) = operate [.ref a, .int (-1) u] (getItem (.ref a) (.int (-1) u)) := by with_unfolding_all rfl) :
    wpAny (model prog w) A (subscriptTail value slice (.ref a) (.int (-1) u)) Q E s :=
  kde_neg (l := a) (vs := its.toList) (j := its.size - 1) ⟨_, (N _ (.tail _ (.head _))).1, rfl, _, rfl⟩ (by decide) (by decide) (by
    unfold seqIndex?
    rw [Array.length_toList]
    simp
    omega) hx h hs
end
theorem tr_isnot {M : Model} {A : Around} {E : Value → Shared → Prop} {s : Shared} {x y : Str} {t u : Nat} {Q : Value → Shared → Prop} (hxy : x ≠ y) (hu : 0 < u) (hut : u < t) (h : Q (.bool true) s) : wpAny M A (compareOp .IsNot (.str x t) (.str y u)) Q E s := by
  have e : (x == y) = false := beq_eq_false_iff_ne.mpr hxy
  show wpAny _ _ (isSame (.str x t) (.str y u) >>= fun b => pure (Value.bool (!b))) _ _ _
  unfold isSame isSame.created
  have e1 : (t == 0 || u == 0) = false := by simp; omega
  have e2 : (t == u) = false := by simp; omega
  simp only [e, e1, e2]
  exact wpAny_bind (wpAny_pure (wpAny_pure h))
theorem tr_more {its : Array Value} {ps : List Str} {k : Nat} {x : Str} {t : Tok} (h : StrsAre its.toList (ps.take k)) (hx : ps[k]? = some x) : StrsAre (its.push (.str x t)).toList (ps.take (k + 1)) := by
  rw [Array.toList_push, List.take_add_one, hx]
  exact h.append' (.cons x t .nil)
theorem tr_fact {P y : Str} {k c : Nat} {hk : k < P.length} (hy : y = ⟨#[c]⟩) (h : P.cps[k]'hk ≠ c) : ((⟨#[P.cps[k]'hk]⟩ : Str) == y) = false := by
  subst hy
  rw [beq_eq_false_iff_ne]
  intro e
  exact h (by have := congrArg Str.cps e; simpa using this)
theorem tr_fact1 {P y : Str} {k c : Nat} {hk : k < P.length} (hy : y = ⟨#[c]⟩) (h : P.cps[k]'hk = c) : ((⟨#[P.cps[k]'hk]⟩ : Str) == y) = true := by
  rw [hy, h]; exact beq_self_eq_true _
/-- the inside of a set -/
structure BrOk (P : Str) (i e : Nat) (y : Str) : Prop where
  lt : i < e
  le : e < P.length
  close : P.cps[e]? = some 93
  ins : ∀ t, i ≤ t → t < e → ∃ c, P.cps[t]? = some c ∧ c ≠ 93
  fst : ∃ c, P.cps[i]? = some c ∧ c ≠ 33
  cut : Txt.slice P (some (i : Int)) (some (e : Int)) = y
theorem setOk_facts {y : Str} (h : SetOk y) : y.length ≤ 10 ∧ 45 ∉ y.cps.toList ∧ 92 ∉ y.cps.toList ∧ 1 ≤ y.length ∧ (y == Str.ofString "!") = false ∧ (Txt.item y 0 == Str.ofString "!") = false ∧ ([Str.ofString "^", Str.ofString "["].any fun x => x == Txt.item y 0) = false := by
  rcases h with rfl | rfl <;> exact ⟨by decide, by decide, by decide, by decide, by decide +kernel, by decide +kernel, by decide +kernel⟩
/-- what is asked of a pattern: part q begins at K q -/
structure TrOk (P : Str) (ps : List Str) (K : Nat → Nat) (S : Str → Prop) : Prop where
  k0 : K 0 = 0
  kn : K ps.length = P.length
  at_ : ∀ q, q < ps.length → ∃ (h : K q < P.length), (P.cps[K q]'h = 42 ∧ K (q + 1) = K q + 1 ∧ ps[q]? = some (Str.ofString "*") ∧ (q = 0 ∨ 0 < q ∧ ∃ x, ps[q - 1]? = some x ∧ x ≠ Str.ofString "*")) ∨
    (P.cps[K q]'h ≠ 42 ∧ P.cps[K q]'h ≠ 63 ∧ P.cps[K q]'h ≠ 91 ∧ K (q + 1) = K q + 1 ∧ ∃ x, ps[q]? = some x ∧ EscOk (P.cps[K q]'h) x) ∨
    (P.cps[K q]'h = 91 ∧ ∃ e y, BrOk P (K q + 1) e y ∧ K (q + 1) = e + 1 ∧ S y ∧ ps[q]? = some (Str.ofString "[" ++ y ++ Str.ofString "]"))
/-- the table of the nested code -/
noncomputable def TabT (tb : Array Value) : Prop := tb = #[] ∨ ∃ c' : Addr, tb = #[rawInt 136, rawInt 46, .ref c']
inductive TrJ (P : Str) (ps : List Str) (K : Nat → Nat) (t1 : Tok) (t2 : Nat) (t3 : Tok) (a b : Addr) (news : Led) (j : Nat) (m : Str → Option Value) (led : Led) : Prop
  | mk (q : Nat) (its : Array Value) (c : Nat) (ti tn : Tok) (tb : Array Value) (e1 : j = P.length - K q) (e2 : q ≤ ps.length) (e3 : TabT tb) (e4 : led = (b, appO a) :: (a, W.listOf its c) :: (105, tabObj tb) :: news) (e5 : StrsAre its.toList (ps.take q)) (e6 : (q = 0 ∨ ∃ (x : Str) (u : Nat), its.toList[its.size - 1]? = some (.str x u) ∧ (x = Str.ofString "*" ∨ t2 < u))) (e7 : m (Str.ofString "pat") = some (.str P t1)) (e8 : m (Str.ofString "STAR") = some (.str (Str.ofString "*") t2)) (e9 : m (Str.ofString "QUESTION_MARK") = some (.str (Str.ofString "?") t3)) (e10 : m (Str.ofString "res") = some (.ref a)) (e11 : m (Str.ofString "add") = some (.ref b)) (e12 : m (Str.ofString "i") = some (.int (K q : Int) ti)) (e13 : m (Str.ofString "n") = some (.int (P.length : Int) tn)) : TrJ P ps K t1 t2 t3 a b news j m led
theorem rep_none {y z : Str} (h : 92 ∉ y.cps.toList) : Txt.replace y (Str.ofString "\\") z = y := by
  rw [show Str.ofString "\\" = ⟨#[92]⟩ from by decide +kernel, replace_putS, putS_free (decide_eq_false h)]
theorem item_some {P : Str} {k c : Nat} (h : P.cps[k]? = some c) : Txt.item P (k : Int) = ⟨#[c]⟩ := by
  obtain ⟨hk, e⟩ := Array.getElem?_eq_some_iff.mp h
  rw [item_nat P hk, e]
theorem tr_fact2 {P y : Str} {k c d : Nat} (hy : y = ⟨#[d]⟩) (h : P.cps[k]? = some c) (hne : c ≠ d) : (Txt.item P (k : Int) == y) = false := by
  rw [item_some h, hy, beq_eq_false_iff_ne]
  intro e
  exact hne (by have := congrArg Str.cps e; simpa using this)
theorem tr_fact3 {P y : Str} {k d : Nat} (hy : y = ⟨#[d]⟩) (h : P.cps[k]? = some d) : (Txt.item P (k : Int) == y) = true := by
  rw [item_some h, hy]; exact beq_self_eq_true _
noncomputable def TrJ2 (P : Str) (i e : Nat) (t1 : Tok) (t2 : Nat) (t3 : Tok) (a b : Addr) (news : Led) (its : Array Value) (c : Nat) (tb : Array Value) (n : Nat) (m : Str → Option Value) (led : Led) : Prop :=
  ∃ (j : Nat) (ti tj tn : Tok), i ≤ j ∧ j ≤ e ∧ n = e - j ∧ led = (b, appO a) :: (a, W.listOf its c) :: (105, tabObj tb) :: news ∧
    m (Str.ofString "pat") = some (.str P t1) ∧ m (Str.ofString "STAR") = some (.str (Str.ofString "*") t2) ∧ m (Str.ofString "QUESTION_MARK") = some (.str (Str.ofString "?") t3) ∧
    m (Str.ofString "res") = some (.ref a) ∧ m (Str.ofString "add") = some (.ref b) ∧ m (Str.ofString "i") = some (.int (i : Int) ti) ∧ m (Str.ofString "n") = some (.int (P.length : Int) tn) ∧ m (Str.ofString "j") = some (.int (j : Int) tj)
/-- what a lambda of a set leaves -/
inductive LamR (h₀ : Heap) (L : Addr) (m : Str → Option Value) (its : Array Value) (c : Nat) (a b : Addr) (news : Led) (s : Shared) (v : Value) (s' : Shared) : Prop
  | mk (f : Addr) (od : Option Addr) (fd : FuncData) (sl : Array (Option Value)) (tb : Array Value) (h' : Heap) (tk : Nat) (e1 : v = .ref f) (e2 : s' = { s with heap := h', toks := tk }) (e3 : s.toks ≤ tk) (e4 : TabT tb) (e5 : Fr h₀ L h' m) (e6 : News h₀ L h' ((f, ⟨.type "function", od, .func fd, sl⟩) :: (b, appO a) :: (a, W.listOf its c) :: (105, tabObj tb) :: news)) : LamR h₀ L m its c a b news s v s'
theorem lam_mono {M : Model} {A : Around} {t : Sem Value} {Q : Value → Shared → Prop} {s : Shared} {h₀ : Heap} {L a b : Addr} {m : Str → Option Value} {its tb : Array Value} {c : Nat} {news : Led} (_ : Fr h₀ L s.heap m) (_ : News h₀ L s.heap ((b, appO a) :: (a, W.listOf its c) :: (105, tabObj tb) :: news))
    (h : wpAny M A t (LamR h₀ L m its c a b news s) (fun _ _ => False) s) (r : ∀ v s', LamR h₀ L m its c a b news s v s' → Q v s') : wpAny M A t Q (fun _ _ => False) s := wpAny_mono h r (fun _ _ h => h)
inductive TrR (ps : List Str) (news : Led) (led : Led) (v : Value) : Prop
  | mk (a : Addr) (its : Array Value) (c : Nat) (tb : Array Value) (e1 : v = .ref a) (e2 : led = (a, W.listOf its c) :: (105, tabObj tb) :: news) (e3 : TabT tb) (e4 : @Ne Nat 105 a) (e5 : NeAll a news) (e6 : StrsAre its.toList ps) : TrR ps news led v
theorem map_step {m : Str → Option Value} {x : Str} {v : Value} {r : Str → Option Value} (h : m x = some v) (hr : m = r) : m = fun y => if y = x then some v else r y := by
  funext y
  by_cases e : y = x
  · subst e; rw [if_pos rfl]; exact h
  · rw [if_neg e, hr]
theorem last_push {its : Array Value} {v : Value} : (its.push v).toList[(its.push v).size - 1]? = some v := by simp
theorem c_tr (w : World) (p : Program) (loose : List Str) (mean : ExcName → Option Value) (mg mb : Str → Option Value) (news : Led) (P : Str) (ps : List Str) (K : Nat → Nat) (hP : TrOk P ps K SetOk) (hl : P.length ≤ 1000) (hpl : ps.length ≤ 1000) (t1 : Tok) (t2 : Nat) (t3 : Tok) (h2 : 0 < t2) (tb₀ : Array Value) (htb : TabT tb₀) (hne : NeAll 105 news) :
    ∀ (dp un : Nat) (cn : Str) (cs : Scope) (a : Addr) (ccd : Value) (cl : List (Str × Addr)) (outer : List Env) (A₀ : Around) (base h₀ : Heap) (L : Addr) (m : Str → Option Value) (s : Shared) (Q E : Value → Shared → Prop),
    Below A₀ base outer h₀ → Fr h₀ L s.heap m → (hd.heap_1 w.params).In h₀ → News h₀ L s.heap ((105, tabObj tb₀) :: news) → Top p loose mean mg mb h₀ → cs.kind = .function → dp ≤ 400 → un ≤ 4000 → t2 < s.toks → CodeHd h₀ 109 105 →
    (∀ (v : Value) (led : Led) (h' : Heap) (tk' : Nat), s.toks ≤ tk' → Fr h₀ L h' m → News h₀ L h' led → TrR ps news led v → Q v { s with heap := h', toks := tk' }) →
    wpAny (model PySem.Challenge.pw_ik0168_01 w) (ktrTop dp un (some []) cn cs L a ccd cl outer) (call (.ref 110) [.str P t1, .str (Str.ofString "*") t2, .str (Str.ofString "?") t3]) Q E s := by
  intro dp un cn cs a ccd cl outer A₀ base h₀ L m s Q E hB hF hK hN hT hk hd hu ht2 hCd hret
  obtain ⟨kd, nms, ig, ico, mo⟩ := cs
  dsimp only at hk
  subst hk
  refine around_mono (d := 400) (u := 4000) hd hu ?_
  have ht : 0 < s.toks := by omega
  refine tok_keep ?_
  have mk : LoMark (t2 + 1) := trivial
  repeat' ((fail_if_success (with_reducible show wpAny _ _ (exec (Stmt.While _ _ _ _) _) _ _ _)); (first | (k_unfold; (try dsimp only)) | (k_end; wrow_close) | ((with_reducible show wpAny _ _ (getAttr (Value.ref _) _ _) _ _ _); (k_here; k_dflt (refine' around_mono ?kd ?ku (app_attr _ ?kF ?kN ?_); (case kd => exact Nat.le_of_ble_eq_true rfl); (case ku => exact Nat.le_of_ble_eq_true rfl); (case kF => k_asm); (case kN => k_asm)); intro _ _ _ _ _ _ _ tx; (try dsimp only at tx ⊢))) | ((with_reducible show wpAny _ _ (execs _ _) _ _ _); (k_here; (fail_if_success (fail_if_success k_gentoks)); (refine gen_lo (by assumption) (by first | assumption | ((try dsimp only); (repeat first | assumption | refine Nat.le_add_right_of_le ?_); done) | omega | (dsimp only; omega) | exact Nat.le_trans (by (try dsimp only); omega) (Nat.le_add_right _ _)) ?_); intro _ _)) | walk1 | (dsimp only; first | ((with_reducible show wpAny _ _ (getAttr (Value.ref _) _ _) _ _ _); (k_here; k_dflt (refine' around_mono ?kd ?ku (app_attr _ ?kF ?kN ?_); (case kd => exact Nat.le_of_ble_eq_true rfl); (case ku => exact Nat.le_of_ble_eq_true rfl); (case kF => k_asm); (case kN => k_asm)); intro _ _ _ _ _ _ _ tx; (try dsimp only at tx ⊢))) | ((with_reducible show wpAny _ _ (execs _ _) _ _ _); (k_here; (fail_if_success (fail_if_success k_gentoks)); (refine gen_lo (by assumption) (by first | assumption | ((try dsimp only); (repeat first | assumption | refine Nat.le_add_right_of_le ?_); done) | omega | (dsimp only; omega) | exact Nat.le_trans (by (try dsimp only); omega) (Nat.le_add_right _ _)) ?_); intro _ _)) | walk1)))
  refine wpAny_mono (E := fun _ _ => False) ?_ (fun _ _ h => h) (fun _ _ h => h.elim)
  rename Fr _ _ _ (fun _ => _) => FX
  rename News _ _ _ ((_, _) :: (_, appO _) :: _) => NX
  rename 105 < _ ∧ AllLt _ news => la
  rename NeAll _ ((105, tabObj tb₀) :: news) => nb
  have nb1 : @Ne Nat 105 _ := nb.1
  have la1 : @Ne Nat 105 _ := Nat.ne_of_lt la.1
  rename Fr h₀ L _ m => FG
  have hCg := hCd.keeps FG.keep
  have naT : ∀ tb, NeAll _ ((105, tabObj tb) :: news) := fun tb => ⟨Nat.ne_of_lt la.1, neAll_of fun p hp => Nat.ne_of_lt (allLt_mem2 la.2 p hp)⟩
  refine while_led (TrJ P ps K t1 t2 t3 _ _ news) FX (news_sub NX (fun q h => .tail _ h)) ⟨0, #[], _, _, _, tb₀, rfl, Nat.zero_le _, htb, rfl, .nil, .inl rfl, rfl, rfl, rfl, rfl, rfl, by rw [hP.k0]; rfl, rfl⟩ ?_
  rintro j m1 led h1 tk1 htk1 F1 N1 ⟨q, its, c, ti, tn, tb, rfl, hq, htb, rfl, hs, hla, m1, m2, m3, m4, m5, m6, m7⟩
  rw [map_step m6 (map_step m7 (map_step m5 (map_step m4 (map_step m1 (map_step m2 (map_step m3 rfl))))))] at F1
  clear m1 m2 m3 m4 m5 m6 m7 FX NX
  dsimp only at htk1
  have na := naT tb
  have htk2 : t2 + 1 ≤ tk1 := by omega
  have hz0 : its.size = min q ps.length := by
    have := hs.len_eq
    rw [Array.length_toList, List.length_take] at this
    exact this
  have hz : its.size ≤ 1000 := by omega
  by_cases hql : q < ps.length
  · obtain ⟨hkl, hat⟩ := hP.at_ q hql
    have ic := item_nat P hkl
    have f1 : decide ((K q : Int) < (P.length : Int)) = true := by simpa using hkl
    rcases hat with ⟨hc, hn, hx, h0⟩ | ⟨hc1, hc2, hc3, hn, x, hx, he⟩ | ⟨hc, e, y, hb, hn, hS, hx⟩
    · have f2 := tr_fact1 (y := Str.ofString "*") (by decide +kernel) hc
      have hn' : P.length - K (q + 1) < P.length - K q := by omega
      have hn2 : (K (q + 1) : Int) = (K q : Int) + 1 := by omega
      repeat' ((fail_if_success (with_reducible show wpAny _ _ (exec (Stmt.If _ _ _ _) _) _ _ _)); (fail_if_success (with_reducible show WhileEnd _ _ _ _ _ _ _ _)); (first | (k_unfold; (try dsimp only)) | (k_end; wrow_close) | walk1 | (dsimp only; walk1)))
      rename Fr _ _ _ (fun _ => _) => FZ
      rw [ic] at FZ
      rcases h0 with rfl | ⟨en, x, hx1, hx2⟩
      · have ei : its = #[] := Array.eq_empty_of_size_eq_zero (by omega)
        subst ei
        repeat' ((fail_if_success (with_reducible show WhileEnd _ _ _ _ _ _ _ _)); (first | (k_unfold; (try dsimp only)) | (k_end; wrow_close) | ((with_reducible show AppAt _ _ _ ∧ _); k_dflt (refine' ⟨News.get ?kN (.head _), ?_⟩; (case kN => k_asm)); (try dsimp only [List.nil_append, List.cons_append])) | ((with_reducible show wpAny _ _ (callWith _ (Value.ref _) _ _ _) _ _ _); (k_here; k_dflt (refine' app_callWith ?kN ?_; (case kN => k_asm); k_whole); (try dsimp only))) | ((with_reducible show wpAny _ _ (call (Value.ref _) _ _) _ _ _); (k_here; k_dflt (refine' app_call _ ?kF ?kN ?k1 ?k2 ?k3 ?_; (case kF => k_asm); (case kN => k_asm); (case k1 => assumption); (case k2 => assumption); (case k3 => assumption)); intro _ _ _ _; (try dsimp only))) | ((with_reducible show wpAny _ _ (execs _ _) _ _ _); (k_here; (fail_if_success (fail_if_success k_gentoks)); (refine gen_lo (by assumption) (by first | assumption | ((try dsimp only); (repeat first | assumption | refine Nat.le_add_right_of_le ?_); done) | omega | (dsimp only; omega) | exact Nat.le_trans (by (try dsimp only); omega) (Nat.le_add_right _ _)) ?_); intro _ _)) | ((with_reducible show wpAny _ _ (exec (Stmt.If _ _ _ _) _) _ _ _); (k_here; (try ((first | refine wp_enter (by assumption) ?_ | refine wp_enterC (by assumption) ?_); intro _ _ _)); k_fold)) | walk1 | (dsimp only; first | ((with_reducible show AppAt _ _ _ ∧ _); k_dflt (refine' ⟨News.get ?kN (.head _), ?_⟩; (case kN => k_asm)); (try dsimp only [List.nil_append, List.cons_append])) | ((with_reducible show wpAny _ _ (callWith _ (Value.ref _) _ _ _) _ _ _); (k_here; k_dflt (refine' app_callWith ?kN ?_; (case kN => k_asm); k_whole); (try dsimp only))) | ((with_reducible show wpAny _ _ (call (Value.ref _) _ _) _ _ _); (k_here; k_dflt (refine' app_call _ ?kF ?kN ?k1 ?k2 ?k3 ?_; (case kF => k_asm); (case kN => k_asm); (case k1 => assumption); (case k2 => assumption); (case k3 => assumption)); intro _ _ _ _; (try dsimp only))) | ((with_reducible show wpAny _ _ (execs _ _) _ _ _); (k_here; (fail_if_success (fail_if_success k_gentoks)); (refine gen_lo (by assumption) (by first | assumption | ((try dsimp only); (repeat first | assumption | refine Nat.le_add_right_of_le ?_); done) | omega | (dsimp only; omega) | exact Nat.le_trans (by (try dsimp only); omega) (Nat.le_add_right _ _)) ?_); intro _ _)) | ((with_reducible show wpAny _ _ (exec (Stmt.If _ _ _ _) _) _ _ _); (k_here; (try ((first | refine wp_enter (by assumption) ?_ | refine wp_enterC (by assumption) ?_); intro _ _ _)); k_fold)) | walk1)))
        (repeat (first | k_unfold | dsimp only)); dsimp only [WhileEnd]
        rename Fr _ _ _ (fun _ => _) => FZ
        rename News _ _ _ _ => NZ
        exact ⟨_, _, _, _, _, rfl, FZ, NZ, hn', ⟨1, _, _, _, _, tb, rfl, hql, htb, rfl, tr_more (k := 0) hs hx, .inr ⟨_, _, last_push, .inl rfl⟩, rfl, rfl, rfl, rfl, rfl, by rw [hn2]; rfl, rfl⟩⟩
      · have es : its.size = q := by omega
        have hx3 : (ps.take q)[q - 1]? = some x := by rw [List.getElem?_take, if_pos (by omega)]; exact hx1
        obtain ⟨u, hu⟩ := hs.at hx3
        have hx4 : its.toList[its.size - 1]? = some (.str x u) := by rw [es]; exact hu
        have en2 : 0 < its.size := by omega
        have hu2 : t2 < u := by
          rcases hla with h | ⟨y, u', hy, h⟩
          · omega
          · rw [hx4] at hy
            injection hy with hy
            injection hy with e1 e2
            subst e1 e2
            rcases h with h | h
            · exact absurd h hx2
            · exact h
        repeat' ((fail_if_success (with_reducible show WhileEnd _ _ _ _ _ _ _ _)); (first | (k_unfold; (try dsimp only)) | (k_end; wrow_close) | ((with_reducible show wpAny _ _ (subscriptTail _ _ (Value.ref _) (Value.int _ _)) _ _ _); (k_here; k_dflt (refine' tr_last ?kN (by assumption) (by assumption) ?_ ?hs; (case kN => k_asm); (case hs => with_unfolding_all rfl)); (try dsimp only))) | ((with_reducible show wpAny _ _ (truthy (Value.ref _)) _ _ _); (k_here; k_dflt (refine' tr_truthy ?kN (by assumption) (by assumption) ?_; (case kN => k_asm)); (try dsimp only))) | ((with_reducible show wpAny _ _ (compareOp CmpOp.IsNot _ _) _ _ _); (k_here; refine tr_isnot (by assumption) (by assumption) (by assumption) ?_)) | ((with_reducible show AppAt _ _ _ ∧ _); k_dflt (refine' ⟨News.get ?kN (.head _), ?_⟩; (case kN => k_asm)); (try dsimp only [List.nil_append, List.cons_append])) | ((with_reducible show wpAny _ _ (callWith _ (Value.ref _) _ _ _) _ _ _); (k_here; k_dflt (refine' app_callWith ?kN ?_; (case kN => k_asm); k_whole); (try dsimp only))) | ((with_reducible show wpAny _ _ (call (Value.ref _) _ _) _ _ _); (k_here; k_dflt (refine' app_call _ ?kF ?kN ?k1 ?k2 ?k3 ?_; (case kF => k_asm); (case kN => k_asm); (case k1 => assumption); (case k2 => assumption); (case k3 => assumption)); intro _ _ _ _; (try dsimp only))) | ((with_reducible show wpAny _ _ (execs _ _) _ _ _); (k_here; (fail_if_success (fail_if_success k_gentoks)); (refine gen_lo (by assumption) (by first | assumption | ((try dsimp only); (repeat first | assumption | refine Nat.le_add_right_of_le ?_); done) | omega | (dsimp only; omega) | exact Nat.le_trans (by (try dsimp only); omega) (Nat.le_add_right _ _)) ?_); intro _ _)) | ((with_reducible show wpAny _ _ (exec (Stmt.If _ _ _ _) _) _ _ _); (k_here; (try ((first | refine wp_enter (by assumption) ?_ | refine wp_enterC (by assumption) ?_); intro _ _ _)); k_fold)) | walk1 | (dsimp only; first | ((with_reducible show wpAny _ _ (subscriptTail _ _ (Value.ref _) (Value.int _ _)) _ _ _); (k_here; k_dflt (refine' tr_last ?kN (by assumption) (by assumption) ?_ ?hs; (case kN => k_asm); (case hs => with_unfolding_all rfl)); (try dsimp only))) | ((with_reducible show wpAny _ _ (truthy (Value.ref _)) _ _ _); (k_here; k_dflt (refine' tr_truthy ?kN (by assumption) (by assumption) ?_; (case kN => k_asm)); (try dsimp only))) | ((with_reducible show wpAny _ _ (compareOp CmpOp.IsNot _ _) _ _ _); (k_here; refine tr_isnot (by assumption) (by assumption) (by assumption) ?_)) | ((with_reducible show AppAt _ _ _ ∧ _); k_dflt (refine' ⟨News.get ?kN (.head _), ?_⟩; (case kN => k_asm)); (try dsimp only [List.nil_append, List.cons_append])) | ((with_reducible show wpAny _ _ (callWith _ (Value.ref _) _ _ _) _ _ _); (k_here; k_dflt (refine' app_callWith ?kN ?_; (case kN => k_asm); k_whole); (try dsimp only))) | ((with_reducible show wpAny _ _ (call (Value.ref _) _ _) _ _ _); (k_here; k_dflt (refine' app_call _ ?kF ?kN ?k1 ?k2 ?k3 ?_; (case kF => k_asm); (case kN => k_asm); (case k1 => assumption); (case k2 => assumption); (case k3 => assumption)); intro _ _ _ _; (try dsimp only))) | ((with_reducible show wpAny _ _ (execs _ _) _ _ _); (k_here; (fail_if_success (fail_if_success k_gentoks)); (refine gen_lo (by assumption) (by first | assumption | ((try dsimp only); (repeat first | assumption | refine Nat.le_add_right_of_le ?_); done) | omega | (dsimp only; omega) | exact Nat.le_trans (by (try dsimp only); omega) (Nat.le_add_right _ _)) ?_); intro _ _)) | ((with_reducible show wpAny _ _ (exec (Stmt.If _ _ _ _) _) _ _ _); (k_here; (try ((first | refine wp_enter (by assumption) ?_ | refine wp_enterC (by assumption) ?_); intro _ _ _)); k_fold)) | walk1)))
        (repeat (first | k_unfold | dsimp only)); dsimp only [WhileEnd]
        rename Fr _ _ _ (fun _ => _) => FZ
        rename News _ _ _ _ => NZ
        exact ⟨_, _, _, _, _, rfl, FZ, NZ, hn', ⟨q + 1, _, _, _, _, tb, rfl, hql, htb, rfl, tr_more hs hx, .inr ⟨_, _, last_push, .inl rfl⟩, rfl, rfl, rfl, rfl, rfl, by rw [hn2]; rfl, rfl⟩⟩
    · have f2 := tr_fact (y := Str.ofString "*") (by decide +kernel) hc1
      have f3 := tr_fact (y := Str.ofString "?") (by decide +kernel) hc2
      have f4 := tr_fact (y := Str.ofString "[") (by decide +kernel) hc3
      have hn' : P.length - K (q + 1) < P.length - K q := by omega
      have hn2 : (K (q + 1) : Int) = (K q : Int) + 1 := by omega
      repeat' ((fail_if_success (with_reducible show wpAny _ _ (exec (Stmt.If _ _ _ _) _) _ _ _)); (fail_if_success (with_reducible show WhileEnd _ _ _ _ _ _ _ _)); (first | (k_unfold; (try dsimp only)) | (k_end; wrow_close) | walk1 | (dsimp only; walk1)))
      rename Fr _ _ _ (fun _ => _) => FZ
      rw [ic] at FZ
      repeat' ((fail_if_success (with_reducible show wpAny _ _ (call (Value.ref 103) _) _ _ _)); (fail_if_success (with_reducible show WhileEnd _ _ _ _ _ _ _ _)); (first | (k_unfold; (try dsimp only)) | (k_end; wrow_close) | ((with_reducible show wpAny _ _ (callWith _ (Value.ref _) _ _ _) _ _ _); (k_here; k_dflt (refine' app_callWith ?kN ?_; (case kN => k_asm); k_whole); (try dsimp only))) | ((with_reducible show wpAny _ _ (execs _ _) _ _ _); (k_here; (fail_if_success (fail_if_success k_gentoks)); (refine gen_lo (by assumption) (by first | assumption | ((try dsimp only); (repeat first | assumption | refine Nat.le_add_right_of_le ?_); done) | omega | (dsimp only; omega) | exact Nat.le_trans (by (try dsimp only); omega) (Nat.le_add_right _ _)) ?_); intro _ _)) | ((with_reducible show wpAny _ _ (exec (Stmt.If _ _ _ _) _) _ _ _); (k_here; (try ((first | refine wp_enter (by assumption) ?_ | refine wp_enterC (by assumption) ?_); intro _ _ _)); k_fold)) | walk1 | (dsimp only; first | ((with_reducible show wpAny _ _ (callWith _ (Value.ref _) _ _ _) _ _ _); (k_here; k_dflt (refine' app_callWith ?kN ?_; (case kN => k_asm); k_whole); (try dsimp only))) | ((with_reducible show wpAny _ _ (execs _ _) _ _ _); (k_here; (fail_if_success (fail_if_success k_gentoks)); (refine gen_lo (by assumption) (by first | assumption | ((try dsimp only); (repeat first | assumption | refine Nat.le_add_right_of_le ?_); done) | omega | (dsimp only; omega) | exact Nat.le_trans (by (try dsimp only); omega) (Nat.le_add_right _ _)) ?_); intro _ _)) | ((with_reducible show wpAny _ _ (exec (Stmt.If _ _ _ _) _) _ _ _); (k_here; (try ((first | refine wp_enter (by assumption) ?_ | refine wp_enterC (by assumption) ?_); intro _ _ _)); k_fold)) | walk1)))
      k_dflt (refine' c_esc w p loose mean mg mb _ _ x _ he _ _ _ _ _ _ _ _ _ _ _ _ _ _ _ _ ?kB0 ?kF0 ?kK0 ?kN0 ?kT0 ?kk0 ?kd0 ?ku0 ?kt0 ?kR0)
      case kk0 => rfl
      case kB0 => k_asm
      case kF0 => k_asm
      case kK0 => k_asm
      case kN0 => k_asm
      case kT0 => k_asm
      case kd0 => exact Nat.le_of_ble_eq_true rfl
      case ku0 => exact Nat.le_of_ble_eq_true rfl
      case kt0 => first | assumption | omega | (dsimp only; omega)
      intro t9 h9 tk9 hlt9 hle9 F9 N9
      dsimp only at hlt9 hle9
      have hle8 : t2 + 1 ≤ tk9 := by omega
      (try dsimp only)
      (try ((try ((first | refine wp_enter (by assumption) ?_ | refine wp_enterC (by assumption) ?_); intro _ _ _)); k_fold))
      repeat' ((fail_if_success (with_reducible show WhileEnd _ _ _ _ _ _ _ _)); (first | (k_unfold; (try dsimp only)) | (k_end; wrow_close) | ((with_reducible show AppAt _ _ _ ∧ _); k_dflt (refine' ⟨News.get ?kN (.head _), ?_⟩; (case kN => k_asm)); (try dsimp only [List.nil_append, List.cons_append])) | ((with_reducible show wpAny _ _ (call (Value.ref _) _ _) _ _ _); (k_here; k_dflt (refine' app_call _ ?kF ?kN ?k1 ?k2 ?k3 ?_; (case kF => k_asm); (case kN => k_asm); (case k1 => assumption); (case k2 => assumption); (case k3 => assumption)); intro _ _ _ _; (try dsimp only))) | walk1 | (dsimp only; first | ((with_reducible show AppAt _ _ _ ∧ _); k_dflt (refine' ⟨News.get ?kN (.head _), ?_⟩; (case kN => k_asm)); (try dsimp only [List.nil_append, List.cons_append])) | ((with_reducible show wpAny _ _ (call (Value.ref _) _ _) _ _ _); (k_here; k_dflt (refine' app_call _ ?kF ?kN ?k1 ?k2 ?k3 ?_; (case kF => k_asm); (case kN => k_asm); (case k1 => assumption); (case k2 => assumption); (case k3 => assumption)); intro _ _ _ _; (try dsimp only))) | walk1)))
      (repeat (first | k_unfold | dsimp only)); dsimp only [WhileEnd]
      rename Fr _ _ _ (fun _ => _) => FZ
      rename News _ _ _ _ => NZ
      exact ⟨_, _, _, _, _, rfl, FZ, NZ, hn', ⟨q + 1, _, _, _, _, tb, rfl, hql, htb, rfl, tr_more hs hx, .inr ⟨_, _, last_push, .inr (by omega)⟩, rfl, rfl, rfl, rfl, rfl, by rw [hn2]; rfl, rfl⟩⟩
    · have f4 := tr_fact1 (y := Str.ofString "[") (by decide +kernel) hc
      have f2 := tr_fact (y := Str.ofString "*") (c := 42) (by decide +kernel) (by rw [hc]; decide)
      have f3 := tr_fact (y := Str.ofString "?") (c := 63) (by decide +kernel) (by rw [hc]; decide)
      repeat' ((fail_if_success (with_reducible show wpAny _ _ (exec (Stmt.If _ _ _ _) _) _ _ _)); (fail_if_success (with_reducible show WhileEnd _ _ _ _ _ _ _ _)); (first | (k_unfold; (try dsimp only)) | (k_end; wrow_close) | walk1 | (dsimp only; walk1)))
      rename Fr _ _ _ (fun _ => _) => FZ
      rw [ic] at FZ
      obtain ⟨blt, ble, bclose, bins, bfst, bcut⟩ := hb
      have hi : (K q : Int) + 1 = ((K q + 1 : Nat) : Int) := by omega
      rw [hi] at FZ
      generalize hI : K q + 1 = i at *
      obtain ⟨c1, hc1, hc1'⟩ := bfst
      obtain ⟨c2, hc2, hc2'⟩ := bins i (Nat.le_refl _) blt
      have g1 := tr_fact2 (y := Str.ofString "!") (by decide +kernel) hc1 hc1'
      have g2 := tr_fact2 (y := Str.ofString "]") (by decide +kernel) hc2 hc2'
      have g3 : decide ((i : Int) < (P.length : Int)) = true := by simp; omega
      repeat' ((fail_if_success (with_reducible show wpAny _ _ (exec (Stmt.While _ _ _ _) _) _ _ _)); (fail_if_success (with_reducible show WhileEnd _ _ _ _ _ _ _ _)); (first | (k_unfold; (try dsimp only)) | (k_end; wrow_close) | ((with_reducible show wpAny _ _ (execs _ _) _ _ _); (k_here; (fail_if_success (fail_if_success k_gentoks)); (refine gen_lo (by assumption) (by first | assumption | ((try dsimp only); (repeat first | assumption | refine Nat.le_add_right_of_le ?_); done) | omega | (dsimp only; omega) | exact Nat.le_trans (by (try dsimp only); omega) (Nat.le_add_right _ _)) ?_); intro _ _)) | ((with_reducible show wpAny _ _ (exec (Stmt.If _ _ _ _) _) _ _ _); (k_here; (try ((first | refine wp_enter (by assumption) ?_ | refine wp_enterC (by assumption) ?_); intro _ _ _)); k_fold)) | walk1 | (dsimp only; first | ((with_reducible show wpAny _ _ (execs _ _) _ _ _); (k_here; (fail_if_success (fail_if_success k_gentoks)); (refine gen_lo (by assumption) (by first | assumption | ((try dsimp only); (repeat first | assumption | refine Nat.le_add_right_of_le ?_); done) | omega | (dsimp only; omega) | exact Nat.le_trans (by (try dsimp only); omega) (Nat.le_add_right _ _)) ?_); intro _ _)) | ((with_reducible show wpAny _ _ (exec (Stmt.If _ _ _ _) _) _ _ _); (k_here; (try ((first | refine wp_enter (by assumption) ?_ | refine wp_enterC (by assumption) ?_); intro _ _ _)); k_fold)) | walk1)))
      rename Fr _ _ _ (fun _ => _) => FW
      rename News _ _ _ _ => NW
      (try ((first | refine wp_enter (by assumption) ?_ | refine wp_enterC (by assumption) ?_); intro _ _ _)); k_fold
      refine while_led (TrJ2 P i e t1 t2 t3 _ _ news its c tb) FW NW ⟨i, _, _, _, Nat.le_refl _, Nat.le_of_lt blt, rfl, rfl, rfl, rfl, rfl, rfl, rfl, rfl, rfl, rfl⟩ ?_
      rintro jj m2 led2 h2' tk2 htk3 F2 N2 ⟨jx, ti2, tj, tn2, hij, hje, rfl, rfl, m1, m2, m3, m4, m5, m6, m7, m8⟩
      rw [map_step m8 (map_step m6 (map_step m7 (map_step m5 (map_step m4 (map_step m1 (map_step m2 (map_step m3 rfl)))))))] at F2
      clear m1 m2 m3 m4 m5 m6 m7 m8 FW NW
      dsimp only at htk3
      have htk4 : t2 + 1 ≤ tk2 := by omega
      have g5 : decide ((jx : Int) < (P.length : Int)) = true := by simp; omega
      by_cases hlt : jx < e
      · obtain ⟨c3, hc3, hc3'⟩ := bins jx hij hlt
        have g4 : (!(Txt.item P (jx : Int) == Str.ofString "]")) = true := by rw [tr_fact2 (by decide +kernel) hc3 hc3']; rfl
        have g6 : (Txt.item P (jx : Int) != Str.ofString "]") = true := g4
        repeat' ((fail_if_success (with_reducible show WhileEnd _ _ _ _ _ _ _ _)); (first | (k_unfold; (try dsimp only)) | (k_end; wrow_close) | ((with_reducible show wpAny _ _ (execs _ _) _ _ _); (k_here; (fail_if_success (fail_if_success k_gentoks)); (refine gen_lo (by assumption) (by first | assumption | ((try dsimp only); (repeat first | assumption | refine Nat.le_add_right_of_le ?_); done) | omega | (dsimp only; omega) | exact Nat.le_trans (by (try dsimp only); omega) (Nat.le_add_right _ _)) ?_); intro _ _)) | walk1 | (dsimp only; first | ((with_reducible show wpAny _ _ (execs _ _) _ _ _); (k_here; (fail_if_success (fail_if_success k_gentoks)); (refine gen_lo (by assumption) (by first | assumption | ((try dsimp only); (repeat first | assumption | refine Nat.le_add_right_of_le ?_); done) | omega | (dsimp only; omega) | exact Nat.le_trans (by (try dsimp only); omega) (Nat.le_add_right _ _)) ?_); intro _ _)) | walk1)))
        (repeat (first | k_unfold | dsimp only)); dsimp only [WhileEnd]
        rename Fr _ _ _ (fun _ => _) => FZ
        rename News _ _ _ _ => NZ
        exact ⟨_, _, _, _, _, rfl, FZ, NZ, by omega, ⟨jx + 1, _, _, _, by omega, hlt, rfl, rfl, rfl, rfl, rfl, rfl, rfl, rfl, rfl, rfl⟩⟩
      · have ej : jx = e := by omega
        subst ej
        have g4 : (!(Txt.item P (jx : Int) == Str.ofString "]")) = false := by rw [tr_fact3 (by decide +kernel) bclose]; rfl
        have g6 : (Txt.item P (jx : Int) != Str.ofString "]") = false := g4
        repeat' ((fail_if_success (with_reducible show wpAny _ _ (exec (Stmt.If _ _ _ _) _) _ _ _)); (fail_if_success (with_reducible show WhileEnd _ _ _ _ _ _ _ _)); (first | (k_unfold; (try dsimp only)) | (k_end; wrow_close) | ((with_reducible show wpAny _ _ (execs _ _) _ _ _); (k_here; (fail_if_success (fail_if_success k_gentoks)); (refine gen_lo (by assumption) (by first | assumption | ((try dsimp only); (repeat first | assumption | refine Nat.le_add_right_of_le ?_); done) | omega | (dsimp only; omega) | exact Nat.le_trans (by (try dsimp only); omega) (Nat.le_add_right _ _)) ?_); intro _ _)) | walk1 | (dsimp only; first | ((with_reducible show wpAny _ _ (execs _ _) _ _ _); (k_here; (fail_if_success (fail_if_success k_gentoks)); (refine gen_lo (by assumption) (by first | assumption | ((try dsimp only); (repeat first | assumption | refine Nat.le_add_right_of_le ?_); done) | omega | (dsimp only; omega) | exact Nat.le_trans (by (try dsimp only); omega) (Nat.le_add_right _ _)) ?_); intro _ _)) | walk1)))
        (first | ((with_reducible show wpAny _ _ (exec (Stmt.If _ _ _ _) _) _ _ _); (k_here; (try ((first | refine wp_enter (by assumption) ?_ | refine wp_enterC (by assumption) ?_); intro _ _ _)); k_fold)) | walk1)
        repeat' ((fail_if_success (with_reducible show wpAny _ _ (subscriptTail _ _ _ _) _ _ _)); (fail_if_success (with_reducible show WhileEnd _ _ _ _ _ _ _ _)); (first | (k_unfold; (try dsimp only)) | (k_end; wrow_close) | walk1 | (dsimp only; walk1)))
        refine tok_keep ?_
        walk1
        intro hk0
        (try dsimp only at hk0)
        have hk1 : t2 + 1 ≤ _ := Nat.le_trans (by omega) hk0
        repeat' ((fail_if_success (with_reducible show wpAny _ _ (exec (Stmt.If _ _ _ _) _) _ _ _)); (fail_if_success (with_reducible show WhileEnd _ _ _ _ _ _ _ _)); (first | (k_unfold; (try dsimp only)) | (k_end; wrow_close) | walk1 | (dsimp only; walk1)))
        rename Fr _ _ _ (fun _ => _) => FZ
        rw [bcut] at FZ
        obtain ⟨y1, y2, y3, y4, y5, y6, y7⟩ := setOk_facts hS
        have d1 := occ_no (x := y) (y := Str.ofString "-") (c := 45) (by decide +kernel) y2
        walk1
        repeat' ((fail_if_success (with_reducible show wpAny _ _ (call (Value.builtin "str.replace") _) _ _ _)); (fail_if_success (with_reducible show WhileEnd _ _ _ _ _ _ _ _)); (first | (k_unfold; (try dsimp only)) | (k_end; wrow_close) | ((with_reducible show wpAny _ _ (execs _ _) _ _ _); (k_here; (fail_if_success (fail_if_success k_gentoks)); (refine gen_lo (by assumption) (by first | assumption | ((try dsimp only); (repeat first | assumption | refine Nat.le_add_right_of_le ?_); done) | omega | (dsimp only; omega) | exact Nat.le_trans (by (try dsimp only); omega) (Nat.le_add_right _ _)) ?_); intro _ _)) | walk1 | (dsimp only; first | ((with_reducible show wpAny _ _ (execs _ _) _ _ _); (k_here; (fail_if_success (fail_if_success k_gentoks)); (refine gen_lo (by assumption) (by first | assumption | ((try dsimp only); (repeat first | assumption | refine Nat.le_add_right_of_le ?_); done) | omega | (dsimp only; omega) | exact Nat.le_trans (by (try dsimp only); omega) (Nat.le_add_right _ _)) ?_); intro _ _)) | walk1)))
        refine tok_keep ?_
        refine SC.replaceW (by show @Ne Nat _ _; omega) (by show @Ne Nat _ _; omega) (by show @Ne Nat _ _; omega) (by decide +kernel) (Nat.le_trans y1 (by decide)) (by decide +kernel) ?_
        intro t' kk hk
        (try dsimp only at hk)
        have hkk : t2 + 1 ≤ kk := by omega
        rw [rep_none y3]
        (try dsimp only)
        repeat' ((fail_if_success (with_reducible show wpAny _ _ (getMethod (Value.ref _) _ _) _ _ _)); (fail_if_success (with_reducible show WhileEnd _ _ _ _ _ _ _ _)); (first | (k_unfold; (try dsimp only)) | (k_end; wrow_close) | ((with_reducible show wpAny _ _ (execs _ _) _ _ _); (k_here; (fail_if_success (fail_if_success k_gentoks)); (refine gen_lo (by assumption) (by first | assumption | ((try dsimp only); (repeat first | assumption | refine Nat.le_add_right_of_le ?_); done) | omega | (dsimp only; omega) | exact Nat.le_trans (by (try dsimp only); omega) (Nat.le_add_right _ _)) ?_); intro _ _)) | walk1 | (dsimp only; first | ((with_reducible show wpAny _ _ (execs _ _) _ _ _); (k_here; (fail_if_success (fail_if_success k_gentoks)); (refine gen_lo (by assumption) (by first | assumption | ((try dsimp only); (repeat first | assumption | refine Nat.le_add_right_of_le ?_); done) | omega | (dsimp only; omega) | exact Nat.le_trans (by (try dsimp only); omega) (Nat.le_add_right _ _)) ?_); intro _ _)) | walk1)))
        refine getm_sub (p := w.params) (Frag.In.keeps (by assumption) (Fr.keep (by k_asm))) ?_
        repeat' ((fail_if_success (with_reducible show wpAny _ _ (eval (Expr.Lambda _ _ _ _) _) _ _ _)); (fail_if_success (with_reducible show WhileEnd _ _ _ _ _ _ _ _)); (first | (k_unfold; (try dsimp only)) | (k_end; wrow_close) | walk1 | (dsimp only; walk1)))
        k_dflt (refine' lam_mono ?lF ?lN ?lam ?rest)
        case lF => k_asm
        case lN => k_asm
        case lam =>
          refine tok_keep ?_
          rcases htb with rfl | ⟨cc, rfl⟩
          · k_dflt (refine' kla_eval ?d0 ?_; (case d0 => exact rfl))
            k_dflt (refine' kla_nest ?F ?N ?T ?C ?cd ?U ?t ?n ?cl ?_)
            case F => k_asm
            case N => k_asm
            case T => k_asm
            case cd => exact rfl
            case C => kn_code
            case U => k_updF
            case t => kn_triples
            case n => kn_among
            case cl => exact rfl
            intro f' c' oc' vs' t' ct' h' tk' F' N' d1' d2' l1 l2 hle
            (try dsimp only at hle)
            exact ⟨f', _, _, _, _, h', tk', rfl, rfl, hle, .inr ⟨c', rfl⟩, F', news_sub N' (by intro p hp; simp only [List.mem_cons] at hp ⊢; rcases hp with hp | hp | hp | hp | hp; exact .inl hp; exact .inr (.inr (.inl hp)); exact .inr (.inr (.inr (.inl hp))); exact .inr (.inr (.inr (.inr (.inl hp)))); exact .inr (.inr (.inr (.inr (.inr hp)))))⟩
          · k_dflt (refine' kla_eval ?d1 ?_; (case d1 => exact rfl))
            k_dflt (refine' kla_hit ?F ?N ?T ?C ?cd ?hm ?t ?n ?cl ?_)
            case F => k_asm
            case N => k_asm
            case T => k_asm
            case cd => exact rfl
            case C => kn_code
            case hm => k_mem
            case t => kn_triples
            case n => kn_among
            case cl => exact rfl
            intro f' ct' h' tk' F' N' l1 hle
            (try dsimp only at hle)
            exact ⟨f', _, _, _, _, h', tk', rfl, rfl, hle, .inr ⟨cc, rfl⟩, F', N'⟩
        case rest =>
          rintro v9 s9 ⟨f9, od9, fd9, sl9, tb9, h9, tk9, rfl, rfl, hle9, htb9, F9, N9⟩
          (try dsimp only at hle9)
          have hle8 : t2 + 1 ≤ tk9 := by omega
          have na := naT tb9
          (try dsimp only)
          (try ((try ((first | refine wp_enter (by assumption) ?_ | refine wp_enterC (by assumption) ?_); intro _ _ _)); k_fold))
          repeat' ((fail_if_success (with_reducible show wpAny _ _ (call (Value.builtin "re.Pattern.sub") _) _ _ _)); (fail_if_success (with_reducible show WhileEnd _ _ _ _ _ _ _ _)); (first | (k_unfold; (try dsimp only)) | (k_end; wrow_close) | walk1 | (dsimp only; walk1)))
          k_dflt (refine' around_mono ?sd ?su (sub_set w hS ?sK ?sF ?sN (.head _) ?sR))
          case sd => exact Nat.le_of_ble_eq_true rfl
          case su => exact Nat.le_of_ble_eq_true rfl
          case sK => assumption
          case sF => k_asm
          case sN => k_asm
          intro t7 tk7 h7 hle7 F7 N7
          (try dsimp only at hle7)
          have hle6 : t2 + 1 ≤ tk7 := by omega
          have N6 := news_sub N7 (fun p hp => .tail _ hp)
          clear N7 N9 F9
          (try dsimp only)
          (try ((try ((first | refine wp_enter (by assumption) ?_ | refine wp_enterC (by assumption) ?_); intro _ _ _)); k_fold))
          repeat' ((fail_if_success (with_reducible show wpAny _ _ (callWith _ _ _ _ _) _ _ _)); (fail_if_success (with_reducible show WhileEnd _ _ _ _ _ _ _ _)); (first | (k_unfold; (try dsimp only)) | (k_end; wrow_close) | ((with_reducible show wpAny _ _ (execs _ _) _ _ _); (k_here; (fail_if_success (fail_if_success k_gentoks)); (refine gen_lo (by assumption) (by first | assumption | ((try dsimp only); (repeat first | assumption | refine Nat.le_add_right_of_le ?_); done) | omega | (dsimp only; omega) | exact Nat.le_trans (by (try dsimp only); omega) (Nat.le_add_right _ _)) ?_); intro _ _)) | ((with_reducible show wpAny _ _ (exec (Stmt.If _ _ _ _) _) _ _ _); (k_here; (try ((first | refine wp_enter (by assumption) ?_ | refine wp_enterC (by assumption) ?_); intro _ _ _)); k_fold)) | walk1 | (dsimp only; first | ((with_reducible show wpAny _ _ (execs _ _) _ _ _); (k_here; (fail_if_success (fail_if_success k_gentoks)); (refine gen_lo (by assumption) (by first | assumption | ((try dsimp only); (repeat first | assumption | refine Nat.le_add_right_of_le ?_); done) | omega | (dsimp only; omega) | exact Nat.le_trans (by (try dsimp only); omega) (Nat.le_add_right _ _)) ?_); intro _ _)) | ((with_reducible show wpAny _ _ (exec (Stmt.If _ _ _ _) _) _ _ _); (k_here; (try ((first | refine wp_enter (by assumption) ?_ | refine wp_enterC (by assumption) ?_); intro _ _ _)); k_fold)) | walk1)))
          rotate_left
          · exfalso; omega
          rename News _ _ _ ((_, _) :: (_, appO _) :: _) => NZ
          have NZ2 := news_sub NZ (fun p h => .tail _ h)
          clear NZ
          repeat' ((fail_if_success (with_reducible show wpAny _ _ (formatField _ _) _ _ _)); (fail_if_success (with_reducible show WhileEnd _ _ _ _ _ _ _ _)); (first | (k_unfold; (try dsimp only)) | (k_end; wrow_close) | ((with_reducible show wpAny _ _ (callWith _ (Value.ref _) _ _ _) _ _ _); (k_here; k_dflt (refine' app_callWith ?kN ?_; (case kN => k_asm); k_whole); (try dsimp only))) | walk1 | (dsimp only; first | ((with_reducible show wpAny _ _ (callWith _ (Value.ref _) _ _ _) _ _ _); (k_here; k_dflt (refine' app_callWith ?kN ?_; (case kN => k_asm); k_whole); (try dsimp only))) | walk1)))
          refine tok_keep ?_
          walk1
          intro hk5
          (try dsimp only at hk5)
          have hk6 : t2 + 1 ≤ _ := Nat.le_trans (by omega) hk5
          repeat' ((fail_if_success (with_reducible show WhileEnd _ _ _ _ _ _ _ _)); (first | (k_unfold; (try dsimp only)) | (k_end; wrow_close) | ((with_reducible show AppAt _ _ _ ∧ _); k_dflt (refine' ⟨News.get ?kN (.head _), ?_⟩; (case kN => k_asm)); (try dsimp only [List.nil_append, List.cons_append])) | ((with_reducible show wpAny _ _ (call (Value.ref _) _ _) _ _ _); (k_here; k_dflt (refine' app_call _ ?kF ?kN ?k1 ?k2 ?k3 ?_; (case kF => k_asm); (case kN => k_asm); (case k1 => assumption); (case k2 => assumption); (case k3 => assumption)); intro _ _ _ _; (try dsimp only))) | ((with_reducible show wpAny _ _ (execs _ _) _ _ _); (k_here; (fail_if_success (fail_if_success k_gentoks)); (refine gen_lo (by assumption) (by first | assumption | ((try dsimp only); (repeat first | assumption | refine Nat.le_add_right_of_le ?_); done) | omega | (dsimp only; omega) | exact Nat.le_trans (by (try dsimp only); omega) (Nat.le_add_right _ _)) ?_); intro _ _)) | walk1 | (dsimp only; first | ((with_reducible show AppAt _ _ _ ∧ _); k_dflt (refine' ⟨News.get ?kN (.head _), ?_⟩; (case kN => k_asm)); (try dsimp only [List.nil_append, List.cons_append])) | ((with_reducible show wpAny _ _ (call (Value.ref _) _ _) _ _ _); (k_here; k_dflt (refine' app_call _ ?kF ?kN ?k1 ?k2 ?k3 ?_; (case kF => k_asm); (case kN => k_asm); (case k1 => assumption); (case k2 => assumption); (case k3 => assumption)); intro _ _ _ _; (try dsimp only))) | ((with_reducible show wpAny _ _ (execs _ _) _ _ _); (k_here; (fail_if_success (fail_if_success k_gentoks)); (refine gen_lo (by assumption) (by first | assumption | ((try dsimp only); (repeat first | assumption | refine Nat.le_add_right_of_le ?_); done) | omega | (dsimp only; omega) | exact Nat.le_trans (by (try dsimp only); omega) (Nat.le_add_right _ _)) ?_); intro _ _)) | walk1)))
          (repeat (first | k_unfold | dsimp only)); dsimp only [WhileEnd]
          rename Fr _ _ _ (fun _ => _) => FZ
          rename News _ _ _ _ => NZ
          exact ⟨_, _, _, _, _, rfl, FZ, NZ, by omega, ⟨q + 1, _, _, _, _, tb9, rfl, hql, htb9, rfl, tr_more hs hx, .inr ⟨_, _, last_push, .inr (by omega)⟩, rfl, rfl, rfl, rfl, rfl, by rw [hn]; rfl, rfl⟩⟩
  · have ek : q = ps.length := by omega
    subst ek
    rw [hP.kn] at F1
    have f1 : decide ((P.length : Int) < (P.length : Int)) = false := by simp
    rw [List.take_of_length_le (Nat.le_refl _)] at hs
    have f2 : (((P.length : Nat) : Int) == ((P.length : Nat) : Int)) = true := beq_self_eq_true _
    repeat' ((first | (k_unfold; (try dsimp only)) | (k_end; wrow_close) | walk1 | (dsimp only; walk1)))
    rename News _ _ _ _ => NZ
    exact hret _ _ _ _ (by assumption) (by k_asm) (news_sub NZ (fun q h => .tail _ h)) ⟨_, _, _, tb, rfl, rfl, htb, na.1, na.2, hs⟩
end
section
theorem esc_35 : EscOk 35 (Str.ofString "\\#") := ⟨by decide, .inr ⟨by decide +kernel, fun prog w => by kernel_rfl⟩⟩
theorem esc_38 : EscOk 38 (Str.ofString "\\&") := ⟨by decide, .inr ⟨by decide +kernel, fun prog w => by kernel_rfl⟩⟩
theorem esc_59 : EscOk 59 (Str.ofString ";") := ⟨by decide, .inl ⟨by decide +kernel, fun prog w => by kernel_rfl⟩⟩
theorem esc_108 : EscOk 108 (Str.ofString "l") := ⟨by decide, .inl ⟨by decide +kernel, fun prog w => by kernel_rfl⟩⟩
theorem esc_111 : EscOk 111 (Str.ofString "o") := ⟨by decide, .inl ⟨by decide +kernel, fun prog w => by kernel_rfl⟩⟩
theorem esc_113 : EscOk 113 (Str.ofString "q") := ⟨by decide, .inl ⟨by decide +kernel, fun prog w => by kernel_rfl⟩⟩
theorem esc_116 : EscOk 116 (Str.ofString "t") := ⟨by decide, .inl ⟨by decide +kernel, fun prog w => by kernel_rfl⟩⟩
theorem esc_117 : EscOk 117 (Str.ofString "u") := ⟨by decide, .inl ⟨by decide +kernel, fun prog w => by kernel_rfl⟩⟩
noncomputable abbrev pat1 : Str := (Str.ofString "*&lt;*")
noncomputable abbrev parts1 : List Str := [(Str.ofString "*"), (Str.ofString "\\&"), (Str.ofString "l"), (Str.ofString "t"), (Str.ofString ";"), (Str.ofString "*")]
noncomputable abbrev K1 (i : Nat) : Nat := [0, 1, 2, 3, 4, 5, 6].getD i 0
theorem trok1 : TrOk pat1 parts1 K1 SetOk where
  k0 := by decide +kernel
  kn := by decide +kernel
  at_ := fun q hq => match q, hq with
    | 0, _ => ⟨by decide +kernel, .inl ⟨by decide +kernel, by decide +kernel, rfl, .inl rfl⟩⟩
    | 1, _ => ⟨by decide +kernel, .inr (.inl ⟨by decide +kernel, by decide +kernel, by decide +kernel, by decide +kernel, _, rfl, esc_38⟩)⟩
    | 2, _ => ⟨by decide +kernel, .inr (.inl ⟨by decide +kernel, by decide +kernel, by decide +kernel, by decide +kernel, _, rfl, esc_108⟩)⟩
    | 3, _ => ⟨by decide +kernel, .inr (.inl ⟨by decide +kernel, by decide +kernel, by decide +kernel, by decide +kernel, _, rfl, esc_116⟩)⟩
    | 4, _ => ⟨by decide +kernel, .inr (.inl ⟨by decide +kernel, by decide +kernel, by decide +kernel, by decide +kernel, _, rfl, esc_59⟩)⟩
    | 5, _ => ⟨by decide +kernel, .inl ⟨by decide +kernel, by decide +kernel, rfl, .inr ⟨by decide, _, rfl, by decide +kernel⟩⟩⟩
    | i + 6, hq => absurd hq (by simp)
noncomputable abbrev pat2 : Str := (Str.ofString "*&quot;*")
noncomputable abbrev parts2 : List Str := [(Str.ofString "*"), (Str.ofString "\\&"), (Str.ofString "q"), (Str.ofString "u"), (Str.ofString "o"), (Str.ofString "t"), (Str.ofString ";"), (Str.ofString "*")]
noncomputable abbrev K2 (i : Nat) : Nat := [0, 1, 2, 3, 4, 5, 6, 7, 8].getD i 0
theorem trok2 : TrOk pat2 parts2 K2 SetOk where
  k0 := by decide +kernel
  kn := by decide +kernel
  at_ := fun q hq => match q, hq with
    | 0, _ => ⟨by decide +kernel, .inl ⟨by decide +kernel, by decide +kernel, rfl, .inl rfl⟩⟩
    | 1, _ => ⟨by decide +kernel, .inr (.inl ⟨by decide +kernel, by decide +kernel, by decide +kernel, by decide +kernel, _, rfl, esc_38⟩)⟩
    | 2, _ => ⟨by decide +kernel, .inr (.inl ⟨by decide +kernel, by decide +kernel, by decide +kernel, by decide +kernel, _, rfl, esc_113⟩)⟩
    | 3, _ => ⟨by decide +kernel, .inr (.inl ⟨by decide +kernel, by decide +kernel, by decide +kernel, by decide +kernel, _, rfl, esc_117⟩)⟩
    | 4, _ => ⟨by decide +kernel, .inr (.inl ⟨by decide +kernel, by decide +kernel, by decide +kernel, by decide +kernel, _, rfl, esc_111⟩)⟩
    | 5, _ => ⟨by decide +kernel, .inr (.inl ⟨by decide +kernel, by decide +kernel, by decide +kernel, by decide +kernel, _, rfl, esc_116⟩)⟩
    | 6, _ => ⟨by decide +kernel, .inr (.inl ⟨by decide +kernel, by decide +kernel, by decide +kernel, by decide +kernel, _, rfl, esc_59⟩)⟩
    | 7, _ => ⟨by decide +kernel, .inl ⟨by decide +kernel, by decide +kernel, rfl, .inr ⟨by decide, _, rfl, by decide +kernel⟩⟩⟩
    | i + 8, hq => absurd hq (by simp)
noncomputable abbrev pat3 : Str := (Str.ofString "*&#*")
noncomputable abbrev parts3 : List Str := [(Str.ofString "*"), (Str.ofString "\\&"), (Str.ofString "\\#"), (Str.ofString "*")]
noncomputable abbrev K3 (i : Nat) : Nat := [0, 1, 2, 3, 4].getD i 0
theorem trok3 : TrOk pat3 parts3 K3 SetOk where
  k0 := by decide +kernel
  kn := by decide +kernel
  at_ := fun q hq => match q, hq with
    | 0, _ => ⟨by decide +kernel, .inl ⟨by decide +kernel, by decide +kernel, rfl, .inl rfl⟩⟩
    | 1, _ => ⟨by decide +kernel, .inr (.inl ⟨by decide +kernel, by decide +kernel, by decide +kernel, by decide +kernel, _, rfl, esc_38⟩)⟩
    | 2, _ => ⟨by decide +kernel, .inr (.inl ⟨by decide +kernel, by decide +kernel, by decide +kernel, by decide +kernel, _, rfl, esc_35⟩)⟩
    | 3, _ => ⟨by decide +kernel, .inl ⟨by decide +kernel, by decide +kernel, rfl, .inr ⟨by decide, _, rfl, by decide +kernel⟩⟩⟩
    | i + 4, hq => absurd hq (by simp)
noncomputable abbrev pat4 : Str := (Str.ofString "*[<>\"]*")
noncomputable abbrev parts4 : List Str := [(Str.ofString "*"), (Str.ofString "[<>\"]"), (Str.ofString "*")]
noncomputable abbrev K4 (i : Nat) : Nat := [0, 1, 6, 7].getD i 0
theorem brok4 : BrOk pat4 2 5 ⟨#[60, 62, 34]⟩ where
  lt := by decide
  le := by decide +kernel
  close := by decide +kernel
  ins := fun t h1 h2 => by
    have : t = 2 ∨ t = 3 ∨ t = 4 := by omega
    rcases this with rfl | rfl | rfl <;> exact ⟨_, rfl, by decide⟩
  fst := ⟨_, rfl, by decide⟩
  cut := by decide +kernel
theorem trok4 : TrOk pat4 parts4 K4 SetOk where
  k0 := by decide +kernel
  kn := by decide +kernel
  at_ := fun q hq => match q, hq with
    | 0, _ => ⟨by decide +kernel, .inl ⟨by decide +kernel, by decide +kernel, rfl, .inl rfl⟩⟩
    | 1, _ => ⟨by decide +kernel, .inr (.inr ⟨by decide +kernel, 5, ⟨#[60, 62, 34]⟩, brok4, by decide +kernel, .inl rfl, by rw [show (Str.ofString "[" ++ (⟨#[60, 62, 34]⟩ : Str) ++ Str.ofString "]") = (Str.ofString "[<>\"]") from by decide +kernel]; rfl⟩)⟩
    | 2, _ => ⟨by decide +kernel, .inl ⟨by decide +kernel, by decide +kernel, rfl, .inr ⟨by decide, _, rfl, by decide +kernel⟩⟩⟩
    | i + 3, hq => absurd hq (by simp)
noncomputable abbrev pat5 : Str := (Str.ofString "*[\x0d\n\t]*")
noncomputable abbrev parts5 : List Str := [(Str.ofString "*"), (Str.ofString "[\x0d\n\t]"), (Str.ofString "*")]
noncomputable abbrev K5 (i : Nat) : Nat := [0, 1, 6, 7].getD i 0
theorem brok5 : BrOk pat5 2 5 ⟨#[13, 10, 9]⟩ where
  lt := by decide
  le := by decide +kernel
  close := by decide +kernel
  ins := fun t h1 h2 => by
    have : t = 2 ∨ t = 3 ∨ t = 4 := by omega
    rcases this with rfl | rfl | rfl <;> exact ⟨_, rfl, by decide⟩
  fst := ⟨_, rfl, by decide⟩
  cut := by decide +kernel
theorem trok5 : TrOk pat5 parts5 K5 SetOk where
  k0 := by decide +kernel
  kn := by decide +kernel
  at_ := fun q hq => match q, hq with
    | 0, _ => ⟨by decide +kernel, .inl ⟨by decide +kernel, by decide +kernel, rfl, .inl rfl⟩⟩
    | 1, _ => ⟨by decide +kernel, .inr (.inr ⟨by decide +kernel, 5, ⟨#[13, 10, 9]⟩, brok5, by decide +kernel, .inr rfl, by rw [show (Str.ofString "[" ++ (⟨#[13, 10, 9]⟩ : Str) ++ Str.ofString "]") = (Str.ofString "[\x0d\n\t]") from by decide +kernel]; rfl⟩)⟩
    | 2, _ => ⟨by decide +kernel, .inl ⟨by decide +kernel, by decide +kernel, rfl, .inr ⟨by decide, _, rfl, by decide +kernel⟩⟩⟩
    | i + 3, hq => absurd hq (by simp)
end
section
open PySem.Calls PySem.Spec
section
variable {M : Model} {A : Around} {E : Value → Shared → Prop} {s : Shared}
theorem landsC {base : Heap} {l : List Env} {e : Addr} {cls a0 fl : Value} {oC : Obj} {Q : Unit → Shared → Prop} (hkb : base.StaysIn s.heap) (hen : base.get? e = none) (hl : s.heap.FunFrames base l) (ht : s.heap.TracedAtW base e cls a0 fl) (hC : s.heap.get? e = some oC)
    (hQ : ∀ h', Heap.FlyingW base l e cls a0 h' → s.heap.UpToSlots h' → h'.get? e = some oC → Q () { s with heap := h' }) : wpAny M A (setFlight (.ref e) none) Q E s := by
  obtain ⟨oe, vs, T, oT, ts, he, hcls, hd, h1, hnT, hTe, hT, hdT, h3⟩ := ht
  have oth : ∀ b, b ≠ T → (s.heap.update T (Obj.mapFields (·.setIfInBounds 3 ((none : Option Addr).elim Value.none fun f => rawInt f)))).get? b = s.heap.get? b := fun b hb => Heap.get?_update_other _ _ (Ne.symm hb)
  have nr : ∀ b o, s.heap.get? b = some o → (∀ vs, o.data ≠ .fields vs) → b ≠ T := fun b o hb hnf q => by
    rw [q, hT] at hb; injection hb with hb; subst hb; exact hnf ts hdT
  unfold setFlight
  refine wpAny_bind (wpAny_field he hd h1 ?_)
  rw [if_pos (show (Value.ref T != Value.none) = true from by simp)]
  have h3s : 3 < ts.size := (Array.getElem?_eq_some_iff.mp h3).1
  refine wpAny_setField hT hdT h3s (hQ _ ⟨fun b o hbo => (oth b fun q => by rw [q, hnT] at hbo; cases hbo).trans (hkb b o hbo), hen, hl.of_keeps fun b o hb hnf => ⟨o, (oth b (nr b o hb hnf)).trans hb, rfl⟩, ?_⟩ (fun b o hb hn => ⟨o.slots, (oth b (nr b o hb hn)).trans hb⟩) ((oth e (Ne.symm hTe)).trans hC))
  exact ⟨oe, vs, T, _, _, (oth e (Ne.symm hTe)).trans he, hcls, hd, h1, hnT, hTe, Heap.get?_update_self _ hT (Obj.isFreed_of_fields (Obj.data_mapFields hdT _)), Obj.data_mapFields hdT _, by simp [h3s]⟩
theorem entryC {base : Heap} {env : Env} {outer : List Env} {L e : Addr} {oe : Obj} {vs : Array Value} {head a0 : Value} {hadNext : Bool} {Q : Unit → Shared → Prop}
    (hfr : A.frames = some (env :: outer)) (hl : s.heap.FunFrames base (env :: outer)) (hf : env.frame = some L)
    (he : s.heap.get? e = some oe) (hkb : base.StaysIn s.heap) (hen : base.get? e = none) (hd : oe.data = .fields vs) (hsz : 1 < vs.size) (h0 : vs[0]? = some a0)
    (h : ∀ h' T, base.StaysIn h' → h'.FunFrames base (env :: outer) → h'.TracedAtW base e oe.cls a0 (rawInt L) → s.heap.UpToSlots h' → h'.get? e = some (oe.mapFields (·.setIfInBounds 1 (.ref T))) → Q () { s with heap := h' }) :
    wpAny M A (do let a ← frameOf env; let pl ← entryPlaceOf L hadNext; let b ← EntryCells.newEntry head a .none (rawInt L) .none pl; setField (.ref e) 1 b) Q E s := by
  have hene : e ∉ (env :: outer).filterMap (·.frame) := fun hm => by
    obtain ⟨_, o, ho, hnf⟩ := hl.mem hm
    rw [he] at ho; injection ho with ho; subst ho; exact hnf vs hd
  refine wpAny_bind (wpAny_frameOf_fun hfr hl hf fun h₁ hs₁ => ?_)
  refine wpAny_bind (wpAny_entryPlaceOf fun pl hpl => ?_)
  unfold EntryCells.newEntry newFields
  refine wpAny_bind (wpAny_newObj_type ?_ (hpl.sizeOk5 _ _ _ _ _))
  have he₁ : h₁.get? e = some oe := (hs₁.2.1 e hene).trans he
  have kb₁ : base.StaysIn h₁ := fun b o hbo => (hs₁.2.1 b fun hm => by rw [(hl.mem hm).1] at hbo; cases hbo).trans (hkb b o hbo)
  generalize hob : ({ cls := .type "traceback", dict := none, data := .fields ([head, .ref L, .none, rawInt L, .none] ++ (if pl.isEmpty then List.replicate 6 Value.none else pl)).toArray } : Obj) = ob
  have hobd : ob.data = .fields ([head, .ref L, .none, rawInt L, .none] ++ (if pl.isEmpty then List.replicate 6 Value.none else pl)).toArray := by rw [← hob]
  have hobf : ob.isFreed = false := Obj.isFreed_of_fields hobd
  have he₂ := Heap.get?_push_of_some (h := h₁) ob he₁
  have hTe : h₁.objs.size ≠ e := Nat.ne_of_gt (Heap.lt_size he₁)
  have hd₃ := Obj.data_mapFields hd (·.setIfInBounds 1 (Value.ref h₁.objs.size))
  have he₃ := Heap.get?_update_self (Obj.mapFields (·.setIfInBounds 1 (Value.ref h₁.objs.size))) he₂ (Obj.isFreed_of_fields hd₃)
  have up : ∀ b o, b ≠ e → h₁.get? b = some o → ((h₁.push ob).update e (Obj.mapFields (·.setIfInBounds 1 (Value.ref h₁.objs.size)))).get? b = some o := fun b o hbe hb =>
    (Heap.get?_update_other _ _ (Ne.symm hbe)).trans (Heap.get?_push_of_some _ hb)
  have hT₃ := (Heap.get?_update_other (h₁.push ob) (Obj.mapFields (·.setIfInBounds 1 (Value.ref h₁.objs.size))) (Ne.symm hTe)).trans (Heap.get?_push_size h₁ hobf)
  have nr : ∀ b o, s.heap.get? b = some o → (∀ vs, o.data ≠ .fields vs) → b ≠ e := fun b o hb hnf q => by
    rw [q, he] at hb; injection hb with hb; subst hb; exact hnf vs hd
  refine wpAny_setField he₂ hd hsz (h _ h₁.objs.size (fun b o hbo => up b o (fun q => by rw [q, hen] at hbo; cases hbo) (kb₁ b o hbo)) (hl.of_keeps fun b o hb hnf => ?_) ?_ (fun b o hb hnf => ?_) he₃)
  · obtain ⟨sl, hs⟩ := hs₁.2.2 b o hb
    exact ⟨_, up b _ (nr b o hb hnf) hs, rfl⟩
  · exact ⟨_, _, h₁.objs.size, _, _, he₃, ⟨Obj.cls_mapFields _ _, by rw [Array.getElem?_setIfInBounds_ne (by decide)]; exact h0⟩, hd₃, by simp [hsz], kb₁.fresh, hTe, hT₃, hobd, by first | (simp; done) | (rcases hpl with rfl | ⟨_, _, _, _, _, _, _, rfl⟩ <;> simp)⟩
  · obtain ⟨sl, hs⟩ := hs₁.2.2 b o hb
    exact ⟨sl, up b _ (nr b o hb hnf) hs⟩
end
section
variable {prog : Program} {w : World} {A₀ : Around} {E : Value → Shared → Prop} {s' : Shared} {base g g₀ h : Heap} {outer : List Env} {L a e : Addr} {m : Str → Option Value} {name : Str} {scope : Scope} {cd : Value} {X : String}
  {tt : Expr} {b₀ : Stmt} {suite : List Stmt} {pos : Pos} {rest : List ExceptHandler} {Q : Flow → Shared → Prop} {news : Led} {KF : Frag} {p : Program} {loose : List Str} {mean : ExcName → Option Value} {mg mb : Str → Option Value}
/-- a new exception is caught where it was raised; its object stands in the ledger -/
theorem catchC (K : Below A₀ base outer g) (hx : Heap.NewExc h s'.heap e X) (F : Fr g L h m) (N : News g L h news) (XB : KF.In base) (TB : Top p loose mean mg mb base)
    (D : KtsDicts (outer.filterMap (·.frame)) g) (T0 : KtsTurn (outer.filterMap (·.frame)) g₀ g) (T : KtsTest prog w KF p loose mg mb name scope L a cd (.type X) tt true)
    (k : ∀ h' g' oC ws, KtsTurn (outer.filterMap (·.frame)) g₀ g' → Fr g' L h' m → News g' L h' ((e, oC) :: news) → oC.data = .fields ws → ws[2]? = some .none → (∀ q ∈ news, q.1 ≠ e) → Below A₀ base outer g' → KF.In g' → Top p loose mean mg mb g' → KtsDicts (outer.filterMap (·.frame)) g' →
      wpAny (model prog w) ((A₀.deeper (envOf name scope L a cd)).mark (some (.ref e))) (execs (b₀ :: suite) (envOf name scope L a cd)) Q E { s' with heap := h' })
    (hk : scope.kind = .function := by rfl)
    (hE : PassesOwnAt (model prog w) ((A₀.deeper (envOf name scope L a cd)).mark (some (.ref e))) (A₀.deeper (envOf name scope L a cd)) (envOf name scope L a cd) E := by passes_own) :
    wpAny (model prog w) (A₀.deeper (envOf name scope L a cd)) (noteFrame (.ref e) (envOf name scope L a cd))
      (fun _ s₂ => wpAny (model prog w) (A₀.deeper (envOf name scope L a cd)) (setFlight (.ref e) none) (fun _ s₃ =>
        wpAny (model prog w) (A₀.deeper (envOf name scope L a cd)) (handleBy (.ref e) (envOf name scope L a cd) (.ExceptHandler (some tt) none (b₀ :: suite) pos :: rest)) Q E s₃) E s₂) E s' := by
  have nm : ∀ b o, g.get? b = some o → b ∉ news.map (·.1) := fun b o ek q => by
    obtain ⟨p, hp, rfl⟩ := List.mem_map.mp q
    rw [(N p hp).2.2] at ek; cases ek
  obtain ⟨oL, es, ep, hL, hLd, hLk, hLf⟩ := F.ns
  have nL : L ∉ news.map (·.1) := fun q => by
    obtain ⟨p, hp, ek⟩ := List.mem_map.mp q
    exact (N p hp).2.1 ek
  have hLg := hideAll_get (news.map (·.1)) hL nL
  have FG : Fr g L (hideAll h (news.map (·.1))) m := ⟨⟨oL, es, ep, hLg, hLd, hLk, hLf⟩, fun b o ek => hideAll_get _ (F.keep b o ek) (nm b o ek), F.above⟩
  have K' := K.push (name := name) (a := a) (cd := cd) F hk
  have hin : ∀ env ∈ (envOf name scope L a cd :: outer), ∀ b, env.frame = some b → b ∈ (envOf name scope L a cd :: outer).filterMap (·.frame) := fun env he b hb => List.mem_filterMap.mpr ⟨env, he, hb⟩
  have st : base.StaysIn (hideAll h ((envOf name scope L a cd :: outer).filterMap (·.frame))) := fun b o q => hideAll_get _ (K'.stays b o q) fun hm => by
    rw [(K'.frames.mem hm).1] at q; cases q
  have hl : ∀ q ∈ news, (hideAll h ((envOf name scope L a cd :: outer).filterMap (·.frame))).get? q.1 = some q.2 ∧ (hideAll h (news.map (·.1))).get? q.1 = none ∧ base.get? q.1 = none := fun q hq => by
    refine ⟨hideAll_get _ (N q hq).1 fun hm => ?_, hideAll_none _ (List.mem_map_of_mem hq), fresh_of_stays K.stays (N q hq).2.2⟩
    obtain ⟨env, he, hf⟩ := List.mem_filterMap.mp hm
    rcases List.mem_cons.mp he with rfl | he
    · exact (N q hq).2.1 (Option.some.inj hf).symm
    · obtain ⟨o, ho, _⟩ := (K.frames.mem (List.mem_filterMap.mpr ⟨env, he, hf⟩)).2
      rw [(N q hq).2.2] at ho; cases ho
  have hBG : ∀ b o, (hideAll h (news.map (·.1))).get? b = some o → b ∉ (envOf name scope L a cd :: outer).filterMap (·.frame) → (hideAll h ((envOf name scope L a cd :: outer).filterMap (·.frame))).get? b = some o := fun b o ek nmem => hideAll_get _ (of_hideAll _ ek) nmem
  obtain ⟨ob, tp, he, hcls, hd⟩ := hx.there
  have hen : (hideAll h ((envOf name scope L a cd :: outer).filterMap (·.frame))).get? e = none := by
    cases q : (hideAll h ((envOf name scope L a cd :: outer).filterMap (·.frame))).get? e with
    | none => rfl
    | some o => have := of_hideAll _ q; rw [hx.new] at this; cases this
  have hnews : ∀ q ∈ news, q.1 ≠ e := fun q hq z => by have := (N q hq).1; rw [z, hx.new] at this; cases this
  unfold noteFrame
  simp only [show (envOf name scope L a cd).frame = some L from rfl]
  refine wpAny_bind (wpAny_field he hd (x := .none) rfl ?_)
  rw [if_neg (by decide)]
  refine entryC (base := hideAll h ((envOf name scope L a cd :: outer).filterMap (·.frame))) (a0 := tp) (Around.frames_deeper K.stack) ((funFrames_hide K'.frames hin).of_keeps fun b o hb _ => ⟨o, hx.keeps b o hb, rfl⟩) rfl he (fun b o hb => hx.keeps b o (of_hideAll _ hb)) hen hd (by show 1 < 6; decide) rfl fun h₁ T₁ k1 k2 k3 k4 k5 => ?_
  rw [hcls] at k3
  refine landsC (s := { s' with heap := h₁ }) k1 hen k2 k3 k5 fun h₂ fl₂ sm₂ c₂ => ?_
  have hsm₂ : (hideAll h (news.map (·.1))).UpToSlots h₂ := (Heap.UpToSlots.of_keeps fun b o ek => hx.keeps b o (of_hideAll _ ek)).trans (k4.trans sm₂)
  have R : RaisedSN base (hideAll h (news.map (·.1))) (envOf name scope L a cd :: outer) e (.type X) news h₂ := ⟨_, tp, st, hBG, hl, fl₂⟩
  obtain ⟨g₅, T₅, F₅, K₅⟩ := kts_ground K FG hBG fl₂.1 hsm₂
  refine wpAny_handleBy_cons (codeAny_handlers_test (T _ _ _ _ g₅ e m F₅ (XB.keeps K₅.stays) (topRead_of (TB.keeps K₅.stays)) R.ty fun h₅ kp => ?_)) (by intro q; cases q)
  have hsm₅ := hsm₂.trans (Heap.UpToSlots.of_keeps kp)
  have fl₅ := flying_keeps fl₂ kp
  refine codeAny_handlers_suite ?_
  refine landsC fl₅.1 fl₅.2.1 fl₅.2.2.1 fl₅.2.2.2.at (kp _ _ c₂) fun h₆ hfl₆ hsm₆ c₆ => ?_
  have hLn : (hideAll h ((envOf name scope L a cd :: outer).filterMap (·.frame))).get? L = none := by
    obtain ⟨_, ⟨L', _, hf, hn', _⟩, _⟩ := hfl₆.2.2.1
    obtain rfl : L = L' := Option.some.inj hf
    exact hn'
  obtain ⟨g₆, T₆, F₆, K₆⟩ := kts_ground K FG hBG hfl₆.1 (hsm₅.trans hsm₆)
  have Nl : News g₆ L h₆ news := fun q hq => ⟨hfl₆.1 _ _ (hl q hq).1, (fun z => by have := (hl q hq).1; rw [z, hLn] at this; cases this), T₆.none_ _ (kts_none FG.keep (hl q hq).2.1)⟩
  have dC := Obj.data_mapFields hd (·.setIfInBounds 1 (Value.ref T₁))
  have ne₆ : g₆.get? e = none := T₆.none_ _ (kts_fresh FG hBG hfl₆.2.1 fun o ho mm => by
    obtain ⟨_, o', ho', hdd⟩ := K.frames.mem mm
    rw [ho] at ho'
    cases ho'
    obtain ⟨sl, hs⟩ := (hsm₅.trans hsm₆) _ _ (FG.keep _ _ ho) hdd
    rw [c₆] at hs
    have z := congrArg Obj.data (Option.some.inj hs)
    rw [dC] at z
    exact hdd _ z.symm)
  have N₆ := News.more F₆ Nl c₆ (fun es n q => by rw [dC] at q; cases q) ne₆
  exact wpAny_passesOwnAt hE (k h₆ g₆ _ _ (T0.trans T₆) F₆ N₆ dC (by simp) hnews K₆ (XB.keeps K₆.stays) (TB.keeps K₆.stays) (D.turn T₆))
end
section
variable {prog : Program} {w : World} {A : Around} {E : Value → Shared → Prop} {s : Shared} {env : Env}
/-- what a value must be to be raised while another exception is handled -/
noncomputable def RaisableC (b : Addr) (E : Value → Shared → Prop) (v : Value) (s₁ : Shared) : Prop :=
  ∃ a ob vs X N I ox ws, ExcClass X N I ∧ v = .ref a ∧ s₁.heap.get? a = some ob ∧ ob.cls = .type X ∧ ob.data = .fields vs ∧ vs[1]? = some .none ∧ 2 < vs.size ∧ s₁.heap.get? b = some ox ∧ ox.data = .fields ws ∧ ws[2]? = some .none ∧ a ≠ b ∧
    E (.ref a) { s₁ with heap := s₁.heap.update a (Obj.mapFields (·.setIfInBounds 2 (.ref b))) }
theorem entry_unchain : entryFor table "proto.unchain" = some Builtin.«proto.unchain» := entryFor_of_tree (by kernel_rfl)
theorem plain_unchain : plainId "proto.unchain" = true := by decide +kernel
theorem raise_ctx {e : Expr} {pos : Pos} {Q : Flow → Shared → Prop} {b : Addr} (hh : A.handled = some (.ref b))
    (h : wpAny (model prog w) A (eval e env) (RaisableC b E) E s) : wpAny (model prog w) A (exec (.Raise (some e) none pos) env) Q E s := by
  show wpAny (model prog w) A (do standAt pos; raiseStmt env (some (do let v ← eval e env; standAt pos; pure v)) none) Q E s
  refine wpAny_bind (wpAny_standAt ?_)
  unfold raiseStmt
  dsimp only
  refine wpAny_bind (wpAny_bind (wpAny_mono h (fun v s₁ h₁ => wpAny_bind (wpAny_standAt (wpAny_pure ?_))) fun _ _ x => x))
  obtain ⟨a, ob, vs, X, N, I, ox, ws, hc, rfl, ha, hcls, hd, h1, h2, hb, hbd, hb2, hab, hE⟩ := h₁
  have hT : s₁.TypeIs (.ref a) X := ⟨ob, ha, hcls⟩
  have hnt : ∀ {Q' : Bool → Shared → Prop}, Q' false s₁ → wpAny (model prog w) A (isType (.ref a)) Q' E s₁ := by
    intro Q' hq
    simp only [isType, loadHead]
    refine wpAny_bind (wpAny_loadPart ha ?_)
    rw [hd]; exact wpAny_pure hq
  refine wpAny_bind (wpAny_pure ?_)
  dsimp only
  refine wpAny_bind (wpAny_holding ?_)
  unfold excFromValue isExcClass
  refine wpAny_bind (wpAny_bind (hnt ?_))
  simp only [Bool.false_eq_true, if_false]
  refine wpAny_pure ?_
  simp only [Bool.false_eq_true, if_false]
  refine wpAny_bind (wpAny_isInstance hT hc.base ?_)
  simp only [if_true]
  refine wpAny_pure ?_
  refine wpAny_bind (hnt ?_)
  simp only [Bool.false_eq_true, if_false]
  unfold raisedInstance
  refine wpAny_bind (wpAny_bind (wpAny_typeOf hT (wpAny_bind (m := typeOf (.type X)) (wpAny_pure ?_))))
  rw [if_pos hc.metaType]
  refine wpAny_pure ?_
  unfold setFlight raiseNew
  refine wpAny_bind (wpAny_bind (wpAny_field ha hd h1 ?_))
  rw [if_neg (by decide)]
  refine wpAny_pure (wpAny_bind (wpAny_handled ?_))
  rw [hh]
  have e1 : (Value.ref b != Value.ref a) = true := by simp [Ne.symm hab]
  dsimp only
  rw [if_pos e1]
  refine wpAny_bind (wpAny_holding (wpAny_runValue (codeAny_builtin entry_unchain ?_)))
  rw [Around.under_plainId plain_unchain _]
  unfold Builtin.«proto.unchain»
  refine wpAny_bind (wpAny_field hb hbd hb2 ?_)
  refine KFB.if_so rfl ?_
  refine wpAny_bind (wpAny_pure ?_)
  refine wpAny_pure ?_
  refine wpAny_bind ?_
  show wpAny _ _ (setField (.ref a) 2 (.ref b)) _ _ _
  exact wpAny_setField ha hd h2 (wpAny_throw hE)
/-- a new exception, whatever its context -/
structure NewE (h h' : Heap) (e : Addr) (X : String) : Prop where
  keeps : ∀ b o, h.get? b = some o → h'.get? b = some o
  new : h.get? e = none
  there : ∃ ob vs a0, h'.get? e = some ob ∧ ob.cls = .type X ∧ ob.data = .fields vs ∧ vs[0]? = some a0 ∧ vs[1]? = some .none
theorem raisableC_of {h₀ : Heap} {L b e : Addr} {oC : Obj} {ws : Array Value} {news : Led} {X N I : String} {h' : Heap} (hc : ExcClass X N I) (x : Heap.NewExc s.heap h' e X) (Nn : News h₀ L s.heap news) (hm : (b, oC) ∈ news) (hd : oC.data = .fields ws) (h2 : ws[2]? = some .none)
    (k : ∀ h'', NewE s.heap h'' e X → E (.ref e) { s with heap := h'' }) : RaisableC b E (.ref e) { s with heap := h' } := by
  obtain ⟨ob, t, ho, hcl, hdd⟩ := x.there
  have hb := (Nn _ hm).1
  have hne : e ≠ b := fun q => by have := x.new; rw [q, hb] at this; cases this
  refine ⟨e, ob, _, X, N, I, oC, ws, hc, rfl, ho, hcl, hdd, rfl, (by show 2 < 6; decide), x.keeps _ _ hb, hd, h2, hne, k _ ⟨fun c o ho' => (Heap.get?_update_other _ _ (fun q => ?_)).trans (x.keeps c o ho'), x.new, ?_⟩⟩
  · rw [← q, x.new] at ho'; cases ho'
  · have hd₃ := Obj.data_mapFields hdd (·.setIfInBounds 2 (Value.ref b))
    exact ⟨_, _, t, Heap.get?_update_self _ ho (Obj.isFreed_of_fields hd₃), (Obj.cls_mapFields _ _).trans hcl, hd₃, rfl, rfl⟩
end
section
variable {M : Model} {A : Around} {E : Value → Shared → Prop} {s' : Shared} {base g h : Heap} {outer : List Env} {L a e : Addr} {m : Str → Option Value} {name : Str} {scope : Scope} {cd : Value} {Q : Unit → Shared → Prop} {news : Led}
theorem leave_newE {cls : String} (K : Below A base outer g) (hx : NewE h s'.heap e cls) (F : Fr g L h m) (N : News g L h news)
    (hQ : ∀ h', RaisedSN base g outer e (.type cls) news h' → g.UpToSlots h' → Q () { s' with heap := h' }) (hk : scope.kind = .function := by rfl) :
    wpAny M (A.deeper (envOf name scope L a cd)) (leaving (envOf name scope L a cd) (.ref e)) Q E s' := by
  have K' := K.push (name := name) (a := a) (cd := cd) F hk
  have hin : ∀ env ∈ (envOf name scope L a cd :: outer), ∀ b, env.frame = some b → b ∈ (envOf name scope L a cd :: outer).filterMap (·.frame) := fun env he b hb => List.mem_filterMap.mpr ⟨env, he, hb⟩
  have st : base.StaysIn (hideAll h ((envOf name scope L a cd :: outer).filterMap (·.frame))) := fun b o q => hideAll_get _ (K'.stays b o q) fun hm => by
    rw [(K'.frames.mem hm).1] at q; cases q
  have sg : ∀ b o, g.get? b = some o → b ∉ outer.filterMap (·.frame) → (hideAll h ((envOf name scope L a cd :: outer).filterMap (·.frame))).get? b = some o := fun b o q nm => hideAll_get _ (F.keep b o q) fun hm => by
    rcases kts_mem hm with z | z
    · rw [z, kts_self F] at q
      cases q
    · exact nm z
  have hl : ∀ q ∈ news, (hideAll h ((envOf name scope L a cd :: outer).filterMap (·.frame))).get? q.1 = some q.2 ∧ g.get? q.1 = none ∧ base.get? q.1 = none := fun q hq => by
    refine ⟨hideAll_get _ (N q hq).1 fun hm => ?_, (N q hq).2.2, fresh_of_stays K.stays (N q hq).2.2⟩
    obtain ⟨env, he, hf⟩ := List.mem_filterMap.mp hm
    rcases List.mem_cons.mp he with rfl | he
    · exact (N q hq).2.1 (Option.some.inj hf).symm
    · obtain ⟨o, ho, _⟩ := (K.frames.mem (List.mem_filterMap.mpr ⟨env, he, hf⟩)).2
      rw [(N q hq).2.2] at ho; cases ho
  obtain ⟨ob, vs, a0, he, hcls, hd, h0, h1⟩ := hx.there
  have hen : (hideAll h ((envOf name scope L a cd :: outer).filterMap (·.frame))).get? e = none := by
    cases q : (hideAll h ((envOf name scope L a cd :: outer).filterMap (·.frame))).get? e with
    | none => rfl
    | some o => have := of_hideAll _ q; rw [hx.new] at this; cases this
  refine wpAny_leaving_firstW (a0 := a0) K'.stack ((funFrames_hide K'.frames hin).of_keeps fun b o hb _ => ⟨o, hx.keeps b o hb, rfl⟩) rfl he (fun b o hb => hx.keeps b o (of_hideAll _ hb)) hen hd h1 h0 fun h' hL => ?_
  obtain ⟨k1, ⟨_, _, k2⟩, k3, k4⟩ := hL
  exact hQ h' ⟨_, a0, st, sg, hl, k1, hen, k2, by rw [← hcls]; exact k3⟩ (((Heap.UpToSlots.of_keeps F.keep).trans (Heap.UpToSlots.of_keeps hx.keeps)).trans k4)
end
theorem unturn {base g g' h : Heap} {l : List Env} {e : Addr} {cls : Value} {news : Led} (T : KtsTurn (frs l) g g') (R : RaisedSN base g' l e cls news h) : RaisedSN base g l e cls news h := by
  obtain ⟨B, a0, h1, h2, h3, h4⟩ := R
  refine ⟨B, a0, h1, fun b o ek nm => h2 b o (T.other b o ek nm) nm, fun q hq => ⟨(h3 q hq).1, ?_, (h3 q hq).2.2⟩, h4⟩
  cases q' : g.get? q.1 with
  | none => rfl
  | some o =>
    obtain ⟨sl, hs⟩ := T.up q'
    have := (h3 q hq).2.1
    rw [hs] at this
    cases this
theorem unturnU {g g' h : Heap} {fs : List Addr} (T : KtsTurn fs g g') (U : g'.UpToSlots h) : g.UpToSlots h := fun b o ek nd => by
  obtain ⟨sl, hs⟩ := T.up ek
  exact (Heap.UpToSlots.trans (fun _ _ e _ => ⟨_, e⟩ : g'.UpToSlots g') U) b _ hs nd |>.elim fun sl' h' => ⟨sl', h'⟩
end
section
theorem in_err_v {M : Model} {A : Around} {E : Value → Shared → Prop} {s : Shared} {x v : Value} {t : Tok} {Q : Value → Shared → Prop} (hv : v = .int 5 t ∨ v = .none) (hh : A.handled = none)
    (h : ∀ h' tk e, Heap.NewExc s.heap h' e "TypeError" → E (.ref e) { s with heap := h', toks := tk }) : wpAny M A (compareOp .In x v) Q E s := by
  rcases hv with rfl | rfl
  · exact in_err_int hh h
  · exact in_err_none hh h
noncomputable def LBx (x : Str) (n : Nat) : Prop := x.length ≤ n
theorem lb_app {x y : Str} {n k : Nat} (h : LBx x n) (h' : LBx y k) : LBx (x ++ y) (n + k) := by
  unfold LBx at h h' ⊢
  show (x.cps ++ y.cps).size ≤ _
  rw [Array.size_append]
  exact Nat.add_le_add h h'
theorem lb_of {x : Str} (h : x.length ≤ 20) : LBx x 100 := Nat.le_trans h (by decide)
theorem lb_lit {x : Str} (h : x.length ≤ 100) : LBx x 100 := h
theorem le_sz {x : Str} {n : Nat} (h : LBx x n) (hn : n ≤ sizeLine) : x.length ≤ sizeLine := Nat.le_trans h hn
theorem repr_v {prog : Program} {w : World} {A : Around} {E : Value → Shared → Prop} {s : Shared} {v : Value} {t : Tok} {Q : Value → Shared → Prop} (hv : v = .int 5 t ∨ v = .none)
    (h : ∀ x t' tk, x.length ≤ 20 → Q (.str x t') { s with toks := tk }) : wpAny (model prog w) A (pyReprObj v) Q E s := by
  rcases hv with rfl | rfl
  · walk1
    exact h _ _ _ (by decide +kernel)
  · walk1
    exact h _ _ _ (by decide +kernel)
theorem type_v {prog : Program} {w : World} {A : Around} {E : Value → Shared → Prop} {s : Shared} {v : Value} {t : Tok} {Q : Value → Shared → Prop} (hv : v = .int 5 t ∨ v = .none)
    (h : ∀ T, T = "int" ∨ T = "NoneType" → Q (.type T) s) : wpAny (model prog w) A (call (.type "type") [v]) Q E s := by
  rcases hv with rfl | rfl
  · walk1
    exact h _ (.inl rfl)
  · walk1
    exact h _ (.inr rfl)
theorem name_v {w : World} {A : Around} {E : Value → Shared → Prop} {s : Shared} {T : String} {ex : Bool} {h₀ : Heap} {L : Addr} {m : Str → Option Value} {Q : Value → Shared → Prop} (hT : T = "int" ∨ T = "NoneType") (hF : Fr h₀ L s.heap m) (hK : (hd.heap_1 w.params).In h₀)
    (h : ∀ x t' tk, x.length ≤ 20 → Q (.str x t') { s with toks := tk }) : wpAny (model PySem.Challenge.pw_ik0168_01 w) A (getAttr (.type T) (Str.ofString "__name__") ex) Q E s := by
  rcases hT with rfl | rfl
  · walk1
    exact h _ _ _ (by decide +kernel)
  · walk1
    exact h _ _ _ (by decide +kernel)
/-- the common shape of the five writers: a test on the text, inside a try that turns TypeError into the refusal -/
noncomputable abbrev wrBody (a1 a2 a3 a4 a5 a6 a7 a8 a9 b1 b2 b3 b4 : Pos) (bd rest : List Stmt) : List Stmt :=
  [.Try (.If (.Compare (.Constant (.str (.ofString "&")) 0 a1) [.In] [.Name (.ofString "text") a2] a3) bd [] a4 :: rest)
    [.ExceptHandler (some (.Tuple [.Name (.ofString "TypeError") a5, .Name (.ofString "AttributeError") a6] 0 a7)) none [.Expr (.Call (.Name (.ofString "_raise_serialization_error") a8) [.Name (.ofString "text") a9] [] b1) b2] b3] [] [] b4]
noncomputable abbrev wrScope : Scope := { kind := .function, names := [(.ofString "text", .local), (.ofString "TypeError", .globalImplicit), (.ofString "AttributeError", .globalImplicit), (.ofString "_raise_serialization_error", .globalImplicit)], isGenerator := false, isCoroutine := false }
noncomputable def RefOk (w : World) (p : Program) (loose : List Str) (mean : ExcName → Option Value) (mg mb : Str → Option Value) (wa : Addr) : Prop :=
  ∀ (v : Value) (tn : Tok), v = .int 5 tn ∨ v = .none → ∀ (news : Led) (cn : Str) (nms : List (Str × NameKind)) (ig ic : Bool) (mo : List (Str × Const)) (a : Addr) (ccd : Value) (cl : List (Str × Addr)) (outer : List Env) (A₀ : Around) (base h₀ : Heap) (L : Addr) (m : Str → Option Value) (s : Shared) (Q E : Value → Shared → Prop),
    Below A₀ base outer h₀ → Fr h₀ L s.heap m → (hd.heap_1 w.params).In h₀ → News h₀ L s.heap news → Top p loose mean mg mb h₀ → KtsDicts (frs outer) h₀ → (hd.heap_1 w.params).In base → Top p loose mean mg mb base → 0 < s.toks →
    (∀ (h₀' h' : Heap) (tk' : Nat), KtsTurn (frs outer) h₀ h₀' → Fr h₀' L h' m → News h₀' L h' news → Below A₀ base outer h₀' → 0 < tk' → Q (.bool true) { s with heap := h', toks := tk' }) →
    wpAny (model PySem.Challenge.pw_ik0168_01 w) (ktrTop 370 3700 (some []) cn { kind := .function, names := nms, isGenerator := ig, isCoroutine := ic, more := mo } L a ccd cl outer) (call (.ref 851) [.ref wa, v]) Q E s
theorem c_refG (w : World) (p : Program) (loose : List Str) (mean : ExcName → Option Value) (mg mb : Str → Option Value) {f : Addr} {q : Str} {a0 a1 a2 a3 a4 a5 a6 a7 a8 a9 b1 b2 b3 b4 : Pos} {bd rest : List Stmt} {cdv : Value} (hkp : keepIn (hd.heap_1 w.params) (.ref f) = true)
    (hl : (hd.heap_1 w.params).lookup f = some ⟨.type "function", none, .func (fnOf q q ⟨[], [⟨.ofString "text", none, a0⟩], none, [], [], none, []⟩ (wrBody a1 a2 a3 a4 a5 a6 a7 a8 a9 b1 b2 b3 b4 bd rest) wrScope .none .none .none (.str (.ofString "cpy313.xml.etree.ElementTree") 331) none cdv .none), #[]⟩)
    (hcd : codeIn (hd.heap_1 w.params) cdv q = true) (v : Value) (tn : Tok) (hv : v = .int 5 tn ∨ v = .none) (news : Led)
    (cn : Str) (nms : List (Str × NameKind)) (ig ic : Bool) (mo : List (Str × Const)) (a : Addr) (ccd : Value) (cl : List (Str × Addr)) (outer : List Env) (A₀ : Around) (base h₀ : Heap) (L : Addr) (m : Str → Option Value) (s : Shared) (Q E : Value → Shared → Prop)
    (hBl : Below A₀ base outer h₀) (hF : Fr h₀ L s.heap m) (hK : (hd.heap_1 w.params).In h₀) (hN : News h₀ L s.heap news) (hT : Top p loose mean mg mb h₀) (hD : KtsDicts (frs outer) h₀) (hKb : (hd.heap_1 w.params).In base) (hTb : Top p loose mean mg mb base) (ht : 0 < s.toks)
    (hret : ∀ (h₀' h' : Heap) (tk' : Nat), KtsTurn (frs outer) h₀ h₀' → Fr h₀' L h' m → News h₀' L h' news → Below A₀ base outer h₀' → 0 < tk' → Q (.bool true) { s with heap := h', toks := tk' }) :
    wpAny (model PySem.Challenge.pw_ik0168_01 w) (ktrTop 370 3700 (some []) cn { kind := .function, names := nms, isGenerator := ig, isCoroutine := ic, more := mo } L a ccd cl outer) (call (.ref 851) [.ref f, v]) Q E s := by
  refine tok_keep ?_
  refine wpAny_call ?_
  k_dflt (refine' enterG hBl hF hK hN hT hD ?kA ?k6 ?k7 ?k8 ?k9 ?kB ?_ ?c2 ?c3 ?c4 ?c5 ?c6; (case kA => exact rfl); (case k6 => k_is); (case k7 => k_is); (case k8 => ktr_room); (case k9 => first | exact BindsTo.of_eq rfl | exact binds_K (by k_in) rfl (by k_is) rfl rfl rfl); (case kB => exact locs rfl); (case c2 => exact rfl); (case c3 => exact rfl); (case c4 => exact rfl); (case c5 => exact rfl); (case c6 => decide); k_whole)
  intro g' L' h' FG' F' N' B' X' T' D'
  (try dsimp only)
  (try k_fold)
  repeat' ((fail_if_success (with_reducible show wpAny _ _ (call (Value.ref f) _) _ _ _)); (first | (k_unfold; (try dsimp only)) | (k_end; wrow_close) | ((with_reducible show wpAny _ _ (callWith _ (Value.ref f) _ _ _) _ _ _); (k_here; k_dflt (refine' callWith_K ?k1 ?k2 ?_; (case k1 => k_asm); (case k2 => assumption); k_whole))) | walk1 | (dsimp only; first | ((with_reducible show wpAny _ _ (callWith _ (Value.ref f) _ _ _) _ _ _); (k_here; k_dflt (refine' callWith_K ?k1 ?k2 ?_; (case k1 => k_asm); (case k2 => assumption); k_whole))) | walk1)))
  refine wpAny_call ?_
  k_dflt (refine' code_defS ?k1 ?k2 ?k3 ?k4 ?k5 ?XB ?TB ?D ?T0 ?kA ?k6 ?k7 ?k8 ?k9 ?kB ?_ ?cK ?c2 ?c3 ?c4 ?c5; (case kA => exact rfl); (case k2 => k_asm); (case k1 => k_asm); (case XB => assumption); (case TB => assumption); (case D => assumption); (case T0 => first | assumption | exact KtsTurn.refl); (case k3 => k_asm); (case k4 => k_asm); (case k5 => k_asm); (case k6 => exact hl); (case k7 => exact hcd); (case k8 => k_room); (case k9 => first | exact BindsTo.of_eq rfl | exact binds_K (by k_in) rfl (by k_is) rfl rfl rfl); (case kB => exact locs rfl); (case cK => exact rfl); (case c2 => exact rfl); (case c3 => exact rfl); (case c4 => exact rfl); (case c5 => decide); k_whole; intro _ _ _ _ _ _ B' _ _ _; (try dsimp only); (try k_lift B'); (try k_fold))
  repeat' ((fail_if_success (with_reducible show wpAny _ _ (leaving _ _) _ _ _)); (first | (k_unfold; (try dsimp only)) | (k_end; wrow_close) | ((with_reducible show wpAny _ _ (compareOp CmpOp.In _ _) _ _ _); (k_here; (refine in_err_v (by assumption) rfl ?_); intro _ _ _ _)) | ((with_reducible show wpAny _ _ (call (Value.type "TypeError") _ _) _ _ _); (k_here; k_dflt (refine' call_exc excClass_TypeError ?_ ?sz; (case sz => exact Nat.le_of_ble_eq_true rfl)); intro _ _ nX; k_dflt (refine' raisableC_of excClass_TypeError nX ?rN (.head _) ?rd ?rc ?_; (case rN => k_asm); (case rd => assumption); (case rc => assumption)); intro _ _; clear nX)) | ((with_reducible show wpAny _ _ (exec (Stmt.Raise _ _ _) _) _ _ _); (k_here; refine raise_ctx rfl ?_)) | ((with_reducible show wpAny _ _ (noteFrame _ _) _ _ _); (k_here; (rename Heap.NewExc _ _ _ _ => nX); k_dflt (refine' catchC (p := _) (loose := _) (mean := _) ?K nX ?F ?N ?XB ?TB ?D ?T0 ?T ?_; (case K => assumption); (case F => assumption); (case N => k_asm); (case XB => assumption); (case TB => assumption); (case D => assumption); (case T0 => first | assumption | exact KtsTurn.refl); (case T => kts_test)); clear nX; intro _ _ _ _ _ _ _ _ _ _ K' _ _ _; (try k_lift K'); (try k_sweep))) | ((with_reducible show wpAny _ _ (getAttr (Value.type _) _ _) _ _ _); (k_here; k_dflt (refine' name_v (by assumption) ?kF ?kK ?_; (case kF => k_asm); (case kK => k_asm)); intro _ _ _ _; (try dsimp only))) | ((with_reducible show wpAny _ _ (call (Value.type "type") _ _) _ _ _); (k_here; refine type_v (by assumption) ?_; intro _ _; (try dsimp only))) | ((with_reducible show wpAny _ _ (pyReprObj _) _ _ _); (k_here; refine repr_v (by assumption) ?_; intro _ _ _ _; (try dsimp only))) | ((with_reducible show Str.length _ ≤ sizeLine ∧ _); refine ⟨le_sz (by repeat' (first | refine lb_app ?_ ?_ | exact lb_of (by assumption) | exact lb_lit (by decide +kernel))) (by decide +kernel), ?_⟩) | walk1 | (dsimp only; first | ((with_reducible show wpAny _ _ (compareOp CmpOp.In _ _) _ _ _); (k_here; (refine in_err_v (by assumption) rfl ?_); intro _ _ _ _)) | ((with_reducible show wpAny _ _ (call (Value.type "TypeError") _ _) _ _ _); (k_here; k_dflt (refine' call_exc excClass_TypeError ?_ ?sz; (case sz => exact Nat.le_of_ble_eq_true rfl)); intro _ _ nX; k_dflt (refine' raisableC_of excClass_TypeError nX ?rN (.head _) ?rd ?rc ?_; (case rN => k_asm); (case rd => assumption); (case rc => assumption)); intro _ _; clear nX)) | ((with_reducible show wpAny _ _ (exec (Stmt.Raise _ _ _) _) _ _ _); (k_here; refine raise_ctx rfl ?_)) | ((with_reducible show wpAny _ _ (noteFrame _ _) _ _ _); (k_here; (rename Heap.NewExc _ _ _ _ => nX); k_dflt (refine' catchC (p := _) (loose := _) (mean := _) ?K nX ?F ?N ?XB ?TB ?D ?T0 ?T ?_; (case K => assumption); (case F => assumption); (case N => k_asm); (case XB => assumption); (case TB => assumption); (case D => assumption); (case T0 => first | assumption | exact KtsTurn.refl); (case T => kts_test)); clear nX; intro _ _ _ _ _ _ _ _ _ _ K' _ _ _; (try k_lift K'); (try k_sweep))) | ((with_reducible show wpAny _ _ (getAttr (Value.type _) _ _) _ _ _); (k_here; k_dflt (refine' name_v (by assumption) ?kF ?kK ?_; (case kF => k_asm); (case kK => k_asm)); intro _ _ _ _; (try dsimp only))) | ((with_reducible show wpAny _ _ (call (Value.type "type") _ _) _ _ _); (k_here; refine type_v (by assumption) ?_; intro _ _; (try dsimp only))) | ((with_reducible show wpAny _ _ (pyReprObj _) _ _ _); (k_here; refine repr_v (by assumption) ?_; intro _ _ _ _; (try dsimp only))) | ((with_reducible show Str.length _ ≤ sizeLine ∧ _); refine ⟨le_sz (by repeat' (first | refine lb_app ?_ ?_ | exact lb_of (by assumption) | exact lb_lit (by decide +kernel))) (by decide +kernel), ?_⟩) | walk1)))
  k_unfold
  (try dsimp only)
  (first | ((with_reducible show wpAny _ _ (leaving _ _) _ _ _); (k_here; (refine' leave_newE ?k1 (by assumption) ?k2 ?k3 ?_; (case k1 => assumption); (case k2 => assumption); (case k3 => k_asm); k_whole); intro _ R' U'; (try dsimp only at R' U' ⊢))) | walk1)
  (try dsimp only)
  k_unfold
  (try dsimp only)
  walk1
  (try dsimp only)
  rename RaisedSN _ _ _ _ _ _ _ => rS
  rename Heap.UpToSlots _ _ => uU
  rename KtsTurn _ _ _ => tT
  have rS2 := unturn tT rS
  have uU2 := unturnU tT uU
  clear rS uU tT
  repeat' ((first | (k_unfold; (try dsimp only)) | (k_end; wrow_close) | walk1 | (dsimp only; walk1)))
  (try dsimp only)
  (try k_unfold)
  (try dsimp only)
  rename Fr _ _ _ _ => FZ
  rename News _ _ _ _ => NZ
  rename KtsTurn _ _ _ => TZ
  exact ⟨_, _, _, _, TZ, FZ, news_sub NZ (fun q h => .tail _ h), fun h₂ T2 F2 N2 B2 hle => hret h₂ _ _ T2 F2 N2 B2 (Nat.lt_of_lt_of_le ht hle)⟩
theorem c_ref58 (w : World) (p : Program) (loose : List Str) (mean : ExcName → Option Value) (mg mb : Str → Option Value) : RefOk w p loose mean mg mb 58 := by
  intro v tn hv news cn nms ig ic mo a ccd cl outer A₀ base h₀ L m s Q E hBl hF hK hN hT hD hKb hTb ht hret
  refine' c_refG w p loose mean mg mb ?hk ?hl ?hcd v tn hv news cn nms ig ic mo a ccd cl outer A₀ base h₀ L m s Q E hBl hF hK hN hT hD hKb hTb ht hret
  case hl => k_is
  case hk => k_is
  case hcd => k_is
theorem c_ref65 (w : World) (p : Program) (loose : List Str) (mean : ExcName → Option Value) (mg mb : Str → Option Value) : RefOk w p loose mean mg mb 65 := by
  intro v tn hv news cn nms ig ic mo a ccd cl outer A₀ base h₀ L m s Q E hBl hF hK hN hT hD hKb hTb ht hret
  refine' c_refG w p loose mean mg mb ?hk ?hl ?hcd v tn hv news cn nms ig ic mo a ccd cl outer A₀ base h₀ L m s Q E hBl hF hK hN hT hD hKb hTb ht hret
  case hl => k_is
  case hk => k_is
  case hcd => k_is
theorem c_ref72 (w : World) (p : Program) (loose : List Str) (mean : ExcName → Option Value) (mg mb : Str → Option Value) : RefOk w p loose mean mg mb 72 := by
  intro v tn hv news cn nms ig ic mo a ccd cl outer A₀ base h₀ L m s Q E hBl hF hK hN hT hD hKb hTb ht hret
  refine' c_refG w p loose mean mg mb ?hk ?hl ?hcd v tn hv news cn nms ig ic mo a ccd cl outer A₀ base h₀ L m s Q E hBl hF hK hN hT hD hKb hTb ht hret
  case hl => k_is
  case hk => k_is
  case hcd => k_is
theorem c_ref79 (w : World) (p : Program) (loose : List Str) (mean : ExcName → Option Value) (mg mb : Str → Option Value) : RefOk w p loose mean mg mb 79 := by
  intro v tn hv news cn nms ig ic mo a ccd cl outer A₀ base h₀ L m s Q E hBl hF hK hN hT hD hKb hTb ht hret
  refine' c_refG w p loose mean mg mb ?hk ?hl ?hcd v tn hv news cn nms ig ic mo a ccd cl outer A₀ base h₀ L m s Q E hBl hF hK hN hT hD hKb hTb ht hret
  case hl => k_is
  case hk => k_is
  case hcd => k_is
theorem c_ref86 (w : World) (p : Program) (loose : List Str) (mean : ExcName → Option Value) (mg mb : Str → Option Value) : RefOk w p loose mean mg mb 86 := by
  intro v tn hv news cn nms ig ic mo a ccd cl outer A₀ base h₀ L m s Q E hBl hF hK hN hT hD hKb hTb ht hret
  refine' c_refG w p loose mean mg mb ?hk ?hl ?hcd v tn hv news cn nms ig ic mo a ccd cl outer A₀ base h₀ L m s Q E hBl hF hK hN hT hD hKb hTb ht hret
  case hl => k_is
  case hk => k_is
  case hcd => k_is
end
section
set_option maxHeartbeats 8000000 in
theorem srch1 (w : World) {fr : Option (List Env)} {gd : Option (List Code)} {Q E : Value → Shared → Prop} {s : Shared} (hX : (hd.heap_1 w.params).In s.heap) (t1 : Tok)
    (X9 : ∀ {a : Addr} {tk : Nat} {h' : Heap} {nw : List (Addr × Obj)}, X.Mem s.heap h' [] nw → Q (.ref a) { s with heap := h', toks := tk }) :
    wpAny (model PySem.Challenge.pw_ik0168_01 w) ⟨none, 400, fr, gd, 4000⟩ (call (.ref 818) [.str (Str.ofString "*&lt;*") t1]) Q E s := by
  x_run
set_option maxHeartbeats 8000000 in
theorem srch2 (w : World) {fr : Option (List Env)} {gd : Option (List Code)} {Q E : Value → Shared → Prop} {s : Shared} (hX : (hd.heap_1 w.params).In s.heap) (t1 : Tok)
    (X9 : ∀ {a : Addr} {tk : Nat} {h' : Heap} {nw : List (Addr × Obj)}, X.Mem s.heap h' [] nw → Q (.ref a) { s with heap := h', toks := tk }) :
    wpAny (model PySem.Challenge.pw_ik0168_01 w) ⟨none, 400, fr, gd, 4000⟩ (call (.ref 818) [.str (Str.ofString "*&quot;*") t1]) Q E s := by
  x_run
set_option maxHeartbeats 8000000 in
theorem srch3 (w : World) {fr : Option (List Env)} {gd : Option (List Code)} {Q E : Value → Shared → Prop} {s : Shared} (hX : (hd.heap_1 w.params).In s.heap) (t1 : Tok)
    (X9 : ∀ {a : Addr} {tk : Nat} {h' : Heap} {nw : List (Addr × Obj)}, X.Mem s.heap h' [] nw → Q (.ref a) { s with heap := h', toks := tk }) :
    wpAny (model PySem.Challenge.pw_ik0168_01 w) ⟨none, 400, fr, gd, 4000⟩ (call (.ref 818) [.str (Str.ofString "*&#*") t1]) Q E s := by
  x_run
set_option maxHeartbeats 8000000 in
theorem srch4 (w : World) {fr : Option (List Env)} {gd : Option (List Code)} {Q E : Value → Shared → Prop} {s : Shared} (hX : (hd.heap_1 w.params).In s.heap) (t1 : Tok)
    (X9 : ∀ {a : Addr} {tk : Nat} {h' : Heap} {nw : List (Addr × Obj)}, X.Mem s.heap h' [] nw → Q (.ref a) { s with heap := h', toks := tk }) :
    wpAny (model PySem.Challenge.pw_ik0168_01 w) ⟨none, 400, fr, gd, 4000⟩ (call (.ref 818) [.str (Str.ofString "*[<>\"]*") t1]) Q E s := by
  x_run
set_option maxHeartbeats 8000000 in
theorem srch5 (w : World) {fr : Option (List Env)} {gd : Option (List Code)} {Q E : Value → Shared → Prop} {s : Shared} (hX : (hd.heap_1 w.params).In s.heap) (t1 : Tok)
    (X9 : ∀ {a : Addr} {tk : Nat} {h' : Heap} {nw : List (Addr × Obj)}, X.Mem s.heap h' [] nw → Q (.ref a) { s with heap := h', toks := tk }) :
    wpAny (model PySem.Challenge.pw_ik0168_01 w) ⟨none, 400, fr, gd, 4000⟩ (call (.ref 818) [.str (Str.ofString "*[\x0d\n\t]*") t1]) Q E s := by
  x_run
/-- the five patterns -/
noncomputable def QuoOk (y : Str) : Prop := y = (Str.ofString "*&lt;*") ∨ y = (Str.ofString "*&quot;*") ∨ y = (Str.ofString "*&#*") ∨ y = (Str.ofString "*[<>\"]*") ∨ y = (Str.ofString "*[\x0d\n\t]*")
noncomputable def quoted (y : Str) : Str := Str.ofString "'" ++ y ++ Str.ofString "'"
theorem quo_facts {y : Str} (h : QuoOk y) : y.length ≤ 10 ∧ 1 ≤ y.length ∧ 39 ∉ y.cps.toList := by
  rcases h with rfl | rfl | rfl | rfl | rfl <;> exact ⟨by decide +kernel, by decide +kernel, by decide +kernel⟩
theorem srch_set (w : World) {fr : Option (List Env)} {gd : Option (List Code)} {Q E : Value → Shared → Prop} {s : Shared} {y : Str} {t : Tok} (hy : QuoOk y) (hX : (hd.heap_1 w.params).In s.heap)
    (hret : ∀ a h' tk, s.toks ≤ tk → (∀ b o, s.heap.get? b = some o → h'.get? b = some o) → Q (.ref a) { s with heap := h', toks := tk }) :
    wpAny (model PySem.Challenge.pw_ik0168_01 w) ⟨none, 400, fr, gd, 4000⟩ (call (.ref 818) [.str y t]) Q E s := by
  refine tok_keep ?_
  have X9 : ∀ {a : Addr} {tk : Nat} {h' : Heap} {nw : List (Addr × Obj)}, X.Mem s.heap h' [] nw → s.toks ≤ tk → Q (.ref a) { s with heap := h', toks := tk } := fun D hle => hret _ _ _ hle fun b o e => D.keep b o e (by simp [X.away])
  rcases hy with rfl | rfl | rfl | rfl | rfl
  · exact srch1 w hX t fun D hle => X9 D hle
  · exact srch2 w hX t fun D hle => X9 D hle
  · exact srch3 w hX t fun D hle => X9 D hle
  · exact srch4 w hX t fun D hle => X9 D hle
  · exact srch5 w hX t fun D hle => X9 D hle
end
section
open PySem.Calls PySem.Spec
theorem enterP {prog : Program} {w : World} {A : Around} {s : Shared} {K : Frag} {p : Program} {loose : List Str} {mean : ExcName → Option Value} {mg mb : Str → Option Value}
    {R : Result → Shared → Prop} {name qual : Str} {params : Arguments} {body : List Stmt} {scope : Scope} {dV kV doc pm cdv ct oc : Value} {an od : Option Addr} {osl : Array (Option Value)} {f : Addr} {args : Args} {binds : List (Str × Value)}
    (X : K.In s.heap) (T : Top p loose mean mg mb s.heap)
    (ho : K.lookup f = some ⟨oc, od, .func (fnOf name qual params body scope dV kV doc pm an cdv ct), osl⟩) (hcd : codeIn K cdv qual = true) (hroom : A.depth < recursionLimit)
    (hbind : BindsTo s (fnOf name qual params body scope dV kV doc pm an cdv ct) args binds) (hloc : ∀ y ∈ binds, scope.names.lookup y.1 = some .local)
    (h : ∀ L' h₁, L' = s.heap.objs.size → Fr s.heap L' h₁ (fun y => binds.reverse.lookup y) → News s.heap L' h₁ [] →
      wpAny (model prog w) (A.deeper (envOf qual scope L' f cdv)) (execs body (envOf qual scope L' f cdv)) (fun fl s' => R (.ok (.ret (match fl with | .ret v => v | _ => .none))) s')
        (fun e s' => wpAny (model prog w) (A.deeper (envOf qual scope L' f cdv)) (leaving (envOf qual scope L' f cdv) e) (fun _ s'' => R (.error e) s'') (fun e' s'' => R (.error e') s'') s')
        { s with heap := h₁, toks := s.toks + binds.length })
    (hco : scope.isCoroutine = false) (hgen : scope.isGenerator = false) (hk : scope.kind = .function)
    (hcell : ∀ x ∈ scope.names, x.2 ≠ .cell) : codeAny (model prog w) A (.call (.ref f) args) R s := by
  refine codeAny_call_def (fd := fnOf name qual params body scope dV kV doc pm an cdv ct) (body := body) (binds := binds) hroom (X _ _ ho) rfl T.nolimit (codeRec_of X hcd) rfl hbind hcell hloc (fun h₁ hns hk₁ => ?_) hco hgen hk
  exact h _ h₁ rfl ⟨hns, hk₁, Nat.le_refl _⟩ fun _ hp => nomatch hp
noncomputable abbrev bfO (id : String) (a : Addr) : Obj := { cls := .type "builtin_function_or_method", data := .fields #[.builtin id, .ref a] }
noncomputable def BfAt (x : Addr) (id : String) (a : Addr) (h : Heap) : Prop := h.get? x = some (bfO id a)
theorem bf_cw {M : Model} {A : Around} {E : Value → Shared → Prop} {s : Shared} {a : Addr} {id : String} {pos : Pos} {u : Addr} {first : List Value} {args : List (Bool × Sem Value)} {Q : Value → Shared → Prop} (hplain : args.any (·.1) = false)
    (h : wpAny M A (evalArgs (.ref u) true args []) (fun x s₁ => BfAt u id a s₁.heap ∧ wpAny M A (call (.ref u) (first ++ x.pos) x.kw) Q E s₁) E s) : wpAny M A (callWith pos (.ref u) first args []) Q E s := by
  have k1 : (Value.type "builtin_function_or_method" != Value.type "method") = true := by decide
  have k2 : (Value.type "builtin_function_or_method" == Value.type "builtin_function_or_method" || Value.type "builtin_function_or_method" == Value.type "method-wrapper") = true := by decide
  unfold callWith
  refine wpAny_bind (wpAny_holding (wpAny_mono h (fun x s₁ hq => wpAny_bind (wpAny_standAt ?_)) fun _ _ e => e))
  obtain ⟨ho, hcall⟩ := hq
  simp only [hplain, List.any_nil, Bool.or_false]
  refine wpAny_bind (m := keeperOf (.ref u)) ?_
  unfold keeperOf
  refine wpAny_bind (wpAny_load ho ?_)
  simp only [k1, k2, if_true]
  refine wpAny_pure ?_
  exact wpAny_bind (wpAny_mono hcall (fun r s₂ hr => wpAny_bind (wpAny_holding (wpAny_point (wpAny_pure hr)))) fun _ _ e => e)
theorem bf_callWith {M : Model} {A : Around} {E : Value → Shared → Prop} {s : Shared} {a u : Addr} {id : String} {pos : Pos} {first : List Value} {env : Env} {e : Expr} {rest : List Expr} {Q : Value → Shared → Prop} (_ : u = 818 ∧ id = "re.Pattern.search" ∧ a = 115)
    (h : wpAny M A (spliced (backTo pos (starEach (e :: rest) env))) (fun vs s₁ => BfAt u id a s₁.heap ∧ wpAny M A (call (.ref u) (first ++ vs)) Q E s₁) E s)
    (he : starEach (e :: rest) env = (false, eval e env) :: starEach rest env := by rfl) (hplain : (backTo pos (starEach rest env)).any (·.1) = false := by rfl) :
    wpAny M A (callWith pos (.ref u) first (backTo pos (starEach (e :: rest) env)) []) Q E s := by
  rw [he] at h ⊢
  refine bf_cw (a := a) (id := id) (by show (false || (backTo pos (starEach rest env)).any (·.1)) = false; rw [hplain]; rfl) ?_
  exact PySem.Calls.evalArgs_plain h
theorem l818 (p : Params) : (hd.heap_1 p).lookup 818 = some (bfO "re.Pattern.search" 115) := by kernel_rfl
theorem bfAt_of {p : Params} {h₀ h : Heap} {L : Addr} {m : Str → Option Value} (X : (hd.heap_1 p).In h₀) (F : Fr h₀ L h m) : BfAt 818 "re.Pattern.search" 115 h := (X.keeps F.keep) _ _ (l818 p)
theorem rep_none39 {y z : Str} (h : 39 ∉ y.cps.toList) : Txt.replace y (Str.ofString "'") z = y := by
  rw [show Str.ofString "'" = ⟨#[39]⟩ from by decide +kernel, replace_putS, putS_free (decide_eq_false h)]
theorem c_quote (w : World) (p : Program) (loose : List Str) (mean : ExcName → Option Value) (mg mb : Str → Option Value) {fr : Option (List Env)} {gd : Option (List Code)} {d u : Nat} (hdd : d ≤ 390) (huu : u ≤ 3900) {s : Shared} {Q E : Value → Shared → Prop} {y : Str} {t : Tok} (hy : QuoOk y)
    (X : (hd.heap_1 w.params).In s.heap) (T : Top p loose mean mg mb s.heap) 
    (hret : ∀ t' h' tk, s.toks ≤ tk → (∀ b o, s.heap.get? b = some o → h'.get? b = some o) → Q (.str (quoted y) t') { s with heap := h', toks := tk }) :
    wpAny (model PySem.Challenge.pw_ik0168_01 w) ⟨none, d, fr, gd, u⟩ (call (.ref 825) [.str y t]) Q E s := by
  obtain ⟨y1, y2, y3⟩ := quo_facts hy
  refine around_mono hdd huu ?_
  refine tok_keep ?_
  refine wpAny_call ?_
  k_dflt (refine' enterP X T ?k6 ?k7 ?k8 ?k9 ?kB ?_ ?c3 ?c4 ?c5 ?c6; (case k6 => k_is); (case k7 => k_is); (case k8 => (show 390 < recursionLimit; decide +kernel)); (case k9 => first | exact BindsTo.of_eq rfl | exact binds_K (by k_in) rfl (by k_is) rfl rfl rfl); (case kB => exact locs rfl); (case c3 => exact rfl); (case c4 => exact rfl); (case c5 => exact rfl); (case c6 => decide); k_whole)
  intro L' h₁ hL F N
  refine gen_tok (by show 0 < s.toks + 1; omega) ?_
  intro tk0 htk0
  (try dsimp only)
  (try k_fold)
  repeat' ((fail_if_success (with_reducible show wpAny _ _ (call (Value.builtin "str.replace") _) _ _ _)); (first | (k_unfold; (try dsimp only)) | (k_end; wrow_close) | ((with_reducible show BfAt _ _ _ _ ∧ _); k_dflt (refine' ⟨bfAt_of (by assumption) ?kF, ?_⟩; (case kF => k_asm)); (try dsimp only [List.nil_append, List.cons_append])) | ((with_reducible show wpAny _ _ (callWith _ (Value.ref _) _ _ _) _ _ _); (k_here; (with_reducible show wpAny _ _ (callWith _ (Value.ref 818) _ _ _) _ _ _); k_dflt (refine' bf_callWith ⟨rfl, rfl, rfl⟩ ?_; k_whole); (try dsimp only))) | ((with_reducible show wpAny _ _ (call (Value.ref _) _ _) _ _ _); (k_here; (with_reducible show wpAny _ _ (call (Value.ref 818) _) _ _ _); k_dflt (refine' around_mono ?kd ?ku (srch_set _ (by assumption) ?kX ?_); (case kd => exact Nat.le_of_ble_eq_true rfl); (case ku => exact Nat.le_of_ble_eq_true rfl); (case kX => exact Frag.In.keeps (by assumption) (Fr.keep (by k_asm)))); intro _ _ _ hts ks; rename Fr _ _ _ _ => FZ; have FY := FZ.keeps ks; rename News _ _ _ _ => NZ; have NY := news_keeps NZ ks; clear FZ NZ; (try dsimp only at hts ⊢))) | walk1 | (dsimp only; first | ((with_reducible show BfAt _ _ _ _ ∧ _); k_dflt (refine' ⟨bfAt_of (by assumption) ?kF, ?_⟩; (case kF => k_asm)); (try dsimp only [List.nil_append, List.cons_append])) | ((with_reducible show wpAny _ _ (callWith _ (Value.ref _) _ _ _) _ _ _); (k_here; (with_reducible show wpAny _ _ (callWith _ (Value.ref 818) _ _ _) _ _ _); k_dflt (refine' bf_callWith ⟨rfl, rfl, rfl⟩ ?_; k_whole); (try dsimp only))) | ((with_reducible show wpAny _ _ (call (Value.ref _) _ _) _ _ _); (k_here; (with_reducible show wpAny _ _ (call (Value.ref 818) _) _ _ _); k_dflt (refine' around_mono ?kd ?ku (srch_set _ (by assumption) ?kX ?_); (case kd => exact Nat.le_of_ble_eq_true rfl); (case ku => exact Nat.le_of_ble_eq_true rfl); (case kX => exact Frag.In.keeps (by assumption) (Fr.keep (by k_asm)))); intro _ _ _ hts ks; rename Fr _ _ _ _ => FZ; have FY := FZ.keeps ks; rename News _ _ _ _ => NZ; have NY := news_keeps NZ ks; clear FZ NZ; (try dsimp only at hts ⊢))) | walk1)))
  rotate_left
  · exfalso; omega
  refine tok_keep ?_
  refine SC.replaceW (by show @Ne Nat _ _; omega) (by show @Ne Nat _ _; omega) (by show @Ne Nat _ _; omega) (by decide +kernel) (Nat.le_trans y1 (by decide)) (by decide +kernel) ?_
  intro t' kk hk
  rw [rep_none39 y3]
  (try dsimp only)
  repeat' ((first | (k_unfold; (try dsimp only)) | (k_end; wrow_close) | walk1 | (dsimp only; walk1)))
  rename Fr _ _ _ _ => FZ
  exact hret _ _ _ (by assumption) FZ.keep
end
section
open PySem.Calls PySem.Spec
noncomputable def fd825 (p : Params) : FuncData := match (hd.heap_1 p).lookup 825 with | some ⟨_, _, .func fd, _⟩ => fd | _ => default
theorem l825 (p : Params) : (hd.heap_1 p).lookup 825 = some ⟨.type "function", none, .func (fd825 p), #[]⟩ := by kernel_rfl
theorem elt_quote (w : World) (p : Program) (loose : List Str) (mean : ExcName → Option Value) (mg mb : Str → Option Value) {A : Around} {E Q : Value → Shared → Prop} {s : Shared} {m : Str → Option Value} {y : Str} {t : Tok} {cenv : Env} {p1 p2 p3 : Pos}
    (hA : A.handled = none) (hd' : A.depth ≤ 390) (hu : A.units ≤ 3900) (hk : cenv.scope.kind = .function) (hq : cenv.kindOf (Str.ofString "quote") = some .globalImplicit) (ha : cenv.kindOf (Str.ofString "arg") = some .local) (hg : cenv.globals = mainGlobals)
    (hns : s.heap.Ns cenv.locals m) (hm : m (Str.ofString "arg") = some (.str y t)) (hy : QuoOk y) (X : (hd.heap_1 w.params).In s.heap) (T : Top p loose mean mg mb s.heap)
    (hret : ∀ t' h' tk, s.toks ≤ tk → (∀ b o, s.heap.get? b = some o → h'.get? b = some o) → Q (.str (quoted y) t') { s with heap := h', toks := tk }) :
    wpAny (model PySem.Challenge.pw_ik0168_01 w) A (eval (.Call (.Name (Str.ofString "quote") p1) [.Name (Str.ofString "arg") p2] [] p3) cenv) Q E s := by
  obtain ⟨hn, dp, fr, gd, un⟩ := A
  dsimp only at hA hd' hu
  subst hA
  refine Call_Name1 ?_
  have e1 : nsIn (hd.heap_1 w.params) mainGlobals (Str.ofString "quote") = some (some (.ref 825)) := by kernel_rfl
  refine Name_function_global hk hq (loadGlobal_global (env := cenv) (mg := mg) (by rw [hg]; exact T.g) (mg_of X T.g e1) ?_)
  refine callWith_function (o := ⟨.type "function", none, .func (fd825 w.params), #[]⟩) (fd := fd825 w.params) ?_
  refine evalArgs_plain ?_
  refine spliced_cons (wpAny_Name (wpAny_loadName_local hk ha hns hm ?_) (by decide))
  show wpAny _ _ (pure []) _ _ _
  exact wpAny_pure ⟨⟨X _ _ (l825 _), rfl⟩, c_quote w p loose mean mg mb hd' hu hy X T hret⟩
/-- the table of join's nested code -/
noncomputable def TabJ (tb : Array Value) : Prop := tb = #[] ∨ ∃ c' : Addr, tb = #[rawInt 880, rawInt 20, .ref c']
/-- what the making of the generator's code leaves -/
inductive CodeR (s : Shared) (v : Value) (s' : Shared) : Prop
  | mk (c' : Addr) (tb : Array Value) (h' : Heap) (tk : Nat) (e1 : v = .ref c') (e2 : s' = { s with heap := h', toks := tk }) (e3 : (∀ b o, b ≠ 812 → s.heap.get? b = some o → h'.get? b = some o)) (e4 : h'.get? 812 = some (tabObj tb)) (e5 : TabJ tb) (e6 : s.heap.objs.size ≤ h'.objs.size) : CodeR s v s'
theorem triples_nil : TriplesOk (#[] : Array Value).toList := by first | exact True.intro | (simp [TriplesOk]; done)
theorem triples_one {a b : Int} {c : Value} : TriplesOk (#[rawInt a, rawInt b, c] : Array Value).toList := by first | exact True.intro | (simp [TriplesOk, rawInt]; done)
theorem gen_code {M : Model} {A : Around} {E : Value → Shared → Prop} {s : Shared} {env : Env} {pos : Pos} {q : Str} {scope : Scope} {tb : Array Value} {Q : Value → Shared → Prop} (hp : pos.line = 880 ∧ pos.col = 20) (hc : env.code = .ref 816) (hC : CodeHd s.heap 816 812) (hP : s.heap.get? 812 = some (tabObj tb)) (ht : TabJ tb)
    (h : ∀ v s', CodeR s v s' → Q v s') : wpAny M A (genexprCode env pos q scope) Q E s := by
  rcases ht with rfl | ⟨c', rfl⟩
  · have hok := hC.code hP triples_nil
    refine wpAny_genexprCodeX hc hok ?_ (by first | rfl | (simp [codeAmong]; done)) fun c' h' tk hx hge hlt hcode _ htab _ => h _ _ ⟨c', _, h', tk, rfl, rfl, hx, htab.2, .inr ⟨c', by rw [hp.1, hp.2]; rfl⟩, Nat.le_trans hge (Nat.le_of_lt hlt)⟩
    obtain ⟨o, vs, file, tf, flags, tg, inF, text, tt, ho, hcl, hd, h11, _⟩ := hC
    exact ⟨⟨o, vs, ho, hcl, hd, h11⟩, hP⟩
  · have hok := hC.code hP triples_one
    refine wpAny_codeAt_hit hc hok (c' := .ref c') (by simp [codeAmong, rawInt, hp.1, hp.2]) (h _ _ ⟨c', _, s.heap, s.toks, rfl, rfl, fun _ _ _ e => e, hP, .inr ⟨c', rfl⟩, Nat.le_refl _⟩)
end
section
open PySem.Calls PySem.Spec
theorem c_join (w : World) (p : Program) (loose : List Str) (mean : ExcName → Option Value) (mg mb : Str → Option Value) (news : Led) (tb₀ : Array Value) (htb : TabJ tb₀) (hne : NeAll 812 news) (a0 : Addr) (its : Array Value) (n : Nat) (ys : List Str) (hm0 : (a0, W.listOf its n) ∈ news) (hys : StrsAre its.toList ys) (hq : ∀ y ∈ ys, QuoOk y) (hsz : ys.length ≤ sizeLine) (hok : JoinOk (Str.ofString " ") (ys.map quoted) = true) :
    ∀ (dp un : Nat) (cn : Str) (cs : Scope) (a : Addr) (ccd : Value) (cl : List (Str × Addr)) (outer : List Env) (A₀ : Around) (base h₀ : Heap) (L : Addr) (m : Str → Option Value) (s : Shared) (Q E : Value → Shared → Prop),
    Below A₀ base outer h₀ → Fr h₀ L s.heap m → (hd.heap_1 w.params).In h₀ → News h₀ L s.heap ((812, tabObj tb₀) :: news) → Top p loose mean mg mb h₀ → cs.kind = .function → dp ≤ 370 → un ≤ 3700 → 0 < s.toks → AllBare s.gens → CodeHd h₀ 816 812 →
    (∀ (t : Tok) (s' : Shared) (tb : Array Value), s.toks ≤ s'.toks → s'.os = s.os → AllBare s'.gens → TabJ tb → Fr h₀ L s'.heap m → News h₀ L s'.heap ((812, tabObj tb) :: news) → Q (.str (Txt.join (Str.ofString " ") (ys.map quoted)) t) s') →
    wpAny (model PySem.Challenge.pw_ik0168_01 w) (ktrTop dp un (some []) cn cs L a ccd cl outer) (call (.ref 817) [.ref a0]) Q E s := by
  intro dp un cn cs a ccd cl outer A₀ base h₀ L m s Q E hB hF hK hN hT hk hdp hun ht hG hCd hret
  obtain ⟨kd, nms, ig, ico, mo⟩ := cs
  dsimp only at hk
  subst hk
  refine around_mono (d := 370) (u := 3700) hdp hun ?_
  refine tok_keep ?_
  refine wpAny_call ?_
  have X := hK.keeps hF.keep
  have T := hT.keeps hF.keep
  k_dflt (refine' enterP X T ?k6 ?k7 ?k8 ?k9 ?kB ?_ ?c3 ?c4 ?c5 ?c6; (case k6 => k_is); (case k7 => k_is); (case k8 => (show 370 < recursionLimit; decide +kernel)); (case k9 => first | exact BindsTo.of_eq rfl | exact binds_K (by k_in) rfl (by k_is) rfl rfl rfl); (case kB => exact locs rfl); (case c3 => exact rfl); (case c4 => exact rfl); (case c5 => exact rfl); (case c6 => decide); k_whole)
  intro L' h₁ hL F N
  refine gen_tok (by show 0 < s.toks + 1; omega) ?_
  intro tk0 htk0
  (try dsimp only)
  (try k_fold)
  repeat' ((fail_if_success (with_reducible show wpAny _ _ (eval (Expr.GeneratorExp _ _ _ _) _) _ _ _)); (first | (k_unfold; (try dsimp only)) | (k_end; wrow_close) | walk1 | (dsimp only; walk1)))
  rename Fr _ _ _ _ => FZ
  refine wpAny_GeneratorExp_walksQD rfl rfl (cl := []) rfl (by decide) (by first | rfl | decide +kernel) (by first | rfl | decide +kernel) rfl (by show 371 < recursionLimit; decide +kernel) ?_ (fun _ => by with_unfolding_all rfl)
  walk1
  have hl0 := (hN _ (.tail _ hm0)).1
  refine wpAny_pyIter_list (items := its) ⟨_, FZ.keep _ _ hl0, rfl, _, rfl⟩ ?_
  dsimp only
  have n812 : h₀.get? 812 = none := (hN _ (.head _)).2.2
  have hsz1 : s.heap.objs.size ≤ h₁.objs.size := Nat.le_of_lt (hL ▸ FZ.ns.lt)
  have up1 : ∀ b o, s.heap.get? b = some o → (h₁.push { cls := Value.type "list_iterator", data := Data.fields #[.ref a0, .int 0 0] }).get? b = some o := fun b o e => Heap.get?_push_of_some _ (FZ.keep b o e)
  refine ⟨(T.nolimit.keeps FZ.keep).push _, ?_⟩
  refine gen_code ⟨rfl, rfl⟩ rfl ((hCd.keeps hF.keep).keeps up1) (up1 _ _ (hN _ (.head _)).1) htb fun v s₃ R => ?_
  obtain ⟨c', tb, h₃, tk₃, rfl, rfl, k3, p3, tb3, sz3⟩ := R
  dsimp only at k3 sz3 ⊢
  have up : ∀ b o, h₀.get? b = some o → h₃.get? b = some o := fun b o e => k3 b o (fun q => by rw [q, n812] at e; cases e) (up1 b o (hF.keep b o e))
  obtain ⟨bm, ob, hb1, hb2, hb3, hb4, hb5, hb6⟩ := hT.bmain
  refine wpAny_builtinsFor (m := mg) (hT.g.keeps up) hb1 hb2 (up _ _ hb3) hb4 hb5 hb6 ?_
  have hlt0 : a0 < s.heap.objs.size := Heap.lt_size hl0
  have hI : h₁.objs.size < (h₁.push { cls := Value.type "list_iterator", data := Data.fields #[.ref a0, .int 0 0] }).objs.size := by rw [Heap.size_push]; exact Nat.lt_succ_self _
  have h8 : (812 : Nat) < s.heap.objs.size := Heap.lt_size (hN _ (.head _)).1
  have itI : (h₁.push { cls := Value.type "list_iterator", data := Data.fields #[.ref a0, .int 0 0] }).get? h₁.objs.size = some { cls := Value.type "list_iterator", data := Data.fields #[.ref a0, .int 0 0] } := Heap.get?_push_size _ rfl
  have it3 := k3 _ _ (Nat.ne_of_gt (Nat.lt_of_lt_of_le h8 hsz1)) itI
  have a812 : a0 ≠ 812 := neAll_all hne _ hm0
  have hl3 := k3 _ _ a812 (up1 _ _ hl0)
  refine ⟨h₁.objs.size, [h₁.objs.size, a0], [h₁.objs.size], its.size, fun i v => its[i]? = some v, _, fun _ => true, fun i v => ∃ u, v = .str (quoted (ys.getD i (Str.ofString ""))) u, rfl, fun A' hA => Walks.list hA _ _ (Nat.ne_of_lt (Nat.lt_of_lt_of_le hlt0 hsz1)) its, ⟨⟨_, it3, rfl, rfl⟩, ⟨_, hl3, rfl, _, rfl⟩⟩, ?_, hT.nolimit.keeps up, ?_, ?_, ?_⟩
  · intro b hb
    rcases List.mem_cons.mp hb with rfl | hb
    · exact Nat.lt_of_lt_of_le hI sz3
    · rcases List.mem_cons.mp hb with rfl | hb
      · exact Nat.lt_of_lt_of_le (Nat.lt_trans (Nat.lt_of_lt_of_le hlt0 hsz1) hI) sz3
      · cases hb
  · intro hb
    rcases List.mem_cons.mp hb with e | hb
    · exact absurd e (Nat.ne_of_lt (Nat.lt_of_lt_of_le (Nat.lt_trans (by decide : cStatics < 812) h8) hsz1))
    · cases hb
  · intro href hhref
    refine ⟨fun A' E' i v s₂ m₂ hA hd2 hu2 hP hns hmx hkeep => ?_, fun A' E' i v s₂ m₂ hA hd2 hu2 hP _ hns hmx hkeep => ?_⟩
    · refine wpAny_of_eq (a := true) (by first | rfl | simp) ⟨rfl, s₂.heap, s₂.toks, rfl, fun _ _ e => e⟩
    · have k2 : ∀ b o, h₀.get? b = some o → s₂.heap.get? b = some o := fun b o e => hkeep b (List.mem_range.mpr (Heap.lt_size (up b o e))) (fun hm => by
        have := Heap.lt_size (hF.keep b o e)
        rw [List.mem_singleton.mp hm] at this
        exact absurd this (Nat.not_lt.mpr hsz1)) o (hhref b o (up b o e))
      obtain ⟨y, t, rfl, hy⟩ := hys.item i v (by simpa using hP)
      refine elt_quote w p loose mean mg mb hA (Nat.le_trans hd2 (by show 371 + 1 ≤ 390; decide)) (Nat.le_trans hu2 (by exact Nat.le_of_ble_eq_true rfl)) rfl (by first | rfl | decide +kernel) (by first | rfl | decide +kernel) rfl hns hmx (hq y (List.mem_of_getElem? hy)) (hK.keeps k2) (hT.keeps k2) fun t' h' tk _ kk => ⟨⟨t', by rw [List.getD_eq_getElem?_getD, hy]; rfl⟩, h', tk, rfl, kk⟩
  · intro ga h₅ tk₅ gs hgs hlt5 hsz5 k5 W hat
    dsimp only at hlt5 hsz5 k5 ⊢
    have k35 : ∀ b o, b ≠ 812 → s.heap.get? b = some o → h₅.get? b = some o := fun b o hb e => k5 b o (k3 b o hb (up1 b o e))
    have hHself : (regrown s.heap 812 tb).get? 812 = some (tabObj tb) := Heap.get?_update_self (fun _ => _) (hN _ (.head _)).1 rfl
    have FHn := FZ.ns.at' (h' := h₅) fun o e => k5 _ o (k3 _ o (by rw [hL]; exact Nat.ne_of_gt h8) (Heap.get?_push_of_some _ e))
    have FHk : ∀ b o, (regrown s.heap 812 tb).get? b = some o → h₅.get? b = some o := fun b o e => by
      by_cases hb : b = 812
      · subst hb
        rw [hHself] at e
        cases e
        exact k5 _ _ p3
      · exact k35 b o hb ((Heap.get?_update_other _ _ (Ne.symm hb)).symm.trans e)
    have FHa : (regrown s.heap 812 tb).objs.size ≤ L' := by
      show (s.heap.update 812 _).objs.size ≤ L'
      rw [Heap.size_update, hL]
      exact Nat.le_refl _
    have FH := Fr.mk FHn FHk FHa
    repeat' ((fail_if_success (with_reducible show wpAny _ _ (call (Value.builtin "str.join") _) _ _ _)); (first | (k_unfold; (try dsimp only)) | (k_end; wrow_close) | walk1 | (dsimp only; walk1)))
    have hlen : its.size = ys.length := by have := hys.len_eq; simpa using this
    have ep : passing (fun _ : Nat => true) its.size 0 = List.range its.size := by simp [passing]
    have etx : (List.range (passing (fun _ : Nat => true) its.size 0).length).map (fun j => quoted (ys.getD ((passing (fun _ : Nat => true) its.size 0).getD j 0) (Str.ofString ""))) = ys.map quoted := by
      rw [map_range (passing (fun _ : Nat => true) its.size 0) (fun i => quoted (ys.getD i (Str.ofString ""))), ep, hlen]
      conv => rhs; rw [← range_getD ys (Str.ofString "")]
      rw [List.map_map]; rfl
    refine join_rows FH (hG.push hgs) ⟨_, _, _, _, W, hat, (fun i s' st => st.1.typeIs), List.mem_cons_self, ?_, ?_⟩ (fun j => quoted (ys.getD ((passing (fun _ : Nat => true) its.size 0).getD j 0) (Str.ofString ""))) (fun j v hv => ?_) (by rw [etx]; exact hok) (fun s' t' F' G' os' => ?_) (by rw [ep, List.length_range, hlen]; exact hsz)
    · intro b hb
      show b < h₅.objs.size
      rw [hsz5]
      rcases List.mem_cons.mp hb with rfl | hb
      · exact Nat.lt_succ_self _
      · rcases List.mem_cons.mp hb with rfl | hb
        · exact Nat.lt_succ_of_lt hlt5
        · exact Nat.lt_succ_of_lt (Nat.lt_trans (List.mem_range.mp hb) hlt5)
    · have l1 : L' < h₁.objs.size := FZ.ns.lt
      have l3 : h₁.objs.size < h₃.objs.size := Nat.lt_of_lt_of_le hI sz3
      intro b hb
      rcases List.mem_cons.mp hb with rfl | hb
      · exact Nat.lt_trans l1 l3
      · rw [List.mem_singleton.mp hb]; exact l1
    · obtain ⟨i, hi, u, rfl⟩ := hv
      exact ⟨u, by rw [List.getD_eq_getElem?_getD (l := passing (fun _ : Nat => true) its.size 0), hi]; rfl⟩
    · rw [etx]
      k_unfold
      intro hle
      have hgr : ∀ b o, b ≠ 812 → s.heap.get? b = some o → s'.heap.get? b = some o := fun b o hb e => F'.keep b o ((Heap.get?_update_other _ _ (Ne.symm hb)).trans e)
      have FB : Fr h₀ L s'.heap m := ⟨hF.ns.at' fun o e => hgr _ o (Ne.symm (hN _ (.head _)).2.1) e, fun b o e => hgr b o (fun q => by rw [q, n812] at e; cases e) (hF.keep b o e), hF.above⟩
      refine hret t' s' tb hle os' G' tb3 FB fun q hq => ?_
      rcases List.mem_cons.mp hq with rfl | hq
      · exact ⟨F'.keep _ _ hHself, (hN _ (.head _)).2⟩
      · exact ⟨hgr _ _ (neAll_all hne _ hq) (hN _ (.tail _ hq)).1, (hN _ (.tail _ hq)).2⟩
end
section
open PySem.Calls PySem.Spec
noncomputable abbrev celled (v : Option Value) : Obj := { cls := .type "cell", data := .cell v }
/-- what a turn of a block leaves -/
noncomputable def CEnd (L : Addr) (m : Str → Option Value) (s : Shared) (I : Addr) (it : Obj) (D : Addr) (ys : List Value) (pl : Led) (J : Heap → Led → Prop) (s' : Shared) : Prop :=
  ∃ h tk g news, s' = { s with heap := h, toks := tk } ∧ Fr g L h m ∧ News g L h ((I, it) :: (pl ++ (D, LCg.lst ys) :: news)) ∧ (∀ p ∈ news, p.1 ≠ I ∧ p.1 ≠ D ∧ p.1 ∉ pl.map (·.1)) ∧ J g news
noncomputable abbrev testsG (ifs : List Expr) (cenv : Env) : Sem Bool := forIn ifs true fun c r => if r = true then do let ok ← isTrue c cenv (eval c cenv); pure (ForInStep.yield ok) else pure (ForInStep.yield r)
inductive CledI (s : Shared) (n : Nat) (St : Nat → Heap → Prop) (L D I : Addr) (m : Str → Option Value) (own : Option Value → Led → Prop) (as : List Addr) (J : Nat → List Value → Heap → Led → Prop) (k : Nat) (s' : Shared) : Prop
  | mk (h : Heap) (tk i : Nat) (ys : List Value) (u : Option Value) (pl : Led) (g : Heap) (news : Led) (e0 : s' = { s with heap := h, toks := tk }) (e1 : s.toks ≤ tk) (e2 : i ≤ n) (e3 : k = n + 1 - i) (e4 : ys.length ≤ i) (e5 : St i h) (e6 : Fr g L h m) (e7 : News g L h (pl ++ (D, LCg.lst ys) :: news)) (e8 : own u pl) (e9 : g.get? I = none) (e10 : (∀ p ∈ news, p.1 ≠ I ∧ p.1 ≠ D ∧ p.1 ∉ as)) (e11 : J i ys g news) : CledI s n St L D I m own as J k s'
theorem cled_loop {prog : Program} {w : World} {A : Around} {elt iter : Expr} {x : Str} {px pos : Pos} {ifs : List Expr} {scope : Scope} {cenv : Env} {I D L : Addr} {m : Str → Option Value} {s : Shared} {fp : List Addr} {n : Nat} {P : Nat → Value → Prop} {St : Nat → Heap → Prop} {own : Option Value → Led → Prop} {as : List Addr} {R : Result → Shared → Prop}
    (J : Nat → List Value → Heap → Led → Prop) (W : Walks prog w A I fp [I] n P St) (hsz : n ≤ sizeLine)
    (hIo : ∀ i h, St i h → ∃ o, h.get? I = some o)
    (hSt : ∀ i j h h' o g ys nw, St i h → h.get? I = some o → h'.get? I = some o → (∀ b o, g.get? b = some o → h'.get? b = some o) → News g L h' nw → J j ys g nw → St i h')
    (hown : ∀ v pl, own v pl → pl.map (·.1) = as)
    (hasg : ∀ u v pl h tk (Q' : Unit → Shared → Prop) (E' : Value → Shared → Prop), own u pl → (∀ p ∈ pl, h.get? p.1 = some p.2) →
      (∀ h₂ tk₂ pl₂, own (some v) pl₂ → (∀ p ∈ pl₂, h₂.get? p.1 = some p.2) → (∀ b o, b ∉ as → h.get? b = some o → h₂.get? b = some o) → Q' () { s with heap := h₂, toks := tk₂ }) →
      wpAny (model prog w) A (assign (.Name x px) cenv v) Q' E' { s with heap := h, toks := tk })
    (hfp : ∀ b ∈ fp, b ≠ D ∧ b ∉ as) (hDA : D ∉ as)
    (turn : ∀ i v it pl ys g h tk news (E' : Value → Shared → Prop), i < n → P i v → own (some v) pl → J i ys g news → Fr g L h m → News g L h ((I, it) :: (pl ++ (D, LCg.lst ys) :: news)) → (∀ p ∈ news, p.1 ≠ I ∧ p.1 ≠ D ∧ p.1 ∉ pl.map (·.1)) → s.toks ≤ tk → ys.length ≤ i →
      wpAny (model prog w) A (testsG ifs cenv) (fun ok s₃ => if ok = true then wpAny (model prog w) A (eval elt cenv) (fun y s₄ => CEnd L m s I it D ys pl (J (i + 1) (ys ++ [y])) s₄) E' s₃ else CEnd L m s I it D ys pl (J (i + 1) ys) s₃) E' { s with heap := h, toks := tk })
    (done : ∀ h tk u pl ys g news, J n ys g news → Fr g L h m → News g L h (pl ++ (D, LCg.lst ys) :: news) → own u pl → (∀ p ∈ news, p.1 ≠ D ∧ p.1 ∉ as) → s.toks ≤ tk → R (.ok .next) { s with heap := h, toks := tk })
    {u₀ : Option Value} {pl₀ : Led} {g₀ : Heap} {news₀ : Led} (h0 : J 0 [] g₀ news₀) (hst : St 0 s.heap) (F : Fr g₀ L s.heap m) (N : News g₀ L s.heap (pl₀ ++ (D, LCg.lst []) :: news₀)) (ho : own u₀ pl₀) (hIL : I ≠ L) (hI₀ : g₀.get? I = none) (off : ∀ p ∈ news₀, p.1 ≠ I ∧ p.1 ≠ D ∧ p.1 ∉ as) :
    codeAny (model prog w) A (.compLoop (.ListComp elt [⟨.Name x px, iter, ifs, 0⟩] scope pos) 0 (.ref I) (.ref D) cenv) R s := by
  have hIf : I ∈ fp := W.sub I (List.mem_singleton.mpr rfl)
  have hID := (hfp I hIf).1
  have hIA := (hfp I hIf).2
  refine codeAny_compLoop_tests
    (CledI s n St L D I m own as J) ?_ (n + 1)
    ⟨s.heap, s.toks, 0, [], u₀, pl₀, g₀, news₀, rfl, Nat.le_refl _, Nat.zero_le _, rfl, Nat.le_refl _, hst, F, N, ho, hI₀, off, h0⟩
  rintro k s' ⟨h, tk, i, ys, u, pl, g, news, rfl, htk, hi, rfl, hyl, hst', F', N', ho', hIg, off', hJ⟩
  have hpa := hown _ _ ho'
  have plI : ∀ p ∈ pl, p.1 ≠ I := fun p hp e => hIA (by rw [← hpa, ← e]; exact List.mem_map_of_mem hp)
  have plD : ∀ p ∈ pl, p.1 ≠ D := fun p hp e => hDA (by rw [← hpa, ← e]; exact List.mem_map_of_mem hp)
  have allI : ∀ p ∈ pl ++ (D, LCg.lst ys) :: news, p.1 ≠ I := fun p hp => by
    rcases List.mem_append.mp hp with hp | hp
    · exact plI p hp
    · rcases List.mem_cons.mp hp with rfl | hp
      · exact Ne.symm hID
      · exact (off' p hp).1
  by_cases hlt : i < n
  · refine tok_keep (W.item i _ _ _ hlt hst' fun v h₂ tk₂ hPv hst₂ hk₂ => ?_)
    intro hle₂
    dsimp only at hle₂ ⊢
    have F₂ := LCg.fr_but F' hk₂ (Ne.symm hIL) hIg
    have N₂ := LCg.news_but N' hk₂ allI
    refine tok_keep (hasg u v pl h₂ tk₂ _ _ ho' (fun p hp => (N₂ p (List.mem_append_left _ hp)).1) fun h₃ tk₃ pl₃ ho₃ hp₃ hk₃ => ?_)
    intro hle₃
    dsimp only at hle₃ ⊢
    have hpa₃ := hown _ _ ho₃
    have gas : ∀ a ∈ as, g.get? a = none ∧ a ≠ L := fun a ha => by
      rw [← hpa] at ha
      obtain ⟨p, hp, rfl⟩ := List.mem_map.mp ha
      have := N₂ p (List.mem_append_left _ hp)
      exact ⟨this.2.2, this.2.1⟩
    have F₃ : Fr g L h₃ m := ⟨F₂.ns.at' fun o e => hk₃ _ o (fun q => (gas _ q).2 rfl) e, fun b o e => hk₃ _ _ (fun q => by rw [(gas _ q).1] at e; cases e) (F₂.keep b o e), F₂.above⟩
    have hst₃ : St (i + 1) h₃ := W.frame _ _ _ hst₂ fun b hb o e => hk₃ b o (hfp b hb).2 e
    obtain ⟨oI, heI⟩ := hIo _ _ hst₃
    have N₃ : News g L h₃ ((I, oI) :: (pl₃ ++ (D, LCg.lst ys) :: news)) := fun p hp => by
      rcases List.mem_cons.mp hp with rfl | hp
      · exact ⟨heI, hIL, hIg⟩
      · rcases List.mem_append.mp hp with hp | hp
        · have ha : p.1 ∈ as := by rw [← hpa₃]; exact List.mem_map_of_mem hp
          exact ⟨hp₃ p hp, (gas _ ha).2, (gas _ ha).1⟩
        · have z := N₂ p (List.mem_append_right _ hp)
          refine ⟨hk₃ _ _ ?_ z.1, z.2⟩
          rcases List.mem_cons.mp hp with rfl | hp
          · exact hDA
          · exact (off' p hp).2.2
    have tn := fun E' => turn i v oI pl₃ ys g h₃ tk₃ news E' hlt hPv ho₃ hJ F₃ N₃ (fun p hp => by rw [hpa₃]; exact off' p hp) (Nat.le_trans htk (Nat.le_trans hle₂ hle₃)) hyl
    have next : ∀ s₄ ys', ys'.length ≤ i + 1 → tk₃ ≤ s₄.toks → ∀ h₄ tk₄ g₄ news₄, s₄ = { s with heap := h₄, toks := tk₄ } → Fr g₄ L h₄ m → News g₄ L h₄ ((I, oI) :: (pl₃ ++ (D, LCg.lst ys') :: news₄)) → (∀ p ∈ news₄, p.1 ≠ I ∧ p.1 ≠ D ∧ p.1 ∉ as) → J (i + 1) ys' g₄ news₄ → St (i + 1) h₄ →
        ∃ k, k < n + 1 - i ∧ CledI s n St L D I m own as J k s₄ := by
      rintro s₄ ys' hyl' hle₄ h₄ tk₄ g₄ news₄ rfl F₄ N₄ off₄ J₄ st₄
      exact ⟨n + 1 - (i + 1), by omega, h₄, tk₄, i + 1, ys', some v, pl₃, g₄, news₄, rfl, Nat.le_trans htk (Nat.le_trans hle₂ (Nat.le_trans hle₃ hle₄)), hlt, rfl, hyl', st₄, F₄, fun p hp => N₄ p (List.mem_cons_of_mem _ hp), ho₃, (N₄ _ List.mem_cons_self).2.2, off₄, J₄⟩
    refine wpAny_mono (tok_more (tn _)) (fun ok s₄ h₄ => ?_) fun _ _ e => e
    obtain ⟨hle₄, h₄⟩ := h₄
    cases ok with
    | false =>
      simp only [Bool.false_eq_true, if_false] at h₄ ⊢
      obtain ⟨h₅, tk₅, g₅, news₅, rfl, F₅, N₅, off₅, J₅⟩ := h₄
      rw [hpa₃] at off₅
      have zI := (N₅ (I, oI) List.mem_cons_self).1
      exact next _ ys (by omega) hle₄ h₅ tk₅ g₅ news₅ rfl F₅ N₅ off₅ J₅ (hSt _ _ _ _ _ _ _ _ hst₃ heI zI F₅.keep (fun p hp => N₅ p (by simp [hp])) J₅)
    | true =>
      simp only [if_true] at h₄ ⊢
      refine wpAny_mono (tok_more h₄) (fun y s₅ h₅ => ?_) fun _ _ e => e
      obtain ⟨hle₅, h₅, tk₅, g₅, news₅, rfl, F₅, N₅, off₅, J₅⟩ := h₅
      rw [hpa₃] at off₅
      have zI := (N₅ (I, oI) List.mem_cons_self).1
      have zD := N₅ (D, LCg.lst ys) (by simp)
      have hst₅ : St (i + 1) h₅ := hSt _ _ _ _ _ _ _ _ hst₃ heI zI F₅.keep (fun p hp => N₅ p (by simp [hp])) J₅
      refine append_at (hsz := by show ys.toArray.size ≤ sizeLine; rw [List.size_toArray]; exact Nat.le_trans hyl (Nat.le_trans hi hsz)) zD.1 fun h₆ hs₆ hD₆ => ?_
      refine next _ (ys ++ [y]) (by simp; omega) (Nat.le_trans hle₄ hle₅) h₆ tk₅ g₅ news₅ rfl (F₅.change hs₆ zD.2.1 zD.2.2) (fun p hp => ?_) off₅ J₅ (W.frame _ _ _ hst₅ fun b hb o e => hs₆.extBut b o (hfp b hb).1 e)
      rcases List.mem_cons.mp hp with rfl | hp
      · exact ⟨hs₆.extBut _ _ hID zI, (N₅ _ List.mem_cons_self).2⟩
      · rcases List.mem_append.mp hp with hp | hp
        · have z := N₅ p (List.mem_cons_of_mem _ (List.mem_append_left _ hp))
          refine ⟨hs₆.extBut _ _ (fun e => hDA ?_) z.1, z.2⟩
          rw [← hpa₃, ← e]; exact List.mem_map_of_mem hp
        · rcases List.mem_cons.mp hp with rfl | hp
          · exact ⟨hD₆.trans (congrArg some (LCg.lst_snoc ys y)), zD.2⟩
          · have z := N₅ p (by simp [hp])
            exact ⟨hs₆.extBut _ _ (off₅ p hp).2.1 z.1, z.2⟩
  · obtain rfl : i = n := Nat.le_antisymm hi (Nat.not_lt.mp hlt)
    refine tok_keep (W.done _ _ _ hst' fun h₂ tk₂ hk₂ => ?_)
    intro hle₂
    dsimp only at hle₂ ⊢
    exact done h₂ tk₂ u pl ys g news hJ (LCg.fr_but F' hk₂ (Ne.symm hIL) hIg) (LCg.news_but N' hk₂ allI) ho' (fun p hp => (off' p hp).2) (Nat.le_trans htk hle₂)

noncomputable def OwnL (C : Addr) (x : Str) (v : Option Value) (pl : Led) : Prop := ∃ oC m₂, pl = [(C, oC)] ∧ LCg.NsObj oC m₂ ∧ ∀ z, v = some z → m₂ x = some z
noncomputable def OwnC (C c : Addr) (v : Option Value) (pl : Led) : Prop := ∃ oC m₂ oc, pl = [(C, oC), (c, oc)] ∧ LCg.NsObj oC m₂ ∧ oc.data = .cell v
theorem newEnv_cell {M : Model} {A : Around} {E : Value → Shared → Prop} {s : Shared} {scope : Scope} {globals : Addr} {cl : List (Str × Addr)} {env : Env} {x qual : Str} {Q : Env → Shared → Prop}
    (hcf : ∀ n, cellsFrom n scope.names cl = (x, n) :: cl) (hpc : ∀ h, pushCells h scope.names = h.push (celled none))
    (hQ : Q (newEnv scope s.heap.objs.size globals ((x, s.heap.objs.size + 1) :: cl) qual none .none (some env) builtinsNs) { s with heap := (s.heap.push { cls := .type "dict", data := .dict #[] }).push (celled none) }) :
    wpAny M A (newFunctionEnv scope globals cl [] qual none .none (some env)) Q E s := by
  simp only [newFunctionEnv, Option.isSome_some, if_true]
  refine wpAny_bind (wpAny_alloc ?_)
  refine wpAny_bind (wpAny_layCells _ (fun name kind cells => by cases hkc : kind == NameKind.cell <;> simp [hkc]) _ _ _ _ ?_)
  rw [hcf, hpc]
  rw [show ({ s with heap := s.heap.push { cls := .type "dict", data := .dict #[] } } : Shared).heap.objs.size = s.heap.objs.size + 1 from Heap.size_push ..]
  exact wpAny_bind (wpAny_pure (wpAny_pure hQ))
/-- a block's start: the names' own objects are laid, the loop begins -/
noncomputable abbrev BlockAt (prog : Program) (w : World) (A : Around) (elt iter : Expr) (x : Str) (px pos : Pos) (ifs : List Expr) (scope : Scope) (cl : List (Str × Addr)) (env : Env) (I : Addr) (RR : Value → Addr → Result → Shared → Prop) (E : Value → Shared → Prop) (s₂ : Shared) : Prop :=
  wpAny (model prog w) A (newList []) (fun acc s₃ => wpAny (model prog w) A (newFunctionEnv scope env.globals cl [] env.qual none .none (some env)) (fun cenv s₄ =>
      codeAny (model prog w) A (.compStart (.ListComp elt [⟨.Name x px, iter, ifs, 0⟩] scope pos) 0 (.ref I) acc { cenv with scope := relabel scope env }) (RR acc cenv.locals) s₄) E s₃) E s₂
section
variable {prog : Program} {w : World} {A : Around} {E : Value → Shared → Prop} {elt iter : Expr} {x : Str} {px pos : Pos} {ifs : List Expr} {scope : Scope} {cl : List (Str × Addr)} {env : Env} {I L : Addr} {m : Str → Option Value} {s₂ : Shared} {fp : List Addr} {n : Nat} {P : Nat → Value → Prop} {St : Nat → Heap → Prop} {RR : Value → Addr → Result → Shared → Prop}
/-- a turn of a block whose variable is a plain name -/
noncomputable abbrev TurnL (prog : Program) (w : World) (A : Around) (elt : Expr) (x : Str) (ifs : List Expr) (scope : Scope) (cl : List (Str × Addr)) (env : Env) (L : Addr) (m : Str → Option Value) (s₂ : Shared) (n : Nat) (P : Nat → Value → Prop) (J : Nat → List Value → Heap → Led → Prop) : Prop :=
  ∀ i v I it C oC m₂ D ys g h tk news (E' : Value → Shared → Prop), i < n → P i v → LCg.NsObj oC m₂ → m₂ x = some v → J i ys g news → Fr g L h m → News g L h ((I, it) :: (C, oC) :: (D, LCg.lst ys) :: news) → LCg.Off3 I C D news → ((@Ne Nat I C) ∧ (@Ne Nat I D) ∧ (@Ne Nat C D)) → s₂.toks ≤ tk → ys.length ≤ i →
      wpAny (model prog w) A (testsG ifs (compEnvC scope cl C env)) (fun ok s₃ => if ok = true then wpAny (model prog w) A (eval elt (compEnvC scope cl C env)) (fun y s₄ => CEnd L m s₂ I it D ys [(C, oC)] (J (i + 1) (ys ++ [y])) s₄) E' s₃ else CEnd L m s₂ I it D ys [(C, oC)] (J (i + 1) ys) s₃) E' { s₂ with heap := h, toks := tk }
/-- a turn of a block whose variable is a cell -/
noncomputable abbrev TurnC (prog : Program) (w : World) (A : Around) (elt : Expr) (x : Str) (ifs : List Expr) (scope : Scope) (cl : List (Str × Addr)) (env : Env) (L : Addr) (m : Str → Option Value) (s₂ : Shared) (n : Nat) (P : Nat → Value → Prop) (J : Nat → List Value → Heap → Led → Prop) : Prop :=
  ∀ i v I it C oC c oc D ys g h tk news (E' : Value → Shared → Prop), i < n → P i v → oc.data = .cell (some v) → J i ys g news → Fr g L h m → News g L h ((I, it) :: (C, oC) :: (c, oc) :: (D, LCg.lst ys) :: news) → (∀ p ∈ news, p.1 ≠ I ∧ p.1 ≠ D ∧ p.1 ∉ [C, c]) → ((@Ne Nat I C) ∧ (@Ne Nat I D) ∧ (@Ne Nat C D)) → ((@Ne Nat c C) ∧ (@Ne Nat c D) ∧ (@Ne Nat c I)) → s₂.toks ≤ tk → ys.length ≤ i →
      wpAny (model prog w) A (testsG ifs (compEnvC scope ((x, c) :: cl) C env)) (fun ok s₃ => if ok = true then wpAny (model prog w) A (eval elt (compEnvC scope ((x, c) :: cl) C env)) (fun y s₄ => CEnd L m s₂ I it D ys [(C, oC), (c, oc)] (J (i + 1) (ys ++ [y])) s₄) E' s₃ else CEnd L m s₂ I it D ys [(C, oC), (c, oc)] (J (i + 1) ys) s₃) E' { s₂ with heap := h, toks := tk }
theorem fresh_heap {h : Heap} {a : Addr} (ha : h.objs.size ≤ a) : h.get? a = none := by
  cases e : h.get? a with
  | none => rfl
  | some o' => exact absurd (Heap.lt_size e) (Nat.not_lt.mpr ha)
theorem fr_fresh {g h : Heap} {L a : Addr} {m : Str → Option Value} (F : Fr g L h m) (ha : h.objs.size ≤ a) : g.get? a = none := by
  cases e : g.get? a with
  | none => rfl
  | some o' => have := F.keep a o' e; rw [fresh_heap ha] at this; cases this
theorem block_L (J : Nat → List Value → Heap → Led → Prop) (W : Walks prog w A I fp [I] n P St) (hsz : n ≤ sizeLine) (hIo : ∀ i h, St i h → ∃ o, h.get? I = some o)
    (hSt : ∀ i j h h' o g ys nw, St i h → h.get? I = some o → h'.get? I = some o → (∀ b o, g.get? b = some o → h'.get? b = some o) → News g L h' nw → J j ys g nw → St i h')
    (hcell : ∀ y ∈ scope.names, y.2 ≠ .cell) (hkind : scope.kind = .function) (hx : scope.names.lookup x = some .local) (hst : St 0 s₂.heap) (hfp : ∀ b ∈ fp, b < s₂.heap.objs.size)
    {g₀ : Heap} {news₀ : Led} (F : Fr g₀ L s₂.heap m) (N : News g₀ L s₂.heap news₀) (hIL : L ≠ I) (hI₀ : g₀.get? I = none) (off : ∀ p ∈ news₀, p.1 ≠ I) (h0 : J 0 [] g₀ news₀)
    (turn : TurnL prog w A elt x ifs scope cl env L m s₂ n P J)
    (hRR : ∀ D C h tk m' ys g news, J n ys g news → Fr g L h m → News g L h ((D, LCg.lst ys) :: news) → (∀ p ∈ news, p.1 ≠ D) → h.Ns C m' → g.get? C = none → C ≠ L → C ≠ D → (∀ p ∈ news, p.1 ≠ C) → s₂.toks ≤ tk → RR (.ref D) C (.ok .next) { s₂ with heap := h, toks := tk }) :
    BlockAt prog w A elt iter x px pos ifs scope cl env I RR E s₂ := by
  refine wpAny_newObj_type (wpAny_newFunctionEnv hcell (by intro y hy; simp at hy) (fun h₁ hns₁ hsb₁ => ?_) hkind)
  dsimp only at hns₁ hsb₁ ⊢
  generalize hH2 : s₂.heap.push { cls := .type "list", dict := none, data := .seq ([] : List Value).toArray } = H2 at hns₁ hsb₁ ⊢
  have hC : H2.objs.size = s₂.heap.objs.size + 1 := by rw [← hH2, Heap.size_push]
  have hDC : s₂.heap.objs.size ≠ H2.objs.size := by rw [hC]; exact Nat.ne_of_lt (Nat.lt_succ_self _)
  have below : ∀ b, b < s₂.heap.objs.size → b ≠ H2.objs.size ∧ b ≠ s₂.heap.objs.size := fun b hb => ⟨by rw [hC]; exact Nat.ne_of_lt (Nat.lt_succ_of_lt hb), Nat.ne_of_lt hb⟩
  have old : ∀ b o, s₂.heap.get? b = some o → h₁.get? b = some o := fun b o e => hsb₁.extBut b o (below b (Heap.lt_size e)).1 (Heap.get?_push_of_some _ (hH2 ▸ Heap.get?_push_of_some _ e))
  have hacc : h₁.get? s₂.heap.objs.size = some (LCg.lst []) := hsb₁.extBut _ _ hDC (Heap.get?_push_of_some _ (hH2 ▸ Heap.get?_push_size _ rfl))
  have hst₁ : St 0 h₁ := W.frame _ _ _ hst fun b _ o e => old b o e
  have hLlt : L < s₂.heap.objs.size := F.ns.lt
  have hD₀ := fr_fresh F (Nat.le_refl s₂.heap.objs.size)
  have hC₀ : g₀.get? H2.objs.size = none := fr_fresh F (by rw [hC]; exact Nat.le_succ _)
  have hDL : s₂.heap.objs.size ≠ L := Ne.symm (below L hLlt).2
  have hCL : H2.objs.size ≠ L := Ne.symm (below L hLlt).1
  have hIlt : I < s₂.heap.objs.size := hfp I (W.sub I (List.mem_singleton.mpr rfl))
  obtain ⟨oC, heC, hoC⟩ := LCg.ns_obj hns₁
  have loop : ∀ s₃ : Shared, s₃ = { s₂ with heap := h₁, toks := s₂.toks + ([] : List (Str × Value)).length } →
      codeAny (model prog w) A (.compLoop (.ListComp elt [⟨.Name x px, iter, ifs, 0⟩] scope pos) 0 (.ref I) (.ref s₂.heap.objs.size) (compEnvC scope cl H2.objs.size env))
        (RR (.ref s₂.heap.objs.size) H2.objs.size) s₃ := by
    rintro s₃ rfl
    refine cled_loop (s := { s₂ with heap := h₁, toks := s₂.toks + ([] : List (Str × Value)).length }) (own := OwnL H2.objs.size x) (as := [H2.objs.size]) J W hsz hIo hSt (fun v pl => ?_) (fun u v pl h tk Q' E' => ?_) (fun b hb => ⟨(below b (hfp b hb)).2, fun q => (below b (hfp b hb)).1 (List.mem_singleton.mp q)⟩) (fun q => hDC (List.mem_singleton.mp q)) ?_ ?_ (u₀ := none) (pl₀ := [(H2.objs.size, oC)]) h0 hst₁ (F.keeps old) (fun p hp => ?_) ⟨oC, _, rfl, hoC, fun z e => by cases e⟩ (Ne.symm hIL) hI₀ (fun p hp => ⟨off p hp, (below _ (Heap.lt_size (N p hp).1)).2, fun q => (below _ (Heap.lt_size (N p hp).1)).1 (List.mem_singleton.mp q)⟩)
    · rintro ⟨oC, m₂, rfl, _⟩; rfl
    · rintro ⟨oC, m₂, rfl, hoC', _⟩ hpl hQ
      refine wpAny_assign_Name (wpAny_storeName_local (lookup_relabel_local hx) (hoC'.ns (hpl _ (.head _))) (fun h₃ hn₃ hs₃ => ?_) (by simp [compEnvC, relabel, hkind]))
      obtain ⟨oC₃, heC₃, hoC₃⟩ := LCg.ns_obj hn₃
      exact hQ h₃ _ [(H2.objs.size, oC₃)] ⟨oC₃, _, rfl, hoC₃, fun z e => by cases e; simp⟩ (fun p hp => by rw [List.mem_singleton.mp hp]; exact heC₃) fun b o hb e => hs₃.extBut b o (fun q => hb (List.mem_singleton.mpr q)) e
    · rintro i v it pl ys g h tk news E' hi hP ⟨oC, m₂, rfl, hoC', hx'⟩ hJ F' N' off' htk hyl
      exact turn i v I it H2.objs.size oC m₂ s₂.heap.objs.size ys g h tk news E' hi hP hoC' (hx' v rfl) hJ F' N' (LCg.Off3.of fun p hp => ⟨(off' p hp).1, fun q => (off' p hp).2.2 (List.mem_singleton.mpr q), (off' p hp).2.1⟩) ⟨(below I hIlt).1, (below I hIlt).2, Ne.symm hDC⟩ htk hyl
    · rintro h tk u pl ys g news hJ F' N' ⟨oC, m₂, rfl, hoC', hx'⟩ off' htk
      exact hRR _ _ h tk m₂ ys g news hJ F' (fun p hp => N' p (List.mem_cons_of_mem _ hp)) (fun p hp => (off' p hp).1) (hoC'.ns (N' _ (.head _)).1) (N' _ (.head _)).2.2 hCL (Ne.symm hDC) (fun p hp q => (off' p hp).2 (List.mem_singleton.mpr q)) htk
    · rcases List.mem_append.mp hp with hp | hp
      · rw [List.mem_singleton.mp hp]
        exact ⟨heC, hCL, hC₀⟩
      · rcases List.mem_cons.mp hp with rfl | hp
        · exact ⟨hacc, hDL, hD₀⟩
        · exact ⟨old _ _ (N p hp).1, (N p hp).2⟩
  exact codeAny_compStart_list (loop _ rfl) (W.self 0 _ _ _ hst₁ (loop _ rfl))
theorem block_C (J : Nat → List Value → Heap → Led → Prop) (W : Walks prog w A I fp [I] n P St) (hsz : n ≤ sizeLine) (hIo : ∀ i h, St i h → ∃ o, h.get? I = some o)
    (hSt : ∀ i j h h' o g ys nw, St i h → h.get? I = some o → h'.get? I = some o → (∀ b o, g.get? b = some o → h'.get? b = some o) → News g L h' nw → J j ys g nw → St i h')
    (hcf : ∀ n, cellsFrom n scope.names cl = (x, n) :: cl) (hpc : ∀ h, pushCells h scope.names = h.push (celled none)) (hkind : scope.kind = .function) (hx : (relabel scope env).names.lookup x = some .cell) (hst : St 0 s₂.heap) (hfp : ∀ b ∈ fp, b < s₂.heap.objs.size)
    {g₀ : Heap} {news₀ : Led} (F : Fr g₀ L s₂.heap m) (N : News g₀ L s₂.heap news₀) (hIL : L ≠ I) (hI₀ : g₀.get? I = none) (off : ∀ p ∈ news₀, p.1 ≠ I) (h0 : J 0 [] g₀ news₀)
    (turn : TurnC prog w A elt x ifs scope cl env L m s₂ n P J)
    (hRR : ∀ D C h tk m' ys g news, J n ys g news → Fr g L h m → News g L h ((D, LCg.lst ys) :: news) → (∀ p ∈ news, p.1 ≠ D) → h.Ns C m' → g.get? C = none → C ≠ L → C ≠ D → (∀ p ∈ news, p.1 ≠ C) → s₂.toks ≤ tk → RR (.ref D) C (.ok .next) { s₂ with heap := h, toks := tk }) :
    BlockAt prog w A elt iter x px pos ifs scope cl env I RR E s₂ := by
  refine wpAny_newObj_type (newEnv_cell (x := x) hcf hpc ?_)
  dsimp only [newEnv]
  have k0 : ∀ b o, s₂.heap.get? b = some o → (s₂.heap.push { cls := .type "list", dict := none, data := .seq ([] : List Value).toArray }).get? b = some o := fun b o e => Heap.get?_push_of_some _ e
  have hD1 : (s₂.heap.push { cls := .type "list", dict := none, data := .seq ([] : List Value).toArray }).get? s₂.heap.objs.size = some (LCg.lst []) := Heap.get?_push_size _ rfl
  generalize hH2 : s₂.heap.push { cls := .type "list", dict := none, data := .seq ([] : List Value).toArray } = H2 at k0 hD1 ⊢
  have hC : H2.objs.size = s₂.heap.objs.size + 1 := by rw [← hH2, Heap.size_push]
  have hz : (H2.push { cls := .type "dict", data := .dict #[] }).objs.size = H2.objs.size + 1 := Heap.size_push ..
  generalize hh₁ : (H2.push { cls := .type "dict", data := .dict #[] }).push (celled none) = h₁
  have hDC : s₂.heap.objs.size ≠ H2.objs.size := by rw [hC]; exact Nat.ne_of_lt (Nat.lt_succ_self _)
  have hDc : s₂.heap.objs.size ≠ H2.objs.size + 1 := by rw [hC]; exact Nat.ne_of_lt (Nat.lt_succ_of_lt (Nat.lt_succ_self _))
  have hcC : H2.objs.size + 1 ≠ H2.objs.size := Nat.ne_of_gt (Nat.lt_succ_self _)
  have below : ∀ b, b < s₂.heap.objs.size → b ≠ H2.objs.size ∧ b ≠ s₂.heap.objs.size ∧ b ≠ H2.objs.size + 1 := fun b hb => ⟨by rw [hC]; exact Nat.ne_of_lt (Nat.lt_succ_of_lt hb), Nat.ne_of_lt hb, by rw [hC]; exact Nat.ne_of_lt (Nat.lt_succ_of_lt (Nat.lt_succ_of_lt hb))⟩
  have up : ∀ b o, H2.get? b = some o → h₁.get? b = some o := fun b o e => by rw [← hh₁]; exact Heap.get?_push_of_some _ (Heap.get?_push_of_some _ e)
  have old : ∀ b o, s₂.heap.get? b = some o → h₁.get? b = some o := fun b o e => up b o (k0 b o e)
  have hacc : h₁.get? s₂.heap.objs.size = some (LCg.lst []) := up _ _ hD1
  have hns₁ : h₁.Ns H2.objs.size (fun _ => none) := by rw [← hh₁]; exact (Heap.Ns.new H2 (.type "dict")).push _
  have hcc : h₁.get? (H2.objs.size + 1) = some (celled none) := by rw [← hh₁, ← hz]; exact Heap.get?_push_size _ rfl
  have hst₁ : St 0 h₁ := W.frame _ _ _ hst fun b _ o e => old b o e
  have hLlt : L < s₂.heap.objs.size := F.ns.lt
  have hD₀ := fr_fresh F (Nat.le_refl s₂.heap.objs.size)
  have hC₀ : g₀.get? H2.objs.size = none := fr_fresh F (by rw [hC]; exact Nat.le_succ _)
  have hc₀ : g₀.get? (H2.objs.size + 1) = none := fr_fresh F (by rw [hC]; exact Nat.le_succ_of_le (Nat.le_succ _))
  have hDL : s₂.heap.objs.size ≠ L := Ne.symm (below L hLlt).2.1
  have hCL : H2.objs.size ≠ L := Ne.symm (below L hLlt).1
  have hcL : H2.objs.size + 1 ≠ L := Ne.symm (below L hLlt).2.2
  have hIlt : I < s₂.heap.objs.size := hfp I (W.sub I (List.mem_singleton.mpr rfl))
  obtain ⟨oC, heC, hoC⟩ := LCg.ns_obj hns₁
  have nin : ∀ {b : Addr}, b < s₂.heap.objs.size → b ∉ [H2.objs.size, H2.objs.size + 1] := fun {b} hb q => by
    rcases List.mem_cons.mp q with q | q
    · exact (below b hb).1 q
    · exact (below b hb).2.2 (List.mem_singleton.mp q)
  have loop : ∀ s₃ : Shared, s₃ = { s₂ with heap := h₁ } →
      codeAny (model prog w) A (.compLoop (.ListComp elt [⟨.Name x px, iter, ifs, 0⟩] scope pos) 0 (.ref I) (.ref s₂.heap.objs.size) (compEnvC scope ((x, H2.objs.size + 1) :: cl) H2.objs.size env))
        (RR (.ref s₂.heap.objs.size) H2.objs.size) s₃ := by
    rintro s₃ rfl
    refine cled_loop (s := { s₂ with heap := h₁ }) (own := OwnC H2.objs.size (H2.objs.size + 1)) (as := [H2.objs.size, H2.objs.size + 1]) J W hsz hIo hSt (fun v pl => ?_) (fun u v pl h tk Q' E' => ?_) (fun b hb => ⟨(below b (hfp b hb)).2.1, nin (hfp b hb)⟩) (fun q => ?_) ?_ ?_ (u₀ := none) (pl₀ := [(H2.objs.size, oC), (H2.objs.size + 1, celled none)]) h0 hst₁ (F.keeps old) (fun p hp => ?_) ⟨oC, _, _, rfl, hoC, rfl⟩ (Ne.symm hIL) hI₀ (fun p hp => ⟨off p hp, (below _ (Heap.lt_size (N p hp).1)).2.1, nin (Heap.lt_size (N p hp).1)⟩)
    · rintro ⟨oC, m₂, oc, rfl, _⟩; rfl
    · rintro ⟨oC, m₂, oc, rfl, hoC', hoc⟩ hpl hQ
      refine wpAny_assign_Name (wpAny_storeName_cell (c := H2.objs.size + 1) (by simp [compEnvC, relabel, hkind]) hx (by simp [compEnvC]) ⟨oc, hpl _ (.tail _ (.head _)), hoc⟩ fun h₃ hc₃ hs₃ => ?_)
      obtain ⟨oc₃, hec₃, hoc₃⟩ := hc₃
      refine hQ h₃ _ [(H2.objs.size, oC), (H2.objs.size + 1, oc₃)] ⟨oC, _, oc₃, rfl, hoC', hoc₃⟩ (fun p hp => ?_) fun b o hb e => hs₃.extBut b o (fun q => hb (by rw [show b = H2.objs.size + 1 from q]; exact .tail _ (.head _))) e
      rcases List.mem_cons.mp hp with rfl | hp
      · exact hs₃.extBut _ _ (Ne.symm hcC) (hpl _ (.head _))
      · rw [List.mem_singleton.mp hp]; exact hec₃
    · rcases List.mem_cons.mp q with q | q
      · exact hDC q
      · exact hDc (List.mem_singleton.mp q)
    · rintro i v it pl ys g h tk news E' hi hP ⟨oC, m₂, oc, rfl, hoC', hoc⟩ hJ F' N' off' htk hyl
      exact turn i v I it H2.objs.size oC (H2.objs.size + 1) oc s₂.heap.objs.size ys g h tk news E' hi hP hoc hJ F' N' off' ⟨(below I hIlt).1, (below I hIlt).2.1, Ne.symm hDC⟩ ⟨hcC, Ne.symm hDc, Ne.symm (below I hIlt).2.2⟩ htk hyl
    · rintro h tk u pl ys g news hJ F' N' ⟨oC, m₂, oc, rfl, hoC', hoc⟩ off' htk
      exact hRR _ _ h tk m₂ ys g news hJ F' (fun p hp => N' p (List.mem_cons_of_mem _ (List.mem_cons_of_mem _ hp))) (fun p hp => (off' p hp).1) (hoC'.ns (N' _ (.head _)).1) (N' _ (.head _)).2.2 hCL (Ne.symm hDC) (fun p hp q => (off' p hp).2 (by rw [q]; exact .head _)) htk
    · rcases List.mem_append.mp hp with hp | hp
      · rcases List.mem_cons.mp hp with rfl | hp
        · exact ⟨heC, hCL, hC₀⟩
        · rw [List.mem_singleton.mp hp]
          exact ⟨hcc, hcL, hc₀⟩
      · rcases List.mem_cons.mp hp with rfl | hp
        · exact ⟨hacc, hDL, hD₀⟩
        · exact ⟨old _ _ (N p hp).1, (N p hp).2⟩
  exact codeAny_compStart_list (loop _ rfl) (W.self 0 _ _ _ hst₁ (loop _ rfl))
end

section
variable {prog : Program} {w : World} {A : Around} {E : Value → Shared → Prop} {elt iter : Expr} {x : Str} {px pos : Pos} {ifs : List Expr} {scope : Scope} {cl : List (Str × Addr)} {env : Env} {L : Addr} {m : Str → Option Value} {s s₁ : Shared} {RR : Value → Addr → Result → Shared → Prop}
/-- what a block hands on at its end -/
noncomputable abbrev DoneR (L : Addr) (m : Str → Option Value) (s₁ : Shared) (n : Nat) (J : Nat → List Value → Heap → Led → Prop) (RR : Value → Addr → Result → Shared → Prop) : Prop :=
  ∀ D C h tk m' ys g news, J n ys g news → Fr g L h m → News g L h ((D, LCg.lst ys) :: news) → (∀ p ∈ news, p.1 ≠ D) → h.Ns C m' → g.get? C = none → C ≠ L → C ≠ D → (∀ p ∈ news, p.1 ≠ C) → s₁.toks ≤ tk → RR (.ref D) C (.ok .next) { s₁ with heap := h, toks := tk }
noncomputable abbrev DoneV (L : Addr) (m : Str → Option Value) (s₁ : Shared) (n : Nat) (J : Nat → List Value → Heap → Led → Prop) (Q : Value → Shared → Prop) : Prop :=
  ∀ D h tk ys g news, J n ys g news → Fr g L h m → News g L h ((D, LCg.lst ys) :: news) → (∀ p ∈ news, p.1 ≠ D) → s₁.toks ≤ tk → Q (.ref D) { s₁ with heap := h, toks := tk }
theorem doneV {n : Nat} {J : Nat → List Value → Heap → Led → Prop} {Q : Value → Shared → Prop} (h : DoneV L m s₁ n J Q) : DoneR L m s₁ n J (fun acc C => compPost (model prog w) A E none Q acc C) :=
  fun D C hp tk m' ys g news hJ F N off hn hC₀ hCL hCD offC htk => ⟨m', hn, fun h'' hs'' => h D h'' tk ys g news hJ (F.change hs'' hCL hC₀) (fun p hp => by
    refine ⟨hs''.extBut _ _ ?_ (N p hp).1, (N p hp).2⟩
    rcases List.mem_cons.mp hp with rfl | hp
    · exact Ne.symm hCD
    · exact offC p hp) off htk⟩
theorem doneA {y : Str} {py : Pos} {n : Nat} {J : Nat → List Value → Heap → Led → Prop} {Q : Shared → Prop} (hLe : env.locals = L) (hy : env.kindOf y = some .local) (hp : (env.scope.kind == .class || (env.scope.kind == .module && env.locals != env.globals)) = false)
    (h : ∀ D h tk ys g news, J n ys g news → Fr g L h (fun z => if z = y then some (.ref D) else m z) → News g L h ((D, LCg.lst ys) :: news) → (∀ p ∈ news, p.1 ≠ D) → s₁.toks ≤ tk → Q { s₁ with heap := h, toks := tk }) :
    DoneR L m s₁ n J (fun acc C => compPost (model prog w) A E (some (assign (.Name y py) env)) (fun _ s' => Q s') acc C) := by
  subst hLe
  intro D C hp' tk m' ys g news hJ F N off hn hC₀ hCL hCD offC htk
  refine wpAny_assign_Name (wpAny_storeName_local hy F.ns (fun h₂ hn₂ hs₂ => ?_) hp)
  have hL₀ : g.get? env.locals = none := Heap.get?_none_of_le F.above
  have F₂ : Fr g env.locals h₂ (fun z => if z = y then some (.ref D) else m z) := ⟨hn₂, fun b o e => hs₂.extBut b o (fun q => by rw [q, hL₀] at e; cases e) (F.keep b o e), F.above⟩
  refine ⟨m', hn.sameBut hs₂ hCL, fun h'' hs'' => h D h'' _ ys g news hJ (F₂.change hs'' hCL hC₀) (fun p hp => ?_) off (Nat.le_succ_of_le htk)⟩
  have z : h₂.get? p.1 = some p.2 := hs₂.extBut _ _ (N p hp).2.1 (N p hp).1
  refine ⟨hs''.extBut _ _ ?_ z, (N p hp).2⟩
  rcases List.mem_cons.mp hp with rfl | hp
  · exact Ne.symm hCD
  · exact offC p hp
noncomputable abbrev ItemAt (items : Array Value) (i : Nat) (v : Value) : Prop := items[i]? = some v
noncomputable abbrev IterThen (prog : Program) (w : World) (A : Around) (elt iter : Expr) (x : Str) (px pos : Pos) (ifs : List Expr) (scope : Scope) (cl : List (Str × Addr)) (env : Env) (RR : Value → Addr → Result → Shared → Prop) (E : Value → Shared → Prop) (xv : Value) (s₁ : Shared) : Prop :=
  wpAny (model prog w) A (pyIter xv) (fun it s₂ => ∃ I, it = .ref I ∧ BlockAt prog w A elt iter x px pos ifs scope cl env I RR E s₂) E s₁
theorem from_list_L {ax : Addr} {items : Array Value} {g : Heap} {news : Led} (J : Nat → List Value → Heap → Led → Prop) (hh : A.handled = none) (F : Fr g L s₁.heap m) (N : News g L s₁.heap news) (hsz : items.size ≤ sizeLine) (h0 : J 0 [] g news) (hsrc : ∀ j ys g nw, J j ys g nw → LCg.SrcAt g ax items nw)
    (hcell : ∀ y ∈ scope.names, y.2 ≠ .cell) (hkind : scope.kind = .function) (hx : scope.names.lookup x = some .local)
    (turn : TurnL prog w A elt x ifs scope cl env L m s₁ items.size (ItemAt items) J) (hR : DoneR L m s₁ items.size J RR) :
    IterThen prog w A elt iter x px pos ifs scope cl env RR E (.ref ax) s₁ := by
  have hl := (hsrc _ _ _ _ h0).list F.keep N
  have hlt : ax < s₁.heap.objs.size := by obtain ⟨_, e, _⟩ := hl; exact Heap.lt_size e
  refine wpAny_pyIter_list hl ⟨_, rfl, ?_⟩
  have up : ∀ b o, s₁.heap.get? b = some o → (s₁.heap.push { cls := .type "list_iterator", data := .fields #[.ref ax, .int 0 0] }).get? b = some o := fun b o e => Heap.get?_push_of_some _ e
  refine block_L J (Walks.list hh s₁.heap.objs.size ax (Nat.ne_of_lt hlt) items) hsz (fun i h st => by obtain ⟨o, e, _⟩ := st.1; exact ⟨o, e⟩) (fun i j h h' o g ys nw st e e' k N' hJ => ⟨by obtain ⟨o', q, r⟩ := st.1; rw [e] at q; cases q; exact ⟨o, e', r⟩, (hsrc _ _ _ _ hJ).list k N'⟩) hcell hkind hx ⟨⟨_, Heap.get?_push_size _ rfl, rfl, rfl⟩, hl.push _⟩ (fun b hb => ?_)
    (F.keeps up) (N.grown up) (Nat.ne_of_lt F.ns.lt) (next_is_new F) (fun p hp => Nat.ne_of_lt (Heap.lt_size (N p hp).1)) h0 turn hR
  show b < (s₁.heap.push _).objs.size
  rw [Heap.size_push]
  rcases List.mem_cons.mp hb with rfl | hb
  · exact Nat.lt_succ_self _
  · rw [List.mem_singleton.mp hb]; exact Nat.lt_succ_of_lt hlt
theorem from_list_C {ax : Addr} {items : Array Value} {g : Heap} {news : Led} (J : Nat → List Value → Heap → Led → Prop) (hh : A.handled = none) (F : Fr g L s₁.heap m) (N : News g L s₁.heap news) (hsz : items.size ≤ sizeLine) (h0 : J 0 [] g news) (hsrc : ∀ j ys g nw, J j ys g nw → LCg.SrcAt g ax items nw)
    (hcf : ∀ n, cellsFrom n scope.names cl = (x, n) :: cl) (hpc : ∀ h, pushCells h scope.names = h.push (celled none)) (hkind : scope.kind = .function) (hx : (relabel scope env).names.lookup x = some .cell)
    (turn : TurnC prog w A elt x ifs scope cl env L m s₁ items.size (ItemAt items) J) (hR : DoneR L m s₁ items.size J RR) :
    IterThen prog w A elt iter x px pos ifs scope cl env RR E (.ref ax) s₁ := by
  have hl := (hsrc _ _ _ _ h0).list F.keep N
  have hlt : ax < s₁.heap.objs.size := by obtain ⟨_, e, _⟩ := hl; exact Heap.lt_size e
  refine wpAny_pyIter_list hl ⟨_, rfl, ?_⟩
  have up : ∀ b o, s₁.heap.get? b = some o → (s₁.heap.push { cls := .type "list_iterator", data := .fields #[.ref ax, .int 0 0] }).get? b = some o := fun b o e => Heap.get?_push_of_some _ e
  refine block_C J (Walks.list hh s₁.heap.objs.size ax (Nat.ne_of_lt hlt) items) hsz (fun i h st => by obtain ⟨o, e, _⟩ := st.1; exact ⟨o, e⟩) (fun i j h h' o g ys nw st e e' k N' hJ => ⟨by obtain ⟨o', q, r⟩ := st.1; rw [e] at q; cases q; exact ⟨o, e', r⟩, (hsrc _ _ _ _ hJ).list k N'⟩) hcf hpc hkind hx ⟨⟨_, Heap.get?_push_size _ rfl, rfl, rfl⟩, hl.push _⟩ (fun b hb => ?_)
    (F.keeps up) (N.grown up) (Nat.ne_of_lt F.ns.lt) (next_is_new F) (fun p hp => Nat.ne_of_lt (Heap.lt_size (N p hp).1)) h0 turn hR
  show b < (s₁.heap.push _).objs.size
  rw [Heap.size_push]
  rcases List.mem_cons.mp hb with rfl | hb
  · exact Nat.lt_succ_self _
  · rw [List.mem_singleton.mp hb]; exact Nat.lt_succ_of_lt hlt
theorem from_text_L {y : Str} {t : Tok} {g : Heap} {news : Led} (J : Nat → List Value → Heap → Led → Prop) (hh : A.handled = none) (F : Fr g L s₁.heap m) (N : News g L s₁.heap news) (hsz : y.cps.size ≤ sizeLine) (h0 : J 0 [] g news)
    (hcell : ∀ y ∈ scope.names, y.2 ≠ .cell) (hkind : scope.kind = .function) (hx : scope.names.lookup x = some .local)
    (turn : TurnL prog w A elt x ifs scope cl env L m s₁ y.cps.size (SignAt y) J) (hR : DoneR L m s₁ y.cps.size J RR) :
    IterThen prog w A elt iter x px pos ifs scope cl env RR E (.str y t) s₁ := by
  have go : ∀ (nm : String) (W : Walks prog w A s₁.heap.objs.size [s₁.heap.objs.size] [s₁.heap.objs.size] y.cps.size (SignAt y) (fun i h => h.IsStrIter s₁.heap.objs.size nm y t i)) (o : Obj), (s₁.heap.push o).IsStrIter s₁.heap.objs.size nm y t 0 →
      ∃ I, Value.ref s₁.heap.objs.size = .ref I ∧ BlockAt prog w A elt iter x px pos ifs scope cl env I RR E { s₁ with heap := s₁.heap.push o } := by
    intro nm W o st0
    refine ⟨_, rfl, ?_⟩
    have up : ∀ b o', s₁.heap.get? b = some o' → (s₁.heap.push o).get? b = some o' := fun b o' e => Heap.get?_push_of_some _ e
    refine block_L J W hsz (fun i h st => by obtain ⟨o, e, _⟩ := st; exact ⟨o, e⟩) (fun i j h h' o g ys nw st e e' k N' hJ => by obtain ⟨o', q, r⟩ := st; rw [e] at q; cases q; exact ⟨o, e', r⟩) hcell hkind hx st0 (fun b hb => ?_)
      (F.keeps up) (N.grown up) (Nat.ne_of_lt F.ns.lt) (next_is_new F) (fun p hp => Nat.ne_of_lt (Heap.lt_size (N p hp).1)) h0 turn hR
    rw [List.mem_singleton.mp hb]
    show s₁.heap.objs.size < (s₁.heap.push _).objs.size
    rw [Heap.size_push]
    exact Nat.lt_succ_self _
  unfold IterThen
  cases ha : y.cps.all (· < 128)
  · exact wpAny_pyIter_wide ha (go "str_iterator" (Walks.strWide hh _ y t) _ ⟨_, Heap.get?_push_size _ rfl, rfl, rfl⟩)
  · exact wpAny_pyIter_ascii ha (go "str_ascii_iterator" (Walks.strAscii hh _ y t) _ ⟨_, Heap.get?_push_size _ rfl, rfl, rfl⟩)
theorem comp_val {Q : Value → Shared → Prop}
    (hclos : closureFor scope env = pure cl) (hkind : scope.kind = .function) (hnames : ∀ y ∈ scope.names, y.2 = .local → scope.names.lookup y.1 = some .local)
    (h : wpAny (model prog w) A (eval iter env) (IterThen prog w A elt iter x px pos ifs scope cl env (fun acc C => compPost (model prog w) A E none Q acc C) E) E s)
    (hs : ∀ x, foldedSetIterable iter env x = pure x := by intro _; rfl) :
    wpAny (model prog w) A (eval (.ListComp elt [⟨.Name x px, iter, ifs, 0⟩] scope pos) env) Q E s := by
  rw [eval_ListComp]
  refine wpAny_comprehension_free (use := none) rfl hs hclos hkind hnames (wpAny_mono h (fun xv s₁ h₁ => wpAny_mono h₁ (fun it s₂ h₂ => ?_) fun _ _ e => e) fun _ _ e => e)
  obtain ⟨I, rfl, h₂⟩ := h₂
  exact h₂
theorem comp_asg {y : Str} {py spos : Pos} {Q : Flow → Shared → Prop}
    (hsw : swapsWith (.ListComp elt [⟨.Name x px, iter, ifs, 0⟩] scope pos) (some (.Name y py)) spos.line env = pure true)
    (hclos : closureFor scope env = pure cl) (hkind : scope.kind = .function) (hnames : ∀ y ∈ scope.names, y.2 = .local → scope.names.lookup y.1 = some .local)
    (h : wpAny (model prog w) A (eval iter env) (IterThen prog w A elt iter x px pos ifs scope cl env (fun acc C => compPost (model prog w) A E (some (assign (.Name y py) env)) (fun _ s' => Q .next s') acc C) E) E s)
    (hs : ∀ x, foldedSetIterable iter env x = pure x := by intro _; rfl) :
    wpAny (model prog w) A (exec (.Assign [.Name y py] (.ListComp elt [⟨.Name x px, iter, ifs, 0⟩] scope pos) spos) env) Q E s := by
  rw [exec_Assign_Name_used _ _ _ _ hsw]
  refine wpAny_bind (wpAny_standAt (wpAny_bind ?_))
  show wpAny _ A (do let _ ← comprehension (.ListComp elt [⟨.Name x px, iter, ifs, 0⟩] scope pos) scope env _ (newList []) false (eval iter env) (some (assign (.Name y py) env))) _ _ s
  refine wpAny_bind (wpAny_mono (wpAny_comprehension_free (use := some (assign (.Name y py) env)) (Q := fun _ s' => Q .next s') rfl hs hclos hkind hnames
    (wpAny_mono h (fun xv s₁ h₁ => wpAny_mono h₁ (fun it s₂ h₂ => ?_) fun _ _ e => e) fun _ _ e => e)) (fun _ s' hq => wpAny_pure (wpAny_pure hq)) fun _ _ e => e)
  obtain ⟨I, rfl, h₂⟩ := h₂
  exact h₂
/-- an invariant of a block that changes neither heap nor ledger -/
inductive Stay (g₁ : Heap) (nw₁ : Led) (J0 : Nat → List Value → Prop) (i : Nat) (ys : List Value) (g : Heap) (nw : Led) : Prop
  | mk (e1 : g = g₁) (e2 : nw = nw₁) (e3 : J0 i ys) : Stay g₁ nw₁ J0 i ys g nw
/-- the turn of such a block, the ledger behind a name -/
theorem turn_hide {n : Nat} {P : Nat → Value → Prop} {J0 : Nat → List Value → Prop} {g₁ : Heap} {nw₁ : Led}
    (H : ∀ nw, (∀ q ∈ nw₁, q ∈ nw) → ∀ i v I it C oC m₂ D ys h tk (E' : Value → Shared → Prop), i < n → P i v → LCg.NsObj oC m₂ → m₂ x = some v → J0 i ys → Fr g₁ L h m → News g₁ L h ((I, it) :: (C, oC) :: (D, LCg.lst ys) :: nw) → LCg.Off3 I C D nw → ((@Ne Nat I C) ∧ (@Ne Nat I D) ∧ (@Ne Nat C D)) → s₁.toks ≤ tk → ys.length ≤ i →
      wpAny (model prog w) A (testsG ifs (compEnvC scope cl C env)) (fun ok s₃ => if ok = true then wpAny (model prog w) A (eval elt (compEnvC scope cl C env)) (fun y s₄ => CEnd L m s₁ I it D ys [(C, oC)] (Stay g₁ nw J0 (i + 1) (ys ++ [y])) s₄) E' s₃ else CEnd L m s₁ I it D ys [(C, oC)] (Stay g₁ nw J0 (i + 1) ys) s₃) E' { s₁ with heap := h, toks := tk }) :
    TurnL prog w A elt x ifs scope cl env L m s₁ n P (Stay g₁ nw₁ J0) := by
  intro i v I it C oC m₂ D ys g h tk news E' a b c d ⟨e1, e2, e⟩ F N o ne t l
  subst e1 e2
  exact H news (fun _ z => z) i v I it C oC m₂ D ys h tk E' a b c d e F N o ne t l
theorem done_stay {n : Nat} {J0 : Nat → List Value → Prop} {g₁ : Heap} {nw₁ : Led} {Q : Value → Shared → Prop}
    (H : ∀ D h tk ys, J0 n ys → Fr g₁ L h m → News g₁ L h ((D, LCg.lst ys) :: nw₁) → (∀ p ∈ nw₁, p.1 ≠ D) → s₁.toks ≤ tk → Q (.ref D) { s₁ with heap := h, toks := tk }) : DoneV L m s₁ n (Stay g₁ nw₁ J0) Q := by
  intro D h tk ys g nw ⟨e1, e2, e⟩ F N o t
  subst e1 e2
  exact H D h tk ys e F N o t
theorem src_stay {J0 : Nat → List Value → Prop} {g₁ : Heap} {nw₁ : Led} {ax : Addr} {items : Array Value} (H : LCg.SrcAt g₁ ax items nw₁) : ∀ j ys g nw, Stay g₁ nw₁ J0 j ys g nw → LCg.SrcAt g ax items nw := by
  intro j ys g nw ⟨e1, e2, e⟩
  subst e1 e2
  exact H
/-- what lies in the ledger, seen at its front -/
theorem news_see {g h : Heap} {a : Addr × Obj} {nw : Led} (N : News g L h nw) (ha : a ∈ nw) : News g L h (a :: nw) := fun p hp => by
  rcases List.mem_cons.mp hp with rfl | hp
  · exact N _ ha
  · exact N _ hp
theorem turn_hideC {n : Nat} {P : Nat → Value → Prop} {J0 : Nat → List Value → Prop} {g₁ : Heap} {nw₁ : Led}
    (H : ∀ nw, (∀ q ∈ nw₁, q ∈ nw) → ∀ i v I it C oC c oc D ys h tk (E' : Value → Shared → Prop), i < n → P i v → oc.data = .cell (some v) → J0 i ys → Fr g₁ L h m → News g₁ L h ((I, it) :: (C, oC) :: (c, oc) :: (D, LCg.lst ys) :: nw) → (∀ p ∈ nw, p.1 ≠ I ∧ p.1 ≠ D ∧ p.1 ∉ [C, c]) → ((@Ne Nat I C) ∧ (@Ne Nat I D) ∧ (@Ne Nat C D)) → ((@Ne Nat c C) ∧ (@Ne Nat c D) ∧ (@Ne Nat c I)) → s₁.toks ≤ tk → ys.length ≤ i →
      wpAny (model prog w) A (testsG ifs (compEnvC scope ((x, c) :: cl) C env)) (fun ok s₃ => if ok = true then wpAny (model prog w) A (eval elt (compEnvC scope ((x, c) :: cl) C env)) (fun y s₄ => CEnd L m s₁ I it D ys [(C, oC), (c, oc)] (Stay g₁ nw J0 (i + 1) (ys ++ [y])) s₄) E' s₃ else CEnd L m s₁ I it D ys [(C, oC), (c, oc)] (Stay g₁ nw J0 (i + 1) ys) s₃) E' { s₁ with heap := h, toks := tk }) :
    TurnC prog w A elt x ifs scope cl env L m s₁ n P (Stay g₁ nw₁ J0) := by
  intro i v I it C oC c oc D ys g h tk news E' a b d ⟨e1, e2, e⟩ F N o ne ne2 t l
  subst e1 e2
  exact H news (fun _ z => z) i v I it C oC c oc D ys h tk E' a b d e F N o ne ne2 t l
theorem done_stayA {y : Str} {n : Nat} {J0 : Nat → List Value → Prop} {g₁ : Heap} {nw₁ : Led} {R : Addr → Heap → Nat → Prop}
    (H : ∀ D h tk ys, J0 n ys → Fr g₁ L h (fun z => if z = y then some (.ref D) else m z) → News g₁ L h ((D, LCg.lst ys) :: nw₁) → (∀ p ∈ nw₁, p.1 ≠ D) → s₁.toks ≤ tk → R D h tk) :
    ∀ D h tk ys g news, Stay g₁ nw₁ J0 n ys g news → Fr g L h (fun z => if z = y then some (.ref D) else m z) → News g L h ((D, LCg.lst ys) :: news) → (∀ p ∈ news, p.1 ≠ D) → s₁.toks ≤ tk → R D h tk := by
  intro D h tk ys g nw ⟨e1, e2, e⟩ F N o t
  subst e1 e2
  exact H D h tk ys e F N o t
end
end
section
open PySem.Calls PySem.Spec
/-- what a turn of a loop leaves, its ground free to turn -/
noncomputable def TurnEndG (L : Addr) (s : Shared) (I : Addr) (it : Obj) (J : (Str → Option Value) → Heap → Led → Prop) (Q : Flow → Shared → Prop) (f : Flow) (s₃ : Shared) : Prop :=
  match f with
  | .ret v => Q (.ret v) s₃
  | .brk => Q .next s₃
  | _ => ∃ h tk m g news, s₃ = { s with heap := h, toks := tk } ∧ Fr g L h m ∧ News g L h ((I, it) :: news) ∧ (∀ p ∈ news, p.1 ≠ I) ∧ J m g news
noncomputable abbrev ForTurn (prog : Program) (w : World) (A : Around) (target : Expr) (body : List Stmt) (env : Env) (L : Addr) (s : Shared) (items : List Value) (J : Nat → (Str → Option Value) → Heap → Led → Prop) (Q : Flow → Shared → Prop) : Prop :=
  ∀ i v I it h tk m g news, items[i]? = some v → J i m g news → Fr g L h m → News g L h ((I, it) :: news) → (∀ p ∈ news, p.1 ≠ I) → it.cls = .type "list_iterator" → s.toks ≤ tk →
      wpAny (model prog w) A (assign target env v) (fun _ s₂ => wpAny (model prog w) A (execs body env) (TurnEndG L s I it (J (i + 1)) Q) (fun _ _ => False) s₂) (fun _ _ => False) { s with heap := h, toks := tk }
noncomputable abbrev ForDone (L : Addr) (s : Shared) (items : List Value) (J : Nat → (Str → Option Value) → Heap → Led → Prop) (Q : Flow → Shared → Prop) : Prop :=
  ∀ h tk m g news, J items.length m g news → Fr g L h m → News g L h news → s.toks ≤ tk → Q .next { s with heap := h, toks := tk }
noncomputable def ForFrom (prog : Program) (w : World) (A : Around) (target : Expr) (body : List Stmt) (env : Env) (L : Addr) (Q : Flow → Shared → Prop) (xv : Value) (s : Shared) : Prop :=
  ∃ (ax : Addr) (items : List Value) (J : Nat → (Str → Option Value) → Heap → Led → Prop) (m₀ : Str → Option Value) (g₀ : Heap) (news₀ : Led), xv = .ref ax ∧ A.handled = none ∧ Fr g₀ L s.heap m₀ ∧ News g₀ L s.heap news₀ ∧ J 0 m₀ g₀ news₀ ∧ (∀ i m g nw, J i m g nw → LCg.SrcAt g ax items.toArray nw) ∧ ForTurn prog w A target body env L s items J Q ∧ ForDone L s items J Q
inductive ForGI (s₁ : Shared) (items : List Value) (ax L : Addr) (J : Nat → (Str → Option Value) → Heap → Led → Prop) (k : Nat) (s' : Shared) : Prop
  | mk (h : Heap) (tk i : Nat) (m : Str → Option Value) (g : Heap) (news : Led) (e0 : s' = { s₁ with heap := h, toks := tk }) (e1 : s₁.toks ≤ tk) (e2 : i ≤ items.length) (e3 : k = items.length + 1 - i) (e4 : h.IsListIter s₁.heap.objs.size ax i) (e5 : Fr g L h m) (e6 : News g L h news) (e7 : g.get? s₁.heap.objs.size = none) (e8 : (∀ p ∈ news, p.1 ≠ s₁.heap.objs.size)) (e9 : J i m g news) : ForGI s₁ items ax L J k s'
theorem for_ledG {prog : Program} {w : World} {A : Around} {s : Shared} {L : Addr} {env : Env} {target iter : Expr} {body : List Stmt} {pos : Pos} {Q : Flow → Shared → Prop}
    (h : wpAny (model prog w) A (eval iter env) (ForFrom prog w A target body env L Q) (fun _ _ => False) s)
    (ht : ∀ it v, letOwnedTupleGo target it v = pure () := by intro _ _; rfl)
    (hs : ∀ x, foldedSetIterable iter env x = pure x := by intro _; rfl) :
    wpAny (model prog w) A (exec (.For target iter body [] pos) env) Q (fun _ _ => False) s := by
  refine wpAny_For (wpAny_mono h (fun xv s₁ h₁ => ?_) fun _ _ e => e) hs
  obtain ⟨ax, items, J, m₀, g₀, news₀, rfl, hh, F, N, hJ, hsrc, turn, done⟩ := h₁
  clear h
  have hl := (hsrc 0 m₀ g₀ news₀ hJ).list F.keep N
  refine wpAny_pyIter_list hl ?_
  have hlt : ax < s₁.heap.objs.size := by obtain ⟨_, e, _⟩ := hl; exact Heap.lt_size e
  have hnw : ∀ p ∈ news₀, p.1 ≠ s₁.heap.objs.size := fun p hp => Nat.ne_of_lt (Heap.lt_size (N p hp).1)
  have hI₀ : g₀.get? s₁.heap.objs.size = none := next_is_new F
  have hIL : s₁.heap.objs.size ≠ L := Nat.ne_of_gt F.ns.lt
  refine codeAny_forLoop (ForGI s₁ items ax L J)
    ?_ (items.length + 1) ⟨_, _, 0, m₀, g₀, news₀, rfl, Nat.le_refl _, Nat.zero_le _, rfl, ⟨_, Heap.get?_push_size _ rfl, rfl, rfl⟩, F.push _, fun p hp => ⟨Heap.get?_push_of_some _ (N p hp).1, (N p hp).2⟩, hI₀, hnw, hJ⟩ (ht _)
  rintro k s' ⟨h, tk, i, m, g, news, rfl, htk, hi, rfl, hit, F', N', hIg, hn, hJ'⟩
  have hl' := (hsrc i m g news hJ').list F'.keep N'
  by_cases hlt' : i < items.length
  · have hx : items.toArray[i]? = some items[i] := by simp [hlt']
    refine wpAny_pyNext_list_item hit hl' hx fun h₁ hit₁ hs₁ => ?_
    obtain ⟨it, hitE, hit2⟩ := id hit₁
    have F₁ : Fr g L h₁ m := F'.change hs₁ hIL hIg
    have N₁ : News g L h₁ ((s₁.heap.objs.size, it) :: news) := fun p hp => by
      rcases List.mem_cons.mp hp with rfl | hp
      · exact ⟨hitE, hIL, hIg⟩
      · exact ⟨hs₁.extBut _ _ (hn p hp) (N' p hp).1, (N' p hp).2⟩
    have nv : ∀ e s', False → notedBy (model prog w) A env (fun e s' => cameBackBy (model prog w) A env (fun _ _ => False) e s') e s' := fun _ _ h => h.elim
    refine wpAny_mono (tok_more (turn i items[i] _ it h₁ tk m g news (by simp [hlt']) hJ' F₁ N₁ hn hit2.1 htk)) (fun _ s₂ h₂ => wpAny_mono (tok_more h₂.2) (fun f s₃ h₃ => ?_) nv) nv
    obtain ⟨hle₃, h₃⟩ := h₃
    have hle : s₁.toks ≤ s₃.toks := Nat.le_trans htk (Nat.le_trans h₂.1 hle₃)
    have fin : (∃ h tk m g news, s₃ = { s₁ with heap := h, toks := tk } ∧ Fr g L h m ∧ News g L h ((s₁.heap.objs.size, it) :: news) ∧ (∀ p ∈ news, p.1 ≠ s₁.heap.objs.size) ∧ J (i + 1) m g news) →
        ∃ k, k < items.length + 1 - i ∧ ForGI s₁ items ax L J k s₃ := by
      rintro ⟨h₂, tk₂, m₂, g₂, news₂, rfl, F₂, N₂, hn₂, hJ₂⟩
      exact ⟨items.length + 1 - (i + 1), by omega, h₂, tk₂, i + 1, m₂, g₂, news₂, rfl, hle, hlt', rfl, ⟨it, (N₂ _ (List.mem_cons_self ..)).1, hit2⟩, F₂, fun p hp => N₂ p (List.mem_cons_of_mem _ hp), (N₂ _ (List.mem_cons_self ..)).2.2, hn₂, hJ₂⟩
    cases f with
    | ret v => exact h₃
    | brk => exact h₃
    | next => exact fin h₃
    | cont => exact fin h₃
  · obtain rfl : i = items.length := by omega
    refine wpAny_pyNext_list_end hh hit hl' (by simp) fun h₁ hs₁ => wpAny_execs_nil ?_
    have hk : ∀ b o, b ∉ [s₁.heap.objs.size] → h.get? b = some o → h₁.get? b = some o := fun b o hb e => hs₁ b o (fun q => hb (List.mem_singleton.mpr q)) e
    refine done h₁ tk m g news hJ' (LCg.fr_but F' hk (Ne.symm hIL) hIg) (fun p hp => ⟨hs₁ _ _ (hn p hp) (N' p hp).1, (N' p hp).2⟩) htk
end
section
open PySem.Calls PySem.Spec
theorem leaveG_out {A₀ : Around} {s s' : Shared} {base h₀ : Heap} {outer : List Env} {L a : Addr} {m : Str → Option Value} {cn : Str} {cs : Scope} {ccd v : Value} {cl : List (Str × Addr)} {news : Led} {R : Result → Shared → Prop}
    (B : Below A₀ base outer h₀) (F : Fr h₀ L s.heap m) (N : News h₀ L s.heap news)
    (hl : LeaveG (frs (envX cn cs L a ccd cl :: outer)) A₀ base outer h₀ L m (hideAll s.heap (news.map (·.1))) R v s') : R (.ok (.ret v)) s' := by
  have nm : ∀ b o, h₀.get? b = some o → b ∉ news.map (·.1) := fun b o e q => by
    obtain ⟨p, hp, rfl⟩ := List.mem_map.mp q
    rw [(N p hp).2.2] at e; cases e
  have st : h₀.StaysIn (hideAll s.heap (news.map (·.1))) := fun b o e => hideAll_get _ (F.keep b o e) (nm b o e)
  obtain ⟨oL, es, ep, hL, hLd, hLk, hLf⟩ := F.ns
  have nL : L ∉ news.map (·.1) := fun q => by
    obtain ⟨p, hp, e⟩ := List.mem_map.mp q
    exact (N p hp).2.1 e
  have hLg := hideAll_get (news.map (·.1)) hL nL
  obtain ⟨g', L', m', news', T', F', N', k⟩ := hl
  have nL₀ : h₀.get? L = none := kts_self F
  obtain ⟨sl, hs⟩ := T'.up hLg
  obtain ⟨h₀', T₁, B₃, S₁⟩ := reground (h := s'.heap) B (fun b o e nmem => F'.keep b o (T'.other b o (st b o e) (fun q => by
      rcases frs_mem rfl q with z | z
      · rw [z, nL₀] at e; cases e
      · exact nmem z))) (fun b o e => by
      obtain ⟨sl', hs'⟩ := T'.up (st b o e)
      exact ⟨sl', F'.keep _ _ hs'⟩)
  refine k h₀' T₁ ⟨⟨_, es, ep, F'.keep _ _ hs, hLd, hLk, hLf⟩, S₁, by rw [T₁.size]; exact F.above⟩ (fun p hp => ⟨(N' p hp).1, fun q => ?_, ?_⟩) B₃
  · have := (N' p hp).2.2; rw [q, hs] at this; cases this
  · refine T₁.none_ _ ?_
    cases q : h₀.get? p.1 with
    | none => rfl
    | some o =>
      obtain ⟨sl', hs'⟩ := T'.up (st _ _ q)
      have := (N' p hp).2.2
      rw [hs'] at this
      cases this
theorem enterGC {prog : Program} {w : World} {A₀ A : Around} {s : Shared} {base h₀ : Heap} {outer : List Env} {L a : Addr} {m : Str → Option Value} {cn : Str} {cs : Scope} {ccd : Value} {cl : List (Str × Addr)} {news : Led} {K : Frag} {p : Program} {loose : List Str} {mean : ExcName → Option Value} {mg mb : Str → Option Value}
    {R : Result → Shared → Prop} {name qual : Str} {params : Arguments} {body : List Stmt} {scope : Scope} {dV kV doc pm cdv ct oc : Value} {an od : Option Addr} {osl : Array (Option Value)} {f : Addr} {args : Args} {binds : List (Str × Value)}
    (B : Below A₀ base outer h₀) (F : Fr h₀ L s.heap m) (X₀ : K.In h₀) (N : News h₀ L s.heap news) (T : Top p loose mean mg mb h₀) (D : KtsDicts (frs outer) h₀)
    (hA : A.frames = some (envX cn cs L a ccd cl :: outer))
    (ho : K.lookup f = some ⟨oc, od, .func (fnOf name qual params body scope dV kV doc pm an cdv ct), osl⟩) (hcd : codeIn K cdv qual = true) (hroom : A.depth < recursionLimit)
    (hbind : BindsTo s (fnOf name qual params body scope dV kV doc pm an cdv ct) args binds) (hkind : (binds.all fun y => scope.names.lookup y.1 == some .local || scope.names.lookup y.1 == some .cell) = true)
    (hnd : ((cellsFrom 0 scope.names []).map (·.1)).Nodup)
    (h : ∀ g L' h₁ tk cells, Fr h₀ L g m → Fr g L' h₁ (bindL (envOfC qual scope L' f cdv).kindOf binds fun _ => none) → News g L' h₁ (cells ++ news) →
      CellsAre (bindC (envOfC qual scope L' f cdv).kindOf binds fun _ => none) (cellsFrom (L' + 1) scope.names []) cells → Below A base (envX cn cs L a ccd cl :: outer) g → K.In g → Top p loose mean mg mb g → KtsDicts (frs (envX cn cs L a ccd cl :: outer)) g → (∀ p ∈ news, p.1 < L') → s.toks ≤ tk →
      wpAny (model prog w) (A.deeper (envOfC qual scope L' f cdv)) (execs body (envOfC qual scope L' f cdv))
        (fun fl s' => LeaveG (frs (envX cn cs L a ccd cl :: outer)) A₀ base outer h₀ L m g R (match fl with | .ret v => v | _ => .none) s')
        (fun e s' => wpAny (model prog w) (A.deeper (envOfC qual scope L' f cdv)) (leaving (envOfC qual scope L' f cdv) e) (fun _ s'' => R (.error e) s'') (fun e' s'' => R (.error e') s'') s')
        { s with heap := h₁, toks := tk })
    (hck : cs.kind = .function) (hco : scope.isCoroutine = false) (hgen : scope.isGenerator = false) (hk : scope.kind = .function) : codeAny (model prog w) A (.call (.ref f) args) R s := by
  have X := X₀.keeps F.keep
  obtain ⟨FG, BG, st, _⟩ := groundX (R := R) B F N hA rfl hck
  obtain ⟨oL, es, ep, hLg, hLd, hLk, hLf⟩ := FG.ns
  refine codeAny_call_function hroom (X _ _ ho) rfl hco hgen rfl (codeRec_of X hcd) (hbind _ _ _ _ ?_)
  refine tok_keep (wpAny_newFunctionEnv_cells hk (kindsX hkind _) fun env' he s' x => ?_)
  intro hle
  subst he
  refine ⟨(T.nolimit.keeps F.keep).keeps x.toInCall.keep, codeAny_func ?_⟩
  obtain ⟨h₁, tk, rfl, _⟩ := x.done
  have hk₁ := x.toInCall.keep
  obtain ⟨cells, NC, Y⟩ := Cl.news (h₀ := s.heap) (Nat.le_refl _) fun n c hm => ⟨x.cell n c (lookup_of_mem_nodup (cellsFrom_names scope.names 0 (s.heap.objs.size + 1) [] [] rfl ▸ hnd) hm), x.above n c hm⟩
  refine wpAny_mono (h _ s.heap.objs.size h₁ tk cells FG ⟨x.toInCall.ns, fun b o e => hk₁ b o (of_hideAll _ e), Nat.le_of_eq (hideAll_size _ _)⟩ (fun p hp => ?_) Y BG (X₀.keeps st) (T.keeps st) (fun b hb => by
      rcases frs_mem rfl hb with rfl | hb
      · exact ⟨oL, es, ep, hLg, hLd⟩
      · obtain ⟨o, es', n', ho', hd'⟩ := D b hb
        exact ⟨o, es', n', st b o ho', hd'⟩) (fun p hp => Heap.lt_size (N p hp).1) hle) (fun fl s' hl => leaveG_out B F N hl) fun _ _ y => y
  rcases List.mem_append.mp hp with hp | hp
  · refine ⟨(NC p hp).1, (NC p hp).2.1, ?_⟩
    cases q : (hideAll s.heap (news.map (·.1))).get? p.1 with
    | none => rfl
    | some o => have := of_hideAll _ q; rw [(NC p hp).2.2] at this; cases this
  · exact ⟨hk₁ _ _ (N p hp).1, Nat.ne_of_lt (Heap.lt_size (N p hp).1), hideAll_none _ (List.mem_map_of_mem hp)⟩
end
section
open PySem.Calls PySem.Spec
/-- what the law's two answers are made of -/
inductive Dt where
  | str (x : Str)
  | bool (b : Bool)
  | list (ds : List Dt)
mutual
noncomputable def Dt.p : Dt → PyData
  | .str x => .str x
  | .bool b => .bool b
  | .list ds => .list (Dt.ps ds)
noncomputable def Dt.ps : List Dt → List PyData
  | [] => []
  | d :: r => d.p :: Dt.ps r
end
mutual
/-- a value that stands for it, its lists in the ledger -/
inductive RD (news : Led) : Dt → Value → Prop
  | str (x : Str) (t : Tok) : RD news (.str x) (.str x t)
  | bool (b : Bool) : RD news (.bool b) (.bool b)
  | list {a : Addr} {ys : List Value} {k : Nat} {ds : List Dt} : (a, W.listOf ys.toArray k) ∈ news → RDs news ds ys → RD news (.list ds) (.ref a)
inductive RDs (news : Led) : List Dt → List Value → Prop
  | nil : RDs news [] []
  | cons {d : Dt} {v : Value} {ds : List Dt} {vs : List Value} : RD news d v → RDs news ds vs → RDs news (d :: ds) (v :: vs)
end
mutual
theorem RD.mono {news news' : Led} (hs : ∀ p ∈ news, p ∈ news') : ∀ {d : Dt} {v : Value}, RD news d v → RD news' d v
  | _, _, .str x t => .str x t
  | _, _, .bool b => .bool b
  | _, _, .list hm r => .list (hs _ hm) (RDs.mono hs r)
theorem RDs.mono {news news' : Led} (hs : ∀ p ∈ news, p ∈ news') : ∀ {ds : List Dt} {vs : List Value}, RDs news ds vs → RDs news' ds vs
  | _, _, .nil => .nil
  | _, _, .cons a r => .cons (RD.mono hs a) (RDs.mono hs r)
end
theorem RDs.snoc {news : Led} {d : Dt} {v : Value} : ∀ {ds : List Dt} {vs : List Value}, RDs news ds vs → RD news d v → RDs news (ds ++ [d]) (vs ++ [v])
  | _, _, .nil, h => .cons h .nil
  | _, _, .cons a r, h => .cons a (r.snoc h)
theorem RDs.len {news : Led} : ∀ {ds : List Dt} {vs : List Value}, RDs news ds vs → vs.length = ds.length
  | _, _, .nil => rfl
  | _, _, .cons _ r => by rw [List.length_cons, List.length_cons, r.len]
theorem RDs.strs {news : Led} : ∀ {vs : List Value} {xs : List Str}, StrsAre vs xs → RDs news (xs.map .str) vs
  | _, _, .nil => .nil
  | _, _, .cons x t r => .cons (.str x t) (RDs.strs r)
mutual
theorem RD.reads {g h : Heap} {L : Addr} {news : Led} (N : News g L h news) : ∀ {d : Dt} {v : Value}, RD news d v → ∃ as, Reads h v d.p as
  | _, _, .str x t => ⟨_, Reads.str x t⟩
  | _, _, .bool b => ⟨_, Reads.bool b⟩
  | _, _, .list hm r => by
    obtain ⟨as, q⟩ := RDs.reads N r
    exact ⟨_, reads_list_at (N.get hm) rfl rfl (by simpa [W.listOf] using q)⟩
theorem RDs.reads {g h : Heap} {L : Addr} {news : Led} (N : News g L h news) : ∀ {ds : List Dt} {vs : List Value}, RDs news ds vs → ∃ as, ReadsAll h vs (Dt.ps ds) as
  | _, _, .nil => ⟨_, ReadsAll.nil⟩
  | _, _, .cons a r => by
    obtain ⟨as, q⟩ := RD.reads N a
    obtain ⟨bs, p⟩ := RDs.reads N r
    exact ⟨_, ReadsAll.cons q p⟩
end
/-- of depth n at most, its texts' signs in range -/
noncomputable def Dt.ok : Nat → Dt → Bool
  | _, .str x => PyData.strOk x
  | _, .bool _ => true
  | n + 1, .list ds => ds.all (Dt.ok n)
  | 0, .list _ => false
theorem Dt.lay : ∀ (n : Nat) (d : Dt), Dt.ok n d = true → d.p.canLay0 = true ∧ d.p.depth ≤ n := by
  have all : ∀ (n : Nat), (∀ d, Dt.ok n d = true → d.p.canLay0 = true ∧ d.p.depth ≤ n) → ∀ ds : List Dt, (∀ d ∈ ds, Dt.ok n d = true) → PyData.canLayAll0 (Dt.ps ds) = true ∧ PyData.depthAll (Dt.ps ds) ≤ n := by
    intro n ih ds
    induction ds with
    | nil => intro _; simp [Dt.ps, PyData.canLayAll0, PyData.depthAll]
    | cons d ds hi =>
      intro h
      have h1 := ih d (h d (.head _))
      have h2 := hi fun e he => h e (.tail _ he)
      simp only [Dt.ps, PyData.canLayAll0, PyData.depthAll, h1.1, h2.1, Bool.and_self, true_and]
      have a1 := h1.2
      have a2 := h2.2
      omega
  intro n
  induction n with
  | zero =>
    intro d h
    cases d <;> simp_all [Dt.ok, Dt.p, PyData.canLay0, PyData.depth]
  | succ n ih =>
    intro d h
    cases d with
    | bool b => simp [Dt.p, PyData.canLay0, PyData.depth]
    | str x => simp [Dt.ok] at h; simp [Dt.p, PyData.canLay0, PyData.depth, h]
    | list ds =>
      have q := all n ih ds (by simpa [Dt.ok] using h)
      have q2 := q.2
      simp only [Dt.p, PyData.canLay0, PyData.depth, q.1, true_and]
      omega
mutual
theorem Dt.self : ∀ d : Dt, PyData.eqv d.p d.p = true
  | .str x => by simp [Dt.p, PyData.eqv]
  | .bool b => by simp [Dt.p, PyData.eqv]
  | .list ds => by simp [Dt.p, PyData.eqv, Dt.selfs ds]
theorem Dt.selfs : ∀ ds : List Dt, PyData.eqvAll (Dt.ps ds) (Dt.ps ds) = true
  | [] => by simp [Dt.ps, PyData.eqvAll]
  | d :: r => by simp [Dt.ps, PyData.eqvAll, Dt.self d, Dt.selfs r]
end
/-- two values of one data are equal -/
theorem eq_RD {prog : Program} {w : World} {A : Around} {E : Value → Shared → Prop} {s : Shared} {g : Heap} {L : Addr} {news n₁ n₂ : Led} {d : Dt} {v v' : Value} {Q : Value → Shared → Prop}
    (N : News g L s.heap news) (h1 : RD n₁ d v) (s1 : ∀ p ∈ n₁, p ∈ news) (h2 : RD n₂ d v') (s2 : ∀ p ∈ n₂, p ∈ news) (hok : Dt.ok 9 d = true) (hu : A.units + 64 < cLine) (h : Q (.bool true) s) :
    wpAny (model prog w) A (compareOp .Eq v v') Q E s := by
  obtain ⟨as, ra⟩ := (h1.mono s1).reads N
  obtain ⟨bs, rb⟩ := (h2.mono s2).reads N
  have la := Dt.lay 9 d hok
  have sh : SeqAt.shaped d.p = true := by
    unfold SeqAt.shaped; rw [la.1, Bool.true_and]; exact decide_eq_true (Nat.le_trans la.2 (by decide))
  exact eq_dataH ra rb sh sh hu (by rw [Dt.self]; exact h)
end
section
noncomputable abbrev allParts : List (List Str) := [parts1, parts2, parts3, parts4, parts5]
/-- what the table gives for a sign -/
noncomputable def lookS (T : List (Str × Str)) (k : Str) : Option Str := (T.find? fun kv => kv.1 = k).map (·.2)
noncomputable def inS (s k : Str) : Bool := !(Builtin.Str.occurrences s k 0 s.length 1).isEmpty
noncomputable def refsOf (T : List (Str × Str)) (x : Str) : List Str := (signs x).map fun k => (lookS T k).getD (Str.ofString "")
noncomputable def bareOf (T : List (Str × Str)) (x : Str) : List Str := (signs x).filter fun k => !(lookS T k).isSome
noncomputable def dueText (T : List (Str × Str)) (x : Str) : Str := Txt.join (Str.ofString "") ((signs x).map fun k => (lookS T k).getD k)
noncomputable def setA : Str := Str.ofString "<>\""
noncomputable def setB : Str := Str.ofString "\r\n\t"
noncomputable def hashed (one : Str) : Bool := Txt.slice one none (some 2) == Str.ofString "&#"
noncomputable def dueBools (T : List (Str × Str)) (x : Str) : List Bool :=
  [(refsOf T x).any (· == Str.ofString "&lt;"), (refsOf T x).any (· == Str.ofString "&quot;"), !((refsOf T x).filter hashed).isEmpty, !((bareOf T x).filter (inS setA)).isEmpty, !((bareOf T x).filter (inS setB)).isEmpty]

/-! the patterns' side -/
theorem star_eq (x : Str) (r : List Int) : takeStep x r (Str.ofString "*") = (match r with | [] => [] | k :: _ => rangeKs k ((x.length : Int) + 1 - k).toNat) := by
  unfold takeStep
  rw [if_pos (by decide +kernel)]
  all_goals (cases r <;> rfl)
noncomputable def litB (part : Str) (c : Nat) : Bool := !(part == Str.ofString "*") && !([Str.ofString "?", Str.ofString "."].any fun y => y == part) && !(Txt.item part 0 == Str.ofString "[") && Txt.item part (-1) == ⟨#[c]⟩
theorem slice_sign {x : Str} {c : Nat} {j : Int} (h0 : 0 ≤ j) (h1 : j ≤ x.length) : (Txt.slice x (some j) (some (j + 1)) == ⟨#[c]⟩) = true ↔ x.cps.toList[j.toNat]? = some c := by
  obtain ⟨k, rfl⟩ := Int.eq_ofNat_of_zero_le h0
  by_cases hk : k < x.length
  · rw [slice_one x hk, beq_iff_eq]
    have hk' : k < x.cps.toList.length := by simpa [Str.length] using hk
    rw [Int.toNat_natCast, List.getElem?_eq_getElem hk']
    have e5 : x.cps.toList[k]'hk' = x.cps[k]'hk := Array.getElem_toList hk
    rw [e5]
    constructor
    · intro h
      have := congrArg (fun s : Str => s.cps.toList) h
      exact congrArg some (List.cons.inj this).1
    · intro h
      exact congrArg (fun c : Nat => (⟨#[c]⟩ : Str)) (Option.some.inj h)
  · constructor
    · intro h
      have := slice_item (y := ⟨#[c]⟩) h0 h1 (Nat.le_refl 1) h
      omega
    · intro h
      have := (List.getElem?_eq_some_iff.mp h).1
      rw [Int.toNat_natCast] at this
      exact absurd (by simpa [Str.length] using this) hk
theorem lit_mem {x : Str} {part : Str} {c : Nat} (hl : litB part c = true) {r : List Int} (hr : ∀ j ∈ r, 0 ≤ j ∧ j ≤ (x.length : Int)) (k : Int) :
    k ∈ takeStep x r part ↔ ∃ j ∈ r, k = j + 1 ∧ x.cps.toList[j.toNat]? = some c := by
  simp only [litB, Bool.and_eq_true, Bool.not_eq_true', beq_iff_eq] at hl
  obtain ⟨⟨⟨h1, h2⟩, h3⟩, h4⟩ := hl
  unfold takeStep
  rw [h1, h2, h3, h4]
  simp only [Bool.false_eq_true, if_false, List.mem_map, List.mem_filter]
  constructor
  · rintro ⟨j, ⟨hj, hs⟩, rfl⟩
    exact ⟨j, hj, rfl, (slice_sign (hr j hj).1 (hr j hj).2).mp hs⟩
  · rintro ⟨j, hj, rfl, hs⟩
    exact ⟨j, ⟨hj, (slice_sign (hr j hj).1 (hr j hj).2).mpr hs⟩, rfl⟩
theorem cons_prefix_drop {l cs : List Nat} {c k : Nat} : (c :: cs) <+: l.drop k ↔ l[k]? = some c ∧ cs <+: l.drop (k + 1) := by
  by_cases hk : k < l.length
  · rw [List.drop_eq_getElem_cons hk, List.cons_prefix_cons, List.getElem?_eq_getElem hk]
    constructor
    · rintro ⟨rfl, h⟩; exact ⟨rfl, h⟩
    · rintro ⟨h, h'⟩; exact ⟨(Option.some.inj h).symm, h'⟩
  · rw [List.drop_eq_nil_of_le (by omega), List.getElem?_eq_none (by omega)]
    simp
theorem lits_mem {x : Str} : ∀ (mid : List (Str × Nat)), (∀ e ∈ mid, litB e.1 e.2 = true) → ∀ (r : List Int), (∀ j ∈ r, 0 ≤ j ∧ j ≤ (x.length : Int)) →
    (∀ j ∈ (mid.map (·.1)).foldl (takeStep x) r, 0 ≤ j ∧ j ≤ (x.length : Int)) ∧ ((∃ k, k ∈ (mid.map (·.1)).foldl (takeStep x) r) ↔ ∃ j ∈ r, mid.map (·.2) <+: x.cps.toList.drop j.toNat)
  | [], _, r, hr => ⟨hr, by simp⟩
  | (p, c) :: mid, hl, r, hr => by
    have hm := lit_mem (x := x) (hl (p, c) (.head _)) hr
    have hr1 : ∀ j ∈ takeStep x r p, 0 ≤ j ∧ j ≤ (x.length : Int) := by
      intro k hk
      obtain ⟨j, hj, rfl, hc⟩ := (hm k).mp hk
      have h1 := (List.getElem?_eq_some_iff.mp hc).1
      have h2 := hr j hj
      have h3 : x.cps.toList.length = x.length := by simp [Str.length]
      rw [h3] at h1
      omega
    obtain ⟨a, b⟩ := lits_mem mid (fun e he => hl e (.tail _ he)) (takeStep x r p) hr1
    refine ⟨a, b.trans ?_⟩
    constructor
    · rintro ⟨k, hk, hp⟩
      obtain ⟨j, hj, rfl, hc⟩ := (hm k).mp hk
      refine ⟨j, hj, cons_prefix_drop.mpr ⟨hc, ?_⟩⟩
      rwa [show (j + 1).toNat = j.toNat + 1 from by have := (hr j hj).1; omega] at hp
    · rintro ⟨j, hj, hp⟩
      obtain ⟨hc, hp⟩ := cons_prefix_drop.mp hp
      refine ⟨j + 1, (hm _).mpr ⟨j, hj, rfl, hc⟩, ?_⟩
      rwa [show (j + 1).toNat = j.toNat + 1 from by have := (hr j hj).1; omega]
theorem mem_range0 {n : Nat} {k : Int} : k ∈ rangeKs 0 ((n : Int) + 1 - 0).toNat ↔ 0 ≤ k ∧ k ≤ (n : Int) := by
  constructor
  · intro h
    have := mem_rangeKs h
    omega
  · rintro ⟨h0, h1⟩
    exact kre_mem h0 (by omega)
theorem takes_star (x : Str) (mid : List Str) (hb : ∀ j ∈ mid.foldl (takeStep x) (rangeKs 0 ((x.length : Int) + 1 - 0).toNat), 0 ≤ j ∧ j ≤ (x.length : Int)) :
    takesB x (Str.ofString "*" :: (mid ++ [Str.ofString "*"])) = true ↔ ∃ k, k ∈ mid.foldl (takeStep x) (rangeKs 0 ((x.length : Int) + 1 - 0).toNat) := by
  unfold takesB reachOf
  rw [List.foldl_cons, List.foldl_append, star_eq]
  dsimp only
  generalize List.foldl (takeStep x) (rangeKs 0 ((x.length : Int) + 1 - 0).toNat) mid = R at hb ⊢
  rw [List.foldl_cons, List.foldl_nil, star_eq]
  cases R with
  | nil => simp
  | cons k r =>
    have h := hb k (.head _)
    constructor
    · intro _; exact ⟨k, .head _⟩
    · intro _
      rw [List.any_eq_true]
      exact ⟨(x.length : Int), kre_mem h.2 (by omega), by simp⟩
theorem infix_drop {cs l : List Nat} {n : Nat} (hn : l.length = n) : (∃ j : Int, (0 ≤ j ∧ j ≤ (n : Int)) ∧ cs <+: l.drop j.toNat) ↔ cs <:+: l := by
  rw [List.infix_iff_prefix_suffix]
  constructor
  · rintro ⟨j, _, h⟩
    exact ⟨_, h, List.drop_suffix _ _⟩
  · rintro ⟨t, h, hs⟩
    refine ⟨((l.length - t.length : Nat) : Int), ⟨by omega, by omega⟩, ?_⟩
    rw [Int.toNat_natCast, ← List.suffix_iff_eq_drop.mp hs]
    exact h
theorem takes_lits (x : Str) (mid : List (Str × Nat)) (hl : mid.all (fun e => litB e.1 e.2) = true) :
    takesB x (Str.ofString "*" :: (mid.map (·.1) ++ [Str.ofString "*"])) = true ↔ mid.map (·.2) <:+: x.cps.toList := by
  obtain ⟨a, b⟩ := lits_mem (x := x) mid (fun e he => List.all_eq_true.mp hl e he) (rangeKs 0 ((x.length : Int) + 1 - 0).toNat) (fun j hj => mem_range0.mp hj)
  rw [takes_star x _ a, b, ← infix_drop (n := x.length) (by simp [Str.length])]
  constructor
  · rintro ⟨j, hj, hp⟩; exact ⟨j, mem_range0.mp hj, hp⟩
  · rintro ⟨j, hj, hp⟩; exact ⟨j, mem_range0.mpr hj, hp⟩
noncomputable def setB' (part : Str) (S : List Nat) : Bool := !(part == Str.ofString "*") && !([Str.ofString "?", Str.ofString "."].any fun y => y == part) && (Txt.item part 0 == Str.ofString "[") && (Txt.slice part (some 1) (some (-1))).cps.toList == S
open Builtin Builtin.Str in
theorem takes_set (x part : Str) (S : List Nat) (hl : setB' part S = true) : takesB x [Str.ofString "*", part, Str.ofString "*"] = x.cps.toList.any fun c => decide (c ∈ S) := by
  simp only [setB', Bool.and_eq_true, Bool.not_eq_true', beq_iff_eq] at hl
  obtain ⟨⟨⟨h1, h2⟩, h3⟩, h4⟩ := hl
  have hs : ∀ r : List Int, takeStep x r part = (r.filter fun j => decide (j < (x.length : Int)) && !(occurrences (Txt.slice part (some 1) (some (-1))) (Txt.item x j) 0 (Txt.slice part (some 1) (some (-1))).length 1).isEmpty).map (· + 1) := by
    intro r
    unfold takeStep
    rw [h1, h2, h3]
    simp
  have hb : ∀ j ∈ [part].foldl (takeStep x) (rangeKs 0 ((x.length : Int) + 1 - 0).toNat), 0 ≤ j ∧ j ≤ (x.length : Int) := by
    intro k hk
    rw [List.foldl_cons, List.foldl_nil, hs, List.mem_map] at hk
    obtain ⟨j, hj, rfl⟩ := hk
    obtain ⟨hj, hf⟩ := List.mem_filter.mp hj
    have h5 := mem_range0.mp hj
    have h6 := of_decide_eq_true (Bool.and_eq_true_iff.mp hf).1
    omega
  rw [Bool.eq_iff_iff]
  refine (takes_star x [part] hb).trans ?_
  rw [List.any_eq_true]
  constructor
  · rintro ⟨k, hk⟩
    rw [List.foldl_cons, List.foldl_nil, hs, List.mem_map] at hk
    obtain ⟨j, hj, rfl⟩ := hk
    obtain ⟨hj, hf⟩ := List.mem_filter.mp hj
    have h5 := mem_range0.mp hj
    obtain ⟨k, rfl⟩ := Int.eq_ofNat_of_zero_le h5.1
    obtain ⟨h6, h7⟩ := Bool.and_eq_true_iff.mp hf
    have hk : k < x.length := by have := of_decide_eq_true h6; omega
    rw [item_nat x hk, StrLaws.found_one, h4] at h7
    exact ⟨x.cps[k]'hk, Array.mem_toList_iff.mpr (Array.getElem_mem hk), h7⟩
  · rintro ⟨c, hc, hS⟩
    obtain ⟨k, hk, rfl⟩ := List.getElem_of_mem hc
    have hk' : k < x.length := by simpa [Str.length] using hk
    refine ⟨(k : Int) + 1, ?_⟩
    rw [List.foldl_cons, List.foldl_nil, hs, List.mem_map]
    refine ⟨(k : Int), List.mem_filter.mpr ⟨mem_range0.mpr ⟨by omega, by omega⟩, ?_⟩, rfl⟩
    rw [Bool.and_eq_true_iff]
    refine ⟨decide_eq_true (by omega), ?_⟩
    rw [item_nat x hk', StrLaws.found_one, h4]
    exact hS

/-! the tables' side -/
noncomputable def toS (r : List Nat) : Str := ⟨r.toArray⟩
noncomputable def tabS (T : Tab) : List (Str × Str) := T.map fun e => (⟨#[e.1]⟩, toS e.2)
theorem lookS_tab (c : Nat) : ∀ T : Tab, lookS (tabS T) ⟨#[c]⟩ = (T.lookup c).map toS
  | [] => rfl
  | (k, r) :: T => by
    have ih := lookS_tab c T
    unfold lookS tabS at ih ⊢
    rw [List.map_cons, List.find?_cons, List.lookup_cons]
    by_cases h : c = k
    · subst h; simp
    · have h1 : ((⟨#[k]⟩ : Str) = ⟨#[c]⟩) = False := by
        apply eq_false
        intro e
        have := congrArg (fun s : Str => s.cps.toList) e
        simp at this
        exact h this.symm
      simp only [h1, decide_false]
      rw [beq_eq_false_iff_ne.mpr h]
      exact ih
noncomputable def rAmp : List Nat := [38, 97, 109, 112, 59]
noncomputable def rLt : List Nat := [38, 108, 116, 59]
noncomputable def rGt : List Nat := [38, 103, 116, 59]
noncomputable def rQuot : List Nat := [38, 113, 117, 111, 116, 59]
noncomputable def r13 : List Nat := [38, 35, 49, 51, 59]
noncomputable def r10 : List Nat := [38, 35, 49, 48, 59]
noncomputable def r09 : List Nat := [38, 35, 48, 57, 59]
noncomputable def rxD : List Nat := [38, 35, 120, 68, 59]
noncomputable def rxA : List Nat := [38, 35, 120, 65, 59]
noncomputable def rx9 : List Nat := [38, 35, 120, 57, 59]
noncomputable def allRefs : List (List Nat) := [rAmp, rLt, rGt, rQuot, r13, r10, r09, rxD, rxA, rx9]
noncomputable def n_cdata : Tab := [(38, rAmp), (60, rLt), (62, rGt)]
noncomputable def n_attrib : Tab := [(38, rAmp), (60, rLt), (62, rGt), (34, rQuot), (13, r13), (10, r10), (9, r09)]
noncomputable def n_html : Tab := [(38, rAmp), (62, rGt), (34, rQuot)]
noncomputable def n_plain : Tab := [(38, rAmp), (60, rLt), (62, rGt), (13, rxD)]
noncomputable def n_named : Tab := [(38, rAmp), (60, rLt), (34, rQuot), (9, rx9), (10, rxA), (13, rxD)]
theorem s_cdata : t_cdata = tabS n_cdata := by decide +kernel
theorem s_attrib : t_attrib = tabS n_attrib := by decide +kernel
theorem s_html : t_html = tabS n_html := by decide +kernel
theorem s_plain : t_plain = tabS n_plain := by decide +kernel
theorem s_named : t_named = tabS n_named := by decide +kernel
/-- a pattern's signs and the references that bear them -/
noncomputable def InfOk (p : List Nat) : Prop := ∀ r ∈ allRefs, ∀ rest : List Nat, p <:+: r ++ rest ↔ (r.take p.length = p ∨ p <:+: rest)
theorem inf_skip {q : List Nat} (rest : List Nat) : ∀ {r : List Nat}, 38 ∉ r → (38 :: q <:+: r ++ rest ↔ 38 :: q <:+: rest)
  | [], _ => Iff.rfl
  | c :: r, h => by
    have h1 : 38 ≠ c := fun e => h (e ▸ .head _)
    rw [List.cons_append, List.infix_cons_iff, inf_skip rest fun z => h (.tail _ z)]
    exact ⟨fun z => z.elim (fun y => absurd (List.cons_prefix_cons.mp y).1 h1) id, .inr⟩
theorem inf_ok {p q : List Nat} (hp : p = 38 :: q) (H : ∀ r ∈ allRefs, r = 38 :: r.drop 1 ∧ 38 ∉ r.drop 1 ∧ (p.length ≤ r.length ∨ ¬ r <+: p)) : InfOk p := by
  intro r hr rest
  obtain ⟨h1, h2, h3⟩ := H r hr
  have a : p <+: r ++ rest ↔ r.take p.length = p := by
    refine ⟨fun z => ?_, fun z => z ▸ (List.take_prefix _ _).trans (List.prefix_append _ _)⟩
    rcases Nat.le_total p.length r.length with l | l
    · have := List.prefix_iff_eq_take.mp (List.prefix_of_prefix_length_le z (List.prefix_append r rest) l)
      exact this.symm
    · rcases h3 with h3 | h3
      · have := List.prefix_iff_eq_take.mp (List.prefix_of_prefix_length_le z (List.prefix_append r rest) h3)
        exact this.symm
      · exact absurd (List.prefix_of_prefix_length_le (List.prefix_append r rest) z l) h3
  rw [← a]
  generalize hx : r.drop 1 = x at h1 h2
  subst hp h1
  rw [List.cons_append, List.infix_cons_iff, inf_skip rest h2]
theorem inf_lt : InfOk rLt := inf_ok (q := [108, 116, 59]) rfl (by decide +kernel)
theorem inf_quot : InfOk rQuot := inf_ok (q := [113, 117, 111, 116, 59]) rfl (by decide +kernel)
theorem inf_hash : InfOk [38, 35] := inf_ok (q := [35]) rfl (by decide +kernel)
noncomputable def hasRef (T : Tab) (p l : List Nat) : Bool := l.any fun c => match T.lookup c with | some r => r.take p.length == p | none => false
theorem lookup_mem {T : Tab} {c : Nat} {r : List Nat} (h : T.lookup c = some r) : r ∈ T.map (·.2) := by
  induction T with
  | nil => cases h
  | cons e T ih =>
    obtain ⟨k, q⟩ := e
    rw [List.lookup_cons] at h
    by_cases hk : (c == k) = true
    · rw [hk] at h; cases h; exact .head _
    · rw [Bool.not_eq_true] at hk; rw [hk] at h; exact .tail _ (ih h)
theorem esc_inf {T : Tab} {p : List Nat} {q : List Nat} (hp : p = 38 :: q) (hI : InfOk p) (hr : ∀ r ∈ T.map (·.2), r ∈ allRefs) (h38 : (T.lookup 38).isSome = true) : ∀ l : List Nat, p <:+: esc T l ↔ hasRef T p l = true
  | [] => by subst hp; simp [esc, hasRef]
  | c :: l => by
    have ih := esc_inf hp hI hr h38 l
    have e : esc T (c :: l) = T.of c ++ esc T l := by unfold esc; rw [List.flatMap_cons]
    have e2 : hasRef T p (c :: l) = ((match T.lookup c with | some r => r.take p.length == p | none => false) || hasRef T p l) := by unfold hasRef; rw [List.any_cons]
    rw [e, e2]
    unfold Tab.of
    cases hc : T.lookup c with
    | some r =>
      dsimp only
      rw [hI r (hr r (lookup_mem hc)), ih, Bool.or_eq_true, beq_iff_eq]
    | none =>
      dsimp only
      have hne : c ≠ 38 := by intro q; rw [q] at hc; rw [hc] at h38; cases h38
      rw [List.singleton_append, List.infix_cons_iff, ih, hp, List.cons_prefix_cons, Bool.false_or]
      constructor
      · rintro (⟨h, _⟩ | h)
        · exact absurd h.symm hne
        · exact h
      · exact .inr
theorem filt_any {α : Type} (f : α → Bool) : ∀ l : List α, (!(l.filter f).isEmpty) = l.any f
  | [] => rfl
  | a :: l => by
    rw [List.filter_cons, List.any_cons]
    cases h : f a
    · rw [if_neg (by decide), Bool.false_or]; exact filt_any f l
    · rw [if_pos rfl]; rfl
theorem refs_any {T : Tab} {p : List Nat} {f : Str → Bool} (h0 : f (Str.ofString "") = false) (hf : ∀ r ∈ allRefs, f (toS r) = (r.take p.length == p)) (hr : ∀ r ∈ T.map (·.2), r ∈ allRefs) (x : Str) :
    (refsOf (tabS T) x).any f = hasRef T p x.cps.toList := by
  unfold refsOf signs hasRef
  rw [List.map_map, List.any_map]
  congr 1
  funext c
  show f ((lookS (tabS T) ⟨#[c]⟩).getD (Str.ofString "")) = _
  rw [lookS_tab]
  cases hc : T.lookup c with
  | some r => exact hf r (hr r (lookup_mem hc))
  | none => exact h0
theorem bare_any {T : Tab} {S : Str} {SL : List Nat} (hS : S.cps.toList = SL) (hn : ∀ r ∈ allRefs, (r.any fun c => decide (c ∈ SL)) = false) (hr : ∀ r ∈ T.map (·.2), r ∈ allRefs) (x : Str) :
    ((bareOf (tabS T) x).any (inS S)) = (esc T x.cps.toList).any fun c => decide (c ∈ SL) := by
  unfold bareOf signs esc
  rw [List.any_filter, List.any_map, List.any_flatMap]
  congr 1
  funext c
  show (!(lookS (tabS T) ⟨#[c]⟩).isSome && inS S ⟨#[c]⟩) = _
  rw [lookS_tab]
  unfold inS Tab.of
  rw [StrLaws.found_one, hS]
  cases hc : T.lookup c with
  | some r => simpa using hn r (hr r (lookup_mem hc))
  | none => simp
theorem join_flat {e : Str} (he : e.cps.toList = []) : ∀ l : List Str, (Str.join e l).cps.toList = l.flatMap fun s => s.cps.toList
  | [] => rfl
  | [s] => by simp [Str.join]
  | s :: q :: r => by
    have ih := join_flat he (q :: r)
    show (s ++ e ++ Str.join e (q :: r)).cps.toList = _
    rw [Str.cps_append, Str.cps_append, Array.toList_append, Array.toList_append, he, ih]
    simp
theorem join_empty (l : List Str) : (Txt.join (Str.ofString "") l).cps.toList = l.flatMap fun s => s.cps.toList := by
  show (Builtin.Str.glued _ l).cps.toList = _
  rw [StrLaws.glued_eq_join]
  exact join_flat (by decide +kernel) l
theorem due_text (T : Tab) (x : Str) : (dueText (tabS T) x).cps.toList = esc T x.cps.toList := by
  unfold dueText signs
  rw [join_empty, List.map_map, List.flatMap_map]
  unfold esc
  congr 1
  funext c
  show ((lookS (tabS T) ⟨#[c]⟩).getD ⟨#[c]⟩).cps.toList = _
  rw [lookS_tab]
  unfold Tab.of
  cases hc : T.lookup c with
  | some r => simp [toS]
  | none => simp
noncomputable def tabB (T : Tab) : Bool := (T.map (·.2)).all (fun r => decide (r ∈ allRefs)) && (T.lookup 38).isSome && (T.map (·.1)).all fun c => seqPut T [c] == T.of c
theorem plain_row {T : Tab} (hT : tabB T = true) (wf : Str → Str) (hw : ∀ x, (wf x).cps.toList = seqPut T x.cps.toList) (x : Str) :
    wf x = dueText (tabS T) x ∧ (allParts.map fun ps => takesB (wf x) ps) = dueBools (tabS T) x := by
  simp only [tabB, Bool.and_eq_true, List.all_eq_true, decide_eq_true_eq, beq_iff_eq] at hT
  obtain ⟨⟨hr, h38⟩, hk⟩ := hT
  have he : (wf x).cps.toList = esc T x.cps.toList := (hw x).trans (seqPut_esc T hk _)
  have ht : wf x = dueText (tabS T) x := by
    apply Str.ext'
    apply Array.toList_inj.mp
    rw [he, due_text]
  refine ⟨ht, ?_⟩
  have b1 : takesB (wf x) parts1 = hasRef T rLt x.cps.toList := by
    rw [Bool.eq_iff_iff]
    refine (takes_lits (wf x) [(Str.ofString "\\&", 38), (Str.ofString "l", 108), (Str.ofString "t", 116), (Str.ofString ";", 59)] (by decide +kernel)).trans ?_
    rw [he]
    exact esc_inf (p := rLt) rfl inf_lt hr h38 _
  have b2 : takesB (wf x) parts2 = hasRef T rQuot x.cps.toList := by
    rw [Bool.eq_iff_iff]
    refine (takes_lits (wf x) [(Str.ofString "\\&", 38), (Str.ofString "q", 113), (Str.ofString "u", 117), (Str.ofString "o", 111), (Str.ofString "t", 116), (Str.ofString ";", 59)] (by decide +kernel)).trans ?_
    rw [he]
    exact esc_inf (p := rQuot) rfl inf_quot hr h38 _
  have b3 : takesB (wf x) parts3 = hasRef T [38, 35] x.cps.toList := by
    rw [Bool.eq_iff_iff]
    refine (takes_lits (wf x) [(Str.ofString "\\&", 38), (Str.ofString "\\#", 35)] (by decide +kernel)).trans ?_
    rw [he]
    exact esc_inf (p := [38, 35]) rfl inf_hash hr h38 _
  have b4 : takesB (wf x) parts4 = (esc T x.cps.toList).any fun c => decide (c ∈ [60, 62, 34]) := by rw [← he]; exact takes_set (wf x) _ _ (by decide +kernel)
  have b5 : takesB (wf x) parts5 = (esc T x.cps.toList).any fun c => decide (c ∈ [13, 10, 9]) := by rw [← he]; exact takes_set (wf x) _ _ (by decide +kernel)
  show [takesB (wf x) parts1, takesB (wf x) parts2, takesB (wf x) parts3, takesB (wf x) parts4, takesB (wf x) parts5] = _
  unfold dueBools
  rw [b1, b2, b3, b4, b5, filt_any, filt_any, filt_any, refs_any (p := rLt) (by decide +kernel) (by decide +kernel) hr x, refs_any (p := rQuot) (by decide +kernel) (by decide +kernel) hr x, refs_any (p := [38, 35]) (by decide +kernel) (by decide +kernel) hr x,
    bare_any (S := setA) (SL := [60, 62, 34]) (by decide +kernel) (by decide +kernel) hr x, bare_any (S := setB) (SL := [13, 10, 9]) (by decide +kernel) (by decide +kernel) hr x]
theorem esc_len {T : Tab} (hr : ∀ r ∈ T.map (·.2), r ∈ allRefs) : ∀ l : List Nat, (esc T l).length ≤ 6 * l.length
  | [] => Nat.le_refl _
  | c :: l => by
    have ih := esc_len hr l
    have e : esc T (c :: l) = T.of c ++ esc T l := by unfold esc; rw [List.flatMap_cons]
    have hc : (T.of c).length ≤ 6 := by
      unfold Tab.of
      cases hq : T.lookup c with
      | some r =>
        have h6 : ∀ r ∈ allRefs, r.length ≤ 6 := by decide +kernel
        exact h6 r (hr r (lookup_mem hq))
      | none => exact Nat.le_of_ble_eq_true rfl
    rw [e, List.length_append, List.length_cons]
    omega
theorem row_len {T : Tab} (hT : tabB T = true) (wf : Str → Str) (hw : ∀ x, (wf x).cps.toList = seqPut T x.cps.toList) (x : Str) : (wf x).length ≤ 6 * x.length := by
  simp only [tabB, Bool.and_eq_true, List.all_eq_true, decide_eq_true_eq, beq_iff_eq] at hT
  obtain ⟨⟨hr, h38⟩, hk⟩ := hT
  have he : (wf x).cps.toList = esc T x.cps.toList := (hw x).trans (seqPut_esc T hk _)
  have h := esc_len hr x.cps.toList
  rw [← he] at h
  simpa [Str.length] using h
theorem putS_list (c : Nat) (z x : Str) : (putS c z x).cps.toList = put c z.cps.toList x.cps.toList := by unfold putS; simp
theorem p_cdata (x : Str) : w_cdata x = dueText t_cdata x ∧ (allParts.map fun ps => takesB (w_cdata x) ps) = dueBools t_cdata x := by
  rw [s_cdata]
  refine plain_row (by decide +kernel) _ (fun x => ?_) x
  simp only [w_cdata, putS_list]
  rfl
theorem p_attrib (x : Str) : w_attrib x = dueText t_attrib x ∧ (allParts.map fun ps => takesB (w_attrib x) ps) = dueBools t_attrib x := by
  rw [s_attrib]
  refine plain_row (by decide +kernel) _ (fun x => ?_) x
  simp only [w_attrib, putS_list]
  rfl
theorem p_html (x : Str) : w_html x = dueText t_html x ∧ (allParts.map fun ps => takesB (w_html x) ps) = dueBools t_html x := by
  rw [s_html]
  refine plain_row (by decide +kernel) _ (fun x => ?_) x
  simp only [w_html, putS_list]
  rfl
theorem p_plain (x : Str) : w_plain x = dueText t_plain x ∧ (allParts.map fun ps => takesB (w_plain x) ps) = dueBools t_plain x := by
  rw [s_plain]
  refine plain_row (by decide +kernel) _ (fun x => ?_) x
  simp only [w_plain, putS_list]
  rfl
theorem p_named (x : Str) : w_named x = dueText t_named x ∧ (allParts.map fun ps => takesB (w_named x) ps) = dueBools t_named x := by
  rw [s_named]
  refine plain_row (by decide +kernel) _ (fun x => ?_) x
  simp only [w_named, putS_list]
  rfl
theorem l_cdata (x : Str) : (w_cdata x).length ≤ 6 * x.length := by
  refine row_len (T := n_cdata) (by decide +kernel) _ (fun x => ?_) x
  simp only [w_cdata, putS_list]
  rfl
theorem l_attrib (x : Str) : (w_attrib x).length ≤ 6 * x.length := by
  refine row_len (T := n_attrib) (by decide +kernel) _ (fun x => ?_) x
  simp only [w_attrib, putS_list]
  rfl
theorem l_html (x : Str) : (w_html x).length ≤ 6 * x.length := by
  refine row_len (T := n_html) (by decide +kernel) _ (fun x => ?_) x
  simp only [w_html, putS_list]
  rfl
theorem l_plain (x : Str) : (w_plain x).length ≤ 6 * x.length := by
  refine row_len (T := n_plain) (by decide +kernel) _ (fun x => ?_) x
  simp only [w_plain, putS_list]
  rfl
theorem l_named (x : Str) : (w_named x).length ≤ 6 * x.length := by
  refine row_len (T := n_named) (by decide +kernel) _ (fun x => ?_) x
  simp only [w_named, putS_list]
  rfl
end
section
open PySem.Calls PySem.Spec

/-- lists of texts, their objects in the ledger -/
inductive PLists (led : Led) : List Value → List (List Str) → Prop
  | nil : PLists led [] []
  | cons {a : Addr} {its : Array Value} {c : Nat} {ps : List Str} {vs : List Value} {pss : List (List Str)} : (a, W.listOf its c) ∈ led → StrsAre its.toList ps → PLists led vs pss → PLists led (.ref a :: vs) (ps :: pss)
theorem PLists.mono {led led' : Led} (h : ∀ q ∈ led, q ∈ led') : ∀ {vs : List Value} {pss : List (List Str)}, PLists led vs pss → PLists led' vs pss
  | _, _, .nil => .nil
  | _, _, .cons hm hs r => .cons (h _ hm) hs (r.mono h)
theorem PLists.snoc {led : Led} {a : Addr} {its : Array Value} {c : Nat} {ps : List Str} (hm : (a, W.listOf its c) ∈ led) (hs : StrsAre its.toList ps) : ∀ {vs : List Value} {pss : List (List Str)}, PLists led vs pss → PLists led (vs ++ [.ref a]) (pss ++ [ps])
  | _, _, .nil => .cons hm hs .nil
  | _, _, .cons hm' hs' r => .cons hm' hs' (r.snoc hm hs)
noncomputable abbrev allPats : List Str := [pat1, pat2, pat3, pat4, pat5]
theorem all_pats : wordsAt lineS 0 [6, 8, 4, 7, 7] = allPats := by decide +kernel
inductive PartsJ (h₀ : Heap) (cP cW : Addr) (oP oW : Obj) (fixed : Led) (i : Nat) (ys : List Value) (g : Heap) (nw : Led) : Prop
  | mk (e1 : g = h₀) (tb : Array Value) (rest : Led) (e2 : TabT tb) (e3 : nw = (105, tabObj tb) :: (cP, oP) :: (cW, oW) :: rest) (e4 : NeAll 105 rest) (e5 : NeAll cP rest) (e6 : NeAll cW rest) (e7 : (∀ q ∈ fixed, q ∈ rest)) (e8 : PLists rest ys (allParts.take i)) : PartsJ h₀ cP cW oP oW fixed i ys g nw
noncomputable def PatOk (P : Str) (ps : List Str) : Prop := ∃ K, TrOk P ps K SetOk ∧ P.length ≤ 1000 ∧ ps.length ≤ 1000
theorem pat_ok : ∀ {i : Nat} {y : Str}, allPats[i]? = some y → ∃ ps, allParts[i]? = some ps ∧ PatOk y ps
  | 0, _, h => by cases h; exact ⟨_, rfl, _, trok1, by decide +kernel, by decide⟩
  | 1, _, h => by cases h; exact ⟨_, rfl, _, trok2, by decide +kernel, by decide⟩
  | 2, _, h => by cases h; exact ⟨_, rfl, _, trok3, by decide +kernel, by decide⟩
  | 3, _, h => by cases h; exact ⟨_, rfl, _, trok4, by decide +kernel, by decide⟩
  | 4, _, h => by cases h; exact ⟨_, rfl, _, trok5, by decide +kernel, by decide⟩
  | i + 5, _, h => by simp at h
theorem parts_ok : ∀ ps ∈ allParts, ∀ p ∈ ps, 1 ≤ p.length ∧ p.length ≤ 64 := by decide +kernel
theorem neAll_cons {d : Nat} {q : Addr × Obj} {l : Led} (h : @Ne Nat q.1 d) (r : NeAll d l) : NeAll d (q :: l) := ⟨h, r⟩
/-- a row of what the writers told -/
noncomputable def toldRow (wf : Str → Str) (ts : List Str) : Dt := .list [.list (ts.map fun x => .str (wf x)), .list (ts.map fun x => .list (allParts.map fun ps => .bool (takesB (wf x) ps))), .bool true, .bool true]
noncomputable abbrev toldRows (ts : List Str) : List Dt := [toldRow w_cdata ts, toldRow w_attrib ts, toldRow w_html ts, toldRow w_plain ts, toldRow w_named ts]
noncomputable def WriterOk (w : World) (p : Program) (loose : List Str) (mean : ExcName → Option Value) (mg mb : Str → Option Value) (wa : Addr) (wf : Str → Str) : Prop :=
  keepIn (hd.heap_1 w.params) (.ref wa) = true ∧ (∀ (x : Str) (tx : Tok) (news : Led), x.length ≤ 4 → CallT 500 5000 w p loose mean mg mb wa news [.str x tx] (One fun t => .str (wf x) t)) ∧ RefOk w p loose mean mg mb wa
theorem writer_ok (w : World) (p : Program) (loose : List Str) (mean : ExcName → Option Value) (mg mb : Str → Option Value) (ts : List Str) : ∀ {i : Nat} {v : Value}, ([.ref 58, .ref 65, .ref 72, .ref 79, .ref 86] : List Value)[i]? = some v →
    ∃ wa wf, v = .ref wa ∧ (toldRows ts)[i]? = some (toldRow wf ts) ∧ (wf = w_cdata ∨ wf = w_attrib ∨ wf = w_html ∨ wf = w_plain ∨ wf = w_named) ∧ WriterOk w p loose mean mg mb wa wf
  | 0, _, h => by cases h; exact ⟨_, _, rfl, rfl, .inl rfl, by k_is, fun x tx news hx => c_cdata w p loose mean mg mb x tx hx news, c_ref58 w p loose mean mg mb⟩
  | 1, _, h => by cases h; exact ⟨_, _, rfl, rfl, .inr (.inl rfl), by k_is, fun x tx news hx => c_attrib w p loose mean mg mb x tx hx news, c_ref65 w p loose mean mg mb⟩
  | 2, _, h => by cases h; exact ⟨_, _, rfl, rfl, .inr (.inr (.inl rfl)), by k_is, fun x tx news hx => c_html w p loose mean mg mb x tx hx news, c_ref72 w p loose mean mg mb⟩
  | 3, _, h => by cases h; exact ⟨_, _, rfl, rfl, .inr (.inr (.inr (.inl rfl))), by k_is, fun x tx news hx => c_plain w p loose mean mg mb x tx hx news, c_ref79 w p loose mean mg mb⟩
  | 4, _, h => by cases h; exact ⟨_, _, rfl, rfl, .inr (.inr (.inr (.inr rfl))), by k_is, fun x tx news hx => c_named w p loose mean mg mb x tx hx news, c_ref86 w p loose mean mg mb⟩
  | i + 5, _, h => by simp at h
inductive ToldJ (GR : Heap → Prop) (cP cW T R P : Addr) (oP : Obj) (pls xs : List Value) (n : Nat) (fixed : Led) (ds : List Dt) (i : Nat) (m : Str → Option Value) (g : Heap) (nw : Led) : Prop
  | mk (e1 : GR g) (rs : List Value) (oW : Obj) (vW : Option Value) (m2 : Str → Option Value) (rest : Led) (e2 : m = (fun y => if y = Str.ofString "told" then some (.ref R) else if y = Str.ofString "texts" then some (.ref T) else m2 y)) (e3 : nw = (R, LCg.lst rs) :: (cW, oW) :: (cP, oP) :: (P, LCg.lst pls) :: (T, W.listOf xs.toArray n) :: rest) (e4 : oW.data = .cell vW) (e5 : NeAll R ((cW, oW) :: (cP, oP) :: (P, LCg.lst pls) :: (T, W.listOf xs.toArray n) :: rest)) (e6 : NeAll cW ((cP, oP) :: (P, LCg.lst pls) :: (T, W.listOf xs.toArray n) :: rest)) (e7 : (∀ q ∈ fixed, q ∈ rest)) (e8 : RDs rest (ds.take i) rs) : ToldJ GR cP cW T R P oP pls xs n fixed ds i m g nw
noncomputable abbrev WrJ (g₁ : Heap) (nw₁ : Led) (wf : Str → Str) (ts : List Str) : Nat → List Value → Heap → Led → Prop := Stay g₁ nw₁ fun i ys => StrsAre ys ((ts.take i).map wf)
inductive TkJ (g₁ : Heap) (nw₁ : Led) (wf : Str → Str) (ts : List Str) (i : Nat) (ys : List Value) (g : Heap) (nw : Led) : Prop
  | mk (e1 : g = g₁) (tl : Led) (e2 : nw = tl ++ nw₁) (e3 : (∀ q ∈ tl, ∀ p ∈ nw₁, p.1 ≠ q.1)) (e4 : RDs tl ((ts.take i).map fun x => Dt.list (allParts.map fun ps => .bool (takesB (wf x) ps))) ys) : TkJ g₁ nw₁ wf ts i ys g nw
noncomputable abbrev BoJ (g₁ : Heap) (nw₁ : Led) (x : Str) : Nat → List Value → Heap → Led → Prop := Stay g₁ nw₁ fun i ys => ys = (allParts.take i).map fun ps => Value.bool (takesB x ps)
theorem RDs.bools {news : Led} {x : Str} : ∀ (pss : List (List Str)), RDs news (pss.map fun ps => .bool (takesB x ps)) (pss.map fun ps => Value.bool (takesB x ps))
  | [] => .nil
  | _ :: r => .cons (.bool _) (RDs.bools r)
theorem PLists.item {led : Led} : ∀ {vs : List Value} {pss : List (List Str)}, PLists led vs pss → ∀ {i : Nat} {v : Value}, vs[i]? = some v → ∃ (a : Addr) (its : Array Value) (c : Nat) (ps : List Str), v = .ref a ∧ pss[i]? = some ps ∧ (a, W.listOf its c) ∈ led ∧ StrsAre its.toList ps
  | _, _, .nil, i, v, h => by simp at h
  | _, _, .cons hm hs r, 0, v, h => by simp at h; exact ⟨_, _, _, _, h.symm, by simp, hm, hs⟩
  | _, _, .cons hm hs r, i + 1, v, h => by simpa using r.item (by simpa using h)
theorem PLists.len {led : Led} : ∀ {vs : List Value} {pss : List (List Str)}, PLists led vs pss → vs.length = pss.length
  | _, _, .nil => rfl
  | _, _, .cons _ _ r => by rw [List.length_cons, List.length_cons, r.len]
theorem told_form {T R : Addr} {M : Str → Option Value} (h : M (Str.ofString "texts") = some (.ref T)) : (fun y => if y = Str.ofString "told" then some (Value.ref R) else M y) = (fun y => if y = Str.ofString "told" then some (.ref R) else if y = Str.ofString "texts" then some (.ref T) else M y) := by
  funext y
  by_cases h1 : y = Str.ofString "told"
  · simp [h1]
  · by_cases h2 : y = Str.ofString "texts"
    · subst h2; simp [h]
    · simp [h1, h2]
theorem told_form2 {T R : Addr} {M : Str → Option Value} {D : Value} : (fun z => if z = Str.ofString "written" then some D else (if z = Str.ofString "told" then some (Value.ref R) else if z = Str.ofString "texts" then some (.ref T) else M z)) = (fun y => if y = Str.ofString "told" then some (.ref R) else if y = Str.ofString "texts" then some (.ref T) else (fun z => if z = Str.ofString "written" then some D else M z) y) := by
  funext y
  by_cases h1 : y = Str.ofString "told"
  · subst h1; rfl
  · by_cases h2 : y = Str.ofString "texts"
    · subst h2; rfl
    · simp only [if_neg h1, if_neg h2]
theorem c_told (w : World) (p : Program) (loose : List Str) (mean : ExcName → Option Value) (mg mb : Str → Option Value) (tx : Tok) (news : Led) (tb₀ : Array Value) (htb : TabT tb₀) (hne : NeAll 105 news) (T : Addr) (xs : List Value) (n : Nat) (ts : List Str) (hT0 : (T, W.listOf xs.toArray n) ∈ news) (hts : StrsAre xs ts) (hlen : ∀ x ∈ ts, x.length ≤ 4) (hcount : ts.length ≤ 8)
    (cn : Str) (nms : List (Str × NameKind)) (ig ic : Bool) (mo : List (Str × Const)) (a : Addr) (ccd : Value) (cl : List (Str × Addr)) (outer : List Env) (A₀ : Around) (base h₀ : Heap) (L : Addr) (m : Str → Option Value) (s : Shared) (Q E : Value → Shared → Prop)
    (hBl : Below A₀ base outer h₀) (hF : Fr h₀ L s.heap m) (hK : (hd.heap_1 w.params).In h₀) (hN : News h₀ L s.heap ((105, tabObj tb₀) :: news)) (hT : Top p loose mean mg mb h₀) (hD : KtsDicts (frs outer) h₀) (hKb : (hd.heap_1 w.params).In base) (hTb : Top p loose mean mg mb base) (ht : 0 < s.toks) (hCd : CodeHd base 109 105)
    (hret : ∀ (h₀' h' : Heap) (tk' : Nat) (R : Addr) (nw : Led), KtsTurn (frs outer) h₀ h₀' → Fr h₀' L h' m → News h₀' L h' nw → Below A₀ base outer h₀' → 0 < tk' → RD nw (.list (toldRows ts)) (.ref R) → (∃ tb, TabT tb ∧ (105, tabObj tb) ∈ nw) → (∀ q ∈ news, q ∈ nw) → Q (.ref R) { s with heap := h', toks := tk' }) :
    wpAny (model PySem.Challenge.pw_ik0168_01 w) (ktrTop 360 3600 (some []) cn { kind := .function, names := nms, isGenerator := ig, isCoroutine := ic, more := mo } L a ccd cl outer) (call (.ref 856) [.ref T, .str lineS tx]) Q E s := by
  refine wpAny_mono (Q := Q) (E := fun _ _ => False) ?_ (fun _ _ h => h) (fun _ _ h => h.elim)
  refine wpAny_call ?_
  k_dflt (refine' enterGC hBl hF hK hN hT hD ?kA ?k6 ?k7 ?k8 ?k9 ?kB ?kD ?_ ?c1 ?c2 ?c3 ?c4; (case kA => exact rfl); (case k6 => k_is); (case k7 => k_is); (case k8 => ktr_room); (case k9 => first | exact BindsTo.of_eq rfl | exact binds_K (by k_in) rfl (by k_is) rfl rfl rfl); (case kB => exact rfl); (case kD => decide +kernel); (case c1 => exact rfl); (case c2 => exact rfl); (case c3 => exact rfl); (case c4 => exact rfl); k_whole)
  intro g' L' h' tk' cells' FG' F' N' Y' B' X' T' D' l1 hle0
  k_cells Y'
  (try simp only [List.cons_append, List.nil_append] at N')
  (try dsimp only)
  (try k_fold)
  have htk' : 0 < tk' := by have : s.toks ≤ tk' := hle0; omega
  rename_i oW oP dW dP
  repeat' ((fail_if_success (with_reducible show wpAny _ _ (eval (Expr.ListComp _ _ _ _) _) _ _ _)); (first | (k_unfold; (try dsimp only)) | (k_end; wrow_close) | walk1 | (dsimp only; walk1)))
  refine comp_val (cl := []) (by with_unfolding_all rfl) rfl (by decide) ?_
  repeat' ((fail_if_success (with_reducible show wpAny _ _ (call (Value.ref 810) _) _ _ _)); (first | (k_unfold; (try dsimp only)) | (k_end; wrow_close) | walk1 | (dsimp only; walk1)))
  rename Fr _ _ _ _ => F1
  rename News _ _ _ _ => N1
  rename Below _ _ _ _ => B1
  refine around_mono (d := 370) (u := 3700) (Nat.le_of_ble_eq_true rfl) (Nat.le_of_ble_eq_true rfl) ?_
  refine c_split w p loose mean mg mb _ _ _ _ _ _ _ _ _ _ _ _ _ _ _ _ _ _ _ B1 F1 X' N1 T' D' (by first | assumption | (show 0 < _ ; omega)) ?_
  intro g1 h1 tk1 S ys1 c1 T1 F2 N2 B2 hys hS htk1
  rw [all_pats] at hys
  have K2 := hKb.keeps B2.stays
  have Tp2 := hTb.keeps B2.stays
  have Cd2 := hCd.keeps B2.stays
  have hS0 : ∀ q ∈ news, @LT.lt Nat _ q.1 S := fun q hq => hS q (.tail _ (.tail _ (.tail _ hq)))
  have ln : ∀ q ∈ news, @LT.lt Nat _ q.1 L' := fun q hq => l1 q (.tail _ hq)
  have l105 : @LT.lt Nat _ 105 L' := l1 _ (.head _)
  have hSP : @LT.lt Nat _ (L' + 1) S := hS _ (.tail _ (.head _))
  have hSW : @LT.lt Nat _ (L' + 1 + 1) S := hS _ (.head _)
  have n1 : NeAll 105 ((S, lstO ys1 c1) :: news) := neAll_cons (by show @Ne Nat S 105; omega) hne
  have n2 : NeAll (L' + 1) ((S, lstO ys1 c1) :: news) := neAll_cons (by show @Ne Nat S (L' + 1); omega) (neAll_of fun q hq => Nat.ne_of_lt (Nat.lt_succ_of_lt (ln q hq)))
  have n3 : NeAll (L' + 1 + 1) ((S, lstO ys1 c1) :: news) := neAll_cons (by show @Ne Nat S (L' + 1 + 1); omega) (neAll_of fun q hq => Nat.ne_of_lt (Nat.lt_succ_of_lt (Nat.lt_succ_of_lt (ln q hq))))
  dsimp only
  refine from_list_L (items := ys1.toArray) (news := (105, tabObj tb₀) :: (L' + 1, oP) :: (L' + 1 + 1, oW) :: (S, lstO ys1 c1) :: news) (PartsJ g1 (L' + 1) (L' + 1 + 1) oP oW ((S, lstO ys1 c1) :: news)) rfl F2 ?hN ?hsz ?h0 ?hsrc (by decide) rfl rfl ?turn (doneV ?done)
  case hN => exact fun q hq => N2 q (by first | (revert q; (repeat (first | exact sub_r | exact sub_n | (refine sub_c ?_ ?_; focus ((repeat (first | exact List.Mem.head _ | refine List.Mem.tail _ ?_)); done)) | refine sub_t ?_)); done) | (simp only [List.mem_cons] at hq ⊢; rcases hq with h | h | h | h | h <;> simp [h]))
  case hsz => rw [List.size_toArray, hys.len_eq]; exact Nat.le_of_ble_eq_true rfl
  case h0 => exact ⟨rfl, tb₀, _, htb, rfl, n1, n2, n3, fun q hq => hq, .nil⟩
  case hsrc =>
    rintro j ys g nw ⟨rfl, tb, rest, htb1, rfl, hne1, hneP, hneW, hfix, hpl⟩
    exact .inr ⟨_, .tail _ (.tail _ (.tail _ (hfix _ (.head _)))), rfl, _, rfl⟩
  case turn =>
    intro i v I it C oC m₂ D ys g h tk nw E' hi hP hoC hx hJ F3 N3 off ne htk hyl
    refine wpAny_tests_nil ?_
    simp only [if_true]
    obtain ⟨rfl, tb, rest, htb1, rfl, hne1, hneP, hneW, hfix, hpl⟩ := hJ
    obtain ⟨y, t, rfl, hy⟩ := hys.item i v (by simpa [ItemAt] using hP)
    obtain ⟨ps, hps, K, hTr, hPl, hpl2⟩ := pat_ok hy
    repeat' ((fail_if_success (with_reducible show wpAny _ _ (call (Value.ref 110) _) _ _ _)); (first | (k_unfold; (try dsimp only)) | (k_end; wrow_close) | walk1 | (dsimp only; walk1)))
    have offm := off.mem
    have htkp : 0 < tk := Nat.lt_of_lt_of_le htk1 htk
    have n5 : NeAll 105 ((I, it) :: (C, oC) :: (D, LCg.lst ys) :: (L' + 1, oP) :: (L' + 1 + 1, oW) :: rest) := neAll_cons (Ne.symm (offm _ (.head _)).1) (neAll_cons (Ne.symm (offm _ (.head _)).2.1) (neAll_cons (Ne.symm (offm _ (.head _)).2.2) (neAll_cons (by show @Ne Nat (L' + 1) 105; omega) (neAll_cons (by show @Ne Nat (L' + 1 + 1) 105; omega) hne1))))
    refine c_tr w p loose mean mg mb ((I, it) :: (C, oC) :: (D, LCg.lst ys) :: (L' + 1, oP) :: (L' + 1 + 1, oW) :: rest) y ps K hTr hPl hpl2 t tk (tk + 1) htkp tb htb1 n5 _ _ _ _ _ _ _ _ _ _ _ _ _ _ _ _ B2 F3 K2 ?kN Tp2 rfl ?kd ?ku ?kt Cd2 ?kR
    case kN => exact fun q hq => N3 q (by first | (revert q; (repeat (first | exact sub_r | exact sub_n | (refine sub_c ?_ ?_; focus ((repeat (first | exact List.Mem.head _ | refine List.Mem.tail _ ?_)); done)) | refine sub_t ?_)); done) | (simp only [List.mem_cons] at hq ⊢; rcases hq with h | h | h | h | h <;> simp [h]))
    case kd => exact Nat.le_of_ble_eq_true rfl
    case ku => exact Nat.le_of_ble_eq_true rfl
    case kt => show tk < tk + 1 + 1; omega
    case kR =>
      rintro v led h' tk' hle4 F4 N4 ⟨a, its, c, tb', rfl, rfl, htb', h105a, hna, hst⟩
      (try dsimp only)
      (try k_unfold)
      (try dsimp only)
      simp only [NeAll] at hna
      refine ⟨h', tk', g, (105, tabObj tb') :: (L' + 1, oP) :: (L' + 1 + 1, oW) :: (a, W.listOf its c) :: rest, rfl, F4, ?_, ?_, rfl, tb', _, htb', rfl, neAll_cons (Ne.symm h105a) hne1, neAll_cons (Ne.symm hna.2.2.2.1) hneP, neAll_cons (Ne.symm hna.2.2.2.2.1) hneW, fun q hq => .tail _ (hfix q hq), ?_⟩
      · exact fun q hq => N4 q (by first | (revert q; (repeat (first | exact sub_r | exact sub_n | (refine sub_c ?_ ?_; focus ((repeat (first | exact List.Mem.head _ | refine List.Mem.tail _ ?_)); done)) | refine sub_t ?_)); done) | (simp only [List.mem_cons, List.mem_append, List.not_mem_nil, or_false] at hq ⊢; rcases hq with h | h | h | h | h | h | h | h <;> simp [h]))
      · exact all_c (mk_off (offm (105, tabObj tb) (.head _))) (all_c (mk_off (offm _ (.tail _ (.head _)))) (all_c (mk_off (offm _ (.tail _ (.tail _ (.head _))))) (all_c (mk_off ⟨Ne.symm hna.1, Ne.symm hna.2.1, Ne.symm hna.2.2.1⟩) fun q hq => mk_off (offm _ (.tail _ (.tail _ (.tail _ hq)))))))
      · rw [List.take_add_one, hps]
        exact (hpl.mono fun q hq => .tail _ hq).snoc (.head _) hst
  case done =>
    rintro D h tk ys g nw ⟨rfl, tb, rest, htb1, rfl, hne1, hneP, hneW, hfix, hpl⟩ F3 N3 off htk
    have hpl5 : PLists rest ys allParts := by
      have e : allParts.take ys1.toArray.size = allParts := by rw [List.size_toArray, hys.len_eq]; rfl
      rw [e] at hpl; exact hpl
    clear hpl
    have htkp : 0 < tk := Nat.lt_of_lt_of_le htk1 htk
    refine store_cell (pre := []) (post := (L' + 1 + 1, oW) :: (D, LCg.lst ys) :: (105, tabObj tb) :: rest) (c := L' + 1) (o := oP) F3 (fun q hq => N3 q (by simp only [List.nil_append, List.mem_cons] at hq ⊢; rcases hq with h | h | h | h | h <;> simp [h])) ?_ dP rfl rfl rfl ?_
    · intro q hq
      simp only [List.nil_append, List.mem_cons] at hq
      rcases hq with rfl | rfl | rfl | hq
      · exact Nat.ne_of_gt (Nat.lt_succ_self _)
      · exact Ne.symm (off _ (.tail _ (.head _)))
      · show @Ne Nat 105 (L' + 1); omega
      · exact neAll_all hneP q hq
    intro h4 oP4 F4 N4 dP4
    rw [List.nil_append] at N4
    have hDP : @Ne Nat D (L' + 1) := Ne.symm (off _ (.tail _ (.head _)))
    have hDW : @Ne Nat D (L' + 1 + 1) := Ne.symm (off _ (.tail _ (.tail _ (.head _))))
    clear N3 F3
    (try dsimp only)
    repeat' ((fail_if_success (with_reducible show wpAny _ _ (exec (Stmt.For _ _ _ _ _) _) _ _ _)); (first | (k_unfold; (try dsimp only)) | (k_end; wrow_close) | walk1 | (dsimp only; walk1)))
    refine wpAny_mono (E := fun _ _ => False) ?_ (fun _ _ h => h) (fun _ _ h => h.elim)
    refine for_ledG (L := L') ?_
    rename_i R hR1 l1R hR2 FR NR tkR htkR
    repeat' ((fail_if_success (with_reducible show ForFrom _ _ _ _ _ _ _ _ _ _)); (first | (k_unfold; (try dsimp only)) | (k_end; wrow_close) | walk1 | (dsimp only; walk1)))
    rename News _ _ _ _ => N7
    rename Fr _ _ _ _ => F7
    rename_i ax hx l1x
    have htexts : T ∈ [T] := .head _
    have hTn : (T, W.listOf xs.toArray n) ∈ rest := hfix _ (.tail _ hT0)
    have hTl := ln _ hT0
    have hT105 := neAll_all hne _ hT0
    refine ⟨_, [.ref 58, .ref 65, .ref 72, .ref 79, .ref 86], ToldJ (fun g₁ => KtsTurn (frs (envX cn { kind := .function, names := nms, isGenerator := ig, isCoroutine := ic, more := mo } L a ccd cl :: outer)) g' g₁ ∧ Below _ base _ g₁ ∧ KtsDicts (frs (envX cn { kind := .function, names := nms, isGenerator := ig, isCoroutine := ic, more := mo } L a ccd cl :: outer)) g₁) (L' + 1) (L' + 1 + 1) T R D oP4 ys xs n ((ax, W.listOf #[.ref 58, .ref 65, .ref 72, .ref 79, .ref 86] 0) :: (105, tabObj tb) :: rest) (toldRows ts), _, g, _, rfl, rfl, F7, ?hN7, ⟨⟨T1, B2, D'.turn T1⟩, [], oW, none, _, _, told_form rfl, rfl, dW, ?nR, ?nW, fun q hq => hq, .nil⟩, ?hsrc, ?turn, ?done⟩
    case hN7 =>
      exact fun q hq => N7 q (by revert q; (repeat (first | exact sub_r | exact sub_n | (refine sub_c ?_ ?_; focus ((repeat (first | exact List.Mem.head _ | exact hTn | refine List.Mem.tail _ ?_)); done)) | refine sub_t ?_)); done)
    case nR =>
      refine neAll_cons (by show @Ne Nat (L' + 1 + 1) R; omega) (neAll_cons (by show @Ne Nat (L' + 1) R; omega) (neAll_cons (by show @Ne Nat D R; omega) (neAll_cons (by show @Ne Nat T R; omega) (neAll_cons (by show @Ne Nat ax R; omega) (neAll_cons (by show @Ne Nat 105 R; omega) (neAll_lt l1R.2.2.2.2))))))
    case nW =>
      refine neAll_cons (by show @Ne Nat (L' + 1) (L' + 1 + 1); omega) (neAll_cons hDW (neAll_cons (by show @Ne Nat T (L' + 1 + 1); omega) (neAll_cons (by show @Ne Nat ax (L' + 1 + 1); omega) (neAll_cons (by show @Ne Nat 105 (L' + 1 + 1); omega) hneW))))
    case hsrc =>
      rintro i m1 g1 nw ⟨hG, rs, oW, vW, m2, rest1, rfl, rfl, dW, nR, nW, hfix1, hrd⟩
      exact .inr ⟨_, .tail _ (.tail _ (.tail _ (.tail _ (.tail _ (hfix1 _ (.head _)))))), rfl, _, rfl⟩
    case done =>
      rintro h8 tk8 m1 g1 nw ⟨⟨T8, B8, D8⟩, rs, oW, vW, m2, rest1, rfl, rfl, dW8, nR, nW, hfix1, hrd⟩ F8 N8 htk8
      repeat' ((fail_if_success (with_reducible show LeaveG _ _ _ _ _ _ _ _ _ _ _)); (first | (k_unfold; (try dsimp only)) | (k_end; wrow_close) | walk1 | (dsimp only; walk1)))
      dsimp only
      refine ⟨g1, L', _, _, T8, F8, N8, fun h₂ T2 F2 N2 B2 => ?_⟩
      refine hret h₂ h8 tk8 R _ T2 F2 N2 B2 (Nat.lt_of_lt_of_le htkR (Nat.le_trans (by dsimp only; omega) htk8)) (.list (.head _) (hrd.mono fun q hq => by first | ((repeat (first | exact hq | refine List.Mem.tail _ ?_)); done) | simp [hq])) ⟨tb, htb1, ?_⟩ fun q hq => ?_
      · have := hfix1 _ (.tail _ (.head _))
        simp [this]
      · have := hfix1 _ (.tail _ (.tail _ (hfix _ (.tail _ hq))))
        simp [this]
    case turn =>
      rintro i v I it h8 tk8 m1 g1 nw hv ⟨⟨T8, B8, D8⟩, rs, oW, vW, m2, rest1, rfl, rfl, dW8, nR, nW, hfix1, hrd⟩ F8 N8 hn8 hic htk8
      obtain ⟨wa, wf, rfl, hds, hwf, hkeep, hWc, hWr⟩ := writer_ok w p loose mean mg mb ts hv
      have K8 := hKb.keeps B8.stays
      have Tp8 := hTb.keeps B8.stays
      have htk8p : 0 < tk8 := Nat.lt_of_lt_of_le htkR (Nat.le_trans (by dsimp only; omega) htk8)
      have hRI : @Ne Nat R I := hn8 _ (.head _)
      have hWI : @Ne Nat (L' + 1 + 1) I := hn8 _ (.tail _ (.head _))
      refine wpAny_assign_Name (store_cell (pre := [(I, it), (R, LCg.lst rs)]) (post := (L' + 1, oP4) :: (D, LCg.lst ys) :: (T, W.listOf xs.toArray n) :: rest1) (c := L' + 1 + 1) (o := oW) F8 N8 ?neW dW8 rfl rfl rfl ?_)
      case neW =>
        exact neAll_all (neAll_cons (Ne.symm hWI) (neAll_cons (Ne.symm nR.1) nW))
      intro h9 oW9 F9 N9 dW9
      rw [List.cons_append, List.cons_append, List.nil_append] at N9
      clear N8 F8
      repeat' ((fail_if_success (with_reducible show wpAny _ _ (exec (Stmt.Assign _ (Expr.ListComp _ _ _ _) _) _) _ _ _)); (first | (k_unfold; (try dsimp only)) | (k_end; wrow_close) | walk1 | (dsimp only; walk1)))
      rename_i tkA htkA
      clear F7 N7
      refine comp_asg (cl := [(Str.ofString "writer", L' + 1 + 1)]) (by with_unfolding_all rfl) (by with_unfolding_all rfl) rfl (by decide) ?_
      refine nameX_L F9 rfl ?_
      refine from_list_L (items := xs.toArray) (WrJ g1 ((I, it) :: (R, LCg.lst rs) :: (L' + 1 + 1, oW9) :: (L' + 1, oP4) :: (D, LCg.lst ys) :: (T, W.listOf xs.toArray n) :: rest1) wf ts) rfl F9 N9 ?hsz2 ⟨rfl, rfl, .nil⟩ (src_stay ?hsrc2) (by decide) rfl rfl (turn_hide ?turn2) (doneA rfl rfl rfl ?done2)
      case hsz2 => rw [List.size_toArray, hts.len_eq]; exact Nat.le_trans hcount (Nat.le_of_ble_eq_true rfl)
      case hsrc2 =>
        exact .inr ⟨_, .tail _ (.tail _ (.tail _ (.tail _ (.tail _ (.head _))))), rfl, _, rfl⟩
      case turn2 =>
        rintro nwA hinA i2 v2 I2 it2 C oC m3 D2 ys2 h10 tk10 E' hi hP hoC hx2 hst F10 N10 off ne htk10 hyl
        have N10 := news_see N10 (.tail _ (.tail _ (.tail _ (hinA (L' + 1 + 1, oW9) (by (repeat (first | exact List.Mem.head _ | refine List.Mem.tail _ ?_)); done)))))
        clear hinA
        refine wpAny_tests_nil ?_
        simp only [if_true]
        obtain ⟨y, t, rfl, hy⟩ := hts.item i2 v2 (by simpa [ItemAt] using hP)
        repeat' ((fail_if_success (with_reducible show wpAny _ _ (call (Value.ref _) [Value.str _ _]) _ _ _)); (first | (k_unfold; (try dsimp only)) | (k_end; wrow_close) | ((with_reducible show wpAny _ _ (callWith _ (Value.ref _) _ _ _) _ _ _); (k_here; k_dflt (refine' callWith_K ?k1 ?k2 ?_; (case k1 => k_asm); (case k2 => assumption); k_whole))) | walk1 | (dsimp only; first | ((with_reducible show wpAny _ _ (callWith _ (Value.ref _) _ _ _) _ _ _); (k_here; k_dflt (refine' callWith_K ?k1 ?k2 ?_; (case k1 => k_asm); (case k2 => assumption); k_whole))) | walk1)))
        refine hWc y t ((L' + 1 + 1, oW9) :: (I2, it2) :: (C, oC) :: (D2, LCg.lst ys2) :: nwA) (hlen y (List.mem_of_getElem? hy)) _ _ _ _ _ _ _ _ _ _ _ _ _ _ _ _ B8 F10 K8 N10 Tp8 rfl ?kd ?ku ?kt ?kR
        case kd => exact Nat.le_of_ble_eq_true rfl
        case ku => exact Nat.le_of_ble_eq_true rfl
        case kt => exact Nat.lt_of_lt_of_le htkA htk10
        case kR =>
          rintro v3 tl h11 tk11 hle11 F11 N11 ⟨rfl, t3, rfl⟩
          (try dsimp only)
          (try k_unfold)
          (try dsimp only)
          refine ⟨h11, tk11, g1, _, rfl, F11, fun q hq => N11 q (.tail _ hq), fun q hq => ⟨(off.mem q hq).1, (off.mem q hq).2.2, fun q' => (off.mem q hq).2.1 (List.mem_singleton.mp q')⟩, rfl, rfl, ?_⟩
          rw [List.take_add_one, hy, List.map_append]
          exact kct_snoc hst
      case done2 =>
        refine done_stayA ?_
        rintro WL h10 tk10 ys2 hst F10 N10 offW htk10
        rw [List.size_toArray, hts.len_eq, List.take_length] at hst
        rw [told_form2] at F10
        have htk10p : 0 < tk10 := Nat.lt_of_lt_of_le htkA htk10
        clear F9 N9
        repeat' ((fail_if_success (with_reducible show wpAny _ _ (eval (Expr.ListComp _ _ _ _) _) _ _ _)); (first | (k_unfold; (try dsimp only)) | (k_end; wrow_close) | walk1 | (dsimp only; walk1)))
        have hpl9 : PLists rest1 ys allParts := hpl5.mono fun q hq => hfix1 _ (.tail _ (.tail _ hq))
        have hwl : ∀ x ∈ ts, (wf x).length ≤ 1000 := by
          intro x hx
          have h4 := hlen x hx
          rcases hwf with rfl | rfl | rfl | rfl | rfl
          · exact Nat.le_trans (l_cdata x) (by omega)
          · exact Nat.le_trans (l_attrib x) (by omega)
          · exact Nat.le_trans (l_html x) (by omega)
          · exact Nat.le_trans (l_plain x) (by omega)
          · exact Nat.le_trans (l_named x) (by omega)
        refine comp_val (cl := [(Str.ofString "parts", L' + 1)]) (by with_unfolding_all rfl) rfl (by decide) ?_
        refine nameX_L F10 rfl ?_
        refine from_list_C (items := ys2.toArray) (TkJ g1 ((WL, LCg.lst ys2) :: (I, it) :: (R, LCg.lst rs) :: (L' + 1 + 1, oW9) :: (L' + 1, oP4) :: (D, LCg.lst ys) :: (T, W.listOf xs.toArray n) :: rest1) wf ts) rfl F10 N10 ?hsz3 ⟨rfl, [], rfl, (fun q hq => nomatch hq), .nil⟩ ?hsrc3 (fun _ => rfl) (fun _ => rfl) rfl (by with_unfolding_all rfl) ?turn3 (doneV ?done3)
        case hsz3 => rw [List.size_toArray, hst.len_eq, List.length_map]; exact Nat.le_trans hcount (Nat.le_of_ble_eq_true rfl)
        case hsrc3 =>
          rintro j ys3 g3 nw ⟨rfl, tl, rfl, _⟩
          exact .inr ⟨_, List.mem_append_right _ (.head _), rfl, _, rfl⟩
        case turn3 =>
          rintro i3 v3 I3 it3 C oC c oc D3 ys3 g3 h12 tk12 nw E' hi hP hoc ⟨rfl, tl, rfl, htl, hrd3⟩ F12 N12 off ne ne2 htk12 hyl
          refine wpAny_tests_nil ?_
          simp only [if_true]
          obtain ⟨y, t, rfl, hy⟩ := hst.item i3 v3 (by simpa [ItemAt] using hP)
          rw [List.getElem?_map] at hy
          obtain ⟨x, hx0, rfl⟩ := Option.map_eq_some_iff.mp hy
          have hxm := List.mem_of_getElem? hx0
          refine comp_val (cl := [(Str.ofString "text", c)]) (by with_unfolding_all rfl) rfl (by decide) ?_
          refine lcf_cell N12 rfl (.tail _ (.tail _ (.tail _ (.tail _ (List.mem_append_right _ (.tail _ (.tail _ (.tail _ (.tail _ (.head _)))))))))) dP4 ?_ rfl rfl
          refine from_list_L (items := ys.toArray) (BoJ g3 ((I3, it3) :: (C, oC) :: (c, oc) :: (D3, LCg.lst ys3) :: (tl ++ (WL, LCg.lst ys2) :: (I, it) :: (R, LCg.lst rs) :: (L' + 1 + 1, oW9) :: (L' + 1, oP4) :: (D, LCg.lst ys) :: (T, W.listOf xs.toArray n) :: rest1)) (wf x)) rfl F12 N12 ?hsz4 ⟨rfl, rfl, rfl⟩ (src_stay ?hsrc4) (by decide) rfl rfl (turn_hide ?turn4) (doneV (done_stay ?done4))
          case hsz4 => rw [List.size_toArray, hpl9.len]; exact Nat.le_of_ble_eq_true rfl
          case hsrc4 =>
            exact .inr ⟨_, .tail _ (.tail _ (.tail _ (.tail _ (List.mem_append_right _ (.tail _ (.tail _ (.tail _ (.tail _ (.tail _ (.head _)))))))))), rfl, _, rfl⟩
          case turn4 =>
            rintro nwB hinB i4 v4 I4 it4 C4 oC4 m4 D4 ys4 h13 tk13 E'' hi4 hP4 hoC4 hx4 hb4 F13 N13 off4 ne4 htk13 hyl4
            have N13 := news_see N13 (.tail _ (.tail _ (.tail _ (hinB (c, oc) (.tail _ (.tail _ (.head _)))))))
            have hr1 : ∀ q ∈ rest1, q ∈ nwB := fun q hq => hinB q (.tail _ (.tail _ (.tail _ (.tail _ (List.mem_append_right _ (.tail _ (.tail _ (.tail _ (.tail _ (.tail _ (.tail _ (.tail _ hq)))))))))))) 
            clear hinB
            refine wpAny_tests_nil ?_
            simp only [if_true]
            obtain ⟨pa, its, cc, ps, rfl, hps, hpm, hpst⟩ := hpl9.item (i := i4) (v := v4) (by simpa [ItemAt] using hP4)
            repeat' ((fail_if_success (with_reducible show wpAny _ _ (call (Value.ref 844) _) _ _ _)); (first | (k_unfold; (try dsimp only)) | (k_end; wrow_close) | walk1 | (dsimp only; walk1)))
            have htk12p : 0 < tk12 := Nat.lt_of_lt_of_le (by first | exact htk10p | assumption) htk12
            have hpm2 : (pa, W.listOf its cc) ∈ (c, oc) :: (I4, it4) :: (C4, oC4) :: (D4, LCg.lst ys4) :: nwB := .tail _ (.tail _ (.tail _ (.tail _ (hr1 _ hpm))))
            refine c_takes w p loose mean mg mb (wf x) t (hwl x hxm) pa cc its.toList ps hpst (parts_ok ps (List.mem_of_getElem? hps)) ((c, oc) :: (I4, it4) :: (C4, oC4) :: (D4, LCg.lst ys4) :: nwB) _ _ _ _ _ _ _ _ _ _ _ _ _ _ _ _ B8 F13 K8 ?kN Tp8 rfl ?kd ?ku ?kt ?kR
            case kN =>
              intro q hq
              rcases List.mem_cons.mp hq with rfl | hq
              · exact N13 _ hpm2
              · exact N13 q hq
            case kd => exact Nat.le_of_ble_eq_true rfl
            case ku => exact Nat.le_of_ble_eq_true rfl
            case kt => exact Nat.lt_of_lt_of_le htk12p htk13
            case kR =>
              rintro v5 tl5 h14 tk14 hle14 F14 N14 ⟨rfl, t5, rfl⟩
              (try dsimp only)
              (try k_unfold)
              (try dsimp only)
              refine ⟨h14, tk14, g3, _, rfl, F14, fun q hq => N14 q (.tail _ (.tail _ hq)), fun q hq => ⟨(off4.mem q hq).1, (off4.mem q hq).2.2, fun q' => (off4.mem q hq).2.1 (List.mem_singleton.mp q')⟩, rfl, rfl, ?_⟩
              rw [List.take_add_one, hps, List.map_append, hb4]
              rfl
          case done4 =>
            rintro D4 h13 tk13 ys4 hb4 F13 N13 off4 htk13
            have e5 : allParts.take ys.toArray.size = allParts := by rw [List.size_toArray, hpl9.len]; rfl
            rw [e5] at hb4
            subst hb4
            refine ⟨h13, tk13, g3, (D4, LCg.lst (allParts.map fun ps => Value.bool (takesB (wf x) ps))) :: (tl ++ (WL, LCg.lst ys2) :: (I, it) :: (R, LCg.lst rs) :: (L' + 1 + 1, oW9) :: (L' + 1, oP4) :: (D, LCg.lst ys) :: (T, W.listOf xs.toArray n) :: rest1), rfl, F13, ?_, ?_, rfl, (D4, LCg.lst (allParts.map fun ps => Value.bool (takesB (wf x) ps))) :: tl, rfl, ?_, ?_⟩
            · exact fun q hq => N13 q (by revert q; (repeat (first | exact sub_r | exact sub_n | (refine sub_c ?_ ?_; focus ((repeat (first | exact List.Mem.head _ | refine List.Mem.tail _ ?_)); done)) | refine sub_t ?_)); done)
            · intro q hq
              rcases List.mem_cons.mp hq with rfl | hq
              · refine ⟨Ne.symm (off4 _ (.head _)), Ne.symm (off4 _ (.tail _ (.tail _ (.tail _ (.head _))))), fun q' => ?_⟩
                rcases List.mem_cons.mp q' with q' | q'
                · exact off4 _ (.tail _ (.head _)) q'.symm
                · exact off4 _ (.tail _ (.tail _ (.head _))) (List.mem_singleton.mp q').symm
              · exact off q hq
            · intro q hq p0 hp0
              rcases List.mem_cons.mp hq with rfl | hq
              · exact off4 p0 (.tail _ (.tail _ (.tail _ (.tail _ (List.mem_append_right _ hp0)))))
              · exact htl q hq p0 hp0
            · rw [List.take_add_one, hx0, List.map_append]
              exact (hrd3.mono fun q hq => .tail _ hq).snoc (.list (k := (allParts.map fun ps => Value.bool (takesB (wf x) ps)).length) (.head _) (RDs.bools allParts))
        case done3 =>
          rintro TL h12 tk12 ys3 g3 nw ⟨rfl, tl, rfl, htl, hrd3⟩ F12 N12 off12 htk12
          have e6 : ts.take ys2.toArray.size = ts := by rw [List.size_toArray, hst.len_eq, List.length_map, List.take_length]
          rw [e6] at hrd3
          have htk12p : 0 < tk12 := Nat.lt_of_lt_of_le (by first | exact htk10p | assumption) htk12
          clear N10 F10
          obtain ⟨rest2, hr2⟩ : ∃ r : Led, r = tl ++ rest1 := ⟨_, rfl⟩
          have N15 : News g3 L' h12 ((TL, LCg.lst ys3) :: (WL, LCg.lst ys2) :: (I, it) :: (R, LCg.lst rs) :: (L' + 1 + 1, oW9) :: (L' + 1, oP4) :: (D, LCg.lst ys) :: (T, W.listOf xs.toArray n) :: rest2) := fun q hq => N12 q (by
            subst hr2
            revert q
            refine sub_c (.head _) ?_
            repeat (refine sub_c (.tail _ (List.mem_append_right _ (by (repeat (first | exact List.Mem.head _ | refine List.Mem.tail _ ?_)); done))) ?_)
            exact fun q hq => .tail _ ((List.mem_append.mp hq).elim (List.mem_append_left _) fun h => List.mem_append_right _ (.tail _ (.tail _ (.tail _ (.tail _ (.tail _ (.tail _ (.tail _ h)))))))))
          clear N12
          (try dsimp only)
          repeat' ((fail_if_success (with_reducible show wpAny _ _ (call (Value.ref 851) _) _ _ _)); (first | (k_unfold; (try dsimp only)) | (k_end; wrow_close) | walk1 | (dsimp only; walk1)))
          refine around_mono (d := 370) (u := 3700) (Nat.le_of_ble_eq_true rfl) (Nat.le_of_ble_eq_true rfl) ?_
          refine hWr _ _ (.inl rfl) _ _ _ _ _ _ _ _ _ _ _ _ _ _ _ _ _ _ B8 F12 K8 N15 Tp8 D8 hKb hTb ?kt1 ?kR1
          case kt1 => exact Nat.succ_pos _
          case kR1 =>
            intro gA hA tkA2 T9 F16 N16 B9 htk16
            have K9 := hKb.keeps B9.stays
            have Tp9 := hTb.keeps B9.stays
            have D9 := D8.turn T9
            clear N15 F12
            (try dsimp only)
            (try k_unfold)
            (try dsimp only)
            repeat' ((fail_if_success (with_reducible show wpAny _ _ (call (Value.ref 851) _) _ _ _)); (first | (k_unfold; (try dsimp only)) | (k_end; wrow_close) | walk1 | (dsimp only; walk1)))
            refine around_mono (d := 370) (u := 3700) (Nat.le_of_ble_eq_true rfl) (Nat.le_of_ble_eq_true rfl) ?_
            refine hWr .none 0 (.inr rfl) _ _ _ _ _ _ _ _ _ _ _ _ _ _ _ _ _ _ B9 F16 K9 N16 Tp9 D9 hKb hTb ?kt2 ?kR2
            case kt2 => exact htk16
            case kR2 =>
              intro gB hB tkB T10 F17 N17 B10 htk17
              clear N16 F16
              (try dsimp only)
              (try k_unfold)
              (try dsimp only)
              repeat' ((fail_if_success (with_reducible show wpAny _ _ (call (Value.builtin "list.append") _) _ _ _)); (first | (k_unfold; (try dsimp only)) | (k_end; wrow_close) | walk1 | (dsimp only; walk1)))
              rename News _ _ _ _ => N18
              rename Fr _ _ _ _ => F18
              rename_i A4 X4 Y4
              have lt4 : @LT.lt Nat _ TL A4 ∧ @LT.lt Nat _ WL A4 ∧ @LT.lt Nat _ I A4 ∧ @LT.lt Nat _ R A4 ∧ @LT.lt Nat _ (L' + 1 + 1) A4 := by first | exact ⟨X4.1, X4.2.1, X4.2.2.1, X4.2.2.2.1, X4.2.2.2.2.1⟩ | exact ⟨Y4.1, Y4.2.1, Y4.2.2.1, Y4.2.2.2.1, Y4.2.2.2.2.1⟩
              have nTL : ∀ p ∈ (tl ++ (WL, LCg.lst ys2) :: (I, it) :: (R, LCg.lst rs) :: (L' + 1 + 1, oW9) :: (L' + 1, oP4) :: (D, LCg.lst ys) :: (T, W.listOf xs.toArray n) :: rest1), @Ne Nat p.1 TL := off12
              have tlR : ∀ q ∈ tl, @Ne Nat q.1 R := fun q hq => Ne.symm (htl q hq (R, LCg.lst rs) (.tail _ (.tail _ (.head _))))
              have tlW : ∀ q ∈ tl, @Ne Nat q.1 (L' + 1 + 1) := fun q hq => Ne.symm (htl q hq (L' + 1 + 1, oW9) (.tail _ (.tail _ (.tail _ (.head _)))))
              have wR : @Ne Nat WL R := Ne.symm (offW (R, LCg.lst rs) (.tail _ (.head _)))
              have wW : @Ne Nat WL (L' + 1 + 1) := Ne.symm (offW (L' + 1 + 1, oW9) (.tail _ (.tail _ (.head _))))
              have tR : @Ne Nat TL R := Ne.symm (nTL (R, LCg.lst rs) (List.mem_append_right _ (.tail _ (.tail _ (.head _)))))
              have tW : @Ne Nat TL (L' + 1 + 1) := Ne.symm (nTL (L' + 1 + 1, oW9) (List.mem_append_right _ (.tail _ (.tail _ (.tail _ (.head _))))))
              have hap : ∀ p ∈ ((A4, W.listOf #[Value.ref WL, Value.ref TL, Value.bool true, Value.bool true] 0) :: (TL, LCg.lst ys3) :: (WL, LCg.lst ys2) :: (I, it) :: (L' + 1 + 1, oW9) :: (L' + 1, oP4) :: (D, LCg.lst ys) :: (T, W.listOf xs.toArray n) :: rest2), @Ne Nat p.1 R := by
                intro p hp
                simp only [List.mem_cons] at hp
                rcases hp with rfl | rfl | rfl | rfl | rfl | rfl | rfl | rfl | hp
                · exact Nat.ne_of_gt lt4.2.2.2.1
                · exact tR
                · exact wR
                · exact Ne.symm hRI
                · exact nR.1
                · exact nR.2.1
                · exact nR.2.2.1
                · exact nR.2.2.2.1
                · subst hr2
                  rcases List.mem_append.mp hp with hp | hp
                  · exact tlR p hp
                  · exact neAll_all nR.2.2.2.2 p hp
              refine append_head (its := rs.toArray) (n := rs.length) (rest := (A4, W.listOf #[Value.ref WL, Value.ref TL, Value.bool true, Value.bool true] 0) :: (TL, LCg.lst ys3) :: (WL, LCg.lst ys2) :: (I, it) :: (L' + 1 + 1, oW9) :: (L' + 1, oP4) :: (D, LCg.lst ys) :: (T, W.listOf xs.toArray n) :: rest2) F18 (fun q hq => N18 q (by first | (revert q; (repeat (first | exact sub_r | exact sub_n | (refine sub_c ?_ ?_; focus ((repeat (first | exact List.Mem.head _ | refine List.Mem.tail _ ?_)); done)) | refine sub_t ?_)); done) | (simp only [List.mem_cons] at hq ⊢; rcases hq with h | h | h | h | h | h | h | h | h | h <;> simp [h]))) hap ?_ ?hszA
              case hszA =>
                have e8 := hrd.len
                rw [List.size_toArray, e8]
                exact Nat.le_trans (List.length_take_le' _ _) (Nat.le_of_ble_eq_true rfl)
              intro h19 F19 N19
              repeat' ((fail_if_success (with_reducible show TurnEndG _ _ _ _ _ _ _ _)); (first | (k_unfold; (try dsimp only)) | (k_end; wrow_close) | walk1 | (dsimp only; walk1)))
              have hN2 : ∀ q ∈ rest1, q ∈ rest2 := fun q hq => by subst hr2; exact List.mem_append_right _ hq
              have hTl2 : ∀ q ∈ tl, q ∈ rest2 := fun q hq => by subst hr2; exact List.mem_append_left _ hq
              refine ⟨h19, _, _, gB, _, rfl, F19, ?_, ?_, ⟨T8.trans (T9.trans T10), B10, D9.turn T10⟩, rs ++ [.ref A4], oW9, some (.ref wa), _, (A4, W.listOf #[Value.ref WL, Value.ref TL, Value.bool true, Value.bool true] 0) :: (TL, LCg.lst ys3) :: (WL, LCg.lst ys2) :: rest2, rfl, rfl, dW9, ?_, ?_, ?_, ?_⟩
              · rw [← LCg.lst_snoc]
                exact fun q hq => N19 q (by first | (revert q; (repeat (first | exact sub_r | exact sub_n | (refine sub_c ?_ ?_; focus ((repeat (first | exact List.Mem.head _ | refine List.Mem.tail _ ?_)); done)) | refine sub_t ?_)); done) | (simp only [List.mem_cons] at hq ⊢; rcases hq with h | h | h | h | h | h | h | h | h | h <;> simp [h]))
              · intro p hp
                simp only [List.mem_cons] at hp
                rcases hp with rfl | rfl | rfl | rfl | rfl | rfl | rfl | rfl | hp
                · exact hRI
                · exact hWI
                · exact hn8 _ (.tail _ (.tail _ (.head _)))
                · exact hn8 _ (.tail _ (.tail _ (.tail _ (.head _))))
                · exact hn8 _ (.tail _ (.tail _ (.tail _ (.tail _ (.head _)))))
                · exact Nat.ne_of_gt lt4.2.2.1
                · exact Ne.symm (nTL (I, it) (List.mem_append_right _ (.tail _ (.head _))))
                · exact Ne.symm (offW (I, it) (.head _))
                · subst hr2
                  rcases List.mem_append.mp hp with hp | hp
                  · exact Ne.symm (htl p hp (I, it) (.tail _ (.head _)))
                  · exact hn8 _ (.tail _ (.tail _ (.tail _ (.tail _ (.tail _ hp)))))
              · exact neAll_of fun p hp => hap p (by simp only [List.mem_cons] at hp ⊢; rcases hp with h | h | h | h | h | h | h | h <;> simp [h])
              · refine neAll_of fun p hp => ?_
                simp only [List.mem_cons] at hp
                rcases hp with rfl | rfl | rfl | rfl | rfl | rfl | hp
                · exact nW.1
                · exact nW.2.1
                · exact nW.2.2.1
                · exact Nat.ne_of_gt lt4.2.2.2.2
                · exact tW
                · exact wW
                · subst hr2
                  rcases List.mem_append.mp hp with hp | hp
                  · exact tlW p hp
                  · exact neAll_all nW.2.2.2 p hp
              · exact fun q hq => .tail _ (.tail _ (.tail _ (hN2 q (hfix1 q hq))))
              · rw [List.take_add_one, hds]
                refine (hrd.mono fun q hq => .tail _ (.tail _ (.tail _ (hN2 q hq)))).snoc ?_
                refine .list (k := 0) (ys := [Value.ref WL, Value.ref TL, Value.bool true, Value.bool true]) (.head _) (.cons (.list (k := ys2.length) (.tail _ (.tail _ (.head _))) ?_) (.cons (.list (k := ys3.length) (.tail _ (.head _)) (hrd3.mono fun q hq => .tail _ (.tail _ (.tail _ (hTl2 q hq))))) (.cons (.bool _) (.cons (.bool _) .nil))))
                have e9 : (ts.map fun x => Dt.str (wf x)) = (ts.map wf).map Dt.str := by rw [List.map_map]; rfl
                rw [e9]
                exact RDs.strs hst
end
section
local macro_rules | `(tactic| k_fold) => `(tactic| ((first | refine wp_enter (by assumption) ?_ | refine wp_enterC (by assumption) ?_); intro A2 o2 B2; k_fold))

open PySem.Calls PySem.Spec

noncomputable def dueRow (T : List (Str × Str)) (ts : List Str) : Dt := .list [.list (ts.map fun x => .str (dueText T x)), .list (ts.map fun x => .list ((dueBools T x).map .bool)), .bool true, .bool true]
noncomputable abbrev dueRows (ts : List Str) : List Dt := [dueRow t_cdata ts, dueRow t_attrib ts, dueRow t_html ts, dueRow t_plain ts, dueRow t_named ts]
theorem nall_cons {d : Nat} {q : Addr × Obj} {l : Led} (h : @Ne Nat q.1 d) (r : NeAll d l) : NeAll d (q :: l) := ⟨h, r⟩
theorem news_ne {g h : Heap} {L : Addr} {nw : Led} (N : News g L h nw) {a b : Addr} {oa ob : Obj} (ha : (a, oa) ∈ nw) (hb : (b, ob) ∈ nw) (hne : oa ≠ ob) : @Ne Nat a b := by
  intro e
  have h1 := (N _ ha).1
  have h2 := (N _ hb).1
  rw [show a = b from e] at h1
  dsimp only at h1 h2
  rw [h1] at h2
  exact hne (Option.some.inj h2)
theorem tab_data {w : World} {o : Obj} {t : List (Str × Str)} (h : TabOf w o t) : ∃ es ep, o.data = .dict es ep := by
  obtain ⟨kvs, hd, _⟩ := h
  obtain ⟨es, ep, _, hq, _⟩ := hd
  exact ⟨es, ep, hq⟩
theorem news_neD {g h : Heap} {L : Addr} {nw : Led} (N : News g L h nw) {a b : Addr} {oa ob : Obj} (ha : (a, oa) ∈ nw) (hb : (b, ob) ∈ nw) (hne : oa.data ≠ ob.data) : @Ne Nat a b := news_ne N ha hb fun e => hne (congrArg Obj.data e)
theorem tab_ne {g h : Heap} {L : Addr} {nw : Led} {w : World} (N : News g L h nw) {a b : Addr} {oa ob : Obj} {t : List (Str × Str)} (ht : TabOf w oa t) (ha : (a, oa) ∈ nw) (hb : (b, ob) ∈ nw) (hd : ∀ es ep, ob.data ≠ .dict es ep) : @Ne Nat a b := by
  obtain ⟨es, ep, e⟩ := tab_data ht
  exact news_neD N ha hb fun q => hd es ep (q.symm.trans e)
/-- the tables of the law, where they lie -/
theorem tabs_at {w : World} {d1 d2 d3 d4 d5 : Addr} {o1 o2 o3 o4 o5 : Obj} (ts : List Str) (TB1 : TabOf w o1 t_cdata) (TB2 : TabOf w o2 t_attrib) (TB3 : TabOf w o3 t_html) (TB4 : TabOf w o4 t_plain) (TB5 : TabOf w o5 t_named) (lo1 : (d1 == sysModules) = false) (lo2 : (d2 == sysModules) = false) (lo3 : (d3 == sysModules) = false) (lo4 : (d4 == sysModules) = false) (lo5 : (d5 == sysModules) = false) : ∀ {i : Nat} {v : Value}, ([.ref d1, .ref d2, .ref d3, .ref d4, .ref d5] : List Value)[i]? = some v →
    ∃ d o t, v = .ref d ∧ (d, o) ∈ ([(d5, o5), (d4, o4), (d3, o3), (d2, o2), (d1, o1)] : Led) ∧ TabOf w o t ∧ (d == sysModules) = false ∧ (t.all fun e => PyData.strOk e.2) = true ∧ (t.all fun e => decide (e.2.length ≤ 64)) = true ∧ (dueRows ts)[i]? = some (dueRow t ts)
  | 0, _, h => by cases h; exact ⟨_, _, _, rfl, by simp, TB1, lo1, by decide +kernel, by decide +kernel, rfl⟩
  | 1, _, h => by cases h; exact ⟨_, _, _, rfl, by simp, TB2, lo2, by decide +kernel, by decide +kernel, rfl⟩
  | 2, _, h => by cases h; exact ⟨_, _, _, rfl, by simp, TB3, lo3, by decide +kernel, by decide +kernel, rfl⟩
  | 3, _, h => by cases h; exact ⟨_, _, _, rfl, by simp, TB4, lo4, by decide +kernel, by decide +kernel, rfl⟩
  | 4, _, h => by cases h; exact ⟨_, _, _, rfl, by simp, TB5, lo5, by decide +kernel, by decide +kernel, rfl⟩
  | i + 5, _, h => by simp at h
theorem form2 {M : Str → Option Value} {a b : Str} {va vb : Value} (ha : M a = some va) (hb : M b = some vb) : M = fun y => if y = a then some va else if y = b then some vb else M y := by
  funext y
  by_cases h1 : y = a
  · subst h1; simp [ha]
  · by_cases h2 : y = b
    · subst h2; simp [hb, h1]
    · simp [h1, h2]
theorem form3 {M : Str → Option Value} {a b c : Str} {va vb vc : Value} (ha : M a = some va) (hb : M b = some vb) (hc : M c = some vc) : M = fun y => if y = a then some va else if y = b then some vb else if y = c then some vc else M y := by
  funext y
  by_cases h1 : y = a
  · subst h1; simp [ha]
  · by_cases h2 : y = b
    · subst h2; simp [hb, h1]
    · by_cases h3 : y = c
      · subst h3; simp [hc, h1, h2]
      · simp [h1, h2, h3]
theorem pairs_get {kvs : List (Str × Value)} {tb : List (Str × Str)} (h : PairsAre kvs tb) (k : Str) (dv : Str) (dt : Tok) : ∃ t, (valueAt kvs k).getD (.str dv dt) = .str ((lookS tb k).getD dv) t := by
  induction h with
  | nil => exact ⟨dt, rfl⟩
  | cons k' y t r ih =>
    unfold valueAt lookS at ih ⊢
    rw [List.find?_cons, List.find?_cons]
    by_cases e : k' = k
    · simp only [e, decide_true]; exact ⟨t, rfl⟩
    · simp only [e, decide_false]; exact ih
theorem pairs_some {kvs : List (Str × Value)} {tb : List (Str × Str)} (h : PairsAre kvs tb) (k : Str) : (valueAt kvs k).isSome = (lookS tb k).isSome := by
  induction h with
  | nil => rfl
  | cons k' y t r ih =>
    unfold valueAt lookS at ih ⊢
    rw [List.find?_cons, List.find?_cons]
    by_cases e : k' = k
    · simp only [e, decide_true]; rfl
    · simp only [e, decide_false]; exact ih
theorem strs_snocD {vs : List Value} {ys : List Str} (h : StrsAre vs ys) (y : Str) (t : Tok) : StrsAre (vs ++ [.str y t]) (ys ++ [y]) := by
  induction h with
  | nil => exact .cons y t .nil
  | cons z u r ih => exact .cons z u ih
/-- the texts that a block over a text has made so far -/
noncomputable abbrev SignJ (g₁ : Heap) (nw₁ : Led) (f : Str → Str) (x : Str) : Nat → List Value → Heap → Led → Prop := Stay g₁ nw₁ fun i ys => StrsAre ys (((signs x).take i).map f)
noncomputable abbrev FiltJ (g₁ : Heap) (nw₁ : Led) (p : Str → Bool) (xs : List Str) : Nat → List Value → Heap → Led → Prop := Stay g₁ nw₁ fun i ys => StrsAre ys ((xs.take i).filter p)
theorem sign_at {x : Str} {i c : Nat} (h : x.cps[i]? = some c) : (signs x)[i]? = some ⟨#[c]⟩ := by
  unfold signs
  rw [List.getElem?_map, Array.getElem?_toList, h]; rfl
theorem filt_keep {p : Str → Bool} {l : List Str} {i : Nat} {y : Str} (h : l[i]? = some y) (hp : p y = true) : (l.take (i + 1)).filter p = (l.take i).filter p ++ [y] := by
  rw [List.take_add_one, h, List.filter_append]
  have e : (some y).toList.filter p = [y] := by simp [hp]
  rw [e]
theorem filt_drop {p : Str → Bool} {l : List Str} {i : Nat} {y : Str} (h : l[i]? = some y) (hp : p y = false) : (l.take (i + 1)).filter p = (l.take i).filter p := by
  rw [List.take_add_one, h, List.filter_append]
  have e : (some y).toList.filter p = [] := by simp [hp]
  rw [e, List.append_nil]
theorem ne_nil {prog : Program} {w : World} {A : Around} {E : Value → Shared → Prop} {s : Shared} {g : Heap} {L D Z : Addr} {nw : Led} {ys : List Value} {zs : List Str} {k : Nat} {Q : Value → Shared → Prop}
    (N : News g L s.heap nw) (hD : (D, LCg.lst ys) ∈ nw) (hst : StrsAre ys zs) (hok : ∀ z ∈ zs, PyData.strOk z = true) (hZ : (Z, W.listOf #[] k) ∈ nw) (hu : A.units + 64 < cLine) (h : Q (.bool (!zs.isEmpty)) s) :
    wpAny (model prog w) A (compareOp .NotEq (.ref D) (.ref Z)) Q E s := by
  obtain ⟨as, ra⟩ := (RD.list (k := ys.length) (ys := ys) hD (RDs.strs hst)).reads N
  obtain ⟨bs, rb⟩ := (RD.list (ys := []) (k := k) hZ .nil).reads N
  have ok1 : Dt.ok 9 (.list (zs.map .str)) = true := by
    simp only [Dt.ok, List.all_eq_true]
    intro d hd
    obtain ⟨z, hz, rfl⟩ := List.mem_map.mp hd
    exact hok z hz
  have la := Dt.lay 9 _ ok1
  have lb := Dt.lay 9 (.list []) rfl
  refine ne_dataH ra rb (by unfold SeqAt.shaped; rw [la.1, Bool.true_and]; exact decide_eq_true (Nat.le_trans la.2 (by decide))) (by unfold SeqAt.shaped; rw [lb.1, Bool.true_and]; exact decide_eq_true (Nat.le_trans lb.2 (by decide))) hu ?_
  have e : PyData.eqv (Dt.p (.list (zs.map .str))) (Dt.p (.list [])) = zs.isEmpty := by
    cases zs with
    | nil => simp [Dt.p, Dt.ps, PyData.eqv, PyData.eqvAll]
    | cons z zs => simp [Dt.p, Dt.ps, PyData.eqv, PyData.eqvAll]
  rw [e]
  exact h
theorem refs_ok {tb : List (Str × Str)} (h : (tb.all fun e => PyData.strOk e.2) = true) (x : Str) : ∀ z ∈ refsOf tb x, PyData.strOk z = true := by
  intro z hz
  unfold refsOf at hz
  obtain ⟨k, _, rfl⟩ := List.mem_map.mp hz
  unfold lookS
  cases hf : tb.find? fun kv => kv.1 = k with
  | none => decide +kernel
  | some e => exact List.all_eq_true.mp h e (List.mem_of_find?_eq_some hf)
theorem refs_len {tb : List (Str × Str)} (h : (tb.all fun e => decide (e.2.length ≤ 64)) = true) (x : Str) : ∀ z ∈ refsOf tb x, z.length ≤ 64 := by
  intro z hz
  unfold refsOf at hz
  obtain ⟨k, _, rfl⟩ := List.mem_map.mp hz
  unfold lookS
  cases hf : tb.find? fun kv => kv.1 = k with
  | none => exact Nat.le_of_ble_eq_true rfl
  | some e => exact of_decide_eq_true (List.all_eq_true.mp h e (List.mem_of_find?_eq_some hf))
theorem bare_ok {tb : List (Str × Str)} {x : Str} (h : PyData.strOk x = true) : ∀ z ∈ bareOf tb x, PyData.strOk z = true := by
  intro z hz
  have hz := (List.mem_filter.mp hz).1
  obtain ⟨c, hc, rfl⟩ := List.mem_map.mp hz
  unfold PyData.strOk at h ⊢
  have h2 := Array.all_eq_true_iff_forall_mem.mp h c (Array.mem_toList_iff.mp hc)
  simpa using h2
noncomputable abbrev BolJ (g₁ : Heap) (nw₁ : Led) (f : Str → Bool) (l : List Str) : Nat → List Value → Heap → Led → Prop := Stay g₁ nw₁ fun i ys => ys = (l.take i).map fun S => Value.bool (f S)
theorem bare_len (tb : List (Str × Str)) (x : Str) : (bareOf tb x).length ≤ x.length := by
  unfold bareOf
  exact Nat.le_trans (List.length_filter_le _ _) (Nat.le_of_eq (signs_length x))
theorem RDs.boolsL {news : Led} : ∀ l : List Bool, RDs news (l.map Dt.bool) (l.map Value.bool)
  | [] => .nil
  | b :: r => .cons (.bool b) (RDs.boolsL r)
theorem ki_last (v x : Value) : ∀ rs : List Value, ki_setL (rs ++ [x]) rs.length v = some (rs ++ [v])
  | [] => rfl
  | r :: rs => by
    show (match ki_setL (rs ++ [x]) rs.length v with | some q => some (r :: q) | none => none) = _
    rw [ki_last v x rs]; rfl
inductive DueJ (g₁ : Heap) (cT cB T R : Addr) (xs : List Value) (n : Nat) (fixed : Led) (ds : List Dt) (i : Nat) (m : Str → Option Value) (g : Heap) (nw : Led) : Prop
  | mk (e1 : g = g₁) (rs : List Value) (oT oB : Obj) (vT vB : Option Value) (m2 : Str → Option Value) (rest : Led) (e2 : m = (fun y => if y = Str.ofString "due" then some (.ref R) else if y = Str.ofString "texts" then some (.ref T) else m2 y)) (e3 : nw = (R, LCg.lst rs) :: (cB, oB) :: (cT, oT) :: (T, W.listOf xs.toArray n) :: rest) (e4 : oT.data = .cell vT) (e5 : oB.data = .cell vB) (e6 : NeAll R ((cB, oB) :: (cT, oT) :: (T, W.listOf xs.toArray n) :: rest)) (e7 : NeAll cB ((cT, oT) :: (T, W.listOf xs.toArray n) :: rest)) (e8 : NeAll cT ((T, W.listOf xs.toArray n) :: rest)) (e9 : (∀ q ∈ fixed, q ∈ rest)) (e10 : RDs rest (ds.take i) rs) : DueJ g₁ cT cB T R xs n fixed ds i m g nw
@[elab_as_elim] theorem DueJ.elim {g₁ : Heap} {cT cB T R : Addr} {xs : List Value} {n : Nat} {fixed : Led} {ds : List Dt} {i : Nat} {m : Str → Option Value} {g : Heap} {nw : Led} {motive : (Str → Option Value) → Heap → Led → Prop} (hJ : DueJ g₁ cT cB T R xs n fixed ds i m g nw) (k : ∀ (rs : List Value) (oT oB : Obj) (vT vB : Option Value) (m2 : Str → Option Value) (rest : Led) (e4 : oT.data = .cell vT) (e5 : oB.data = .cell vB) (e6 : NeAll R ((cB, oB) :: (cT, oT) :: (T, W.listOf xs.toArray n) :: rest)) (e7 : NeAll cB ((cT, oT) :: (T, W.listOf xs.toArray n) :: rest)) (e8 : NeAll cT ((T, W.listOf xs.toArray n) :: rest)) (e9 : (∀ q ∈ fixed, q ∈ rest)) (e10 : RDs rest (ds.take i) rs), motive ((fun y => if y = Str.ofString "due" then some (.ref R) else if y = Str.ofString "texts" then some (.ref T) else m2 y)) g₁ ((R, LCg.lst rs) :: (cB, oB) :: (cT, oT) :: (T, W.listOf xs.toArray n) :: rest)) : motive m g nw := by
  obtain ⟨rfl, rs, oT, oB, vT, vB, m2, rest, rfl, rfl, e4, e5, e6, e7, e8, e9, e10⟩ := hJ
  exact k rs oT oB vT vB m2 rest e4 e5 e6 e7 e8 e9 e10
noncomputable abbrev TxtJ (g₁ : Heap) (nw₁ : Led) (f : Str → Str) (ts : List Str) : Nat → List Value → Heap → Led → Prop := Stay g₁ nw₁ fun i ys => StrsAre ys ((ts.take i).map f)
theorem sum_le {n : Nat} : ∀ {l : List Str}, (∀ z ∈ l, z.length ≤ n) → (l.map (·.length)).sum ≤ n * l.length
  | [], _ => Nat.le_refl _
  | z :: l, h => by
    have ih := sum_le (l := l) fun y hy => h y (.tail _ hy)
    have hz := h z (.head _)
    rw [List.map_cons, List.sum_cons, List.length_cons, Nat.mul_succ]
    omega
theorem look_len {tb : List (Str × Str)} (h : (tb.all fun e => decide (e.2.length ≤ 64)) = true) (k : Str) (hk : k.length ≤ 64) : ((lookS tb k).getD k).length ≤ 64 := by
  unfold lookS
  cases hf : tb.find? fun kv => kv.1 = k with
  | none => exact hk
  | some e => exact of_decide_eq_true (List.all_eq_true.mp h e (List.mem_of_find?_eq_some hf))
inductive RowJ (g₁ : Heap) (cB cT T R Rw I : Addr) (it oT : Obj) (rs : List Value) (fixed : Led) (tb : List (Str × Str)) (ts : List Str) (i : Nat) (m : Str → Option Value) (g : Heap) (nw : Led) : Prop
  | mk (e1 : g = g₁) (qs : List Value) (oB : Obj) (vB : Option Value) (m2 : Str → Option Value) (rest : Led) (e2 : m = (fun y => if y = Str.ofString "rows" then some (.ref Rw) else if y = Str.ofString "due" then some (.ref R) else if y = Str.ofString "texts" then some (.ref T) else m2 y)) (e3 : nw = (Rw, LCg.lst qs) :: (cB, oB) :: (cT, oT) :: (R, LCg.lst rs) :: (I, it) :: rest) (e4 : oB.data = .cell vB) (e5 : NeAll Rw ((cB, oB) :: (cT, oT) :: (R, LCg.lst rs) :: (I, it) :: rest)) (e6 : NeAll cB ((cT, oT) :: (R, LCg.lst rs) :: (I, it) :: rest)) (e7 : NeAll cT ((R, LCg.lst rs) :: (I, it) :: rest)) (e8 : NeAll R ((I, it) :: rest)) (e9 : NeAll I rest) (e10 : (∀ q ∈ fixed, q ∈ rest)) (e11 : RDs rest ((ts.take i).map fun x => .list ((dueBools tb x).map .bool)) qs) : RowJ g₁ cB cT T R Rw I it oT rs fixed tb ts i m g nw
@[elab_as_elim] theorem RowJ.elim {g₁ : Heap} {cB cT T R Rw I : Addr} {it oT : Obj} {rs : List Value} {fixed : Led} {tb : List (Str × Str)} {ts : List Str} {i : Nat} {m : Str → Option Value} {g : Heap} {nw : Led} {motive : (Str → Option Value) → Heap → Led → Prop} (hJ : RowJ g₁ cB cT T R Rw I it oT rs fixed tb ts i m g nw) (k : ∀ (qs : List Value) (oB : Obj) (vB : Option Value) (m2 : Str → Option Value) (rest : Led) (e4 : oB.data = .cell vB) (e5 : NeAll Rw ((cB, oB) :: (cT, oT) :: (R, LCg.lst rs) :: (I, it) :: rest)) (e6 : NeAll cB ((cT, oT) :: (R, LCg.lst rs) :: (I, it) :: rest)) (e7 : NeAll cT ((R, LCg.lst rs) :: (I, it) :: rest)) (e8 : NeAll R ((I, it) :: rest)) (e9 : NeAll I rest) (e10 : (∀ q ∈ fixed, q ∈ rest)) (e11 : RDs rest ((ts.take i).map fun x => .list ((dueBools tb x).map .bool)) qs), motive ((fun y => if y = Str.ofString "rows" then some (.ref Rw) else if y = Str.ofString "due" then some (.ref R) else if y = Str.ofString "texts" then some (.ref T) else m2 y)) g₁ ((Rw, LCg.lst qs) :: (cB, oB) :: (cT, oT) :: (R, LCg.lst rs) :: (I, it) :: rest)) : motive m g nw := by
  obtain ⟨rfl, qs, oB, vB, m2, rest, rfl, rfl, e4, e5, e6, e7, e8, e9, e10, e11⟩ := hJ
  exact k qs oB vB m2 rest e4 e5 e6 e7 e8 e9 e10 e11
theorem c_due (w : World) (p : Program) (loose : List Str) (mean : ExcName → Option Value) (mg mb : Str → Option Value) (T : Addr) (xs : List Value) (n : Nat) (ts : List Str) (hts : StrsAre xs ts) (hlen : ∀ x ∈ ts, x.length ≤ 4) (hsok : ∀ x ∈ ts, PyData.strOk x = true) (hcount : ts.length ≤ 8) (news : Led) :
    CallT 360 3600 w p loose mean mg mb 861 ((T, W.listOf xs.toArray n) :: news) [.ref T] (fun _ tl v => ∃ R, v = .ref R ∧ RD tl (.list (dueRows ts)) v) := by
  refine CallT.of ?_
  intro cn nms ig ic mo a ccd cl outer A₀ base h₀ L m s Q E hB hF hK hN hT ht hret
  refine wpAny_mono (Q := Q) (E := fun _ _ => False) ?_ (fun _ _ h => h) (fun _ _ h => h.elim)
  refine tok_keep ?_
  repeat' ((fail_if_success (with_reducible show wpAny _ _ (exec (Stmt.For _ _ _ _ _) _) _ _ _)); (first | (k_unfold; (try dsimp only)) | (k_end; wrow_close) | walk1 | (dsimp only; walk1)))
  rename_i g L1 h2 tk2 FG B1 X1 T1 l1a oB oT dB dT A2 o2 B2 R h1 l1b h0' F1 N1 tk0 htk0
  have dT' : oT.data = .cell none := dT
  have dB' : oB.data = .cell none := dB
  clear dT dB
  refine wpAny_mono (E := fun _ _ => False) ?_ (fun _ _ h => h) (fun _ _ h => h.elim)
  refine for_ledG (L := L1) ?_
  repeat' ((fail_if_success (with_reducible show wpAny _ _ (call (Value.ref 832) _) _ _ _)); (first | (k_unfold; (try dsimp only)) | (k_end; wrow_close) | walk1 | (dsimp only; walk1)))
  refine c_tables w p loose mean mg mb _ _ _ _ _ _ _ _ _ _ _ _ _ _ _ _ _ B2 F1 X1 N1 T1 rfl ?kd ?ku ?kt ?kR
  case kd => exact Nat.le_of_ble_eq_true rfl
  case ku => exact Nat.le_of_ble_eq_true rfl
  case kt => exact htk0
  case kR =>
    rintro v tl h3 tk3 hle3 F3 N3 ⟨l, d1, d2, d3, d4, d5, o1, o2, o3, o4, o5, n5, rfl, rfl, TB1, TB2, TB3, TB4, TB5, lo1, lo2, lo3, lo4, lo5⟩
    (try dsimp only)
    (try k_unfold)
    (try dsimp only)
    have htk3 : 0 < tk3 := Nat.lt_of_lt_of_le htk0 hle3
    refine ⟨_, [.ref d1, .ref d2, .ref d3, .ref d4, .ref d5], DueJ g (L1 + 1) (L1 + 1 + 1) T R xs n ((l, W.listOf #[.ref d1, .ref d2, .ref d3, .ref d4, .ref d5] n5) :: (d5, o5) :: (d4, o4) :: (d3, o3) :: (d2, o2) :: (d1, o1) :: news) (dueRows ts), _, g, _, rfl, rfl, F3, ?hN7, ⟨rfl, [], oT, oB, none, none, _, _, form2 rfl rfl, rfl, dT', dB', ?nR, ?nB, ?nT, fun q hq => hq, .nil⟩, ?hsrc, ?turn, ?done⟩
    case hN7 =>
      exact fun q hq => N3 q (by first | (revert q; (repeat (first | exact sub_r | exact sub_n | (refine sub_c ?_ ?_; focus ((repeat (first | exact List.Mem.head _ | refine List.Mem.tail _ ?_)); done)) | refine sub_t ?_)); done) | (simp only [List.mem_cons, List.mem_append, List.not_mem_nil, or_false] at hq ⊢; rcases hq with h | h | h | h | h | h | h | h | h | h | h <;> simp [h]))
    case nR =>
      have hR : (R, W.listOf #[] 0) ∈ [(l, W.listOf #[.ref d1, .ref d2, .ref d3, .ref d4, .ref d5] n5), (d5, o5), (d4, o4), (d3, o3), (d2, o2), (d1, o1)] ++ ((R, W.listOf #[] 0) :: (L1 + 1 + 1, oB) :: (L1 + 1, oT) :: (T, W.listOf xs.toArray n) :: news) := by first | ((repeat (first | exact List.Mem.head _ | refine List.Mem.tail _ ?_)); done) | simp
      have hd : ∀ es ep, (W.listOf #[] 0).data ≠ .dict es ep := fun _ _ e => nomatch e
      refine nall_cons (Nat.ne_of_lt l1b.1) (nall_cons (Nat.ne_of_lt l1b.2.1) (nall_cons (Nat.ne_of_lt l1b.2.2.1) (nall_cons (news_neD N3 (.head _) hR (by simp [W.listOf])) (nall_cons (tab_ne N3 TB5 (.tail _ (.head _)) hR hd) (nall_cons (tab_ne N3 TB4 (.tail _ (.tail _ (.head _))) hR hd) (nall_cons (tab_ne N3 TB3 (.tail _ (.tail _ (.tail _ (.head _)))) hR hd) (nall_cons (tab_ne N3 TB2 (.tail _ (.tail _ (.tail _ (.tail _ (.head _))))) hR hd) (nall_cons (tab_ne N3 TB1 (.tail _ (.tail _ (.tail _ (.tail _ (.tail _ (.head _)))))) hR hd) (neAll_of fun q hq => Nat.ne_of_lt (allLt_mem l1b.2.2.2 q hq))))))))))
    case nB =>
      have hR : (L1 + 1 + 1, oB) ∈ [(l, W.listOf #[.ref d1, .ref d2, .ref d3, .ref d4, .ref d5] n5), (d5, o5), (d4, o4), (d3, o3), (d2, o2), (d1, o1)] ++ ((R, W.listOf #[] 0) :: (L1 + 1 + 1, oB) :: (L1 + 1, oT) :: (T, W.listOf xs.toArray n) :: news) := by first | ((repeat (first | exact List.Mem.head _ | refine List.Mem.tail _ ?_)); done) | simp
      have hd : ∀ es ep, oB.data ≠ .dict es ep := fun _ _ e => by rw [dB'] at e; cases e
      refine nall_cons (by show @Ne Nat (L1 + 1) (L1 + 1 + 1); omega) (nall_cons (by show @Ne Nat T (L1 + 1 + 1); have := l1a.1; omega) (nall_cons (news_neD N3 (.head _) hR (by rw [dB']; simp [W.listOf])) (nall_cons (tab_ne N3 TB5 (.tail _ (.head _)) hR hd) (nall_cons (tab_ne N3 TB4 (.tail _ (.tail _ (.head _))) hR hd) (nall_cons (tab_ne N3 TB3 (.tail _ (.tail _ (.tail _ (.head _)))) hR hd) (nall_cons (tab_ne N3 TB2 (.tail _ (.tail _ (.tail _ (.tail _ (.head _))))) hR hd) (nall_cons (tab_ne N3 TB1 (.tail _ (.tail _ (.tail _ (.tail _ (.tail _ (.head _)))))) hR hd) (neAll_of fun q hq => Nat.ne_of_lt (Nat.lt_of_lt_of_le (allLt_mem l1a.2 q hq) (by omega))))))))))
    case nT =>
      have hR : (L1 + 1, oT) ∈ [(l, W.listOf #[.ref d1, .ref d2, .ref d3, .ref d4, .ref d5] n5), (d5, o5), (d4, o4), (d3, o3), (d2, o2), (d1, o1)] ++ ((R, W.listOf #[] 0) :: (L1 + 1 + 1, oB) :: (L1 + 1, oT) :: (T, W.listOf xs.toArray n) :: news) := by first | ((repeat (first | exact List.Mem.head _ | refine List.Mem.tail _ ?_)); done) | simp
      have hd : ∀ es ep, oT.data ≠ .dict es ep := fun _ _ e => by rw [dT'] at e; cases e
      refine nall_cons (by show @Ne Nat T (L1 + 1); have := l1a.1; omega) (nall_cons (news_neD N3 (.head _) hR (by rw [dT']; simp [W.listOf])) (nall_cons (tab_ne N3 TB5 (.tail _ (.head _)) hR hd) (nall_cons (tab_ne N3 TB4 (.tail _ (.tail _ (.head _))) hR hd) (nall_cons (tab_ne N3 TB3 (.tail _ (.tail _ (.tail _ (.head _)))) hR hd) (nall_cons (tab_ne N3 TB2 (.tail _ (.tail _ (.tail _ (.tail _ (.head _))))) hR hd) (nall_cons (tab_ne N3 TB1 (.tail _ (.tail _ (.tail _ (.tail _ (.tail _ (.head _)))))) hR hd) (neAll_of fun q hq => Nat.ne_of_lt (Nat.lt_of_lt_of_le (allLt_mem l1a.2 q hq) (by omega)))))))))
    case hsrc =>
      rintro i m1 g1 nw ⟨hG, rs, oT, oB, vT, vB, m2, rest1, rfl, rfl, dT, dB, nR, nB, nT, hfix1, hrd⟩
      exact .inr ⟨_, .tail _ (.tail _ (.tail _ (.tail _ (hfix1 _ (.head _))))), rfl, _, rfl⟩
    case done =>
      intro h8 tk8 m1 g1 nw hJ
      refine DueJ.elim hJ ?_
      intro rs oT oB vT vB m2 rest1 dT dB nR nB nT hfix1 hrd F8 N8 htk8
      repeat' ((fail_if_success (with_reducible show LeaveK _ _ _ _ _ _ _)); (first | (k_unfold; (try dsimp only)) | (k_end; wrow_close) | walk1 | (dsimp only; walk1)))
      dsimp only
      refine leaveK_ F8 N8 fun Fz Nz hle => ?_
      refine hret (.ref R) ((R, LCg.lst rs) :: (L1 + 1 + 1, oB) :: (L1 + 1, oT) :: rest1) h8 _ hle Fz ?_ ⟨R, rfl, .list (.head _) (hrd.mono fun q hq => by first | ((repeat (first | exact hq | refine List.Mem.tail _ ?_)); done) | simp [hq])⟩
      intro q hq
      rcases List.mem_append.mp hq with hq | hq
      · exact Nz q (by first | (revert q; (repeat (first | exact sub_r | exact sub_n | (refine sub_c ?_ ?_; focus ((repeat (first | exact List.Mem.head _ | refine List.Mem.tail _ ?_)); done)) | refine sub_t ?_)); done) | (simp only [List.mem_cons] at hq ⊢; rcases hq with h | h | h | h <;> simp [h]))
      · rcases List.mem_cons.mp hq with rfl | hq
        · exact Nz _ (by first | ((repeat (first | exact List.Mem.head _ | refine List.Mem.tail _ ?_)); done) | simp)
        · exact Nz q (.tail _ (.tail _ (.tail _ (.tail _ (hfix1 q (by first | ((repeat (first | exact hq | refine List.Mem.tail _ ?_)); done) | simp [hq]))))))
    case turn =>
      intro i v I it h8 tk8 m1 g1 nw hv hJ
      refine DueJ.elim hJ ?_
      intro rs oT oB vT vB m2 rest1 dT dB nR nB nT hfix1 hrd F8 N8 hn8 hic htk8
      obtain ⟨d, oD, tb, rfl, hdm, hTB, hlo, htok, htln, hds⟩ := tabs_at ts TB1 TB2 TB3 TB4 TB5 lo1 lo2 lo3 lo4 lo5 hv
      refine wpAny_assign_Name (store_cell (pre := [(I, it), (R, LCg.lst rs), (L1 + 1 + 1, oB)]) (post := (T, W.listOf xs.toArray n) :: rest1) (c := L1 + 1) (o := oT) F8 N8 ?neT dT rfl rfl rfl ?_)
      case neT =>
        exact neAll_all (nall_cons (Ne.symm (hn8 _ (.tail _ (.tail _ (.head _))))) (nall_cons (Ne.symm nR.2.1) (nall_cons (Ne.symm nB.1) nT)))
      intro h9 oT9 F9 N9 dT9
      rw [List.cons_append, List.cons_append, List.cons_append, List.nil_append] at N9
      clear N8 F8
      repeat' ((fail_if_success (with_reducible show wpAny _ _ (exec (Stmt.For _ _ _ _ _) _) _ _ _)); (first | (k_unfold; (try dsimp only)) | (k_end; wrow_close) | walk1 | (dsimp only; walk1)))
      rename News _ _ _ _ => NW
      rename Fr _ _ _ _ => FW
      rename_i Rw hW1 lW hW2 tkW htkW
      try clear F1 N1
      try clear F3 N3
      refine for_ledG (L := L1) ?_
      refine nameX_L FW rfl ?_
      refine ⟨_, xs, RowJ g (L1 + 1 + 1) (L1 + 1) T R Rw I it oT9 rs ((T, W.listOf xs.toArray n) :: rest1) tb ts, _, g, _, rfl, rfl, FW, ?hNW, ⟨rfl, [], oB, vB, _, _, form3 rfl rfl rfl, rfl, dB, ?nRw, ?nBw, ?nTw, ?nRr, ?nIr, fun q hq => hq, .nil⟩, ?hsrcW, ?turnW, ?doneW⟩
      case hNW => exact fun q hq => NW q (by first | (revert q; (repeat (first | exact sub_r | exact sub_n | (refine sub_c ?_ ?_; focus ((repeat (first | exact List.Mem.head _ | refine List.Mem.tail _ ?_)); done)) | refine sub_t ?_)); done) | (simp only [List.mem_cons] at hq ⊢; rcases hq with h | h | h | h | h | h | h <;> simp [h]))
      case nRw => exact nall_cons (Nat.ne_of_lt lW.2.2.1) (nall_cons (Nat.ne_of_lt lW.2.2.2.1) (nall_cons (Nat.ne_of_lt lW.2.1) (nall_cons (Nat.ne_of_lt lW.1) (nall_cons (Nat.ne_of_lt lW.2.2.2.2.1) (neAll_of fun q hq => Nat.ne_of_lt (allLt_mem lW.2.2.2.2.2 q hq))))))
      case nBw => exact nall_cons nB.1 (nall_cons (Ne.symm nR.1) (nall_cons (Ne.symm (hn8 (L1 + 1 + 1, oB) (.tail _ (.head _)))) nB.2))
      case nTw => exact nall_cons (Ne.symm nR.2.1) (nall_cons (Ne.symm (hn8 (L1 + 1, oT) (.tail _ (.tail _ (.head _))))) nT)
      case nRr => exact nall_cons (Ne.symm (hn8 (R, LCg.lst rs) (.head _))) nR.2.2
      case nIr => exact neAll_of fun q hq => hn8 q (.tail _ (.tail _ (.tail _ hq)))
      case hsrcW =>
        rintro i m1 g2 nw ⟨rfl, qs, oB, vB, m2, rest4, rfl, rfl, dB, nRw, nBw, nTw, nRr, nIr, hfix2, hrdw⟩
        exact .inr ⟨_, .tail _ (.tail _ (.tail _ (.tail _ (.tail _ (hfix2 _ (.head _)))))), rfl, _, rfl⟩
      case doneW =>
        intro h10 tk10 m1 g2 nw hJ
        refine RowJ.elim hJ ?_
        intro qs oB vB m3 rest4 dB nRw nBw nTw nRr nIr hfix2 hrdw F10 N10 htk10
        have hq5 : RDs rest4 (ts.map fun x => .list ((dueBools tb x).map .bool)) qs := by
          rw [hts.len_eq, List.take_length] at hrdw
          exact hrdw
        clear hrdw
        repeat' ((fail_if_success (with_reducible show wpAny _ _ (eval (Expr.ListComp _ _ _ _) _) _ _ _)); (first | (k_unfold; (try dsimp only)) | (k_end; wrow_close) | walk1 | (dsimp only; walk1)))
        rename News _ _ _ _ => N30
        rename Fr _ _ _ _ => F30
        obtain ⟨kvs, hDk, hPr⟩ := hTB
        have hdR : (d, oD) ∈ rest4 := hfix2 _ (.tail _ (hfix1 _ (.tail _ (List.mem_append_left news hdm))))
        have hTr : (T, W.listOf xs.toArray n) ∈ rest4 := hfix2 _ (.head _)
        refine comp_val (cl := [(Str.ofString "table", L1 + 1)]) (by with_unfolding_all rfl) rfl (by decide) ?_
        refine nameX_L F30 rfl ?_
        refine from_list_L (items := xs.toArray) (TxtJ g _ (dueText tb) ts) rfl F30 N30 ?hszX ⟨rfl, rfl, .nil⟩ (src_stay ?hsrcX) (by decide) rfl rfl (turn_hide ?turnX) (doneV (done_stay ?doneX))
        case hszX => rw [List.size_toArray, hts.len_eq]; exact Nat.le_trans hcount (Nat.le_of_ble_eq_true rfl)
        case hsrcX =>
          exact .inr ⟨_, .tail _ (.tail _ (.tail _ (.tail _ (.tail _ hTr)))), rfl, _, rfl⟩
        case turnX =>
          rintro nwX hinX i3 v3 I3 it3 C oC m5 D3 ys5 h15 tk15 E' hi hP hoC hxs hst F17 N17 off ne htk15 hyl
          have hdX : (d, oD) ∈ nwX := hinX _ (by (repeat (first | exact hdR | refine List.Mem.tail _ ?_)); done)
          have N17 := news_see N17 (.tail _ (.tail _ (.tail _ (hinX (L1 + 1, oT9) (by (repeat (first | exact List.Mem.head _ | refine List.Mem.tail _ ?_)); done)))))
          clear hinX
          obtain ⟨y, t, rfl, hy⟩ := hts.item i3 v3 (by simpa [ItemAt] using hP)
          have hyl4 := hlen y (List.mem_of_getElem? hy)
          refine wpAny_tests_nil ?_
          simp only [if_true]
          repeat' ((fail_if_success (with_reducible show wpAny _ _ (eval (Expr.ListComp _ _ _ _) _) _ _ _)); (first | (k_unfold; (try dsimp only)) | (k_end; wrow_close) | walk1 | (dsimp only; walk1)))
          refine comp_val (cl := [(Str.ofString "table", L1 + 1)]) (by with_unfolding_all rfl) rfl (by decide) ?_
          repeat' ((fail_if_success (with_reducible show IterThen _ _ _ _ _ _ _ _ _ _ _ _ _ _ _ _)); (first | (k_unfold; (try dsimp only)) | (k_end; wrow_close) | walk1 | (dsimp only; walk1)))
          refine from_text_L (SignJ g _ (fun k => (lookS tb k).getD k) y) rfl F17 N17 ?hszY ⟨rfl, rfl, .nil⟩ (by decide) rfl rfl (turn_hide ?turnY) (doneV (done_stay ?doneY))
          case hszY => exact Nat.le_trans hyl4 (Nat.le_of_ble_eq_true rfl)
          case turnY =>
            rintro nwY hinY i4 v4 I4 it4 C4 oC4 m6 D4 ys7 h17 tk17 E'' hi4 ⟨c, u, hc, rfl⟩ hoC4 hxs4 hst4 F24 N24 off4 ne4 htk17 hyl5
            have hdY : (d, oD) ∈ nwY := hinY _ (.tail _ (.tail _ (.tail _ (.tail _ hdX))))
            have N24 := news_see N24 (.tail _ (.tail _ (.tail _ (hinY (L1 + 1, oT9) (.head _)))))
            clear hinY
            refine wpAny_tests_nil ?_
            simp only [if_true]
            have hdR3 : (d, oD) ∈ ((L1 + 1, oT9) :: (I4, it4) :: (C4, oC4) :: (D4, LCg.lst ys7) :: nwY) := .tail _ (.tail _ (.tail _ (.tail _ hdY)))
            repeat' ((fail_if_success (with_reducible show wpAny _ _ (getMethod (Value.ref _) _ _) _ _ _)); (first | (k_unfold; (try dsimp only)) | (k_end; wrow_close) | walk1 | (dsimp only; walk1)))
            refine kdg_method N24 hdR3 hDk ?_
            repeat' ((fail_if_success (with_reducible show wpAny _ _ (call (Value.builtin "dict.get") _) _ _ _)); (first | (k_unfold; (try dsimp only)) | (k_end; wrow_close) | walk1 | (dsimp only; walk1)))
            refine kdg_get2 N24 hdR3 hDk hlo (strKind_is _ _ _ _) _ rfl ?_
            (try dsimp only)
            (try k_unfold)
            (try dsimp only)
            refine ⟨_, _, g, _, rfl, F24, fun q hq => N24 q (.tail _ hq), fun q hq => ⟨(off4.mem q hq).1, (off4.mem q hq).2.2, fun q' => (off4.mem q hq).2.1 (List.mem_singleton.mp q')⟩, rfl, rfl, ?_⟩
            obtain ⟨t9, ht9⟩ := pairs_get hPr ⟨#[c]⟩ ⟨#[c]⟩ u
            rw [ht9, List.take_add_one, sign_at hc, List.map_append]
            exact strs_snocD hst4 _ _
          case doneY =>
            rintro XL h17 tk17 ys7 hst4 F24 N24 offX htk17
            have hxs7 : StrsAre ys7 ((signs y).map fun k => (lookS tb k).getD k) := by
              have e : (signs y).take y.cps.size = signs y := List.take_of_length_le (Nat.le_of_eq (signs_length y))
              rw [e] at hst4
              exact hst4
            clear hst4
            repeat' ((fail_if_success (with_reducible show wpAny _ _ (call (Value.builtin "str.join") _) _ _ _)); (first | (k_unfold; (try dsimp only)) | (k_end; wrow_close) | walk1 | (dsimp only; walk1)))
            refine join_list (items := ys7.toArray) (ys := (signs y).map fun k => (lookS tb k).getD k) ⟨_, (N24 _ (.head _)).1, rfl, _, rfl⟩ hxs7 ?hj ?_
            case hj =>
              have e0 : (Str.ofString "").length = 0 := by decide +kernel
              rw [e0, Nat.mul_zero, Nat.add_zero]
              refine Nat.le_trans (sum_le (n := 64) fun z hz => ?_) ?_
              · obtain ⟨k, hk, rfl⟩ := List.mem_map.mp hz
                obtain ⟨c, _, rfl⟩ := List.mem_map.mp hk
                exact look_len htln _ (Nat.le_of_ble_eq_true rfl)
              · rw [List.length_map, signs_length]
                omega
            intro tj kj
            repeat' ((fail_if_success (with_reducible show CEnd _ _ _ _ _ _ _ _ _ _)); (first | (k_unfold; (try dsimp only)) | (k_end; wrow_close) | walk1 | (dsimp only; walk1)))
            refine ⟨_, _, g, _, rfl, F24, fun q hq => N24 q (.tail _ (.tail _ hq)), fun q hq => ⟨(off.mem q hq).1, (off.mem q hq).2.2, fun q' => (off.mem q hq).2.1 (List.mem_singleton.mp q')⟩, rfl, rfl, ?_⟩
            rw [List.take_add_one, hy, List.map_append]
            exact strs_snocD hst _ _
        case doneX =>
          rintro JL h15 tk15 ys5 hst F17 N17 offJ htk15
          have hjs : StrsAre ys5 (ts.map (dueText tb)) := by
            have e : ts.take xs.toArray.size = ts := by rw [List.size_toArray, hts.len_eq, List.take_length]
            rw [e] at hst
            exact hst
          clear hst
          repeat' ((fail_if_success (with_reducible show wpAny _ _ (call (Value.builtin "list.append") _) _ _ _)); (first | (k_unfold; (try dsimp only)) | (k_end; wrow_close) | walk1 | (dsimp only; walk1)))
          have hapR : ∀ p ∈ ((JL, LCg.lst ys5) :: (Rw, LCg.lst qs) :: (L1 + 1 + 1, oB) :: (L1 + 1, oT9) :: (I, it) :: rest4), @Ne Nat p.1 R := by
            exact neAll_all (nall_cons (Ne.symm (offJ (R, LCg.lst rs) (.tail _ (.tail _ (.tail _ (.head _)))))) (nall_cons (Ne.symm nRw.2.2.1) (nall_cons (Ne.symm nBw.2.1) (nall_cons (Ne.symm nTw.1) (nall_cons (nRr.1) (nRr.2))))))
          refine append_head (its := rs.toArray) (n := rs.length) (rest := (JL, LCg.lst ys5) :: (Rw, LCg.lst qs) :: (L1 + 1 + 1, oB) :: (L1 + 1, oT9) :: (I, it) :: rest4) F17 (fun q hq => N17 q (by first | (revert q; (repeat (first | exact sub_r | exact sub_n | (refine sub_c ?_ ?_; focus ((repeat (first | exact List.Mem.head _ | refine List.Mem.tail _ ?_)); done)) | refine sub_t ?_)); done) | (simp only [List.mem_cons] at hq ⊢; rcases hq with h | h | h | h | h | h | h <;> simp [h]))) hapR ?_ ?hszR
          case hszR =>
            have e8 := hrd.len
            rw [List.size_toArray, e8]
            exact Nat.le_trans (List.length_take_le' _ _) (Nat.le_of_ble_eq_true rfl)
          intro h19 F32 N32
          clear F17 N17
          repeat' ((fail_if_success (with_reducible show wpAny _ _ (subscriptTail _ _ _ _) _ _ _)); (first | (k_unfold; (try dsimp only)) | (k_end; wrow_close) | walk1 | (dsimp only; walk1)))
          have hl32 : Heap.IsList _ R (rs.toArray.push (Value.ref JL)) := ⟨_, (N32 _ (.head _)).1, rfl, _, rfl⟩
          refine tail_any hl32.typeIs slot_list_getitem.lookup (wpAny_getItem_list_neg (x := Value.ref JL) hl32 (by decide) ?g1 (by decide) ?g2 ?_) (by with_unfolding_all rfl)
          case g1 => rw [Array.size_push, List.size_toArray]; omega
          case g2 =>
            rw [Array.size_push, List.size_toArray, show ((-1 : Int) + ((rs.length + 1 : Nat) : Int)).toNat = rs.length from by omega]
            simp
          repeat' ((fail_if_success (with_reducible show wpAny _ _ (setItem _ _ _) _ _ _)); (first | (k_unfold; (try dsimp only)) | (k_end; wrow_close) | walk1 | (dsimp only; walk1)))
          rename News _ _ _ _ => N33
          rename Fr _ _ _ _ => F33
          rename_i Nl hh4 ltN
          have hapN : ∀ p ∈ ((Nl, W.listOf #[Value.ref JL, Value.ref Rw, Value.bool true, Value.bool true] 0) :: (JL, LCg.lst ys5) :: (Rw, LCg.lst qs) :: (L1 + 1 + 1, oB) :: (L1 + 1, oT9) :: (I, it) :: rest4), @Ne Nat p.1 R := by
            intro p hp
            rcases List.mem_cons.mp hp with rfl | hp
            · exact Nat.ne_of_gt ltN.1
            · exact hapR p hp
          refine ki_setNeg (its := rs.toArray.push (Value.ref JL)) (n := rs.length + 1) (j := rs.length) (q := rs ++ [Value.ref Nl]) (news := (R, W.listOf (rs.toArray.push (Value.ref JL)) (rs.length + 1)) :: (Nl, W.listOf #[Value.ref JL, Value.ref Rw, Value.bool true, Value.bool true] 0) :: (JL, LCg.lst ys5) :: (Rw, LCg.lst qs) :: (L1 + 1 + 1, oB) :: (L1 + 1, oT9) :: (I, it) :: rest4) F33 ?sN (by decide) (by decide) ?sj ?se (.head hapN) ?_
          case sN =>
            exact fun q hq => N33 q (by revert q; (repeat (first | exact sub_r | exact sub_n | (refine sub_c ?_ ?_; focus ((repeat (first | exact List.Mem.head _ | refine List.Mem.tail _ ?_)); done)) | refine sub_t ?_)); done)
          case sj =>
            rw [Array.size_push, List.size_toArray, PySem.seqIndex_neg (by decide) (by omega), show ((-1 : Int) + ((rs.length + 1 : Nat) : Int)).toNat = rs.length from by omega]
          case se =>
            rw [Array.toList_push, show rs.toArray.toList = rs from rfl]
            exact ki_last _ _ rs
          intro h20 F34 N34
          have eL : W.listOf (rs ++ [Value.ref Nl]).toArray (rs.length + 1) = LCg.lst (rs ++ [Value.ref Nl]) := by
            unfold LCg.lst W.listOf
            rw [List.length_append]; rfl
          rw [eL] at N34
          repeat' ((fail_if_success (with_reducible show TurnEndG _ _ _ _ _ _ _ _)); (first | (k_unfold; (try dsimp only)) | (k_end; wrow_close) | walk1 | (dsimp only; walk1)))
          have h14s : ∀ q ∈ rest1, q ∈ rest4 := fun q hq => hfix2 q (.tail _ hq)
          refine ⟨h20, _, _, g, _, rfl, F34, ?_, ?_, rfl, rs ++ [.ref Nl], oT9, oB, some (.ref d), vB, _, (Nl, W.listOf #[Value.ref JL, Value.ref Rw, Value.bool true, Value.bool true] 0) :: (JL, LCg.lst ys5) :: (Rw, LCg.lst qs) :: rest4, form2 rfl rfl, rfl, dT9, dB, ?_, ?_, ?_, ?_, ?_⟩
          · exact fun q hq => N34 q (by revert q; (repeat (first | exact sub_r | exact sub_n | (refine sub_c ?_ ?_; focus ((repeat (first | exact List.Mem.head _ | exact hTr | refine List.Mem.tail _ ?_)); done)) | refine sub_t ?_)); done)
          · exact neAll_all (nall_cons (Ne.symm nRr.1) (nall_cons (Ne.symm nBw.2.2.1) (nall_cons (Ne.symm nTw.2.1) (nall_cons (neAll_all nIr _ hTr) (nall_cons (Nat.ne_of_gt ltN.2.2.2.2.2.1) (nall_cons (Ne.symm (offJ (I, it) (.tail _ (.tail _ (.tail _ (.tail _ (.head _))))))) (nall_cons (Ne.symm nRw.2.2.2.1) (nIr))))))))
          · exact nall_cons (Ne.symm nBw.2.1) (nall_cons (Ne.symm nTw.1) (nall_cons (neAll_all nRr.2 _ hTr) (nall_cons (Nat.ne_of_gt ltN.1) (nall_cons (hapR _ (.head _)) (nall_cons (Ne.symm nRw.2.2.1) nRr.2)))))
          · exact nall_cons nBw.1 (nall_cons (neAll_all nBw.2.2.2 _ hTr) (nall_cons (Nat.ne_of_gt ltN.2.2.2.1) (nall_cons (Ne.symm (offJ (L1 + 1 + 1, oB) (.tail _ (.head _)))) (nall_cons (Ne.symm nRw.1) nBw.2.2.2))))
          · exact nall_cons (neAll_all nTw.2.2 _ hTr) (nall_cons (Nat.ne_of_gt ltN.2.2.2.2.1) (nall_cons (Ne.symm (offJ (L1 + 1, oT9) (.tail _ (.tail _ (.head _))))) (nall_cons (Ne.symm nRw.2.1) nTw.2.2)))
          · exact fun q hq => .tail _ (.tail _ (.tail _ (h14s q (hfix1 q hq))))
          · rw [List.take_add_one, hds]
            refine (hrd.mono fun q hq => .tail _ (.tail _ (.tail _ (h14s q hq)))).snoc ?_
            refine .list (k := 0) (ys := [Value.ref JL, Value.ref Rw, Value.bool true, Value.bool true]) (.head _) (.cons (.list (k := ys5.length) (.tail _ (.head _)) ?_) (.cons (.list (k := qs.length) (.tail _ (.tail _ (.head _))) (hq5.mono fun q hq => .tail _ (.tail _ (.tail _ hq)))) (.cons (.bool _) (.cons (.bool _) .nil))))
            have e9 : (ts.map fun x => Dt.str (dueText tb x)) = (ts.map (dueText tb)).map Dt.str := by rw [List.map_map]; rfl
            rw [e9]
            exact RDs.strs hjs
      case turnW =>
        intro i2 v2 I2 it2 h10 tk10 m1 g2 nw hv2 hJ
        refine RowJ.elim hJ ?_
        intro qs oB vB m3 rest4 dB nRw nBw nTw nRr nIr hfix2 hrdw F10 N10 hn10 hic2 htk10
        obtain ⟨rest2, hr2⟩ : ∃ r : Led, r = (R, LCg.lst rs) :: (I, it) :: rest4 := ⟨_, rfl⟩
        rw [← hr2] at N10 nRw nBw hn10
        obtain ⟨x, tx, hx2, rfl⟩ := strs_at hts hv2
        repeat' ((fail_if_success (with_reducible show wpAny _ _ (exec (Stmt.Assign _ (Expr.ListComp _ _ _ _) _) _) _ _ _)); (first | (k_unfold; (try dsimp only)) | (k_end; wrow_close) | walk1 | (dsimp only; walk1)))
        rename News _ _ _ _ => N11
        rename Fr _ _ _ _ => F11
        obtain ⟨kvs, hDk, hPr⟩ := hTB
        have hdR : (d, oD) ∈ rest2 := by
          subst hr2
          exact .tail _ (.tail _ (hfix2 _ (.tail _ (hfix1 _ (.tail _ (List.mem_append_left news hdm))))))
        have hxl := hlen x (List.mem_of_getElem? hx2)
        have N12 : News g L1 _ ((I2, it2) :: (Rw, LCg.lst qs) :: (L1 + 1 + 1, oB) :: (L1 + 1, oT9) :: rest2) := N11
        clear N11
        refine comp_asg (cl := [(Str.ofString "table", L1 + 1)]) (by with_unfolding_all rfl) (by with_unfolding_all rfl) rfl (by decide) ?_
        refine nameX_L F11 rfl ?_
        refine from_text_L (SignJ g ((I2, it2) :: (Rw, LCg.lst qs) :: (L1 + 1 + 1, oB) :: (L1 + 1, oT9) :: rest2) (fun k => (lookS tb k).getD (Str.ofString "")) x) rfl F11 N12 ?hszT ⟨rfl, rfl, .nil⟩ (by decide) rfl rfl (turn_hide ?turnA) (doneA rfl rfl rfl ?doneA)
        case hszT => exact Nat.le_trans hxl (Nat.le_of_ble_eq_true rfl)
        case turnA =>
          rintro nwA hinA i3 v3 I3 it3 C oC m5 D3 ys3 h12 tk12 E' hi ⟨c, u, hc, rfl⟩ hoC hxs hst F13 N13 off ne htk12 hyl
          have hdA : (d, oD) ∈ nwA := hinA _ (by (repeat (first | exact hdR | refine List.Mem.tail _ ?_)); done)
          have N13 := news_see N13 (.tail _ (.tail _ (.tail _ (hinA (L1 + 1, oT9) (by (repeat (first | exact List.Mem.head _ | refine List.Mem.tail _ ?_)); done)))))
          clear hinA
          refine wpAny_tests_nil ?_
          simp only [if_true]
          have hdR3 : (d, oD) ∈ ((L1 + 1, oT9) :: (I3, it3) :: (C, oC) :: (D3, LCg.lst ys3) :: nwA) := .tail _ (.tail _ (.tail _ (.tail _ hdA)))
          repeat' ((fail_if_success (with_reducible show wpAny _ _ (getMethod (Value.ref _) _ _) _ _ _)); (first | (k_unfold; (try dsimp only)) | (k_end; wrow_close) | walk1 | (dsimp only; walk1)))
          refine kdg_method N13 hdR3 hDk ?_
          repeat' ((fail_if_success (with_reducible show wpAny _ _ (call (Value.builtin "dict.get") _) _ _ _)); (first | (k_unfold; (try dsimp only)) | (k_end; wrow_close) | walk1 | (dsimp only; walk1)))
          refine kdg_get2 N13 hdR3 hDk hlo (strKind_is _ _ _ _) _ rfl ?_
          (try dsimp only)
          (try k_unfold)
          (try dsimp only)
          refine ⟨h12, _, g, _, rfl, F13, fun q hq => N13 q (.tail _ hq), fun q hq => ⟨(off.mem q hq).1, (off.mem q hq).2.2, fun q' => (off.mem q hq).2.1 (List.mem_singleton.mp q')⟩, rfl, rfl, ?_⟩
          obtain ⟨t9, ht9⟩ := pairs_get hPr ⟨#[c]⟩ (Str.ofString "") tk12
          rw [ht9, List.take_add_one, sign_at hc, List.map_append]
          exact strs_snocD hst _ _
        case doneA =>
          refine done_stayA ?_
          rintro RL h12 tk12 ys3 hst F13 N13 offR htk12
          have hrf : StrsAre ys3 (refsOf tb x) := by
            have e : (signs x).take x.cps.size = signs x := List.take_of_length_le (Nat.le_of_eq (signs_length x))
            rw [e] at hst
            exact hst
          clear hst
          repeat' ((fail_if_success (with_reducible show wpAny _ _ (eval (Expr.ListComp _ _ _ _) _) _ _ _)); (first | (k_unfold; (try dsimp only)) | (k_end; wrow_close) | walk1 | (dsimp only; walk1)))
          refine comp_val (cl := [(Str.ofString "table", L1 + 1)]) (by with_unfolding_all rfl) rfl (by decide) ?_
          refine nameX_L F13 rfl ?_
          refine from_text_L (FiltJ g ((RL, LCg.lst ys3) :: (I2, it2) :: (Rw, LCg.lst qs) :: (L1 + 1 + 1, oB) :: (L1 + 1, oT9) :: rest2) (fun k => !(lookS tb k).isSome) (signs x)) rfl F13 N13 ?hszT2 ⟨rfl, rfl, .nil⟩ (by decide) rfl rfl (turn_hide ?turnB) (doneV (done_stay ?doneB))
          case hszT2 => exact Nat.le_trans hxl (Nat.le_of_ble_eq_true rfl)
          case turnB =>
            rintro nwB hinB i3 v3 I3 it3 C oC m5 D3 ys4 h13 tk13 E' hi ⟨c, u, hc, rfl⟩ hoC hxs hst F14 N14 off ne htk13 hyl
            have hdB : (d, oD) ∈ nwB := hinB _ (by (repeat (first | exact hdR | refine List.Mem.tail _ ?_)); done)
            have N14 := news_see N14 (.tail _ (.tail _ (.tail _ (hinB (L1 + 1, oT9) (by (repeat (first | exact List.Mem.head _ | refine List.Mem.tail _ ?_)); done)))))
            clear hinB
            refine wpAny_tests_one ?_
            have hdR3 : (d, oD) ∈ ((L1 + 1, oT9) :: (I3, it3) :: (C, oC) :: (D3, LCg.lst ys4) :: nwB) := .tail _ (.tail _ (.tail _ (.tail _ hdB)))
            repeat' ((fail_if_success (with_reducible show wpAny _ _ (compareOp CmpOp.NotIn _ _) _ _ _)); (first | (k_unfold; (try dsimp only)) | (k_end; wrow_close) | walk1 | (dsimp only; walk1)))
            refine kdg_notin N14 hdR3 hDk hlo (strKind_is _ _ _ _) _ (pairs_some hPr _) ?_
            repeat' ((fail_if_success (with_reducible show CEnd _ _ _ _ _ _ _ _ _ _)); (first | (k_unfold; (try dsimp only)) | (k_end; wrow_close) | walk1 | (dsimp only; walk1)))
            · have hp := ‹(lookS tb ⟨#[c]⟩).isSome = true›
              (try dsimp only)
              refine ⟨h13, _, g, _, rfl, F14, fun q hq => N14 q (.tail _ hq), fun q hq => ⟨(off.mem q hq).1, (off.mem q hq).2.2, fun q' => (off.mem q hq).2.1 (List.mem_singleton.mp q')⟩, rfl, rfl, ?_⟩
              rw [filt_drop (sign_at hc) (by show (!(lookS tb ⟨#[c]⟩).isSome) = false; rw [hp]; rfl)]
              exact hst
            · have hp : (lookS tb ⟨#[c]⟩).isSome = false := by first | assumption | exact Bool.eq_false_iff.mpr (by assumption)
              (try dsimp only)
              refine ⟨h13, _, g, _, rfl, F14, fun q hq => N14 q (.tail _ hq), fun q hq => ⟨(off.mem q hq).1, (off.mem q hq).2.2, fun q' => (off.mem q hq).2.1 (List.mem_singleton.mp q')⟩, rfl, rfl, ?_⟩
              rw [filt_keep (sign_at hc) (by show (!(lookS tb ⟨#[c]⟩).isSome) = true; rw [hp]; rfl)]
              exact strs_snocD hst _ _
          case doneB =>
            rintro BL h13 tk13 ys4 hst F14 N14 offB htk13
            have hbr : StrsAre ys4 (bareOf tb x) := by
              have e : (signs x).take x.cps.size = signs x := List.take_of_length_le (Nat.le_of_eq (signs_length x))
              rw [e] at hst
              exact hst
            clear hst
            (try dsimp only)
            (try k_unfold)
            (try dsimp only)
            refine store_cell (pre := [(BL, LCg.lst ys4), (RL, LCg.lst ys3), (I2, it2), (Rw, LCg.lst qs)]) (post := (L1 + 1, oT9) :: rest2) (c := L1 + 1 + 1) (o := oB) F14 N14 ?neB dB rfl rfl rfl ?_
            case neB =>
              exact neAll_all (nall_cons (Ne.symm (offB (L1 + 1 + 1, oB) (.tail _ (.tail _ (.tail _ (.head _)))))) (nall_cons (Ne.symm (offR (L1 + 1 + 1, oB) (.tail _ (.tail _ (.head _))))) (nall_cons (Ne.symm (hn10 (L1 + 1 + 1, oB) (.tail _ (.head _)))) (nall_cons (Ne.symm nRw.1) (nall_cons (nBw.1) (nBw.2))))))
            intro h14 oB4 F15 N15 dB4
            rw [List.cons_append, List.cons_append, List.cons_append, List.cons_append, List.nil_append] at N15
            clear N14 F14 N13 F13
            repeat' ((fail_if_success (with_reducible show wpAny _ _ (compareOp CmpOp.In _ _) _ _ _)); (first | (k_unfold; (try dsimp only)) | (k_end; wrow_close) | walk1 | (dsimp only; walk1)))
            refine in_list_strs (vs := ys3) (ys := refsOf tb x) ⟨_, (N15 _ (.tail _ (.head _))).1, rfl, _, rfl⟩ hrf ?_
            repeat' ((fail_if_success (with_reducible show wpAny _ _ (compareOp CmpOp.In _ _) _ _ _)); (first | (k_unfold; (try dsimp only)) | (k_end; wrow_close) | walk1 | (dsimp only; walk1)))
            refine in_list_strs (vs := ys3) (ys := refsOf tb x) ⟨_, (N15 _ (.tail _ (.head _))).1, rfl, _, rfl⟩ hrf ?_
            repeat' ((fail_if_success (with_reducible show wpAny _ _ (eval (Expr.ListComp _ _ _ _) _) _ _ _)); (first | (k_unfold; (try dsimp only)) | (k_end; wrow_close) | walk1 | (dsimp only; walk1)))
            rename News _ _ _ _ => N16
            rename Fr _ _ _ _ => F16
            refine comp_val (cl := []) (by with_unfolding_all rfl) rfl (by decide) ?_
            refine nameX_L F16 rfl ?_
            refine from_list_L (items := ys3.toArray) (FiltJ g _ hashed (refsOf tb x)) rfl F16 N16 ?hszH ⟨rfl, rfl, .nil⟩ (src_stay ?hsrcH) (by decide) rfl rfl (turn_hide ?turnH) (doneV (done_stay ?doneH))
            case hszH =>
              rw [List.size_toArray, hrf.len_eq, show (refsOf tb x).length = x.length from by simp [refsOf, signs_length]]
              exact Nat.le_trans hxl (Nat.le_of_ble_eq_true rfl)
            case hsrcH =>
              exact .inr ⟨_, .tail _ (.tail _ (.head _)), rfl, _, rfl⟩
            case turnH =>
              rintro nwH hinH i3 v3 I3 it3 C oC m5 D3 ys5 h15 tk15 E' hi hP hoC hxs hst F17 N17 off ne htk15 hyl
              clear hinH
              obtain ⟨y, t, rfl, hy⟩ := hrf.item i3 v3 (by simpa [ItemAt] using hP)
              have hy64 : y.length ≤ 64 := refs_len htln x y (List.mem_of_getElem? hy)
              refine wpAny_tests_one ?_
              repeat' ((fail_if_success (with_reducible show CEnd _ _ _ _ _ _ _ _ _ _)); (first | (k_unfold; (try dsimp only)) | (k_end; wrow_close) | walk1 | (dsimp only; walk1)))
              · have hp : hashed y = true := by assumption
                (try dsimp only)
                refine ⟨_, _, g, _, rfl, by assumption, by assumption, fun q hq => ⟨(off.mem q hq).1, (off.mem q hq).2.2, fun q' => (off.mem q hq).2.1 (List.mem_singleton.mp q')⟩, rfl, rfl, ?_⟩
                rw [filt_keep hy hp]
                exact strs_snocD hst _ _
              · have hp : hashed y = false := by first | assumption | exact Bool.eq_false_iff.mpr (by assumption)
                (try dsimp only)
                refine ⟨_, _, g, _, rfl, by assumption, by assumption, fun q hq => ⟨(off.mem q hq).1, (off.mem q hq).2.2, fun q' => (off.mem q hq).2.1 (List.mem_singleton.mp q')⟩, rfl, rfl, ?_⟩
                rw [filt_drop hy hp]
                exact hst
            case doneH =>
              rintro HL h15 tk15 ys5 hst F17 N17 offH htk15
              have hhs : StrsAre ys5 ((refsOf tb x).filter hashed) := by
                have e : (refsOf tb x).take ys3.toArray.size = refsOf tb x := by rw [List.size_toArray, hrf.len_eq, List.take_length]
                rw [e] at hst
                exact hst
              clear hst N16 F16
              repeat' ((fail_if_success (with_reducible show wpAny _ _ (compareOp CmpOp.NotEq _ _) _ _ _)); (first | (k_unfold; (try dsimp only)) | (k_end; wrow_close) | walk1 | (dsimp only; walk1)))
              rename News _ _ _ _ => N18
              refine ne_nil N18 (.tail _ (.head _)) hhs (fun z hz => refs_ok htok x z (List.mem_filter.mp hz).1) (.head _) (Nat.le_of_ble_eq_true rfl) ?_
              repeat' ((fail_if_success (with_reducible show wpAny _ _ (eval (Expr.ListComp _ _ _ _) _) _ _ _)); (first | (k_unfold; (try dsimp only)) | (k_end; wrow_close) | walk1 | (dsimp only; walk1)))
              rename News _ _ _ _ => N19
              rename Fr _ _ _ _ => F19
              rename_i Dr hh0 ltDr hh1 tkD htkD
              have N21 : News g L1 hh1 ((Dr, W.listOf #[Value.bool ((refsOf tb x).any (· == Str.ofString "&lt;")), Value.bool ((refsOf tb x).any (· == Str.ofString "&quot;")), Value.bool (!((refsOf tb x).filter hashed).isEmpty)] 0) :: (BL, LCg.lst ys4) :: (I2, it2) :: (Rw, LCg.lst qs) :: (L1 + 1 + 1, oB4) :: (L1 + 1, oT9) :: rest2) := fun q hq => N19 q (by first | (revert q; (repeat (first | exact sub_r | exact sub_n | (refine sub_c ?_ ?_; focus ((repeat (first | exact List.Mem.head _ | refine List.Mem.tail _ ?_)); done)) | refine sub_t ?_)); done))
              have lDr : @LT.lt Nat _ BL Dr ∧ @LT.lt Nat _ I2 Dr ∧ @LT.lt Nat _ Rw Dr ∧ @LT.lt Nat _ (L1 + 1 + 1) Dr := ⟨ltDr.2.2.2.2.1, ltDr.2.2.2.2.2.2.1, ltDr.2.2.2.2.2.2.2.1, ltDr.2.2.2.2.2.2.2.2.1⟩
              clear N19
              refine comp_val (cl := [(Str.ofString "bare", L1 + 1 + 1)]) (by with_unfolding_all rfl) rfl (by decide) ?_
              repeat' ((fail_if_success (with_reducible show IterThen _ _ _ _ _ _ _ _ _ _ _ _ _ _ _ _)); (first | (k_unfold; (try dsimp only)) | (k_end; wrow_close) | walk1 | (dsimp only; walk1)))
              rename News _ _ _ _ => N22
              rename Fr _ _ _ _ => F22
              rename_i Sl hh2 ltSl
              refine from_list_C (items := #[Value.str (Str.ofString "<>\"") tkD, Value.str (Str.ofString "\x0d\n\t") (tkD + 1)]) (BolJ g _ (fun S => !((bareOf tb x).filter (inS S)).isEmpty) [setA, setB]) rfl F22 N22 ?hszC ⟨rfl, rfl, rfl⟩ (src_stay ?hsrcC) (fun _ => rfl) (fun _ => rfl) rfl (by with_unfolding_all rfl) (turn_hideC ?turnC) (doneV (done_stay ?doneC))
              case hszC => exact Nat.le_of_ble_eq_true rfl
              case hsrcC =>
                exact .inr ⟨_, .head _, rfl, _, rfl⟩
              case turnC =>
                rintro nwC hinC i3 v3 I3 it3 C oC c oc D3 ys6 h16 tk16 E' hi hP hoc hb F23 N23 off ne ne2 htk16 hyl
                have N23 := news_see N23 (.tail _ (.tail _ (.tail _ (.tail _ (hinC (L1 + 1 + 1, oB4) (by (repeat (first | exact List.Mem.head _ | refine List.Mem.tail _ ?_)); done)))))) 
                have hBL : (BL, LCg.lst ys4) ∈ nwC := hinC _ (by (repeat (first | exact List.Mem.head _ | refine List.Mem.tail _ ?_)); done)
                clear hinC
                obtain ⟨S, t, rfl, hS⟩ : ∃ S t, v3 = .str S t ∧ [setA, setB][i3]? = some S := by
                  match i3, hP with
                  | 0, hP => exact ⟨_, _, (Option.some.inj hP).symm, rfl⟩
                  | 1, hP => exact ⟨_, _, (Option.some.inj hP).symm, rfl⟩
                  | i + 2, hP => exact absurd hP (by simp [ItemAt])
                refine wpAny_tests_nil ?_
                simp only [if_true]
                repeat' ((fail_if_success (with_reducible show wpAny _ _ (eval (Expr.ListComp _ _ _ _) _) _ _ _)); (first | (k_unfold; (try dsimp only)) | (k_end; wrow_close) | walk1 | (dsimp only; walk1)))
                refine comp_val (cl := [(Str.ofString "some", c)]) (by with_unfolding_all rfl) rfl (by decide) ?_
                refine lcf_cell N23 rfl (.head _) dB4 ?_ rfl rfl
                refine from_list_L (items := ys4.toArray) (FiltJ g _ (inS S) (bareOf tb x)) rfl F23 N23 ?hszS ⟨rfl, rfl, .nil⟩ (src_stay ?hsrcS) (by decide) rfl rfl (turn_hide ?turnS) (doneV (done_stay ?doneS))
                case hszS =>
                  rw [List.size_toArray, hbr.len_eq]
                  exact Nat.le_trans (bare_len tb x) (Nat.le_trans hxl (Nat.le_of_ble_eq_true rfl))
                case hsrcS =>
                  exact .inr ⟨_, .tail _ (.tail _ (.tail _ (.tail _ (.tail _ hBL)))), rfl, _, rfl⟩
                case turnS =>
                  rintro nwS hinS i4 v4 I4 it4 C4 oC4 m6 D4 ys7 h17 tk17 E'' hi4 hP4 hoC4 hxs4 hst F24 N24 off4 ne4 htk17 hyl4
                  have N24 := news_see N24 (.tail _ (.tail _ (.tail _ (hinS (c, oc) (.tail _ (.tail _ (.tail _ (.head _))))))))
                  clear hinS
                  obtain ⟨y, t5, rfl, hy⟩ := hbr.item i4 v4 (by simpa [ItemAt] using hP4)
                  refine wpAny_tests_one ?_
                  repeat' ((fail_if_success (with_reducible show CEnd _ _ _ _ _ _ _ _ _ _)); (first | (k_unfold; (try dsimp only)) | (k_end; wrow_close) | walk1 | (dsimp only; walk1)))
                  · have hp : inS S y = false := by unfold inS; rw [‹(Builtin.Str.occurrences S y 0 S.length 1).isEmpty = true›]; rfl
                    (try dsimp only)
                    refine ⟨_, _, g, _, rfl, F24, fun q hq => N24 q (.tail _ hq), fun q hq => ⟨(off4.mem q hq).1, (off4.mem q hq).2.2, fun q' => (off4.mem q hq).2.1 (List.mem_singleton.mp q')⟩, rfl, rfl, ?_⟩
                    rw [filt_drop hy hp]
                    exact hst
                  · have hp : inS S y = true := by unfold inS; rw [‹(Builtin.Str.occurrences S y 0 S.length 1).isEmpty = false›]; rfl
                    (try dsimp only)
                    refine ⟨_, _, g, _, rfl, F24, fun q hq => N24 q (.tail _ hq), fun q hq => ⟨(off4.mem q hq).1, (off4.mem q hq).2.2, fun q' => (off4.mem q hq).2.1 (List.mem_singleton.mp q')⟩, rfl, rfl, ?_⟩
                    rw [filt_keep hy hp]
                    exact strs_snocD hst _ _
                case doneS =>
                  rintro XL h17 tk17 ys7 hst F24 N24 offX htk17
                  have hxs7 : StrsAre ys7 ((bareOf tb x).filter (inS S)) := by
                    have e : (bareOf tb x).take ys4.toArray.size = bareOf tb x := by rw [List.size_toArray, hbr.len_eq, List.take_length]
                    rw [e] at hst
                    exact hst
                  clear hst
                  repeat' ((fail_if_success (with_reducible show wpAny _ _ (compareOp CmpOp.NotEq _ _) _ _ _)); (first | (k_unfold; (try dsimp only)) | (k_end; wrow_close) | walk1 | (dsimp only; walk1)))
                  rename News _ _ _ _ => N25
                  rename Fr _ _ _ _ => F25
                  refine ne_nil N25 (.tail _ (.head _)) hxs7 (fun z hz => bare_ok (hsok x (List.mem_of_getElem? hx2)) z (List.mem_filter.mp hz).1) (.head _) (Nat.le_of_ble_eq_true rfl) ?_
                  repeat' ((fail_if_success (with_reducible show CEnd _ _ _ _ _ _ _ _ _ _)); (first | (k_unfold; (try dsimp only)) | (k_end; wrow_close) | walk1 | (dsimp only; walk1)))
                  refine ⟨_, _, g, _, rfl, F25, fun q hq => N25 q (.tail _ (.tail _ (.tail _ ?_))), ?_, rfl, rfl, ?_⟩
                  · exact hq
                  · exact off
                  · rw [List.take_add_one, hS, List.map_append, hb]; rfl
              case doneC =>
                rintro CL h16 tk16 ys6 hb F23 N23 offC htk16
                have hb2 : ys6 = [Value.bool (!((bareOf tb x).filter (inS setA)).isEmpty), Value.bool (!((bareOf tb x).filter (inS setB)).isEmpty)] := hb
                subst hb2
                repeat' ((fail_if_success (with_reducible show wpAny _ _ (call (Value.builtin "list.append") _) _ _ _)); (first | (k_unfold; (try dsimp only)) | (k_end; wrow_close) | walk1 | (dsimp only; walk1)))
                rename News _ _ _ _ => N24
                rename Fr _ _ _ _ => F24
                rename_i Ar hh3 ltAr
                have lAr : @LT.lt Nat _ I2 Ar ∧ @LT.lt Nat _ Rw Ar ∧ @LT.lt Nat _ (L1 + 1 + 1) Ar := ⟨ltAr.2.2.2.2.1, ltAr.2.2.2.2.2.1, ltAr.2.2.2.2.2.2.1⟩
                have lAr2 : @LT.lt Nat _ (L1 + 1) Ar ∧ AllLt Ar rest2 := ltAr.2.2.2.2.2.2.2
                have N25 : News g L1 hh3 ((Rw, LCg.lst qs) :: (Ar, W.listOf ((dueBools tb x).map Value.bool).toArray 0) :: (I2, it2) :: (L1 + 1 + 1, oB4) :: (L1 + 1, oT9) :: rest2) := fun q hq => N24 q (by first | (revert q; (repeat (first | exact sub_r | exact sub_n | (refine sub_c ?_ ?_; focus ((repeat (first | exact List.Mem.head _ | refine List.Mem.tail _ ?_)); done)) | refine sub_t ?_)); done))
                have hap : ∀ p ∈ ((Ar, W.listOf ((dueBools tb x).map Value.bool).toArray 0) :: (I2, it2) :: (L1 + 1 + 1, oB4) :: (L1 + 1, oT9) :: rest2), @Ne Nat p.1 Rw := by
                  exact neAll_all (nall_cons (Nat.ne_of_gt lAr.2.1) (nall_cons (Ne.symm (hn10 (Rw, LCg.lst qs) (.head _))) (nall_cons (nRw.1) (nall_cons (nRw.2.1) (nRw.2.2)))))
                refine append_head (its := qs.toArray) (n := qs.length) F24 N25 hap ?_ ?hszA
                case hszA =>
                  have e8 := hrdw.len
                  rw [List.size_toArray, e8, List.length_map]
                  exact Nat.le_trans (List.length_take_le' _ _) (Nat.le_trans hcount (Nat.le_of_ble_eq_true rfl))
                intro h19 F19b N19b
                repeat' ((fail_if_success (with_reducible show TurnEndG _ _ _ _ _ _ _ _)); (first | (k_unfold; (try dsimp only)) | (k_end; wrow_close) | walk1 | (dsimp only; walk1)))
                subst hr2
                refine ⟨h19, _, _, g, _, rfl, F19b, ?_, ?_, rfl, qs ++ [.ref Ar], oB4, some (.ref BL), _, (Ar, W.listOf ((dueBools tb x).map Value.bool).toArray 0) :: rest4, form3 rfl rfl rfl, rfl, dB4, ?_, ?_, ?_, ?_, ?_, ?_, ?_⟩
                · rw [← LCg.lst_snoc]
                  exact fun q hq => N19b q (by first | (revert q; (repeat (first | exact sub_r | exact sub_n | (refine sub_c ?_ ?_; focus ((repeat (first | exact List.Mem.head _ | refine List.Mem.tail _ ?_)); done)) | refine sub_t ?_)); done) | (simp only [List.mem_cons] at hq ⊢; rcases hq with h | h | h | h | h | h | h | h <;> simp [h]))
                · exact neAll_all (nall_cons (hn10 (Rw, LCg.lst qs) (.head _)) (nall_cons (hn10 (L1 + 1 + 1, oB) (.tail _ (.head _))) (nall_cons (hn10 (L1 + 1, oT9) (.tail _ (.tail _ (.head _)))) (nall_cons (hn10 _ (.tail _ (.tail _ (.tail _ (.head _))))) (nall_cons (hn10 _ (.tail _ (.tail _ (.tail _ (.tail _ (.head _)))))) (nall_cons (Nat.ne_of_gt lAr.1) (neAll_of fun p hp => hn10 p (.tail _ (.tail _ (.tail _ (.tail _ (.tail _ hp))))))))))))
                · exact nall_cons nRw.1 (nall_cons nRw.2.1 (nall_cons nRw.2.2.1 (nall_cons nRw.2.2.2.1 (nall_cons (Nat.ne_of_gt lAr.2.1) nRw.2.2.2.2))))
                · exact nall_cons nBw.1 (nall_cons nBw.2.1 (nall_cons nBw.2.2.1 (nall_cons (Nat.ne_of_gt lAr.2.2) nBw.2.2.2)))
                · exact nall_cons nTw.1 (nall_cons nTw.2.1 (nall_cons (Nat.ne_of_gt lAr2.1) nTw.2.2))
                · exact nall_cons nRr.1 (nall_cons (Nat.ne_of_gt lAr2.2.1) nRr.2)
                · exact nall_cons (Nat.ne_of_gt lAr2.2.2.1) nIr
                · exact fun q hq => .tail _ (hfix2 q hq)
                · rw [List.take_add_one, hx2, List.map_append]
                  exact (hrdw.mono fun q hq => .tail _ hq).snoc (.list (k := 0) (ys := (dueBools tb x).map Value.bool) (.head _) (RDs.boolsL _))
end
section
open PySem.Calls PySem.Spec

/-- the law's end: True, the ground as it was but for the tables -/
inductive EndB (tabs : List (Addr × Addr)) (s₁ : Shared) (r : Result) (s' : Shared) : Prop
  | mk (e1 : r = .ok (.ret (.bool true))) (e2 : (∀ b o, (ghostOf s₁.heap tabs).get? b = some o → s'.heap.get? b = some o)) (e3 : s'.os = s₁.os) (e4 : AllBare s'.gens) (e5 : GrownAll tabs s'.heap) : EndB tabs s₁ r s'
theorem end_law {M : Model} {A : Around} {cd : Code} {s s₁ : Shared} {cw : ClaimW} {cl : Str → Option Addr} {mean : ExcName → Option Value} {args : List WData} {tabs : List (Addr × Addr)} (hT : TabsAt tabs s₁.heap) (hr : ∀ a x, cw.raises a x = false) (hp : cw.post args (.bool true) args = true)
    (h : codeAny M A cd (EndB tabs s₁) s) : codeAny M A cd (GoodWG cw cl mean args s₁) s :=
  codeAny_mono h fun r s' ⟨hres, hk, hos, hg, hgr⟩ => by
    have keep : ∀ b o, b ∉ tabs.map (·.2) → s₁.heap.get? b = some o → s'.heap.get? b = some o := fun b o hb e => hk b o (ghost_ne e hb)
    have grown : ∀ b o, b ∈ tabs.map (·.2) → s₁.heap.get? b = some o → isCodeTable s₁.heap b ∧ o = tabObj #[] ∧ ∃ ps, s'.heap.get? b = some (tabObj ps) := fun b o hb e => by
      obtain ⟨q, hq, rfl⟩ := List.mem_map.mp hb
      have e2 := (hT q hq).2
      rw [e] at e2
      exact ⟨((hT q hq).1.tab (hT q hq).2).isCodeTable, Option.some.inj e2, hgr.get q hq⟩
    refine ⟨.inl ⟨.bool true, .bool true, [], hres, hr args, .bool true, hp, fun _ => ⟨List.nodup_nil, fun a ha => nomatch ha⟩⟩, ⟨fun b o e => ?_, fun b o e => ?_⟩, hos, hg⟩
    · by_cases hb : b ∈ tabs.map (·.2)
      · obtain ⟨ht, rfl, ps, hP⟩ := grown b o hb e
        exact .inr (.inl ⟨ht, rfl, #[], ps, rfl, by rw [Array.empty_append]; exact hP⟩)
      · exact .inl (keep b o hb e)
    · by_cases hb : b ∈ tabs.map (·.2)
      · obtain ⟨_, _, ps, hP⟩ := grown b o hb e
        exact ⟨_, hP⟩
      · exact ⟨o, keep b o hb e⟩
noncomputable abbrev IntTxtJ (g₁ : Heap) (nw₁ : Led) (f : Int → Str) (ns : List Int) : Nat → List Value → Heap → Led → Prop := Stay g₁ nw₁ fun i ys => StrsAre ys ((ns.take i).map f)
noncomputable abbrev fixedS : List Str := [Str.ofString "&lt;", Str.ofString "<\"", Str.ofString ">\x0d", Str.ofString "\n\t", Str.ofString ""]
theorem item_ok (i : Int) : (Txt.item signsS i).length = 1 ∧ PyData.strOk (Txt.item signsS i) = true := by
  refine ⟨rfl, ?_⟩
  unfold Txt.item PyData.strOk
  have h : ∀ c : Nat, c < 0x110000 → ((#[c] : Array Nat).all fun x => decide (x < 0x110000)) = true := by
    intro c hc
    simpa using hc
  refine h _ ?_
  unfold Txt.charAt
  cases seqIndex? i signsS.length with
  | none => decide
  | some j =>
    show (signsS.cps[j]?).getD 0 < _
    by_cases hj : j < signsS.cps.size
    · rw [Array.getElem?_eq_getElem hj]
      have := List.all_eq_true.mp (show (signsS.cps.toList.all fun x => decide (x < 0x110000)) = true from by decide +kernel) (signsS.cps[j]) (by simp)
      simpa using this
    · rw [Array.getElem?_eq_none (by omega)]
      decide
theorem word_toList (n : Int) : (wordOf n).cps.toList = (wordParts n).flatMap fun s => s.cps.toList := join_empty _
theorem word_parts (n : Int) : ∀ p ∈ wordParts n, p.length = 1 ∧ PyData.strOk p = true := by
  intro p hp
  unfold wordParts at hp
  have hp := List.mem_of_mem_take hp
  simp only [List.mem_cons, List.not_mem_nil, or_false] at hp
  rcases hp with rfl | rfl | rfl <;> exact item_ok _
theorem flat_len {l : List Str} (h : ∀ p ∈ l, p.length = 1) : (l.flatMap fun s => s.cps.toList).length = l.length := by
  induction l with
  | nil => rfl
  | cons s l ih =>
    rw [List.flatMap_cons, List.length_append, ih fun p hp => h p (.tail _ hp), List.length_cons]
    have h1 : s.cps.toList.length = 1 := by simpa [Str.length] using h s (.head _)
    omega
theorem word_len (n : Int) : (wordOf n).length ≤ 4 := by
  have e : (wordOf n).length = (wordOf n).cps.toList.length := by simp [Str.length]
  rw [e, word_toList, flat_len fun p hp => (word_parts n p hp).1]
  have : (wordParts n).length ≤ 3 := List.length_take_le' _ _
  omega
theorem strOk_list {x : Str} : PyData.strOk x = true ↔ ∀ c ∈ x.cps.toList, c < 0x110000 := by
  unfold PyData.strOk
  rw [Array.all_eq_true_iff_forall_mem]
  simp
theorem word_ok (n : Int) : PyData.strOk (wordOf n) = true := by
  rw [strOk_list, word_toList]
  intro c hc
  obtain ⟨p, hp, hc⟩ := List.mem_flatMap.mp hc
  exact strOk_list.mp (word_parts n p hp).2 c hc
theorem strs_app : ∀ {vs ws : List Value} {xs ys : List Str}, StrsAre vs xs → StrsAre ws ys → StrsAre (vs ++ ws) (xs ++ ys)
  | _, _, _, _, .nil, h => h
  | _, _, _, _, .cons x t r, h => .cons x t (strs_app r h)
theorem join_line : Txt.join (Str.ofString " ") (allPats.map quoted) = lineS := by decide +kernel
theorem pats_quo : ∀ y ∈ allPats, QuoOk y := by
  intro y hy
  simp only [allPats, List.mem_cons, List.not_mem_nil, or_false] at hy
  exact hy
theorem texts_len (ns : List Int) : ∀ x ∈ fixedS ++ ns.map wordOf, x.length ≤ 4 := by
  intro x hx
  rcases List.mem_append.mp hx with hx | hx
  · exact (show ∀ x ∈ fixedS, x.length ≤ 4 from by decide +kernel) x hx
  · obtain ⟨n, _, rfl⟩ := List.mem_map.mp hx; exact word_len n
theorem texts_ok (ns : List Int) : ∀ x ∈ fixedS ++ ns.map wordOf, PyData.strOk x = true := by
  intro x hx
  rcases List.mem_append.mp hx with hx | hx
  · exact (show ∀ x ∈ fixedS, PyData.strOk x = true from by decide +kernel) x hx
  · obtain ⟨n, _, rfl⟩ := List.mem_map.mp hx; exact word_ok n
/-- what the writers told is what was due -/
theorem row_eq {wf : Str → Str} {tb : List (Str × Str)} (h : ∀ x, wf x = dueText tb x ∧ (allParts.map fun ps => takesB (wf x) ps) = dueBools tb x) (ts : List Str) : toldRow wf ts = dueRow tb ts := by
  unfold toldRow dueRow
  have e1 : (ts.map fun x => Dt.str (wf x)) = ts.map fun x => Dt.str (dueText tb x) := by
    congr 1; funext x; rw [(h x).1]
  have e2 : (ts.map fun x => Dt.list (allParts.map fun ps => Dt.bool (takesB (wf x) ps))) = ts.map fun x => Dt.list ((dueBools tb x).map Dt.bool) := by
    congr 1; funext x; rw [← (h x).2, List.map_map]; rfl
  rw [e1, e2]
theorem rows_eq (ts : List Str) : toldRows ts = dueRows ts := by
  show [_, _, _, _, _] = [_, _, _, _, _]
  rw [row_eq p_cdata, row_eq p_attrib, row_eq p_html, row_eq p_plain, row_eq p_named]
theorem esc_ok {T : Tab} (hr : ∀ r ∈ T.map (·.2), r ∈ allRefs) {l : List Nat} (h : ∀ c ∈ l, c < 0x110000) : ∀ c ∈ esc T l, c < 0x110000 := by
  intro c hc
  obtain ⟨k, hk, hc⟩ := List.mem_flatMap.mp hc
  unfold Tab.of at hc
  cases hq : T.lookup k with
  | some r =>
    rw [hq] at hc
    exact (show ∀ r ∈ allRefs, ∀ c ∈ r, c < 0x110000 from by decide +kernel) r (hr r (lookup_mem hq)) c hc
  | none =>
    rw [hq] at hc
    rw [List.mem_singleton.mp hc]
    exact h k hk
theorem dueRow_ok {T : Tab} (hr : ∀ r ∈ T.map (·.2), r ∈ allRefs) {ts : List Str} (h : ∀ x ∈ ts, PyData.strOk x = true) : Dt.ok 8 (dueRow (tabS T) ts) = true := by
  have e1 : (ts.map fun x => Dt.str (dueText (tabS T) x)).all (Dt.ok 6) = true := by
    rw [List.all_eq_true]
    intro d hd
    obtain ⟨x, hx, rfl⟩ := List.mem_map.mp hd
    show PyData.strOk _ = true
    rw [strOk_list, due_text]
    exact esc_ok hr (strOk_list.mp (h x hx))
  have e2 : (ts.map fun x => Dt.list ((dueBools (tabS T) x).map Dt.bool)).all (Dt.ok 6) = true := by
    rw [List.all_eq_true]
    intro d hd
    obtain ⟨x, hx, rfl⟩ := List.mem_map.mp hd
    rfl
  show ([Dt.list _, Dt.list _, Dt.bool true, Dt.bool true].all (Dt.ok 7)) = true
  show (Dt.ok 7 (Dt.list _) && (Dt.ok 7 (Dt.list _) && (true && (true && true)))) = true
  rw [show Dt.ok 7 (Dt.list (ts.map fun x => Dt.str (dueText (tabS T) x))) = true from e1, show Dt.ok 7 (Dt.list (ts.map fun x => Dt.list ((dueBools (tabS T) x).map Dt.bool))) = true from e2]
  rfl
theorem dueRows_ok {ts : List Str} (h : ∀ x ∈ ts, PyData.strOk x = true) : Dt.ok 9 (.list (dueRows ts)) = true := by
  show ([dueRow t_cdata ts, dueRow t_attrib ts, dueRow t_html ts, dueRow t_plain ts, dueRow t_named ts].all (Dt.ok 8)) = true
  rw [s_cdata, s_attrib, s_html, s_plain, s_named]
  simp only [List.all_cons, List.all_nil, Bool.and_true, dueRow_ok (T := n_cdata) (by decide +kernel) h, dueRow_ok (T := n_attrib) (by decide +kernel) h, dueRow_ok (T := n_html) (by decide +kernel) h, dueRow_ok (T := n_plain) (by decide +kernel) h, dueRow_ok (T := n_named) (by decide +kernel) h]
theorem law_holds : PySem.Challenge.rw_ik0168_01.Holds := by
  w_on
  refine holds_law said fun said' => ?_
  refine holds_open (q := vw) (loose := lo14) (Xt := xtT) (XP := XL vw []) (Yf := Hook.obs (kmHook hd.heap_1 hdAs hdAs_is [105])) (Ya := Hook.val (kmHook hd.heap_1 hdAs hdAs_is [105])) (YP := Hook.says (kmHook hd.heap_1 hdAs hdAs_is [105])) (N := 13554) left_hd (Hook.of (kmHook hd.heap_1 hdAs hdAs_is [105])) (Hook.keeps (kmHook hd.heap_1 hdAs hdAs_is [105])) (fun s e => xl_of s (Bool.and_eq_true_iff.mp e).1) XL.keeps (by rfl) (by rfl) (by rfl) (fun s e => recFacts_of (Bool.and_eq_true_iff.mp e).2) (by rfl) (by assumption) (by decide +kernel) ⟨rfl, rfl, rfl, rfl, rfl, by decide +kernel⟩ ?hw ?hc
  case hw => w_witness2
  clear said'
  intro w s₀ s₁ mg mb G Y fa o pm cd doc dV kV ho hd' hcd hD hmg hg args vals as hpre hlay hrd hwl hlo
  have KX := km_in_of Y
  km_tabs Y
  have X := (Ground.X G).1
  have V := (Ground.X G).2
  refine Ground.open G ?_
  intro T B D TE TW
  try (refine guard_noD D (by decide +kernel) ?_; clear D)
  km_lay T hmg ho hd' cd
  have hT10 : TabsAt [(109, 105), (816, 812)] s₁.heap := List.forall_mem_cons.mpr ⟨hT9 _ (.head _), List.forall_mem_cons.mpr ⟨tab_of (x := PySem.Str.ofString "join") (c := 816) (P := 812) T KX rfl (by kernel_rfl), fun _ h => nomatch h⟩⟩
  clear hT9
  have hT9 := hT10
  clear hT10
  clear hmg
  wrow_args hpre hlay hrd hwl hlo
  all_goals (
    first | refine callC_kw (enter_call ?_) | refine enter_call ?_
    w_top on
    refine end_law hT9 (fun _ _ => rfl) ?hpost ?_
    case hpost => exact postW_of (X := (true == true)) rfl (w_eq_bool (w_res rfl) w_lit) rfl
    w_call any ho hd' hcd hD T F
    clear hd'
    kn_ghosts F T
    k_drop
    skip)
  (try k_fold)
  rename News _ _ _ _ => N1
  rename Fr _ _ _ _ => F1
  rename Frag.In _ (ghostOf _ _) => XG
  rename Top _ _ _ _ _ (ghostOf _ _) => TG
  rename Below _ _ _ _ => BG
  rename IntsAre _ _ => hI
  rename List Int => ns
  repeat' ((fail_if_success (with_reducible show wpAny _ _ (eval (Expr.ListComp _ _ _ _) _) _ _ _)); (first | (k_unfold; (try dsimp only)) | (k_end; wrow_close) | walk1 | (dsimp only; walk1)))
  rename News _ _ _ _ => N2
  rename Fr _ _ _ _ => F2
  rename_i A1 hh1 l1A
  refine comp_val (cl := []) (by with_unfolding_all rfl) rfl (by decide) ?_
  repeat' ((fail_if_success (with_reducible show IterThen _ _ _ _ _ _ _ _ _ _ _ _ _ _ _ _)); (first | (k_unfold; (try dsimp only)) | (k_end; wrow_close) | walk1 | (dsimp only; walk1)))
  rename News _ _ _ _ => N3
  rename Fr _ _ _ _ => F3
  rename_i Ds vs3 hh2 hI3 hC3 hL3 l1D
  refine from_list_L (items := vs3.toArray) (IntTxtJ _ _ wordOf (ns.take 3)) rfl F3 N3 ?hsz3 ⟨rfl, rfl, .nil⟩ (src_stay ?hsrc3) (by decide) rfl rfl (turn_hide ?turn3) (doneV (done_stay ?done3))
  case hsz3 => rw [List.size_toArray, hI3.length, hC3]; exact Nat.le_trans (Nat.min_le_left _ _) (Nat.le_of_ble_eq_true rfl)
  case hsrc3 =>
    exact .inr ⟨_, .head _, rfl, _, rfl⟩
  case turn3 =>
    rintro nwA hinA i3 v3 I3 it3 C oC m5 D3 ys5 h15 tk15 E' hi hP hoC hxs hst F17 N17 off ne htk15 hyl
    clear hinA
    obtain ⟨k, t, rfl, hk⟩ := IntsAre.at hI3 i3 v3 (by simpa [ItemAt] using hP)
    refine wpAny_tests_nil ?_
    simp only [if_true]
    repeat' ((fail_if_success (with_reducible show wpAny _ _ (call (Value.ref 839) _) _ _ _)); (first | (k_unfold; (try dsimp only)) | (k_end; wrow_close) | walk1 | (dsimp only; walk1)))
    refine c_word w _ _ _ _ _ k t _ _ _ _ _ _ _ _ _ _ _ _ _ _ _ _ _ BG F17 XG N17 TG rfl ?kd ?ku ?kt ?kR
    case kd => exact Nat.le_of_ble_eq_true rfl
    case ku => exact Nat.le_of_ble_eq_true rfl
    case kt => exact Nat.lt_of_lt_of_le (Nat.succ_pos _) htk15
    case kR =>
      rintro v5 tl5 h16 tk16 hle16 F18 N18 ⟨rfl, t5, rfl⟩
      (try dsimp only)
      (try k_unfold)
      (try dsimp only)
      refine ⟨h16, tk16, _, _, rfl, F18, N18, fun q hq => ⟨(off.mem q hq).1, (off.mem q hq).2.2, fun q' => (off.mem q hq).2.1 (List.mem_singleton.mp q')⟩, rfl, rfl, ?_⟩
      rw [List.take_add_one, hk, List.map_append]
      exact strs_snocD hst _ _
  case done3 =>
    rintro WL h15 tk15 ys5 hst F17 N17 offW htk15
    have hys5 : StrsAre ys5 ((ns.take 3).map wordOf) := by
      have e : (ns.take 3).take vs3.toArray.size = ns.take 3 := by rw [List.size_toArray, hI3.length, List.take_length]
      rw [e] at hst
      exact hst
    clear hst
    repeat' ((fail_if_success (with_reducible show wpAny _ _ (binaryOp _ _ _) _ _ _)); (first | (k_unfold; (try dsimp only)) | (k_end; wrow_close) | walk1 | (dsimp only; walk1)))
    refine kmk_add_lit F17 N17 ⟨_, (N17 _ (.tail _ (.tail _ (.head _)))).1, rfl, _, rfl⟩ ⟨_, (N17 _ (.head _)).1, rfl, _, rfl⟩ rfl ?_ ?hzb
    case hzb =>
      show 5 + ys5.length ≤ _
      rw [hys5.len_eq, List.length_map, hC3]
      exact Nat.le_trans (Nat.add_le_add_left (Nat.min_le_left _ _) _) (Nat.le_of_ble_eq_true rfl)
    intro Tx h16 F18 N18 ltT
    repeat' ((fail_if_success (with_reducible show wpAny _ _ (call (Value.ref 817) _) _ _ _)); (first | (k_unfold; (try dsimp only)) | (k_end; wrow_close) | walk1 | (dsimp only; walk1)))
    rename News _ _ _ _ => N19
    rename Fr _ _ _ _ => F19
    rename_i Pt hh3 ltP hh4
    have ltP' : @LT.lt Nat _ Tx Pt ∧ @LT.lt Nat _ 105 Pt ∧ @LT.lt Nat _ 812 Pt := ⟨ltP.1, ltP.2.2.2.2.1, ltP.2.2.2.2.2⟩
    have ltT' : @LT.lt Nat _ 105 Tx ∧ @LT.lt Nat _ 812 Tx := ⟨ltT _ (.tail _ (.tail _ (.tail _ (.head _)))), ltT _ (.tail _ (.tail _ (.tail _ (.tail _ (.head _)))))⟩
    obtain ⟨xs, pv, hxs, hpv, N20⟩ : ∃ xs pv : List Value, StrsAre xs (fixedS ++ (ns.take 3).map wordOf) ∧ StrsAre pv allPats ∧ News (ghostOf s₁.heap [(109, 105), (816, 812)]) s₁.heap.objs.size hh4 [(812, tabObj #[]), (Pt, W.listOf pv.toArray 0), (Tx, W.listOf xs.toArray 0), (105, tabObj #[])] := by
      have key : ∀ {xs pv : List Value}, StrsAre xs (fixedS ++ (ns.take 3).map wordOf) → StrsAre pv allPats → News (ghostOf s₁.heap [(109, 105), (816, 812)]) s₁.heap.objs.size hh4 [(812, tabObj #[]), (Pt, W.listOf pv.toArray 0), (Tx, W.listOf xs.toArray 0), (105, tabObj #[])] →
          ∃ xs pv : List Value, StrsAre xs (fixedS ++ (ns.take 3).map wordOf) ∧ StrsAre pv allPats ∧ News (ghostOf s₁.heap [(109, 105), (816, 812)]) s₁.heap.objs.size hh4 [(812, tabObj #[]), (Pt, W.listOf pv.toArray 0), (Tx, W.listOf xs.toArray 0), (105, tabObj #[])] := fun h1 h2 h3 => ⟨_, _, h1, h2, h3⟩
      exact key (strs_app (.cons _ _ (.cons _ _ (.cons _ _ (.cons _ _ (.cons _ _ .nil))))) hys5) (.cons _ _ (.cons _ _ (.cons _ _ (.cons _ _ (.cons _ _ .nil)))))
        (List.forall_mem_cons.mpr ⟨N19 _ (.tail _ (.tail _ (.tail _ (.tail _ (.tail _ (.tail _ (.head _))))))), List.forall_mem_cons.mpr ⟨N19 _ (.head _), List.forall_mem_cons.mpr ⟨N19 _ (.tail _ (.head _)), List.forall_mem_cons.mpr ⟨N19 _ (.tail _ (.tail _ (.tail _ (.tail _ (.tail _ (.head _)))))), fun _ h => nomatch h⟩⟩⟩⟩)
    have lenT := texts_len (ns.take 3)
    have okT := texts_ok (ns.take 3)
    have cntT : (fixedS ++ (ns.take 3).map wordOf).length ≤ 8 := by
      rw [List.length_append, List.length_map, hC3]
      show 5 + min 3 ns.length ≤ 8
      omega
    generalize htsE : fixedS ++ (ns.take 3).map wordOf = ts at hxs lenT okT cntT
    have nP : NeAll 812 [(Pt, W.listOf pv.toArray 0), (Tx, W.listOf xs.toArray 0), (105, tabObj #[])] := ⟨Nat.ne_of_gt ltP'.2.2, Nat.ne_of_gt ltT'.2, by show @Ne Nat 105 812; decide, trivial⟩
    refine c_join w _ _ _ _ _ [(Pt, W.listOf pv.toArray 0), (Tx, W.listOf xs.toArray 0), (105, tabObj #[])] #[] (.inl rfl) nP Pt pv.toArray 0 allPats (.head _) hpv pats_quo (Nat.le_of_ble_eq_true rfl) (by decide +kernel) _ _ _ _ _ _ _ _ _ _ _ _ _ _ _ _ BG F19 XG N20 TG rfl ?kd1 ?ku1 ?kt1 (.of_eq hg) (ghost_code hT9).2.1 ?kR1
    case kd1 => exact Nat.le_of_ble_eq_true rfl
    case ku1 => exact Nat.le_of_ble_eq_true rfl
    case kt1 => exact Nat.succ_pos _
    case kR1 =>
      rintro t1 ⟨hj, gj, dj, tj, oj⟩ tb2 hle2 hos2 hg2 htb2 F21 N21
      dsimp only at hle2 hos2 hg2 F21 N21
      rw [join_line]
      (try dsimp only)
      repeat' ((fail_if_success (with_reducible show wpAny _ _ (call (Value.ref 810) _) _ _ _)); (first | (k_unfold; (try dsimp only)) | (k_end; wrow_close) | walk1 | (dsimp only; walk1)))
      have htj : 0 < tj := Nat.lt_of_lt_of_le (Nat.succ_pos _) hle2
      refine around_mono (d := 370) (u := 3700) (Nat.le_of_ble_eq_true rfl) (Nat.le_of_ble_eq_true rfl) ?_
      refine c_split w _ _ _ _ _ t1 _ _ _ _ _ _ _ _ _ _ _ _ _ _ _ _ _ _ BG F21 XG N21 TG (fun b hb => nomatch hb) htj ?_
      intro g3 h3 tk3 S ys3 c3 T3 F22 N22 B22 hys3 hS3 htk3
      rw [all_pats] at hys3
      have X3 := XG.keeps B22.stays
      have Tp3 := TG.keeps B22.stays
      (try dsimp only)
      repeat' ((fail_if_success (with_reducible show wpAny _ _ (compareOp CmpOp.Eq _ _) _ _ _)); (first | (k_unfold; (try dsimp only)) | (k_end; wrow_close) | walk1 | (dsimp only; walk1)))
      refine eq_RD (d := .list (allPats.map .str)) (n₁ := [(S, lstO ys3 c3)]) (n₂ := [(Pt, W.listOf pv.toArray 0)]) N22 (.list (k := c3) (ys := ys3) (.head _) (RDs.strs hys3)) (fun q hq => by rw [List.mem_singleton.mp hq]; exact .head _) (.list (k := 0) (ys := pv) (.head _) (RDs.strs hpv)) (fun q hq => by rw [List.mem_singleton.mp hq]; simp) (by decide +kernel) (Nat.le_of_ble_eq_true rfl) ?_
      repeat' ((fail_if_success (with_reducible show wpAny _ _ (call (Value.ref 817) _) _ _ _)); (first | (k_unfold; (try dsimp only)) | (k_end; wrow_close) | walk1 | (dsimp only; walk1)))
      have N23 : News g3 s₁.heap.objs.size h3 [(812, tabObj tb2), (Pt, W.listOf pv.toArray 0), (Tx, W.listOf xs.toArray 0), (105, tabObj #[])] := fun q hq => N22 q (.tail _ hq)
      refine c_join w _ _ _ _ _ [(Pt, W.listOf pv.toArray 0), (Tx, W.listOf xs.toArray 0), (105, tabObj #[])] tb2 htb2 nP Pt pv.toArray 0 allPats (.head _) hpv pats_quo (Nat.le_of_ble_eq_true rfl) (by decide +kernel) _ _ _ _ _ _ _ _ _ _ _ _ _ _ _ _ B22 F22 X3 N23 Tp3 rfl ?kd2 ?ku2 ?kt2 hg2 ((ghost_code hT9).2.1.keeps B22.stays) ?kR2
      case kd2 => exact Nat.le_of_ble_eq_true rfl
      case ku2 => exact Nat.le_of_ble_eq_true rfl
      case kt2 => exact htk3
      case kR2 =>
        rintro t4 ⟨hj4, gj4, dj4, tj4, oj4⟩ tb4 hle4 hos4 hg4 htb4 F24 N24
        dsimp only at hle4 hos4 hg4 F24 N24
        have htj4 : 0 < tj4 := Nat.lt_of_lt_of_le htk3 hle4
        clear N22 F22 N21 F21 N20 F19 N19
        rw [join_line]
        (try dsimp only)
        repeat' ((fail_if_success (with_reducible show wpAny _ _ (call (Value.ref 856) _) _ _ _)); (first | (k_unfold; (try dsimp only)) | (k_end; wrow_close) | walk1 | (dsimp only; walk1)))
        refine around_mono (d := 360) (u := 3600) (Nat.le_of_ble_eq_true rfl) (Nat.le_of_ble_eq_true rfl) ?_
        refine c_told w _ _ _ _ _ t4 [(812, tabObj tb4), (Pt, W.listOf pv.toArray 0), (Tx, W.listOf xs.toArray 0)] #[] (.inl rfl) ⟨by show @Ne Nat 812 105; decide, Nat.ne_of_gt ltP'.2.1, Nat.ne_of_gt ltT'.1, trivial⟩ Tx xs 0 ts (.tail _ (.tail _ (.head _))) hxs lenT cntT _ _ _ _ _ _ _ _ _ _ _ _ _ _ _ _ _ B22 F24 X3 ?kN4 Tp3 (fun b hb => nomatch hb) XG TG htj4 (ghost_code hT9).1 ?kR4
        case kN4 => exact fun q hq => N24 q (by simp only [List.mem_cons, List.not_mem_nil, or_false] at hq ⊢; rcases hq with h | h | h | h <;> simp [h])
        case kR4 =>
          intro g5 h5 tk5 Rt nw T5 F25 N25 B25 htk5 hRD hm105 hsub
          obtain ⟨tb5, htb5, hm105⟩ := hm105
          have X5 := XG.keeps B25.stays
          have Tp5 := TG.keeps B25.stays
          (try dsimp only)
          repeat' ((fail_if_success (with_reducible show wpAny _ _ (call (Value.ref 861) _) _ _ _)); (first | (k_unfold; (try dsimp only)) | (k_end; wrow_close) | walk1 | (dsimp only; walk1)))
          refine c_due w _ _ _ _ _ Tx xs 0 ts hxs lenT okT cntT nw _ _ _ _ _ _ _ _ _ _ _ _ _ _ _ _ B25 F25 X5 ?kN5 Tp5 rfl ?kd5 ?ku5 ?kt5 ?kR5
          case kN5 =>
            intro q hq
            rcases List.mem_cons.mp hq with rfl | hq
            · exact N25 _ (hsub _ (.tail _ (.tail _ (.head _))))
            · exact N25 q hq
          case kd5 => exact Nat.le_of_ble_eq_true rfl
          case ku5 => exact Nat.le_of_ble_eq_true rfl
          case kt5 => exact htk5
          case kR5 =>
            rintro v tl h6 tk6 hle6 F27 N27 ⟨Rd, rfl, hRDd⟩
            (try dsimp only)
            repeat' ((fail_if_success (with_reducible show wpAny _ _ (compareOp CmpOp.Eq _ _) _ _ _)); (first | (k_unfold; (try dsimp only)) | (k_end; wrow_close) | walk1 | (dsimp only; walk1)))
            refine eq_RD (d := .list (dueRows ts)) (n₁ := nw) (n₂ := tl) N27 ((rows_eq ts) ▸ hRD) (fun q hq => List.mem_append_right _ (.tail _ hq)) hRDd (fun q hq => List.mem_append_left _ hq) (dueRows_ok okT) (Nat.le_of_ble_eq_true rfl) ?_
            repeat' ((fail_if_success (with_reducible show EndB _ _ _ _)); (first | (k_unfold; (try dsimp only)) | (k_end; wrow_close) | walk1 | (dsimp only; walk1)))
            exact ⟨rfl, fun b o e => F27.keep _ _ (B25.stays b o e), hos4.trans hos2, hg4, GrownAt.of N27 (List.mem_append_right _ (.tail _ hm105)), GrownAt.of N27 (List.mem_append_right _ (.tail _ (hsub _ (.head _)))), trivial⟩
end
end Mine
theorem PySem.Challenge.cw_ik0168_01_holds : PySem.Challenge.rw_ik0168_01.Holds :=
  Mine.law_holds
