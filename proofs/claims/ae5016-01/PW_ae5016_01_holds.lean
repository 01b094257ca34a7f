import PyProof.Rows.All
import Wide.All
import OpenK.AllK
import Wide.FinOn
import PySem.Challenge.RW_ae5016_01
set_option maxRecDepth 100000
set_option maxHeartbeats 8000000
set_option linter.all false
set_option Elab.async false
namespace Mine
open PySem PySem.W
def clsBody (i : Nat) : List Stmt := match PySem.Challenge.pw_ae5016_01.main.body[i]? with
  | some (.ClassDef _ _ _ b _ _ _ _ _ _ _) => b
  | _ => []
def fnParams (l : List Stmt) (j : Nat) : Arguments := match l[j]? with
  | some (.FunctionDef _ a _ _ _ _ _ _ _ _) => a
  | _ => default
def fnBody (l : List Stmt) (j : Nat) : List Stmt := match l[j]? with
  | some (.FunctionDef _ _ b _ _ _ _ _ _ _) => b
  | _ => []
def fnScope (l : List Stmt) (j : Nat) : Scope := match l[j]? with
  | some (.FunctionDef _ _ _ _ _ _ s _ _ _) => s
  | _ => default
def o2 (P : Params) : Obj := { cls := Value.none, data := Data.dict #[{ hash := PyData.keyHash P (Str.ofString "\x69mport.loaded._sre"), key := Value.str (Str.ofString "\x69mport.loaded._sre") 183, val := Value.bool true }, { hash := PyData.keyHash P (Str.ofString "class._frozen_importlib.BuiltinImporter"), key := Value.str (Str.ofString "class._frozen_importlib.BuiltinImporter") 185, val := Value.ref 14 }, { hash := PyData.keyHash P (Str.ofString "watched.\x69mport"), key := Value.str (Str.ofString "watched.\x69mport") 206, val := Value.ref 18 }, { hash := PyData.keyHash P (Str.ofString "class._frozen_importlib.ModuleSpec"), key := Value.str (Str.ofString "class._frozen_importlib.ModuleSpec") 216, val := Value.ref 22 }, { hash := PyData.keyHash P (Str.ofString "sys.modules.booked-epoch"), key := Value.str (Str.ofString "sys.modules.booked-epoch") 245, val := Value.int 4 0 }, { hash := PyData.keyHash P (Str.ofString "\x69mport.later-laid._sre"), key := Value.str (Str.ofString "\x69mport.later-laid._sre") 270, val := Value.bool true }, { hash := PyData.keyHash P (Str.ofString "watched.library"), key := Value.str (Str.ofString "watched.library") 272, val := Value.ref 27 }, { hash := PyData.keyHash P (Str.ofString "watched.library-objects"), key := Value.str (Str.ofString "watched.library-objects") 0, val := Value.str (Str.ofString "\x0c\x1e") 0 }, { hash := PyData.keyHash P (Str.ofString "watched.library-deep._sre"), key := Value.str (Str.ofString "watched.library-deep._sre") 273, val := Value.str (Str.ofString "\x04\x00\x00\x0b\x04\x00\x00\x0b\x04\x00\x00\x03\x04\x00\x00\x0b\x08\x04dict\x02") 0 }, { hash := PyData.keyHash P (Str.ofString "\x69mport.loaded._operator"), key := Value.str (Str.ofString "\x69mport.loaded._operator") 285, val := Value.bool true }, { hash := PyData.keyHash P (Str.ofString "sys.modules.landed._operator"), key := Value.str (Str.ofString "sys.modules.landed._operator") 299, val := Value.bool true }, { hash := PyData.keyHash P (Str.ofString "\x69mport.later-laid._operator"), key := Value.str (Str.ofString "\x69mport.later-laid._operator") 363, val := Value.bool true }, { hash := PyData.keyHash P (Str.ofString "watched.library-deep._operator"), key := Value.str (Str.ofString "watched.library-deep._operator") 365, val := Value.str (Str.ofString "\x04\x00\x00\x1d\x04\x00\x00\x1d\x04\x00\x00\x03\x04\x00\x00\x1d\x08\x04dict\x02") 0 }] 13 }
def o3 (P : Params) : Obj := { cls := Value.type "dict", data := Data.dict #[{ hash := PyData.keyHash P (Str.ofString "__name__"), key := Value.str (Str.ofString "__name__") 165, val := Value.str (Str.ofString "law_ae5016_01") 1737 }, { hash := PyData.keyHash P (Str.ofString "__doc__"), key := Value.str (Str.ofString "__doc__") 166, val := Value.none }, { hash := PyData.keyHash P (Str.ofString "__package__"), key := Value.str (Str.ofString "__package__") 167, val := Value.none }, { hash := PyData.keyHash P (Str.ofString "__loader__"), key := Value.str (Str.ofString "__loader__") 168, val := Value.builtin "__main__.__loader__#opaque" }, { hash := PyData.keyHash P (Str.ofString "__spec__"), key := Value.str (Str.ofString "__spec__") 169, val := Value.none }, { hash := PyData.keyHash P (Str.ofString "__annotations__"), key := Value.str (Str.ofString "__annotations__") 170, val := Value.ref 6 }, { hash := PyData.keyHash P (Str.ofString "__builtins__"), key := Value.str (Str.ofString "__builtins__") 171, val := Value.ref 4 }, { hash := PyData.keyHash P (Str.ofString "__file__"), key := Value.str (Str.ofString "__file__") 173, val := Value.str (Str.ofString "/claim/cut.py") 172 }, { hash := PyData.keyHash P (Str.ofString "__cached__"), key := Value.str (Str.ofString "__cached__") 174, val := Value.none }, { hash := PyData.keyHash P (Str.ofString "_sre"), key := Value.str (Str.ofString "_sre") 275, val := Value.ref 12 }, { hash := PyData.keyHash P (Str.ofString "eq"), key := Value.str (Str.ofString "eq") 371, val := Value.builtin "_operator.eq" }, { hash := PyData.keyHash P (Str.ofString "ge"), key := Value.str (Str.ofString "ge") 374, val := Value.builtin "_operator.ge" }, { hash := PyData.keyHash P (Str.ofString "gt"), key := Value.str (Str.ofString "gt") 377, val := Value.builtin "_operator.gt" }, { hash := PyData.keyHash P (Str.ofString "le"), key := Value.str (Str.ofString "le") 380, val := Value.builtin "_operator.le" }, { hash := PyData.keyHash P (Str.ofString "lt"), key := Value.str (Str.ofString "lt") 383, val := Value.builtin "_operator.lt" }, { hash := PyData.keyHash P (Str.ofString "ne"), key := Value.str (Str.ofString "ne") 386, val := Value.builtin "_operator.ne" }, { hash := PyData.keyHash P (Str.ofString "_wall"), key := Value.str (Str.ofString "_wall") 399, val := Value.ref 44 }, { hash := PyData.keyHash P (Str.ofString "_twin_re_1"), key := Value.str (Str.ofString "_twin_re_1") 453, val := Value.ref 49 }, { hash := PyData.keyHash P (Str.ofString "auto_id_field"), key := Value.str (Str.ofString "auto_id_field") 454, val := Value.none }, { hash := PyData.keyHash P (Str.ofString "_Mark"), key := Value.str (Str.ofString "_Mark") 474, val := Value.ref 59 }, { hash := PyData.keyHash P (Str.ofString "NOT_SET"), key := Value.str (Str.ofString "NOT_SET") 475, val := Value.ref 65 }, { hash := PyData.keyHash P (Str.ofString "LIST_KEY"), key := Value.str (Str.ofString "LIST_KEY") 476, val := Value.ref 67 }, { hash := PyData.keyHash P (Str.ofString "JSONPath"), key := Value.str (Str.ofString "JSONPath") 575, val := Value.ref 140 }, { hash := PyData.keyHash P (Str.ofString "DatumInContext"), key := Value.str (Str.ofString "DatumInContext") 670, val := Value.ref 209 }, { hash := PyData.keyHash P (Str.ofString "Root"), key := Value.str (Str.ofString "Root") 741, val := Value.ref 272 }, { hash := PyData.keyHash P (Str.ofString "This"), key := Value.str (Str.ofString "This") 812, val := Value.ref 333 }, { hash := PyData.keyHash P (Str.ofString "Child"), key := Value.str (Str.ofString "Child") 931, val := Value.ref 427 }, { hash := PyData.keyHash P (Str.ofString "Descendants"), key := Value.str (Str.ofString "Descendants") 1030, val := Value.ref 510 }, { hash := PyData.keyHash P (Str.ofString "Fields"), key := Value.str (Str.ofString "Fields") 1210, val := Value.ref 638 }, { hash := PyData.keyHash P (Str.ofString "Index"), key := Value.str (Str.ofString "Index") 1334, val := Value.ref 737 }, { hash := PyData.keyHash P (Str.ofString "_find_array_elements"), key := Value.str (Str.ofString "_find_array_elements") 1340, val := Value.ref 744 }, { hash := PyData.keyHash P (Str.ofString "_update_array_elements"), key := Value.str (Str.ofString "_update_array_elements") 1348, val := Value.ref 751 }, { hash := PyData.keyHash P (Str.ofString "_filter_array_elements"), key := Value.str (Str.ofString "_filter_array_elements") 1354, val := Value.ref 756 }, { hash := PyData.keyHash P (Str.ofString "_create_list_key"), key := Value.str (Str.ofString "_create_list_key") 1362, val := Value.ref 763 }, { hash := PyData.keyHash P (Str.ofString "OPERATOR_MAP"), key := Value.str (Str.ofString "OPERATOR_MAP") 1379, val := Value.ref 764 }, { hash := PyData.keyHash P (Str.ofString "_equality_holds"), key := Value.str (Str.ofString "_equality_holds") 1387, val := Value.ref 771 }, { hash := PyData.keyHash P (Str.ofString "_is_number"), key := Value.str (Str.ofString "_is_number") 1394, val := Value.ref 778 }, { hash := PyData.keyHash P (Str.ofString "_equal"), key := Value.str (Str.ofString "_equal") 1404, val := Value.ref 785 }, { hash := PyData.keyHash P (Str.ofString "_compare"), key := Value.str (Str.ofString "_compare") 1413, val := Value.ref 792 }, { hash := PyData.keyHash P (Str.ofString "_query_to_str"), key := Value.str (Str.ofString "_query_to_str") 1423, val := Value.ref 800 }, { hash := PyData.keyHash P (Str.ofString "Filter"), key := Value.str (Str.ofString "Filter") 1574, val := Value.ref 898 }, { hash := PyData.keyHash P (Str.ofString "Expression"), key := Value.str (Str.ofString "Expression") 1643, val := Value.ref 943 }, { hash := PyData.keyHash P (Str.ofString "_BooleanOperation"), key := Value.str (Str.ofString "_BooleanOperation") 1701, val := Value.ref 990 }, { hash := PyData.keyHash P (Str.ofString "Or"), key := Value.str (Str.ofString "Or") 1736, val := Value.ref 1016 }, { hash := PyData.keyHash P (Str.ofString "_law_rest"), key := Value.str (Str.ofString "_law_rest") 1755, val := Value.ref 1019 }, { hash := PyData.keyHash P (Str.ofString "_law_more"), key := Value.str (Str.ofString "_law_more") 1764, val := Value.ref 1026 }, { hash := PyData.keyHash P (Str.ofString "_law_less"), key := Value.str (Str.ofString "_law_less") 1773, val := Value.ref 1033 }, { hash := PyData.keyHash P (Str.ofString "law"), key := Value.str (Str.ofString "law") 1779, val := Value.ref 1038 }] 48 }
def o4 (P : Params) : Obj := { cls := Value.type "module", dict := some 0 }
def o58 (P : Params) : Obj := { cls := Value.type "dict", data := Data.dict #[{ hash := PyData.keyHash P (Str.ofString "__module__"), key := Value.str (Str.ofString "__module__") 462, val := Value.str (Str.ofString "jsonpath_ng.jsonpath") 400 }, { hash := PyData.keyHash P (Str.ofString "__firstlineno__"), key := Value.str (Str.ofString "__firstlineno__") 466, val := Value.int 9 465 }, { hash := PyData.keyHash P (Str.ofString "__static_attributes__"), key := Value.str (Str.ofString "__static_attributes__") 467, val := Value.ref 57 }, { hash := PyData.keyHash P (Str.ofString "__dict__"), key := Value.str (Str.ofString "__dict__") 469, val := Value.ref 60 }, { hash := PyData.keyHash P (Str.ofString "__weakref__"), key := Value.str (Str.ofString "__weakref__") 471, val := Value.ref 61 }, { hash := PyData.keyHash P (Str.ofString "__doc__"), key := Value.str (Str.ofString "__doc__") 472, val := Value.none }] 4 }
def o59 (P : Params) : Obj := { cls := Value.type "type", data := Data.cls { name := Str.ofString "_Mark", bases := [Value.type "object"], mro := [Value.ref 59, Value.type "object"], ns := 58, qualname := Str.ofString "_Mark" }, slots := #[none, none, some (Value.str (Str.ofString "_Mark") 455), some (Value.str (Str.ofString "_Mark") 463), some (Value.builtin "object.__new__"), some (Value.bool true)] }
def o65 (P : Params) : Obj := { cls := Value.ref 59, dict := some 64 }
def o108 (P : Params) : Obj := { cls := Value.type "code", data := Data.fields #[Value.str (Str.ofString "_update_with_root") 523, Value.str (Str.ofString "JSONPath._update_with_root") 524, Value.str (Str.ofString "/claim/cut.py") 525, Value.int 27 0, Value.int 4 0, Value.int 0 0, Value.int 0 0, Value.int 3 0, Value.ref 103, Value.bool true, Value.int 387 0, Value.ref 104, Value.none, Value.ref 105, Value.ref 106, Value.ref 107, Value.int 530 0, Value.int 27 0, Value.str (Str.ofString "/claim/cut.py") 531] }
def o109 (P : Params) : Obj := { cls := Value.type "function", data := Data.func { name := Str.ofString "_update_with_root", qualname := Str.ofString "JSONPath._update_with_root", params := fnParams (clsBody 9) 4, body := FuncBody.stmts (fnBody (clsBody 9) 4), scope := fnScope (clsBody 9) 4, globals := 3, closure := [], defaults := Value.none, kwdefaults := Value.none, pyModule := Value.str (Str.ofString "jsonpath_ng.jsonpath") 400, code := Value.ref 108 } }
def o139 (P : Params) : Obj := { cls := Value.type "dict", data := Data.dict #[{ hash := PyData.keyHash P (Str.ofString "__module__"), key := Value.str (Str.ofString "__module__") 484, val := Value.str (Str.ofString "jsonpath_ng.jsonpath") 400 }, { hash := PyData.keyHash P (Str.ofString "__firstlineno__"), key := Value.str (Str.ofString "__firstlineno__") 488, val := Value.int 13 487 }, { hash := PyData.keyHash P (Str.ofString "find"), key := Value.str (Str.ofString "find") 496, val := Value.ref 81 }, { hash := PyData.keyHash P (Str.ofString "find_or_create"), key := Value.str (Str.ofString "find_or_create") 504, val := Value.ref 88 }, { hash := PyData.keyHash P (Str.ofString "update"), key := Value.str (Str.ofString "update") 513, val := Value.ref 95 }, { hash := PyData.keyHash P (Str.ofString "update_or_create"), key := Value.str (Str.ofString "update_or_create") 522, val := Value.ref 102 }, { hash := PyData.keyHash P (Str.ofString "_update_with_root"), key := Value.str (Str.ofString "_update_with_root") 532, val := Value.ref 109 }, { hash := PyData.keyHash P (Str.ofString "_filter_with_root"), key := Value.str (Str.ofString "_filter_with_root") 542, val := Value.ref 116 }, { hash := PyData.keyHash P (Str.ofString "filter"), key := Value.str (Str.ofString "filter") 551, val := Value.ref 123 }, { hash := PyData.keyHash P (Str.ofString "child"), key := Value.str (Str.ofString "child") 559, val := Value.ref 130 }, { hash := PyData.keyHash P (Str.ofString "make_datum"), key := Value.str (Str.ofString "make_datum") 567, val := Value.ref 137 }, { hash := PyData.keyHash P (Str.ofString "__static_attributes__"), key := Value.str (Str.ofString "__static_attributes__") 568, val := Value.ref 138 }, { hash := PyData.keyHash P (Str.ofString "__dict__"), key := Value.str (Str.ofString "__dict__") 570, val := Value.ref 141 }, { hash := PyData.keyHash P (Str.ofString "__weakref__"), key := Value.str (Str.ofString "__weakref__") 572, val := Value.ref 142 }, { hash := PyData.keyHash P (Str.ofString "__doc__"), key := Value.str (Str.ofString "__doc__") 573, val := Value.none }] 4 }
def o140 (P : Params) : Obj := { cls := Value.type "type", data := Data.cls { name := Str.ofString "JSONPath", bases := [Value.type "object"], mro := [Value.ref 140, Value.type "object"], ns := 139, qualname := Str.ofString "JSONPath", subclasses := [Value.ref 272, Value.ref 333, Value.ref 427, Value.ref 510, Value.ref 638, Value.ref 737, Value.ref 898, Value.ref 943, Value.ref 990] }, slots := #[none, none, some (Value.str (Str.ofString "JSONPath") 477), some (Value.str (Str.ofString "JSONPath") 485), some (Value.builtin "object.__new__"), some (Value.bool true)] }
def o157 (P : Params) : Obj := { cls := Value.type "code", data := Data.fields #[Value.str (Str.ofString "wrap") 588, Value.str (Str.ofString "DatumInContext.wrap") 589, Value.str (Str.ofString "/claim/cut.py") 590, Value.int 50 0, Value.int 2 0, Value.int 0 0, Value.int 0 0, Value.int 3 0, Value.ref 152, Value.bool true, Value.int 387 0, Value.ref 153, Value.none, Value.ref 154, Value.ref 155, Value.ref 156, Value.int 593 0, Value.int 50 0, Value.str (Str.ofString "/claim/cut.py") 594] }
def o158 (P : Params) : Obj := { cls := Value.type "function", data := Data.func { name := Str.ofString "wrap", qualname := Str.ofString "DatumInContext.wrap", params := fnParams (clsBody 10) 0, body := FuncBody.stmts (fnBody (clsBody 10) 0), scope := fnScope (clsBody 10) 0, globals := 3, closure := [], defaults := Value.none, kwdefaults := Value.none, pyModule := Value.str (Str.ofString "jsonpath_ng.jsonpath") 400, annotations := some 161, code := Value.ref 157 } }
def o160 (P : Params) : Obj := { cls := Value.type "classmethod", dict := some 159, data := Data.fields #[Value.ref 158, Value.bool false] }
def o162 (P : Params) : Obj := { cls := Value.type "tuple", data := Data.seq #[Value.none, Value.none] }
def o168 (P : Params) : Obj := { cls := Value.type "code", data := Data.fields #[Value.str (Str.ofString "__init__") 608, Value.str (Str.ofString "DatumInContext.__init__") 609, Value.str (Str.ofString "/claim/cut.py") 610, Value.int 57 0, Value.int 4 0, Value.int 0 0, Value.int 0 0, Value.int 3 0, Value.ref 163, Value.bool true, Value.int 387 0, Value.ref 164, Value.none, Value.ref 165, Value.ref 166, Value.ref 167, Value.int 615 0, Value.int 57 0, Value.str (Str.ofString "/claim/cut.py") 616] }
def o169 (P : Params) : Obj := { cls := Value.type "function", data := Data.func { name := Str.ofString "__init__", qualname := Str.ofString "DatumInContext.__init__", params := fnParams (clsBody 10) 1, body := FuncBody.stmts (fnBody (clsBody 10) 1), scope := fnScope (clsBody 10) 1, globals := 3, closure := [], defaults := Value.ref 162, kwdefaults := Value.none, pyModule := Value.str (Str.ofString "jsonpath_ng.jsonpath") 400, code := Value.ref 168 } }
def o175 (P : Params) : Obj := { cls := Value.type "code", data := Data.fields #[Value.str (Str.ofString "value") 618, Value.str (Str.ofString "DatumInContext.value") 619, Value.str (Str.ofString "/claim/cut.py") 620, Value.int 64 0, Value.int 1 0, Value.int 0 0, Value.int 0 0, Value.int 3 0, Value.ref 170, Value.bool true, Value.int 387 0, Value.ref 171, Value.none, Value.ref 172, Value.ref 173, Value.ref 174, Value.int 622 0, Value.int 64 0, Value.str (Str.ofString "/claim/cut.py") 623] }
def o176 (P : Params) : Obj := { cls := Value.type "function", data := Data.func { name := Str.ofString "value", qualname := Str.ofString "DatumInContext.value", params := fnParams (clsBody 10) 2, body := FuncBody.stmts (fnBody (clsBody 10) 2), scope := fnScope (clsBody 10) 2, globals := 3, closure := [], defaults := Value.none, kwdefaults := Value.none, pyModule := Value.str (Str.ofString "jsonpath_ng.jsonpath") 400, code := Value.ref 175 } }
def o177 (P : Params) : Obj := { cls := Value.type "property", data := Data.fields #[Value.ref 176, Value.none, Value.none, Value.none, Value.str (Str.ofString "value") 625, Value.bool false] }
def o208 (P : Params) : Obj := { cls := Value.type "dict", data := Data.dict #[{ hash := PyData.keyHash P (Str.ofString "__module__"), key := Value.str (Str.ofString "__module__") 583, val := Value.str (Str.ofString "jsonpath_ng.jsonpath") 400 }, { hash := PyData.keyHash P (Str.ofString "__firstlineno__"), key := Value.str (Str.ofString "__firstlineno__") 587, val := Value.int 48 586 }, { hash := PyData.keyHash P (Str.ofString "wrap"), key := Value.str (Str.ofString "wrap") 607, val := Value.ref 160 }, { hash := PyData.keyHash P (Str.ofString "__init__"), key := Value.str (Str.ofString "__init__") 617, val := Value.ref 169 }, { hash := PyData.keyHash P (Str.ofString "value"), key := Value.str (Str.ofString "value") 625, val := Value.ref 177 }, { hash := PyData.keyHash P (Str.ofString "set_value"), key := Value.str (Str.ofString "set_value") 633, val := Value.ref 184 }, { hash := PyData.keyHash P (Str.ofString "in_context"), key := Value.str (Str.ofString "in_context") 642, val := Value.ref 191 }, { hash := PyData.keyHash P (Str.ofString "full_path"), key := Value.str (Str.ofString "full_path") 650, val := Value.ref 199 }, { hash := PyData.keyHash P (Str.ofString "__eq__"), key := Value.str (Str.ofString "__eq__") 658, val := Value.ref 206 }, { hash := PyData.keyHash P (Str.ofString "__static_attributes__"), key := Value.str (Str.ofString "__static_attributes__") 662, val := Value.ref 207 }, { hash := PyData.keyHash P (Str.ofString "__dict__"), key := Value.str (Str.ofString "__dict__") 664, val := Value.ref 210 }, { hash := PyData.keyHash P (Str.ofString "__weakref__"), key := Value.str (Str.ofString "__weakref__") 666, val := Value.ref 211 }, { hash := PyData.keyHash P (Str.ofString "__doc__"), key := Value.str (Str.ofString "__doc__") 667, val := Value.none }, { hash := PyData.keyHash P (Str.ofString "__hash__"), key := Value.str (Str.ofString "__hash__") 668, val := Value.none }] 5 }
def o209 (P : Params) : Obj := { cls := Value.type "type", data := Data.cls { name := Str.ofString "DatumInContext", bases := [Value.type "object"], mro := [Value.ref 209, Value.type "object"], ns := 208, qualname := Str.ofString "DatumInContext" }, slots := #[none, none, some (Value.str (Str.ofString "DatumInContext") 576), some (Value.str (Str.ofString "DatumInContext") 584), some (Value.builtin "object.__new__"), some (Value.bool true)] }
def o271 (P : Params) : Obj := { cls := Value.type "dict", data := Data.dict #[{ hash := PyData.keyHash P (Str.ofString "__module__"), key := Value.str (Str.ofString "__module__") 678, val := Value.str (Str.ofString "jsonpath_ng.jsonpath") 400 }, { hash := PyData.keyHash P (Str.ofString "__firstlineno__"), key := Value.str (Str.ofString "__firstlineno__") 682, val := Value.int 82 681 }, { hash := PyData.keyHash P (Str.ofString "find"), key := Value.str (Str.ofString "find") 690, val := Value.ref 227 }, { hash := PyData.keyHash P (Str.ofString "update"), key := Value.str (Str.ofString "update") 699, val := Value.ref 234 }, { hash := PyData.keyHash P (Str.ofString "filter"), key := Value.str (Str.ofString "filter") 708, val := Value.ref 241 }, { hash := PyData.keyHash P (Str.ofString "__str__"), key := Value.str (Str.ofString "__str__") 715, val := Value.ref 248 }, { hash := PyData.keyHash P (Str.ofString "__repr__"), key := Value.str (Str.ofString "__repr__") 722, val := Value.ref 255 }, { hash := PyData.keyHash P (Str.ofString "__eq__"), key := Value.str (Str.ofString "__eq__") 730, val := Value.ref 262 }, { hash := PyData.keyHash P (Str.ofString "__hash__"), key := Value.str (Str.ofString "__hash__") 737, val := Value.ref 269 }, { hash := PyData.keyHash P (Str.ofString "__static_attributes__"), key := Value.str (Str.ofString "__static_attributes__") 738, val := Value.ref 270 }, { hash := PyData.keyHash P (Str.ofString "__doc__"), key := Value.str (Str.ofString "__doc__") 739, val := Value.none }] 2 }
def o272 (P : Params) : Obj := { cls := Value.type "type", data := Data.cls { name := Str.ofString "Root", bases := [Value.ref 140], mro := [Value.ref 272, Value.ref 140, Value.type "object"], ns := 271, qualname := Str.ofString "Root" }, slots := #[some (Value.ref 214), none, some (Value.str (Str.ofString "Root") 671), some (Value.str (Str.ofString "Root") 679), some (Value.builtin "object.__new__"), some (Value.bool true)] }
def o287 (P : Params) : Obj := { cls := Value.type "code", data := Data.fields #[Value.str (Str.ofString "find") 754, Value.str (Str.ofString "This.find") 755, Value.str (Str.ofString "/claim/cut.py") 756, Value.int 111 0, Value.int 2 0, Value.int 0 0, Value.int 0 0, Value.int 3 0, Value.ref 282, Value.bool true, Value.int 387 0, Value.ref 283, Value.none, Value.ref 284, Value.ref 285, Value.ref 286, Value.int 759 0, Value.int 111 0, Value.str (Str.ofString "/claim/cut.py") 760] }
def o288 (P : Params) : Obj := { cls := Value.type "function", data := Data.func { name := Str.ofString "find", qualname := Str.ofString "This.find", params := fnParams (clsBody 12) 0, body := FuncBody.stmts (fnBody (clsBody 12) 0), scope := fnScope (clsBody 12) 0, globals := 3, closure := [], defaults := Value.none, kwdefaults := Value.none, pyModule := Value.str (Str.ofString "jsonpath_ng.jsonpath") 400, code := Value.ref 287 } }
def o332 (P : Params) : Obj := { cls := Value.type "dict", data := Data.dict #[{ hash := PyData.keyHash P (Str.ofString "__module__"), key := Value.str (Str.ofString "__module__") 749, val := Value.str (Str.ofString "jsonpath_ng.jsonpath") 400 }, { hash := PyData.keyHash P (Str.ofString "__firstlineno__"), key := Value.str (Str.ofString "__firstlineno__") 753, val := Value.int 109 752 }, { hash := PyData.keyHash P (Str.ofString "find"), key := Value.str (Str.ofString "find") 761, val := Value.ref 288 }, { hash := PyData.keyHash P (Str.ofString "update"), key := Value.str (Str.ofString "update") 770, val := Value.ref 295 }, { hash := PyData.keyHash P (Str.ofString "filter"), key := Value.str (Str.ofString "filter") 779, val := Value.ref 302 }, { hash := PyData.keyHash P (Str.ofString "__str__"), key := Value.str (Str.ofString "__str__") 786, val := Value.ref 309 }, { hash := PyData.keyHash P (Str.ofString "__repr__"), key := Value.str (Str.ofString "__repr__") 793, val := Value.ref 316 }, { hash := PyData.keyHash P (Str.ofString "__eq__"), key := Value.str (Str.ofString "__eq__") 801, val := Value.ref 323 }, { hash := PyData.keyHash P (Str.ofString "__hash__"), key := Value.str (Str.ofString "__hash__") 808, val := Value.ref 330 }, { hash := PyData.keyHash P (Str.ofString "__static_attributes__"), key := Value.str (Str.ofString "__static_attributes__") 809, val := Value.ref 331 }, { hash := PyData.keyHash P (Str.ofString "__doc__"), key := Value.str (Str.ofString "__doc__") 810, val := Value.none }] 2 }
def o333 (P : Params) : Obj := { cls := Value.type "type", data := Data.cls { name := Str.ofString "This", bases := [Value.ref 140], mro := [Value.ref 333, Value.ref 140, Value.type "object"], ns := 332, qualname := Str.ofString "This" }, slots := #[some (Value.ref 275), none, some (Value.str (Str.ofString "This") 742), some (Value.str (Str.ofString "This") 750), some (Value.builtin "object.__new__"), some (Value.bool true)] }
def o348 (P : Params) : Obj := { cls := Value.type "code", data := Data.fields #[Value.str (Str.ofString "__init__") 825, Value.str (Str.ofString "Child.__init__") 826, Value.str (Str.ofString "/claim/cut.py") 827, Value.int 133 0, Value.int 3 0, Value.int 0 0, Value.int 0 0, Value.int 3 0, Value.ref 343, Value.bool true, Value.int 387 0, Value.ref 344, Value.none, Value.ref 345, Value.ref 346, Value.ref 347, Value.int 831 0, Value.int 133 0, Value.str (Str.ofString "/claim/cut.py") 832] }
def o349 (P : Params) : Obj := { cls := Value.type "function", data := Data.func { name := Str.ofString "__init__", qualname := Str.ofString "Child.__init__", params := fnParams (clsBody 13) 0, body := FuncBody.stmts (fnBody (clsBody 13) 0), scope := fnScope (clsBody 13) 0, globals := 3, closure := [], defaults := Value.none, kwdefaults := Value.none, pyModule := Value.str (Str.ofString "jsonpath_ng.jsonpath") 400, code := Value.ref 348 } }
def o353 (P : Params) : Obj := { cls := Value.type "code", data := Data.fields #[Value.str (Str.ofString "find") 834, Value.str (Str.ofString "Child.find") 835, Value.str (Str.ofString "/claim/cut.py") 836, Value.int 137 0, Value.int 2 0, Value.int 0 0, Value.int 0 0, Value.int 3 0, Value.ref 350, Value.bool true, Value.int 387 0, Value.ref 351, Value.none, Value.none, Value.none, Value.ref 352, Value.int 837 0, Value.int 137 0, Value.str (Str.ofString "/claim/cut.py") 838] }
def o354 (P : Params) : Obj := { cls := Value.type "function", data := Data.func { name := Str.ofString "find", qualname := Str.ofString "Child.find", params := fnParams (clsBody 13) 1, body := FuncBody.stmts (fnBody (clsBody 13) 1), scope := fnScope (clsBody 13) 1, globals := 3, closure := [], defaults := Value.none, kwdefaults := Value.none, pyModule := Value.str (Str.ofString "jsonpath_ng.jsonpath") 400, code := Value.ref 353 } }
def o360 (P : Params) : Obj := { cls := Value.type "code", data := Data.fields #[Value.str (Str.ofString "update") 840, Value.str (Str.ofString "Child.update") 841, Value.str (Str.ofString "/claim/cut.py") 842, Value.int 140 0, Value.int 3 0, Value.int 0 0, Value.int 0 0, Value.int 3 0, Value.ref 355, Value.bool true, Value.int 387 0, Value.ref 356, Value.none, Value.ref 357, Value.ref 358, Value.ref 359, Value.int 846 0, Value.int 140 0, Value.str (Str.ofString "/claim/cut.py") 847] }
def o361 (P : Params) : Obj := { cls := Value.type "function", data := Data.func { name := Str.ofString "update", qualname := Str.ofString "Child.update", params := fnParams (clsBody 13) 2, body := FuncBody.stmts (fnBody (clsBody 13) 2), scope := fnScope (clsBody 13) 2, globals := 3, closure := [], defaults := Value.none, kwdefaults := Value.none, pyModule := Value.str (Str.ofString "jsonpath_ng.jsonpath") 400, code := Value.ref 360 } }
def o367 (P : Params) : Obj := { cls := Value.type "code", data := Data.fields #[Value.str (Str.ofString "_update_with_root") 849, Value.str (Str.ofString "Child._update_with_root") 850, Value.str (Str.ofString "/claim/cut.py") 851, Value.int 143 0, Value.int 4 0, Value.int 0 0, Value.int 0 0, Value.int 3 0, Value.ref 362, Value.bool true, Value.int 387 0, Value.ref 363, Value.none, Value.ref 364, Value.ref 365, Value.ref 366, Value.int 857 0, Value.int 143 0, Value.str (Str.ofString "/claim/cut.py") 858] }
def o368 (P : Params) : Obj := { cls := Value.type "function", data := Data.func { name := Str.ofString "_update_with_root", qualname := Str.ofString "Child._update_with_root", params := fnParams (clsBody 13) 3, body := FuncBody.stmts (fnBody (clsBody 13) 3), scope := fnScope (clsBody 13) 3, globals := 3, closure := [], defaults := Value.none, kwdefaults := Value.none, pyModule := Value.str (Str.ofString "jsonpath_ng.jsonpath") 400, code := Value.ref 367 } }
def o426 (P : Params) : Obj := { cls := Value.type "dict", data := Data.dict #[{ hash := PyData.keyHash P (Str.ofString "__module__"), key := Value.str (Str.ofString "__module__") 820, val := Value.str (Str.ofString "jsonpath_ng.jsonpath") 400 }, { hash := PyData.keyHash P (Str.ofString "__firstlineno__"), key := Value.str (Str.ofString "__firstlineno__") 824, val := Value.int 131 823 }, { hash := PyData.keyHash P (Str.ofString "__init__"), key := Value.str (Str.ofString "__init__") 833, val := Value.ref 349 }, { hash := PyData.keyHash P (Str.ofString "find"), key := Value.str (Str.ofString "find") 839, val := Value.ref 354 }, { hash := PyData.keyHash P (Str.ofString "update"), key := Value.str (Str.ofString "update") 848, val := Value.ref 361 }, { hash := PyData.keyHash P (Str.ofString "_update_with_root"), key := Value.str (Str.ofString "_update_with_root") 859, val := Value.ref 368 }, { hash := PyData.keyHash P (Str.ofString "find_or_create"), key := Value.str (Str.ofString "find_or_create") 867, val := Value.ref 375 }, { hash := PyData.keyHash P (Str.ofString "update_or_create"), key := Value.str (Str.ofString "update_or_create") 876, val := Value.ref 382 }, { hash := PyData.keyHash P (Str.ofString "filter"), key := Value.str (Str.ofString "filter") 885, val := Value.ref 389 }, { hash := PyData.keyHash P (Str.ofString "_filter_with_root"), key := Value.str (Str.ofString "_filter_with_root") 896, val := Value.ref 396 }, { hash := PyData.keyHash P (Str.ofString "__eq__"), key := Value.str (Str.ofString "__eq__") 904, val := Value.ref 403 }, { hash := PyData.keyHash P (Str.ofString "__str__"), key := Value.str (Str.ofString "__str__") 911, val := Value.ref 410 }, { hash := PyData.keyHash P (Str.ofString "__repr__"), key := Value.str (Str.ofString "__repr__") 918, val := Value.ref 417 }, { hash := PyData.keyHash P (Str.ofString "__hash__"), key := Value.str (Str.ofString "__hash__") 925, val := Value.ref 424 }, { hash := PyData.keyHash P (Str.ofString "__static_attributes__"), key := Value.str (Str.ofString "__static_attributes__") 928, val := Value.ref 425 }, { hash := PyData.keyHash P (Str.ofString "__doc__"), key := Value.str (Str.ofString "__doc__") 929, val := Value.none }] 2 }
def o427 (P : Params) : Obj := { cls := Value.type "type", data := Data.cls { name := Str.ofString "Child", bases := [Value.ref 140], mro := [Value.ref 427, Value.ref 140, Value.type "object"], ns := 426, qualname := Str.ofString "Child" }, slots := #[some (Value.ref 336), none, some (Value.str (Str.ofString "Child") 813), some (Value.str (Str.ofString "Child") 821), some (Value.builtin "object.__new__"), some (Value.bool true)] }
def o525 (P : Params) : Obj := { cls := Value.type "code", data := Data.fields #[Value.str (Str.ofString "__init__") 1043, Value.str (Str.ofString "Fields.__init__") 1044, Value.str (Str.ofString "/claim/cut.py") 1045, Value.int 248 0, Value.int 1 0, Value.int 0 0, Value.int 0 0, Value.int 7 0, Value.ref 520, Value.bool true, Value.int 387 0, Value.ref 521, Value.none, Value.ref 522, Value.ref 523, Value.ref 524, Value.int 1048 0, Value.int 248 0, Value.str (Str.ofString "/claim/cut.py") 1049] }
def o526 (P : Params) : Obj := { cls := Value.type "function", data := Data.func { name := Str.ofString "__init__", qualname := Str.ofString "Fields.__init__", params := fnParams (clsBody 15) 0, body := FuncBody.stmts (fnBody (clsBody 15) 0), scope := fnScope (clsBody 15) 0, globals := 3, closure := [], defaults := Value.none, kwdefaults := Value.none, pyModule := Value.str (Str.ofString "jsonpath_ng.jsonpath") 400, code := Value.ref 525 } }
def o532 (P : Params) : Obj := { cls := Value.type "code", data := Data.fields #[Value.str (Str.ofString "_compliant_constructor") 1051, Value.str (Str.ofString "Fields._compliant_constructor") 1052, Value.str (Str.ofString "/claim/cut.py") 1053, Value.int 252 0, Value.int 1 0, Value.int 0 0, Value.int 0 0, Value.int 7 0, Value.ref 527, Value.bool true, Value.int 387 0, Value.ref 528, Value.none, Value.ref 529, Value.ref 530, Value.ref 531, Value.int 1057 0, Value.int 252 0, Value.str (Str.ofString "/claim/cut.py") 1058] }
def o533 (P : Params) : Obj := { cls := Value.type "function", data := Data.func { name := Str.ofString "_compliant_constructor", qualname := Str.ofString "Fields._compliant_constructor", params := fnParams (clsBody 15) 1, body := FuncBody.stmts (fnBody (clsBody 15) 1), scope := fnScope (clsBody 15) 1, globals := 3, closure := [], defaults := Value.none, kwdefaults := Value.none, pyModule := Value.str (Str.ofString "jsonpath_ng.jsonpath") 400, annotations := some 536, code := Value.ref 532 } }
def o535 (P : Params) : Obj := { cls := Value.type "classmethod", dict := some 534, data := Data.fields #[Value.ref 533, Value.bool false] }
def o542 (P : Params) : Obj := { cls := Value.type "code", data := Data.fields #[Value.str (Str.ofString "_is_wildcard_on_array") 1072, Value.str (Str.ofString "Fields._is_wildcard_on_array") 1073, Value.str (Str.ofString "/claim/cut.py") 1074, Value.int 258 0, Value.int 2 0, Value.int 0 0, Value.int 0 0, Value.int 3 0, Value.ref 537, Value.bool true, Value.int 387 0, Value.ref 538, Value.none, Value.ref 539, Value.ref 540, Value.ref 541, Value.int 1077 0, Value.int 258 0, Value.str (Str.ofString "/claim/cut.py") 1078] }
def o543 (P : Params) : Obj := { cls := Value.type "function", data := Data.func { name := Str.ofString "_is_wildcard_on_array", qualname := Str.ofString "Fields._is_wildcard_on_array", params := fnParams (clsBody 15) 2, body := FuncBody.stmts (fnBody (clsBody 15) 2), scope := fnScope (clsBody 15) 2, globals := 3, closure := [], defaults := Value.none, kwdefaults := Value.none, pyModule := Value.str (Str.ofString "jsonpath_ng.jsonpath") 400, code := Value.ref 542 } }
def o549 (P : Params) : Obj := { cls := Value.type "code", data := Data.fields #[Value.str (Str.ofString "get_field_datum") 1080, Value.str (Str.ofString "Fields.get_field_datum") 1081, Value.str (Str.ofString "/claim/cut.py") 1082, Value.int 261 0, Value.int 3 0, Value.int 0 0, Value.int 0 0, Value.int 3 0, Value.ref 544, Value.bool true, Value.int 387 0, Value.ref 545, Value.none, Value.ref 546, Value.ref 547, Value.ref 548, Value.int 1087 0, Value.int 261 0, Value.str (Str.ofString "/claim/cut.py") 1088] }
def o550 (P : Params) : Obj := { cls := Value.type "function", data := Data.func { name := Str.ofString "get_field_datum", qualname := Str.ofString "Fields.get_field_datum", params := fnParams (clsBody 15) 3, body := FuncBody.stmts (fnBody (clsBody 15) 3), scope := fnScope (clsBody 15) 3, globals := 3, closure := [], defaults := Value.none, kwdefaults := Value.none, pyModule := Value.str (Str.ofString "jsonpath_ng.jsonpath") 400, annotations := some 553, code := Value.ref 549 } }
def o552 (P : Params) : Obj := { cls := Value.type "staticmethod", dict := some 551, data := Data.fields #[Value.ref 550, Value.bool false] }
def o559 (P : Params) : Obj := { cls := Value.type "code", data := Data.fields #[Value.str (Str.ofString "reified_fields") 1102, Value.str (Str.ofString "Fields.reified_fields") 1103, Value.str (Str.ofString "/claim/cut.py") 1104, Value.int 274 0, Value.int 2 0, Value.int 0 0, Value.int 0 0, Value.int 3 0, Value.ref 554, Value.bool true, Value.int 387 0, Value.ref 555, Value.none, Value.ref 556, Value.ref 557, Value.ref 558, Value.int 1108 0, Value.int 274 0, Value.str (Str.ofString "/claim/cut.py") 1109] }
def o560 (P : Params) : Obj := { cls := Value.type "function", data := Data.func { name := Str.ofString "reified_fields", qualname := Str.ofString "Fields.reified_fields", params := fnParams (clsBody 15) 4, body := FuncBody.stmts (fnBody (clsBody 15) 4), scope := fnScope (clsBody 15) 4, globals := 3, closure := [], defaults := Value.none, kwdefaults := Value.none, pyModule := Value.str (Str.ofString "jsonpath_ng.jsonpath") 400, code := Value.ref 559 } }
def o566 (P : Params) : Obj := { cls := Value.type "code", data := Data.fields #[Value.str (Str.ofString "find") 1111, Value.str (Str.ofString "Fields.find") 1112, Value.str (Str.ofString "/claim/cut.py") 1113, Value.int 284 0, Value.int 2 0, Value.int 0 0, Value.int 0 0, Value.int 3 0, Value.ref 561, Value.bool true, Value.int 387 0, Value.ref 562, Value.none, Value.ref 563, Value.ref 564, Value.ref 565, Value.int 1116 0, Value.int 284 0, Value.str (Str.ofString "/claim/cut.py") 1117] }
def o567 (P : Params) : Obj := { cls := Value.type "function", data := Data.func { name := Str.ofString "find", qualname := Str.ofString "Fields.find", params := fnParams (clsBody 15) 5, body := FuncBody.stmts (fnBody (clsBody 15) 5), scope := fnScope (clsBody 15) 5, globals := 3, closure := [], defaults := Value.none, kwdefaults := Value.none, pyModule := Value.str (Str.ofString "jsonpath_ng.jsonpath") 400, code := Value.ref 566 } }
def o578 (P : Params) : Obj := { cls := Value.type "code", data := Data.fields #[Value.str (Str.ofString "_find_base") 1127, Value.str (Str.ofString "Fields._find_base") 1128, Value.str (Str.ofString "/claim/cut.py") 1129, Value.int 290 0, Value.int 3 0, Value.int 0 0, Value.int 0 0, Value.int 3 0, Value.ref 575, Value.bool true, Value.int 387 0, Value.ref 576, Value.none, Value.none, Value.none, Value.ref 577, Value.int 1130 0, Value.int 290 0, Value.str (Str.ofString "/claim/cut.py") 1131] }
def o579 (P : Params) : Obj := { cls := Value.type "function", data := Data.func { name := Str.ofString "_find_base", qualname := Str.ofString "Fields._find_base", params := fnParams (clsBody 15) 7, body := FuncBody.stmts (fnBody (clsBody 15) 7), scope := fnScope (clsBody 15) 7, globals := 3, closure := [], defaults := Value.none, kwdefaults := Value.none, pyModule := Value.str (Str.ofString "jsonpath_ng.jsonpath") 400, code := Value.ref 578 } }
def o585 (P : Params) : Obj := { cls := Value.type "code", data := Data.fields #[Value.str (Str.ofString "update") 1133, Value.str (Str.ofString "Fields.update") 1134, Value.str (Str.ofString "/claim/cut.py") 1135, Value.int 297 0, Value.int 3 0, Value.int 0 0, Value.int 0 0, Value.int 3 0, Value.ref 580, Value.bool true, Value.int 387 0, Value.ref 581, Value.none, Value.ref 582, Value.ref 583, Value.ref 584, Value.int 1139 0, Value.int 297 0, Value.str (Str.ofString "/claim/cut.py") 1140] }
def o586 (P : Params) : Obj := { cls := Value.type "function", data := Data.func { name := Str.ofString "update", qualname := Str.ofString "Fields.update", params := fnParams (clsBody 15) 8, body := FuncBody.stmts (fnBody (clsBody 15) 8), scope := fnScope (clsBody 15) 8, globals := 3, closure := [], defaults := Value.none, kwdefaults := Value.none, pyModule := Value.str (Str.ofString "jsonpath_ng.jsonpath") 400, code := Value.ref 585 } }
def o599 (P : Params) : Obj := { cls := Value.type "code", data := Data.fields #[Value.str (Str.ofString "_update_base") 1151, Value.str (Str.ofString "Fields._update_base") 1152, Value.str (Str.ofString "/claim/cut.py") 1153, Value.int 307 0, Value.int 4 0, Value.int 0 0, Value.int 0 0, Value.int 3 0, Value.ref 594, Value.bool true, Value.int 387 0, Value.ref 595, Value.none, Value.ref 596, Value.ref 597, Value.ref 598, Value.int 1160 0, Value.int 307 0, Value.str (Str.ofString "/claim/cut.py") 1161] }
def o600 (P : Params) : Obj := { cls := Value.type "function", data := Data.func { name := Str.ofString "_update_base", qualname := Str.ofString "Fields._update_base", params := fnParams (clsBody 15) 10, body := FuncBody.stmts (fnBody (clsBody 15) 10), scope := fnScope (clsBody 15) 10, globals := 3, closure := [], defaults := Value.none, kwdefaults := Value.none, pyModule := Value.str (Str.ofString "jsonpath_ng.jsonpath") 400, code := Value.ref 599 } }
def o637 (P : Params) : Obj := { cls := Value.type "dict", data := Data.dict #[{ hash := PyData.keyHash P (Str.ofString "__module__"), key := Value.str (Str.ofString "__module__") 1038, val := Value.str (Str.ofString "jsonpath_ng.jsonpath") 400 }, { hash := PyData.keyHash P (Str.ofString "__firstlineno__"), key := Value.str (Str.ofString "__firstlineno__") 1042, val := Value.int 246 1041 }, { hash := PyData.keyHash P (Str.ofString "__init__"), key := Value.str (Str.ofString "__init__") 1050, val := Value.ref 526 }, { hash := PyData.keyHash P (Str.ofString "_compliant_constructor"), key := Value.str (Str.ofString "_compliant_constructor") 1071, val := Value.ref 535 }, { hash := PyData.keyHash P (Str.ofString "_is_wildcard_on_array"), key := Value.str (Str.ofString "_is_wildcard_on_array") 1079, val := Value.ref 543 }, { hash := PyData.keyHash P (Str.ofString "get_field_datum"), key := Value.str (Str.ofString "get_field_datum") 1101, val := Value.ref 552 }, { hash := PyData.keyHash P (Str.ofString "reified_fields"), key := Value.str (Str.ofString "reified_fields") 1110, val := Value.ref 560 }, { hash := PyData.keyHash P (Str.ofString "find"), key := Value.str (Str.ofString "find") 1118, val := Value.ref 567 }, { hash := PyData.keyHash P (Str.ofString "find_or_create"), key := Value.str (Str.ofString "find_or_create") 1126, val := Value.ref 574 }, { hash := PyData.keyHash P (Str.ofString "_find_base"), key := Value.str (Str.ofString "_find_base") 1132, val := Value.ref 579 }, { hash := PyData.keyHash P (Str.ofString "update"), key := Value.str (Str.ofString "update") 1141, val := Value.ref 586 }, { hash := PyData.keyHash P (Str.ofString "update_or_create"), key := Value.str (Str.ofString "update_or_create") 1150, val := Value.ref 593 }, { hash := PyData.keyHash P (Str.ofString "_update_base"), key := Value.str (Str.ofString "_update_base") 1162, val := Value.ref 600 }, { hash := PyData.keyHash P (Str.ofString "filter"), key := Value.str (Str.ofString "filter") 1172, val := Value.ref 607 }, { hash := PyData.keyHash P (Str.ofString "__str__"), key := Value.str (Str.ofString "__str__") 1181, val := Value.ref 614 }, { hash := PyData.keyHash P (Str.ofString "__repr__"), key := Value.str (Str.ofString "__repr__") 1189, val := Value.ref 621 }, { hash := PyData.keyHash P (Str.ofString "__eq__"), key := Value.str (Str.ofString "__eq__") 1197, val := Value.ref 628 }, { hash := PyData.keyHash P (Str.ofString "__hash__"), key := Value.str (Str.ofString "__hash__") 1204, val := Value.ref 635 }, { hash := PyData.keyHash P (Str.ofString "__static_attributes__"), key := Value.str (Str.ofString "__static_attributes__") 1207, val := Value.ref 636 }, { hash := PyData.keyHash P (Str.ofString "__doc__"), key := Value.str (Str.ofString "__doc__") 1208, val := Value.none }] 2 }
def o638 (P : Params) : Obj := { cls := Value.type "type", data := Data.cls { name := Str.ofString "Fields", bases := [Value.ref 140], mro := [Value.ref 638, Value.ref 140, Value.type "object"], ns := 637, qualname := Str.ofString "Fields" }, slots := #[some (Value.ref 513), none, some (Value.str (Str.ofString "Fields") 1031), some (Value.str (Str.ofString "Fields") 1039), some (Value.builtin "object.__new__"), some (Value.bool true)] }
def o653 (P : Params) : Obj := { cls := Value.type "code", data := Data.fields #[Value.str (Str.ofString "__init__") 1223, Value.str (Str.ofString "Index.__init__") 1224, Value.str (Str.ofString "/claim/cut.py") 1225, Value.int 353 0, Value.int 1 0, Value.int 0 0, Value.int 0 0, Value.int 7 0, Value.ref 648, Value.bool true, Value.int 387 0, Value.ref 649, Value.none, Value.ref 650, Value.ref 651, Value.ref 652, Value.int 1228 0, Value.int 353 0, Value.str (Str.ofString "/claim/cut.py") 1229] }
def o654 (P : Params) : Obj := { cls := Value.type "function", data := Data.func { name := Str.ofString "__init__", qualname := Str.ofString "Index.__init__", params := fnParams (clsBody 16) 0, body := FuncBody.stmts (fnBody (clsBody 16) 0), scope := fnScope (clsBody 16) 0, globals := 3, closure := [], defaults := Value.none, kwdefaults := Value.none, pyModule := Value.str (Str.ofString "jsonpath_ng.jsonpath") 400, code := Value.ref 653 } }
def o681 (P : Params) : Obj := { cls := Value.type "code", data := Data.fields #[Value.str (Str.ofString "update") 1258, Value.str (Str.ofString "Index.update") 1259, Value.str (Str.ofString "/claim/cut.py") 1260, Value.int 376 0, Value.int 3 0, Value.int 0 0, Value.int 0 0, Value.int 3 0, Value.ref 676, Value.bool true, Value.int 387 0, Value.ref 677, Value.none, Value.ref 678, Value.ref 679, Value.ref 680, Value.int 1264 0, Value.int 376 0, Value.str (Str.ofString "/claim/cut.py") 1265] }
def o682 (P : Params) : Obj := { cls := Value.type "function", data := Data.func { name := Str.ofString "update", qualname := Str.ofString "Index.update", params := fnParams (clsBody 16) 4, body := FuncBody.stmts (fnBody (clsBody 16) 4), scope := fnScope (clsBody 16) 4, globals := 3, closure := [], defaults := Value.none, kwdefaults := Value.none, pyModule := Value.str (Str.ofString "jsonpath_ng.jsonpath") 400, code := Value.ref 681 } }
def o695 (P : Params) : Obj := { cls := Value.type "code", data := Data.fields #[Value.str (Str.ofString "_update_base") 1276, Value.str (Str.ofString "Index._update_base") 1277, Value.str (Str.ofString "/claim/cut.py") 1278, Value.int 384 0, Value.int 4 0, Value.int 0 0, Value.int 0 0, Value.int 3 0, Value.ref 690, Value.bool true, Value.int 387 0, Value.ref 691, Value.none, Value.ref 692, Value.ref 693, Value.ref 694, Value.int 1286 0, Value.int 384 0, Value.str (Str.ofString "/claim/cut.py") 1287] }
def o696 (P : Params) : Obj := { cls := Value.type "function", data := Data.func { name := Str.ofString "_update_base", qualname := Str.ofString "Index._update_base", params := fnParams (clsBody 16) 6, body := FuncBody.stmts (fnBody (clsBody 16) 6), scope := fnScope (clsBody 16) 6, globals := 3, closure := [], defaults := Value.none, kwdefaults := Value.none, pyModule := Value.str (Str.ofString "jsonpath_ng.jsonpath") 400, code := Value.ref 695 } }
def o736 (P : Params) : Obj := { cls := Value.type "dict", data := Data.dict #[{ hash := PyData.keyHash P (Str.ofString "__module__"), key := Value.str (Str.ofString "__module__") 1218, val := Value.str (Str.ofString "jsonpath_ng.jsonpath") 400 }, { hash := PyData.keyHash P (Str.ofString "__firstlineno__"), key := Value.str (Str.ofString "__firstlineno__") 1222, val := Value.int 351 1221 }, { hash := PyData.keyHash P (Str.ofString "__init__"), key := Value.str (Str.ofString "__init__") 1230, val := Value.ref 654 }, { hash := PyData.keyHash P (Str.ofString "find"), key := Value.str (Str.ofString "find") 1238, val := Value.ref 661 }, { hash := PyData.keyHash P (Str.ofString "find_or_create"), key := Value.str (Str.ofString "find_or_create") 1246, val := Value.ref 668 }, { hash := PyData.keyHash P (Str.ofString "_find_base"), key := Value.str (Str.ofString "_find_base") 1257, val := Value.ref 675 }, { hash := PyData.keyHash P (Str.ofString "update"), key := Value.str (Str.ofString "update") 1266, val := Value.ref 682 }, { hash := PyData.keyHash P (Str.ofString "update_or_create"), key := Value.str (Str.ofString "update_or_create") 1275, val := Value.ref 689 }, { hash := PyData.keyHash P (Str.ofString "_update_base"), key := Value.str (Str.ofString "_update_base") 1288, val := Value.ref 696 }, { hash := PyData.keyHash P (Str.ofString "filter"), key := Value.str (Str.ofString "filter") 1294, val := Value.ref 701 }, { hash := PyData.keyHash P (Str.ofString "__eq__"), key := Value.str (Str.ofString "__eq__") 1302, val := Value.ref 708 }, { hash := PyData.keyHash P (Str.ofString "__str__"), key := Value.str (Str.ofString "__str__") 1309, val := Value.ref 715 }, { hash := PyData.keyHash P (Str.ofString "__repr__"), key := Value.str (Str.ofString "__repr__") 1316, val := Value.ref 722 }, { hash := PyData.keyHash P (Str.ofString "_pad_value"), key := Value.str (Str.ofString "_pad_value") 1322, val := Value.ref 727 }, { hash := PyData.keyHash P (Str.ofString "__hash__"), key := Value.str (Str.ofString "__hash__") 1329, val := Value.ref 734 }, { hash := PyData.keyHash P (Str.ofString "__static_attributes__"), key := Value.str (Str.ofString "__static_attributes__") 1331, val := Value.ref 735 }, { hash := PyData.keyHash P (Str.ofString "__doc__"), key := Value.str (Str.ofString "__doc__") 1332, val := Value.none }] 2 }
def o737 (P : Params) : Obj := { cls := Value.type "type", data := Data.cls { name := Str.ofString "Index", bases := [Value.ref 140], mro := [Value.ref 737, Value.ref 140, Value.type "object"], ns := 736, qualname := Str.ofString "Index" }, slots := #[some (Value.ref 641), none, some (Value.str (Str.ofString "Index") 1211), some (Value.str (Str.ofString "Index") 1219), some (Value.builtin "object.__new__"), some (Value.bool true)] }
def o764 (P : Params) : Obj := { cls := Value.type "dict", data := Data.dict #[{ hash := PyData.keyHash P (Str.ofString "!="), key := Value.str (Str.ofString "!=") 1365, val := Value.builtin "_operator.ne" }, { hash := PyData.keyHash P (Str.ofString "=="), key := Value.str (Str.ofString "==") 1366, val := Value.builtin "_operator.eq" }, { hash := PyData.keyHash P (Str.ofString "="), key := Value.str (Str.ofString "=") 1367, val := Value.builtin "_operator.eq" }, { hash := PyData.keyHash P (Str.ofString "<="), key := Value.str (Str.ofString "<=") 1368, val := Value.builtin "_operator.le" }, { hash := PyData.keyHash P (Str.ofString "<"), key := Value.str (Str.ofString "<") 1369, val := Value.builtin "_operator.lt" }, { hash := PyData.keyHash P (Str.ofString ">="), key := Value.str (Str.ofString ">=") 1370, val := Value.builtin "_operator.ge" }, { hash := PyData.keyHash P (Str.ofString ">"), key := Value.str (Str.ofString ">") 1371, val := Value.builtin "_operator.gt" }] 7 }
def o777 (P : Params) : Obj := { cls := Value.type "code", data := Data.fields #[Value.str (Str.ofString "_is_number") 1388, Value.str (Str.ofString "_is_number") 1389, Value.str (Str.ofString "/claim/cut.py") 1390, Value.int 458 0, Value.int 1 0, Value.int 0 0, Value.int 0 0, Value.int 3 0, Value.ref 772, Value.bool true, Value.int 387 0, Value.ref 773, Value.none, Value.ref 774, Value.ref 775, Value.ref 776, Value.int 1392 0, Value.int 458 0, Value.str (Str.ofString "/claim/cut.py") 1393] }
def o778 (P : Params) : Obj := { cls := Value.type "function", data := Data.func { name := Str.ofString "_is_number", qualname := Str.ofString "_is_number", params := fnParams PySem.Challenge.pw_ae5016_01.main.body 24, body := FuncBody.stmts (fnBody PySem.Challenge.pw_ae5016_01.main.body 24), scope := fnScope PySem.Challenge.pw_ae5016_01.main.body 24, globals := 3, closure := [], defaults := Value.none, kwdefaults := Value.none, pyModule := Value.str (Str.ofString "jsonpath_ng.ext.filter") 1363, code := Value.ref 777 } }
def o791 (P : Params) : Obj := { cls := Value.type "code", data := Data.fields #[Value.str (Str.ofString "_compare") 1405, Value.str (Str.ofString "_compare") 1406, Value.str (Str.ofString "/claim/cut.py") 1407, Value.int 480 0, Value.int 3 0, Value.int 0 0, Value.int 0 0, Value.int 3 0, Value.ref 786, Value.bool true, Value.int 387 0, Value.ref 787, Value.none, Value.ref 788, Value.ref 789, Value.ref 790, Value.int 1411 0, Value.int 480 0, Value.str (Str.ofString "/claim/cut.py") 1412] }
def o792 (P : Params) : Obj := { cls := Value.type "function", data := Data.func { name := Str.ofString "_compare", qualname := Str.ofString "_compare", params := fnParams PySem.Challenge.pw_ae5016_01.main.body 26, body := FuncBody.stmts (fnBody PySem.Challenge.pw_ae5016_01.main.body 26), scope := fnScope PySem.Challenge.pw_ae5016_01.main.body 26, globals := 3, closure := [], defaults := Value.none, kwdefaults := Value.none, pyModule := Value.str (Str.ofString "jsonpath_ng.ext.filter") 1363, code := Value.ref 791 } }
def o813 (P : Params) : Obj := { cls := Value.type "code", data := Data.fields #[Value.str (Str.ofString "__init__") 1436, Value.str (Str.ofString "Filter.__init__") 1437, Value.str (Str.ofString "/claim/cut.py") 1438, Value.int 498 0, Value.int 2 0, Value.int 0 0, Value.int 0 0, Value.int 3 0, Value.ref 808, Value.bool true, Value.int 387 0, Value.ref 809, Value.none, Value.ref 810, Value.ref 811, Value.ref 812, Value.int 1441 0, Value.int 498 0, Value.str (Str.ofString "/claim/cut.py") 1442] }
def o814 (P : Params) : Obj := { cls := Value.type "function", data := Data.func { name := Str.ofString "__init__", qualname := Str.ofString "Filter.__init__", params := fnParams (clsBody 28) 0, body := FuncBody.stmts (fnBody (clsBody 28) 0), scope := fnScope (clsBody 28) 0, globals := 3, closure := [], defaults := Value.none, kwdefaults := Value.none, pyModule := Value.str (Str.ofString "jsonpath_ng.ext.filter") 1363, code := Value.ref 813 } }
def o820 (P : Params) : Obj := { cls := Value.type "code", data := Data.fields #[Value.str (Str.ofString "_references_root") 1444, Value.str (Str.ofString "Filter._references_root") 1445, Value.str (Str.ofString "/claim/cut.py") 1446, Value.int 501 0, Value.int 1 0, Value.int 0 0, Value.int 0 0, Value.int 3 0, Value.ref 815, Value.bool true, Value.int 387 0, Value.ref 816, Value.none, Value.ref 817, Value.ref 818, Value.ref 819, Value.int 1452 0, Value.int 501 0, Value.str (Str.ofString "/claim/cut.py") 1453] }
def o821 (P : Params) : Obj := { cls := Value.type "function", data := Data.func { name := Str.ofString "_references_root", qualname := Str.ofString "Filter._references_root", params := fnParams (clsBody 28) 1, body := FuncBody.stmts (fnBody (clsBody 28) 1), scope := fnScope (clsBody 28) 1, globals := 3, closure := [], defaults := Value.none, kwdefaults := Value.none, pyModule := Value.str (Str.ofString "jsonpath_ng.ext.filter") 1363, code := Value.ref 820 } }
def o825 (P : Params) : Obj := { cls := Value.type "code", data := Data.fields #[Value.str (Str.ofString "find") 1455, Value.str (Str.ofString "Filter.find") 1456, Value.str (Str.ofString "/claim/cut.py") 1457, Value.int 522 0, Value.int 2 0, Value.int 0 0, Value.int 0 0, Value.int 3 0, Value.ref 822, Value.bool true, Value.int 387 0, Value.ref 823, Value.none, Value.none, Value.none, Value.ref 824, Value.int 1458 0, Value.int 522 0, Value.str (Str.ofString "/claim/cut.py") 1459] }
def o826 (P : Params) : Obj := { cls := Value.type "function", data := Data.func { name := Str.ofString "find", qualname := Str.ofString "Filter.find", params := fnParams (clsBody 28) 2, body := FuncBody.stmts (fnBody (clsBody 28) 2), scope := fnScope (clsBody 28) 2, globals := 3, closure := [], defaults := Value.none, kwdefaults := Value.none, pyModule := Value.str (Str.ofString "jsonpath_ng.ext.filter") 1363, code := Value.ref 825 } }
def o897 (P : Params) : Obj := { cls := Value.type "dict", data := Data.dict #[{ hash := PyData.keyHash P (Str.ofString "__module__"), key := Value.str (Str.ofString "__module__") 1431, val := Value.str (Str.ofString "jsonpath_ng.ext.filter") 1363 }, { hash := PyData.keyHash P (Str.ofString "__firstlineno__"), key := Value.str (Str.ofString "__firstlineno__") 1435, val := Value.int 496 1434 }, { hash := PyData.keyHash P (Str.ofString "__init__"), key := Value.str (Str.ofString "__init__") 1443, val := Value.ref 814 }, { hash := PyData.keyHash P (Str.ofString "_references_root"), key := Value.str (Str.ofString "_references_root") 1454, val := Value.ref 821 }, { hash := PyData.keyHash P (Str.ofString "find"), key := Value.str (Str.ofString "find") 1460, val := Value.ref 826 }, { hash := PyData.keyHash P (Str.ofString "_datum"), key := Value.str (Str.ofString "_datum") 1480, val := Value.ref 835 }, { hash := PyData.keyHash P (Str.ofString "filter"), key := Value.str (Str.ofString "filter") 1489, val := Value.ref 843 }, { hash := PyData.keyHash P (Str.ofString "_filter_with_root"), key := Value.str (Str.ofString "_filter_with_root") 1500, val := Value.ref 850 }, { hash := PyData.keyHash P (Str.ofString "update"), key := Value.str (Str.ofString "update") 1509, val := Value.ref 857 }, { hash := PyData.keyHash P (Str.ofString "_update_with_root"), key := Value.str (Str.ofString "_update_with_root") 1523, val := Value.ref 864 }, { hash := PyData.keyHash P (Str.ofString "_set"), key := Value.str (Str.ofString "_set") 1544, val := Value.ref 873 }, { hash := PyData.keyHash P (Str.ofString "__repr__"), key := Value.str (Str.ofString "__repr__") 1551, val := Value.ref 881 }, { hash := PyData.keyHash P (Str.ofString "__str__"), key := Value.str (Str.ofString "__str__") 1560, val := Value.ref 888 }, { hash := PyData.keyHash P (Str.ofString "__eq__"), key := Value.str (Str.ofString "__eq__") 1568, val := Value.ref 895 }, { hash := PyData.keyHash P (Str.ofString "__static_attributes__"), key := Value.str (Str.ofString "__static_attributes__") 1570, val := Value.ref 896 }, { hash := PyData.keyHash P (Str.ofString "__doc__"), key := Value.str (Str.ofString "__doc__") 1571, val := Value.none }, { hash := PyData.keyHash P (Str.ofString "__hash__"), key := Value.str (Str.ofString "__hash__") 1572, val := Value.none }] 3 }
def o898 (P : Params) : Obj := { cls := Value.type "type", data := Data.cls { name := Str.ofString "Filter", bases := [Value.ref 140], mro := [Value.ref 898, Value.ref 140, Value.type "object"], ns := 897, qualname := Str.ofString "Filter" }, slots := #[some (Value.ref 801), none, some (Value.str (Str.ofString "Filter") 1424), some (Value.str (Str.ofString "Filter") 1432), some (Value.builtin "object.__new__"), some (Value.bool true)] }
def o913 (P : Params) : Obj := { cls := Value.type "code", data := Data.fields #[Value.str (Str.ofString "__init__") 1587, Value.str (Str.ofString "Expression.__init__") 1588, Value.str (Str.ofString "/claim/cut.py") 1589, Value.int 589 0, Value.int 4 0, Value.int 0 0, Value.int 0 0, Value.int 3 0, Value.ref 908, Value.bool true, Value.int 387 0, Value.ref 909, Value.none, Value.ref 910, Value.ref 911, Value.ref 912, Value.int 1594 0, Value.int 589 0, Value.str (Str.ofString "/claim/cut.py") 1595] }
def o914 (P : Params) : Obj := { cls := Value.type "function", data := Data.func { name := Str.ofString "__init__", qualname := Str.ofString "Expression.__init__", params := fnParams (clsBody 29) 0, body := FuncBody.stmts (fnBody (clsBody 29) 0), scope := fnScope (clsBody 29) 0, globals := 3, closure := [], defaults := Value.none, kwdefaults := Value.none, pyModule := Value.str (Str.ofString "jsonpath_ng.ext.filter") 1363, code := Value.ref 913 } }
def o920 (P : Params) : Obj := { cls := Value.type "code", data := Data.fields #[Value.str (Str.ofString "find") 1597, Value.str (Str.ofString "Expression.find") 1598, Value.str (Str.ofString "/claim/cut.py") 1599, Value.int 594 0, Value.int 2 0, Value.int 0 0, Value.int 0 0, Value.int 3 0, Value.ref 915, Value.bool true, Value.int 387 0, Value.ref 916, Value.none, Value.ref 917, Value.ref 918, Value.ref 919, Value.int 1609 0, Value.int 594 0, Value.str (Str.ofString "/claim/cut.py") 1610] }
def o921 (P : Params) : Obj := { cls := Value.type "function", data := Data.func { name := Str.ofString "find", qualname := Str.ofString "Expression.find", params := fnParams (clsBody 29) 1, body := FuncBody.stmts (fnBody (clsBody 29) 1), scope := fnScope (clsBody 29) 1, globals := 3, closure := [], defaults := Value.none, kwdefaults := Value.none, pyModule := Value.str (Str.ofString "jsonpath_ng.ext.filter") 1363, code := Value.ref 920 } }
def o942 (P : Params) : Obj := { cls := Value.type "dict", data := Data.dict #[{ hash := PyData.keyHash P (Str.ofString "__module__"), key := Value.str (Str.ofString "__module__") 1582, val := Value.str (Str.ofString "jsonpath_ng.ext.filter") 1363 }, { hash := PyData.keyHash P (Str.ofString "__firstlineno__"), key := Value.str (Str.ofString "__firstlineno__") 1586, val := Value.int 587 1585 }, { hash := PyData.keyHash P (Str.ofString "__init__"), key := Value.str (Str.ofString "__init__") 1596, val := Value.ref 914 }, { hash := PyData.keyHash P (Str.ofString "find"), key := Value.str (Str.ofString "find") 1611, val := Value.ref 921 }, { hash := PyData.keyHash P (Str.ofString "_find_with_query_operand"), key := Value.str (Str.ofString "_find_with_query_operand") 1617, val := Value.ref 926 }, { hash := PyData.keyHash P (Str.ofString "__eq__"), key := Value.str (Str.ofString "__eq__") 1625, val := Value.ref 933 }, { hash := PyData.keyHash P (Str.ofString "__str__"), key := Value.str (Str.ofString "__str__") 1635, val := Value.ref 940 }, { hash := PyData.keyHash P (Str.ofString "__static_attributes__"), key := Value.str (Str.ofString "__static_attributes__") 1639, val := Value.ref 941 }, { hash := PyData.keyHash P (Str.ofString "__doc__"), key := Value.str (Str.ofString "__doc__") 1640, val := Value.none }, { hash := PyData.keyHash P (Str.ofString "__hash__"), key := Value.str (Str.ofString "__hash__") 1641, val := Value.none }] 3 }
def o943 (P : Params) : Obj := { cls := Value.type "type", data := Data.cls { name := Str.ofString "Expression", bases := [Value.ref 140], mro := [Value.ref 943, Value.ref 140, Value.type "object"], ns := 942, qualname := Str.ofString "Expression" }, slots := #[some (Value.ref 901), none, some (Value.str (Str.ofString "Expression") 1575), some (Value.str (Str.ofString "Expression") 1583), some (Value.builtin "object.__new__"), some (Value.bool true)] }
def o989 (P : Params) : Obj := { cls := Value.type "dict", data := Data.dict #[{ hash := PyData.keyHash P (Str.ofString "__module__"), key := Value.str (Str.ofString "__module__") 1651, val := Value.str (Str.ofString "jsonpath_ng.ext.filter") 1363 }, { hash := PyData.keyHash P (Str.ofString "__firstlineno__"), key := Value.str (Str.ofString "__firstlineno__") 1655, val := Value.int 651 1654 }, { hash := PyData.keyHash P (Str.ofString "__init__"), key := Value.str (Str.ofString "__init__") 1664, val := Value.ref 959 }, { hash := PyData.keyHash P (Str.ofString "__eq__"), key := Value.str (Str.ofString "__eq__") 1672, val := Value.ref 966 }, { hash := PyData.keyHash P (Str.ofString "__repr__"), key := Value.str (Str.ofString "__repr__") 1679, val := Value.ref 973 }, { hash := PyData.keyHash P (Str.ofString "_operand_to_str"), key := Value.str (Str.ofString "_operand_to_str") 1687, val := Value.ref 980 }, { hash := PyData.keyHash P (Str.ofString "__str__"), key := Value.str (Str.ofString "__str__") 1695, val := Value.ref 987 }, { hash := PyData.keyHash P (Str.ofString "__static_attributes__"), key := Value.str (Str.ofString "__static_attributes__") 1697, val := Value.ref 988 }, { hash := PyData.keyHash P (Str.ofString "__doc__"), key := Value.str (Str.ofString "__doc__") 1698, val := Value.none }, { hash := PyData.keyHash P (Str.ofString "__hash__"), key := Value.str (Str.ofString "__hash__") 1699, val := Value.none }] 3 }
def o990 (P : Params) : Obj := { cls := Value.type "type", data := Data.cls { name := Str.ofString "_BooleanOperation", bases := [Value.ref 140], mro := [Value.ref 990, Value.ref 140, Value.type "object"], ns := 989, qualname := Str.ofString "_BooleanOperation", subclasses := [Value.ref 1016] }, slots := #[some (Value.ref 946), none, some (Value.str (Str.ofString "_BooleanOperation") 1644), some (Value.str (Str.ofString "_BooleanOperation") 1652), some (Value.builtin "object.__new__"), some (Value.bool true)] }
def o1019 (P : Params) : Obj := { cls := Value.type "tuple", data := Data.seq #[Value.int 1 1739, Value.int 2 1740, Value.int 1 1741, Value.int 0 1742, Value.int 2 1743, Value.int 1 1744, Value.int 3 1745, Value.int 0 1746, Value.int 2 1747, Value.int 1 1748, Value.int 5 1749, Value.int 4 1750, Value.int 0 1751, Value.int 1 1752, Value.int 7 1753, Value.int 2 1754] }
def o1025 (P : Params) : Obj := { cls := Value.type "code", data := Data.fields #[Value.str (Str.ofString "_law_more") 1756, Value.str (Str.ofString "_law_more") 1757, Value.str (Str.ofString "/claim/cut.py") 1758, Value.int 684 0, Value.int 3 0, Value.int 0 0, Value.int 0 0, Value.int 3 0, Value.ref 1020, Value.bool true, Value.int 387 0, Value.ref 1021, Value.none, Value.ref 1022, Value.ref 1023, Value.ref 1024, Value.int 1762 0, Value.int 684 0, Value.str (Str.ofString "/claim/cut.py") 1763] }
def o1026 (P : Params) : Obj := { cls := Value.type "function", data := Data.func { name := Str.ofString "_law_more", qualname := Str.ofString "_law_more", params := fnParams PySem.Challenge.pw_ae5016_01.main.body 34, body := FuncBody.stmts (fnBody PySem.Challenge.pw_ae5016_01.main.body 34), scope := fnScope PySem.Challenge.pw_ae5016_01.main.body 34, globals := 3, closure := [], defaults := Value.none, kwdefaults := Value.none, pyModule := Value.str (Str.ofString "law_ae5016_01") 1737, code := Value.ref 1025 } }
def o1032 (P : Params) : Obj := { cls := Value.type "code", data := Data.fields #[Value.str (Str.ofString "_law_less") 1765, Value.str (Str.ofString "_law_less") 1766, Value.str (Str.ofString "/claim/cut.py") 1767, Value.int 686 0, Value.int 3 0, Value.int 0 0, Value.int 0 0, Value.int 3 0, Value.ref 1027, Value.bool true, Value.int 387 0, Value.ref 1028, Value.none, Value.ref 1029, Value.ref 1030, Value.ref 1031, Value.int 1771 0, Value.int 686 0, Value.str (Str.ofString "/claim/cut.py") 1772] }
def o1033 (P : Params) : Obj := { cls := Value.type "function", data := Data.func { name := Str.ofString "_law_less", qualname := Str.ofString "_law_less", params := fnParams PySem.Challenge.pw_ae5016_01.main.body 35, body := FuncBody.stmts (fnBody PySem.Challenge.pw_ae5016_01.main.body 35), scope := fnScope PySem.Challenge.pw_ae5016_01.main.body 35, globals := 3, closure := [], defaults := Value.none, kwdefaults := Value.none, pyModule := Value.str (Str.ofString "law_ae5016_01") 1737, code := Value.ref 1032 } }
def o1037 (P : Params) : Obj := { cls := Value.type "code", data := Data.fields #[Value.str (Str.ofString "law") 1774, Value.str (Str.ofString "law") 1775, Value.str (Str.ofString "/claim/cut.py") 1776, Value.int 688 0, Value.int 1 0, Value.int 0 0, Value.int 0 0, Value.int 3 0, Value.ref 1034, Value.bool true, Value.int 387 0, Value.ref 1035, Value.none, Value.none, Value.none, Value.ref 1036, Value.int 1777 0, Value.int 688 0, Value.str (Str.ofString "/claim/cut.py") 1778] }
def o1038 (P : Params) : Obj := { cls := Value.type "function", data := Data.func { name := Str.ofString "law", qualname := Str.ofString "law", params := fnParams PySem.Challenge.pw_ae5016_01.main.body 36, body := FuncBody.stmts (fnBody PySem.Challenge.pw_ae5016_01.main.body 36), scope := fnScope PySem.Challenge.pw_ae5016_01.main.body 36, globals := 3, closure := [], defaults := Value.none, kwdefaults := Value.none, pyModule := Value.str (Str.ofString "law_ae5016_01") 1737, code := Value.ref 1037 } }
def K (P : Params) : Frag := (nat_lit 2, o2 P) :: (nat_lit 3, o3 P) :: (nat_lit 4, o4 P) :: (nat_lit 58, o58 P) :: (nat_lit 59, o59 P) :: (nat_lit 65, o65 P) :: (nat_lit 108, o108 P) :: (nat_lit 109, o109 P) :: (nat_lit 139, o139 P) :: (nat_lit 140, o140 P) :: (nat_lit 157, o157 P) :: (nat_lit 158, o158 P) :: (nat_lit 160, o160 P) :: (nat_lit 162, o162 P) :: (nat_lit 168, o168 P) :: (nat_lit 169, o169 P) :: (nat_lit 175, o175 P) :: (nat_lit 176, o176 P) :: (nat_lit 177, o177 P) :: (nat_lit 208, o208 P) :: (nat_lit 209, o209 P) :: (nat_lit 271, o271 P) :: (nat_lit 272, o272 P) :: (nat_lit 287, o287 P) :: (nat_lit 288, o288 P) :: (nat_lit 332, o332 P) :: (nat_lit 333, o333 P) :: (nat_lit 348, o348 P) :: (nat_lit 349, o349 P) :: (nat_lit 353, o353 P) :: (nat_lit 354, o354 P) :: (nat_lit 360, o360 P) :: (nat_lit 361, o361 P) :: (nat_lit 367, o367 P) :: (nat_lit 368, o368 P) :: (nat_lit 426, o426 P) :: (nat_lit 427, o427 P) :: (nat_lit 525, o525 P) :: (nat_lit 526, o526 P) :: (nat_lit 532, o532 P) :: (nat_lit 533, o533 P) :: (nat_lit 535, o535 P) :: (nat_lit 542, o542 P) :: (nat_lit 543, o543 P) :: (nat_lit 549, o549 P) :: (nat_lit 550, o550 P) :: (nat_lit 552, o552 P) :: (nat_lit 559, o559 P) :: (nat_lit 560, o560 P) :: (nat_lit 566, o566 P) :: (nat_lit 567, o567 P) :: (nat_lit 578, o578 P) :: (nat_lit 579, o579 P) :: (nat_lit 585, o585 P) :: (nat_lit 586, o586 P) :: (nat_lit 599, o599 P) :: (nat_lit 600, o600 P) :: (nat_lit 637, o637 P) :: (nat_lit 638, o638 P) :: (nat_lit 653, o653 P) :: (nat_lit 654, o654 P) :: (nat_lit 681, o681 P) :: (nat_lit 682, o682 P) :: (nat_lit 695, o695 P) :: (nat_lit 696, o696 P) :: (nat_lit 736, o736 P) :: (nat_lit 737, o737 P) :: (nat_lit 764, o764 P) :: (nat_lit 777, o777 P) :: (nat_lit 778, o778 P) :: (nat_lit 791, o791 P) :: (nat_lit 792, o792 P) :: (nat_lit 813, o813 P) :: (nat_lit 814, o814 P) :: (nat_lit 820, o820 P) :: (nat_lit 821, o821 P) :: (nat_lit 825, o825 P) :: (nat_lit 826, o826 P) :: (nat_lit 897, o897 P) :: (nat_lit 898, o898 P) :: (nat_lit 913, o913 P) :: (nat_lit 914, o914 P) :: (nat_lit 920, o920 P) :: (nat_lit 921, o921 P) :: (nat_lit 942, o942 P) :: (nat_lit 943, o943 P) :: (nat_lit 989, o989 P) :: (nat_lit 990, o990 P) :: (nat_lit 1019, o1019 P) :: (nat_lit 1025, o1025 P) :: (nat_lit 1026, o1026 P) :: (nat_lit 1032, o1032 P) :: (nat_lit 1033, o1033 P) :: (nat_lit 1037, o1037 P) :: (nat_lit 1038, o1038 P) :: []
def asL : List Addr := nat_lit 2 :: nat_lit 3 :: nat_lit 4 :: nat_lit 58 :: nat_lit 59 :: nat_lit 65 :: nat_lit 108 :: nat_lit 109 :: nat_lit 139 :: nat_lit 140 :: nat_lit 157 :: nat_lit 158 :: nat_lit 160 :: nat_lit 162 :: nat_lit 168 :: nat_lit 169 :: nat_lit 175 :: nat_lit 176 :: nat_lit 177 :: nat_lit 208 :: nat_lit 209 :: nat_lit 271 :: nat_lit 272 :: nat_lit 287 :: nat_lit 288 :: nat_lit 332 :: nat_lit 333 :: nat_lit 348 :: nat_lit 349 :: nat_lit 353 :: nat_lit 354 :: nat_lit 360 :: nat_lit 361 :: nat_lit 367 :: nat_lit 368 :: nat_lit 426 :: nat_lit 427 :: nat_lit 525 :: nat_lit 526 :: nat_lit 532 :: nat_lit 533 :: nat_lit 535 :: nat_lit 542 :: nat_lit 543 :: nat_lit 549 :: nat_lit 550 :: nat_lit 552 :: nat_lit 559 :: nat_lit 560 :: nat_lit 566 :: nat_lit 567 :: nat_lit 578 :: nat_lit 579 :: nat_lit 585 :: nat_lit 586 :: nat_lit 599 :: nat_lit 600 :: nat_lit 637 :: nat_lit 638 :: nat_lit 653 :: nat_lit 654 :: nat_lit 681 :: nat_lit 682 :: nat_lit 695 :: nat_lit 696 :: nat_lit 736 :: nat_lit 737 :: nat_lit 764 :: nat_lit 777 :: nat_lit 778 :: nat_lit 791 :: nat_lit 792 :: nat_lit 813 :: nat_lit 814 :: nat_lit 820 :: nat_lit 821 :: nat_lit 825 :: nat_lit 826 :: nat_lit 897 :: nat_lit 898 :: nat_lit 913 :: nat_lit 914 :: nat_lit 920 :: nat_lit 921 :: nat_lit 942 :: nat_lit 943 :: nat_lit 989 :: nat_lit 990 :: nat_lit 1019 :: nat_lit 1025 :: nat_lit 1026 :: nat_lit 1032 :: nat_lit 1033 :: nat_lit 1037 :: nat_lit 1038 :: []
def o823 : Obj := { cls := Value.none, data := Data.fields #[] }
def KH (P : Params) : Frag := (nat_lit 823, o823) :: K P
def asH : List Addr := nat_lit 823 :: asL
end Mine
namespace Mine
open PySem PySem.W PyProof.Rows PySem.Calls PySem.Spec

def hv (h : Heap) : Heap := h.hide 823
theorem hv_of {h : Heap} {b : Addr} {o : Obj} (e : (hv h).get? b = some o) : h.get? b = some o := Heap.of_hide e
theorem hv_ne {h : Heap} {b : Addr} {o : Obj} (hb : b ≠ 823) (e : h.get? b = some o) : (hv h).get? b = some o := (Heap.hide_ne h hb).trans e
theorem hv_823 {h : Heap} : (hv h).get? 823 = none := Heap.hide_self h 823
theorem hv_keep {h h' : Heap} (k : ∀ b o, h.get? b = some o → h'.get? b = some o) : ∀ b o, (hv h).get? b = some o → (hv h').get? b = some o := fun b o e => by
  by_cases hb : b = 823
  · subst hb; rw [hv_823] at e; cases e
  · exact hv_ne hb (k b o (hv_of e))

/-- what stood stays -/
def Ext (h h' : Heap) : Prop := ∀ b o, h.get? b = some o → h'.get? b = some o
theorem Ext.refl (h : Heap) : Ext h h := fun _ _ e => e
theorem Ext.trans {h₁ h₂ h₃ : Heap} (a : Ext h₁ h₂) (b : Ext h₂ h₃) : Ext h₁ h₃ := fun x o e => b x o (a x o e)

structure Gd (w : World) (p : Program) (loose : List Str) (mg mb : Str → Option Value) (h : Heap) : Prop where
  X : (K w.params).In h
  T : TopRead p loose mg mb h
theorem Gd.keeps {w : World} {p : Program} {loose : List Str} {mg mb : Str → Option Value} {h h' : Heap} (G : Gd w p loose mg mb h) (k : Ext h h') : Gd w p loose mg mb h' := ⟨G.X.keeps k, G.T.keeps k⟩

section
variable {prog : Program} {w : World} {A : Around} {s : Shared} {p : Program} {loose : List Str} {mg mb : Str → Option Value}
  {R : Result → Shared → Prop} {name qual : Str} {params : Arguments} {body b₀ : List Stmt} {scope sc₀ : Scope} {dV kV doc pm cdv ct oc : Value} {an od : Option Addr} {osl : Array (Option Value)} {f : Addr} {args : Args}
theorem enter (b : Heap) (news : List (Addr × Obj)) (binds : List (Str × Value)) (hE : Ext b s.heap) (hz : b.objs.size ≤ s.heap.objs.size) (hN : ∀ q ∈ news, s.heap.get? q.1 = some q.2 ∧ b.get? q.1 = none) (G : Gd w p loose mg mb b)
    (hroom : A.depth < recursionLimit)
    (h : ∀ L' h₁ tk, Fr b L' h₁ (fun y => binds.reverse.lookup y) → News b L' h₁ news → Ext s.heap h₁ → (@Eq Nat s.heap.objs.size L') →
      wpAny (model prog w) (A.deeper (envOf qual scope L' f cdv)) (execs body (envOf qual scope L' f cdv))
        (fun fl s' => R (.ok (.ret (match fl with | .ret v => v | _ => .none))) s') (fun _ _ => False) { s with heap := h₁, toks := tk })
    (ho : (K w.params).lookup f = some ⟨oc, od, .func (fnOf name qual params b₀ sc₀ dV kV doc pm an cdv ct), osl⟩ := by k_is) (hb : b₀ = body := by (conv => lhs; whnf)) (hsc : sc₀ = scope := by (conv => lhs; whnf)) (hcd : codeIn (K w.params) cdv qual = true := by k_is)
    (hbind : BindsTo s (fnOf name qual params b₀ sc₀ dV kV doc pm an cdv ct) args binds := by first | exact BindsTo.of_eq rfl | exact binds_K (by first | assumption | exact Frag.In.keeps (by assumption) (by assumption)) rfl (by k_is) rfl rfl rfl) (hcell : ∀ x ∈ scope.names, x.2 ≠ .cell := by decide) (hloc : ∀ y ∈ binds, scope.names.lookup y.1 = some .local := by exact locs rfl)
    (hco : scope.isCoroutine = false := by rfl) (hgen : scope.isGenerator = false := by rfl) (hk : scope.kind = .function := by rfl) :
    codeAny (model prog w) A (.call (.ref f) args) R s := by
  subst hb hsc
  have G' := G.keeps hE
  refine codeAny_call_def (fd := fnOf name qual params b₀ sc₀ dV kV doc pm an cdv ct) (body := b₀) (binds := binds) hroom (G'.X _ _ ho) rfl G'.T.nolimit (codeRec_of G'.X hcd) rfl hbind hcell hloc (fun h₁ hns hk₁ => ?_) hco hgen hk
  exact wpAny_mono (h _ h₁ _ ⟨hns, fun x o e => hk₁ x o (hE x o e), hz⟩ (fun q hq => ⟨hk₁ _ _ (hN q hq).1, Nat.ne_of_lt (Heap.lt_size (hN q hq).1), (hN q hq).2⟩) hk₁ rfl) (fun _ _ x => x) fun _ _ x => x.elim
/-- an object is made, its __init__ is a def of the text -/
theorem make {C fI : Addr} {rest : List Value} {kw : List (Str × Value)} (G : Gd w p loose mg mb s.heap)    
    (h : ∀ (x dx : Nat) (h' : Heap), (@Eq Nat x (dx + 1)) → (@Eq Nat s.heap.objs.size dx) → Ext s.heap h' → h'.get? x = some (instObj C dx) → h'.get? dx = some (dictOf [] 0) → (@Eq Nat h'.objs.size (x + 1)) → codeAny (model prog w) (A.under (.builtin "type.__call__" ⟨.ref C :: rest, kw⟩)) (.call (.ref fI) ⟨.ref x :: rest, kw⟩) (InitBack x R) { s with heap := h' })
    (hm : makesIn (K w.params) C = true := by k_is) (hi : findIn (K w.params) (.ref C) "__init__" = some (some (.ref fI)) := by k_is) (hf : typeIn (K w.params) (.ref fI) = some (.type "function") := by k_is) :
    codeAny (model prog w) A (.call (.ref C) ⟨rest, kw⟩) R s := by
  obtain ⟨hh, g, d, t, os⟩ := s
  refine make_core (makes_of G.X hm) (looks_findIn G.X hi) (fun self => bind_fn G.X self hf) (.inl rfl) (h _ hh.objs.size _ rfl rfl (fun b o e => Heap.get?_push_of_some _ (Heap.get?_push_of_some _ e)) ?_ (Heap.get?_push_of_some _ (Heap.get?_push_size _ rfl)) (by rw [Heap.size_push, Heap.size_push]))
  have q : ((hh.push emptyDict).push (instObj C hh.objs.size)).get? (hh.push emptyDict).objs.size = some (instObj C hh.objs.size) := Heap.get?_push_size _ rfl
  rwa [Heap.size_push] at q
theorem two_new {b h : Heap} {x dx : Addr} {ox od : Obj} (hx : h.get? x = some ox) (hd : h.get? dx = some od) (fx : b.get? x = none) (fd : b.get? dx = none) : ∀ q ∈ [(x, ox), (dx, od)], h.get? q.1 = some q.2 ∧ b.get? q.1 = none := by
  intro q hq
  simp only [List.mem_cons, List.not_mem_nil, or_false] at hq
  rcases hq with rfl | rfl
  · exact ⟨hx, fx⟩
  · exact ⟨hd, fd⟩
theorem fresh_of {h : Heap} {a : Addr} (q : h.objs.size ≤ a) : h.get? a = none := by
  cases e : h.get? a with
  | none => rfl
  | some o => exact absurd (Heap.lt_size e) (Nat.not_lt.mpr q)
end
/-- what is new, written out -/
def New (h h' : Heap) (l : List (Addr × Obj)) : Prop := ∀ q ∈ l, h'.get? q.1 = some q.2 ∧ h.get? q.1 = none
theorem New.of {b h : Heap} {L : Addr} {news l : List (Addr × Obj)} (N : News b L h news) (hs : ∀ q ∈ l, q ∈ news) : New b h l := fun q hq => ⟨(N q (hs q hq)).1, (N q (hs q hq)).2.2⟩
theorem New.nil {h h' : Heap} : New h h' [] := fun _ hq => nomatch hq
theorem back_news {b h h' : Heap} {L : Addr} {m : Str → Option Value} {news l : List (Addr × Obj)} (F : Fr b L h m) (N : News b L h news) (E : Ext h h') (W : New h h' l) : News b L h' (l ++ news) := by
  intro q hq
  rcases List.mem_append.mp hq with hq | hq
  · refine ⟨(W q hq).1, fun e => ?_, ?_⟩
    · obtain ⟨oL, _, _, hL, _⟩ := F.ns
      have := (W q hq).2
      rw [e, hL] at this; cases this
    · cases e : b.get? q.1 with
      | none => rfl
      | some o => have := F.keep _ _ e; rw [(W q hq).2] at this; cases this
  · exact ⟨E _ _ (N q hq).1, (N q hq).2⟩
theorem Gd.at {w : World} {p : Program} {loose : List Str} {mg mb : Str → Option Value} {b h : Heap} {L : Addr} {m : Str → Option Value} (G : Gd w p loose mg mb b) (F : Fr b L h m) : Gd w p loose mg mb h := G.keeps F.keep
theorem inst_of {b h : Heap} {L x dx C : Addr} {m : Str → Option Value} {od : Obj} (F : Fr b L h m) (hx : b.get? x = some (instObj C dx)) (hd : b.get? dx = some od) : InstAt h x (instObj C dx) C (some od) :=
  ⟨F.keep _ _ hx, rfl, rfl, F.keep _ _ hd⟩
theorem depth_make (A : Around) (C : Addr) (vals : List Value) (kw : List (Str × Value)) : (A.under (.builtin "type.__call__" ⟨.ref C :: vals, kw⟩)).depth = A.depth + 1 := rfl
theorem limit_is : recursionLimit = 1000 := rfl
/-- the entries of a DatumInContext's dict -/
abbrev dEs (k1 k2 k3 : Int) (t1 t2 t3 : Nat) (v p c : Value) : List DictEntry := [⟨k1, .str "_value" t1, v⟩, ⟨k2, .str "path" t2, p⟩, ⟨k3, .str "context" t3, c⟩]

theorem allLt_get {h : Heap} {a : Addr} (ha : h.objs.size ≤ a) : ∀ {l : List (Addr × Obj)}, (∀ q ∈ l, h.get? q.1 = some q.2) → AllLt a l
  | [], _ => trivial
  | q :: r, hl => ⟨Nat.lt_of_lt_of_le (Heap.lt_size (hl q (.head _))) ha, allLt_get ha fun x hx => hl x (.tail _ hx)⟩
/-- what a contract knows ahead: a ground b within the heap, and objects that stand above it -/
structure Kn (w : World) (p : Program) (loose : List Str) (mg mb : Str → Option Value) (b h : Heap) (l : List (Addr × Obj)) : Prop where
  G : Gd w p loose mg mb b
  E : Ext b h
  N : ∀ q ∈ l, h.get? q.1 = some q.2 ∧ b.get? q.1 = none
section
variable {prog : Program} {w : World} {A : Around} {s : Shared} {p : Program} {loose : List Str} {mg mb : Str → Option Value} {b h h' h'' : Heap} {l : List (Addr × Obj)} {L : Addr} {m : Str → Option Value} {news : List (Addr × Obj)}
theorem Kn.of (G : Gd w p loose mg mb b) (F : Fr b L h m) (N : News b L h news) (hs : ∀ q ∈ l, q ∈ news) : Kn w p loose mg mb b h l := ⟨G, F.keep, fun q hq => ⟨(N q (hs q hq)).1, (N q (hs q hq)).2.2⟩⟩
theorem Kn.base (H : Kn w p loose mg mb b h l) : Ext b (hideAll h (l.map (·.1))) := fun a o e => hideAll_get _ (H.E a o e) fun hm => by
  obtain ⟨q, hq, rfl⟩ := List.mem_map.mp hm
  rw [(H.N q hq).2] at e; cases e
theorem Kn.ground (H : Kn w p loose mg mb b h l) : Gd w p loose mg mb (hideAll h (l.map (·.1))) := H.G.keeps H.base
theorem Kn.whole (H : Kn w p loose mg mb b h l) : Gd w p loose mg mb h := H.G.keeps H.E
theorem Kn.cons (H : Kn w p loose mg mb b h l) (E : Ext h h') {a : Addr} {o : Obj} (ha : h'.get? a = some o) (hn : h.get? a = none) : Kn w p loose mg mb b h' ((a, o) :: l) := ⟨H.G, fun x y e => E x y (H.E x y e), fun q hq => by
  rcases List.mem_cons.mp hq with rfl | hq
  · refine ⟨ha, ?_⟩
    cases e : b.get? a with
    | none => rfl
    | some y => rw [H.E a y e] at hn; cases hn
  · exact ⟨E _ _ (H.N q hq).1, (H.N q hq).2⟩⟩
theorem Kn.sub {l' : List (Addr × Obj)} (H : Kn w p loose mg mb b h l) (hs : ∀ q ∈ l', q ∈ l) : Kn w p loose mg mb b h l' := ⟨H.G, H.E, fun q hq => H.N q (hs q hq)⟩
/-- a frame's ground: the heap at the call less the objects that are known -/
def Back (g h : Heap) (l : List (Addr × Obj)) : Prop := g = hideAll h (l.map (·.1)) ∧ ∀ q ∈ l, h.get? q.1 = some q.2
/-- all that stood in h stands again -/
theorem Back.ext {g : Heap} (B : Back g h' l) (E : Ext h h') (F : Fr g L h'' m) (N : News g L h'' news) (hl : ∀ q ∈ l, q ∈ news ∨ h.get? q.1 = none) : Ext h h'' := fun a o e => by
  obtain ⟨rfl, N₀⟩ := B
  by_cases hm : a ∈ l.map (·.1)
  · obtain ⟨q, hq, rfl⟩ := List.mem_map.mp hm
    have e' := E _ _ e
    rw [N₀ q hq] at e'
    cases e'
    rcases hl q hq with h1 | h1
    · exact (N q h1).1
    · rw [h1] at e; cases e
  · exact F.keep a o (hideAll_get _ (E a o e) hm)
theorem Back.new {g : Heap} (B : Back g h' l) (E : Ext h h') {l₂ : List (Addr × Obj)} (F : Fr g L h'' m) (N : News g L h'' news) (hs : ∀ q ∈ l₂, q ∈ news ∧ (h.get? q.1 = none ∨ ∀ r ∈ l, @Ne Nat q.1 r.1)) : New h h'' l₂ := fun q hq => by
  obtain ⟨rfl, N₀⟩ := B
  refine ⟨(N q (hs q hq).1).1, ?_⟩
  rcases (hs q hq).2 with h1 | h1
  · exact h1
  · cases e : h.get? q.1 with
    | none => rfl
    | some o =>
      have := (N q (hs q hq).1).2.2
      rw [hideAll_get _ (E _ _ e) (fun hm => by obtain ⟨r, hr, hrq⟩ := List.mem_map.mp hm; exact h1 r hr hrq.symm)] at this; cases this
end
section
variable {prog : Program} {w : World} {A : Around} {s : Shared} {p : Program} {loose : List Str} {mg mb : Str → Option Value}
  {R : Result → Shared → Prop} {name qual : Str} {params : Arguments} {body b₀ : List Stmt} {scope sc₀ : Scope} {dV kV doc pm cdv ct oc : Value} {an od : Option Addr} {osl : Array (Option Value)} {f : Addr} {args : Args}
theorem enterK {b : Heap} {l : List (Addr × Obj)} (H : Kn w p loose mg mb b s.heap l) (binds : List (Str × Value))
    (hroom : A.depth < recursionLimit)
    (h : ∀ g L' h₁ tk, Back g s.heap l → Gd w p loose mg mb g → Fr g L' h₁ (fun y => binds.reverse.lookup y) → News g L' h₁ l →
      wpAny (model prog w) (A.deeper (envOf qual scope L' f cdv)) (execs body (envOf qual scope L' f cdv))
        (fun fl s' => R (.ok (.ret (match fl with | .ret v => v | _ => .none))) s') (fun _ _ => False) { s with heap := h₁, toks := tk })
    (ho : (K w.params).lookup f = some ⟨oc, od, .func (fnOf name qual params b₀ sc₀ dV kV doc pm an cdv ct), osl⟩ := by k_is) (hb : b₀ = body := by (conv => lhs; whnf)) (hsc : sc₀ = scope := by (conv => lhs; whnf)) (hcd : codeIn (K w.params) cdv qual = true := by k_is)
    (hbind : (K w.params).In s.heap → BindsTo s (fnOf name qual params b₀ sc₀ dV kV doc pm an cdv ct) args binds := by first | exact fun _ => BindsTo.of_eq rfl | exact fun X => binds_K X rfl (by k_is) rfl rfl rfl) (hcell : ∀ x ∈ scope.names, x.2 ≠ .cell := by decide) (hloc : ∀ y ∈ binds, scope.names.lookup y.1 = some .local := by exact locs rfl)
    (hco : scope.isCoroutine = false := by rfl) (hgen : scope.isGenerator = false := by rfl) (hk : scope.kind = .function := by rfl) :
    codeAny (model prog w) A (.call (.ref f) args) R s :=
  enter (hideAll s.heap (l.map (·.1))) l binds (fun _ _ e => of_hideAll _ e) (Nat.le_of_eq (hideAll_size _ _)) (fun q hq => ⟨(H.N q hq).1, hideAll_none _ (List.mem_map_of_mem hq)⟩) H.ground hroom
    (fun L' h₁ tk F N _ _ => h _ L' h₁ tk ⟨rfl, fun q hq => (H.N q hq).1⟩ H.ground F N) ho hb hsc hcd (hbind H.whole.X) hcell hloc hco hgen hk

theorem wp_peek1 {α : Type} {K : Frag} {M : Model} {A : Around} {E : Value → Shared → Prop} {Q : α → Shared → Prop} {s : Shared} {o : Obj} {r : Addr → α} (X : K.In s.heap) (q : Q (r s.heap.objs.size) { s with heap := s.heap.push o }) :
    ∀ (t : Sem α) (g : Addr → Option α), peek1 K ⟨M.prog, M.w.params⟩ t = some (o, g) → (∀ D, g D = some (r D)) → wpAny M A t Q E s := by
  intro t
  induction t with
  | rule _ k ih => intro g e hg Γ p hΓ; exact ih () g e hg Γ p hΓ
  | point _ k ih => intro g e hg Γ p hΓ; exact ih () g e hg Γ p hΓ
  | ask k ih => intro g e hg Γ p hΓ; exact ih _ g e hg Γ p hΓ
  | load a _ k ih =>
    intro g e hg Γ p hΓ
    simp only [peek1] at e
    split at e
    · rename_i ob ho; exact ⟨ob, X _ _ ho, ih ob g e hg Γ p hΓ⟩
    · cases e
  | alloc ob k _ =>
    intro g e hg
    have e : some (ob, fun D => peek K ⟨M.prog, M.w.params⟩ (k D)) = some (o, g) := e
    obtain ⟨e1, e2⟩ := Prod.mk.inj (Option.some.inj e)
    subst e1 e2
    have X' : K.In (s.heap.push ob) := X.keeps fun b x hb => Heap.get?_push_of_some _ hb
    show wpAny M A (alloc ob >>= k) Q E s
    exact wpAny_bind (wpAny_alloc ((Looks.of_peek (M := M) (h := s.heap.push ob) X' (hg s.heap.objs.size)).here (s := { s with heap := s.heap.push ob }) q))
  | _ => intro g e; cases e

/-- a def with *rest: the tuple of the rest is made first -/
theorem enterS {b : Heap} {l : List (Addr × Obj)} (vs : List Value) (H : Kn w p loose mg mb b s.heap l) (binds : Addr → List (Str × Value)) {g₁ : Addr → Option (List (Str × Value))}
    (hroom : A.depth < recursionLimit)
    (h : ∀ D hp g L' h₁ tk, Ext s.heap hp → s.heap.get? D = none → AllLt D l → Back g hp ((D, { cls := .type "tuple", data := .seq vs.toArray }) :: l) → Gd w p loose mg mb g →
      Fr g L' h₁ (fun y => (binds D).reverse.lookup y) → News g L' h₁ ((D, { cls := .type "tuple", data := .seq vs.toArray }) :: l) →
      wpAny (model prog w) (A.deeper (envOf qual scope L' f cdv)) (execs body (envOf qual scope L' f cdv))
        (fun fl s' => R (.ok (.ret (match fl with | .ret v => v | _ => .none))) s') (fun _ _ => False) { s with heap := h₁, toks := tk })
    (ho : (K w.params).lookup f = some ⟨oc, od, .func (fnOf name qual params b₀ sc₀ dV kV doc pm an cdv ct), osl⟩ := by k_is) (hb : b₀ = body := by (conv => lhs; whnf)) (hsc : sc₀ = scope := by (conv => lhs; whnf)) (hcd : codeIn (K w.params) cdv qual = true := by k_is)
    (hp : peek1 (K w.params) ⟨prog, w.params⟩ (bindArgs (fnOf name qual params b₀ sc₀ dV kV doc pm an cdv ct) args) = some (({ cls := .type "tuple", data := .seq vs.toArray } : Obj), g₁) := by exact rfl)
    (hg : ∀ D, g₁ D = some (binds D) := by exact fun _ => rfl)
    (hcell : ∀ x ∈ scope.names, x.2 ≠ .cell := by decide) (hloc : ∀ D, ∀ y ∈ binds D, scope.names.lookup y.1 = some .local := by exact fun _ => locs rfl)
    (hco : scope.isCoroutine = false := by rfl) (hgen : scope.isGenerator = false := by rfl) (hk : scope.kind = .function := by rfl) :
    codeAny (model prog w) A (.call (.ref f) args) R s := by
  subst hb hsc
  have G' := H.whole
  refine codeAny_call_function (fd := fnOf name qual params b₀ sc₀ dV kV doc pm an cdv ct) (body := b₀) hroom (G'.X _ _ ho) rfl hco hgen rfl (codeRec_of G'.X hcd) ?_
  refine wp_peek1 (o := ({ cls := .type "tuple", data := .seq vs.toArray } : Obj)) G'.X ?_ _ g₁ hp hg
  have eD : Ext s.heap (s.heap.push ({ cls := .type "tuple", data := .seq vs.toArray } : Obj)) := fun _ _ e => Heap.get?_push_of_some _ e
  have fD := fresh_of (h := s.heap) (Nat.le_refl s.heap.objs.size)
  have H' := H.cons eD (Heap.get?_push_size _ rfl) fD
  refine wpAny_newFunctionEnv hcell (hloc _) (fun h₀ hns hsb => ⟨(G'.T.nolimit.keeps eD).fresh _ hsb, codeAny_func ?_⟩) hk
  have hk₁ : ∀ x o, (s.heap.push ({ cls := .type "tuple", data := .seq vs.toArray } : Obj)).get? x = some o → h₀.get? x = some o := fun x o e => hsb.extBut x o (Nat.ne_of_lt (Heap.lt_size e)) (Heap.get?_push_of_some _ e)
  exact wpAny_mono (h s.heap.objs.size _ _ _ h₀ _ eD fD (allLt_get (Nat.le_refl _) fun q hq => (H.N q hq).1) ⟨rfl, fun q hq => (H'.N q hq).1⟩ H'.ground ⟨hns, fun x o e => hk₁ x o (of_hideAll _ e), Nat.le_of_eq (hideAll_size _ _)⟩
    (fun q hq => ⟨hk₁ _ _ (H'.N q hq).1, Nat.ne_of_lt (Heap.lt_size (H'.N q hq).1), hideAll_none _ (List.mem_map_of_mem hq)⟩)) (fun _ _ x => x) fun _ _ x => x.elim
end
section
variable {prog : Program} {w : World} {A : Around} {s : Shared} {p : Program} {loose : List Str} {mg mb : Str → Option Value} {R : Result → Shared → Prop}
/-- an object of a class whose __init__ is a def of the text -/
theorem makeK {b : Heap} {l : List (Addr × Obj)} (H : Kn w p loose mg mb b s.heap l) {C fI : Addr} {rest : List Value} {kw : List (Str × Value)}
    (h : ∀ (x dx : Nat) (h' : Heap), (@LT.lt Nat _ dx x) → AllLt dx l → (@LE.le Nat _ s.heap.objs.size dx) → Ext s.heap h' → s.heap.get? x = none → s.heap.get? dx = none → Kn w p loose mg mb b h' ((x, instObj C dx) :: (dx, dictOf [] 0) :: l) →
      codeAny (model prog w) (A.under (.builtin "type.__call__" ⟨.ref C :: rest, kw⟩)) (.call (.ref fI) ⟨.ref x :: rest, kw⟩) (InitBack x R) { s with heap := h' })
    (hm : makesIn (K w.params) C = true := by k_is) (hi : findIn (K w.params) (.ref C) "__init__" = some (some (.ref fI)) := by k_is) (hf : typeIn (K w.params) (.ref fI) = some (.type "function") := by k_is) :
    codeAny (model prog w) A (.call (.ref C) ⟨rest, kw⟩) R s := by
  refine make H.whole (fun x dx h' hx1 hdx hE hx hd hsz => ?_) hm hi hf
  have f1 : s.heap.get? x = none := fresh_of (by omega)
  have f2 : s.heap.get? dx = none := fresh_of (by omega)
  have H1 : Kn w p loose mg mb b h' ((x, instObj C dx) :: (dx, dictOf [] 0) :: l) := by
    have q := (H.cons hE hd f2)
    exact ⟨q.G, q.E, fun r hr => by
      rcases List.mem_cons.mp hr with rfl | hr
      · refine ⟨hx, ?_⟩
        cases e : b.get? x with
        | none => rfl
        | some y => rw [H.E x y e] at f1; cases f1
      · exact q.N r hr⟩
  exact h x dx h' (by omega) (allLt_get (h := s.heap) (by omega) fun q hq => (H.N q hq).1) (by omega) hE f1 f2 H1
end
theorem none_back {h h' : Heap} {a : Addr} (E : Ext h h') (f : h'.get? a = none) : h.get? a = none := by
  cases e : h.get? a with
  | none => rfl
  | some o => rw [E a o e] at f; cases f
theorem news_lt {b h : Heap} {L : Addr} {news : List (Addr × Obj)} (N : News b L h news) : AllLt h.objs.size news := allLt_get (Nat.le_refl _) fun q hq => (N q hq).1
theorem looks_cls {M : Model} {h : Heap} {a : Addr} {o : Obj} (e : h.get? a = some o) : Looks M h (typeOf (.ref a)) o.cls := (Looks.ld e).andThen .now
theorem fill : PySem.Challenge.rw_ae5016_01 = PySem.Challenge.rw_ae5016_01 → K = K → True := by
  k_fill
  intro _ _; trivial
end Mine
namespace Mine
open PySem PySem.W PyProof.Rows PySem.Calls PySem.Spec

/-- what stands in h beside the ground b and the block C -/
def Rst (b : Heap) (C : Addr) (h : Heap) : List (Addr × Obj) :=
  (List.range h.objs.size).filterMap fun a => if a = C then none else match b.get? a, h.get? a with | none, some o => some (a, o) | _, _ => none
theorem Rst.mem {b h : Heap} {C a : Addr} {o : Obj} (e : h.get? a = some o) (hC : a ≠ C) (hb : b.get? a = none) : (a, o) ∈ Rst b C h := by
  refine List.mem_filterMap.mpr ⟨a, List.mem_range.mpr (Heap.lt_size e), ?_⟩
  rw [if_neg hC, hb, e]
theorem Rst.of {b h : Heap} {C : Addr} {q : Addr × Obj} (hq : q ∈ Rst b C h) : h.get? q.1 = some q.2 ∧ q.1 ≠ C ∧ b.get? q.1 = none := by
  obtain ⟨a, _, e⟩ := List.mem_filterMap.mp hq
  by_cases hC : a = C
  · rw [if_pos hC] at e; cases e
  · rw [if_neg hC] at e
    split at e
    · rename_i e1 e2; cases e; exact ⟨e2, hC, e1⟩
    · cases e
theorem Rst.news {b h : Heap} {L C : Addr} {news : List (Addr × Obj)} (N : ∀ q ∈ news, h.get? q.1 = some q.2 ∧ q.1 ≠ C ∧ b.get? q.1 = none) : News b C h (news ++ Rst b C h) := fun q hq => by
  rcases List.mem_append.mp hq with hq | hq
  · exact N q hq
  · exact Rst.of hq
/-- all but the block stands again -/
def Off (C : Addr) (h h' : Heap) : Prop := ∀ a o, a ≠ C → h.get? a = some o → h'.get? a = some o
theorem off_turn {b h h' : Heap} {C : Addr} {m' : Str → Option Value} {news : List (Addr × Obj)} (F : Fr b C h' m') (N : News b C h' news) (hb : Ext b h) (hs : ∀ q ∈ Rst b C h, q ∈ news) : Off C h h' := fun a o hC e => by
  cases e1 : b.get? a with
  | none => exact (N _ (hs _ (Rst.mem e hC e1))).1
  | some x => have := hb _ _ e1; rw [e] at this; cases this; exact F.keep _ _ e1
/-- what a turn leaves -/
def Good (C : Addr) (s : Shared) (J : Heap → Prop) (s' : Shared) : Prop := ∃ h' tk m', s' = { s with heap := h', toks := tk } ∧ h'.Ns C m' ∧ Off C s.heap h' ∧ J h'
theorem Good.intro {b : Heap} {C : Addr} {s : Shared} {J : Heap → Prop} {h' : Heap} {tk : Nat} {m' : Str → Option Value} {news : List (Addr × Obj)} (hb : Ext b s.heap) (F : Fr b C h' m') (N : News b C h' news) (hs : ∀ q ∈ Rst b C s.heap, q ∈ news) (hJ : J h') :
    Good C s J { s with heap := h', toks := tk } := ⟨h', tk, m', rfl, F.ns, off_turn F N hb hs, hJ⟩
/-- a turn's ground -/
structure Blk (b : Heap) (C : Addr) (h H : Heap) : Prop where
  up : Ext b h
  new : ∀ a, h.get? a = none → H.get? a = none
theorem Blk.fresh {b h H h₂ h' : Heap} {C : Addr} {m₂ : Str → Option Value} {news l : List (Addr × Obj)} (B : Blk b C h H) (F : Fr b C h₂ m₂) (N : News b C h₂ news) (hs : ∀ q ∈ Rst b C h, q ∈ news) (W : New h₂ h' l) : ∀ q ∈ l, H.get? q.1 = none := fun q hq => by
  refine B.new _ ?_
  have hn := (W q hq).2
  cases e : h.get? q.1 with
  | none => rfl
  | some o =>
    by_cases hC : q.1 = C
    · obtain ⟨o, _, _, e2, _⟩ := F.ns; rw [← hC, hn] at e2; cases e2
    · have := off_turn F N B.up hs _ _ hC e; rw [hn] at this; cases this
theorem Blk.good {b H : Heap} {C : Addr} {s : Shared} {J : Heap → Prop} {h' : Heap} {tk : Nat} {m' : Str → Option Value} {news : List (Addr × Obj)} (B : Blk b C s.heap H) (F : Fr b C h' m') (N : News b C h' news) (hs : ∀ q ∈ Rst b C s.heap, q ∈ news) (hJ : J h') :
    Good C s J { s with heap := h', toks := tk } := Good.intro B.up F N hs hJ
theorem New.of' {H b h : Heap} {L : Addr} {news l : List (Addr × Obj)} (N : News b L h news) (hs : ∀ q ∈ l, q ∈ news ∧ H.get? q.1 = none) : New H h l := fun q hq => ⟨(N q (hs q hq).1).1, (hs q hq).2⟩
theorem New.stable {H h h' : Heap} {l : List (Addr × Obj)} (k : ∀ a o, H.get? a = none → h.get? a = some o → h'.get? a = some o) (N : New H h l) : New H h' l := fun q hq => ⟨k _ _ (N q hq).2 (N q hq).1, (N q hq).2⟩
theorem New.back {h H h' : Heap} {l : List (Addr × Obj)} (E : Ext h H) (N : New H h' l) : New h h' l := fun q hq => ⟨(N q hq).1, none_back E (N q hq).2⟩
theorem New.cons {h h' : Heap} {l : List (Addr × Obj)} {a : Addr} {o : Obj} (e : h'.get? a = some o) (f : h.get? a = none) (N : New h h' l) : New h h' ((a, o) :: l) := fun q hq => by
  rcases List.mem_cons.mp hq with rfl | hq
  · exact ⟨e, f⟩
  · exact N q hq
theorem news_add {b h H : Heap} {L : Addr} {news l : List (Addr × Obj)} (N : News b L h news) (E : Ext b H) (hL : H.get? L ≠ none) (W : New H h l) : News b L h (l ++ news) := fun q hq => by
  rcases List.mem_append.mp hq with hq | hq
  · refine ⟨(W q hq).1, fun e => hL (e ▸ (W q hq).2), none_back E (W q hq).2⟩
  · exact N q hq
theorem fr_L {b h H : Heap} {L : Addr} {m : Str → Option Value} (F : Fr b L h m) (E : Ext h H) : H.get? L ≠ none := fun e => by
  obtain ⟨o, _, _, e2, _⟩ := F.ns; rw [E _ _ e2] at e; cases e
/-- J speaks of objects that are new to H -/
def Stable (H : Heap) (J : Heap → Prop) : Prop := ∀ h h', (∀ a o, H.get? a = none → h.get? a = some o → h'.get? a = some o) → J h → J h'

section
variable {prog : Program} {w : World} {A : Around} {E : Value → Shared → Prop} {env : Env}
/-- the turns of a comprehension, from the ground of the frame it stands in -/
structure LcAt (prog : Program) (w : World) (A : Around) (E : Value → Shared → Prop) (env : Env) (elt target : Expr) (ifs : List Expr) (scope : Scope) (cl : List (Str × Addr)) (b : Heap) (L : Addr) (m : Str → Option Value) (news : List (Addr × Obj))
    (n : Nat) (P : Nat → Value → Prop) (J : Heap → Nat → List Value → Heap → Prop) (s₂ : Shared) (I : Addr) : Prop where
  walk : ∃ fp wr St, Walks prog w A I fp wr n P St ∧ St 0 s₂.heap ∧ (∀ x ∈ fp, x < s₂.heap.objs.size) ∧ (∀ x ∈ wr, b.get? x = none ∧ x ≠ L ∧ ∀ q ∈ news, q.1 ≠ x) ∧ (∀ i h, St i h → ∀ x ∈ wr, ∃ o, h.get? x = some o)
  small : n ≤ sizeLine
  F : Fr b L s₂.heap m
  N : News b L s₂.heap news
theorem LcAt.of {elt target : Expr} {ifs : List Expr} {scope : Scope} {cl : List (Str × Addr)} {b : Heap} {L : Addr} {m : Str → Option Value} {news : List (Addr × Obj)} {n : Nat} {P : Nat → Value → Prop} {J : Heap → Nat → List Value → Heap → Prop} {s₂ : Shared} {I : Addr}
    (X : LcAt prog w A E env elt target ifs scope cl b L m news n P J s₂ I) {Q : Value → Addr → Shared → Prop} {iter : Expr} {pos : Pos} {RR : Value → Addr → Result → Shared → Prop}
    (hcell : ∀ y ∈ scope.names, y.2 ≠ .cell) (hkind : scope.kind = .function)
    (hJ0 : ∀ H, Ext s₂.heap H → J H 0 [] H) (hJs : ∀ H i ys, Stable H (J H i ys))
    (turn : ∀ H C i v h tk ys m', Ext s₂.heap H → (∀ a, h.get? a = none → H.get? a = none) → Ext b h → i < n → P i v → J H i ys h → Fr b C h m' → News b C h (news ++ Rst b C h) →
      wpAny (model prog w) A (assign target (compEnvC scope cl C env) v) (fun _ s₃ => wpAny (model prog w) A (forIn ifs true fun c r => if r = true then do let ok ← isTrue c (compEnvC scope cl C env) (eval c (compEnvC scope cl C env)); pure (ForInStep.yield ok) else pure (ForInStep.yield r))
        (fun ok s₄ => if ok = true then wpAny (model prog w) A (eval elt (compEnvC scope cl C env)) (fun y s₅ => Good C { s₂ with heap := h, toks := tk } (J H (i + 1) (ys ++ [y])) s₅) (fun _ _ => False) s₄
          else Good C { s₂ with heap := h, toks := tk } (J H (i + 1) ys) s₄) (fun _ _ => False) s₃) (fun _ _ => False) { s₂ with heap := h, toks := tk })
    (ht : ∀ v, letOwnedTupleGo target (.ref I) v = pure ())
    (hR : ∀ H D C h tk m' ys k, Ext s₂.heap H → s₂.heap.get? D = none → s₂.heap.get? C = none → D ≠ C → h.Ns C m' → Fr b L h m → News b L h ((D, { cls := .type "list", data := .seq ys.toArray k }) :: news) → D ≠ L → C ≠ L → b.get? C = none → (∀ q ∈ news, q.1 ≠ C) → (∀ q ∈ news, q.1 ≠ D) → H.get? D ≠ none → H.get? C ≠ none →
      J H n ys h → RR (.ref D) C (.ok .next) { s₂ with heap := h, toks := tk }) :
    wpAny (model prog w) A (newList []) (fun acc s₃ => wpAny (model prog w) A (newFunctionEnv scope env.globals cl [] env.qual none .none (some env)) (fun cenv s₄ =>
      codeAny (model prog w) A (.compStart (.ListComp elt [⟨target, iter, ifs, 0⟩] scope pos) 0 (.ref I) acc { cenv with scope := relabel scope env }) (RR acc cenv.locals) s₄) E s₃) E s₂ := by
  obtain ⟨fp, wr, St, W, hst, hfp, hwr, hstay⟩ := X.walk
  have hwo := hstay _ _ hst
  have F := X.F
  have N := X.N
  refine wpAny_newObj_type (wpAny_newFunctionEnv hcell (by intro y hy; simp at hy) (fun h₁ hns₁ hsb₁ => ?_) hkind)
  dsimp only at hns₁ hsb₁ ⊢
  generalize hH2 : s₂.heap.push { cls := .type "list", dict := none, data := .seq ([] : List Value).toArray } = H2 at hns₁ hsb₁ ⊢
  have hC : H2.objs.size = s₂.heap.objs.size + 1 := by rw [← hH2, Heap.size_push]
  generalize hCn : H2.objs.size = C at hns₁ hsb₁ hC ⊢
  generalize hDn : s₂.heap.objs.size = D at hC ⊢
  have hDC : D ≠ C := by rw [hC]; exact Nat.ne_of_lt (Nat.lt_succ_self _)
  have below : ∀ x, x < D → x ≠ C ∧ x ≠ D := fun x hx => ⟨by rw [hC]; exact Nat.ne_of_lt (Nat.lt_succ_of_lt hx), Nat.ne_of_lt hx⟩
  have low : ∀ x o, s₂.heap.get? x = some o → x < D := fun x o e => hDn ▸ Heap.lt_size e
  have hDf : D ∉ fp := fun hm => Nat.lt_irrefl _ (hDn ▸ hfp _ hm)
  have hCf : C ∉ fp := fun hm => by have := hfp _ hm; rw [hDn, hC] at this; exact Nat.lt_irrefl _ (Nat.lt_of_succ_lt this)
  have hDw : D ∉ wr := fun h => hDf (W.sub _ h)
  have hCw : C ∉ wr := fun h => hCf (W.sub _ h)
  have old : ∀ x o, s₂.heap.get? x = some o → h₁.get? x = some o := fun x o e => hsb₁.extBut x o (below x (low x o e)).1 (Heap.get?_push_of_some _ (hH2 ▸ Heap.get?_push_of_some _ e))
  have hacc : h₁.PlainList D ([] : List Value).toArray := ⟨_, hsb₁.extBut _ _ hDC (Heap.get?_push_of_some _ (by rw [← hH2, ← hDn]; exact Heap.get?_push_size _ rfl))⟩
  have fresh : ∀ a, D ≤ a → s₂.heap.get? a = none := fun a ha => fresh_of (by rw [hDn]; exact ha)
  have hst₁ : St 0 h₁ := W.frame _ _ _ hst fun x _ o e => old x o e
  have hD1 : ∃ o, h₁.get? D = some o := let ⟨k, e⟩ := hacc; ⟨_, e⟩
  have hC1 : ∃ o, h₁.get? C = some o := let ⟨o, _, _, e, _⟩ := hns₁; ⟨o, e⟩
  have hbC : b.get? C = none := by
    cases e : b.get? C with
    | none => rfl
    | some o => have := low _ _ (F.keep _ _ e); rw [hC] at this; exact absurd this (Nat.not_lt.mpr (Nat.le_succ _))
  have hbD : b.get? D = none := by
    cases e : b.get? D with
    | none => rfl
    | some o => have := low _ _ (F.keep _ _ e); exact absurd this (Nat.lt_irrefl _)
  have hL : L < D := hDn ▸ F.ns.lt
  have hab : b.objs.size ≤ C := by rw [hC]; exact Nat.le_trans F.above (Nat.le_of_lt (Nat.lt_succ_of_lt hL))
  have h1only : ∀ x o, h₁.get? x = some o → x = D ∨ x = C ∨ ∃ o, s₂.heap.get? x = some o := fun x o e => by
    by_cases h1 : x = C
    · exact .inr (.inl h1)
    · have := hsb₁.2 x h1
      rw [this] at e
      by_cases h2 : x = D
      · exact .inl h2
      · refine .inr (.inr ?_)
        cases e2 : s₂.heap.get? x with
        | some o => exact ⟨o, rfl⟩
        | none =>
          rw [← hH2] at e
          exfalso
          rw [Heap.get?_push_ne, Heap.get?_push_ne, e2] at e
          · cases e
          · rw [hDn]; exact h2
          · rw [hH2, hCn]; exact h1
  have loop : ∀ s₃ : Shared, s₃ = { s₂ with heap := h₁, toks := s₂.toks + ([] : List (Str × Value)).length } →
      codeAny (model prog w) A (.compLoop (.ListComp elt [⟨target, iter, ifs, 0⟩] scope pos) 0 (.ref I) (.ref D) (compEnvC scope cl C env)) (RR (.ref D) C) s₃ := by
    rintro s₃ rfl
    refine codeAny_compLoop_tests
      (fun k s' => ∃ h' tk m' ys i, s' = { s₂ with heap := h', toks := tk } ∧ St i h' ∧ h'.PlainList D ys.toArray ∧ ys.length ≤ i ∧ h'.Ns C m' ∧ i ≤ n ∧ k = n + 1 - i ∧
        (∀ x o, x ≠ C → x ∉ wr → x ≠ D → h₁.get? x = some o → h'.get? x = some o) ∧ (∀ x ∈ wr, ∃ o, h'.get? x = some o) ∧ J h₁ i ys h') ?_ (n + 1)
      ⟨h₁, _, _, [], 0, rfl, hst₁, hacc, Nat.le_refl _, hns₁, Nat.zero_le _, rfl, fun _ _ _ _ _ e => e, fun x hx => let ⟨o, e⟩ := hwo x hx; ⟨o, old _ _ e⟩, hJ0 _ old⟩ ht
    rintro k s' ⟨h', tk, m', ys, i, rfl, hst', hacc', hle, hn', hi, rfl, hk, hwr', hJ⟩
    have hexD : ∃ o, h'.get? D = some o := let ⟨k, e⟩ := hacc'; ⟨_, e⟩
    have hexC : ∃ o, h'.get? C = some o := let ⟨o, _, _, e, _⟩ := hn'; ⟨o, e⟩
    by_cases hlt : i < n
    · refine W.item i _ _ _ hlt hst' fun v h₂ tk₂ hPv hst₂ hk₂ => ?_
      have hk₂' : ∀ x o, x ≠ C → x ∉ wr → x ≠ D → h₁.get? x = some o → h₂.get? x = some o := fun x o a b' c e => hk₂ x o b' (hk x o a b' c e)
      have s2 : ∀ x o, x ∉ wr → s₂.heap.get? x = some o → h₂.get? x = some o := fun x o hw e => hk₂' x o (below x (low x o e)).1 hw (below x (low x o e)).2 (old x o e)
      have bh : Ext b h₂ := fun x o e => s2 x o (fun hw => by rw [(hwr x hw).1] at e; cases e) (F.keep x o e)
      have hstay₂ : ∀ x ∈ wr, ∃ o, h₂.get? x = some o := fun x hx => hstay _ _ hst₂ x hx
      have hn₂ : h₂.Ns C m' := hn'.at' fun o e => hk₂ _ o hCw e
      have hacc₂ : h₂.PlainList D ys.toArray := hacc'.at fun o e => hk₂ _ o hDw e
      have hnone : ∀ a, h₂.get? a = none → h₁.get? a = none := fun a e => by
        cases e1 : h₁.get? a with
        | none => rfl
        | some o =>
          exfalso
          by_cases hw : a ∈ wr
          · obtain ⟨o, e2⟩ := hstay₂ a hw; rw [e] at e2; cases e2
          · by_cases h2 : a = C
            · subst h2; obtain ⟨o, _, _, e2, _⟩ := hn₂; rw [e] at e2; cases e2
            · by_cases h3 : a = D
              · subst h3; obtain ⟨k, e2⟩ := hacc₂; rw [e] at e2; cases e2
              · rw [hk₂' a o h2 hw h3 e1] at e; cases e
      have hJ₂ : J h₁ i ys h₂ := hJs _ _ _ _ _ (fun a o e1 e2 => hk₂ a o (fun hw => by obtain ⟨x, ex⟩ := hwo a hw; rw [old _ _ ex] at e1; cases e1) e2) hJ
      have F₂ : Fr b C h₂ m' := ⟨hn₂, bh, hab⟩
      have N₂ : News b C h₂ (news ++ Rst b C h₂) := Rst.news (L := C) fun q hq => ⟨s2 _ _ (fun hw => (hwr _ hw).2.2 q hq rfl) (N q hq).1, (below _ (low _ _ (N q hq).1)).1, (N q hq).2.2⟩
      refine wpAny_mono (turn h₁ C i v h₂ tk₂ ys m' old hnone bh hlt hPv hJ₂ F₂ N₂) (fun _ s₃ h₃ => wpAny_mono h₃ (fun ok s₄ h₄ => ?_) fun _ _ e => e.elim) fun _ _ e => e.elim
      have done : ∀ ys' s₅, Good C { s₂ with heap := h₂, toks := tk₂ } (J h₁ (i + 1) ys') s₅ → ∃ h₅ tk₅ m₅, s₅ = { s₂ with heap := h₅, toks := tk₅ } ∧ h₅.Ns C m₅ ∧ Off C h₂ h₅ ∧ J h₁ (i + 1) ys' h₅ := by
        rintro ys' s₅ ⟨h₅, tk₅, m₅, rfl, a, c, d⟩; exact ⟨h₅, tk₅, m₅, rfl, a, c, d⟩
      cases ok with
      | false =>
        obtain ⟨h₅, tk₅, m₅, rfl, n5, off5, J5⟩ := done _ _ h₄
        refine ⟨n + 1 - (i + 1), by omega, h₅, tk₅, m₅, ys, i + 1, rfl, ?_, hacc₂.at (fun o e => off5 _ o hDC e), by omega, n5, hlt, rfl, fun x o a b' c e => off5 x o a (hk₂' x o a b' c e), fun x hx => ?_, J5⟩
        · exact W.frame _ _ _ hst₂ fun x hx o e => off5 x o (fun h => hCf (h ▸ hx)) e
        · obtain ⟨o, e⟩ := hstay₂ x hx; exact ⟨o, off5 x o (fun h => hCw (h ▸ hx)) e⟩
      | true =>
        refine wpAny_mono h₄ (fun y s₅ g₅ => ?_) fun _ _ e => e.elim
        obtain ⟨h₅, tk₅, m₅, rfl, n5, off5, J5⟩ := done _ _ g₅
        have hys : ys.toArray.size ≤ sizeLine := by have := X.small; rw [List.size_toArray]; omega
        refine wpAny_list_append_plain (hsz := hys) (hacc₂.at fun o e => off5 _ o hDC e) fun h₆ hl₆ hs₆ => ?_
        have hst₅ : St (i + 1) h₅ := W.frame _ _ _ hst₂ fun x hx o e => off5 x o (fun h => hCf (h ▸ hx)) e
        refine ⟨n + 1 - (i + 1), by omega, h₆, tk₅, m₅, ys ++ [y], i + 1, rfl, ?_, ?_, by rw [List.length_append, List.length_singleton]; omega, n5.sameBut hs₆ (Ne.symm hDC), hlt, rfl, fun x o a b' c e => hs₆.extBut x o c (off5 x o a (hk₂' x o a b' c e)), fun x hx => ?_, ?_⟩
        · exact W.frame _ _ _ hst₅ fun x hx o e => hs₆.extBut x o (fun h => hDf (h ▸ hx)) e
        · rw [← List.push_toArray]; exact hl₆
        · obtain ⟨o, e⟩ := hstay₂ x hx; exact ⟨o, hs₆.extBut x o (fun h => hDw (h ▸ hx)) (off5 x o (fun h => hCw (h ▸ hx)) e)⟩
        · exact hJs _ _ _ _ _ (fun a o e1 e2 => hs₆.extBut a o (fun h => by subst h; obtain ⟨x, ex⟩ := hD1; rw [e1] at ex; cases ex) e2) J5
    · have hin : i = n := by omega
      subst hin
      refine W.done _ _ _ hst' fun h₂ tk₂ hk₂ => ?_
      have s2 : ∀ x o, x ∉ wr → s₂.heap.get? x = some o → h₂.get? x = some o := fun x o hw e => hk₂ x o hw (hk x o (below x (low x o e)).1 hw (below x (low x o e)).2 (old x o e))
      obtain ⟨kk, hacc₂⟩ : h₂.PlainList D ys.toArray := hacc'.at fun o e => hk₂ _ o hDw e
      refine hR h₁ D C h₂ tk₂ m' ys kk old (fresh _ (Nat.le_refl _)) (fresh _ (by rw [hC]; exact Nat.le_succ _)) hDC (hn'.at' fun o e => hk₂ _ o hCw e) ⟨?_, fun x o e => s2 x o (fun hw => by rw [(hwr x hw).1] at e; cases e) (F.keep x o e), F.above⟩ (fun q hq => ?_) (fun h => Nat.lt_irrefl _ (h ▸ hL)) (fun h => by rw [← h, hC] at hL; exact Nat.lt_irrefl _ (Nat.lt_of_succ_lt hL)) hbC
        (fun q hq h => (below _ (low _ _ (N q hq).1)).1 h) (fun q hq h => (below _ (low _ _ (N q hq).1)).2 h) (by obtain ⟨o, e⟩ := hD1; rw [e]; exact fun h => nomatch h) (by obtain ⟨o, e⟩ := hC1; rw [e]; exact fun h => nomatch h)
        (hJs _ _ _ _ _ (fun a o e1 e2 => hk₂ a o (fun hw => by obtain ⟨x, ex⟩ := hwo a hw; rw [old _ _ ex] at e1; cases e1) e2) hJ)
      · exact F.ns.at' fun o e => s2 _ o (fun hw => (hwr _ hw).2.1 rfl) e
      · rcases List.mem_cons.mp hq with rfl | hq
        · exact ⟨hacc₂, fun h => Nat.lt_irrefl _ (h ▸ hL), hbD⟩
        · exact ⟨s2 _ _ (fun hw => (hwr _ hw).2.2 q hq rfl) (N q hq).1, (N q hq).2⟩
  exact codeAny_compStart_list (loop _ rfl) (W.self 0 _ _ _ hst₁ (loop _ rfl))

section
variable {M : Model} {s : Shared} {b : Heap} {C : Addr} {news : List (Addr × Obj)} {scope : Scope} {cl : List (Str × Addr)} {x : Str} {pos : Pos} {v : Value} {m mg mb : Str → Option Value} {p : Program} {loose : List Str} {K : Frag}
theorem blk_local {Q : Value → Shared → Prop} (F : Fr b C s.heap m) (hv : m x = some v) (h : Q v s)
    (hk : (compEnvC scope cl C env).scope.kind = .function) (hx : (compEnvC scope cl C env).kindOf x = some .local) (hb : (x == ("__debug__" : Str)) = false := by decide) :
    wpAny M A (eval (.Name x pos) (compEnvC scope cl C env)) Q E s := wpAny_Name (wpAny_loadName_local hk hx F.ns hv h) hb
theorem blk_store {Q : Unit → Shared → Prop} (F : Fr b C s.heap m) (N : News b C s.heap news)
    (h : ∀ h', Fr b C h' (fun y => if y = x then some v else m y) → News b C h' news → Q () { s with heap := h', toks := s.toks + 1 })
    (hk : (compEnvC scope cl C env).scope.kind = .function) (hx : (compEnvC scope cl C env).kindOf x = some .local) : wpAny M A (storeName (compEnvC scope cl C env) x v) Q E s :=
  wpAny_storeName_local hx F.ns (fun h' hn hs => h h' (F.set hn hs) (N.set hs)) (by rw [hk]; rfl)
theorem blk_global {Q : Value → Shared → Prop} (F : Fr b C s.heap m) (X : K.In b) (T : TopRead p loose mg mb b)
    (e : nsIn K mainGlobals x = some (some v)) (h : Q v s) (hg : (compEnvC scope cl C env).globals = mainGlobals) (hk : (compEnvC scope cl C env).scope.kind = .function) (hx : (compEnvC scope cl C env).kindOf x = some .globalImplicit) (hd : (x == ("__debug__" : Str)) = false := by decide) :
    wpAny M A (eval (.Name x pos) (compEnvC scope cl C env)) Q E s := nameG_K F X T e h hg hk hx hd
theorem blk_builtin {Q : Value → Shared → Prop} (F : Fr b C s.heap m) (X : K.In b) (T : TopRead p loose mg mb b)
    (e : nsIn K mainGlobals x = some none) (hv : bootBuiltins x = some v) (hn : x ≠ "__name__") (h : Q v s) (hg : (compEnvC scope cl C env).globals = mainGlobals) (hbi : (compEnvC scope cl C env).builtins = builtinsNs) (hk : (compEnvC scope cl C env).scope.kind = .function) (hx : (compEnvC scope cl C env).kindOf x = some .globalImplicit) (hd : (x == ("__debug__" : Str)) = false := by decide) :
    wpAny M A (eval (.Name x pos) (compEnvC scope cl C env)) Q E s := by
  refine Name_function_global hk hx (loadGlobal_builtin (env := compEnvC scope cl C env) (by rw [hg]; exact T.g.keeps F.keep) (mg_none_of X T.g e) (by rw [hbi]; exact T.b.keeps F.keep) ((T.builtins x hn).trans hv) h) hd
end
/-- a comprehension's iterable, behind its evaluation: what the turns and the end need -/
def LcIter (prog : Program) (w : World) (A : Around) (env : Env) (elt target : Expr) (ifs : List Expr) (scope : Scope) (cl : List (Str × Addr)) (Q : Value → Shared → Prop) (assigned : Option Str) (xv : Value) (s₁ : Shared) : Prop :=
  wpAny (model prog w) A (pyIter xv) (fun it s₂ => ∃ b L m news n P J I, it = .ref I ∧ LcAt prog w A (fun _ _ => False) env elt target ifs scope cl b L m news n P J s₂ I ∧ L = env.locals ∧
    (∀ H, Ext s₂.heap H → J H 0 [] H) ∧ (∀ H i ys, Stable H (J H i ys)) ∧
    (∀ H C i v h tk ys m', Ext s₂.heap H → (∀ a, h.get? a = none → H.get? a = none) → Ext b h → i < n → P i v → J H i ys h → Fr b C h m' → News b C h (news ++ Rst b C h) →
      wpAny (model prog w) A (assign target (compEnvC scope cl C env) v) (fun _ s₃ => wpAny (model prog w) A (forIn ifs true fun c r => if r = true then do let ok ← isTrue c (compEnvC scope cl C env) (eval c (compEnvC scope cl C env)); pure (ForInStep.yield ok) else pure (ForInStep.yield r))
        (fun ok s₄ => if ok = true then wpAny (model prog w) A (eval elt (compEnvC scope cl C env)) (fun y s₅ => Good C { s₂ with heap := h, toks := tk } (J H (i + 1) (ys ++ [y])) s₅) (fun _ _ => False) s₄
          else Good C { s₂ with heap := h, toks := tk } (J H (i + 1) ys) s₄) (fun _ _ => False) s₃) (fun _ _ => False) { s₂ with heap := h, toks := tk }) ∧
    (∀ v, letOwnedTupleGo target (.ref I) v = pure ()) ∧
    (∀ H D h tk ys k, Ext s₂.heap H → s₂.heap.get? D = none → H.get? D ≠ none → Fr b L h (match assigned with | none => m | some y => fun z => if z = y then some (.ref D) else m z) → News b L h ((D, { cls := .type "list", data := .seq ys.toArray k }) :: news) → (∀ q ∈ news, q.1 ≠ D) → J H n ys h → Q (.ref D) { s₂ with heap := h, toks := tk })) (fun _ _ => False) s₁

theorem lc_eval {s : Shared} {elt target iter : Expr} {ifs : List Expr} {scope : Scope} {cl : List (Str × Addr)} {pos : Pos} {Q : Value → Shared → Prop}
    (hclos : closureFor scope env = pure cl) (hcell : ∀ y ∈ scope.names, y.2 ≠ .cell) (hkind : scope.kind = .function) (hnames : ∀ y ∈ scope.names, y.2 = .local → scope.names.lookup y.1 = some .local)
    (h : wpAny (model prog w) A (eval iter env) (fun xv s₁ => LcIter prog w A env elt target ifs scope cl Q none xv s₁) E s)
    (hs : ∀ x, foldedSetIterable iter env x = pure x := by intro _; rfl) :
    wpAny (model prog w) A (eval (.ListComp elt [⟨target, iter, ifs, 0⟩] scope pos) env) Q E s := by
  rw [eval_ListComp]
  refine wpAny_comprehension_free (use := none) rfl hs hclos hkind hnames (wpAny_mono h (fun xv s₁ h₁ => wpAny_mono h₁ (fun it s₂ h₂ => ?_) fun _ _ e => e.elim) fun _ _ e => e)
  obtain ⟨b, L, m, news, n, P, J, I, rfl, X, hL, hJ0, hJs, turn, ht, hQ⟩ := h₂
  refine LcAt.of (RR := fun acc C => compPost (model prog w) A E none Q acc C) (E := E) ⟨X.walk, X.small, X.F, X.N⟩ (Q := fun _ _ _ => True) hcell hkind hJ0 hJs turn ht ?_
  intro H D C h' tk m' ys k hE hD hC hDC hn F' N' hDL hCL hbC hCn hDn hHD hHC hJ
  refine ⟨m', hn, fun h'' hs'' => hQ H D h'' tk ys k hE hD hHD ⟨F'.ns.at' fun o e => hs''.extBut _ o (Ne.symm hCL) e, fun x o e => hs''.extBut x o (fun h => by subst h; rw [hbC] at e; cases e) (F'.keep x o e), F'.above⟩ (fun q hq => ?_) hDn (hJs _ _ _ _ _ (fun a o e1 e2 => hs''.extBut a o (fun h => hHC (h ▸ e1)) e2) hJ)⟩
  refine ⟨hs''.extBut _ _ ?_ (N' q hq).1, (N' q hq).2⟩
  rcases List.mem_cons.mp hq with rfl | hq
  · exact hDC
  · exact hCn q hq

theorem lc_assign {s : Shared} {elt target iter : Expr} {y : Str} {py : Pos} {ifs : List Expr} {scope : Scope} {cl : List (Str × Addr)} {pos spos : Pos} {Q : Flow → Shared → Prop}
    (hsw : swapsWith (.ListComp elt [⟨target, iter, ifs, 0⟩] scope pos) (some (.Name y py)) spos.line env = pure true)
    (hclos : closureFor scope env = pure cl) (hcell : ∀ z ∈ scope.names, z.2 ≠ .cell) (hkind : scope.kind = .function)
    (hnames : ∀ z ∈ scope.names, z.2 = .local → scope.names.lookup z.1 = some .local)
    (hy : env.kindOf y = some .local) (hp : (env.scope.kind == .class || (env.scope.kind == .module && env.locals != env.globals)) = false)
    (h : wpAny (model prog w) A (eval iter env) (fun xv s₁ => LcIter prog w A env elt target ifs scope cl (fun _ s' => Q .next s') (some y) xv s₁) E s)
    (hs : ∀ x, foldedSetIterable iter env x = pure x := by intro _; rfl) :
    wpAny (model prog w) A (exec (.Assign [.Name y py] (.ListComp elt [⟨target, iter, ifs, 0⟩] scope pos) spos) env) Q E s := by
  rw [exec_Assign_Name_used _ _ _ _ hsw]
  refine wpAny_bind (wpAny_standAt (wpAny_bind ?_))
  show wpAny _ A (do let _ ← comprehension (.ListComp elt [⟨target, iter, ifs, 0⟩] scope pos) scope env _ (newList []) false (eval iter env) (some (assign (.Name y py) env))) _ _ s
  refine wpAny_bind (wpAny_mono (wpAny_comprehension_free (use := some (assign (.Name y py) env)) (Q := fun _ s' => Q .next s') rfl hs hclos hkind hnames
    (wpAny_mono h (fun xv s₁ h₁ => wpAny_mono h₁ (fun it s₂ h₂ => ?_) fun _ _ e => e.elim) fun _ _ e => e)) (fun _ s' hq => wpAny_pure (wpAny_pure hq)) fun _ _ e => e)
  obtain ⟨b, L, m, news, n, P, J, I, rfl, X, hL, hJ0, hJs, turn, ht, hQ⟩ := h₂
  subst hL
  refine LcAt.of (RR := fun acc C => compPost (model prog w) A E (some (assign (.Name y py) env)) (fun _ s' => Q .next s') acc C) (E := E) ⟨X.walk, X.small, X.F, X.N⟩ (Q := fun _ _ _ => True) hcell hkind hJ0 hJs turn ht ?_
  intro H D C h' tk m' ys k hE hD hC hDC hn F' N' hDL hCL hbC hCn hDn hHD hHC hJ
  have hHL : ∃ o, H.get? env.locals = some o := let ⟨o, _, _, e, _⟩ := X.F.ns; ⟨o, hE _ _ e⟩
  show wpAny _ A (assign (.Name y py) env (.ref D)) _ _ _
  refine wpAny_assign_Name (wpAny_storeName_local hy F'.ns (fun h₂ hn₂ hs₂ => ?_) hp)
  refine ⟨m', hn.sameBut hs₂ hCL, fun h'' hs'' => ?_⟩
  refine hQ H D h'' _ ys k hE hD hHD ⟨hn₂.at' fun o e => hs''.extBut _ o (Ne.symm hCL) e, fun x o e => hs''.extBut x o (fun h => by subst h; rw [hbC] at e; cases e) (hs₂.extBut x o (fun h => ?_) (F'.keep x o e)), F'.above⟩ (fun q hq => ?_) hDn
    (hJs _ _ _ _ _ (fun a o e1 e2 => hs''.extBut a o (fun h => hHC (h ▸ e1)) (hs₂.extBut a o (fun h => by obtain ⟨o, e⟩ := hHL; rw [← h, e1] at e; cases e) e2)) hJ)
  · subst h; exact absurd (Heap.lt_size e) (Nat.not_lt.mpr F'.above)
  · refine ⟨hs''.extBut _ _ ?_ (hs₂.extBut _ _ (N' q hq).2.1 (N' q hq).1), (N' q hq).2⟩
    rcases List.mem_cons.mp hq with rfl | hq
    · exact hDC
    · exact hCn q hq
/-- over a list or a tuple that is known, with one entry -/
theorem lcOne {s₁ : Shared} {elt target : Expr} {ifs : List Expr} {scope : Scope} {cl : List (Str × Addr)} {Q : Value → Shared → Prop} {assigned : Option Str} {b : Heap} {m : Str → Option Value} {news : List (Addr × Obj)} {t : Addr} {v : Value} {T : String} {k₀ : Nat}
    (hT : T = "tuple" ∨ T = "list") (Post : Heap → List Value → Heap → Prop) (hP : ∀ H ys, Stable H (Post H ys)) (hh : A.handled = none) (F : Fr b env.locals s₁.heap m) (N : News b env.locals s₁.heap news) (hm : (t, { cls := .type T, data := .seq #[v] k₀ }) ∈ news)
    (turn : ∀ H C h tk m', Ext s₁.heap H → (∀ a, h.get? a = none → H.get? a = none) → Ext b h → Fr b C h m' → News b C h (news ++ Rst b C h) →
      wpAny (model prog w) A (assign target (compEnvC scope cl C env) v) (fun _ s₃ => wpAny (model prog w) A (forIn ifs true fun c r => if r = true then do let ok ← isTrue c (compEnvC scope cl C env) (eval c (compEnvC scope cl C env)); pure (ForInStep.yield ok) else pure (ForInStep.yield r))
        (fun ok s₄ => if ok = true then wpAny (model prog w) A (eval elt (compEnvC scope cl C env)) (fun y s₅ => Good C { s₁ with heap := h, toks := tk } (Post H [y]) s₅) (fun _ _ => False) s₄
          else Good C { s₁ with heap := h, toks := tk } (Post H []) s₄) (fun _ _ => False) s₃) (fun _ _ => False) { s₁ with heap := h, toks := tk })
    (hQ : ∀ H D h tk ys k, Ext s₁.heap H → s₁.heap.get? D = none → H.get? D ≠ none → Fr b env.locals h (match assigned with | none => m | some y => fun z => if z = y then some (.ref D) else m z) → News b env.locals h ((D, { cls := .type "list", data := .seq ys.toArray k }) :: news) → (∀ q ∈ news, q.1 ≠ D) → Post H ys h → Q (.ref D) { s₁ with heap := h, toks := tk })
    (ht : ∀ I v, letOwnedTupleGo target (.ref I) v = pure () := by intro _ _; rfl) :
    LcIter prog w A env elt target ifs scope cl Q assigned (.ref t) s₁ := by
  have go : ∀ (o : Obj) (W : Walks prog w A s₁.heap.objs.size [s₁.heap.objs.size, t] [s₁.heap.objs.size] 1 (fun i v' => (#[v] : Array Value)[i]? = some v') (fun i h => if T = "tuple" then h.IsTupleIter s₁.heap.objs.size t i ∧ h.IsTuple t #[v] else h.IsListIter s₁.heap.objs.size t i ∧ h.IsList t #[v]))
      (hst : if T = "tuple" then (s₁.heap.push o).IsTupleIter s₁.heap.objs.size t 0 ∧ (s₁.heap.push o).IsTuple t #[v] else (s₁.heap.push o).IsListIter s₁.heap.objs.size t 0 ∧ (s₁.heap.push o).IsList t #[v]),
      ∃ b L m news n P J I, (Value.ref s₁.heap.objs.size) = .ref I ∧ LcAt prog w A (fun _ _ => False) env elt target ifs scope cl b L m news n P J { s₁ with heap := s₁.heap.push o } I ∧ L = env.locals ∧
    (∀ H, Ext (s₁.heap.push o) H → J H 0 [] H) ∧ (∀ H i ys, Stable H (J H i ys)) ∧
    (∀ H C i v h tk ys m', Ext (s₁.heap.push o) H → (∀ a, h.get? a = none → H.get? a = none) → Ext b h → i < n → P i v → J H i ys h → Fr b C h m' → News b C h (news ++ Rst b C h) →
      wpAny (model prog w) A (assign target (compEnvC scope cl C env) v) (fun _ s₃ => wpAny (model prog w) A (forIn ifs true fun c r => if r = true then do let ok ← isTrue c (compEnvC scope cl C env) (eval c (compEnvC scope cl C env)); pure (ForInStep.yield ok) else pure (ForInStep.yield r))
        (fun ok s₄ => if ok = true then wpAny (model prog w) A (eval elt (compEnvC scope cl C env)) (fun y s₅ => Good C { s₁ with heap := h, toks := tk } (J H (i + 1) (ys ++ [y])) s₅) (fun _ _ => False) s₄
          else Good C { s₁ with heap := h, toks := tk } (J H (i + 1) ys) s₄) (fun _ _ => False) s₃) (fun _ _ => False) { s₁ with heap := h, toks := tk }) ∧
    (∀ v, letOwnedTupleGo target (.ref I) v = pure ()) ∧
    (∀ H D h tk ys k, Ext (s₁.heap.push o) H → (s₁.heap.push o).get? D = none → H.get? D ≠ none → Fr b L h (match assigned with | none => m | some y => fun z => if z = y then some (.ref D) else m z) → News b L h ((D, { cls := .type "list", data := .seq ys.toArray k }) :: news) → (∀ q ∈ news, q.1 ≠ D) → J H n ys h → Q (.ref D) { s₁ with heap := h, toks := tk }) := by
    intro o W hst
    have up : Ext s₁.heap (s₁.heap.push o) := fun _ _ e => Heap.get?_push_of_some _ e
    have hL := F.ns.lt
    refine ⟨b, env.locals, m, news, 1, _, fun H i ys h => (i = 0 ∧ ys = []) ∨ (i = 1 ∧ Post H ys h), s₁.heap.objs.size, rfl, ⟨⟨_, _, _, W, hst, ?_, ?_, ?_⟩, by rw [sizeLine_eq]; exact Nat.le_of_ble_eq_true rfl, F.push _, fun q hq => ⟨up _ _ (N q hq).1, (N q hq).2⟩⟩, rfl, fun H _ => .inl ⟨rfl, rfl⟩, ?_, ?_, ht _, ?_⟩
    · intro x hx
      rcases List.mem_cons.mp hx with rfl | hx
      · rw [Heap.size_push]; exact Nat.lt_succ_self _
      · rw [List.mem_singleton.mp hx, Heap.size_push]; exact Nat.lt_succ_of_lt (Heap.lt_size (N _ hm).1)
    · intro x hx
      rw [List.mem_singleton.mp hx]
      refine ⟨?_, fun h => Nat.lt_irrefl _ (h ▸ hL), fun q hq h => Nat.lt_irrefl _ (h ▸ Heap.lt_size (N q hq).1)⟩
      cases e : b.get? s₁.heap.objs.size with
      | none => rfl
      | some o => exact absurd (Heap.lt_size (F.keep _ _ e)) (Nat.lt_irrefl _)
    · intro i h hs x hx
      rw [List.mem_singleton.mp hx]
      split at hs
      · obtain ⟨⟨o, e, _⟩, _⟩ := hs; exact ⟨o, e⟩
      · obtain ⟨⟨o, e, _⟩, _⟩ := hs; exact ⟨o, e⟩
    · intro H i ys h h' k hj
      rcases hj with hj | ⟨hj, hp⟩
      · exact .inl hj
      · exact .inr ⟨hj, hP _ _ _ _ k hp⟩
    · intro H C i v' h tk ys m' hE hn hb hi hv hj F' N'
      have hi0 : i = 0 := by omega
      subst hi0
      have hv' : v = v' := by simpa using hv
      subst hv'
      rcases hj with ⟨_, rfl⟩ | ⟨hj, _⟩
      · refine wpAny_mono (turn H C h tk m' (fun x o e => hE _ _ (up _ _ e)) hn hb F' N') (fun _ s₃ h₃ => wpAny_mono h₃ (fun ok s₄ h₄ => ?_) fun _ _ e => e) fun _ _ e => e
        cases ok with
        | true => exact wpAny_mono h₄ (fun y s₅ ⟨h', tk', m', a, b, c, d⟩ => ⟨h', tk', m', a, b, c, .inr ⟨rfl, d⟩⟩) fun _ _ e => e
        | false => obtain ⟨h', tk', m', a, b, c, d⟩ := h₄; exact ⟨h', tk', m', a, b, c, .inr ⟨rfl, d⟩⟩
      · cases hj
    · intro H D h tk ys k hE hD hHD F' N' hn hj
      rcases hj with ⟨hj, _⟩ | ⟨_, hp⟩
      · cases hj
      · exact hQ H D h tk ys k (fun x o e => hE _ _ (up _ _ e)) (none_back up hD) hHD F' N' hn hp
  have hne : t ≠ s₁.heap.objs.size := Nat.ne_of_lt (Heap.lt_size (N _ hm).1)
  have hput := (N _ hm).1
  rcases hT with rfl | rfl
  · have hIs : s₁.heap.IsTuple t #[v] := ⟨_, hput, rfl, _, rfl⟩
    exact wpAny_pyIter_tuple hIs (go _ (Walks.tuple hh _ _ hne #[v]) ⟨⟨_, Heap.get?_push_size _ rfl, rfl, rfl⟩, hIs.push _⟩)
  · have hIs : s₁.heap.IsList t #[v] := ⟨_, hput, rfl, _, rfl⟩
    exact wpAny_pyIter_list hIs (go _ (Walks.list hh _ _ hne #[v]) ⟨⟨_, Heap.get?_push_size _ rfl, rfl, rfl⟩, hIs.push _⟩)
end
end Mine
namespace Mine
open PySem PySem.W PyProof.Rows PySem.Calls PySem.Spec

section
variable {prog : Program} {w : World} {A : Around} {E : Value → Shared → Prop} {s : Shared} {K : Frag} {x C : Addr} {ox od : Obj} {name : Str} {t : Tok} {dflt : Value}
theorem args_getattr_3 (a b c : Value) : argsOk "getattr" ⟨[a, b, c], []⟩ := by unfold argsOk; kernel_rfl
theorem findObj_miss (hh : hasDictIn K C = true) (ha : findIn K (.ref C) name = some none) (hc : copiedNames.contains name = false) (hl : lookIn name od = some none) : findObj K C (some od) name = some .missing := by
  obtain ⟨cd, hc', hd⟩ := any_some hh
  unfold findObj
  have ho : PySem.W.ownOf cd (some od) name = some none := by unfold PySem.W.ownOf; rw [if_pos hd]; exact hl
  rw [hc', Option.bind_some, ha, Option.bind_some]
  simp only [Option.bind_some, ho, hc, Bool.false_and, Bool.false_eq_true, if_false]
theorem getattr_miss {cd : ClassData} {Q : Value → Shared → Prop} (X : K.In s.heap) (I : InstAt s.heap x ox C (some od)) (hg : plainGet K C name = true) (hf : findObj K C (some od) name = some .missing)
    (hcd : clsIn K C = some cd) (hcl : cd.name.cps.foldl (fun k c => k + (Str.utf8Of c).length) 0 ≤ 100) (hmod : subIn K (.ref C) (.type "module") = some false) (hsrc : (name != "get_source") = true) (hsz : name.length + 100 ≤ sizeLine)
    (hh : A.handled = none) (hnt : (Value.ref C == .type "builtin_function_or_method") = false) (hm : ((s!"'{cd.name.toString}' object has no attribute '" : Str) ++ name ++ "'").length ≤ sizeLine) (hQ : ∀ h' tk, (∀ b o, s.heap.get? b = some o → h'.get? b = some o) → Q dflt { s with heap := h', toks := tk }) :
    wpAny (model prog w) A (call (.builtin "getattr") [.ref x, .str name t, dflt]) Q E s := by
  obtain ⟨hp, gg, dd, tk, os⟩ := s
  have L0 := I.type (M := model prog w)
  have L1 := looks_find (M := model prog w) X I hf
  have L2 := looks_findIn (M := model prog w) X (plainGet_of hg).2
  have L3 := looks_findIn (M := model prog w) X (plainGet_of hg).1
  have L4 : Looks (model prog w) hp (isInstance (.ref x) (.type "module")) false := L0.andThen (looks_subIn X hmod)
  have L5 := looks_clsIn (M := model prog w) X hcd
  refine Calls.call_function_entry KB.kind_getattr KB.plain_getattr KB.entry_getattr (args_getattr_3 _ _ _) ?_
  unfold Builtin.«getattr»
  refine wpAny_bind (wpAny_of_eq (a := [.ref x, .str name t, dflt]) (by first | rfl | kernel_rfl) ?_)
  dsimp only
  refine wpAny_bind (wpAny_of_eq (a := ()) (by first | rfl | kernel_rfl) ?_)
  refine wpAny_bind (wpAny_of_eq (a := none) (by k_delta "loadersGetSource?"; dsimp only; rw [if_pos hsrc]) ?_)
  dsimp only
  refine wpAny_bind ?_
  k_delta "optionalOnAModule"
  refine wpAny_bind (wpAny_of_eq (a := some name) rfl ?_)
  refine wpAny_bind (L4.at ?_)
  refine wpAny_pure ?_
  show wpAny _ _ (getAttrBy? _ _ >>= _) _ _ _
  unfold getAttrBy? getAttrBy
  refine wpAny_bind (wpAny_bind (wpAny_attempt (wpAny_holding (wpAny_bind (L0.at (wpAny_bind (L3.at ?_)))))))
  show wpAny _ _ (getAttrEveryday _ _ _) _ _ _
  refine wpAny_bind (wpAny_onRaise (wpAny_runValue (codeAny_builtin F.plainObj_entry_getattr_hooked ?_)))
  refine wpAny_bind (wpAny_pure (wpAny_bind (L0.at (wpAny_bind (L1.at (wpAny_bind (L2.at ?_)))))))
  show wpAny _ _ (Builtin.ObjectAttr.noSuchAttribute _ _) _ _ _
  unfold Builtin.ObjectAttr.noSuchAttribute typeNameOfCut shownTypeOf
  refine wpAny_bind (wpAny_bind (wpAny_bind (L0.at ?_)))
  rw [if_neg (fun q => by rw [hnt] at q; exact Bool.noConfusion q)]
  refine wpAny_pure ?_
  unfold typeNameCut
  refine wpAny_bind (L5.at ?_)
  rw [if_pos hcl]
  refine wpAny_pure ?_
  refine wpAny_raiseAttrError hh (fun h' tk' e ne => ?_) hm
  dsimp only
  refine wpAny_pure ?_
  have Le : Looks (model prog w) h' (isInstance (.ref e) (.type "AttributeError")) true := by
    obtain ⟨_, _, hx⟩ := ne.there
    refine Looks.andThen (a := Value.type "AttributeError") ((Looks.ld hx).andThen .now) ?_
    rw [sub_AttributeError]
    exact .now
  refine wpAny_bind (Le.at ?_)
  refine wpAny_pure ?_
  exact wpAny_pure ⟨_, rfl, hQ _ _ ne.keeps⟩
theorem getattr_missD {cd : ClassData} {es : List DictEntry} {n : Nat} {Q : Value → Shared → Prop} (X : K.In s.heap) (I : InstAt s.heap x ox C (some (dictOf es n))) (hg : plainGet K C name = true) (hd : hasDictIn K C = true) (ha : findIn K (.ref C) name = some none) (hc : copiedNames.contains name = false) (hl : getL name es = some none)
    (hcd : clsIn K C = some cd) (hcl : cd.name.cps.foldl (fun k c => k + (Str.utf8Of c).length) 0 ≤ 100) (hmod : subIn K (.ref C) (.type "module") = some false) (hsrc : (name != "get_source") = true) (hsz : name.length + 100 ≤ sizeLine)
    (hh : A.handled = none) (hm : ((s!"'{cd.name.toString}' object has no attribute '" : Str) ++ name ++ "'").length ≤ sizeLine) (hQ : ∀ h' tk, (∀ b o, s.heap.get? b = some o → h'.get? b = some o) → Q dflt { s with heap := h', toks := tk }) :
    wpAny (model prog w) A (call (.builtin "getattr") [.ref x, .str name t, dflt]) Q E s :=
  getattr_miss X I hg (findObj_miss hd ha hc (by rw [lookIn_dict, hl])) hcd hcl hmod hsrc hsz hh rfl hm hQ
end
end Mine
namespace Mine
open PySem PySem.W PyProof.Rows PySem.Calls PySem.Spec


/-- what stands in h beside the ground and what the block owns -/
def RstL (b : Heap) (own : List Addr) (h : Heap) : List (Addr × Obj) :=
  (List.range h.objs.size).filterMap fun a => if a ∈ own then none else match b.get? a, h.get? a with | none, some o => some (a, o) | _, _ => none
theorem RstL.mem {b h : Heap} {own : List Addr} {a : Addr} {o : Obj} (e : h.get? a = some o) (hC : a ∉ own) (hb : b.get? a = none) : (a, o) ∈ RstL b own h := by
  refine List.mem_filterMap.mpr ⟨a, List.mem_range.mpr (Heap.lt_size e), ?_⟩
  rw [if_neg hC, hb, e]
theorem RstL.of {b h : Heap} {own : List Addr} {q : Addr × Obj} (hq : q ∈ RstL b own h) : h.get? q.1 = some q.2 ∧ q.1 ∉ own ∧ b.get? q.1 = none := by
  obtain ⟨a, _, e⟩ := List.mem_filterMap.mp hq
  by_cases hC : a ∈ own
  · rw [if_pos hC] at e; cases e
  · rw [if_neg hC] at e
    split at e
    · rename_i e1 e2; cases e; exact ⟨e2, hC, e1⟩
    · cases e
def OffL (own : List Addr) (h h' : Heap) : Prop := ∀ a o, a ∉ own → h.get? a = some o → h'.get? a = some o
theorem off_turnL {b h h' : Heap} {C : Addr} {own : List Addr} {m' : Str → Option Value} {news : List (Addr × Obj)} (F : Fr b C h' m') (N : News b C h' news) (hb : Ext b h) (hs : ∀ q ∈ RstL b own h, q ∈ news) : OffL own h h' := fun a o hC e => by
  cases e1 : b.get? a with
  | none => exact (N _ (hs _ (RstL.mem e hC e1))).1
  | some x => have := hb _ _ e1; rw [e] at this; cases this; exact F.keep _ _ e1
/-- what a turn leaves: the block's dict and its own cells may have changed, nothing else -/
def GoodL (C : Addr) (cs mu : List Addr) (MI : Addr → Obj → Prop) (s : Shared) (J : Heap → Prop) (s' : Shared) : Prop :=
  ∃ h' tk m' gs, s' = { s with heap := h', toks := tk, gens := gs } ∧ (AllBare s.gens → AllBare gs) ∧ h'.Ns C m' ∧ (∀ c ∈ cs, ∃ o v, h'.get? c = some o ∧ o.data = .cell v) ∧ (∀ c ∈ mu, ∃ o, h'.get? c = some o ∧ MI c o) ∧ OffL (C :: (cs ++ mu)) s.heap h' ∧ J h'
/-- a turn's ground -/
structure BlkL (b : Heap) (C : Addr) (cs : List Addr) (h H : Heap) : Prop where
  up : Ext b h
  new : ∀ a, h.get? a = none → H.get? a = none
  blk : H.get? C ≠ none
  own : ∀ c ∈ cs, H.get? c ≠ none
theorem BlkL.fresh {b h H h₂ h' : Heap} {C : Addr} {cs : List Addr} {m₂ : Str → Option Value} {news l : List (Addr × Obj)} (B : BlkL b C cs h H) (F : Fr b C h₂ m₂) (N : News b C h₂ news) (hc : ∀ c ∈ cs, ∃ o, (c, o) ∈ news) (hs : ∀ q ∈ RstL b (C :: cs) h, q ∈ news) (W : New h₂ h' l) : ∀ q ∈ l, H.get? q.1 = none := fun q hq => by
  refine B.new _ ?_
  have hn := (W q hq).2
  cases e : h.get? q.1 with
  | none => rfl
  | some o =>
    by_cases hC : q.1 ∈ C :: cs
    · rcases List.mem_cons.mp hC with hC | hC
      · obtain ⟨o, _, _, e2, _⟩ := F.ns; rw [← hC, hn] at e2; cases e2
      · obtain ⟨o, ho⟩ := hc _ hC; have := (N _ ho).1; rw [hn] at this; cases this
    · have := off_turnL F N B.up hs _ _ hC e; rw [hn] at this; cases this
theorem BlkL.push {b h H h' : Heap} {C D : Addr} {cs : List Addr} {o : Obj} {news : List (Addr × Obj)} (B : BlkL b C cs h H) (N : News b C h' news) (hm : (D, o) ∈ news) (hl : AllLt D (RstL b (C :: cs) h)) (hc : ∀ c ∈ cs, c ≠ D) : H.get? D = none := by
  refine B.new _ ?_
  cases e : h.get? D with
  | none => rfl
  | some x =>
    have hN := N _ hm
    have hC : D ∉ C :: cs := fun h => by
      rcases List.mem_cons.mp h with h | h
      · exact hN.2.1 h
      · exact hc _ h rfl
    have : ∀ (l : List (Addr × Obj)), AllLt D l → ∀ q ∈ l, q.1 < D := by
      intro l
      induction l with
      | nil => intro _ q hq; exact absurd hq List.not_mem_nil
      | cons r l ih =>
        intro h q hq
        rcases List.mem_cons.mp hq with rfl | hq
        · exact h.1
        · exact ih h.2 q hq
    exact absurd (this _ hl _ (RstL.mem e hC hN.2.2)) (Nat.lt_irrefl _)
theorem BlkL.off {b h H h' : Heap} {C a : Addr} {cs : List Addr} {o : Obj} {m' : Str → Option Value} {news : List (Addr × Obj)} (B : BlkL b C cs h H) (F : Fr b C h' m') (N : News b C h' news) (hs : ∀ q ∈ RstL b (C :: cs) h, q ∈ news) (e1 : H.get? a = none) (e2 : h.get? a = some o) : h'.get? a = some o :=
  off_turnL F N B.up hs a o (fun hm => by
    rcases List.mem_cons.mp hm with h | h
    · exact B.blk (h ▸ e1)
    · exact B.own _ h e1) e2
theorem BlkL.good {b H : Heap} {C : Addr} {cs mu : List Addr} {MI : Addr → Obj → Prop} {s : Shared} {J : Heap → Prop} {h' : Heap} {tk : Nat} {gs : Array GenState} {m' : Str → Option Value} {news : List (Addr × Obj)} (B : BlkL b C (cs ++ mu) s.heap H) (F : Fr b C h' m') (N : News b C h' news) (hc : ∀ c ∈ cs, ∃ o v, (c, o) ∈ news ∧ o.data = .cell v) (hm : ∀ c ∈ mu, ∃ o, (c, o) ∈ news ∧ MI c o) (hs : ∀ q ∈ RstL b (C :: (cs ++ mu)) s.heap, q ∈ news) (hJ : J h') (hg : AllBare s.gens → AllBare gs := by first | exact id | assumption) :
    GoodL C cs mu MI s J { s with heap := h', toks := tk, gens := gs } := ⟨h', tk, m', gs, rfl, hg, F.ns, fun c hm => let ⟨o, v, a, d⟩ := hc c hm; ⟨o, v, (N _ a).1, d⟩, fun c hx => let ⟨o, a, d⟩ := hm c hx; ⟨o, (N _ a).1, d⟩, off_turnL F N B.up hs, hJ⟩

/-- an iterator, and the release of what it hands out to a target -/
structure Steps (prog : Program) (w : World) (A : Around) (target : Expr) (I : Addr) (fp wr : List Addr) (n : Nat) (P : Nat → Value → Heap → Heap → Prop) (St : Nat → Heap → Prop) : Prop where
  sub : ∀ b ∈ wr, b ∈ fp
  frame : ∀ i h h', St i h → (∀ b ∈ fp, ∀ o, h.get? b = some o → h'.get? b = some o) → St i h'
  item : ∀ i (s : Shared) (Q : Value → Shared → Prop) (QQ : Option Value → Shared → Prop) (E : Value → Shared → Prop), i < n → St i s.heap →
    (∀ v s₁, wpAny (model prog w) A (letOwnedTupleGo target (.ref I) v) (fun _ s₂ => Q v s₂) E s₁ → QQ (some v) s₁) →
    (∀ v h' tk, P i v s.heap h' → St (i + 1) h' → (∀ b o, b ∉ wr → s.heap.get? b = some o → h'.get? b = some o) → Q v { s with heap := h', toks := tk }) →
    wpAny (model prog w) A (pyNext (.ref I)) QQ E s
  done : ∀ (s : Shared) (Q : Option Value → Shared → Prop) (E : Value → Shared → Prop), St n s.heap →
    (∀ h' tk, (∀ b o, b ∉ wr → s.heap.get? b = some o → h'.get? b = some o) → Q none { s with heap := h', toks := tk }) → wpAny (model prog w) A (pyNext (.ref I)) Q E s
  self : ∀ i (s : Shared) (Q : Value → Shared → Prop) (E : Value → Shared → Prop), St i s.heap → Q (.ref I) s → wpAny (model prog w) A (pyIter (.ref I)) Q E s
  stays : ∀ i h, St i h → ∀ x ∈ wr, ∃ o, h.get? x = some o
theorem Steps.ofWalks {prog : Program} {w : World} {A : Around} {target : Expr} {I : Addr} {fp wr : List Addr} {n : Nat} {P : Nat → Value → Prop} {St : Nat → Heap → Prop} (W : Walks prog w A I fp wr n P St) (hst : ∀ i h, St i h → ∀ x ∈ wr, ∃ o, h.get? x = some o)
    (ht : ∀ (i : Nat) (s : Shared) (v : Value) (Q : Unit → Shared → Prop) (E : Value → Shared → Prop), St i s.heap → Q () s → wpAny (model prog w) A (letOwnedTupleGo target (.ref I) v) Q E s) :
    Steps prog w A target I fp wr n (fun i v _ _ => P i v) St :=
  ⟨W.sub, W.frame, fun i s Q QQ E hi hs hq hQ => W.item i s _ E hi hs fun v h' tk hP hs' hk => hq _ _ (ht _ _ _ _ _ hs' (hQ v h' tk hP hs' hk)), W.done, W.self, hst⟩
theorem Steps.ofT {prog : Program} {w : World} {A : Around} {elts : List Expr} {k : Nat} {pos : Pos} {I : Addr} {fp wr : List Addr} {n : Nat} {Pt : Nat → Array Value → Prop} {St : Nat → Heap → Prop} {Mid : Nat → Addr → Heap → Prop} (W : WalksT prog w A I fp wr n Pt St Mid)
    (hst : ∀ i h, St i h → ∀ x ∈ wr, ∃ o, h.get? x = some o) :
    Steps prog w A (.Tuple elts k pos) I fp wr n (fun i v h h' => ∃ T vals, v = .ref T ∧ Pt i vals ∧ h.get? T = none ∧ h'.IsTuple T vals) St :=
  ⟨W.sub, W.frame, fun i s Q QQ E hi hs hq hQ => W.item i s _ E hi hs fun T vals h' tk hP hT htup hmid hk => hq _ _ (W.go _ _ _ i T _ _ _ hmid fun h'' hs'' hk'' =>
    hQ _ _ _ ⟨T, vals, rfl, hP, fresh_of hT, let ⟨o, ho, r⟩ := htup; ⟨o, hk'' _ _ (W.apart _ _ _ hmid) ho, r⟩⟩ hs'' fun b o hb e => hk'' b o hb (hk b o hb e)), W.done, W.self, hst⟩

theorem compLoop_steps {prog : Program} {w : World} {A : Around} {R : Result → Shared → Prop} {s : Shared} {elt target iter : Expr} {ifs : List Expr} {scope : Scope} {pos : Pos} {it acc : Value} {env : Env} (I : Nat → Shared → Prop)
    (turn : ∀ n s, I n s → wpAny (model prog w) A (pyNext it) (fun r s₁ => match r with
      | none => R (.ok .next) s₁
      | some v => wpAny (model prog w) A (letOwnedTupleGo target it v) (fun _ s₁' => wpAny (model prog w) A (assign target env v) (fun _ s₂ =>
          wpAny (model prog w) A (forIn ifs true fun c r => if r = true then do let ok ← isTrue c env (eval c env); pure (ForInStep.yield ok) else pure (ForInStep.yield r)) (fun ok s₃ =>
            if ok = true then wpAny (model prog w) A (eval elt env) (fun x s₄ =>
              wpAny (model prog w) A (call (.builtin "list.append") [acc, x]) (fun _ s₅ => ∃ m, m < n ∧ I m s₅) (fun _ _ => False) s₄) (fun _ _ => False) s₃
            else ∃ m, m < n ∧ I m s₃) (fun _ _ => False) s₂) (fun _ _ => False) s₁') (fun _ _ => False) s₁) (fun _ _ => False) s)
    (n : Nat) (h : I n s) : codeAny (model prog w) A (.compLoop (.ListComp elt [⟨target, iter, ifs, 0⟩] scope pos) 0 it acc env) R s := by
  refine codeAny_loop rfl I (fun n s hI => ?_) n h
  show wpAny _ A ((compTurn (.ListComp elt [⟨target, iter, ifs, 0⟩] scope pos) 0 it acc env).onRaise (fun x => do noteFrame x env; theTreesLotGoes x)) _ _ s
  refine wpAny_noted ?_
  rw [compTurn_list]
  refine wpAny_bind (wpAny_standAt (wpAny_bind (wpAny_mono (turn n s hI) (fun r s₁ h₁ => ?_) fun _ _ h' => h'.elim)))
  cases r with
  | none => exact wpAny_pure h₁
  | some v =>
    refine wpAny_bind (wpAny_mono h₁ (fun _ s₁' h₁' => ?_) fun _ _ h' => h'.elim)
    refine wpAny_bind (wpAny_mono h₁' (fun _ s₂ h₂ => wpAny_bind (wpAny_mono h₂ (fun ok s₃ h₃ => ?_) fun _ _ h' => h'.elim)) fun _ _ h' => h'.elim)
    cases ok with
    | false => exact wpAny_pure ⟨rfl, h₃⟩
    | true =>
      exact wpAny_bind (wpAny_bind (wpAny_mono h₃ (fun x s₄ h₄ => wpAny_bind (wpAny_mono h₄ (fun _ s₅ h₅ => wpAny_pure (wpAny_pure ⟨rfl, h₅⟩)) fun _ _ h' => h'.elim)) fun _ _ h' => h'.elim))

theorem cellsFrom_acc : ∀ (names : List (Str × NameKind)) (n : Nat) (acc : List (Str × Addr)), cellsFrom n names acc = cellsFrom n names [] ++ acc
  | [], _, _ => rfl
  | (name, kind) :: r, n, acc => by
    unfold cellsFrom
    split
    · rw [cellsFrom_acc r (n + 1) ((name, n) :: acc), cellsFrom_acc r (n + 1) [(name, n)], List.append_assoc]; rfl
    · exact cellsFrom_acc r n acc
theorem wpAny_blockEnv {M : Model} {A : Around} {E : Value → Shared → Prop} {s : Shared} {scope : Scope} {globals : Addr} {cl : List (Str × Addr)} {qual : Str} {env : Env} {Q : Env → Shared → Prop}
    (hQ : ∀ h₁, h₁.Ns s.heap.objs.size (fun _ => none) → Ext s.heap h₁ → (∀ n c, (n, c) ∈ cellsFrom (s.heap.objs.size + 1) scope.names [] → (∃ o, h₁.get? c = some o ∧ o.data = .cell none) ∧ s.heap.objs.size < c) →
      Q { scope := scope, locals := s.heap.objs.size, globals := globals, cells := cellsFrom (s.heap.objs.size + 1) scope.names [] ++ cl, qual := qual, func := none, code := env.code, frame := env.frame, builtins := env.builtins } { s with heap := h₁ }) :
    wpAny M A (newFunctionEnv scope globals cl [] qual none .none (some env)) Q E s := by
  simp only [newFunctionEnv, Option.isSome_some, if_true]
  refine wpAny_bind (wpAny_alloc ?_)
  refine wpAny_bind (wpAny_layCells _ (fun name kind cells => by cases hkc : kind == NameKind.cell <;> simp [hkc]) _ _ _ _ ?_)
  have ok := cellsFrom_ok scope.names (s.heap.push { cls := .type "dict", data := .dict #[] }) (s.heap.objs.size + 1) [] ⟨fun _ _ hm => (nomatch hm), List.Pairwise.nil⟩ (by rw [Heap.size_push]; exact Nat.le_refl _)
  rw [Heap.size_push] at ok
  rw [show ({ s with heap := s.heap.push { cls := .type "dict", data := .dict #[] } } : Shared).heap.objs.size = s.heap.objs.size + 1 from Heap.size_push ..]
  rw [cellsFrom_acc]
  refine wpAny_bind (wpAny_pure (wpAny_pure (hQ _ ((Heap.Ns.new s.heap (.type "dict")).keeps (pushCells_keeps _ _)) (fun b o e => pushCells_keeps _ _ b o (Heap.get?_push_of_some _ e)) fun n c hm => ⟨(ok.empty n c hm).1, (ok.empty n c hm).2⟩)))

section
variable {prog : Program} {w : World} {A : Around} {E : Value → Shared → Prop} {env : Env}
/-- the addresses of a block's own cells, its dict standing at C -/
def ownAt (scope : Scope) (C : Addr) : List (Str × Addr) := cellsFrom (C + 1) scope.names []
abbrev TurnL (prog : Program) (w : World) (A : Around) (env : Env) (elt target : Expr) (ifs : List Expr) (scope : Scope) (cl : List (Str × Addr)) (b : Heap) (news : List (Addr × Obj)) (n : Nat) (P : Nat → Value → Heap → Heap → Prop) (J : Heap → Nat → List Value → Heap → Prop) (mu : List Addr) (MI : Addr → Obj → Prop) (wr : List Addr) (s₂ : Shared) : Prop :=
  ∀ H C i v h₀ h tk gs ys m' cobs mobs, Ext s₂.heap H → (∀ x o, x ∉ mu → x ∉ wr → s₂.heap.get? x = some o → h.get? x = some o) → BlkL b C ((ownAt scope C).map (·.2) ++ mu) h H → i < n → ys.length ≤ i → P i v h₀ h → (∀ a, h₀.get? a = none → H.get? a = none) → J H i ys h → cobs.map (·.1) = (ownAt scope C).map (·.2) → (∀ q ∈ cobs, ∃ v, q.2.data = .cell v) → mobs.map (·.1) = mu → (∀ q ∈ mobs, MI q.1 q.2) → s₂.heap.objs.size ≤ C → Fr b C h m' → News b C h (cobs ++ (mobs ++ (news ++ RstL b (C :: ((ownAt scope C).map (·.2) ++ mu)) h))) →
      wpAny (model prog w) A (assign target (compEnvC scope (ownAt scope C ++ cl) C env) v) (fun _ s₃ => wpAny (model prog w) A (forIn ifs true fun c r => if r = true then do let ok ← isTrue c (compEnvC scope (ownAt scope C ++ cl) C env) (eval c (compEnvC scope (ownAt scope C ++ cl) C env)); pure (ForInStep.yield ok) else pure (ForInStep.yield r))
        (fun ok s₄ => if ok = true then wpAny (model prog w) A (eval elt (compEnvC scope (ownAt scope C ++ cl) C env)) (fun y s₅ => GoodL C ((ownAt scope C).map (·.2)) mu MI { s₂ with heap := h, toks := tk, gens := gs } (J H (i + 1) (ys ++ [y])) s₅) (fun _ _ => False) s₄
          else GoodL C ((ownAt scope C).map (·.2)) mu MI { s₂ with heap := h, toks := tk, gens := gs } (J H (i + 1) ys) s₄) (fun _ _ => False) s₃) (fun _ _ => False) { s₂ with heap := h, toks := tk, gens := gs }
theorem pick {MI : Addr → Obj → Prop} (h₂ : Heap) : ∀ l : List Addr, (∀ c ∈ l, ∃ o, h₂.get? c = some o ∧ MI c o) → ∃ mobs : List (Addr × Obj), mobs.map (·.1) = l ∧ (∀ q ∈ mobs, MI q.1 q.2) ∧ ∀ q ∈ mobs, h₂.get? q.1 = some q.2
  | [], _ => ⟨[], rfl, (fun q hq => absurd hq List.not_mem_nil), (fun q hq => absurd hq List.not_mem_nil)⟩
  | c :: r, hl => by
    obtain ⟨mobs, a1, a2, a3⟩ := pick h₂ r fun c hc => hl c (List.mem_cons_of_mem _ hc)
    obtain ⟨o, e, d⟩ := hl c List.mem_cons_self
    refine ⟨(c, o) :: mobs, by rw [List.map_cons, a1], fun q hq => ?_, fun q hq => ?_⟩
    · rcases List.mem_cons.mp hq with rfl | hq
      · exact d
      · exact a2 q hq
    · rcases List.mem_cons.mp hq with rfl | hq
      · exact e
      · exact a3 q hq
theorem lc2_of {elt target : Expr} {ifs : List Expr} {scope : Scope} {cl : List (Str × Addr)} {b : Heap} {L : Addr} {m : Str → Option Value} {news : List (Addr × Obj)} {n : Nat} {P : Nat → Value → Heap → Heap → Prop} {J : Heap → Nat → List Value → Heap → Prop} {s₂ : Shared} {I : Addr} {fp wr : List Addr} {St : Nat → Heap → Prop} {mu : List Addr} {MI : Addr → Obj → Prop} (hmu : ∀ c ∈ mu, (∃ o, s₂.heap.get? c = some o ∧ MI c o) ∧ b.get? c = none ∧ c ≠ L ∧ c ∉ fp ∧ ∀ q ∈ news, q.1 ≠ c)
    (W : Steps prog w A target I fp wr n P St) (hst : St 0 s₂.heap) (hfp : ∀ x ∈ fp, x < s₂.heap.objs.size) (hwr : ∀ x ∈ wr, b.get? x = none ∧ x ≠ L ∧ ∀ q ∈ news, q.1 ≠ x) (hsmall : n ≤ sizeLine) (F : Fr b L s₂.heap m) (N : News b L s₂.heap news)
    {iter : Expr} {pos : Pos} {RR : Value → Addr → Result → Shared → Prop}
    (hJ0 : ∀ H, Ext s₂.heap H → J H 0 [] H) (hJs : ∀ H i ys, Stable H (J H i ys)) (turn : TurnL prog w A env elt target ifs scope cl b news n P J mu MI wr s₂)
    (hR : ∀ H D C h tk gs m' ys k mobs, mobs.map (·.1) = mu → (∀ q ∈ mobs, MI q.1 q.2) → (AllBare s₂.gens → AllBare gs) → Ext s₂.heap H → (∀ x o, x ∉ wr → x ∉ mu → s₂.heap.get? x = some o → h.get? x = some o) → s₂.heap.get? D = none → s₂.heap.get? C = none → D ≠ C → h.Ns C m' → Fr b L h m → News b L h ((D, { cls := .type "list", data := .seq ys.toArray k }) :: (mobs ++ news)) → D ≠ L → C ≠ L → b.get? C = none → (∀ q ∈ mobs ++ news, q.1 ≠ C) → (∀ q ∈ mobs ++ news, q.1 ≠ D) → H.get? D ≠ none → H.get? C ≠ none → ys.length ≤ n →
      J H n ys h → RR (.ref D) C (.ok .next) { s₂ with heap := h, toks := tk, gens := gs }) :
    wpAny (model prog w) A (newList []) (fun acc s₃ => wpAny (model prog w) A (newFunctionEnv scope env.globals cl [] env.qual none .none (some env)) (fun cenv s₄ =>
      codeAny (model prog w) A (.compStart (.ListComp elt [⟨target, iter, ifs, 0⟩] scope pos) 0 (.ref I) acc { cenv with scope := relabel scope env }) (RR acc cenv.locals) s₄) E s₃) E s₂ := by
  have hstay := W.stays
  have hwo := hstay _ _ hst
  refine wpAny_newObj_type (wpAny_blockEnv (fun h₁ hns₁ hext₁ hcl₁ => ?_))
  dsimp only at hns₁ hext₁ hcl₁ ⊢
  generalize hH2 : s₂.heap.push { cls := .type "list", dict := none, data := .seq ([] : List Value).toArray } = H2 at hns₁ hext₁ hcl₁ ⊢
  have hC : H2.objs.size = s₂.heap.objs.size + 1 := by rw [← hH2, Heap.size_push]
  generalize hCn : H2.objs.size = C at hns₁ hcl₁ hC ⊢
  generalize hDn : s₂.heap.objs.size = D at hC ⊢
  have hDC : D ≠ C := by rw [hC]; exact Nat.ne_of_lt (Nat.lt_succ_self _)
  have below : ∀ x, x < D → x ≠ C ∧ x ≠ D := fun x hx => ⟨by rw [hC]; exact Nat.ne_of_lt (Nat.lt_succ_of_lt hx), Nat.ne_of_lt hx⟩
  have low : ∀ x o, s₂.heap.get? x = some o → x < D := fun x o e => hDn ▸ Heap.lt_size e
  generalize hcs : (ownAt scope C).map (·.2) = cs
  have hcs1 : ∀ c ∈ cs, (∃ o, h₁.get? c = some o ∧ o.data = .cell none) ∧ C < c := fun c hc => by
    rw [← hcs] at hc
    obtain ⟨q, hq, rfl⟩ := List.mem_map.mp hc
    exact hcl₁ q.1 q.2 hq
  have hcsD : ∀ c ∈ cs, D < c := fun c hc => Nat.lt_trans (by rw [hC]; exact Nat.lt_succ_self _) (hcs1 c hc).2
  have hDf : D ∉ fp := fun hm => Nat.lt_irrefl _ (hDn ▸ hfp _ hm)
  have hCf : C ∉ fp := fun hm => by have := hfp _ hm; rw [hDn, hC] at this; exact Nat.lt_irrefl _ (Nat.lt_of_succ_lt this)
  have hcf : ∀ c ∈ cs, c ∉ fp := fun c hc hm => by have := hfp _ hm; rw [hDn] at this; exact Nat.lt_irrefl _ (Nat.lt_trans this (hcsD c hc))
  have hDw : D ∉ wr := fun h => hDf (W.sub _ h)
  have hCw : C ∉ wr := fun h => hCf (W.sub _ h)
  have hcw : ∀ c ∈ cs, c ∉ wr := fun c hc h => hcf c hc (W.sub _ h)
  have old : ∀ x o, s₂.heap.get? x = some o → h₁.get? x = some o := fun x o e => hext₁ x o (hH2 ▸ Heap.get?_push_of_some _ e)
  have hacc : h₁.PlainList D ([] : List Value).toArray := ⟨_, hext₁ _ _ (by rw [← hH2, ← hDn]; exact Heap.get?_push_size _ rfl)⟩
  have fresh : ∀ a, D ≤ a → s₂.heap.get? a = none := fun a ha => fresh_of (by rw [hDn]; exact ha)
  have hst₁ : St 0 h₁ := W.frame _ _ _ hst fun x _ o e => old x o e
  have hD1 : ∃ o, h₁.get? D = some o := let ⟨k, e⟩ := hacc; ⟨_, e⟩
  have hC1 : ∃ o, h₁.get? C = some o := let ⟨o, _, _, e, _⟩ := hns₁; ⟨o, e⟩
  have hbC : b.get? C = none := by
    cases e : b.get? C with
    | none => rfl
    | some o => have := low _ _ (F.keep _ _ e); rw [hC] at this; exact absurd this (Nat.not_lt.mpr (Nat.le_succ _))
  have hbD : b.get? D = none := by
    cases e : b.get? D with
    | none => rfl
    | some o => have := low _ _ (F.keep _ _ e); exact absurd this (Nat.lt_irrefl _)
  have hL : L < D := hDn ▸ F.ns.lt
  have hab : b.objs.size ≤ C := by rw [hC]; exact Nat.le_trans F.above (Nat.le_of_lt (Nat.lt_succ_of_lt hL))
  have hmuD : ∀ c ∈ mu, c < D := fun c hc => let ⟨⟨o, e, _⟩, _⟩ := hmu c hc; low _ _ e
  have belowc : ∀ x, x < D → x ∉ mu → x ∉ C :: (cs ++ mu) := fun x hx hxm hm => by
    rcases List.mem_cons.mp hm with h | h
    · exact (below x hx).1 h
    · rcases List.mem_append.mp h with h | h
      · exact Nat.lt_irrefl _ (Nat.lt_trans hx (hcsD x h))
      · exact hxm h
  have hbm : ∀ x o, b.get? x = some o → x ∉ mu := fun x o e h => by rw [(hmu x h).2.1] at e; cases e
  have hnm : ∀ q ∈ news, q.1 ∉ mu := fun q hq h => (hmu _ h).2.2.2.2 q hq rfl
  have hLm : L ∉ mu := fun h => (hmu _ h).2.2.1 rfl
  have loop : ∀ s₃ : Shared, s₃ = { s₂ with heap := h₁ } →
      codeAny (model prog w) A (.compLoop (.ListComp elt [⟨target, iter, ifs, 0⟩] scope pos) 0 (.ref I) (.ref D) (compEnvC scope (ownAt scope C ++ cl) C env)) (RR (.ref D) C) s₃ := by
    rintro s₃ rfl
    refine compLoop_steps
      (fun k s' => ∃ h' tk gs m' ys i, s' = { s₂ with heap := h', toks := tk, gens := gs } ∧ (AllBare s₂.gens → AllBare gs) ∧ St i h' ∧ h'.PlainList D ys.toArray ∧ ys.length ≤ i ∧ h'.Ns C m' ∧ (∀ c ∈ cs, ∃ o v, h'.get? c = some o ∧ o.data = .cell v) ∧ (∀ c ∈ mu, ∃ o, h'.get? c = some o ∧ MI c o) ∧ i ≤ n ∧ k = n + 1 - i ∧
        (∀ x o, x ∉ C :: (cs ++ mu) → x ∉ wr → x ≠ D → h₁.get? x = some o → h'.get? x = some o) ∧ J h₁ i ys h') ?_ (n + 1)
      ⟨h₁, _, _, _, [], 0, rfl, id, hst₁, hacc, Nat.le_refl _, hns₁, fun c hc => let ⟨o, e, d⟩ := (hcs1 c hc).1; ⟨o, _, e, d⟩, fun c hc => let ⟨⟨o, e, d⟩, _⟩ := hmu c hc; ⟨o, old _ _ e, d⟩, Nat.zero_le _, rfl, fun _ _ _ _ _ e => e, hJ0 _ old⟩
    rintro k s' ⟨h', tk, gs, m', ys, i, rfl, hbare, hst', hacc', hle, hn', hcell', hmu', hi, rfl, hk, hJ⟩
    have hnone : ∀ (h₂ : Heap) m₂, (∀ x o, x ∉ C :: (cs ++ mu) → x ∉ wr → x ≠ D → h₁.get? x = some o → h₂.get? x = some o) → (∀ x ∈ wr, ∃ o, h₂.get? x = some o) → h₂.Ns C m₂ → h₂.PlainList D ys.toArray → (∀ c ∈ cs, ∃ o v, h₂.get? c = some o ∧ o.data = .cell v) → (∀ c ∈ mu, ∃ o, h₂.get? c = some o ∧ MI c o) → ∀ a, h₂.get? a = none → h₁.get? a = none := fun h₂ m₂ hk₂' hstay₂ hn₂ hacc₂ hcell₂ hmu₂ a e => by
      cases e1 : h₁.get? a with
      | none => rfl
      | some o =>
        exfalso
        by_cases hw : a ∈ wr
        · obtain ⟨o, e2⟩ := hstay₂ a hw; rw [e] at e2; cases e2
        · by_cases h2 : a ∈ C :: (cs ++ mu)
          · rcases List.mem_cons.mp h2 with h2 | h2
            · subst h2; obtain ⟨o, _, _, e2, _⟩ := hn₂; rw [e] at e2; cases e2
            · rcases List.mem_append.mp h2 with h2 | h2
              · obtain ⟨o, v, e2, _⟩ := hcell₂ a h2; rw [e] at e2; cases e2
              · obtain ⟨o, e2, _⟩ := hmu₂ a h2; rw [e] at e2; cases e2
          · by_cases h3 : a = D
            · subst h3; obtain ⟨k, e2⟩ := hacc₂; rw [e] at e2; cases e2
            · rw [hk₂' a o h2 hw h3 e1] at e; cases e
    by_cases hlt : i < n
    · refine W.item i _ _ _ _ hlt hst' (fun v s₁ hr => hr) fun v h₂ tk₂ hPv hst₂ hk₂ => ?_
      have hk₂' : ∀ x o, x ∉ C :: (cs ++ mu) → x ∉ wr → x ≠ D → h₁.get? x = some o → h₂.get? x = some o := fun x o a b' c e => hk₂ x o b' (hk x o a b' c e)
      have hmw : ∀ c ∈ mu, c ∉ wr := fun c hc h => (hmu c hc).2.2.2.1 (W.sub _ h)
      have s2 : ∀ x o, x ∉ wr → x ∉ mu → s₂.heap.get? x = some o → h₂.get? x = some o := fun x o hw hxm e => hk₂' x o (belowc x (low x o e) hxm) hw (below x (low x o e)).2 (old x o e)
      have bh : Ext b h₂ := fun x o e => s2 x o (fun hw => by rw [(hwr x hw).1] at e; cases e) (hbm x o e) (F.keep x o e)
      have hstay₂ : ∀ x ∈ wr, ∃ o, h₂.get? x = some o := fun x hx => hstay _ _ hst₂ x hx
      have hn₂ : h₂.Ns C m' := hn'.at' fun o e => hk₂ _ o hCw e
      have hacc₂ : h₂.PlainList D ys.toArray := hacc'.at fun o e => hk₂ _ o hDw e
      have hcell₂ : ∀ c ∈ cs, ∃ o v, h₂.get? c = some o ∧ o.data = .cell v := fun c hc => let ⟨o, v, e, d⟩ := hcell' c hc; ⟨o, v, hk₂ _ _ (hcw c hc) e, d⟩
      have hmu₂ : ∀ c ∈ mu, ∃ o, h₂.get? c = some o ∧ MI c o := fun c hc => let ⟨o, e, d⟩ := hmu' c hc; ⟨o, hk₂ _ _ (hmw c hc) e, d⟩
      have hJ₂ : J h₁ i ys h₂ := hJs _ _ _ _ _ (fun a o e1 e2 => hk₂ a o (fun hw => by obtain ⟨x, ex⟩ := hwo a hw; rw [old _ _ ex] at e1; cases e1) e2) hJ
      have F₂ : Fr b C h₂ m' := ⟨hn₂, bh, hab⟩
      obtain ⟨cobs, hcobs1, hcobs2, hcobs3⟩ : ∃ cobs : List (Addr × Obj), cobs.map (·.1) = cs ∧ (∀ q ∈ cobs, ∃ v, q.2.data = .cell v) ∧ ∀ q ∈ cobs, h₂.get? q.1 = some q.2 := by
        have : ∀ l : List Addr, (∀ c ∈ l, ∃ o v, h₂.get? c = some o ∧ o.data = .cell v) → ∃ cobs : List (Addr × Obj), cobs.map (·.1) = l ∧ (∀ q ∈ cobs, ∃ v, q.2.data = .cell v) ∧ ∀ q ∈ cobs, h₂.get? q.1 = some q.2 := by
          intro l
          induction l with
          | nil => intro _; exact ⟨[], rfl, (fun q hq => absurd hq List.not_mem_nil), (fun q hq => absurd hq List.not_mem_nil)⟩
          | cons c r ih =>
            intro hl
            obtain ⟨cobs, a1, a2, a3⟩ := ih fun c hc => hl c (List.mem_cons_of_mem _ hc)
            obtain ⟨o, v, e, d⟩ := hl c List.mem_cons_self
            refine ⟨(c, o) :: cobs, by rw [List.map_cons, a1], fun q hq => ?_, fun q hq => ?_⟩
            · rcases List.mem_cons.mp hq with rfl | hq
              · exact ⟨v, d⟩
              · exact a2 q hq
            · rcases List.mem_cons.mp hq with rfl | hq
              · exact e
              · exact a3 q hq
        exact this cs hcell₂
      obtain ⟨mobs, hmobs1, hmobs2, hmobs3⟩ := pick h₂ mu hmu₂
      have N₂ : News b C h₂ (cobs ++ (mobs ++ (news ++ RstL b (C :: (cs ++ mu)) h₂))) := fun q hq => by
        rcases List.mem_append.mp hq with hq | hq
        · have hmem : q.1 ∈ cs := hcobs1 ▸ List.mem_map_of_mem hq
          refine ⟨hcobs3 q hq, Nat.ne_of_gt (hcs1 _ hmem).2, ?_⟩
          cases e : b.get? q.1 with
          | none => rfl
          | some o => have := low _ _ (F.keep _ _ e); exact absurd (Nat.lt_trans this (hcsD _ hmem)) (Nat.lt_irrefl _)
        · rcases List.mem_append.mp hq with hq | hq
          · have hmem : q.1 ∈ mu := hmobs1 ▸ List.mem_map_of_mem hq
            exact ⟨hmobs3 q hq, (below _ (hmuD _ hmem)).1, (hmu _ hmem).2.1⟩
          rcases List.mem_append.mp hq with hq | hq
          · exact ⟨s2 _ _ (fun hw => (hwr _ hw).2.2 q hq rfl) (hnm q hq) (N q hq).1, (below _ (low _ _ (N q hq).1)).1, (N q hq).2.2⟩
          · exact ⟨(RstL.of hq).1, fun h => (RstL.of hq).2.1 (h ▸ List.mem_cons_self), (RstL.of hq).2.2⟩
      have T := turn h₁ C i v h' h₂ tk₂ gs ys m' cobs mobs old (fun x o a b' e => s2 x o b' a e) ⟨bh, hnone h₂ _ hk₂' hstay₂ hn₂ hacc₂ hcell₂ hmu₂, (by obtain ⟨o, e⟩ := hC1; rw [e]; exact fun h => nomatch h), fun c hc => (by
        rcases List.mem_append.mp hc with hc | hc
        · rw [hcs] at hc; obtain ⟨⟨o, e, _⟩, _⟩ := hcs1 c hc; rw [e]; exact fun h => nomatch h
        · obtain ⟨⟨o, e, _⟩, _⟩ := hmu c hc; rw [old _ _ e]; exact fun h => nomatch h)⟩ hlt hle hPv (hnone h' _ hk (fun x hx => hstay _ _ hst' x hx) hn' hacc' hcell' hmu') hJ₂ (hcs ▸ hcobs1) hcobs2 hmobs1 hmobs2 (by rw [hDn, hC]; exact Nat.le_succ _) F₂ (hcs.symm ▸ N₂)
      rw [hcs] at T
      refine wpAny_mono T (fun _ s₃ h₃ => wpAny_mono h₃ (fun ok s₄ h₄ => ?_) fun _ _ e => e.elim) fun _ _ e => e.elim
      have done : ∀ ys' s₅, GoodL C cs mu MI { s₂ with heap := h₂, toks := tk₂, gens := gs } (J h₁ (i + 1) ys') s₅ → ∃ h₅ tk₅ m₅ gs₅, s₅ = { s₂ with heap := h₅, toks := tk₅, gens := gs₅ } ∧ (AllBare s₂.gens → AllBare gs₅) ∧ h₅.Ns C m₅ ∧ (∀ c ∈ cs, ∃ o v, h₅.get? c = some o ∧ o.data = .cell v) ∧ (∀ c ∈ mu, ∃ o, h₅.get? c = some o ∧ MI c o) ∧ OffL (C :: (cs ++ mu)) h₂ h₅ ∧ J h₁ (i + 1) ys' h₅ := by
        rintro ys' s₅ ⟨h₅, tk₅, m₅, gs₅, rfl, z, a, b', c', c, d⟩; exact ⟨h₅, tk₅, m₅, gs₅, rfl, fun q => z (hbare q), a, b', c', c, d⟩
      have Dn : D ∉ C :: (cs ++ mu) := fun hm => by
        rcases List.mem_cons.mp hm with h | h
        · exact hDC h
        · rcases List.mem_append.mp h with h | h
          · exact Nat.lt_irrefl _ (hcsD _ h)
          · exact Nat.lt_irrefl _ (hmuD _ h)
      have fn : ∀ x ∈ fp, x ∉ C :: (cs ++ mu) := fun x hx hm => by
        rcases List.mem_cons.mp hm with h | h
        · exact hCf (h ▸ hx)
        · rcases List.mem_append.mp h with h | h
          · exact hcf _ h hx
          · exact (hmu _ h).2.2.2.1 hx
      cases ok with
      | false =>
        obtain ⟨h₅, tk₅, m₅, gs₅, rfl, hb5, n5, c5, mu5, off5, J5⟩ := done _ _ h₄
        exact ⟨n + 1 - (i + 1), by omega, h₅, tk₅, gs₅, m₅, ys, i + 1, rfl, hb5, W.frame _ _ _ hst₂ fun x hx o e => off5 x o (fn x hx) e, hacc₂.at (fun o e => off5 _ o Dn e), by omega, n5, c5, mu5, hlt, rfl, fun x o a b' c e => off5 x o a (hk₂' x o a b' c e), J5⟩
      | true =>
        refine wpAny_mono h₄ (fun y s₅ g₅ => ?_) fun _ _ e => e.elim
        obtain ⟨h₅, tk₅, m₅, gs₅, rfl, hb5, n5, c5, mu5, off5, J5⟩ := done _ _ g₅
        have hys : ys.toArray.size ≤ sizeLine := by rw [List.size_toArray]; omega
        refine wpAny_list_append_plain (hsz := hys) (hacc₂.at fun o e => off5 _ o Dn e) fun h₆ hl₆ hs₆ => ?_
        have hst₅ : St (i + 1) h₅ := W.frame _ _ _ hst₂ fun x hx o e => off5 x o (fn x hx) e
        refine ⟨n + 1 - (i + 1), by omega, h₆, tk₅, gs₅, m₅, ys ++ [y], i + 1, rfl, hb5, ?_, ?_, by rw [List.length_append, List.length_singleton]; omega, n5.sameBut hs₆ (Ne.symm hDC), fun c hc => let ⟨o, v, e, d⟩ := c5 c hc; ⟨o, v, hs₆.extBut _ _ (Nat.ne_of_gt (hcsD c hc)) e, d⟩, fun c hc => let ⟨o, e, d⟩ := mu5 c hc; ⟨o, hs₆.extBut _ _ (Nat.ne_of_lt (hmuD c hc)) e, d⟩, hlt, rfl, fun x o a b' c e => hs₆.extBut x o c (off5 x o a (hk₂' x o a b' c e)), ?_⟩
        · exact W.frame _ _ _ hst₅ fun x hx o e => hs₆.extBut x o (fun h => hDf (h ▸ hx)) e
        · rw [← List.push_toArray]; exact hl₆
        · exact hJs _ _ _ _ _ (fun a o e1 e2 => hs₆.extBut a o (fun h => by subst h; obtain ⟨x, ex⟩ := hD1; rw [e1] at ex; cases ex) e2) J5
    · have hin : i = n := by omega
      subst hin
      refine W.done _ _ _ hst' fun h₂ tk₂ hk₂ => ?_
      have s2 : ∀ x o, x ∉ wr → x ∉ mu → s₂.heap.get? x = some o → h₂.get? x = some o := fun x o hw hxm e => hk₂ x o hw (hk x o (belowc x (low x o e) hxm) hw (below x (low x o e)).2 (old x o e))
      have hmw : ∀ c ∈ mu, c ∉ wr := fun c hc h => (hmu c hc).2.2.2.1 (W.sub _ h)
      obtain ⟨mobs, hmobs1, hmobs2, hmobs3⟩ := pick h₂ mu fun c hc => let ⟨o, e, d⟩ := hmu' c hc; ⟨o, hk₂ _ _ (hmw c hc) e, d⟩
      have lowq : ∀ q ∈ mobs ++ news, q.1 < D := fun q hq => by
        rcases List.mem_append.mp hq with hq | hq
        · exact hmuD _ (hmobs1 ▸ List.mem_map_of_mem hq)
        · exact low _ _ (N q hq).1
      obtain ⟨kk, hacc₂⟩ : h₂.PlainList D ys.toArray := hacc'.at fun o e => hk₂ _ o hDw e
      refine hR h₁ D C h₂ tk₂ gs m' ys kk mobs hmobs1 hmobs2 hbare old s2 (fresh _ (Nat.le_refl _)) (fresh _ (by rw [hC]; exact Nat.le_succ _)) hDC (hn'.at' fun o e => hk₂ _ o hCw e) ⟨?_, fun x o e => s2 x o (fun hw => by rw [(hwr x hw).1] at e; cases e) (hbm x o e) (F.keep x o e), F.above⟩ (fun q hq => ?_) (fun h => Nat.lt_irrefl _ (h ▸ hL)) (fun h => by rw [← h, hC] at hL; exact Nat.lt_irrefl _ (Nat.lt_of_succ_lt hL)) hbC
        (fun q hq h => (below _ (lowq q hq)).1 h) (fun q hq h => (below _ (lowq q hq)).2 h) (by obtain ⟨o, e⟩ := hD1; rw [e]; exact fun h => nomatch h) (by obtain ⟨o, e⟩ := hC1; rw [e]; exact fun h => nomatch h) hle
        (hJs _ _ _ _ _ (fun a o e1 e2 => hk₂ a o (fun hw => by obtain ⟨x, ex⟩ := hwo a hw; rw [old _ _ ex] at e1; cases e1) e2) hJ)
      · exact F.ns.at' fun o e => s2 _ o (fun hw => (hwr _ hw).2.1 rfl) hLm e
      · rcases List.mem_cons.mp hq with rfl | hq
        · exact ⟨hacc₂, fun h => Nat.lt_irrefl _ (h ▸ hL), hbD⟩
        · rcases List.mem_append.mp hq with hq | hq
          · have hmem : q.1 ∈ mu := hmobs1 ▸ List.mem_map_of_mem hq
            exact ⟨hmobs3 q hq, (hmu _ hmem).2.2.1, (hmu _ hmem).2.1⟩
          · exact ⟨s2 _ _ (fun hw => (hwr _ hw).2.2 q hq rfl) (hnm q hq) (N q hq).1, (N q hq).2⟩
  exact codeAny_compStart_list (loop _ rfl) (W.self 0 _ _ _ hst₁ (loop _ rfl))

structure LcIt2 (prog : Program) (w : World) (A : Around) (env : Env) (elt target : Expr) (ifs : List Expr) (scope : Scope) (cl : List (Str × Addr)) (b : Heap) (m : Str → Option Value) (news : List (Addr × Obj)) (n : Nat) (P : Nat → Value → Heap → Heap → Prop) (J : Heap → Nat → List Value → Heap → Prop) (s₂ : Shared) (I : Addr) (fp wr : List Addr) (St : Nat → Heap → Prop) (mu : List Addr) (MI : Addr → Obj → Prop) (Q : Value → Shared → Prop) (assigned : Option Str) : Prop where
  mus : ∀ c ∈ mu, (∃ o, s₂.heap.get? c = some o ∧ MI c o) ∧ b.get? c = none ∧ c ≠ env.locals ∧ c ∉ fp ∧ ∀ q ∈ news, q.1 ≠ c
  W : Steps prog w A target I fp wr n P St
  st : St 0 s₂.heap
  fp : ∀ x ∈ fp, x < s₂.heap.objs.size
  wrs : ∀ x ∈ wr, b.get? x = none ∧ x ≠ env.locals ∧ ∀ q ∈ news, q.1 ≠ x
  small : n ≤ sizeLine
  F : Fr b env.locals s₂.heap m
  N : News b env.locals s₂.heap news
  J0 : ∀ H, Ext s₂.heap H → J H 0 [] H
  Js : ∀ H i ys, Stable H (J H i ys)
  turn : TurnL prog w A env elt target ifs scope cl b news n P J mu MI wr s₂
  fin : ∀ H D h tk gs ys k mobs, mobs.map (·.1) = mu → (∀ q ∈ mobs, MI q.1 q.2) → (AllBare s₂.gens → AllBare gs) → Ext s₂.heap H → (∀ x o, x ∉ wr → x ∉ mu → x ≠ env.locals → s₂.heap.get? x = some o → h.get? x = some o) → s₂.heap.get? D = none → H.get? D ≠ none → Fr b env.locals h (match assigned with | none => m | some y => fun z => if z = y then some (.ref D) else m z) → News b env.locals h ((D, { cls := .type "list", data := .seq ys.toArray k }) :: (mobs ++ news)) → (∀ q ∈ mobs ++ news, q.1 ≠ D) → ys.length ≤ n → J H n ys h → Q (.ref D) { s₂ with heap := h, toks := tk, gens := gs }
def LcIter2 (prog : Program) (w : World) (A : Around) (env : Env) (elt target : Expr) (ifs : List Expr) (scope : Scope) (cl : List (Str × Addr)) (Q : Value → Shared → Prop) (assigned : Option Str) (xv : Value) (s₁ : Shared) : Prop :=
  wpAny (model prog w) A (pyIter xv) (fun it s₂ => ∃ b m news n P J I fp wr St mu MI, it = .ref I ∧ LcIt2 prog w A env elt target ifs scope cl b m news n P J s₂ I fp wr St mu MI Q assigned) (fun _ _ => False) s₁

theorem lc2_eval {s : Shared} {elt target iter : Expr} {ifs : List Expr} {scope : Scope} {cl : List (Str × Addr)} {pos : Pos} {Q : Value → Shared → Prop}
    (hclos : closureFor scope env = pure cl) (hkind : scope.kind = .function) (hnames : ∀ y ∈ scope.names, y.2 = .local → scope.names.lookup y.1 = some .local)
    (h : wpAny (model prog w) A (eval iter env) (fun xv s₁ => LcIter2 prog w A env elt target ifs scope cl Q none xv s₁) E s)
    (hs : ∀ x, foldedSetIterable iter env x = pure x := by intro _; rfl) :
    wpAny (model prog w) A (eval (.ListComp elt [⟨target, iter, ifs, 0⟩] scope pos) env) Q E s := by
  rw [eval_ListComp]
  refine wpAny_comprehension_free (use := none) rfl hs hclos hkind hnames (wpAny_mono h (fun xv s₁ h₁ => wpAny_mono h₁ (fun it s₂ h₂ => ?_) fun _ _ e => e.elim) fun _ _ e => e)
  obtain ⟨b, m, news, n, P, J, I, fp, wr, St, mu, MI, rfl, X⟩ := h₂
  refine lc2_of (RR := fun acc C => compPost (model prog w) A E none Q acc C) (E := E) X.mus X.W X.st X.fp X.wrs X.small X.F X.N X.J0 X.Js X.turn ?_
  intro H D C h' tk gs m' ys k mobs hm1 hm2 hbare hE hkeep hD hC hDC hn F' N' hDL hCL hbC hCn hDn hHD hHC hle hJ
  refine ⟨m', hn, fun h'' hs'' => X.fin H D h'' tk gs ys k mobs hm1 hm2 hbare hE (fun x o a b' _ e => hs''.extBut x o (fun h => by rw [h, hC] at e; cases e) (hkeep x o a b' e)) hD hHD ⟨F'.ns.at' fun o e => hs''.extBut _ o (Ne.symm hCL) e, fun x o e => hs''.extBut x o (fun h => by subst h; rw [hbC] at e; cases e) (F'.keep x o e), F'.above⟩ (fun q hq => ?_) hDn hle (X.Js _ _ _ _ _ (fun a o e1 e2 => hs''.extBut a o (fun h => hHC (h ▸ e1)) e2) hJ)⟩
  refine ⟨hs''.extBut _ _ ?_ (N' q hq).1, (N' q hq).2⟩
  rcases List.mem_cons.mp hq with rfl | hq
  · exact hDC
  · exact hCn q hq

theorem lc2_assign {s : Shared} {elt target iter : Expr} {y : Str} {py : Pos} {ifs : List Expr} {scope : Scope} {cl : List (Str × Addr)} {pos spos : Pos} {Q : Flow → Shared → Prop}
    (hsw : swapsWith (.ListComp elt [⟨target, iter, ifs, 0⟩] scope pos) (some (.Name y py)) spos.line env = pure true)
    (hclos : closureFor scope env = pure cl) (hkind : scope.kind = .function)
    (hnames : ∀ z ∈ scope.names, z.2 = .local → scope.names.lookup z.1 = some .local)
    (hy : env.kindOf y = some .local) (hp : (env.scope.kind == .class || (env.scope.kind == .module && env.locals != env.globals)) = false)
    (h : wpAny (model prog w) A (eval iter env) (fun xv s₁ => LcIter2 prog w A env elt target ifs scope cl (fun _ s' => Q .next s') (some y) xv s₁) E s)
    (hs : ∀ x, foldedSetIterable iter env x = pure x := by intro _; rfl) :
    wpAny (model prog w) A (exec (.Assign [.Name y py] (.ListComp elt [⟨target, iter, ifs, 0⟩] scope pos) spos) env) Q E s := by
  rw [exec_Assign_Name_used _ _ _ _ hsw]
  refine wpAny_bind (wpAny_standAt (wpAny_bind ?_))
  show wpAny _ A (do let _ ← comprehension (.ListComp elt [⟨target, iter, ifs, 0⟩] scope pos) scope env _ (newList []) false (eval iter env) (some (assign (.Name y py) env))) _ _ s
  refine wpAny_bind (wpAny_mono (wpAny_comprehension_free (use := some (assign (.Name y py) env)) (Q := fun _ s' => Q .next s') rfl hs hclos hkind hnames
    (wpAny_mono h (fun xv s₁ h₁ => wpAny_mono h₁ (fun it s₂ h₂ => ?_) fun _ _ e => e.elim) fun _ _ e => e)) (fun _ s' hq => wpAny_pure (wpAny_pure hq)) fun _ _ e => e)
  obtain ⟨b, m, news, n, P, J, I, fp, wr, St, mu, MI, rfl, X⟩ := h₂
  refine lc2_of (RR := fun acc C => compPost (model prog w) A E (some (assign (.Name y py) env)) (fun _ s' => Q .next s') acc C) (E := E) X.mus X.W X.st X.fp X.wrs X.small X.F X.N X.J0 X.Js X.turn ?_
  intro H D C h' tk gs m' ys k mobs hm1 hm2 hbare hE hkeep hD hC hDC hn F' N' hDL hCL hbC hCn hDn hHD hHC hle hJ
  have hHL : ∃ o, H.get? env.locals = some o := let ⟨o, _, _, e, _⟩ := X.F.ns; ⟨o, hE _ _ e⟩
  show wpAny _ A (assign (.Name y py) env (.ref D)) _ _ _
  refine wpAny_assign_Name (wpAny_storeName_local hy F'.ns (fun h₂ hn₂ hs₂ => ?_) hp)
  refine ⟨m', hn.sameBut hs₂ hCL, fun h'' hs'' => ?_⟩
  refine X.fin H D h'' _ gs ys k mobs hm1 hm2 hbare hE (fun x o a b' c e => hs''.extBut x o (fun h => by rw [h, hC] at e; cases e) (hs₂.extBut x o c (hkeep x o a b' e))) hD hHD ⟨hn₂.at' fun o e => hs''.extBut _ o (Ne.symm hCL) e, fun x o e => hs''.extBut x o (fun h => by subst h; rw [hbC] at e; cases e) (hs₂.extBut x o (fun h => ?_) (F'.keep x o e)), F'.above⟩ (fun q hq => ?_) hDn hle
    (X.Js _ _ _ _ _ (fun a o e1 e2 => hs''.extBut a o (fun h => hHC (h ▸ e1)) (hs₂.extBut a o (fun h => by obtain ⟨o, e⟩ := hHL; rw [← h, e1] at e; cases e) e2)) hJ)
  · subst h; exact absurd (Heap.lt_size e) (Nat.not_lt.mpr F'.above)
  · refine ⟨hs''.extBut _ _ ?_ (hs₂.extBut _ _ (N' q hq).2.1 (N' q hq).1), (N' q hq).2⟩
    rcases List.mem_cons.mp hq with rfl | hq
    · exact hDC
    · exact hCn q hq
/-- over a list that is known -/
theorem lc2_list {s₁ : Shared} {elt target : Expr} {ifs : List Expr} {scope : Scope} {cl : List (Str × Addr)} {Q : Value → Shared → Prop} {assigned : Option Str} {b : Heap} {m : Str → Option Value} {news : List (Addr × Obj)} {t : Addr} {its : Array Value} {k₀ : Nat} {J : Heap → Nat → List Value → Heap → Prop} (mu : List Addr) (MI : Addr → Obj → Prop) (hmu : ∀ c ∈ mu, (∃ o, s₁.heap.get? c = some o ∧ MI c o) ∧ b.get? c = none ∧ c ≠ env.locals ∧ c ≠ t ∧ ∀ q ∈ news, q.1 ≠ c)
    (htg : (∃ x p, target = .Name x p) ∨ ∃ el k p, target = .Tuple el k p) (hh : A.handled = none) (F : Fr b env.locals s₁.heap m) (N : News b env.locals s₁.heap news) (hm : (t, { cls := .type "list", data := .seq its k₀ }) ∈ news) (hsz : its.size ≤ sizeLine)
    (hJ0 : ∀ H, Ext s₁.heap H → J H 0 [] H) (hJs : ∀ H i ys, Stable H (J H i ys))
    (turn : TurnL prog w A env elt target ifs scope cl b news its.size (fun i v _ _ => its[i]? = some v) J mu MI [] s₁)
    (fin : ∀ H D h tk gs ys k mobs, mobs.map (·.1) = mu → (∀ q ∈ mobs, MI q.1 q.2) → (AllBare s₁.gens → AllBare gs) → Ext s₁.heap H → (∀ x o, x ∉ mu → x ≠ env.locals → s₁.heap.get? x = some o → h.get? x = some o) → s₁.heap.get? D = none → H.get? D ≠ none → Fr b env.locals h (match assigned with | none => m | some y => fun z => if z = y then some (.ref D) else m z) → News b env.locals h ((D, { cls := .type "list", data := .seq ys.toArray k }) :: (mobs ++ news)) → (∀ q ∈ mobs ++ news, q.1 ≠ D) → ys.length ≤ its.size → J H its.size ys h → Q (.ref D) { s₁ with heap := h, toks := tk, gens := gs }) :
    LcIter2 prog w A env elt target ifs scope cl Q assigned (.ref t) s₁ := by
  have hput := (N _ hm).1
  have hne : t ≠ s₁.heap.objs.size := Nat.ne_of_lt (Heap.lt_size hput)
  have hIs : s₁.heap.IsList t its := ⟨_, hput, rfl, _, rfl⟩
  have up : ∀ o, Ext s₁.heap (s₁.heap.push o) := fun _ _ _ e => Heap.get?_push_of_some _ e
  have hL := F.ns.lt
  refine wpAny_pyIter_list hIs ⟨b, m, news, its.size, _, J, s₁.heap.objs.size, _, _, _, mu, MI, rfl, fun c hc => ?_, Steps.ofWalks (Walks.list hh _ _ hne its) ?_ ?_, ⟨⟨_, Heap.get?_push_size _ rfl, rfl, rfl⟩, hIs.at fun o e => Heap.get?_push_of_some _ e⟩, ?_, ?_, hsz, F.push _, fun q hq => ⟨up _ _ _ (N q hq).1, (N q hq).2⟩, fun H hE => hJ0 H (fun x o e => hE _ _ (up _ _ _ e)), hJs, ?_, ?_⟩
  · obtain ⟨⟨o, e, d⟩, h2, h3, h4, h5⟩ := hmu c hc
    refine ⟨⟨o, up _ _ _ e, d⟩, h2, h3, fun h => ?_, h5⟩
    rcases List.mem_cons.mp h with h | h
    · exact Nat.lt_irrefl _ (h ▸ Heap.lt_size e)
    · exact h4 (List.mem_singleton.mp h)
  · intro i h hs x hx
    rw [List.mem_singleton.mp hx]
    obtain ⟨⟨o, e, _⟩, _⟩ := hs; exact ⟨o, e⟩
  · intro i s v Q E hs hq
    rcases htg with ⟨x, p, rfl⟩ | ⟨el, k, p, rfl⟩
    · exact wpAny_pure hq
    · cases v <;> first | exact wpAny_letOwnedTupleGo_listiter hs.1 hq | exact wpAny_pure hq
  · intro x hx
    rcases List.mem_cons.mp hx with rfl | hx
    · rw [Heap.size_push]; exact Nat.lt_succ_self _
    · rw [List.mem_singleton.mp hx, Heap.size_push]; exact Nat.lt_succ_of_lt (Heap.lt_size hput)
  · intro x hx
    rw [List.mem_singleton.mp hx]
    refine ⟨?_, fun h => Nat.lt_irrefl _ (h ▸ hL), fun q hq h => Nat.lt_irrefl _ (h ▸ Heap.lt_size (N q hq).1)⟩
    cases e : b.get? s₁.heap.objs.size with
    | none => rfl
    | some o => exact absurd (Heap.lt_size (F.keep _ _ e)) (Nat.lt_irrefl _)
  · intro H C i v h₀ h tk gs ys m' cobs mobs hE hkp B hi hle hP hn hJ c1 c2 c3 c4 hs F' N'
    exact turn H C i v h₀ h tk gs ys m' cobs mobs (fun x o e => hE _ _ (up _ _ _ e)) (fun x o a _ e => hkp x o a (fun h => by rw [List.mem_singleton.mp h] at e; exact Nat.lt_irrefl _ (Heap.lt_size e)) (up _ _ _ e)) B hi hle hP hn hJ c1 c2 c3 c4 (Nat.le_trans (by rw [Heap.size_push]; exact Nat.le_succ _) hs) F' N'
  · intro H D h tk gs ys k mobs hm1 hm2 hbare hE hkeep hD hHD F' N' hn hle hJ
    exact fin H D h tk gs ys k mobs hm1 hm2 hbare (fun x o e => hE _ _ (up _ _ _ e)) (fun x o a c e => hkeep x o (fun hm => by rw [List.mem_singleton.mp hm] at e; exact Nat.lt_irrefl _ (Heap.lt_size e)) a c (up _ _ _ e)) (none_back (up _) hD) hHD F' N' hn hle hJ

/-- what enumerate hands out -/
abbrev EnumP (its : Array Value) (i : Nat) (v : Value) (h₀ h : Heap) : Prop := ∃ T vals, v = .ref T ∧ (∃ t x, its[i]? = some x ∧ vals = #[.int i t, x]) ∧ h₀.get? T = none ∧ h.IsTuple T vals
/-- over enumerate of a list that is known -/
theorem lc2_enum {s₀ : Shared} {elt : Expr} {els : List Expr} {ek : Nat} {ep : Pos} {ifs : List Expr} {scope : Scope} {cl : List (Str × Addr)} {Q : Value → Shared → Prop} {assigned : Option Str} {b : Heap} {m : Str → Option Value} {news : List (Addr × Obj)} {l : Addr} {its : Array Value} {k₀ : Nat} {J : Heap → Nat → List Value → Heap → Prop}
    (hh : A.handled = none) (F : Fr b env.locals s₀.heap m) (N : News b env.locals s₀.heap news) (hm : (l, { cls := .type "list", data := .seq its k₀ }) ∈ news) (hsz : its.size ≤ sizeLine)
    (hJ0 : ∀ H, Ext s₀.heap H → J H 0 [] H) (hJs : ∀ H i ys, Stable H (J H i ys))
    (turn : ∀ s₁ : Shared, s₁.gens = s₀.gens → s₁.drawn = s₀.drawn → s₁.os = s₀.os → Ext s₀.heap s₁.heap → TurnL prog w A env elt (.Tuple els ek ep) ifs scope cl b news its.size (EnumP its) J [] (fun _ _ => True) [s₀.heap.objs.size + 1, s₀.heap.objs.size] s₁)
    (fin : ∀ H D h tk gs ys k, (AllBare s₀.gens → AllBare gs) → Ext s₀.heap H → (∀ x o, x ≠ env.locals → s₀.heap.get? x = some o → h.get? x = some o) → s₀.heap.get? D = none → H.get? D ≠ none → Fr b env.locals h (match assigned with | none => m | some y => fun z => if z = y then some (.ref D) else m z) → News b env.locals h ((D, { cls := .type "list", data := .seq ys.toArray k }) :: news) → (∀ q ∈ news, q.1 ≠ D) → ys.length ≤ its.size → J H its.size ys h → Q (.ref D) { s₀ with heap := h, toks := tk, gens := gs }) :
    wpAny (model prog w) A (call (.type "enumerate") [.ref l]) (fun xv s₁ => LcIter2 prog w A env elt (.Tuple els ek ep) ifs scope cl Q assigned xv s₁) E s₀ := by
  have hput := (N _ hm).1
  have hIs : s₀.heap.IsList l its := ⟨_, hput, rfl, _, rfl⟩
  have hL := F.ns.lt
  refine call_enumerate_1 hput fun h' he hi hz up => ?_
  have up : Ext s₀.heap h' := up
  have hI : s₀.heap.get? s₀.heap.objs.size = none := fresh_of (Nat.le_refl _)
  have hE : s₀.heap.get? (s₀.heap.objs.size + 1) = none := fresh_of (Nat.le_succ _)
  have hlt : l < s₀.heap.objs.size := Heap.lt_size hput
  have nb : ∀ x, s₀.heap.objs.size ≤ x → b.get? x = none ∧ x ≠ env.locals ∧ ∀ q ∈ news, q.1 ≠ x := fun x hx => by
    refine ⟨?_, fun h => by rw [h] at hx; exact Nat.lt_irrefl _ (Nat.lt_of_lt_of_le hL hx), fun q hq h => Nat.lt_irrefl _ (Nat.lt_of_lt_of_le (Heap.lt_size (N q hq).1) (h ▸ hx))⟩
    cases e : b.get? x with
    | none => rfl
    | some o => exact absurd (Heap.lt_size (F.keep _ _ e)) (Nat.not_lt.mpr hx)
  have hne1 : s₀.heap.objs.size + 1 ≠ s₀.heap.objs.size := Nat.succ_ne_self _
  refine wpAny_pyIter_enum he ⟨b, m, news, its.size, _, J, s₀.heap.objs.size + 1, _, _, _, [], fun _ _ => True, rfl, fun c hc => absurd hc List.not_mem_nil, Steps.ofT (WalksT.enumerate hh _ _ l hne1 (Nat.ne_of_lt (Nat.lt_succ_of_lt hlt)) (Nat.ne_of_lt hlt) its) ?_, ⟨⟨_, he⟩, hi, hIs.at fun o e => up _ _ e⟩, ?_, ?_, hsz, F.keeps up, fun q hq => ⟨up _ _ (N q hq).1, (N q hq).2⟩, fun H hE => hJ0 H (fun x o e => hE _ _ (up _ _ e)), hJs, turn { s₀ with heap := h' } rfl rfl rfl up, ?_⟩
  · intro i h hs x hx
    rcases List.mem_cons.mp hx with rfl | hx
    · obtain ⟨⟨old, e⟩, _⟩ := hs; exact ⟨_, e⟩
    · rw [List.mem_singleton.mp hx]; obtain ⟨_, ⟨o, e, _⟩, _⟩ := hs; exact ⟨o, e⟩
  · intro x hx
    show x < h'.objs.size
    rw [hz]
    rcases List.mem_cons.mp hx with rfl | hx
    · exact Nat.lt_succ_self _
    · rcases List.mem_cons.mp hx with rfl | hx
      · exact Nat.lt_succ_of_lt (Nat.lt_succ_self _)
      · rw [List.mem_singleton.mp hx]; exact Nat.lt_succ_of_lt (Nat.lt_succ_of_lt hlt)
  · intro x hx
    rcases List.mem_cons.mp hx with rfl | hx
    · exact nb _ (Nat.le_succ _)
    · rw [List.mem_singleton.mp hx]; exact nb _ (Nat.le_refl _)
  · intro H D h tk gs ys k mobs hm1 hm2 hbare hE hkeep hD hHD F' N' hn hle hJ
    have m0 : mobs = [] := List.map_eq_nil_iff.mp hm1
    subst m0
    exact fin H D h tk gs ys k hbare (fun x o e => hE _ _ (up _ _ e)) (fun x o c e => hkeep x o (fun hm => by
      rcases List.mem_cons.mp hm with rfl | hm
      · exact Nat.lt_irrefl _ (Nat.lt_of_succ_lt (Heap.lt_size e))
      · rw [List.mem_singleton.mp hm] at e; exact Nat.lt_irrefl _ (Heap.lt_size e)) List.not_mem_nil c (up _ _ e)) (none_back up hD) hHD F' N' hn hle hJ
end
end Mine
namespace Mine
open PySem PySem.W PyProof.Rows PySem.Calls PySem.Spec


/-- the protocol of a generator that yields once -/
def gxProto (C : Addr) (fp wr : List Addr) (Fact : Value → Heap → Prop) : Protocol := fun m s₀ v s kap =>
  m = 0 ∧ Fact v s.heap ∧ GenSince C wr s₀ s ∧ (∃ m', s.heap.Ns C m') ∧ ∀ s'' : Shared, (∀ b ∈ C :: fp, ∀ o, s.heap.get? b = some o → s''.heap.get? b = some o) → kap (.send .none) s''

section
variable {prog : Program} {w : World} {A : Around}
theorem seg_oneEnd {elt iter : Expr} {x : Str} {px : Pos} {scope : Scope} {pos : Pos} {I : Addr} {fp wr : List Addr} {P : Nat → Value → Prop} {St₀ : Nat → Heap → Prop} {cenv : Env} {Fact : Value → Heap → Prop}
    (hh : A.handled = none) (W₀ : ∀ A' : Around, A'.handled = none → Walks prog w A' I fp wr 1 P St₀) (s : Shared) (hst : St₀ 1 s.heap) :
    Seg (model prog w) A (fun n s₀ r s₁ => r = .ok .next ∧ (n = 0 ∧ GenSince cenv.locals wr s₀ s₁)) (gxProto cenv.locals fp wr Fact) 0 s
        (.compLoop (.GeneratorExp elt [⟨.Name x px, iter, [], 0⟩] scope pos) 0 (.ref I) .none cenv)
        ((model prog w).den (.compLoop (.GeneratorExp elt [⟨.Name x px, iter, [], 0⟩] scope pos) 0 (.ref I) .none cenv)) [] s := by
  have hh' : (A.over (.compLoop (.GeneratorExp elt [⟨.Name x px, iter, [], 0⟩] scope pos) 0 (.ref I) .none cenv) []).handled = none := hh
  show Seg _ A _ _ _ s _ ((compTurn (.GeneratorExp elt [⟨.Name x px, iter, [], 0⟩] scope pos) 0 (.ref I) .none cenv).onRaise (leaving cenv)) [] s
  rw [compTurn_gen, Sem.onRaise_eq_wrap]
  refine seg_bind_wrap (wpAny_standAt ?_)
  refine seg_bind_wrap ((W₀ _ hh').done s _ _ hst fun h' tk hk' => ?_)
  exact seg_end (.ok .next) ⟨rfl, rfl, (GenSince.refl _ _ _).step fun b o _ hw e => hk' b o hw e⟩

theorem seg_oneLoop {elt iter : Expr} {x : Str} {px : Pos} {scope : Scope} {pos : Pos} {I : Addr} {fp wr : List Addr} {P : Nat → Value → Prop} {St₀ : Nat → Heap → Prop} {cenv : Env} {Fact : Value → Heap → Prop}
    (hh : A.handled = none) (W₀ : ∀ A' : Around, A'.handled = none → Walks prog w A' I fp wr 1 P St₀)
    (hx : cenv.kindOf x = some .local) (hp : (cenv.scope.kind == .class || (cenv.scope.kind == .module && cenv.locals != cenv.globals)) = false)
    (hco : cenv.scope.isCoroutine = false) (hCf : cenv.locals ∉ fp) (s : Shared) {m : Str → Option Value}
    (helt : ∀ v h₂ tk₂ m₂, P 0 v → h₂.Ns cenv.locals m₂ → (∀ y, m₂ y = if y = x then some v else m y) → (∀ b o, b ≠ cenv.locals → b ∉ wr → s.heap.get? b = some o → h₂.get? b = some o) → St₀ 1 h₂ →
      wpAny (model prog w) (A.over (.compLoop (.GeneratorExp elt [⟨.Name x px, iter, [], 0⟩] scope pos) 0 (.ref I) .none cenv) []) (eval elt cenv) (fun y s₃ => Good cenv.locals { s with heap := h₂, toks := tk₂ } (Fact y) s₃) (fun _ _ => False) { s with heap := h₂, toks := tk₂ })
    (hst : St₀ 0 s.heap) (hn : s.heap.Ns cenv.locals m) :
    Seg (model prog w) A (fun n s₀ r s₁ => r = .ok .next ∧ (n = 0 ∧ GenSince cenv.locals wr s₀ s₁)) (gxProto cenv.locals fp wr Fact) 1 s
        (.compLoop (.GeneratorExp elt [⟨.Name x px, iter, [], 0⟩] scope pos) 0 (.ref I) .none cenv)
        ((model prog w).den (.compLoop (.GeneratorExp elt [⟨.Name x px, iter, [], 0⟩] scope pos) 0 (.ref I) .none cenv)) [] s := by
  have hh' : (A.over (.compLoop (.GeneratorExp elt [⟨.Name x px, iter, [], 0⟩] scope pos) 0 (.ref I) .none cenv) []).handled = none := hh
  have hCw : cenv.locals ∉ wr := fun h => hCf ((W₀ A hh).sub _ h)
  show Seg _ A _ _ _ s _ ((compTurn (.GeneratorExp elt [⟨.Name x px, iter, [], 0⟩] scope pos) 0 (.ref I) .none cenv).onRaise (leaving cenv)) [] s
  rw [compTurn_gen, Sem.onRaise_eq_wrap]
  refine seg_bind_wrap (wpAny_standAt ?_)
  refine seg_bind_wrap ((W₀ _ hh').item 0 s _ _ (Nat.lt_succ_self _) hst fun v h₁ tk₁ hPv hst₁ hk₁ => ?_)
  refine seg_bind_wrap (wpAny_of_eq (rfl : letOwnedTupleGo (.Name x px) (.ref I) v = pure ()) ?_)
  refine seg_bind_wrap (wpAny_assign_Name (wpAny_storeName_local hx (hn.at' fun o e => hk₁ _ o hCw e) (fun h₂ hn₂ hs₂ => ?_) hp))
  have up₂ : ∀ b o, b ≠ cenv.locals → b ∉ wr → s.heap.get? b = some o → h₂.get? b = some o := fun b o hbC hbw e => hs₂.extBut b o hbC (hk₁ b o hbw e)
  have hst₂ : St₀ 1 h₂ := (W₀ A hh).frame _ _ _ hst₁ fun b hb o e => hs₂.extBut b o (fun h => hCf (h ▸ hb)) e
  refine seg_bind_wrap (wpAny_tests_nil (Q := fun ok s₃ => Seg _ _ _ _ _ _ _ _ _ _) ?_)
  simp only [if_true]
  have hy : ∀ v, yieldOut cenv v = yieldValue v := fun v => by simp only [yieldOut, hco, Bool.false_eq_true, if_false]
  simp only [hy]
  rw [Sem.bind_eq_wrap', Sem.bind_eq_wrap', Sem.wrap_wrap, Sem.wrap_wrap]
  refine seg_wrap (wpAny_mono (helt v h₂ _ _ hPv hn₂ (fun _ => rfl) up₂ hst₂) (fun y s₄ h₄ => ?_) fun _ _ e => e.elim)
  obtain ⟨h₄, tk₄, m₄, rfl, hn₄, off₄, hF⟩ := h₄
  have hst₄ : St₀ 1 h₄ := (W₀ A hh).frame _ _ _ hst₂ fun b hb o e => off₄ b o (fun h => hCf (h ▸ hb)) e
  refine seg_at (seg_yield rfl rfl rfl ⟨rfl, hF, (GenSince.refl _ _ s).step fun b o hbC hbw e => off₄ b o hbC (up₂ b o hbC hbw e), ⟨_, hn₄⟩, fun s'' hal => ?_⟩)
  exact seg_again rfl (seg_oneEnd hh W₀ s'' ((W₀ A hh).frame _ _ _ hst₄ fun b hb o e => hal b (List.mem_cons_of_mem _ hb) o e))

theorem seg_oneStart {elt iter : Expr} {x : Str} {px : Pos} {scope : Scope} {pos : Pos} {I : Addr} {fp wr : List Addr} {P : Nat → Value → Prop} {St₀ : Nat → Heap → Prop} {cenv : Env} {Fact : Value → Heap → Prop}
    (hh : A.handled = none) (W₀ : ∀ A' : Around, A'.handled = none → Walks prog w A' I fp wr 1 P St₀)
    (hx : cenv.kindOf x = some .local) (hp : (cenv.scope.kind == .class || (cenv.scope.kind == .module && cenv.locals != cenv.globals)) = false)
    (hco : cenv.scope.isCoroutine = false) (hCf : cenv.locals ∉ fp) (s : Shared) {m : Str → Option Value}
    (helt : ∀ A' : Around, A'.handled = none → A'.depth ≤ A.depth + 4 → ∀ v h₂ tk₂ m₂, P 0 v → h₂.Ns cenv.locals m₂ → (∀ y, m₂ y = if y = x then some v else m y) → (∀ b o, b ≠ cenv.locals → b ∉ wr → s.heap.get? b = some o → h₂.get? b = some o) → St₀ 1 h₂ →
      wpAny (model prog w) A' (eval elt cenv) (fun y s₃ => Good cenv.locals { s with heap := h₂, toks := tk₂ } (Fact y) s₃) (fun _ _ => False) { s with heap := h₂, toks := tk₂ })
    (hst : St₀ 0 s.heap) (hn : s.heap.Ns cenv.locals m) :
    Seg (model prog w) A (fun n s₀ r s₁ => r = .ok .next ∧ (n = 0 ∧ GenSince cenv.locals wr s₀ s₁)) (gxProto cenv.locals fp wr Fact) 1 s
        (.compStart (.GeneratorExp elt [⟨.Name x px, iter, [], 0⟩] scope pos) 0 (.ref I) .none cenv)
        ((model prog w).den (.compStart (.GeneratorExp elt [⟨.Name x px, iter, [], 0⟩] scope pos) 0 (.ref I) .none cenv)) [] s := by
  have hh' : (A.over (.compStart (.GeneratorExp elt [⟨.Name x px, iter, [], 0⟩] scope pos) 0 (.ref I) .none cenv) []).handled = none := hh
  have hd : (A.over (.compLoop (.GeneratorExp elt [⟨.Name x px, iter, [], 0⟩] scope pos) 0 (.ref I) .none cenv) []).depth ≤ A.depth + 4 := by
    show A.depth + frameCount [] + _ ≤ _
    have : (Code.compLoop (.GeneratorExp elt [⟨.Name x px, iter, [], 0⟩] scope pos) 0 (.ref I) .none cenv).weight ≤ 4 := Nat.le_of_ble_eq_true rfl
    have z : frameCount [] = 0 := rfl
    omega
  have loop := seg_oneLoop (iter := iter) (px := px) (scope := scope) (pos := pos) (Fact := Fact) hh W₀ hx hp hco hCf s (helt _ hh hd) hst hn
  show Seg _ A _ _ _ s _ ((compStart (.GeneratorExp elt [⟨.Name x px, iter, [], 0⟩] scope pos) 0 (.ref I) .none cenv).onRaise (leaving cenv)) [] s
  unfold compStart
  rw [Sem.onRaise_eq_wrap]
  show Seg _ A _ _ _ s _ ((ask >>= _).wrap _ _ _ _) [] s
  refine seg_bind_wrap (wpAny_askSetting ?_)
  split
  · exact seg_again rfl loop
  · first
      | exact seg_bind_wrap (wpAny_rule (seg_bind_wrap (wpAny_standAt (seg_bind_wrap ((W₀ _ hh').self 0 s _ _ hst (seg_again rfl loop))))))
      | (refine seg_bind_wrap (wpAny_rule ?_); show Seg _ A _ _ _ s _ ((standAt iter.pos >>= _).wrap _ _ _ _) [] s; exact seg_bind_wrap (wpAny_standAt (seg_bind_wrap ((W₀ _ hh').self 0 s _ _ hst (seg_again rfl loop)))))
/-- what the element is: a list, empty or not -/
def IsLst (tr : Bool) (y : Value) (h : Heap) : Prop := ∃ l ys, y = .ref l ∧ h.IsList l ys ∧ ys.size ≤ 8 ∧ (ys.size != 0) = tr
theorem gx_all {elt iter : Expr} {x : Str} {px : Pos} {scope : Scope} {pos : Pos} {I a : Addr} {g : Nat} {fp wr : List Addr} {P : Nat → Value → Prop} {St₀ : Nat → Heap → Prop} {cenv : Env} {tr : Bool} {E Q : Value → Shared → Prop} {s : Shared} {m : Str → Option Value}
    (hh : A.handled = none) (W₀ : ∀ A' : Around, A'.handled = none → Walks prog w A' I fp wr 1 P St₀) (hroom : A.depth < recursionLimit)
    (hx : cenv.kindOf x = some .local) (hp : (cenv.scope.kind == .class || (cenv.scope.kind == .module && cenv.locals != cenv.globals)) = false)
    (hco : cenv.scope.isCoroutine = false) (hCf : cenv.locals ∉ fp) (hl : s.heap.NoLimit) (hg : s.heap.IsGen a g) (hgs : s.gens[g]? = some (.fresh (.compStart (.GeneratorExp elt [⟨.Name x px, iter, [], 0⟩] scope pos) 0 (.ref I) .none cenv)))
    (haC : a ≠ cenv.locals) (haw : a ∉ wr) (hcs : cStatics ≠ cenv.locals) (hcw : cStatics ∉ wr)
    (helt : ∀ A' : Around, A'.handled = none → A'.depth ≤ A.depth + 4 → ∀ v h₂ tk₂ m₂, P 0 v → h₂.Ns cenv.locals m₂ → (∀ y, m₂ y = if y = x then some v else m y) → (∀ b o, b ≠ cenv.locals → b ∉ wr → s.heap.get? b = some o → h₂.get? b = some o) → St₀ 1 h₂ →
      ∀ gs', wpAny (model prog w) A' (eval elt cenv) (fun y s₃ => Good cenv.locals { s with heap := h₂, toks := tk₂, gens := gs' } (IsLst tr y) s₃) (fun _ _ => False) { s with heap := h₂, toks := tk₂, gens := gs' })
    (hst : St₀ 0 s.heap) (hn : s.heap.Ns cenv.locals m)
    (hQ : ∀ h' tk gs', (∀ b o, b ≠ cenv.locals → b ∉ wr → s.heap.get? b = some o → h'.get? b = some o) → GenOnlyQ g s.gens gs' → Q (.bool tr) { s with heap := h', toks := tk, gens := gs' }) :
    wpAny (model prog w) A (call (.builtin "all") [.ref a]) Q E s := by
  have hd1 : A.in1.depth = A.depth := rfl
  refine call_function_tree F.kind_all F.plain_all F.entry_all (F.args_all1 _) ?_
  unfold Builtin.«all»
  refine wpAny_bind (m := oneArg "all" _) (wpAny_pure ?_)
  refine wpAny_bind (wpAny_pyIter_gen hg ?_)
  refine wpAny_pure ⟨plainId_quiet F.plain_all_loop _, ?_⟩
  refine codeAny_builtin F.entry_all_loop ?_
  rw [Around.under_plainId F.plain_all_loop _]
  show wpAny _ A.in1 (pyNext (.ref a) >>= _) _ _ s
  refine wpAny_bind (wpAny_pyNext_genexpQ (n := 1) (P := fun n s₀ s₁ => n = 0 ∧ GenSince cenv.locals wr s₀ s₁) (Y := gxProto cenv.locals fp wr (IsLst tr)) hh hl hroom hg hgs
    ⟨rfl, seg_oneStart (A := A.in1.in1) hh W₀ hx hp hco hCf (s.setGen g .running) (fun A' a1 a2 v h₂ tk₂ m₂ b1 b2 b3 b4 b5 => helt A' a1 a2 v h₂ tk₂ m₂ b1 b2 b3 b4 b5 (s.setGen g .running).gens) hst hn⟩ (fun v s₁ gs' hb hv => ?_) (fun s₁ hp => absurd hp.1 (Nat.succ_ne_zero 0)))
  obtain ⟨_, ⟨l, ys, rfl, hys, h8, htr⟩, ⟨h₁, tk₁, rfl, hk₁⟩, ⟨m', hn'⟩, hkap⟩ := hv
  refine wpAny_bind (wpAny_holding (wpAny_truthy_list hys (by omega) ?_))
  refine wpAny_bind (wpAny_letGo ?_)
  have e1 : GenOnlyQ g s.gens ((s.setGen g .running).setGen g gs').gens := GenOnlyQ.of ((GenOnly.setGen s g .running).trans (GenOnly.setGen _ g gs')) (setGen_self (gs := .running) (setGen_self hgs)) hb
  have hem : (!ys.isEmpty) = tr := by
    rw [← htr]
    unfold Array.isEmpty
    by_cases e : ys.size = 0
    · rw [e]; rfl
    · rw [decide_eq_false e, (bne_iff_ne.mpr e : (ys.size != 0) = true)]; rfl
  rw [hem]
  cases tr with
  | false =>
    simp only [Bool.false_eq_true, if_false]
    refine wpAny_bind (wpAny_rule (wpAny_pure ?_))
    exact hQ h₁ _ _ hk₁ e1
  | true =>
    simp only [if_true]
    refine wpAny_pure ⟨plainId_quiet F.plain_all_loop _, ?_⟩
    refine codeAny_builtin F.entry_all_loop ?_
    rw [Around.under_plainId F.plain_all_loop _]
    show wpAny _ A.in1 (pyNext (.ref a) >>= _) _ _ _
    have hg1 : h₁.IsGen a g := let ⟨o, nm, qn, ho, r⟩ := hg; ⟨o, nm, qn, hk₁ a o haC haw ho, r⟩
    have hl1 : h₁.NoLimit := let ⟨mc, hns, hnn⟩ := hl; ⟨mc, hns.at' fun o e => hk₁ cStatics o hcs hcw e, hnn⟩
    refine wpAny_bind (wpAny_pyNext_genexpQ (n := 0) (gs := gs') (P := fun n s₀ s₁ => n = 0 ∧ GenSince cenv.locals wr s₀ s₁) (Y := gxProto cenv.locals fp wr (IsLst true)) hh hl1 hroom hg1 (setGen_self (gs := .running) (setGen_self hgs))
      (hkap _ fun _ _ _ e => e) (fun v s₂ gs₂ hb₂ hv₂ => ?_) (fun s₂ hp₂ h₃ hk₃ => ?_))
    · obtain ⟨_, _, _, _, hk⟩ := hv₂
      exact (hk s₂ fun _ _ _ e => e).elim
    · obtain ⟨_, h₂, tk₂, rfl, hk₂⟩ := hp₂
      refine wpAny_bind (wpAny_rule (wpAny_pure ?_))
      refine hQ h₃ _ _ (fun b o hb1 hb2 e => hk₃ b o (hk₂ b o hb1 hb2 (hk₁ b o hb1 hb2 e))) (e1.trans (GenOnlyQ.of (y := .finished) ((GenOnly.setGen _ g .running).trans (GenOnly.setGen _ g .finished)) (setGen_self (gs := .running) (setGen_self (setGen_self (gs := .running) (setGen_self hgs)))) rfl))
end
end Mine
namespace Mine
open PySem PySem.W PyProof.Rows PySem.Calls PySem.Spec


abbrev tabO (ps : Array Value) : Obj := { cls := .none, data := .fields ps }
/-- the code of a generator expression: the code table of the def around it may grow -/
theorem gx_code {M : Model} {A : Around} {E : Value → Shared → Prop} {s : Shared} {env : Env} {c P : Addr} {ps : Array Value} {pos : Pos} {qualname : Str} {scope : Scope} {Q : Value → Shared → Prop} (hc : env.code = .ref c) (hok : s.heap.IsCode c P ps) (htab : s.heap.get? P = some (tabO ps))
    (hQ : ∀ code h' tk more, Heap.ExtBut P s.heap h' → h'.get? P = some (tabO (ps ++ more)) → TriplesOk (ps ++ more).toList → Q code { s with heap := h', toks := tk }) :
    wpAny M A (genexprCode env pos qualname scope) Q E s := by
  obtain ⟨o, vs, file, tf, flags, tg, inF, text, tt, op, ho, hd, h11, h2, h7, h9, h10, hop, hpd, htr, hne⟩ := id hok
  have hop2 : op = tabO ps := Option.some.inj (hop.symm.trans htab)
  subst hop2
  unfold genexprCode codeAt
  rw [hc, if_neg (show ¬ ((Value.ref c == Value.none) = true) from Bool.false_ne_true)]
  refine wpAny_bind (wpAny_fieldsOf ho hd ?_)
  rw [h11]
  refine wpAny_bind (wpAny_fieldsOf hop hpd ?_)
  cases hnf : codeAmong pos ps.toList with
  | some cv => exact wpAny_pure (hQ cv s.heap s.toks #[] (Heap.ExtBut.refl _ _) (by rw [Array.append_empty]; exact htab) (by rw [Array.append_empty]; exact htr))
  | none =>
    rw [h2, h7, h9, h10]
    refine wpAny_bind (wpAny_newCode fun c' P' h' tk hk hc' hP' hcode' hrec' => ?_)
    have hop' := hk _ _ hop
    refine wpAny_bind (wpAny_updateFieldsOfTheText hop' hpd ?_)
    have hnew : (Obj.mapFields (fun vs => if (codeAmong pos vs.toList).isSome = true then vs else vs ++ #[rawInt pos.line, rawInt pos.col, .ref c']) (tabO ps)) = tabO (ps ++ #[rawInt pos.line, rawInt pos.col, .ref c']) := by
      show ({ cls := .none, data := .fields (if (codeAmong pos ps.toList).isSome = true then ps else ps ++ #[rawInt pos.line, rawInt pos.col, .ref c']) } : Obj) = _
      rw [hnf]; rfl
    have hget := Heap.get?_update_self (h := h') (fun o => Obj.mapFields (fun vs => if (codeAmong pos vs.toList).isSome = true then vs else
      vs ++ #[rawInt pos.line, rawInt pos.col, .ref c']) o) hop' (by rw [hnew]; exact Obj.isFreed_of_fields rfl)
    refine wpAny_bind (wpAny_fieldsOf hget (by rw [hnew]) ?_)
    have hl : (ps ++ #[rawInt pos.line, rawInt pos.col, Value.ref c']).toList = ps.toList ++ [rawInt pos.line, rawInt pos.col, .ref c'] := by simp
    rw [hl, codeAmong_snoc _ htr hnf]
    refine wpAny_pure (hQ _ _ _ #[rawInt pos.line, rawInt pos.col, .ref c'] (fun b o' hb e => ((Heap.SameBut.update ..).extBut b o' hb (hk b o' e))) (hget.trans (congrArg some hnew)) ?_)
    rw [hl]; exact TriplesOk_snoc _ _ _ _ htr
theorem code_at {w : World} {h : Heap} {ps : Array Value} (X : (K w.params).In h) (ht : h.get? 823 = some (tabO ps)) (hr : TriplesOk ps.toList) : h.IsCode 825 823 ps :=
  ⟨_, _, _, _, _, _, _, _, _, _, X 825 (o825 w.params) rfl, rfl, rfl, rfl, rfl, rfl, rfl, ht, rfl, hr, by decide⟩

section
variable {prog : Program} {w : World} {A : Around} {E : Value → Shared → Prop}
def GenIter (prog : Program) (w : World) (A : Around) (env : Env) (elt : Expr) (x : Str) (px : Pos) (iter : Expr) (scope : Scope) (cl : List (Str × Addr)) (pos : Pos) (Q : Value → Shared → Prop) (E : Value → Shared → Prop) (xv : Value) (s₁ : Shared) : Prop :=
  wpAny (model prog w) A (pyIter xv) (fun it s₂ => s₂.heap.NoLimit ∧
      wpAny (model prog w) A (genexprCode env pos (env.qual ++ "<genexpr>") scope) (fun code s₃ => wpAny (model prog w) A (builtinsFor env.globals env.builtins) (fun bi s₄ =>
        ∀ h', h'.Ns s₄.heap.objs.size (fun y => if y = ".0" then some it else none) → Heap.SameBut s₄.heap.objs.size (s₄.heap.push { cls := .type "frame", data := .dict #[] }) h' →
          Q (.ref h'.objs.size) { s₄ with
            gens := s₄.gens.push (.fresh (.compStart (.GeneratorExp elt [⟨.Name x px, iter, [], 0⟩] scope pos) 0 it .none (genEnv scope cl s₄.heap.objs.size code bi env))),
            toks := s₄.toks + 1 + 1 + 1,
            heap := h'.push { cls := .type "generator", data := .fields #[.int s₄.gens.size 0, .str "<genexpr>" (s₄.toks + 1), .str (env.qual ++ "<genexpr>") (s₄.toks + 1 + 1)] } }) E s₃) E s₂) E s₁
theorem blk_genexp {s : Shared} {env : Env} {elt iter : Expr} {x : Str} {px : Pos} {scope : Scope} {cl : List (Str × Addr)} {pos : Pos} {Q : Value → Shared → Prop}
    (hco : scope.isCoroutine = false) (hclos : closureFor scope env = pure cl) (hcell : ∀ y ∈ scope.names, y.2 ≠ .cell) (h0 : scope.names.lookup (".0" : Str) = some NameKind.local) (hkind : scope.kind = .function)
    (hroom : A.depth < recursionLimit) (h : wpAny (model prog w) A (eval iter env) (fun xv s₁ => GenIter prog w A env elt x px iter scope cl pos Q E xv s₁) E s) (hs : ∀ x, genFold iter env x = pure x) :
    wpAny (model prog w) A (eval (.GeneratorExp elt [⟨.Name x px, iter, [], 0⟩] scope pos) env) Q E s := wpAny_GeneratorExp_make hco hclos hcell h0 hkind hroom h hs
/-- a generator that stands ready -/
structure GenReady (s₁ : Shared) (h' : Heap) (a C' I XL : Addr) : Prop where
  keep : ∀ x o, x ≠ 823 → s₁.heap.get? x = some o → h'.get? x = some o
  na : s₁.heap.get? a = none
  nC : s₁.heap.get? C' = none
  nI : s₁.heap.get? I = none
  aC : a ≠ C'
  aI : a ≠ I
  CI : C' ≠ I
  gen : h'.IsGen a s₁.gens.size
  ns : h'.Ns C' (fun y => if y = ".0" then some (.ref I) else none)
  it : h'.IsListIter I XL 0
  up : s₁.heap.objs.size ≤ C'
theorem genIter_list {s₁ : Shared} {env : Env} {elt iter : Expr} {x : Str} {px : Pos} {scope : Scope} {cl : List (Str × Addr)} {pos : Pos} {Q : Value → Shared → Prop} {b : Heap} {C XL : Addr} {m mg mb : Str → Option Value} {news : List (Addr × Obj)} {upd : Obj → List (Addr × Obj)} {ps : Array Value} {v : Value} {nx : Nat} {p : Program} {loose : List Str}
    (F : Fr b C s₁.heap m) (N : News b C s₁.heap news) (hm : (XL, { cls := .type "list", data := .seq #[v] nx }) ∈ news) (U : UpdF 823 (tabO ps) news upd) (htr : TriplesOk ps.toList) (X : (K w.params).In b) (T : TopRead p loose mg mb b) (hcode : env.code = .ref 825) (hgl : env.globals = mainGlobals)
    (hbm : nsIn (K w.params) mainGlobals "__builtins__" = some (some (.ref 4)))
    (hQ : ∀ a C' I code h' tk more, Fr b C h' m → News b C h' (upd (tabO (ps ++ more))) → TriplesOk (ps ++ more).toList → GenReady s₁ h' a C' I XL → (∀ h₉, (∀ x o, x ≠ C' → x ∉ [I] → h'.get? x = some o → h₉.get? x = some o) → Fr b C h₉ m ∧ News b C h₉ (upd (tabO (ps ++ more)))) →
      Q (.ref a) { s₁ with heap := h', toks := tk, gens := s₁.gens.push (.fresh (.compStart (.GeneratorExp elt [⟨.Name x px, iter, [], 0⟩] scope pos) 0 (.ref I) .none (genEnv scope cl C' code builtinsNs env))) }) :
    GenIter prog w A env elt x px iter scope cl pos Q E (.ref XL) s₁ := by
  obtain ⟨pre, post, rfl, hupd, hpre, hpost⟩ := U.split
  have hX := (N _ hm).1
  have hT := N (823, tabO ps) (List.mem_append_right _ (.head _))
  have hIs : s₁.heap.IsList XL #[v] := ⟨_, hX, rfl, _, rfl⟩
  have up1 : Ext s₁.heap (s₁.heap.push { cls := .type "list_iterator", data := .fields #[.ref XL, .int 0 0] }) := fun _ _ e => Heap.get?_push_of_some _ e
  have hI1 : (s₁.heap.push { cls := .type "list_iterator", data := .fields #[.ref XL, .int 0 0] }).get? s₁.heap.objs.size = some { cls := .type "list_iterator", data := .fields #[.ref XL, .int 0 0] } := Heap.get?_push_size _ rfl
  refine wpAny_pyIter_list hIs ⟨T.nolimit.keeps (fun x o e => up1 _ _ (F.keep x o e)), ?_⟩
  refine gx_code hcode (code_at (fun x o e => up1 _ _ (F.keep _ _ (X x o e))) (up1 _ _ hT.1) htr) (up1 _ _ hT.1) fun code h₂ tk₂ more hx₂ ht₂ htr₂ => ?_
  have c823 : ∀ x o, b.get? x = some o → x ≠ 823 := fun x o e h => by rw [h, hT.2.2] at e; cases e
  have k2 : ∀ x o, x ≠ 823 → s₁.heap.get? x = some o → h₂.get? x = some o := fun x o hx e => hx₂ x o hx (up1 _ _ e)
  have b2 : ∀ x o, b.get? x = some o → h₂.get? x = some o := fun x o e => k2 x o (c823 x o e) (F.keep x o e)
  refine wpAny_builtinsFor (globals := env.globals) (m := mg) (bm := 4) (o := o4 w.params) (by rw [hgl]; exact T.g.keeps b2) (mg_of X T.g hbm) (by decide) (b2 _ _ (X 4 (o4 w.params) rfl)) rfl rfl rfl ?_
  intro h₃ hn₃ hs₃
  have hLt : C < s₁.heap.objs.size := F.ns.lt
  have i2 : h₂.get? s₁.heap.objs.size = some { cls := .type "list_iterator", data := .fields #[.ref XL, .int 0 0] } := hx₂ _ _ (fun h => by have := Heap.lt_size hT.1; rw [h] at this; exact Nat.lt_irrefl _ this) hI1
  have iz : s₁.heap.objs.size < h₂.objs.size := Heap.lt_size i2
  have k3 : ∀ x o, h₂.get? x = some o → h₃.get? x = some o := fun x o e => hs₃.extBut x o (Nat.ne_of_lt (Heap.lt_size e)) (Heap.get?_push_of_some _ e)
  have k4 : ∀ (o : Obj) x y, h₂.get? x = some y → (h₃.push o).get? x = some y := fun o x y e => Heap.get?_push_of_some _ (k3 x y e)
  have z3 : h₃.objs.size = h₂.objs.size + 1 := by rw [hs₃.1, Heap.size_push]
  have l1 : s₁.heap.objs.size ≤ h₂.objs.size := Nat.le_of_lt iz
  have l2 : h₂.objs.size < h₃.objs.size := by rw [z3]; exact Nat.lt_succ_self _
  have nx : ∀ x, s₁.heap.get? x ≠ none → x ≠ h₂.objs.size ∧ x ∉ [s₁.heap.objs.size] := fun x hx => by
    have lx : x < s₁.heap.objs.size := by
      cases e : s₁.heap.get? x with
      | none => exact absurd e hx
      | some o => exact Heap.lt_size e
    exact ⟨Nat.ne_of_lt (Nat.lt_of_lt_of_le lx l1), fun hm => Nat.lt_irrefl _ (List.mem_singleton.mp hm ▸ lx)⟩
  have sm : ∀ {x o}, s₁.heap.get? x = some o → s₁.heap.get? x ≠ none := fun e h => by rw [h] at e; cases e
  have hF' : Fr b C (h₃.push { cls := .type "generator", data := .fields #[.int s₁.gens.size 0, .str "<genexpr>" (tk₂ + 1), .str (env.qual ++ "<genexpr>") (tk₂ + 1 + 1)] }) m := ⟨F.ns.at' fun o e => k4 _ _ _ (k2 _ _ (Ne.symm hT.2.1) e), fun x o e => k4 _ _ _ (b2 x o e), F.above⟩
  have hN' : News b C (h₃.push { cls := .type "generator", data := .fields #[.int s₁.gens.size 0, .str "<genexpr>" (tk₂ + 1), .str (env.qual ++ "<genexpr>") (tk₂ + 1 + 1)] }) (upd (tabO (ps ++ more))) := by
    rw [hupd]
    intro q hq
    rcases List.mem_append.mp hq with hq | hq
    · have := N q (List.mem_append_left _ hq); exact ⟨k4 _ _ _ (k2 _ _ (hpre q hq) this.1), this.2⟩
    · rcases List.mem_cons.mp hq with rfl | hq
      · exact ⟨k4 _ _ _ ht₂, hT.2⟩
      · have := N q (List.mem_append_right _ (List.mem_cons_of_mem _ hq)); exact ⟨k4 _ _ _ (k2 _ _ (hpost q hq) this.1), this.2⟩
  have hK' : ∀ q ∈ upd (tabO (ps ++ more)), s₁.heap.get? q.1 ≠ none := by
    rw [hupd]
    intro q hq
    rcases List.mem_append.mp hq with hq | hq
    · exact sm (N q (List.mem_append_left _ hq)).1
    · rcases List.mem_cons.mp hq with rfl | hq
      · exact sm hT.1
      · exact sm (N q (List.mem_append_right _ (List.mem_cons_of_mem _ hq))).1
  exact hQ h₃.objs.size h₂.objs.size s₁.heap.objs.size code _ _ more hF' hN' htr₂
    ⟨fun x o hx e => k4 _ _ _ (k2 x o hx e), fresh_of (Nat.le_trans l1 (Nat.le_of_lt l2)), fresh_of l1, fresh_of (Nat.le_refl _), Nat.ne_of_gt l2, Nat.ne_of_gt (Nat.lt_of_le_of_lt l1 l2), Nat.ne_of_gt iz, ⟨_, _, _, Heap.get?_push_size _ rfl, rfl, rfl, rfl⟩, hn₃.push _, ⟨_, k4 _ _ _ i2, rfl, rfl⟩, l1⟩
    (fun h₉ off => by
      have hCs : s₁.heap.get? C ≠ none := let ⟨o, _, _, e, _⟩ := F.ns; sm e
      exact ⟨⟨hF'.ns.at' fun o e => off _ _ (nx _ hCs).1 (nx _ hCs).2 e, fun x o e => off x o (nx _ (sm (F.keep x o e))).1 (nx _ (sm (F.keep x o e))).2 (hF'.keep x o e), F.above⟩, fun q hq => ⟨off _ _ (nx _ (hK' q hq)).1 (nx _ (hK' q hq)).2 (hN' q hq).1, (hN' q hq).2⟩⟩)
end

theorem RstL.ne {b h : Heap} {own : List Addr} {c : Addr} (hc : c ∈ own) : ∀ p ∈ RstL b own h, p.1 ≠ c := fun _ hp e => (RstL.of hp).2.1 (e ▸ hc)
section
variable {M : Model} {A : Around} {E : Value → Shared → Prop} {s : Shared} {b : Heap} {C c : Addr} {news : List (Addr × Obj)} {scope : Scope} {cl : List (Str × Addr)} {x : Str} {pos : Pos} {v : Value} {m mg mb : Str → Option Value} {p : Program} {loose : List Str} {K : Frag} {env : Env} {code : Value} {bi : Addr} {o : Obj}
theorem blk_storeC {Q : Unit → Shared → Prop} {g : Obj → List (Addr × Obj)} {v₀ : Option Value} (F : Fr b C s.heap m) (N : News b C s.heap news) (hc : cl.lookup x = some c) (U : UpdF c o news g) (hd : o.data = .cell v₀)
    (h : ∀ h' o', Fr b C h' m → News b C h' (g o') → o'.data = .cell (some v) → Q () { s with heap := h' })
    (hk : (compEnvC scope cl C env).scope.kind = .function) (hx : (compEnvC scope cl C env).kindOf x = some .cell) : wpAny M A (storeName (compEnvC scope cl C env) x v) Q E s := by
  obtain ⟨own, rest, rfl, hg, h1, h2⟩ := U.split
  have hmem := N (c, o) (List.mem_append_right _ (.head _))
  refine wpAny_storeName_cell hk hx hc ⟨o, hmem.1, hd⟩ fun h' hv hs => ?_
  obtain ⟨o', ho', hd'⟩ := hv
  refine h h' o' ⟨F.ns.sameBut hs (Ne.symm hmem.2.1), fun b ob e => (hs.2 b (fun q => ?_)).trans (F.keep b ob e), F.above⟩ (hg o' ▸ N.setAt h1 h2 hs ho') hd'
  rw [q, hmem.2.2] at e; cases e
theorem gen_local {Q : Value → Shared → Prop} (F : Fr b C s.heap m) (hv : m x = some v) (h : Q v s)
    (hk : (genEnv scope cl C code bi env).scope.kind = .function) (hx : (genEnv scope cl C code bi env).kindOf x = some .local) (hb : (x == ("__debug__" : Str)) = false := by decide) :
    wpAny M A (eval (.Name x pos) (genEnv scope cl C code bi env)) Q E s := wpAny_Name (wpAny_loadName_local hk hx F.ns hv h) hb
theorem gen_free {L : Addr} {Q : Value → Shared → Prop} (N : News b L s.heap news) (hc : cl.lookup x = some c) (hm : (c, o) ∈ news) (hd : o.data = .cell (some v)) (h : Q v s)
    (hk : (genEnv scope cl C code bi env).scope.kind = .function) (hx : (genEnv scope cl C code bi env).kindOf x = some .free) (hb : (x == ("__debug__" : Str)) = false := by decide) (hn : (x == ("__classdict__" : Str)) = false := by decide) :
    wpAny M A (eval (.Name x pos) (genEnv scope cl C code bi env)) Q E s := wpAny_Name (wpAny_loadName_free hk hx hc ⟨o, N.get hm, hd⟩ h hn) hb
end
end Mine
namespace Mine
open PySem PySem.W PyProof.Rows PySem.Calls PySem.Spec Builtin Builtin.ObjectAttr

theorem entry_hasattr : entryFor table "hasattr" = some Builtin.«hasattr» := entryFor_of_tree (by kernel_rfl)
theorem kind_hasattr : builtinKind "hasattr" = none := by kernel_rfl
theorem plain_hasattr : plainId "hasattr" = true := by decide +kernel
theorem args_hasattr (a b : Value) : argsOk "hasattr" ⟨[a, b], []⟩ := by unfold argsOk; kernel_rfl
theorem lk_dict_get : typeLookup (.type "dict") "get" = pure (some (.builtin "dict.get")) := by rw [typeLookup_type, builtinLookup_eq_fast]; kernel_rfl
theorem lk_dict_ga : typeLookup (.type "dict") "__getattribute__" = pure (some (.builtin "dict.__getattribute__")) := by rw [typeLookup_type, builtinLookup_eq_fast]; kernel_rfl
theorem lk_md_get : typeLookup (.type "method_descriptor") "__get__" = pure (some (.builtin "method_descriptor.__get__")) := by rw [typeLookup_type, builtinLookup_eq_fast]; kernel_rfl
theorem lk_md_set : typeLookup (.type "method_descriptor") "__set__" = pure none := by rw [typeLookup_type, builtinLookup_eq_fast]; kernel_rfl
theorem lk_md_del : typeLookup (.type "method_descriptor") "__delete__" = pure none := by rw [typeLookup_type, builtinLookup_eq_fast]; kernel_rfl
theorem sub_dict_module : isSubtype (.type "dict") (.type "module") = pure false := by rw [isSubtype_type]; kernel_rfl
theorem sub_dict_dict : isSubtype (.type "dict") (.type "dict") = pure true := by rw [isSubtype_type]; kernel_rfl
theorem type_dict_ga : typeOf (.builtin "dict.__getattribute__") = pure (.type "wrapper_descriptor") := by show builtinType _ = _; rw [builtinType_eq_fast]; kernel_rfl
theorem entry_dict_ga : entryFor table "dict.__getattribute__" = some Builtin.«object.__getattribute__» := entryFor_alias (id' := "object.__getattribute__") (by rw [fastTable_eq_tree]; kernel_rfl) (by decide +kernel) (by decide +kernel) (by rw [fastTable_eq_tree]; kernel_rfl)
theorem slot_md_get : Slot "method_descriptor" "__get__" "method_descriptor.__get__" :=
  .of (owner := "method_descriptor") (n := "__get__") (by rw [typeLookup_type, builtinLookup_eq_fast]; kernel_rfl) (by decide +kernel) (by decide +kernel) (by decide +kernel)
    (by first | exact .inl (by decide +kernel) | exact .inr (by decide +kernel)) (by rw [isSubtype_type]; kernel_rfl)
theorem entry_md_get : entryFor table "method_descriptor.__get__" = some Builtin.«method_descriptor.__get__» := entryFor_of_tree (by kernel_rfl)
theorem args_md_get (a b c : Value) : argsOk "method_descriptor.__get__" ⟨[a, b, c], []⟩ := by unfold argsOk; kernel_rfl
section
variable {prog : Program} {w : World} {A : Around} {E : Value → Shared → Prop} {s : Shared}
theorem hasattr_get {d : Addr} {o : Obj} {t : Tok} {Q : Value → Shared → Prop} (e : s.heap.get? d = some o) (hc : o.cls = .type "dict") (hod : o.dict = none) (hdt : ∃ es n, o.data = .dict es n) (h : ∀ h' tk, (∀ b o, s.heap.get? b = some o → h'.get? b = some o) → Q (.bool true) { s with heap := h', toks := tk }) :
    wpAny (model prog w) A (call (.builtin "hasattr") [.ref d, .str "get" t]) Q E s := by
  obtain ⟨hp, gg, dd, tk, os⟩ := s
  obtain ⟨oc, odi, oda, osl⟩ := o
  dsimp only at hc hod hdt
  subst hc hod
  obtain ⟨es, n, rfl⟩ := hdt
  have L0 : Looks (model prog w) hp (typeOf (.ref d)) (.type "dict") := (Looks.ld e).andThen .now
  refine Calls.call_function_entry kind_hasattr plain_hasattr entry_hasattr (args_hasattr _ _) ?_
  unfold Builtin.«hasattr»
  refine wpAny_bind (wpAny_of_eq (a := [.ref d, .str "get" t]) (by first | rfl | kernel_rfl) ?_)
  dsimp only
  refine wpAny_bind (wpAny_of_eq (a := ()) (by first | rfl | kernel_rfl) ?_)
  rw [if_neg (by intro q; cases q)]
  refine wpAny_bind (L0.at ?_)
  dsimp only
  refine wpAny_bind (wpAny_of_eq (a := some ("get" : Str)) (by first | rfl | kernel_rfl) ?_)
  dsimp only
  refine wpAny_bind (wpAny_of_eq lk_dict_get ?_)
  dsimp only
  refine wpAny_bind (wpAny_of_eq lk_dict_ga ?_)
  rw [if_neg (by decide +kernel)]
  refine wpAny_bind ?_
  k_delta "optionalOnAModule"
  refine wpAny_bind (wpAny_of_eq (a := some ("get" : Str)) (by first | rfl | kernel_rfl) ?_)
  dsimp only
  refine wpAny_bind ((L0.andThen (Looks.of_pure sub_dict_module) : Looks (model prog w) hp (isInstance (.ref d) (.type "module")) false).at ?_)
  refine wpAny_pure ?_
  rw [if_neg (by decide)]
  refine wpAny_bind ?_
  unfold getAttrBy?
  refine wpAny_bind (wpAny_attempt ?_)
  unfold getAttrBy
  refine wpAny_holding (wpAny_bind (L0.at (wpAny_bind (wpAny_of_eq lk_dict_ga ?_))))
  dsimp only
  rw [if_neg (by decide)]
  unfold getAttrByItsOwn
  refine wpAny_bind (wpAny_of_eq (a := none) rfl ?_)
  refine wpAny_bind (wpAny_attempt (wpAny_holding ?_))
  unfold callGetattribute
  rw [if_neg (by decide)]
  unfold boundAndCalled
  refine wpAny_bind ?_
  unfold bindSpecial
  refine wpAny_bind (wpAny_of_eq type_dict_ga ?_)
  rw [if_pos (by decide)]
  refine wpAny_pure ?_
  show wpAny _ _ (call (.builtin "dict.__getattribute__") [.ref d, .str "get" t]) _ _ _
  refine wpAny_call_entry F.slot_dict_getattribute ⟨_, e, rfl⟩ entry_dict_ga ?_ (F.args_dict_getattribute_2 _ _)
  unfold Builtin.«object.__getattribute__»
  refine wpAny_bind (wpAny_of_eq (a := (.ref d, [.str "get" t])) (by first | rfl | kernel_rfl) ?_)
  dsimp only
  refine wpAny_bind (wpAny_of_eq (a := ("get" : Str)) (by first | rfl | kernel_rfl) ?_)
  refine wpAny_bind (L0.at ?_)
  refine wpAny_bind ?_
  unfold find
  refine wpAny_bind (wpAny_of_eq lk_dict_get ?_)
  refine wpAny_bind ?_
  unfold getOf specialOf
  dsimp only
  refine wpAny_bind (wpAny_of_eq F.type_dict_get (wpAny_of_eq lk_md_get ?_))
  refine wpAny_bind ?_
  unfold dataDescriptor? takesStores specialOf
  dsimp only
  refine wpAny_bind (wpAny_bind (wpAny_bind (wpAny_of_eq F.type_dict_get (wpAny_of_eq lk_md_set ?_))))
  rw [if_neg (by decide)]
  refine wpAny_bind (wpAny_bind (wpAny_of_eq F.type_dict_get (wpAny_of_eq lk_md_del ?_)))
  refine wpAny_pure ?_
  rw [if_neg (by decide)]
  refine wpAny_pure ?_
  dsimp only
  unfold ownThenClass
  refine wpAny_bind ?_
  unfold inOwnDict ObjectAttr.ownDict loadHead
  dsimp only
  refine wpAny_bind (wpAny_bind (wpAny_loadPart e ?_))
  dsimp only
  unfold instanceDict
  refine wpAny_bind (wpAny_loadPart e ?_)
  dsimp only
  rw [if_pos (by decide)]
  refine wpAny_pure (wpAny_pure ?_)
  dsimp only
  refine wpAny_bind (wpAny_of_eq (a := ()) (by first | rfl | kernel_rfl) ?_)
  unfold byTheClass
  dsimp only
  refine wpAny_bind (wpAny_rule (wpAny_pure ?_))
  dsimp only
  unfold bindTo
  dsimp only
  refine wpAny_bind (wpAny_holding ?_)
  refine wpAny_call_entry slot_md_get F.type_dict_get entry_md_get ?_ (args_md_get _ _ _)
  unfold Builtin.«method_descriptor.__get__»
  refine wpAny_bind (wpAny_of_eq (a := (.builtin "dict.get", some (.ref d), some (.type "dict"))) (by first | rfl | kernel_rfl) ?_)
  dsimp only
  rw [if_neg (by decide +kernel)]
  k_delta "bindBuiltin"
  dsimp only
  k_delta "checkInstance"
  refine wpAny_bind (wpAny_bind (wpAny_of_eq (a := (("get" : Str), Value.type "dict")) (by first | rfl | kernel_rfl) ?_))
  dsimp only
  refine wpAny_bind ((L0.andThen (Looks.of_pure sub_dict_dict) : Looks (model prog w) hp (isInstance (.ref d) (.type "dict")) true).at ?_)
  rw [if_neg (by decide)]
  refine wpAny_pure (wpAny_bind (wpAny_newObj_type (wpAny_pure ⟨_, rfl, wpAny_pure ⟨_, rfl, ?_⟩⟩)))
  dsimp only
  refine wpAny_of_eq (a := .ref _) rfl ?_
  refine wpAny_pure ?_
  rw [if_neg (by intro q; cases q)]
  exact wpAny_pure ⟨_, rfl, h _ _ fun b o e => Heap.get?_push_of_some _ e⟩
end
end Mine
namespace Mine
open PySem PySem.W PyProof.Rows PySem.Calls PySem.Spec

abbrev twoFors (elt : Expr) (t1 i1 t2 i2 : Expr) (scope : Scope) (pos : Pos) : Expr := .ListComp elt [⟨t1, i1, [], 0⟩, ⟨t2, i2, [], 0⟩] scope pos
theorem turn_outer (elt t1 i1 t2 i2 : Expr) (scope : Scope) (pos : Pos) (it acc : Value) (env : Env) :
    compTurn (twoFors elt t1 i1 t2 i2 scope pos) 0 it acc env = (do
      standAt i1.pos
      match ← pyNext it with
      | none => pure (.done .next)
      | some v =>
        letOwnedTupleGo t1 it v
        assign t1 env v
        let x ← eval i2 env
        standAt i2.pos
        let x ← foldedSetIterable i2 env x
        let _ ← runOwn (.compStart (twoFors elt t1 i1 t2 i2 scope pos) 1 (← holding [x] (pyIter x)) acc env) env
        again (.compLoop (twoFors elt t1 i1 t2 i2 scope pos) 0 it acc env)) := by rfl
theorem turn_inner (elt t1 i1 t2 i2 : Expr) (scope : Scope) (pos : Pos) (it acc : Value) (env : Env) :
    compTurn (twoFors elt t1 i1 t2 i2 scope pos) 1 it acc env = (do
      standAt i2.pos
      match ← pyNext it with
      | none => pure (.done .next)
      | some v =>
        letOwnedTupleGo t2 it v
        assign t2 env v
        (do let _ ← call (.builtin "list.append") [acc, ← eval elt env])
        again (.compLoop (twoFors elt t1 i1 t2 i2 scope pos) 1 it acc env)) := by rfl
section
variable {prog : Program} {w : World} {A : Around} {E : Value → Shared → Prop} {R : Result → Shared → Prop} {s : Shared} {env : Env}
theorem start_inner {elt t1 i1 t2 i2 : Expr} {scope : Scope} {pos : Pos} {it acc : Value} {env : Env}
    (h0 : codeAny (model prog w) A (.compLoop (twoFors elt t1 i1 t2 i2 scope pos) 1 it acc env) R s)
    (h : wpAny (model prog w) A (pyIter it) (fun it' s' => codeAny (model prog w) A (.compLoop (twoFors elt t1 i1 t2 i2 scope pos) 1 it' acc env) R s')
      (notedBy (model prog w) A env fun x s' => R (.error x) s') s) :
    codeAny (model prog w) A (.compStart (twoFors elt t1 i1 t2 i2 scope pos) 1 it acc env) R s := by
  refine codeAny_of_tree ?_
  show wpAny _ _ ((compStart (twoFors elt t1 i1 t2 i2 scope pos) 1 it acc env).onRaise (fun x => do noteFrame x env; standAt theWindowsPlace)) _ _ s
  refine wpAny_notedAt ?_
  unfold compStart
  show wpAny _ _ (ask >>= _) _ _ s
  refine wpAny_bind (wpAny_askSetting (wpAny_ite ?_))
  split
  · first
      | exact wpAny_bind (wpAny_pure (wpAny_pure (And.intro rfl h0)))
      | exact wpAny_pure (And.intro rfl h0)
  · first
      | exact wpAny_bind (wpAny_rule (wpAny_bind (wpAny_standAt (wpAny_bind (wpAny_mono h (fun it' s' h' => wpAny_pure (And.intro rfl h')) fun _ _ x => x)))))
      | (refine wpAny_bind (wpAny_rule ?_); show wpAny _ _ (standAt i2.pos >>= _) _ _ s; exact wpAny_bind (wpAny_standAt (wpAny_bind (wpAny_mono h (fun it' s' h' => wpAny_pure (And.intro rfl h')) fun _ _ x => x))))
/-- the inner loop: what the inner list holds is put to the end of D -/
theorem inner_run {A' : Around} {t1 i1 i2 : Expr} {z : Str} {pz py : Pos} {scope : Scope} {pos : Pos} {D l2 : Addr} {cenv : Env} {ys : List Value} {m : Str → Option Value}
    (hh : A'.handled = none) (hz : cenv.kindOf z = some .local) (hk : cenv.scope.kind = .function) (hp : (cenv.scope.kind == .class || (cenv.scope.kind == .module && cenv.locals != cenv.globals)) = false) (hzd : (z == ("__debug__" : Str)) = false)
    (hl : s.heap.IsList l2 ys.toArray) (hD : s.heap.PlainList D ([] : List Value).toArray) (hn : s.heap.Ns cenv.locals m) (hlC : l2 ≠ cenv.locals) (hlD : l2 ≠ D) (hDC : D ≠ cenv.locals) (hsz : ys.length ≤ sizeLine)
    (fin : ∀ h' tk m', (∀ x o, x ≠ cenv.locals → x ≠ D → s.heap.get? x = some o → h'.get? x = some o) → h'.PlainList D ys.toArray → h'.Ns cenv.locals m' → R (.ok .next) { s with heap := h', toks := tk }) :
    wpAny (model prog w) A (pyIter (.ref l2)) (fun it s₁ => codeAny (model prog w) A' (.compStart (twoFors (.Name z py) t1 i1 (.Name z pz) i2 scope pos) 1 it (.ref D) cenv) R s₁) E s := by
  refine wpAny_pyIter_list hl ?_
  generalize hI : s.heap.objs.size = I
  have up : ∀ x o, s.heap.get? x = some o → (s.heap.push { cls := .type "list_iterator", data := .fields #[.ref l2, .int 0 0] }).get? x = some o := fun _ _ e => Heap.get?_push_of_some _ e
  have low : ∀ x o, s.heap.get? x = some o → x ≠ I := fun x o e => hI ▸ Nat.ne_of_lt (Heap.lt_size e)
  have hlI : l2 ≠ I := let ⟨o, e, _⟩ := hl; low _ _ e
  have hDI : D ≠ I := let ⟨k, e⟩ := hD; low _ _ e
  have hCI : cenv.locals ≠ I := let ⟨o, _, _, e, _⟩ := hn; low _ _ e
  have W := Walks.list (prog := prog) (w := w) hh I l2 hlI ys.toArray
  have hst : (s.heap.push { cls := .type "list_iterator", data := .fields #[.ref l2, .int 0 0] }).IsListIter I l2 0 ∧ (s.heap.push { cls := .type "list_iterator", data := .fields #[.ref l2, .int 0 0] }).IsList l2 ys.toArray := ⟨⟨_, hI ▸ Heap.get?_push_size _ rfl, rfl, rfl⟩, hl.push _⟩
  have loop : ∀ s₃ : Shared, s₃ = { s with heap := s.heap.push { cls := .type "list_iterator", data := .fields #[.ref l2, .int 0 0] } } → codeAny (model prog w) A' (.compLoop (twoFors (.Name z py) t1 i1 (.Name z pz) i2 scope pos) 1 (.ref I) (.ref D) cenv) R s₃ := by
    rintro s₃ rfl
    refine codeAny_loop rfl (fun k s' => ∃ h' tk m' i, s' = { s with heap := h', toks := tk } ∧ i ≤ ys.length ∧ k = ys.length + 1 - i ∧ (h'.IsListIter I l2 i ∧ h'.IsList l2 ys.toArray) ∧ h'.PlainList D (ys.take i).toArray ∧ h'.Ns cenv.locals m' ∧
      (∀ x o, x ≠ cenv.locals → x ≠ D → s.heap.get? x = some o → h'.get? x = some o)) (fun n s' hi => ?_) (ys.length + 1) ⟨_, _, m, 0, rfl, Nat.zero_le _, rfl, hst, hD.at fun o e => up _ _ e, hn.push _, fun x o _ _ e => up x o e⟩
    obtain ⟨h', tk, m', i, rfl, hi, rfl, hst', hacc, hn', hkp⟩ := hi
    show wpAny _ A' ((compTurn (twoFors (.Name z py) t1 i1 (.Name z pz) i2 scope pos) 1 (.ref I) (.ref D) cenv).onRaise (fun x => do noteFrame x cenv; theTreesLotGoes x)) _ _ _
    refine wpAny_noted ?_
    rw [turn_inner]
    refine wpAny_bind (wpAny_standAt (wpAny_bind ?_))
    by_cases hlt : i < ys.length
    · refine W.item i _ _ _ (by rw [List.size_toArray]; exact hlt) hst' fun v h₂ tk₂ hP hst₂ hk₂ => ?_
      have hv : ys[i]? = some v := by simpa using hP
      refine wpAny_bind (wpAny_of_eq (rfl : letOwnedTupleGo (.Name z pz) (.ref I) v = pure ()) ?_)
      refine wpAny_bind (wpAny_assign_Name (wpAny_storeName_local hz (hn'.at' fun o e => hk₂ _ o (fun h => hCI (List.mem_singleton.mp h)) e) (fun h₃ hn₃ hs₃ => ?_) hp))
      have k3 : ∀ x o, x ≠ cenv.locals → x ≠ I → h'.get? x = some o → h₃.get? x = some o := fun x o a b e => hs₃.extBut x o a (hk₂ x o (fun h => b (List.mem_singleton.mp h)) e)
      refine wpAny_bind (wpAny_bind (wpAny_Name (wpAny_loadName_local hk hz hn₃ (if_pos rfl) ?_) hzd))
      refine wpAny_bind (wpAny_list_append_plain (hsz := by rw [List.size_toArray, List.length_take]; omega) (hacc.at fun o e => k3 _ o hDC hDI e) fun h₄ hl₄ hs₄ => ?_)
      refine wpAny_pure (wpAny_pure ⟨rfl, ys.length + 1 - (i + 1), by omega, h₄, _, _, i + 1, rfl, hlt, rfl, ?_, ?_, hn₃.sameBut hs₄ (Ne.symm hDC), fun x o a b e => hs₄.extBut x o b (hs₃.extBut x o a (hk₂ x o (fun h => low x o e (List.mem_singleton.mp h)) (hkp x o a b e)))⟩)
      · have st3 := W.frame _ _ h₃ hst₂ fun b hb o e => hs₃.extBut b o (fun h => by
          rcases List.mem_cons.mp hb with hb | hb
          · exact hCI (h ▸ hb)
          · exact hlC ((List.mem_singleton.mp hb).symm.trans h)) e
        exact W.frame _ _ h₄ st3 fun b hb o e => hs₄.extBut b o (fun h => by
          rcases List.mem_cons.mp hb with hb | hb
          · exact hDI (h ▸ hb)
          · exact hlD ((List.mem_singleton.mp hb).symm.trans h)) e
      · have e1 : ys.take (i + 1) = ys.take i ++ [v] := by rw [List.take_add_one, hv]; rfl
        rw [e1, ← List.push_toArray]; exact hl₄
    · have hin : i = ys.length := by omega
      subst hin
      refine W.done _ _ _ (by rw [List.size_toArray]; exact hst') fun h₂ tk₂ hk₂ => ?_
      rw [List.take_length] at hacc
      exact wpAny_pure (fin h₂ tk₂ m' (fun x o a b e => hk₂ x o (fun h => low x o e (List.mem_singleton.mp h)) (hkp x o a b e)) (hacc.at fun o e => hk₂ _ o (fun h => hDI (List.mem_singleton.mp h)) e) (hn'.at' fun o e => hk₂ _ o (fun h => hCI (List.mem_singleton.mp h)) e))
  exact start_inner (loop _ rfl) (W.self 0 _ _ _ hst (loop _ rfl))
structure Lc3At (prog : Program) (w : World) (A : Around) (env : Env) (x : Str) (iter2 : Expr) (scope : Scope) (cl : List (Str × Addr)) (Q : Value → Shared → Prop) (s₁ : Shared) (b : Heap) (m : Str → Option Value) (news : List (Addr × Obj)) (t : Addr) (v : Value) (nx : Nat) (c : Addr) (J : Heap → List Value → Heap → Array GenState → Prop) : Prop where
  hh : A.handled = none
  F : Fr b env.locals s₁.heap m
  N : News b env.locals s₁.heap news
  hm : (t, { cls := .type "list", data := .seq #[v] nx }) ∈ news
  hc : b.get? c = none
  hcL : c ≠ env.locals
  hct : c ≠ t
  hcs : ∃ o, s₁.heap.get? c = some o
  turn : ∀ C h tk, Ext s₁.heap h → s₁.heap.get? C = none → Fr b C h (fun z => if z = x then some v else none) → News b C h (news ++ Rst b C h) →
    wpAny (model prog w) A (eval iter2 (compEnvC scope cl C env)) (fun y s₃ => ∃ l2 ys h' tk' gs' m₃, y = .ref l2 ∧ s₃ = { s₁ with heap := h', toks := tk', gens := gs' } ∧ h'.IsList l2 ys.toArray ∧ h.get? l2 = none ∧ ys.length ≤ sizeLine ∧ h'.Ns C m₃ ∧ (∀ a o, a ≠ c → a ≠ C → h.get? a = some o → h'.get? a = some o) ∧ J h ys h' gs') (fun _ _ => False) { s₁ with heap := h, toks := tk }
  fin : ∀ h D ys h' gs' h'' tk k, Ext s₁.heap h → h.get? D ≠ none → s₁.heap.get? D = none → J h ys h' gs' → (∀ a o, h.get? a = none → h'.get? a = some o → h''.get? a = some o) → (∀ o, h'.get? c = some o → h''.get? c = some o) → (∀ a o, a ≠ c → s₁.heap.get? a = some o → h''.get? a = some o) → h''.get? D = some { cls := .type "list", data := .seq ys.toArray k } → Q (.ref D) { s₁ with heap := h'', toks := tk, gens := gs' }
def Lc3Iter (prog : Program) (w : World) (A : Around) (env : Env) (x : Str) (iter2 : Expr) (scope : Scope) (cl : List (Str × Addr)) (Q : Value → Shared → Prop) (xv : Value) (s₁ : Shared) : Prop :=
  ∃ b m news t v nx c J, xv = .ref t ∧ Lc3At prog w A env x iter2 scope cl Q s₁ b m news t v nx c J
theorem lc3_eval {x z : Str} {px pz py : Pos} {iter1 iter2 : Expr} {scope : Scope} {cl : List (Str × Addr)} {pos : Pos} {Q : Value → Shared → Prop}
    (hclos : closureFor scope env = pure cl) (hcell : ∀ y ∈ scope.names, y.2 ≠ .cell) (hkind : scope.kind = .function) (hnames : ∀ y ∈ scope.names, y.2 = .local → scope.names.lookup y.1 = some .local)
    (hx : scope.names.lookup x = some .local) (hz : scope.names.lookup z = some .local) (hzd : (z == ("__debug__" : Str)) = false) (hs2 : ∀ e x, foldedSetIterable iter2 e x = pure x)
    (h : wpAny (model prog w) A (eval iter1 env) (fun xv s₁ => Lc3Iter prog w A env x iter2 scope cl Q xv s₁) E s)
    (hs : ∀ x, foldedSetIterable iter1 env x = pure x := by intro _; rfl) :
    wpAny (model prog w) A (eval (.ListComp (.Name z py) [⟨.Name x px, iter1, [], 0⟩, ⟨.Name z pz, iter2, [], 0⟩] scope pos) env) Q E s := by
  rw [eval_ListComp]
  refine wpAny_comprehension_free (use := none) rfl hs hclos hkind hnames (wpAny_mono h (fun xv s₁ h₁ => ?_) fun _ _ e => e)
  obtain ⟨b, m, news, t, v, nx, c, J, rfl, X⟩ := h₁
  have hput := (X.N _ X.hm).1
  have hIs : s₁.heap.IsList t #[v] := ⟨_, hput, rfl, _, rfl⟩
  refine wpAny_pyIter_list hIs ?_
  generalize hH1 : s₁.heap.push { cls := .type "list_iterator", data := .fields #[.ref t, .int 0 0] } = H1
  refine wpAny_newObj_type (wpAny_newFunctionEnv hcell (by intro y hy; simp at hy) (fun h₁ hns₁ hsb₁ => ?_) hkind)
  dsimp only at hns₁ hsb₁ ⊢
  generalize hH2 : H1.push { cls := .type "list", dict := none, data := .seq ([] : List Value).toArray } = H2 at hns₁ hsb₁ ⊢
  have zD : H1.objs.size = s₁.heap.objs.size + 1 := by rw [← hH1, Heap.size_push]
  have zC : H2.objs.size = H1.objs.size + 1 := by rw [← hH2, Heap.size_push]
  have up1 : ∀ a o, s₁.heap.get? a = some o → H1.get? a = some o := fun a o e => hH1 ▸ Heap.get?_push_of_some _ e
  have up2 : ∀ a o, H1.get? a = some o → H2.get? a = some o := fun a o e => hH2 ▸ Heap.get?_push_of_some _ e
  have up3 : ∀ a o, H2.get? a = some o → h₁.get? a = some o := fun a o e => hsb₁.extBut a o (Nat.ne_of_lt (Heap.lt_size e)) (Heap.get?_push_of_some _ e)
  generalize hIn : s₁.heap.objs.size = I at zD ⊢
  generalize hDn : H1.objs.size = D at zD zC ⊢
  generalize hCn : H2.objs.size = C at zC hns₁ ⊢
  have low : ∀ a o, s₁.heap.get? a = some o → a < I := fun a o e => hIn ▸ Heap.lt_size e
  have apart : ∀ a, a < I → a ≠ I ∧ a ≠ D ∧ a ≠ C := fun a ha => ⟨Nat.ne_of_lt ha, by omega, by omega⟩
  have eI : H1.get? I = some { cls := .type "list_iterator", data := .fields #[.ref t, .int 0 0] } := by rw [← hH1, ← hIn]; exact Heap.get?_push_size _ rfl
  have eD : H2.get? D = some { cls := .type "list", dict := none, data := .seq ([] : List Value).toArray } := by rw [← hH2, ← hDn]; exact Heap.get?_push_size _ rfl
  have old : ∀ a o, s₁.heap.get? a = some o → h₁.get? a = some o := fun a o e => up3 _ _ (up2 _ _ (up1 _ _ e))
  have hID : I ≠ D := by omega
  have hIC : I ≠ C := by omega
  have hDC : D ≠ C := by omega
  have htI := (apart t (low _ _ hput))
  have W : ∀ A' : Around, A'.handled = none → Walks prog w A' I [I, t] [I] (#[v] : Array Value).size (fun i x => (#[v] : Array Value)[i]? = some x) _ := fun A' hA => Walks.list hA I t htI.1 #[v]
  have hst : h₁.IsListIter I t 0 ∧ h₁.IsList t #[v] := ⟨⟨_, up3 _ _ (up2 _ _ eI), rfl, rfl⟩, hIs.at fun o e => old _ _ e⟩
  have fr : ∀ a, I ≤ a → s₁.heap.get? a = none := fun a ha => fresh_of (by rw [hIn]; exact ha)
  have bfr : ∀ a, I ≤ a → b.get? a = none := fun a ha => by
    cases e : b.get? a with
    | none => rfl
    | some o => have := X.F.keep _ _ e; rw [fr a ha] at this; cases this
  have hLI : env.locals < I := hIn ▸ X.F.ns.lt
  have hcI : c < I := let ⟨o, e⟩ := X.hcs; low _ _ e
  have hkC : (compEnvC scope cl C env).kindOf x = some .local := lookup_relabel_local hx
  have hkz : (compEnvC scope cl C env).kindOf z = some .local := lookup_relabel_local hz
  have hpC : ((compEnvC scope cl C env).scope.kind == .class || ((compEnvC scope cl C env).scope.kind == .module && (compEnvC scope cl C env).locals != (compEnvC scope cl C env).globals)) = false := by
    show ((scope.kind == .class) || (scope.kind == .module && _)) = false
    rw [hkind]; rfl
  have loop : ∀ s₃ : Shared, s₃ = { s₁ with heap := h₁, toks := s₁.toks + ([] : List (Str × Value)).length } →
      codeAny (model prog w) A (.compLoop (twoFors (.Name z py) (.Name x px) iter1 (.Name z pz) iter2 scope pos) 0 (.ref I) (.ref D) (compEnvC scope cl C env)) (compPost (model prog w) A E none Q (.ref D) C) s₃ := by
    rintro s₃ rfl
    refine codeAny_loop rfl (fun k s' => (k = 2 ∧ s' = { s₁ with heap := h₁, toks := s₁.toks + ([] : List (Str × Value)).length }) ∨
      (k = 1 ∧ ∃ h ys h' gs' h'' tk m'', s' = { s₁ with heap := h'', toks := tk, gens := gs' } ∧ Ext s₁.heap h ∧ h.get? I ≠ none ∧ h.get? C ≠ none ∧ h.get? D ≠ none ∧ J h ys h' gs' ∧ (∀ a o, a ≠ C → a ≠ D → h'.get? a = some o → h''.get? a = some o) ∧ (∀ a o, a ≠ c → s₁.heap.get? a = some o → h''.get? a = some o) ∧ h''.PlainList D ys.toArray ∧ h''.Ns C m'' ∧ (h''.IsListIter I t 1 ∧ h''.IsList t #[v]))) (fun n s' hi => ?_) 2 (Or.inl ⟨rfl, rfl⟩)
    show wpAny _ A ((compTurn (twoFors (.Name z py) (.Name x px) iter1 (.Name z pz) iter2 scope pos) 0 (.ref I) (.ref D) (compEnvC scope cl C env)).onRaise (fun x => do noteFrame x (compEnvC scope cl C env); theTreesLotGoes x)) _ _ _
    refine wpAny_noted ?_
    rw [turn_outer]
    refine wpAny_bind (wpAny_standAt (wpAny_bind ?_))
    rcases hi with ⟨rfl, rfl⟩ | ⟨rfl, h, ys, h', gs', h'', tk, m'', rfl, e1, e0, e2, e3, e4, e5, e6, ⟨k, e7⟩, e8, e9⟩
    · refine (W A X.hh).item 0 _ _ _ (Nat.zero_lt_one) hst fun v' h₂ tk₂ hP hst₂ hk₂ => ?_
      have hv : v' = v := (Option.some.inj hP).symm
      subst hv
      refine wpAny_bind (wpAny_of_eq (rfl : letOwnedTupleGo (.Name x px) (.ref I) v' = pure ()) ?_)
      refine wpAny_bind (wpAny_assign_Name (wpAny_storeName_local hkC (hns₁.at' fun o e => hk₂ _ o (fun h => hIC (List.mem_singleton.mp h).symm) e) (fun h₃ hn₃ hs₃ => ?_) hpC))
      have k3 : ∀ a o, a ≠ C → a ≠ I → h₁.get? a = some o → h₃.get? a = some o := fun a o p q e => hs₃.extBut a o p (hk₂ a o (fun h => q (List.mem_singleton.mp h)) e)
      have old3 : Ext s₁.heap h₃ := fun a o e => k3 a o (apart a (low _ _ e)).2.2 (apart a (low _ _ e)).1 (old a o e)
      have iI : h₃.IsListIter I t 1 := let ⟨o, e, r⟩ := hst₂.1; ⟨o, hs₃.extBut I o hIC e, r⟩
      have F₃ : Fr b C h₃ _ := ⟨hn₃, fun a o e => old3 _ _ (X.F.keep a o e), Nat.le_trans X.F.above (Nat.le_of_lt (Nat.lt_trans hLI (by omega)))⟩
      have hD3 : h₃.get? D = some { cls := .type "list", dict := none, data := .seq ([] : List Value).toArray } := k3 _ _ hDC (Ne.symm hID) (up3 _ _ eD)
      refine wpAny_bind (wpAny_mono (X.turn C h₃ _ old3 (fr C (by omega)) F₃ (Rst.news (L := C) fun q hq => ⟨old3 _ _ (X.N q hq).1, (apart _ (low _ _ (X.N q hq).1)).2.2, (X.N q hq).2.2⟩)) (fun y s₃ hy => ?_) fun _ _ e => e.elim)
      obtain ⟨l2, ys, h', tk', gs', m₃, rfl, rfl, hl2, fl2, hz8, hn', hk', hJ⟩ := hy
      have hcC := (apart c hcI).2.2
      have hcD := (apart c hcI).2.1
      refine wpAny_bind (wpAny_standAt (wpAny_bind (wpAny_of_eq (hs2 _ _) (wpAny_bind (wpAny_holding ?_)))))
      have nsC : h₃.get? C ≠ none := by obtain ⟨o, _, _, e, _⟩ := hn₃; intro q; have e : h₃.get? C = some o := e; rw [q] at e; cases e
      have hlC : l2 ≠ C := fun h => nsC (h ▸ fl2)
      have hlD : l2 ≠ D := fun h => by rw [h, hD3] at fl2; cases fl2
      refine wpAny_mono (Q := fun it s₁ => codeAny (model prog w) (A.mark none) (.compStart (twoFors (.Name z py) (.Name x px) iter1 (.Name z pz) iter2 scope pos) 1 it (.ref D) (compEnvC scope cl C env)) _ s₁) ?inner (fun it s₄ h₄ => wpAny_bind (wpAny_runOwn h₄)) fun _ _ e => e
      refine inner_run (A' := A.mark none) X.hh hkz hkind hpC hzd hl2 (Heap.PlainList.at (h := h₃) ⟨_, hD3⟩ fun o e => hk' _ o (Ne.symm hcD) hDC e) hn' hlC hlD hDC hz8 (fun h'' tk'' m'' q1 q2 q3 => ?_)
      refine wpAny_pure ⟨rfl, 1, Nat.lt_succ_self _, Or.inr ⟨rfl, h₃, ys, h', gs', h'', tk'', m'', rfl, old3, ?_, ?_, ?_, hJ, q1, fun a o ha e => q1 a o (apart a (low _ _ e)).2.2 (apart a (low _ _ e)).2.1 (hk' a o ha (apart a (low _ _ e)).2.2 (old3 a o e)), q2, q3, ?_, ?_⟩⟩
      · obtain ⟨o, e, _⟩ := iI; rw [e]; exact fun h => nomatch h
      · exact nsC
      · rw [hD3]; exact fun h => nomatch h
      · obtain ⟨o, e, r⟩ := iI; exact ⟨o, q1 _ _ hIC hID (hk' _ _ (Ne.symm (apart c hcI).1) hIC e), r⟩
      · exact ⟨_, q1 _ _ htI.2.2 htI.2.1 (hk' _ _ (Ne.symm X.hct) htI.2.2 (old3 _ _ hput)), rfl, _, rfl⟩
    · refine (W A X.hh).done _ _ _ e9 fun h₂ tk₂ hk₂ => ?_
      refine wpAny_pure ?_
      have k2 : ∀ a o, a ≠ I → h''.get? a = some o → h₂.get? a = some o := fun a o q e => hk₂ a o (fun h => q (List.mem_singleton.mp h)) e
      have eDk := k2 _ _ (Ne.symm hID) e7
      refine ⟨m'', e8.at' fun o e => k2 _ o (Ne.symm hIC) e, fun h₄ hs₄ => ?_⟩
      have hcC := (apart c hcI).2.2
      have hcD := (apart c hcI).2.1
      have hne : ∀ a, h.get? a = none → a ≠ I ∧ a ≠ C ∧ a ≠ D := fun a n => ⟨fun q => e0 (q ▸ n), fun q => e2 (q ▸ n), fun q => e3 (q ▸ n)⟩
      exact X.fin h D ys h' gs' h₄ _ k e1 e3 (fr D (by omega)) e4 (fun a o n e => hs₄.extBut a o (hne a n).2.1 (k2 a o (hne a n).1 (e5 a o (hne a n).2.1 (hne a n).2.2 e))) (fun o e => hs₄.extBut c o hcC (k2 c o (apart c hcI).1 (e5 c o hcC hcD e)))
        (fun a o ha e => hs₄.extBut a o (apart a (low _ _ e)).2.2 (k2 a o (apart a (low _ _ e)).1 (e6 a o ha e))) (hs₄.extBut D _ hDC eDk)
  exact codeAny_compStart_list (loop _ rfl) ((W A X.hh).self 0 _ _ _ hst (loop _ rfl))
end
end Mine
namespace Mine
open PySem PySem.W PyProof.Rows PySem.Calls PySem.Spec
section
variable {prog : Program} {w : World} {A : Around} {E : Value → Shared → Prop} {s : Shared} {env : Env}
/-- a comprehension over a written tuple -/
theorem lc_tup {s₁ : Shared} {elt target : Expr} {ifs : List Expr} {scope : Scope} {cl : List (Str × Addr)} {Q : Value → Shared → Prop} {assigned : Option Str} {b : Heap} {m : Str → Option Value} {news : List (Addr × Obj)} {t : Addr} {its : Array Value} {k₀ : Nat} (J : Heap → Nat → List Value → Heap → Prop)
    (htg : ∃ x p, target = .Name x p) (hh : A.handled = none) (F : Fr b env.locals s₁.heap m) (N : News b env.locals s₁.heap news) (hm : (t, { cls := .type "tuple", data := .seq its k₀ }) ∈ news) (hsz : its.size ≤ sizeLine)
    (hJ0 : ∀ H, Ext s₁.heap H → J H 0 [] H) (hJs : ∀ H i ys, Stable H (J H i ys))
    (turn : ∀ H C i v h tk ys m', Ext s₁.heap H → (∀ a, h.get? a = none → H.get? a = none) → Ext b h → i < its.size → its[i]? = some v → J H i ys h → Fr b C h m' → News b C h (news ++ Rst b C h) →
      wpAny (model prog w) A (assign target (compEnvC scope cl C env) v) (fun _ s₃ => wpAny (model prog w) A (forIn ifs true fun c r => if r = true then do let ok ← isTrue c (compEnvC scope cl C env) (eval c (compEnvC scope cl C env)); pure (ForInStep.yield ok) else pure (ForInStep.yield r))
        (fun ok s₄ => if ok = true then wpAny (model prog w) A (eval elt (compEnvC scope cl C env)) (fun y s₅ => Good C { s₁ with heap := h, toks := tk } (J H (i + 1) (ys ++ [y])) s₅) (fun _ _ => False) s₄
          else Good C { s₁ with heap := h, toks := tk } (J H (i + 1) ys) s₄) (fun _ _ => False) s₃) (fun _ _ => False) { s₁ with heap := h, toks := tk })
    (fin : ∀ H D h tk ys k, Ext s₁.heap H → s₁.heap.get? D = none → H.get? D ≠ none → Fr b env.locals h (match assigned with | none => m | some y => fun z => if z = y then some (.ref D) else m z) → News b env.locals h ((D, { cls := .type "list", data := .seq ys.toArray k }) :: news) → (∀ q ∈ news, q.1 ≠ D) → J H its.size ys h → Q (.ref D) { s₁ with heap := h, toks := tk }) :
    LcIter prog w A env elt target ifs scope cl Q assigned (.ref t) s₁ := by
  obtain ⟨x, p, rfl⟩ := htg
  have hput := (N _ hm).1
  have hIs : s₁.heap.IsTuple t its := ⟨_, hput, rfl, _, rfl⟩
  have hne : t ≠ s₁.heap.objs.size := Nat.ne_of_lt (Heap.lt_size hput)
  have hL := F.ns.lt
  refine wpAny_pyIter_tuple hIs ?_
  have up : ∀ o, Ext s₁.heap (s₁.heap.push o) := fun _ _ _ e => Heap.get?_push_of_some _ e
  refine ⟨b, env.locals, m, news, its.size, _, J, s₁.heap.objs.size, rfl, ⟨⟨_, _, _, Walks.tuple hh s₁.heap.objs.size t hne its, ⟨⟨_, Heap.get?_push_size _ rfl, rfl, rfl⟩, hIs.push _⟩, ?_, ?_, ?_⟩, hsz, F.push _, fun q hq => ⟨up _ _ _ (N q hq).1, (N q hq).2⟩⟩, rfl, fun H hE => hJ0 H fun a o e => hE _ _ (up _ _ _ e), hJs, ?_, fun _ => rfl, ?_⟩
  · intro x hx
    rcases List.mem_cons.mp hx with rfl | hx
    · rw [Heap.size_push]; exact Nat.lt_succ_self _
    · rw [List.mem_singleton.mp hx, Heap.size_push]; exact Nat.lt_succ_of_lt (Heap.lt_size hput)
  · intro x hx
    rw [List.mem_singleton.mp hx]
    refine ⟨?_, fun h => Nat.lt_irrefl _ (h ▸ hL), fun q hq h => Nat.lt_irrefl _ (h ▸ Heap.lt_size (N q hq).1)⟩
    cases e : b.get? s₁.heap.objs.size with
    | none => rfl
    | some o => exact absurd (Heap.lt_size (F.keep _ _ e)) (Nat.lt_irrefl _)
  · intro i h hs x hx
    rw [List.mem_singleton.mp hx]
    obtain ⟨⟨o, e, _⟩, _⟩ := hs
    exact ⟨o, e⟩
  · intro H C i v h tk ys m' hE hne hb hi hP hj F' N'
    exact turn H C i v h tk ys m' (fun a o e => hE _ _ (up _ _ _ e)) hne hb hi hP hj F' N'
  · intro H D h tk ys k hE hD hHD F' N' hn' hj
    exact fin H D h tk ys k (fun a o e => hE _ _ (up _ _ _ e)) (none_back (up _) hD) hHD F' N' hn' hj
end
end Mine
namespace Mine
/-- the sum of each grain's place, the first being k -/
def momF : Int → List Int → Int
  | _, [] => 0
  | k, x :: r => k * x + momF (k + 1) r
/-- the falls that each grain is worth, twice -/
def eneF (n : Int) : Int → List Int → Int
  | _, [] => 0
  | k, x :: r => k * (n + 1 - k) * x + eneF n (k + 1) r
/-- on every stretch there is a grain for each border within it -/
def Rec : List Int → Prop
  | [a, b, c] => 0 ≤ a ∧ 0 ≤ b ∧ 0 ≤ c ∧ 1 ≤ a + b ∧ 1 ≤ b + c ∧ 2 ≤ a + b + c
  | [a, b, c, d] => 0 ≤ a ∧ 0 ≤ b ∧ 0 ≤ c ∧ 0 ≤ d ∧ 1 ≤ a + b ∧ 1 ≤ b + c ∧ 1 ≤ c + d ∧ 2 ≤ a + b + c ∧ 2 ≤ b + c + d ∧ 3 ≤ a + b + c + d
  | [a, b, c, d, e] => 0 ≤ a ∧ 0 ≤ b ∧ 0 ≤ c ∧ 0 ≤ d ∧ 0 ≤ e ∧ 1 ≤ a + b ∧ 1 ≤ b + c ∧ 1 ≤ c + d ∧ 1 ≤ d + e ∧ 2 ≤ a + b + c ∧ 2 ≤ b + c + d ∧ 2 ≤ c + d + e ∧ 3 ≤ a + b + c + d ∧ 3 ≤ b + c + d + e ∧ 4 ≤ a + b + c + d + e
  | _ => False
def topple (n : Nat) (ns : List Int) (p : Nat) : List Int := (List.range n).map fun k => if k = p then ns.getD k 0 - 2 else if k + 1 = p ∨ k = p + 1 then ns.getD k 0 + 1 else ns.getD k 0
def holeOf (n : Nat) (mo : Int) : Int := ((n : Int) * (n + 1) / 2 - mo) % (n + 1)
def endOf (n : Nat) (h : Int) : List Int := (List.range n).map fun (k : Nat) => if (k : Int) + 1 = h then (0 : Int) else 1
theorem rec_cases {ns : List Int} (h : Rec ns) : (∃ a b c, ns = [a, b, c]) ∨ (∃ a b c d, ns = [a, b, c, d]) ∨ ∃ a b c d e, ns = [a, b, c, d, e] := by
  match ns, h with
  | [a, b, c], _ => exact .inl ⟨a, b, c, rfl⟩
  | [a, b, c, d], _ => exact .inr (.inl ⟨a, b, c, d, rfl⟩)
  | [a, b, c, d, e], _ => exact .inr (.inr ⟨a, b, c, d, e, rfl⟩)
  | [], h => exact h.elim
  | [_], h => exact h.elim
  | [_, _], h => exact h.elim
  | _ :: _ :: _ :: _ :: _ :: _ :: _, h => exact h.elim
theorem step {ns : List Int} {p : Nat} (hR : Rec ns) (hp : p < ns.length) (h2 : 2 ≤ ns.getD p 0) :
    Rec (topple ns.length ns p) ∧ (topple ns.length ns p).length = ns.length ∧
    (topple ns.length ns p).sum + (if p = 0 then 1 else 0) + (if p + 1 = ns.length then 1 else 0) = ns.sum ∧
    momF 1 (topple ns.length ns p) + (ns.length + 1) * (if p + 1 = ns.length then 1 else 0) = momF 1 ns ∧ eneF ns.length 1 (topple ns.length ns p) = eneF ns.length 1 ns - 2 := by
  rcases rec_cases hR with ⟨a, b, c, rfl⟩ | ⟨a, b, c, d, rfl⟩ | ⟨a, b, c, d, e, rfl⟩
  · have : p = 0 ∨ p = 1 ∨ p = 2 := by simp only [List.length_cons, List.length_nil] at hp; omega
    simp only [Rec] at hR
    rcases this with rfl | rfl | rfl <;> (simp [topple, List.range_succ, Rec, momF, eneF] at h2 ⊢; omega)
  · have : p = 0 ∨ p = 1 ∨ p = 2 ∨ p = 3 := by simp only [List.length_cons, List.length_nil] at hp; omega
    simp only [Rec] at hR
    rcases this with rfl | rfl | rfl | rfl <;> (simp [topple, List.range_succ, Rec, momF, eneF] at h2 ⊢; omega)
  · have : p = 0 ∨ p = 1 ∨ p = 2 ∨ p = 3 ∨ p = 4 := by simp only [List.length_cons, List.length_nil] at hp; omega
    simp only [Rec] at hR
    rcases this with rfl | rfl | rfl | rfl | rfl <;> (simp [topple, List.range_succ, Rec, momF, eneF] at h2 ⊢; omega)
/-- a row at rest is the end -/
theorem rest {ns : List Int} (hR : Rec ns) (h1 : ∀ p, p < ns.length → ns.getD p 0 ≤ 1) : ns = endOf ns.length (holeOf ns.length (momF 1 ns)) := by
  rcases rec_cases hR with ⟨a, b, c, rfl⟩ | ⟨a, b, c, d, rfl⟩ | ⟨a, b, c, d, e, rfl⟩
  · have e0 := h1 0 (by simp); have e1 := h1 1 (by simp); have e2 := h1 2 (by simp)
    clear h1
    simp [Rec] at hR e0 e1 e2
    rcases (by omega : a = 0 ∨ a = 1) with rfl | rfl <;> rcases (by omega : b = 0 ∨ b = 1) with rfl | rfl <;> rcases (by omega : c = 0 ∨ c = 1) with rfl | rfl <;> first | (exfalso; omega) | decide
  · have e0 := h1 0 (by simp); have e1 := h1 1 (by simp); have e2 := h1 2 (by simp); have e3 := h1 3 (by simp)
    clear h1
    simp [Rec] at hR e0 e1 e2 e3
    rcases (by omega : a = 0 ∨ a = 1) with rfl | rfl <;> rcases (by omega : b = 0 ∨ b = 1) with rfl | rfl <;> rcases (by omega : c = 0 ∨ c = 1) with rfl | rfl <;> rcases (by omega : d = 0 ∨ d = 1) with rfl | rfl <;> first | (exfalso; omega) | decide
  · have e0 := h1 0 (by simp); have e1 := h1 1 (by simp); have e2 := h1 2 (by simp); have e3 := h1 3 (by simp); have e4 := h1 4 (by simp)
    clear h1
    simp [Rec] at hR e0 e1 e2 e3 e4
    rcases (by omega : a = 0 ∨ a = 1) with rfl | rfl <;> rcases (by omega : b = 0 ∨ b = 1) with rfl | rfl <;> rcases (by omega : c = 0 ∨ c = 1) with rfl | rfl <;> rcases (by omega : d = 0 ∨ d = 1) with rfl | rfl <;> rcases (by omega : e = 0 ∨ e = 1) with rfl | rfl <;> first | (exfalso; omega) | decide
theorem ene_nonneg {ns : List Int} (hR : Rec ns) : 0 ≤ eneF ns.length 1 ns := by
  rcases rec_cases hR with ⟨a, b, c, rfl⟩ | ⟨a, b, c, d, rfl⟩ | ⟨a, b, c, d, e, rfl⟩ <;> (simp [Rec, eneF] at *; omega)
theorem hole_shift (n : Nat) (mo k : Int) : holeOf n (mo - (n + 1) * k) = holeOf n mo := by
  unfold holeOf
  have e : (n : Int) * (n + 1) / 2 - (mo - (n + 1) * k) = ((n : Int) * (n + 1) / 2 - mo) + (n + 1) * k := by omega
  rw [e, Int.add_mul_emod_self_left]
/-- from any row as many falls are left as its energy is above the end's, by two -/
theorem left_falls : ∀ (N : Nat) (ns : List Int), Rec ns → eneF ns.length 1 ns ≤ N → ∃ m : Nat, eneF ns.length 1 ns = eneF ns.length 1 (endOf ns.length (holeOf ns.length (momF 1 ns))) + 2 * m ∧ (m = 0 → ns = endOf ns.length (holeOf ns.length (momF 1 ns))) ∧ (m ≠ 0 → ∃ p, p < ns.length ∧ 2 ≤ ns.getD p 0)
  | N, ns, hR, hN => by
    by_cases hs : ∃ p, p < ns.length ∧ 2 ≤ ns.getD p 0
    · obtain ⟨p, hp, h2⟩ := hs
      obtain ⟨s1, s2, s3, s4, s5⟩ := step hR hp h2
      have n0 := ene_nonneg s1
      rw [s2] at n0
      match N, hN with
      | 0, hN => exact absurd hN (by omega)
      | 1, hN => exact absurd hN (by omega)
      | N + 2, hN =>
        obtain ⟨m, e1, _, _⟩ := left_falls N (topple ns.length ns p) s1 (by rw [s2]; omega)
        rw [s2] at e1
        have eh : holeOf ns.length (momF 1 (topple ns.length ns p)) = holeOf ns.length (momF 1 ns) := by
          have : momF 1 (topple ns.length ns p) = momF 1 ns - (ns.length + 1) * (if p + 1 = ns.length then 1 else 0) := by omega
          rw [this, hole_shift]
        rw [eh] at e1
        exact ⟨m + 1, by rw [s5] at e1; omega, fun h => absurd h (Nat.succ_ne_zero m), fun _ => ⟨p, hp, h2⟩⟩
    · have h1 : ∀ p, p < ns.length → ns.getD p 0 ≤ 1 := fun p hp => by
        false_or_by_contra
        rename_i hc
        exact hs ⟨p, hp, by omega⟩
      have hr := rest hR h1
      exact ⟨0, by rw [← hr]; omega, fun _ => hr, fun h => absurd rfl h⟩
end Mine
namespace Mine
open PySem PySem.W PyProof.Rows PySem.Calls PySem.Spec

abbrev itO (x left : Int) : Obj := { cls := .type "range_iterator", dict := none, data := .fields #[rawInt x, rawInt left, rawInt 1], slots := #[] }
theorem small_nat {n : Nat} (h : n ≤ 100000) : Builtin.Range.small 0 (n : Int) 1 = true := by
  unfold Builtin.Range.small Builtin.Range.rangeSize Builtin.Range.rangeFitsLong
  simp
  omega
theorem size_nat (n : Nat) : Builtin.Range.rangeSize 0 (n : Int) 1 = n := by
  unfold Builtin.Range.rangeSize
  simp
  omega
section
variable {prog : Program} {w : World} {A : Around} {E : Value → Shared → Prop} {s : Shared} {env : Env}
def ForAt (prog : Program) (w : World) (A : Around) (env : Env) (x : Str) (px : Pos) (body : List Stmt) (Q : Flow → Shared → Prop) (xv : Value) (s₁ : Shared) : Prop :=
  ∃ (D : Addr) (n : Nat) (t u v : Tok) (Inv : Nat → Shared → Prop), xv = .ref D ∧ IsRange s₁.heap D 0 n 1 t u v ∧ n ≤ 100000 ∧ A.handled = none ∧
      Inv 0 { s₁ with heap := s₁.heap.push (itO 0 n) } ∧
      (∀ i s' h' tk, Inv i s' → (∀ a o, a ≠ s₁.heap.objs.size → s'.heap.get? a = some o → h'.get? a = some o) → Inv i { s' with heap := h', toks := tk }) ∧
      (∀ i t s', i < n → Inv i s' → s'.heap.get? s₁.heap.objs.size = some (itO (i + 1) ((n : Int) - (i + 1))) → wpAny (model prog w) A (assign (.Name x px) env (.int i t)) (fun _ s₂ => wpAny (model prog w) A (execs body env) (fun f s₃ => match f with
        | .next | .cont => Inv (i + 1) s₃ ∧ s₃.heap.get? s₁.heap.objs.size = some (itO (i + 1) ((n : Int) - (i + 1)))
        | .ret v => Q (.ret v) s₃
        | .brk => False) (fun _ _ => False) s₂) (fun _ _ => False) s') ∧
      (∀ s', Inv n s' → Q .next s')
/-- a for over range(n): anything may change but the iterator -/
theorem for_range {x : Str} {px pos : Pos} {iter : Expr} {body : List Stmt} {Q : Flow → Shared → Prop}
    (h : wpAny (model prog w) A (eval iter env) (fun xv s₁ => ForAt prog w A env x px body Q xv s₁) (fun _ _ => False) s)
    (hs : ∀ x, foldedSetIterable iter env x = pure x := by intro _; rfl) :
    wpAny (model prog w) A (exec (.For (.Name x px) iter body [] pos) env) Q E s := by
  rw [exec_For]
  refine wpAny_bind (wpAny_standAt (wpAny_bind (wpAny_mono h (fun xv s₁ h₁ => ?_) fun _ _ e => e.elim)))
  obtain ⟨D, n, t, u, v, Inv, rfl, hr, hn, hh, h0, stab, step, fin⟩ := h₁
  refine wpAny_bind (wpAny_of_eq (hs _) (wpAny_bind (wpAny_standAt (wpAny_bind (wpAny_holding (wpAny_pyIter_range hr (small_nat hn) ?_))))))
  rw [size_nat]
  generalize hI : s₁.heap.objs.size = I at stab step
  refine wpAny_runOwn ?_
  have eI : (s₁.heap.push (itO 0 n)).get? I = some (itO 0 n) := by rw [← hI]; exact Heap.get?_push_size _ rfl
  refine codeAny_forLoop (fun k s' => ∃ i : Nat, i ≤ n ∧ k = n + 1 - i ∧ IsRangeIter s'.heap I i ((n : Int) - i) 1 ∧ Inv i s') ?_ (n + 1) ⟨0, Nat.zero_le _, rfl, by simpa using eI, h0⟩
  rintro k s' ⟨i, hi, rfl, hit, hinv⟩
  by_cases hlt : i < n
  · refine wpAny_pyNext_range_item hit (by omega) fun h' hit' hs' => ?_
    have hinv' := stab i s' h' (s'.toks + 1) hinv fun a o ha e => hs'.extBut a o ha e
    have e1 : ((n : Int) - i - 1) = (n : Int) - (i + 1) := by omega
    rw [e1] at hit'
    refine wpAny_mono (step i _ _ hlt hinv' hit') (fun _ s₂ h₂ => wpAny_mono h₂ (fun f s₃ h₃ => ?_) fun _ _ e => e.elim) fun _ _ e => e.elim
    cases f with
    | next => exact ⟨n + 1 - (i + 1), by omega, i + 1, hlt, rfl, by simpa using h₃.2, h₃.1⟩
    | cont => exact ⟨n + 1 - (i + 1), by omega, i + 1, hlt, rfl, by simpa using h₃.2, h₃.1⟩
    | ret v => exact h₃
    | brk => exact h₃.elim
  · have hin : i = n := by omega
    subst hin
    refine wpAny_pyNext_range_end hh hit (by omega) fun h' hs' => ?_
    exact wpAny_execs_nil (fin _ (stab i s' h' s'.toks hinv fun a o ha e => hs' a o ha e))
/-- a comprehension over range(n) -/
theorem lc_range {s₁ : Shared} {elt target : Expr} {ifs : List Expr} {scope : Scope} {cl : List (Str × Addr)} {Q : Value → Shared → Prop} {assigned : Option Str} {b : Heap} {m : Str → Option Value} {news : List (Addr × Obj)} {D : Addr} {e : Int} {t u v : Tok} (n : Nat) (J : Heap → Nat → List Value → Heap → Prop)
    (hr : IsRange s₁.heap D 0 e 1 t u v) (he : e = n) (hn : n ≤ 100000) (htg : ∃ x p, target = .Name x p) (hh : A.handled = none) (F : Fr b env.locals s₁.heap m) (N : News b env.locals s₁.heap news)
    (hJ0 : ∀ H, Ext s₁.heap H → J H 0 [] H) (hJs : ∀ H i ys, Stable H (J H i ys))
    (turn : ∀ H C i h t tk ys m', Ext s₁.heap H → (∀ a, h.get? a = none → H.get? a = none) → Ext b h → i < n → J H i ys h → Fr b C h m' → News b C h (news ++ Rst b C h) →
      wpAny (model prog w) A (assign target (compEnvC scope cl C env) (.int i t)) (fun _ s₃ => wpAny (model prog w) A (forIn ifs true fun c r => if r = true then do let ok ← isTrue c (compEnvC scope cl C env) (eval c (compEnvC scope cl C env)); pure (ForInStep.yield ok) else pure (ForInStep.yield r))
        (fun ok s₄ => if ok = true then wpAny (model prog w) A (eval elt (compEnvC scope cl C env)) (fun y s₅ => Good C { s₁ with heap := h, toks := tk } (J H (i + 1) (ys ++ [y])) s₅) (fun _ _ => False) s₄
          else Good C { s₁ with heap := h, toks := tk } (J H (i + 1) ys) s₄) (fun _ _ => False) s₃) (fun _ _ => False) { s₁ with heap := h, toks := tk })
    (fin : ∀ H D h tk ys k, Ext s₁.heap H → s₁.heap.get? D = none → H.get? D ≠ none → Fr b env.locals h (match assigned with | none => m | some y => fun z => if z = y then some (.ref D) else m z) → News b env.locals h ((D, { cls := .type "list", data := .seq ys.toArray k }) :: news) → (∀ q ∈ news, q.1 ≠ D) → J H n ys h → Q (.ref D) { s₁ with heap := h, toks := tk }) :
    LcIter prog w A env elt target ifs scope cl Q assigned (.ref D) s₁ := by
  subst he
  obtain ⟨x, p, rfl⟩ := htg
  refine wpAny_pyIter_range hr (small_nat hn) ?_
  rw [size_nat]
  have up : Ext s₁.heap (s₁.heap.push (itO 0 n)) := fun _ _ e => Heap.get?_push_of_some _ e
  have hL := F.ns.lt
  refine ⟨b, env.locals, m, news, n, _, J, s₁.heap.objs.size, rfl, ⟨⟨_, _, _, Walks.range hh s₁.heap.objs.size 0 1 n, ?_, ?_, ?_, ?_⟩, by rw [sizeLine_eq]; omega, F.push _, fun q hq => ⟨up _ _ (N q hq).1, (N q hq).2⟩⟩, rfl, fun H hE => hJ0 H fun a o e => hE _ _ (up _ _ e), hJs, ?_, fun _ => rfl, ?_⟩
  · have eI : (s₁.heap.push (itO 0 n)).get? s₁.heap.objs.size = some (itO 0 n) := Heap.get?_push_size _ rfl
    simpa using eI
  · intro x hx
    rw [List.mem_singleton.mp hx, Heap.size_push]; exact Nat.lt_succ_self _
  · intro x hx
    rw [List.mem_singleton.mp hx]
    refine ⟨?_, fun h => Nat.lt_irrefl _ (h ▸ hL), fun q hq h => Nat.lt_irrefl _ (h ▸ Heap.lt_size (N q hq).1)⟩
    cases e : b.get? s₁.heap.objs.size with
    | none => rfl
    | some o => exact absurd (Heap.lt_size (F.keep _ _ e)) (Nat.lt_irrefl _)
  · intro i h hs x hx
    rw [List.mem_singleton.mp hx]
    exact ⟨_, hs⟩
  · rintro H C i v h tk ys m' hE hne hb hi ⟨t, rfl⟩ hj F' N'
    have e1 : (0 : Int) + (i : Int) * 1 = i := by omega
    rw [e1]
    exact turn H C i h t tk ys m' (fun a o e => hE _ _ (up _ _ e)) hne hb hi hj F' N'
  · intro H D h tk ys k hE hD hHD F' N' hn' hj
    exact fin H D h tk ys k (fun a o e => hE _ _ (up _ _ e)) (none_back up hD) hHD F' N' hn' hj
end
end Mine
namespace Mine
/-- the state at turn i -/
structure SpAt (n : Nat) (mo gr E0 : Int) (i : Nat) (ns : List Int) (l r : Int) : Prop where
  rec_ : Rec ns
  len : ns.length = n
  mom : momF 1 ns + (n + 1) * r = mo
  mass : l + ns.sum + r = gr
  ene : eneF n 1 ns = E0 - 2 * i
def momL (rn : List Int) (i : Nat) : List Int := (List.range i).map fun (k : Nat) => ((k : Int) + 1) * rn.getD k 0
def endL (hole : Int) (i : Nat) : List Int := (List.range i).map fun (k : Nat) => if (k : Int) + 1 = hole then (0 : Int) else 1
def falL (rn en : List Int) (n : Int) (i : Nat) : List Int := (List.range i).map fun (k : Nat) => (rn.getD k 0 - en.getD k 0) * ((k : Int) + 1) * (n - k)
theorem endL_eq (n : Nat) (h : Int) : endL h n = endOf n h := rfl
theorem len_cases {ns : List Int} {n : Nat} (h : ns.length = n) (h3 : 3 ≤ n) (h5 : n ≤ 5) : (∃ a b c, ns = [a, b, c] ∧ n = 3) ∨ (∃ a b c d, ns = [a, b, c, d] ∧ n = 4) ∨ ∃ a b c d e, ns = [a, b, c, d, e] ∧ n = 5 := by
  match ns, h with
  | [a, b, c], h => exact .inl ⟨a, b, c, rfl, h.symm⟩
  | [a, b, c, d], h => exact .inr (.inl ⟨a, b, c, d, rfl, h.symm⟩)
  | [a, b, c, d, e], h => exact .inr (.inr ⟨a, b, c, d, e, rfl, h.symm⟩)
  | [], h => exact absurd h (by simp only [List.length_nil]; omega)
  | [_], h => exact absurd h (by simp only [List.length_cons, List.length_nil]; omega)
  | [_, _], h => exact absurd h (by simp only [List.length_cons, List.length_nil]; omega)
  | _ :: _ :: _ :: _ :: _ :: _ :: _, h => exact absurd h (by simp only [List.length_cons]; omega)
theorem start_rec {rn : List Int} {n : Nat} (h : rn.length = n) (h3 : 3 ≤ n) (h5 : n ≤ 5) (h1 : ∀ x ∈ rn, 1 ≤ x ∧ x ≤ 7 - (n : Int)) : Rec rn := by
  rcases len_cases h h3 h5 with ⟨a, b, c, rfl, rfl⟩ | ⟨a, b, c, d, rfl, rfl⟩ | ⟨a, b, c, d, e, rfl, rfl⟩ <;> (simp [Rec] at h1 ⊢; omega)
theorem momL_sum {rn : List Int} {n : Nat} (h : rn.length = n) (h3 : 3 ≤ n) (h5 : n ≤ 5) : (momL rn n).sum = momF 1 rn := by
  rcases len_cases h h3 h5 with ⟨a, b, c, rfl, rfl⟩ | ⟨a, b, c, d, rfl, rfl⟩ | ⟨a, b, c, d, e, rfl, rfl⟩ <;> (simp [momL, momF, List.range_succ]; try omega)
theorem falL_sum {rn en : List Int} {n : Nat} (h : rn.length = n) (he : en.length = n) (h3 : 3 ≤ n) (h5 : n ≤ 5) : (falL rn en n n).sum = eneF n 1 rn - eneF n 1 en := by
  rcases len_cases h h3 h5 with ⟨a, b, c, rfl, rfl⟩ | ⟨a, b, c, d, rfl, rfl⟩ | ⟨a, b, c, d, e, rfl, rfl⟩
  · rcases len_cases he h3 h5 with ⟨a', b', c', rfl, _⟩ | ⟨a', b', c', d', rfl, h⟩ | ⟨a', b', c', d', e', rfl, h⟩
    · simp [falL, eneF, List.range_succ]; omega
    · omega
    · omega
  · rcases len_cases he h3 h5 with ⟨a', b', c', rfl, h⟩ | ⟨a', b', c', d', rfl, _⟩ | ⟨a', b', c', d', e', rfl, h⟩
    · omega
    · simp [falL, eneF, List.range_succ]; omega
    · omega
  · rcases len_cases he h3 h5 with ⟨a', b', c', rfl, h⟩ | ⟨a', b', c', d', rfl, h⟩ | ⟨a', b', c', d', e', rfl, _⟩
    · omega
    · omega
    · simp [falL, eneF, List.range_succ]; omega
theorem hole_eq {n : Nat} {mo : Int} : (((n : Int) * (n + 1)).fdiv 2 - mo).fmod (n + 1) = holeOf n mo := by
  unfold holeOf
  rw [Int.fdiv_eq_ediv_of_nonneg _ (by decide), Int.fmod_eq_emod_of_nonneg _ (by omega)]
theorem endOf_len (n : Nat) (h : Int) : (endOf n h).length = n := by unfold endOf; rw [List.length_map, List.length_range]
theorem ene_bound {rn : List Int} {n : Nat} (h : rn.length = n) (h3 : 3 ≤ n) (h5 : n ≤ 5) (h1 : ∀ x ∈ rn, 1 ≤ x ∧ x ≤ 7 - (n : Int)) : eneF n 1 rn ≤ 1000 := by
  rcases len_cases h h3 h5 with ⟨a, b, c, rfl, rfl⟩ | ⟨a, b, c, d, rfl, rfl⟩ | ⟨a, b, c, d, e, rfl, rfl⟩ <;> (simp [eneF] at h1 ⊢; omega)
theorem ene_end_nonneg {n : Nat} {h : Int} (h3 : 3 ≤ n) (h5 : n ≤ 5) : 0 ≤ eneF n 1 (endOf n h) := by
  have : n = 3 ∨ n = 4 ∨ n = 5 := by omega
  rcases this with rfl | rfl | rfl <;> (simp [eneF, endOf, List.range_succ]; repeat' split) <;> omega
/-- the falls, told ahead -/
theorem falls_eq {rn : List Int} {n : Nat} {hole : Int} (h : rn.length = n) (h3 : 3 ≤ n) (h5 : n ≤ 5) (h1 : ∀ x ∈ rn, 1 ≤ x ∧ x ≤ 7 - (n : Int)) (hh : (((n : Int) * (n + 1)).fdiv 2 - (momL rn n).sum).fmod (n + 1) = hole) :
    ∃ m : Nat, (falL rn (endL hole n) n n).sum.fdiv 2 = m ∧ m ≤ 100000 ∧ eneF n 1 rn = eneF n 1 (endL hole n) + 2 * m := by
  rw [momL_sum h h3 h5, hole_eq] at hh
  subst hh
  have R := start_rec h h3 h5 h1
  obtain ⟨m, e1, _, _⟩ := left_falls (eneF rn.length 1 rn).toNat rn R (by have := ene_nonneg R; omega)
  rw [h] at e1
  refine ⟨m, ?_, ?_, e1⟩
  · rw [endL_eq, falL_sum h (endOf_len _ _) h3 h5, e1, Int.fdiv_eq_ediv_of_nonneg _ (by decide)]
    omega
  · have := ene_bound h h3 h5 h1
    have := ene_end_nonneg (h := holeOf n (momF 1 rn)) h3 h5
    omega
theorem SpAt.start {rn : List Int} {n : Nat} (h : rn.length = n) (h3 : 3 ≤ n) (h5 : n ≤ 5) (h1 : ∀ x ∈ rn, 1 ≤ x ∧ x ≤ 7 - (n : Int)) : SpAt n (momF 1 rn) rn.sum (eneF n 1 rn) 0 rn 0 0 :=
  ⟨start_rec h h3 h5 h1, h, by omega, by omega, by omega⟩
/-- how many falls are left -/
theorem SpAt.left {n i m : Nat} {mo gr E0 l r : Int} {ns : List Int} (S : SpAt n mo gr E0 i ns l r) (hE : E0 = eneF n 1 (endOf n (holeOf n mo)) + 2 * m) : (i < m → ∃ p, p < n ∧ 2 ≤ ns.getD p 0) ∧ (i = m → ns = endOf n (holeOf n mo)) := by
  obtain ⟨m', e1, e2, e3⟩ := left_falls (eneF ns.length 1 ns).toNat ns S.rec_ (by have := ene_nonneg S.rec_; omega)
  rw [S.len] at e1 e2 e3
  have hm : momF 1 ns = mo - (n + 1) * r := by have := S.mom; omega
  rw [hm, hole_shift] at e1 e2
  have := S.ene
  refine ⟨fun hi => e3 (by omega), fun hi => e2 (by omega)⟩
/-- a fall -/
theorem SpAt.fall {n i p : Nat} {mo gr E0 l r : Int} {ns : List Int} (S : SpAt n mo gr E0 i ns l r) (hp : p < n) (h2 : 2 ≤ ns.getD p 0) :
    SpAt n mo gr E0 (i + 1) (topple n ns p) (l + if p = 0 then 1 else 0) (r + if p + 1 = n then 1 else 0) := by
  have hl := S.len
  obtain ⟨s1, s2, s3, s4, s5⟩ := step S.rec_ (by rw [hl]; exact hp) h2
  rw [hl] at s1 s2 s3 s4 s5
  refine ⟨s1, s2, ?_, ?_, ?_⟩
  · have := S.mom
    rw [Int.mul_add]
    omega
  · have := S.mass; omega
  · have := S.ene; rw [s5]; omega
theorem right_eq {n : Nat} {mo gr E0 l r : Int} {ns : List Int} {i : Nat} (S : SpAt n mo gr E0 i ns l r) (h3 : 3 ≤ n) (h5 : n ≤ 5) : r = (mo - (momL ns n).sum).fdiv (n + 1) := by
  rw [momL_sum S.len h3 h5, ← S.mom, Int.fdiv_eq_ediv_of_nonneg _ (by omega)]
  have : momF 1 ns + (n + 1) * r - momF 1 ns = (n + 1) * r := by omega
  rw [this, Int.mul_ediv_cancel_left _ (by omega)]
end Mine
namespace Mine
open PySem PySem.W PyProof.Rows PySem.Calls PySem.Spec
example : PySem.Challenge.rw_ae5016_01 = PySem.Challenge.rw_ae5016_01 → K = K → True := by
  k_fill
  intro _ _; trivial
local macro_rules | `(tactic| k_room) => `(tactic| ((try simp only [depth_make, depth_under_make, depth_under_kw, depth_in1, depth_deeper, limit_is]); omega))
local macro_rules | `(tactic| k_inst) => `(tactic| exact inst_of (by k_asm) (by assumption) (by assumption))
local macro_rules | `(tactic| walk_at "mine walk") => `(tactic| (k_unmd; k_fold; repeat' (first | (k_unfold; (try dsimp only)) | walk1 | (dsimp only; walk1))))
local macro_rules | `(tactic| k_handed) => `(tactic| assumption)
section
variable {prog : Program} {w : World} {A : Around} {s : Shared} {p : Program} {loose : List Str} {mg mb : Str → Option Value} {R : Result → Shared → Prop}
theorem datum0 {v : Value} (G : Gd w p loose mg mb s.heap) (hroom : A.depth + 10 ≤ 900)
    (h : ∀ x dx t dt es h' tk, Ext s.heap h' → New s.heap h' [(x, instObj 209 dx), (dx, dictOf es 3), (t, instObj 333 dt), (dt, dictOf [] 0)] →
      (∃ k1 k2 k3 t1 t2 t3, es = dEs k1 k2 k3 t1 t2 t3 v (.ref t) .none) → R (.ok (.ret (.ref x))) { s with heap := h', toks := tk }) :
    codeAny (model prog w) A (.call (.ref 209) ⟨[v], []⟩) R s := by
  refine make G ?_
  intro x dx h' hx1 hdx hE hx hd hsz
  have X := G.X
  have T := G.T
  refine enter s.heap [(x, instObj 209 dx), (dx, dictOf [] 0)] [("self", .ref x), ("value", v), ("path", .none), ("context", .none)] hE (by dsimp only; omega) (two_new hx hd (fresh_of (by omega)) (fresh_of (by omega))) G (by k_room) ?_
  intro L' h₁ tk F N hE' hL
  walk_at "mine walk"
  exact ⟨rfl, h _ _ _ _ _ _ _ (Fr.keep (by assumption)) (New.of (by assumption) (by k_allIn)) ⟨_, _, _, _, _, _, rfl⟩⟩

theorem datum2 {v : Value} {P dP C dC cP : Addr} {eP eC : List DictEntry} {nP nC : Nat} (hc : cP = 638 ∨ cP = 737) (G : Gd w p loose mg mb s.heap) (hroom : A.depth + 10 ≤ 900)
    (hP : s.heap.get? P = some (instObj cP dP)) (hPd : s.heap.get? dP = some (dictOf eP nP)) (hC : s.heap.get? C = some (instObj 209 dC)) (hCd : s.heap.get? dC = some (dictOf eC nC))
    (h : ∀ x dx es h' tk, Ext s.heap h' → New s.heap h' [(x, instObj 209 dx), (dx, dictOf es 3)] →
      (∃ k1 k2 k3 t1 t2 t3, es = dEs k1 k2 k3 t1 t2 t3 v (.ref P) (.ref C)) → R (.ok (.ret (.ref x))) { s with heap := h', toks := tk }) :
    codeAny (model prog w) A (.call (.ref 209) ⟨[v], [("path", .ref P), ("context", .ref C)]⟩) R s := by
  refine make G ?_
  intro x dx h' hx1 hdx hE hx hd hsz
  have X := G.X
  have T := G.T
  refine enter s.heap [(x, instObj 209 dx), (dx, dictOf [] 0)] [("self", .ref x), ("value", v), ("path", .ref P), ("context", .ref C)] hE (by dsimp only; omega) (two_new hx hd (fresh_of (by omega)) (fresh_of (by omega))) G (by k_room) ?_
  intro L' h₁ tk F N hE' hL
  rcases hc with rfl | rfl
  · walk_at "mine walk"
    exact ⟨rfl, h _ _ _ _ _ (Fr.keep (by assumption)) (New.of (by assumption) (by k_allIn)) ⟨_, _, _, _, _, _, rfl⟩⟩
  · walk_at "mine walk"
    exact ⟨rfl, h _ _ _ _ _ (Fr.keep (by assumption)) (New.of (by assumption) (by k_allIn)) ⟨_, _, _, _, _, _, rfl⟩⟩

theorem value_c {x dx : Addr} {v pv cv : Value} {k1 k2 k3 : Int} {t1 t2 t3 n : Nat} (G : Gd w p loose mg mb s.heap) (hroom : A.depth + 5 ≤ 900)
    (hx : s.heap.get? x = some (instObj 209 dx)) (hd : s.heap.get? dx = some (dictOf (dEs k1 k2 k3 t1 t2 t3 v pv cv) n)) (hv : handedIn v = true)
    (h : ∀ h' tk, Ext s.heap h' → R (.ok (.ret v)) { s with heap := h', toks := tk }) :
    codeAny (model prog w) A (.call (.ref 176) ⟨[.ref x], []⟩) R s := by
  have X := G.X
  have T := G.T
  refine enter s.heap [] [("self", .ref x)] (Ext.refl _) (Nat.le_refl _) (fun _ hq => nomatch hq) G (by k_room) ?_
  intro L' h₁ tk F N hE' hL
  walk_at "mine walk"
  exact h _ _ (Fr.keep (by assumption))

/-- x.value -/
theorem get_value {b : Heap} {L : Addr} {m : Str → Option Value} {expr : Bool} {E : Value → Shared → Prop} {Q : Value → Shared → Prop} {x dx : Addr} {v pv cv : Value} {k1 k2 k3 : Int} {t1 t2 t3 n : Nat} (F : Fr b L s.heap m) (G : Gd w p loose mg mb b) (hroom : A.depth + 5 ≤ 900)
    (I : InstAt s.heap x (instObj 209 dx) 209 (some (dictOf (dEs k1 k2 k3 t1 t2 t3 v pv cv) n))) (hv : handedIn v = true)
    (h : ∀ h' tk, Ext s.heap h' → Q v { s with heap := h', toks := tk }) : wpAny (model prog w) A (getAttr (.ref x) "value" expr) Q E s := by
  have G' := G.at F
  refine' get_prop F G.X I ?k4 ?k5 ?k6 ?k7 ?k8 ?k9 ?_
  (case k4 => k_is)
  (case k5 => k_is)
  (case k6 => k_is)
  (case k7 => k_is)
  (case k8 => k_is)
  (case k9 => k_is)
  refine value_c (s := { s with toks := s.toks + 1 }) G' hroom I.at_ I.dict hv ?_
  intro h' tk hE
  exact handed_on hv (h h' tk hE)
end
end Mine
namespace Mine
open PySem PySem.W PyProof.Rows PySem.Calls PySem.Spec
example : PySem.Challenge.rw_ae5016_01 = PySem.Challenge.rw_ae5016_01 → K = K → True := by
  k_fill
  intro _ _; trivial
local macro_rules | `(tactic| k_room) => `(tactic| ((try simp only [depth_make, depth_under_make, depth_under_kw, depth_in1, depth_deeper, limit_is]); omega))
local macro_rules | `(tactic| k_inst) => `(tactic| exact inst_of (by k_asm) (by assumption) (by assumption))
local macro_rules | `(tactic| walk_at "mine walk") => `(tactic| (k_unmd; k_fold; repeat' (first | (k_unfold; (try dsimp only)) | walk1 | (dsimp only; walk1))))
local macro_rules | `(tactic| k_handed) => `(tactic| assumption)
local macro_rules | `(tactic| walk_at "mine ext") => `(tactic| first | exact List.forall_mem_nil _ | ((refine List.forall_mem_cons.mpr (And.intro ?x ?_)); (case x => first | exact Or.inl (by k_memK) | exact Or.inr (by assumption)); walk_at "mine ext"))
local macro_rules | `(tactic| walk_at "mine ne") => `(tactic| first | exact List.forall_mem_nil _ | ((refine List.forall_mem_cons.mpr (And.intro ?x ?_)); (case x => (dsimp only; omega)); walk_at "mine ne"))
local macro_rules | `(tactic| walk_at "mine new") => `(tactic| first | exact List.forall_mem_nil _ | ((refine List.forall_mem_cons.mpr (And.intro ?x ?_)); (case x => (refine And.intro (by k_memK) ?_; first | exact Or.inl (by assumption) | exact Or.inr (by walk_at "mine ne"))); walk_at "mine new"))
section
variable {prog : Program} {w : World} {A : Around} {s : Shared} {p : Program} {loose : List Str} {mg mb : Str → Option Value} {R : Result → Shared → Prop}
theorem fields_new {b : Heap} {t : Tok} {nm : Str} (hnm : nm = "row" ∨ nm = "left" ∨ nm = "right") (H : Kn w p loose mg mb b s.heap []) (hroom : A.depth + 10 ≤ 900)
    (h : ∀ (x dx D : Nat) es h' tk, (@LE.le Nat _ s.heap.objs.size dx) → (@LT.lt Nat _ dx x) → (@LT.lt Nat _ x D) → Ext s.heap h' → New s.heap h' [(x, instObj 638 dx), (dx, dictOf es 2), (D, { cls := .type "tuple", data := .seq #[.str nm t] })] →
      (∃ k1 k2 t1 t2, es = [⟨k1, .str "_deprecated_wildcard_use" t1, .bool false⟩, ⟨k2, .str "fields" t2, .ref D⟩]) → R (.ok (.ret (.ref x))) { s with heap := h', toks := tk }) :
    codeAny (model prog w) A (.call (.ref 638) ⟨[.str nm t], []⟩) R s := by
  refine makeK H ?_
  intro x dx h' l1 l2 l0 E fx fdx H'
  simp only [AllLt] at l2
  refine enterS [.str nm t] H' (fun D => [("self", .ref x), ("fields", .ref D)]) (by k_room) ?_
  intro D hp g L' h₁ tk ED fD l3 B G F N
  simp only [AllLt] at l3
  dsimp only at ED fD
  have fD' := none_back E fD
  have X := G.X
  have T := G.T
  rcases hnm with rfl | rfl | rfl
  all_goals (
    walk_at "mine walk"
    exact ⟨rfl, h _ _ _ _ _ _ l0 l1 l3.1 (B.ext (E.trans ED) (by assumption) (by assumption) (by walk_at "mine ext")) (B.new (E.trans ED) (by assumption) (by assumption) (by walk_at "mine new")) ⟨_, _, _, _, rfl⟩⟩)
end
end Mine
namespace Mine
open PySem PySem.W PyProof.Rows PySem.Calls PySem.Spec
example : PySem.Challenge.rw_ae5016_01 = PySem.Challenge.rw_ae5016_01 → K = K → True := by
  k_fill
  intro _ _; trivial
local macro_rules | `(tactic| k_room) => `(tactic| ((try simp only [depth_make, depth_under_make, depth_under_kw, depth_in1, depth_deeper, limit_is]); omega))
local macro_rules | `(tactic| k_inst) => `(tactic| exact inst_of (by k_asm) (by assumption) (by assumption))
local macro_rules | `(tactic| walk_at "mine walk") => `(tactic| (k_unmd; k_fold; repeat' (first | (k_unfold; (try dsimp only)) | walk1 | (dsimp only; walk1))))
local macro_rules | `(tactic| k_handed) => `(tactic| assumption)
local macro_rules | `(tactic| walk_at "mine ext") => `(tactic| first | exact List.forall_mem_nil _ | ((refine List.forall_mem_cons.mpr (And.intro ?x ?_)); (case x => first | exact Or.inl (by k_memK) | exact Or.inr (by assumption)); walk_at "mine ext"))
local macro_rules | `(tactic| walk_at "mine ne") => `(tactic| first | exact List.forall_mem_nil _ | ((refine List.forall_mem_cons.mpr (And.intro ?x ?_)); (case x => (dsimp only; omega)); walk_at "mine ne"))
local macro_rules | `(tactic| walk_at "mine new") => `(tactic| first | exact List.forall_mem_nil _ | ((refine List.forall_mem_cons.mpr (And.intro ?x ?_)); (case x => (refine And.intro (by k_memK) ?_; first | exact Or.inl (by assumption) | exact Or.inr (by walk_at "mine ne"))); walk_at "mine new"))
section
variable {prog : Program} {w : World} {A : Around} {s : Shared} {p : Program} {loose : List Str} {mg mb : Str → Option Value} {R : Result → Shared → Prop}

local macro_rules | `(tactic| walk_at "call ref") => `(tactic| ((with_reducible show wpAny _ _ (call (Value.ref 638) _) _ _ _); (refine wpAny_call (fields_new (by assumption) (Kn.of (by assumption) (by k_asm) (by k_asm) (by exact List.forall_mem_nil _)) (by k_room) ?_)); (intro x' dx' D' es' h' tk' lo1' lo2' lo3' hE' hW' he'); (obtain ⟨k1', k2', t1', t2', he2'⟩ := he'); (subst he2'); (try dsimp only at lo1' hE' hW'); (have hl' := news_lt (by with_reducible assumption)); (simp only [AllLt] at hl'); (have hF' := Fr.keeps (by k_asm) hE'); (have hN' := back_news (by k_asm) (by k_asm) hE' hW'); (simp only [List.cons_append, List.nil_append] at hN'); (try k_sweep)))

/-- Fields._compliant_constructor(name) -/
theorem compliant {b : Heap} {t : Tok} {nm : Str} (hnm : nm = "row" ∨ nm = "left" ∨ nm = "right") (H : Kn w p loose mg mb b s.heap []) (hroom : A.depth + 20 ≤ 900)
    (h : ∀ x dx D es h' tk, Ext s.heap h' → New s.heap h' [(x, instObj 638 dx), (dx, dictOf es 2), (D, { cls := .type "tuple", data := .seq #[.str nm t] })] →
      (∃ k1 k2 t1 t2, es = [⟨k1, .str "_deprecated_wildcard_use" t1, .bool false⟩, ⟨k2, .str "fields" t2, .ref D⟩]) → R (.ok (.ret (.ref x))) { s with heap := h', toks := tk }) :
    codeAny (model prog w) A (.call (.ref 533) ⟨[.ref 638, .str nm t], []⟩) R s := by
  refine enterS [.str nm t] H (fun D => [("cls", .ref 638), ("fields", .ref D)]) (by k_room) ?_
  intro D hp g L' h₁ tk ED fD l3 B G F N
  simp only [AllLt] at l3
  have X := G.X
  have T := G.T
  walk_at "mine walk"
  exact h _ _ _ _ _ _ (B.ext ED (by assumption) (by assumption) (by walk_at "mine ext")) (B.new ED (by assumption) (by assumption) (by walk_at "mine new")) ⟨_, _, _, _, rfl⟩

theorem index1 {b : Heap} {t : Tok} {i : Int} (H : Kn w p loose mg mb b s.heap []) (hroom : A.depth + 10 ≤ 900)
    (h : ∀ x dx D es h' tk, Ext s.heap h' → New s.heap h' [(x, instObj 737 dx), (dx, dictOf es 1), (D, { cls := .type "tuple", data := .seq #[.int i t] })] →
      (∃ k1 t1, es = [⟨k1, .str "indices" t1, .ref D⟩]) → R (.ok (.ret (.ref x))) { s with heap := h', toks := tk }) :
    codeAny (model prog w) A (.call (.ref 737) ⟨[.int i t], []⟩) R s := by
  refine makeK H ?_
  intro x dx h' l1 l2 l0 E fx fdx H'
  simp only [AllLt] at l2
  refine enterS [.int i t] H' (fun D => [("self", .ref x), ("indices", .ref D)]) (by k_room) ?_
  intro D hp g L' h₁ tk ED fD l3 B G F N
  simp only [AllLt] at l3
  dsimp only at ED fD
  have fD' := none_back E fD
  have X := G.X
  have T := G.T
  walk_at "mine walk"
  exact ⟨rfl, h _ _ _ _ _ _ (B.ext (E.trans ED) (by assumption) (by assumption) (by walk_at "mine ext")) (B.new (E.trans ED) (by assumption) (by assumption) (by walk_at "mine new")) ⟨_, _, rfl⟩⟩
theorem index2 {b : Heap} {t u : Tok} {i j : Int} (H : Kn w p loose mg mb b s.heap []) (hroom : A.depth + 10 ≤ 900)
    (h : ∀ x dx D es h' tk, Ext s.heap h' → New s.heap h' [(x, instObj 737 dx), (dx, dictOf es 1), (D, { cls := .type "tuple", data := .seq #[.int i t, .int j u] })] →
      (∃ k1 t1, es = [⟨k1, .str "indices" t1, .ref D⟩]) → R (.ok (.ret (.ref x))) { s with heap := h', toks := tk }) :
    codeAny (model prog w) A (.call (.ref 737) ⟨[.int i t, .int j u], []⟩) R s := by
  refine makeK H ?_
  intro x dx h' l1 l2 l0 E fx fdx H'
  simp only [AllLt] at l2
  refine enterS [.int i t, .int j u] H' (fun D => [("self", .ref x), ("indices", .ref D)]) (by k_room) ?_
  intro D hp g L' h₁ tk ED fD l3 B G F N
  simp only [AllLt] at l3
  dsimp only at ED fD
  have fD' := none_back E fD
  have X := G.X
  have T := G.T
  walk_at "mine walk"
  exact ⟨rfl, h _ _ _ _ _ _ (B.ext (E.trans ED) (by assumption) (by assumption) (by walk_at "mine ext")) (B.new (E.trans ED) (by assumption) (by assumption) (by walk_at "mine new")) ⟨_, _, rfl⟩⟩
end
end Mine
namespace Mine
open PySem PySem.W PyProof.Rows PySem.Calls PySem.Spec
theorem looks_dict {b h : Heap} {L d : Addr} {o : Obj} {news : List (Addr × Obj)} {prog : Program} {w : World} {kvs : List (Str × Value)} (N : News b L h news) (hm : (d, o) ∈ news) (hd : o.IsDictOf (strKind prog w) kvs) (M : Model) : Looks M h (typeOf (.ref d)) (.type "dict") := by
  obtain ⟨es, ep, hx, _⟩ := hd
  have := looks_cls (M := M) (N.get hm)
  rwa [hx.1] at this
theorem dict_here {b h : Heap} {L d : Addr} {o : Obj} {news : List (Addr × Obj)} {prog : Program} {w : World} {kvs : List (Str × Value)} (N : News b L h news) (hm : (d, o) ∈ news) (hd : o.IsDictOf (strKind prog w) kvs) : ∃ o, h.get? d = some o ∧ o.cls = .type "dict" := by
  obtain ⟨es, ep, hx, _⟩ := hd
  exact ⟨o, N.get hm, hx.1⟩
theorem isn_dict {b : Heap} {L d C : Addr} {o : Obj} {news : List (Addr × Obj)} {prog : Program} {w : World} {kvs : List (Str × Value)} {A : Around} {E Q : Value → Shared → Prop} {s : Shared} (X : (K w.params).In s.heap) (N : News b L s.heap news) (hm : (d, o) ∈ news) (hd : o.IsDictOf (strKind prog w) kvs)
    (e : isNotIn (K w.params) "dict" C = true) (h : Q (.bool false) { s with toks := s.toks + 1 }) : wpAny (model prog w) A (call (.builtin "isinstance") [.ref d, .ref C]) Q E s :=
  isn_call (P := fun h => ∃ o, h.get? d = some o ∧ o.cls = .type "dict") X (fun M => looks_dict N hm hd M) e (by intro q; cases q) (dict_here N hm hd) dict_cls h
theorem New.fresh {h h₂ h' : Heap} {l : List (Addr × Obj)} (W : New h₂ h' l) (E : Ext h h₂) : ∀ q ∈ l, h.get? q.1 = none := fun q hq => none_back E (W q hq).2
/-- x is none of those -/
def Apart (x : Addr) (l : List (Addr × Obj)) : Prop := ∀ r ∈ l, x ≠ r.1
theorem Apart.ne {x c : Addr} {o : Obj} {l : List (Addr × Obj)} (a : Apart x l) (hm : (c, o) ∈ l) : x ≠ c := a _ hm
theorem New.apart {b h h' : Heap} {L : Addr} {l news : List (Addr × Obj)} (N : News b L h news) (W : New h h' l) : ∀ q ∈ l, Apart q.1 news := fun q hq r hr e => by
  have := (N r hr).1
  rw [← e, (W q hq).2] at this; cases this
/-- the document's pairs -/
abbrev docKs (l r : Int) (tl tr : Nat) (R : Addr) : List (Str × Value) := [("left", .int l tl), ("row", .ref R), ("right", .int r tr)]
/-- the entries of a Fields' dict -/
abbrev fEs (k1 k2 : Int) (t1 t2 : Nat) (D : Addr) : List DictEntry := [⟨k1, .str "_deprecated_wildcard_use" t1, .bool false⟩, ⟨k2, .str "fields" t2, .ref D⟩]
section
variable {prog : Program} {w : World} {A : Around} {s : Shared} {p : Program} {loose : List Str} {mg mb : Str → Option Value}
  {R : Result → Shared → Prop} {name qual : Str} {params : Arguments} {body b₀ : List Stmt} {scope sc₀ : Scope} {dV kV doc pm cdv ct oc : Value} {an od : Option Addr} {osl : Array (Option Value)} {f : Addr} {args : Args}
/-- a def with cells is entered -/
theorem enterC {b : Heap} {l : List (Addr × Obj)} (H : Kn w p loose mg mb b s.heap l) (binds : List (Str × Value))
    (hroom : A.depth < recursionLimit)
    (h : ∀ g L' h₁ tk cells, Back g s.heap l → Gd w p loose mg mb g → Fr g L' h₁ (bindL (envOfC qual scope L' f cdv).kindOf binds fun _ => none) → News g L' h₁ (cells ++ l) →
      CellsAre (bindC (envOfC qual scope L' f cdv).kindOf binds fun _ => none) (cellsFrom (L' + 1) scope.names []) cells → AllLt L' l →
      wpAny (model prog w) (A.deeper (envOfC qual scope L' f cdv)) (execs body (envOfC qual scope L' f cdv))
        (fun fl s' => R (.ok (.ret (match fl with | .ret v => v | _ => .none))) s') (fun _ _ => False) { s with heap := h₁, toks := tk })
    (ho : (K w.params).lookup f = some ⟨oc, od, .func (fnOf name qual params b₀ sc₀ dV kV doc pm an cdv ct), osl⟩ := by k_is) (hb : b₀ = body := by (conv => lhs; whnf)) (hsc : sc₀ = scope := by (conv => lhs; whnf)) (hcd : codeIn (K w.params) cdv qual = true := by k_is)
    (hbind : (K w.params).In s.heap → BindsTo s (fnOf name qual params b₀ sc₀ dV kV doc pm an cdv ct) args binds := by first | exact fun _ => BindsTo.of_eq rfl | exact fun X => binds_K X rfl (by k_is) rfl rfl rfl)
    (hkind : (binds.all fun y => scope.names.lookup y.1 == some .local || scope.names.lookup y.1 == some .cell) = true := by exact rfl) (hnd : ((cellsFrom 0 scope.names []).map (·.1)).Nodup := by decide +kernel)
    (hco : scope.isCoroutine = false := by rfl) (hgen : scope.isGenerator = false := by rfl) (hk : scope.kind = .function := by rfl) :
    codeAny (model prog w) A (.call (.ref f) args) R s := by
  subst hb hsc
  have G' := H.whole
  refine codeAny_call_function (fd := fnOf name qual params b₀ sc₀ dV kV doc pm an cdv ct) (body := b₀) hroom (G'.X _ _ ho) rfl hco hgen rfl (codeRec_of G'.X hcd) (hbind G'.X _ _ _ _ ?_)
  refine wpAny_newFunctionEnv_cells hk (kindsX hkind _) fun env' he s' x => ?_
  subst he
  refine ⟨G'.T.nolimit.keeps x.toInCall.keep, codeAny_func ?_⟩
  obtain ⟨h₁, tk, rfl, _⟩ := x.done
  have hk₁ := x.toInCall.keep
  obtain ⟨cells, NC, Y⟩ := Cl.news (h₀ := s.heap) (Nat.le_refl _) fun n c hm => ⟨x.cell n c (lookup_of_mem_nodup (cellsFrom_names sc₀.names 0 (s.heap.objs.size + 1) [] [] rfl ▸ hnd) hm), x.above n c hm⟩
  refine wpAny_mono (h _ s.heap.objs.size h₁ tk cells ⟨rfl, fun q hq => (H.N q hq).1⟩ H.ground ⟨x.toInCall.ns, fun b o e => hk₁ b o (of_hideAll _ e), Nat.le_of_eq (hideAll_size _ _)⟩ (fun p hp => ?_) Y (allLt_get (Nat.le_refl _) fun q hq => (H.N q hq).1)) (fun fl s' hl => hl) fun _ _ y => y.elim
  rcases List.mem_append.mp hp with hp | hp
  · refine ⟨(NC p hp).1, (NC p hp).2.1, ?_⟩
    cases q : (hideAll s.heap (l.map (·.1))).get? p.1 with
    | none => rfl
    | some o => have := of_hideAll _ q; rw [(NC p hp).2.2] at this; cases this
  · exact ⟨hk₁ _ _ (H.N p hp).1, Nat.ne_of_lt (Heap.lt_size (H.N p hp).1), hideAll_none _ (List.mem_map_of_mem hp)⟩
end
/-- the entries of an Expression's dict -/
abbrev eEs (k1 k2 k3 : Int) (t1 t2 t3 t4 t5 : Nat) (T : Addr) : List DictEntry := [⟨k1, .str "target" t1, .ref T⟩, ⟨k2, .str "op" t2, .str ">=" t4⟩, ⟨k3, .str "value" t3, .int 2 t5⟩]
theorem cmp_ofGtE' {M : Model} {A : Around} {E : Value → Shared → Prop} {s : Shared} {a b : Value} {Q : Value → Shared → Prop} (h : wpAny M A (compareOp .GtE a b) Q E s) : wpAny M A (richCompare .GtE a b) Q E s := h
theorem entry_ge : entryFor table "_operator.ge" = some Builtin.«_operator.ge» := entryFor_of_tree (by kernel_rfl)
theorem kind_ge : builtinKind "_operator.ge" = none := by kernel_rfl
theorem plain_ge : plainId "_operator.ge" = true := by decide +kernel
theorem args_ge (a b : Value) : argsOk "_operator.ge" ⟨[a, b], []⟩ := by unfold argsOk; kernel_rfl
theorem run_ge {prog : Program} {w : World} {A : Around} {E Q : Value → Shared → Prop} {s : Shared} {a : Int} {t : Tok} {b : Int} {u : Tok} (h : Q (.bool (decide (b ≤ a))) s) :
    wpAny (model prog w) A (call (.builtin "_operator.ge") [.int a t, .int b u]) Q E s :=
  call_function_meets (S := fun _ R s => R (.ok (.ret (.bool (decide (b ≤ a))))) s) kind_ge plain_ge entry_ge (args_ge _ _) (by
    intro prog w A R s h
    show wpAny _ _ (richCompare .GtE (.int a t) (.int b u) >>= fun v => ret v) _ _ s
    refine wpAny_bind (cmp_ofGtE' (P.ge_int ?_))
    exact wpAny_pure h) h
/-- the entries of a Filter's dict -/
abbrev flEs (k1 : Int) (t1 : Nat) (XL : Addr) : List DictEntry := [⟨k1, .str "expressions" t1, .ref XL⟩]
/-- a candidate: its place, its value, the path to it -/
def CandAt (H h : Heap) (k : Nat) (v y : Value) : Prop :=
  ∃ a P dP D t t' k1 t1, y = .ref a ∧ New H h [(a, { cls := .type "tuple", data := .seq #[.int k t, v, .ref P] }), (P, instObj 737 dP), (dP, dictOf [⟨k1, .str "indices" t1, .ref D⟩] 1), (D, { cls := .type "tuple", data := .seq #[.int k t'] })]
theorem CandAt.stable {H h h' : Heap} {k : Nat} {v y : Value} (s : ∀ a o, H.get? a = none → h.get? a = some o → h'.get? a = some o) : CandAt H h k v y → CandAt H h' k v y := by
  rintro ⟨a, P, dP, D, t, t', k1, t1, rfl, N⟩
  exact ⟨a, P, dP, D, t, t', k1, t1, rfl, N.stable s⟩
def Cands (vs : Array Value) (H : Heap) (i : Nat) (ys : List Value) (h : Heap) : Prop := ys.length = i ∧ ∀ j y, ys[j]? = some y → ∃ v, vs[j]? = some v ∧ CandAt H h j v y
theorem Cands.snoc {vs : Array Value} {H h h' : Heap} {i : Nat} {ys : List Value} {v y : Value} (c : Cands vs H i ys h) (s : ∀ a o, H.get? a = none → h.get? a = some o → h'.get? a = some o) (hv : vs[i]? = some v) (hc : CandAt H h' i v y) : Cands vs H (i + 1) (ys ++ [y]) h' := by
  refine ⟨by rw [List.length_append, List.length_singleton, c.1], fun j z hj => ?_⟩
  rcases Nat.lt_trichotomy j ys.length with h1 | h1 | h1
  · rw [List.getElem?_append_left h1] at hj
    obtain ⟨v', e, k⟩ := c.2 j z hj
    exact ⟨v', e, k.stable s⟩
  · have hz : y = z := by rw [h1, List.getElem?_concat_length] at hj; exact Option.some.inj hj
    subst hz
    rw [h1, c.1]
    exact ⟨v, hv, hc⟩
  · rw [List.getElem?_eq_none (by rw [List.length_append, List.length_singleton]; omega)] at hj; cases hj
/-- the k-th place holds two or more -/
def hit (vs : Array Value) (k : Nat) : Bool := match vs[k]? with | some (.int n _) => decide (2 ≤ n) | _ => false
/-- a datum that was found: its path holds k; all that is new to h₀ -/
def HitN (h₀ h : Heap) (k : Nat) (y : Value) : Prop :=
  ∃ x dx P dP D k1 t1 t' v cv q1 q2 q3 u1 u2 u3, y = .ref x ∧ New h₀ h [(x, instObj 209 dx), (dx, dictOf (dEs q1 q2 q3 u1 u2 u3 v (.ref P) cv) 3), (P, instObj 737 dP), (dP, dictOf [⟨k1, .str "indices" t1, .ref D⟩] 1), (D, { cls := .type "tuple", data := .seq #[.int (k : Int) t'] })]
def hits (vs : Array Value) (i : Nat) : List Nat := (List.range i).filter (hit vs)
theorem hits_succ (vs : Array Value) (i : Nat) : hits vs (i + 1) = hits vs i ++ (if hit vs i then [i] else []) := by
  unfold hits
  rw [List.range_succ, List.filter_append]
  cases h : hit vs i <;> simp [h]
/-- all that was found below i: the datum is new to H, its path stood before and was new to H₁ -/
def FoundAt (vs : Array Value) (H₁ h₀ H : Heap) (i : Nat) (ys : List Value) (h : Heap) : Prop :=
  PySem.Paired (fun (k : Nat) y => ∃ x dx P dP D k1 t1 t' v cv q1 q2 q3 u1 u2 u3, y = .ref x ∧ New H h [(x, instObj 209 dx), (dx, dictOf (dEs q1 q2 q3 u1 u2 u3 v (.ref P) cv) 3)] ∧ New H₁ h₀ [(P, instObj 737 dP), (dP, dictOf [⟨k1, .str "indices" t1, .ref D⟩] 1), (D, { cls := .type "tuple", data := .seq #[.int (k : Int) t'] })]) (hits vs i) ys
theorem paired_imp {α β : Type} {F G : α → β → Prop} (hi : ∀ a b, F a b → G a b) : ∀ {l : List α} {r : List β}, PySem.Paired F l r → PySem.Paired G l r
  | _, _, .nil => .nil
  | _, _, .cons a t => .cons (hi _ _ a) (paired_imp hi t)
theorem FoundAt.stable {vs : Array Value} {H₁ h₀ H h h' : Heap} {i : Nat} {ys : List Value} (st : ∀ a o, H.get? a = none → h.get? a = some o → h'.get? a = some o) (f : FoundAt vs H₁ h₀ H i ys h) : FoundAt vs H₁ h₀ H i ys h' :=
  paired_imp (fun k y ⟨x, dx, P, dP, D, k1, t1, t', v, cv, q1, q2, q3, u1, u2, u3, e, N, r⟩ => ⟨x, dx, P, dP, D, k1, t1, t', v, cv, q1, q2, q3, u1, u2, u3, e, N.stable st, r⟩) f
theorem FoundAt.skip {vs : Array Value} {H₁ h₀ H h h' : Heap} {i : Nat} {ys : List Value} (hb : hit vs i = false) (st : ∀ a o, H.get? a = none → h.get? a = some o → h'.get? a = some o) (f : FoundAt vs H₁ h₀ H i ys h) : FoundAt vs H₁ h₀ H (i + 1) ys h' := by
  have f := f.stable st
  unfold FoundAt at f ⊢
  rw [hits_succ, hb]
  simpa using f
theorem FoundAt.snoc {vs : Array Value} {H₁ h₀ H h h' : Heap} {i : Nat} {ys : List Value} {x dx P dP D : Addr} {k1 q1 q2 q3 : Int} {t1 u1 u2 u3 : Nat} {t' : Tok} {v cv : Value} (hb : hit vs i = true) (st : ∀ a o, H.get? a = none → h.get? a = some o → h'.get? a = some o) (f : FoundAt vs H₁ h₀ H i ys h)
    (N : New H h' [(x, instObj 209 dx), (dx, dictOf (dEs q1 q2 q3 u1 u2 u3 v (.ref P) cv) 3)]) (NP : New H₁ h₀ [(P, instObj 737 dP), (dP, dictOf [⟨k1, .str "indices" t1, .ref D⟩] 1), (D, { cls := .type "tuple", data := .seq #[.int (i : Int) t'] })]) : FoundAt vs H₁ h₀ H (i + 1) (ys ++ [.ref x]) h' := by
  have f := f.stable st
  unfold FoundAt at f ⊢
  rw [hits_succ, hb]
  exact PySem.Paired.snoc f ⟨x, dx, P, dP, D, k1, t1, t', v, cv, q1, q2, q3, u1, u2, u3, rfl, N, NP⟩
theorem FoundAt.found {vs : Array Value} {h₀ H₁ h₁ H h h' : Heap} {i : Nat} {ys : List Value} (f : FoundAt vs H₁ h₁ H i ys h) (E : Ext h₀ H₁) (E' : Ext h₀ H) (st : ∀ a o, H.get? a = none → h.get? a = some o → h'.get? a = some o) (kp : ∀ a o, H₁.get? a = none → h₁.get? a = some o → h'.get? a = some o) : PySem.Paired (HitN h₀ h') (hits vs i) ys :=
  paired_imp (fun k y ⟨x, dx, P, dP, D, k1, t1, t', v, cv, q1, q2, q3, u1, u2, u3, e, N, r⟩ => ⟨x, dx, P, dP, D, k1, t1, t', v, cv, q1, q2, q3, u1, u2, u3, e, fun q hq => by
    have hq : q ∈ [(x, instObj 209 dx), (dx, dictOf (dEs q1 q2 q3 u1 u2 u3 v (.ref P) cv) 3)] ++ [(P, instObj 737 dP), (dP, dictOf [⟨k1, .str "indices" t1, .ref D⟩] 1), (D, { cls := .type "tuple", data := .seq #[.int (k : Int) t'] })] := hq
    rcases List.mem_append.mp hq with hq | hq
    · exact ⟨st _ _ (N q hq).2 (N q hq).1, none_back E' (N q hq).2⟩
    · exact ⟨kp _ _ (r q hq).2 (r q hq).1, none_back E (r q hq).2⟩⟩) f
theorem isLst_of {bb : Bool} {l : Addr} {ys : Array Value} {nl : Nat} {h : Heap} (h1 : bb = true → ys.size = 1) (h0 : bb = false → ys.size = 0) (e : h.get? l = some { cls := .type "list", data := .seq ys nl }) : IsLst bb (.ref l) h := by
  refine ⟨l, ys, rfl, ⟨_, e, rfl, _, rfl⟩, ?_, ?_⟩
  · cases bb with
    | true => rw [h1 rfl]; decide
    | false => rw [h0 rfl]; decide
  · cases bb with
    | true => rw [h1 rfl]; rfl
    | false => rw [h0 rfl]; rfl
theorem hit_of {vs : Array Value} {i : Nat} {nn : Int} {tn : Tok} {bb : Bool} (hv : vs[i]? = some (.int nn tn)) (hb : decide (2 ≤ nn) = bb) : hit vs i = bb := by
  unfold hit
  rw [hv]
  exact hb
theorem one_of {l : List (Addr × Obj)} {a : Addr} (e : l.map (·.1) = [a]) : ∃ o, l = [(a, o)] := by
  cases l with
  | nil => cases e
  | cons q r =>
    cases r with
    | nil => obtain ⟨x, o⟩ := q; cases e; exact ⟨o, rfl⟩
    | cons q' r' => cases e
theorem off_tab {b h : Heap} {L : Addr} {l : List (Addr × Obj)} {ps : Array Value} (N : News b L h l) (ht : h.get? 823 = some (tabO ps)) (hne : ∀ q ∈ l, q.2 ≠ tabO ps) : ∀ q ∈ l, q.1 ≠ 823 := fun q hq e => hne q hq (by have := (N q hq).1; rw [e, ht] at this; exact (Option.some.inj this).symm)
theorem cell_ne {o : Obj} {v : Option Value} {ps : Array Value} (d : o.data = .cell v) : o ≠ tabO ps := by rintro rfl; cases d
theorem news_app {b h : Heap} {L : Addr} {l r : List (Addr × Obj)} (M : News b L h l) (N : News b L h r) : News b L h (l ++ r) := fun q hq => (List.mem_append.mp hq).elim (M q) (N q)
def AllNe (a : Nat) : List (Addr × Obj) → Prop
  | [] => True
  | q :: r => @Ne Nat q.1 a ∧ AllNe a r
theorem allNe_of {a : Nat} : ∀ {l : List (Addr × Obj)}, (∀ q ∈ l, q.1 ≠ a) → AllNe a l
  | [], _ => trivial
  | q :: r, h => ⟨h q (.head _), allNe_of fun x hx => h x (.tail _ hx)⟩
theorem News.sub {b h : Heap} {L : Addr} {l news : List (Addr × Obj)} (N : News b L h news) (hs : ∀ q ∈ l, q ∈ news) : News b L h l := fun q hq => N q (hs q hq)
theorem cellPack {g h : Heap} {C c : Addr} {news l : List (Addr × Obj)} {o : Obj} {v : Value} (N : News g C h news) (d : o.data = .cell (some v)) (hm : (c, o) ∈ news) (hs : ∀ q ∈ l, q ∈ news) : ∃ o', o'.data = .cell (some v) ∧ News g C h ((c, o') :: l) :=
  ⟨o, d, fun q hq => by
    rcases List.mem_cons.mp hq with rfl | hq
    · exact N _ hm
    · exact N q (hs q hq)⟩
theorem GenReady.far {s₁ : Shared} {g h₆ : Heap} {ga C' I' XL : Addr} (GR : GenReady s₁ h₆ ga C' I' XL) (FK : Ext g s₁.heap) {x : Addr} {o : Obj} (e : g.get? x = some o) : x ≠ C' ∧ x ∉ [I'] :=
  ⟨(fun h => by have := FK _ _ e; rw [h, GR.nC] at this; cases this), (fun h => by have := FK _ _ e; rw [List.mem_singleton.mp h, GR.nI] at this; cases this)⟩
theorem GenReady.elt {s₁ : Shared} {g h₆ h₂ : Heap} {C ga C' I' XL : Addr} {SL : List (Addr × Obj)} {m m₂ : Str → Option Value} (GR : GenReady s₁ h₆ ga C' I' XL) (F : Fr g C s₁.heap m) (NS : News g C s₁.heap SL) (n8 : ∀ q ∈ SL, q.1 ≠ 823) (b8 : g.get? 823 = none) (hns : h₂.Ns C' m₂)
    (off : ∀ b o, b ≠ C' → b ∉ [I'] → h₆.get? b = some o → h₂.get? b = some o) : Fr g C' h₂ m₂ ∧ News g C' h₂ (SL ++ Rst g C' h₂) := by
  have k : Ext g h₂ := fun x o e => off x o (GR.far F.keep e).1 (GR.far F.keep e).2 (GR.keep x o (fun h => by rw [h, b8] at e; cases e) (F.keep x o e))
  refine ⟨⟨hns, k, Nat.le_trans F.above (Nat.le_trans (Nat.le_of_lt F.ns.lt) GR.up)⟩, Rst.news (L := C') fun q hq => ?_⟩
  have e := NS q hq
  have f := GR.far (g := s₁.heap) (fun _ _ e => e) e.1
  exact ⟨off _ _ f.1 f.2 (GR.keep _ _ (n8 q hq) e.1), f.1, e.2.2⟩
theorem Back.ext8 {g h' h'' : Heap} {L : Addr} {m : Str → Option Value} {l news : List (Addr × Obj)} (B : Back g h' l) (F : Fr g L h'' m) (N : News g L h'' news) (hl : ∀ q ∈ l, q ∈ news ∨ q.1 = 823) : ∀ x o, x ≠ 823 → h'.get? x = some o → h''.get? x = some o := fun a o h8 e => by
  obtain ⟨rfl, N₀⟩ := B
  by_cases hm : a ∈ l.map (·.1)
  · obtain ⟨q, hq, rfl⟩ := List.mem_map.mp hm
    rw [N₀ q hq] at e
    cases e
    rcases hl q hq with h1 | h1
    · exact (N q h1).1
    · exact absurd h1 h8
  · exact F.keep a o (hideAll_get _ e hm)
theorem fr_id {b h : Heap} {L : Addr} {m : Str → Option Value} (F : Fr b L h m) : Fr b L h m := F
theorem News.of_dropLast {b h : Heap} {L : Addr} {l : List (Addr × Obj)} (N : News b L h l) : News b L h l.dropLast := fun q hq => N q (List.dropLast_subset _ hq)
theorem Back.extR {g h' h'' : Heap} {L c : Addr} {m : Str → Option Value} {l news : List (Addr × Obj)} (B : Back g h' l) (F : Fr g L h'' m) (N : News g L h'' news) (hl : ∀ q ∈ l, q ∈ news ∨ q.1 = c) : ∀ x o, x ≠ c → h'.get? x = some o → h''.get? x = some o := fun a o h8 e => by
  obtain ⟨rfl, N₀⟩ := B
  by_cases hm : a ∈ l.map (·.1)
  · obtain ⟨q, hq, rfl⟩ := List.mem_map.mp hm
    rw [N₀ q hq] at e
    cases e
    rcases hl q hq with h1 | h1
    · exact (N q h1).1
    · exact absurd h1 h8
  · exact F.keep a o (hideAll_get _ e hm)
/-- two objects that differ stand apart -/
theorem ne_of_obj {b h : Heap} {L a c : Addr} {o₁ o₂ : Obj} {l : List (Addr × Obj)} (N : News b L h l) (h1 : (a, o₁) ∈ l) (h2 : (c, o₂) ∈ l) (ho : o₁ ≠ o₂) : @Ne Nat a c := fun e => ho (Option.some.inj ((N _ h1).1.symm.trans ((congrArg h.get? e).trans (N _ h2).1)))
/-- a tuple of ints -/
abbrev tupI (ix : List (Int × Tok)) : Obj := { cls := .type "tuple", data := .seq (ix.map fun q => Value.int q.1 q.2).toArray }
/-- d is added at each place in turn -/
def bump (d : Int) : List Int → List Int → List Int
  | ns, [] => ns
  | ns, a :: r => bump d (ns.set a.toNat (ns.getD a.toNat 0 + d)) r
theorem fr_upd {g h h' : Heap} {L c : Addr} {m : Str → Option Value} {o : Obj} {news : List (Addr × Obj)} (F : Fr g L h m) (N : News g L h news) (hm : (c, o) ∈ news) (hK : ∀ x o, x ≠ c → h.get? x = some o → h'.get? x = some o) : Fr g L h' m :=
  ⟨F.ns.at' fun o e => hK _ _ (Ne.symm (N _ hm).2.1) e, fun x o e => hK x o (fun hx => by rw [hx, (N _ hm).2.2] at e; cases e) (F.keep x o e), F.above⟩
theorem news_upd {g h h' : Heap} {L c : Addr} {o o' : Obj} {news news' : List (Addr × Obj)} (N : News g L h news) (U : Upd c o o' news news') (hK : ∀ x o, x ≠ c → h.get? x = some o → h'.get? x = some o) (hG : h'.get? c = some o') : News g L h' news' := by
  obtain ⟨pre, post, rfl, rfl, a, b⟩ := U.split
  intro q hq
  rcases List.mem_append.mp hq with hq | hq
  · have := N q (List.mem_append_left _ hq); exact ⟨hK _ _ (a q hq) this.1, this.2⟩
  · rcases List.mem_cons.mp hq with rfl | hq
    · exact ⟨hG, (N (c, o) (List.mem_append_right _ (.head _))).2⟩
    · have := N q (List.mem_append_right _ (List.mem_cons_of_mem _ hq)); exact ⟨hK _ _ (b q hq) this.1, this.2⟩
theorem entry_callable : entryFor table "callable" = some Builtin.«callable» := entryFor_of_tree (by kernel_rfl)
theorem kind_callable : builtinKind "callable" = none := by kernel_rfl
theorem plain_callable : plainId "callable" = true := by decide +kernel
theorem args_callable (a : Value) : argsOk "callable" ⟨[a], []⟩ := by unfold argsOk; kernel_rfl
theorem run_callable {prog : Program} {w : World} {A : Around} {E Q : Value → Shared → Prop} {s : Shared} {K : Frag} {v x : Value} (X : K.In s.heap) (hs : specialIn K v "__call__" = some (some x)) (h : Q (.bool true) s) :
    wpAny (model prog w) A (call (.builtin "callable") [v]) Q E s := by
  refine Calls.call_function_entry kind_callable plain_callable entry_callable (args_callable _) ?_
  unfold Builtin.«callable»
  refine wpAny_bind (m := oneArg "callable" _) (wpAny_pure ?_)
  refine wpAny_bind ((looks_specialIn (M := model prog w) X hs).at ?_)
  exact wpAny_pure ⟨_, rfl, h⟩
theorem ne_seq_dict {c : Value} {vs : Array Value} {k : Nat} {es : List DictEntry} {n : Nat} : ({ cls := c, data := .seq vs k } : Obj) ≠ dictOf es n := fun e => by have := congrArg Obj.data e; cases this
theorem ne_inst_seq {C d : Addr} {vs : Array Value} {k : Nat} : ({ cls := .type "list", data := .seq vs k } : Obj) ≠ instObj C d := fun e => by have := congrArg Obj.data e; cases this
theorem ne_list_tuple {vs ws : Array Value} {k l : Nat} : ({ cls := .type "list", data := .seq vs k } : Obj) ≠ { cls := .type "tuple", data := .seq ws l } := fun e => absurd (Value.type.inj (congrArg Obj.cls e)) (by decide)
/-- the entries of a Child's dict -/
abbrev cEs (k1 k2 : Int) (t1 t2 : Nat) (F X : Addr) : List DictEntry := [⟨k1, .str "left" t1, .ref F⟩, ⟨k2, .str "right" t2, .ref X⟩]
theorem ne_seq_isdict {prog : Program} {w : World} {kvs : List (Str × Value)} {o : Obj} {c : Value} {vs : Array Value} {k : Nat} (hd : o.IsDictOf (strKind prog w) kvs) : ({ cls := c, data := .seq vs k } : Obj) ≠ o := by
  rintro rfl
  obtain ⟨es, n, _, e, _⟩ := hd
  cases e
theorem ne_isdict_inst {prog : Program} {w : World} {kvs : List (Str × Value)} {o : Obj} {C d : Addr} (hd : o.IsDictOf (strKind prog w) kvs) : o ≠ instObj C d := by
  rintro rfl
  obtain ⟨es, n, _, e, _⟩ := hd
  cases e
theorem ne_isdict_seq {prog : Program} {w : World} {kvs : List (Str × Value)} {o : Obj} {c : Value} {vs : Array Value} {k : Nat} (hd : o.IsDictOf (strKind prog w) kvs) : o ≠ { cls := c, data := .seq vs k } := fun e => ne_seq_isdict hd e.symm
theorem isdict_get {prog : Program} {w : World} {A : Around} {E : Value → Shared → Prop} {s : Shared} {kvs : List (Str × Value)} {o : Obj} {d : Addr} {t : Tok} {Q : Value → Shared → Prop} (hd : o.IsDictOf (strKind prog w) kvs) (e : s.heap.get? d = some o) (h : ∀ h' tk, (∀ b o, s.heap.get? b = some o → h'.get? b = some o) → Q (.bool true) { s with heap := h', toks := tk }) :
    wpAny (model prog w) A (call (.builtin "hasattr") [.ref d, .str "get" t]) Q E s := by
  obtain ⟨es, n, hc, e1, _⟩ := hd
  exact hasattr_get e hc.1 hc.2.1 ⟨es, n, e1⟩ h
theorem isdict_type {prog : Program} {w : World} {A : Around} {E : Value → Shared → Prop} {s : Shared} {kvs : List (Str × Value)} {o : Obj} {d : Addr} {Q : Value → Shared → Prop} (hd : o.IsDictOf (strKind prog w) kvs) (e : s.heap.get? d = some o) (h : Q (.type "dict") s) :
    wpAny (model prog w) A (call (.type "type") [.ref d]) Q E s := by
  obtain ⟨es, n, hc, e1, _⟩ := hd
  exact kto_cont (T := "dict") ⟨o, e, hc.1⟩ (by decide +kernel) h
theorem hits_len (vs : Array Value) (i : Nat) : (hits vs i).length ≤ i := by
  unfold hits
  exact Nat.le_trans (List.length_filter_le _ _) (Nat.le_of_eq List.length_range)
theorem fresh_back {b h h' : Heap} {C : Addr} {m : Str → Option Value} {news : List (Addr × Obj)} (hb : Ext b h) (F : Fr b C h' m) (N : News b C h' news) (hs : ∀ q ∈ Rst b C h, q ∈ news) : ∀ a, h'.get? a = none → h.get? a = none := fun a n => by
  cases e : h.get? a with
  | none => rfl
  | some o =>
    exfalso
    by_cases ha : a = C
    · obtain ⟨o, _, _, e2, _⟩ := F.ns; rw [← ha, n] at e2; cases e2
    · have := off_turn F N hb hs a o ha e; rw [n] at this; cases this
theorem HitN.back {h₀ h h' h'' : Heap} {k : Nat} {y : Value} (n : ∀ a, h.get? a = none → h₀.get? a = none) (st : ∀ a o, h.get? a = none → h'.get? a = some o → h''.get? a = some o) : HitN h h' k y → HitN h₀ h'' k y := by
  rintro ⟨x, dx, P, dP, D, k1, t1, t', v, cv, q1, q2, q3, u1, u2, u3, e, N⟩
  exact ⟨x, dx, P, dP, D, k1, t1, t', v, cv, q1, q2, q3, u1, u2, u3, e, fun q hq => ⟨st _ _ (N q hq).2 (N q hq).1, n _ (N q hq).2⟩⟩
theorem News.ne {b h : Heap} {L a : Addr} {o : Obj} {news : List (Addr × Obj)} (N : News b L h news) (hm : (a, o) ∈ news) : a ≠ L := (N _ hm).2.1
example : PySem.Challenge.rw_ae5016_01 = PySem.Challenge.rw_ae5016_01 → K = K → True := by
  k_fill
  intro _ _; trivial
local macro_rules | `(tactic| k_room) => `(tactic| ((try simp only [depth_make, depth_under_make, depth_under_kw, depth_in1, depth_deeper, limit_is]); omega))
local macro_rules | `(tactic| k_inst) => `(tactic| exact inst_of (by k_asm) (by assumption) (by assumption))
local macro_rules | `(tactic| walk_at "mine walk") => `(tactic| ((try dsimp only); (try k_unmd); (try k_fold); repeat' (first | (k_unfold; (try dsimp only)) | walk1 | (dsimp only; walk1))))
local macro_rules | `(tactic| k_ne) => `(tactic| first | (refine neN ?_; (try dsimp only); omega) | exact Apart.ne (by with_reducible assumption) (by k_memK) | exact (Apart.ne (by with_reducible assumption) (by k_memK)).symm)
local macro_rules | `(tactic| k_handed) => `(tactic| first | assumption | rfl)
local macro_rules | `(tactic| walk_at "mine ext") => `(tactic| first | exact List.forall_mem_nil _ | ((refine List.forall_mem_cons.mpr (And.intro ?x ?_)); (case x => first | exact Or.inl (by k_memK) | exact Or.inr (by assumption)); walk_at "mine ext"))
local macro_rules | `(tactic| walk_at "mine ne") => `(tactic| first | exact List.forall_mem_nil _ | ((refine List.forall_mem_cons.mpr (And.intro ?x ?_)); (case x => (dsimp only; omega)); walk_at "mine ne"))
local macro_rules | `(tactic| walk_at "mine new") => `(tactic| first | exact List.forall_mem_nil _ | ((refine List.forall_mem_cons.mpr (And.intro ?x ?_)); (case x => (refine And.intro (by k_memK) ?_; first | exact Or.inl (by assumption) | exact Or.inr (by walk_at "mine ne"))); walk_at "mine new"))
local macro_rules | `(tactic| walk_at "mine kn") => `(tactic| exact Kn.of (by assumption) (by k_asm) (by k_asm) (by walk_at "mine mem"))
local macro_rules | `(tactic| walk_at "mine mem") => `(tactic| first | exact List.forall_mem_nil _ | ((refine List.forall_mem_cons.mpr (And.intro (by k_memK) ?_)); walk_at "mine mem"))
local macro_rules | `(tactic| k_types) => `(tactic| exact looks_dict (by k_asm) (by k_memK) (by assumption))
local macro_rules | `(tactic| walk_at "call builtin:isinstance") => `(tactic| ((with_reducible show wpAny _ _ (call _ [Value.ref _, Value.ref _]) _ _ _); refine' isn_dict ?k1 ?k2 ?k3 ?k4 ?k5 ?_; (case k2 => k_asm); (case k3 => k_memK); (case k4 => assumption); (case k1 => k_in); (case k5 => k_not); k_whole))
local macro_rules | `(tactic| walk_at "eval Name") => `(tactic| ((with_reducible show wpAny _ _ (eval (Expr.Name _ _) (compEnvC _ _ _ _)) _ _ _); k_dflt (first
  | (refine' blk_local ?F ?v ?_ ?a ?b; (case a => rfl); (case b => rfl); (case F => k_asm); (case v => rfl); k_whole)
  | (refine' lcf_cell ?N ?c ?m ?d ?_ ?a ?b; (case a => rfl); (case b => rfl); (case N => k_asm); (case c => rfl); (case m => k_mem); (case d => k_asm); k_whole)
  | (refine' lcf_free ?N ?c ?m ?d ?_ ?a ?b; (case a => rfl); (case b => rfl); (case N => k_asm); (case c => rfl); (case m => k_mem); (case d => k_asm); k_whole)
  | (refine' blk_global ?F ?X ?T ?e ?_ ?g ?a ?b; (case a => rfl); (case b => rfl); (case g => rfl); (case F => k_asm); (case X => k_asm); (case T => k_asm); (case e => k_is); k_whole)
  | (refine' blk_builtin ?F ?X ?T ?e ?v ?n ?_ ?g ?gb ?a ?b; (case a => rfl); (case b => rfl); (case g => rfl); (case gb => rfl); (case F => k_asm); (case X => k_asm); (case T => k_asm); (case e => k_is); (case v => boot_fast); (case n => decide); k_whole))))
local macro_rules | `(tactic| walk_at "storeName") => `(tactic| ((with_reducible show wpAny _ _ (storeName (compEnvC _ _ _ _) _ _) _ _ _); k_dflt (refine' blk_store ?F ?N ?_ ?a ?b; (case F => k_asm); (case N => k_asm); (case a => rfl); (case b => rfl); k_whole; intro h' F' N'; (try k_sweep))))
local macro_rules | `(tactic| k_all) => `(tactic| first | exact RstL.ne (List.Mem.tail _ (List.mem_append_left _ (List.Mem.head _))) | exact RstL.ne (List.Mem.tail _ (List.mem_append_right _ (List.Mem.head _))))
local macro_rules | `(tactic| walk_at "storeName") => `(tactic| ((with_reducible show wpAny _ _ (storeName (compEnvC _ _ _ _) _ _) _ _ _); k_dflt (refine' blk_storeC ?F ?N ?c ?U ?d ?_ ?a ?b; (case a => rfl); (case b => rfl); (case F => k_asm); (case N => k_asm); (case c => rfl); (case U => k_updF); (case d => k_asm); k_whole; intro h' o' F' N' d'; (try dsimp only at N'); (try k_sweep))))
local macro_rules | `(tactic| walk_at "eval Name") => `(tactic| ((with_reducible show wpAny _ _ (eval (Expr.Name _ _) (genEnv _ _ _ _ _ _)) _ _ _); k_dflt (first
  | (refine' gen_local ?F ?v ?_ ?a ?b; (case a => rfl); (case b => rfl); (case F => k_asm); (case v => rfl); k_whole)
  | (refine' gen_free ?N ?c ?m ?d ?_ ?a ?b; (case a => rfl); (case b => rfl); (case N => k_asm); (case c => rfl); (case m => k_mem); (case d => k_asm); k_whole))))
local macro_rules | `(tactic| walk_at "mine own") => `(tactic| first | exact (fun _ h => absurd h List.not_mem_nil) | (intro c hc; rw [List.mem_singleton.mp hc]; exact ⟨_, by k_memK⟩) | (intro c hc; rw [List.mem_singleton.mp hc]; exact ⟨_, _, by k_memK, by with_reducible assumption⟩) | (intro c hc; rcases List.mem_cons.mp hc with hc | hc; (rw [hc]; exact ⟨_, by k_memK⟩); (rw [List.mem_singleton.mp hc]; exact ⟨_, by k_memK⟩)))
local macro_rules | `(tactic| walk_at "mine rst") => `(tactic| (intro q hq; repeat (first | exact hq | refine List.Mem.tail _ ?_)))
local macro_rules | `(tactic| walk_at "mine last") => `(tactic| first | with_reducible assumption | (with_reducible apply And.right; first | with_reducible assumption | (with_reducible apply And.right; first | with_reducible assumption | (with_reducible apply And.right; first | with_reducible assumption | (with_reducible apply And.right; first | with_reducible assumption | (with_reducible apply And.right; first | with_reducible assumption | (with_reducible apply And.right; first | with_reducible assumption | (with_reducible apply And.right; first | with_reducible assumption | (with_reducible apply And.right; first | with_reducible assumption | (with_reducible apply And.right; first | with_reducible assumption | (with_reducible apply And.right; first | with_reducible assumption | (with_reducible apply And.right; first | with_reducible assumption | (with_reducible apply And.right; first | with_reducible assumption | (with_reducible apply And.right; first | with_reducible assumption | (with_reducible apply And.right; first | with_reducible assumption | (with_reducible apply And.right; first | with_reducible assumption | (with_reducible apply And.right; first | with_reducible assumption | (with_reducible apply And.right; first | with_reducible assumption | (with_reducible apply And.right; first | with_reducible assumption | (with_reducible apply And.right; first | with_reducible assumption | (with_reducible apply And.right; first | with_reducible assumption | (with_reducible apply And.right; first | with_reducible assumption | (with_reducible apply And.right; first | with_reducible assumption | (with_reducible apply And.right; first | with_reducible assumption | (with_reducible apply And.right; first | with_reducible assumption | (with_reducible apply And.right; first | with_reducible assumption | (with_reducible apply And.right; first | with_reducible assumption | (with_reducible apply And.right; first | with_reducible assumption | (with_reducible apply And.right; first | with_reducible assumption | (with_reducible apply And.right; with_reducible assumption))))))))))))))))))))))))))))))
local macro_rules | `(tactic| walk_at "mine cne") => `(tactic| first | exact (fun _ h => absurd h List.not_mem_nil) | (intro c hc; rw [List.mem_singleton.mp hc]; k_ne))
local macro_rules | `(tactic| walk_at "mine new'") => `(tactic| first | exact List.forall_mem_nil _ | ((refine List.forall_mem_cons.mpr (And.intro (And.intro (by k_memK) (by first | assumption | exact BlkL.push (by with_reducible assumption) (by k_asm) (by k_memK) (by walk_at "mine last") (by walk_at "mine cne"))) ?_)); walk_at "mine new'"))
local macro_rules | `(tactic| walk_at "exec Assign cons ListComp") => `(tactic| (with_reducible show wpAny _ _ (exec (Stmt.Assign _ (Expr.ListComp _ [⟨Expr.Tuple _ _ _, _, _, _⟩] _ _) _) _) _ _ _; refine' lc2_assign ?hsw ?hclos ?hkind ?hnames ?hy ?hp ?_ ?hs; (case hsw => with_unfolding_all rfl); (case hclos => with_unfolding_all rfl); (case hkind => with_unfolding_all rfl); (case hnames => decide); (case hy => with_unfolding_all rfl); (case hp => with_unfolding_all rfl); (case hs => intro _; with_unfolding_all rfl)))
local macro_rules | `(tactic| walk_at "eval ListComp") => `(tactic| (with_reducible show wpAny _ _ (eval (Expr.ListComp _ [⟨Expr.Tuple _ _ _, _, _, _⟩] _ _) _) _ _ _; refine' lc2_eval ?hclos ?hkind ?hnames ?_ ?hs; (case hclos => with_unfolding_all rfl); (case hkind => with_unfolding_all rfl); (case hnames => decide); (case hs => intro _; with_unfolding_all rfl)))
local macro_rules | `(tactic| walk_at "exec Assign cons ListComp") => `(tactic| (with_reducible show wpAny _ _ (exec (Stmt.Assign _ (Expr.ListComp _ [⟨Expr.Name _ _, _, _, _⟩] _ _) _) _) _ _ _; refine' lc_assign ?hsw ?hclos ?hcell ?hkind ?hnames ?hy ?hp ?_ ?hs; (case hsw => with_unfolding_all rfl); (case hclos => with_unfolding_all rfl); (case hcell => decide); (case hkind => with_unfolding_all rfl); (case hnames => decide); (case hy => with_unfolding_all rfl); (case hp => with_unfolding_all rfl); (case hs => intro _; with_unfolding_all rfl)))
local macro_rules | `(tactic| walk_at "eval ListComp") => `(tactic| (with_reducible show wpAny _ _ (eval (Expr.ListComp _ [⟨Expr.Name _ _, _, _, _⟩] _ _) _) _ _ _; refine' lc_eval ?hclos ?hcell ?hkind ?hnames ?_ ?hs; (case hclos => with_unfolding_all rfl); (case hcell => decide); (case hkind => with_unfolding_all rfl); (case hnames => decide); (case hs => intro _; with_unfolding_all rfl)))
local macro_rules | `(tactic| walk_at "call ref") => `(tactic| (first | (refine wpAny_call ?_; walk_at "mine code") | (refine' call_meth ?N ?q ?_; (case N => k_asm); (case q => k_mem); walk_at "mine code")))
section
local macro_rules | `(tactic| walk_at "mine code") => `(tactic| ((with_reducible show codeAny _ _ (Code.call (Value.ref 209) ⟨[_], []⟩) _ _); (refine datum0 (Gd.at (by assumption) (by k_asm)) (by k_room) ?_); (intro x' dx' t' dt' es' h' tk'  hE' hW' he'); (obtain ⟨k1', k2', k3', t1', t2', t3', he2'⟩ := he'); (subst he2'); (try dsimp only at  hE' hW'); (try ((first | (have fr' := BlkL.fresh (by with_reducible assumption) (by k_asm) (by k_asm) (by walk_at "mine own") (by walk_at "mine rst") hW') | (have fr' := Blk.fresh (by with_reducible assumption) (by k_asm) (by k_asm) (by walk_at "mine rst") hW') | (have fr' := New.fresh hW' (Back.ext (by with_reducible assumption) (by with_reducible assumption) (by k_asm) (by k_asm) (by walk_at "mine ext")))); simp only [List.forall_mem_cons] at fr'; obtain ⟨fr1', fr2', fr3', fr4', fr9'⟩ := fr')); (have ap' := New.apart (by k_asm) hW'); (simp only [List.forall_mem_cons] at ap'); (obtain ⟨ap1', ap2', ap3', ap4', ap9'⟩ := ap'); (have hF' := Fr.keeps (by k_asm) hE'); (have hN' := back_news (by k_asm) (by k_asm) hE' hW'); (try simp only [List.cons_append, List.nil_append] at hN'); (try k_sweep); (try dsimp only)))
local macro_rules | `(tactic| walk_at "mine code") => `(tactic| ((with_reducible show codeAny _ _ (Code.call (Value.ref 209) ⟨[_], List.zip _ _⟩) _ _); (refine datum2 (by first | exact Or.inl rfl | exact Or.inr rfl) (Gd.at (by assumption) (by k_asm)) (by k_room) (News.get (by k_asm) (by k_memK)) (News.get (by k_asm) (by k_memK)) (News.get (by k_asm) (by k_memK)) (News.get (by k_asm) (by k_memK)) ?_); (intro x' dx' es' h' tk'  hE' hW' he'); (obtain ⟨k1', k2', k3', t1', t2', t3', he2'⟩ := he'); (subst he2'); (try dsimp only at  hE' hW'); (try ((first | (have fr' := BlkL.fresh (by with_reducible assumption) (by k_asm) (by k_asm) (by walk_at "mine own") (by walk_at "mine rst") hW') | (have fr' := Blk.fresh (by with_reducible assumption) (by k_asm) (by k_asm) (by walk_at "mine rst") hW') | (have fr' := New.fresh hW' (Back.ext (by with_reducible assumption) (by with_reducible assumption) (by k_asm) (by k_asm) (by walk_at "mine ext")))); simp only [List.forall_mem_cons] at fr'; obtain ⟨fr1', fr2', fr9'⟩ := fr')); (have ap' := New.apart (by k_asm) hW'); (simp only [List.forall_mem_cons] at ap'); (obtain ⟨ap1', ap2', ap9'⟩ := ap'); (have hF' := Fr.keeps (by k_asm) hE'); (have hN' := back_news (by k_asm) (by k_asm) hE' hW'); (try simp only [List.cons_append, List.nil_append] at hN'); (try k_sweep); (try dsimp only)))
local macro_rules | `(tactic| walk_at "mine code") => `(tactic| ((with_reducible show codeAny _ _ (Code.call (Value.ref 638) _) _ _); (refine fields_new (by first | assumption | exact Or.inl rfl | exact Or.inr (Or.inl rfl) | exact Or.inr (Or.inr rfl)) (by walk_at "mine kn") (by k_room) ?_); (intro x' dx' D' es' h' tk' lo1' lo2' lo3' hE' hW' he'); (obtain ⟨k1', k2', t1', t2', he2'⟩ := he'); (subst he2'); (try dsimp only at lo1' lo2' lo3' hE' hW'); (have hl' := news_lt (by with_reducible assumption)); (try simp only [AllLt] at hl'); (try ((first | (have fr' := BlkL.fresh (by with_reducible assumption) (by k_asm) (by k_asm) (by walk_at "mine own") (by walk_at "mine rst") hW') | (have fr' := Blk.fresh (by with_reducible assumption) (by k_asm) (by k_asm) (by walk_at "mine rst") hW') | (have fr' := New.fresh hW' (Back.ext (by with_reducible assumption) (by with_reducible assumption) (by k_asm) (by k_asm) (by walk_at "mine ext")))); simp only [List.forall_mem_cons] at fr'; obtain ⟨fr1', fr2', fr3', fr9'⟩ := fr')); (have ap' := New.apart (by k_asm) hW'); (simp only [List.forall_mem_cons] at ap'); (obtain ⟨ap1', ap2', ap3', ap9'⟩ := ap'); (have hF' := Fr.keeps (by k_asm) hE'); (have hN' := back_news (by k_asm) (by k_asm) hE' hW'); (try simp only [List.cons_append, List.nil_append] at hN'); (try k_sweep); (try dsimp only)))
local macro_rules | `(tactic| walk_at "mine code") => `(tactic| ((with_reducible show codeAny _ _ (Code.call (Value.ref 533) _) _ _); (refine compliant (by first | assumption | exact Or.inl rfl | exact Or.inr (Or.inl rfl) | exact Or.inr (Or.inr rfl)) (by walk_at "mine kn") (by k_room) ?_); (intro x' dx' D' es' h' tk'  hE' hW' he'); (obtain ⟨k1', k2', t1', t2', he2'⟩ := he'); (subst he2'); (try dsimp only at  hE' hW'); (try ((first | (have fr' := BlkL.fresh (by with_reducible assumption) (by k_asm) (by k_asm) (by walk_at "mine own") (by walk_at "mine rst") hW') | (have fr' := Blk.fresh (by with_reducible assumption) (by k_asm) (by k_asm) (by walk_at "mine rst") hW') | (have fr' := New.fresh hW' (Back.ext (by with_reducible assumption) (by with_reducible assumption) (by k_asm) (by k_asm) (by walk_at "mine ext")))); simp only [List.forall_mem_cons] at fr'; obtain ⟨fr1', fr2', fr3', fr9'⟩ := fr')); (have ap' := New.apart (by k_asm) hW'); (simp only [List.forall_mem_cons] at ap'); (obtain ⟨ap1', ap2', ap3', ap9'⟩ := ap'); (have hF' := Fr.keeps (by k_asm) hE'); (have hN' := back_news (by k_asm) (by k_asm) hE' hW'); (try simp only [List.cons_append, List.nil_append] at hN'); (try k_sweep); (try dsimp only)))
local macro_rules | `(tactic| walk_at "getAttr ref") => `(tactic| ((with_reducible show wpAny _ _ (getAttr (Value.ref _) (PySem.Str.ofString "value") _) _ _ _); (refine get_value (by k_asm) (by assumption) (by k_room) (by k_inst) (by k_handed) ?_); (intro h' tk' hE'); (try dsimp only at hE'); (have hF' := Fr.keeps (by k_asm) hE'); (have hN' := News.grown (by k_asm) hE'); (try k_sweep)))
section
variable {prog : Program} {w : World} {A : Around} {s : Shared} {p : Program} {loose : List Str} {mg mb : Str → Option Value} {R : Result → Shared → Prop}

/-- DatumInContext.wrap of what is no datum -/
theorem wrap_int {b : Heap} {k : Int} {t : Tok} (H : Kn w p loose mg mb b s.heap []) (hroom : A.depth + 20 ≤ 900)
    (h : ∀ x dx t' dt es h' tk, Ext s.heap h' → New s.heap h' [(x, instObj 209 dx), (dx, dictOf es 3), (t', instObj 333 dt), (dt, dictOf [] 0)] →
      (∃ k1 k2 k3 t1 t2 t3, es = dEs k1 k2 k3 t1 t2 t3 (.int k t) (.ref t') .none) → R (.ok (.ret (.ref x))) { s with heap := h', toks := tk }) :
    codeAny (model prog w) A (.call (.ref 158) ⟨[.ref 209, .int k t], []⟩) R s := by
  refine enterK H [("cls", .ref 209), ("data", .int k t)] (by k_room) ?_
  intro g L' h₁ tk B G F N
  have X := G.X
  have T := G.T
  have EB := Ext.refl s.heap
  walk_at "mine walk"
  exact h _ _ _ _ _ _ _ (B.ext EB (by assumption) (by assumption) (by walk_at "mine ext")) (B.new EB (by assumption) (by assumption) (by walk_at "mine new")) ⟨_, _, _, _, _, _, rfl⟩
theorem wrap_doc {b : Heap} {d : Addr} {o : Obj} {kvs : List (Str × Value)} (hd : o.IsDictOf (strKind prog w) kvs) (H : Kn w p loose mg mb b s.heap [(d, o)]) (hroom : A.depth + 20 ≤ 900)
    (h : ∀ x dx t' dt es h' tk, Ext s.heap h' → New s.heap h' [(x, instObj 209 dx), (dx, dictOf es 3), (t', instObj 333 dt), (dt, dictOf [] 0)] →
      (∃ k1 k2 k3 t1 t2 t3, es = dEs k1 k2 k3 t1 t2 t3 (.ref d) (.ref t') .none) → R (.ok (.ret (.ref x))) { s with heap := h', toks := tk }) :
    codeAny (model prog w) A (.call (.ref 158) ⟨[.ref 209, .ref d], []⟩) R s := by
  refine enterK H [("cls", .ref 209), ("data", .ref d)] (by k_room) ?_
  intro g L' h₁ tk B G F N
  have X := G.X
  have T := G.T
  have EB := Ext.refl s.heap
  walk_at "mine walk"
  exact h _ _ _ _ _ _ _ (B.ext EB (by assumption) (by assumption) (by walk_at "mine ext")) (B.new EB (by assumption) (by assumption) (by walk_at "mine new")) ⟨_, _, _, _, _, _, rfl⟩
theorem wrap_datum {b : Heap} {x dx : Addr} {v pv cv : Value} {k1 k2 k3 : Int} {t1 t2 t3 n : Nat} (H : Kn w p loose mg mb b s.heap [(x, instObj 209 dx), (dx, dictOf (dEs k1 k2 k3 t1 t2 t3 v pv cv) n)]) (hroom : A.depth + 20 ≤ 900)
    (h : ∀ h' tk, Ext s.heap h' → R (.ok (.ret (.ref x))) { s with heap := h', toks := tk }) :
    codeAny (model prog w) A (.call (.ref 158) ⟨[.ref 209, .ref x], []⟩) R s := by
  refine enterK H [("cls", .ref 209), ("data", .ref x)] (by k_room) ?_
  intro g L' h₁ tk B G F N
  have X := G.X
  have T := G.T
  have EB := Ext.refl s.heap
  walk_at "mine walk"
  exact h _ _ (B.ext EB (by assumption) (by assumption) (by walk_at "mine ext"))
end
end

section
local macro_rules | `(tactic| walk_at "mine code") => `(tactic| ((with_reducible show codeAny _ _ (Code.call (Value.ref 209) ⟨[_], []⟩) _ _); (refine datum0 (Gd.at (by assumption) (by k_asm)) (by k_room) ?_); (intro x' dx' t' dt' es' h' tk'  hE' hW' he'); (obtain ⟨k1', k2', k3', t1', t2', t3', he2'⟩ := he'); (subst he2'); (try dsimp only at  hE' hW'); (try ((first | (have fr' := BlkL.fresh (by with_reducible assumption) (by k_asm) (by k_asm) (by walk_at "mine own") (by walk_at "mine rst") hW') | (have fr' := Blk.fresh (by with_reducible assumption) (by k_asm) (by k_asm) (by walk_at "mine rst") hW') | (have fr' := New.fresh hW' (Back.ext (by with_reducible assumption) (by with_reducible assumption) (by k_asm) (by k_asm) (by walk_at "mine ext")))); simp only [List.forall_mem_cons] at fr'; obtain ⟨fr1', fr2', fr3', fr4', fr9'⟩ := fr')); (have ap' := New.apart (by k_asm) hW'); (simp only [List.forall_mem_cons] at ap'); (obtain ⟨ap1', ap2', ap3', ap4', ap9'⟩ := ap'); (have hF' := Fr.keeps (by k_asm) hE'); (have hN' := back_news (by k_asm) (by k_asm) hE' hW'); (try simp only [List.cons_append, List.nil_append] at hN'); (try k_sweep); (try dsimp only)))
local macro_rules | `(tactic| walk_at "mine code") => `(tactic| ((with_reducible show codeAny _ _ (Code.call (Value.ref 209) ⟨[_], List.zip _ _⟩) _ _); (refine datum2 (by first | exact Or.inl rfl | exact Or.inr rfl) (Gd.at (by assumption) (by k_asm)) (by k_room) (News.get (by k_asm) (by k_memK)) (News.get (by k_asm) (by k_memK)) (News.get (by k_asm) (by k_memK)) (News.get (by k_asm) (by k_memK)) ?_); (intro x' dx' es' h' tk'  hE' hW' he'); (obtain ⟨k1', k2', k3', t1', t2', t3', he2'⟩ := he'); (subst he2'); (try dsimp only at  hE' hW'); (try ((first | (have fr' := BlkL.fresh (by with_reducible assumption) (by k_asm) (by k_asm) (by walk_at "mine own") (by walk_at "mine rst") hW') | (have fr' := Blk.fresh (by with_reducible assumption) (by k_asm) (by k_asm) (by walk_at "mine rst") hW') | (have fr' := New.fresh hW' (Back.ext (by with_reducible assumption) (by with_reducible assumption) (by k_asm) (by k_asm) (by walk_at "mine ext")))); simp only [List.forall_mem_cons] at fr'; obtain ⟨fr1', fr2', fr9'⟩ := fr')); (have ap' := New.apart (by k_asm) hW'); (simp only [List.forall_mem_cons] at ap'); (obtain ⟨ap1', ap2', ap9'⟩ := ap'); (have hF' := Fr.keeps (by k_asm) hE'); (have hN' := back_news (by k_asm) (by k_asm) hE' hW'); (try simp only [List.cons_append, List.nil_append] at hN'); (try k_sweep); (try dsimp only)))
local macro_rules | `(tactic| walk_at "mine code") => `(tactic| ((with_reducible show codeAny _ _ (Code.call (Value.ref 638) _) _ _); (refine fields_new (by first | assumption | exact Or.inl rfl | exact Or.inr (Or.inl rfl) | exact Or.inr (Or.inr rfl)) (by walk_at "mine kn") (by k_room) ?_); (intro x' dx' D' es' h' tk' lo1' lo2' lo3' hE' hW' he'); (obtain ⟨k1', k2', t1', t2', he2'⟩ := he'); (subst he2'); (try dsimp only at lo1' lo2' lo3' hE' hW'); (have hl' := news_lt (by with_reducible assumption)); (try simp only [AllLt] at hl'); (try ((first | (have fr' := BlkL.fresh (by with_reducible assumption) (by k_asm) (by k_asm) (by walk_at "mine own") (by walk_at "mine rst") hW') | (have fr' := Blk.fresh (by with_reducible assumption) (by k_asm) (by k_asm) (by walk_at "mine rst") hW') | (have fr' := New.fresh hW' (Back.ext (by with_reducible assumption) (by with_reducible assumption) (by k_asm) (by k_asm) (by walk_at "mine ext")))); simp only [List.forall_mem_cons] at fr'; obtain ⟨fr1', fr2', fr3', fr9'⟩ := fr')); (have ap' := New.apart (by k_asm) hW'); (simp only [List.forall_mem_cons] at ap'); (obtain ⟨ap1', ap2', ap3', ap9'⟩ := ap'); (have hF' := Fr.keeps (by k_asm) hE'); (have hN' := back_news (by k_asm) (by k_asm) hE' hW'); (try simp only [List.cons_append, List.nil_append] at hN'); (try k_sweep); (try dsimp only)))
local macro_rules | `(tactic| walk_at "mine code") => `(tactic| ((with_reducible show codeAny _ _ (Code.call (Value.ref 533) _) _ _); (refine compliant (by first | assumption | exact Or.inl rfl | exact Or.inr (Or.inl rfl) | exact Or.inr (Or.inr rfl)) (by walk_at "mine kn") (by k_room) ?_); (intro x' dx' D' es' h' tk'  hE' hW' he'); (obtain ⟨k1', k2', t1', t2', he2'⟩ := he'); (subst he2'); (try dsimp only at  hE' hW'); (try ((first | (have fr' := BlkL.fresh (by with_reducible assumption) (by k_asm) (by k_asm) (by walk_at "mine own") (by walk_at "mine rst") hW') | (have fr' := Blk.fresh (by with_reducible assumption) (by k_asm) (by k_asm) (by walk_at "mine rst") hW') | (have fr' := New.fresh hW' (Back.ext (by with_reducible assumption) (by with_reducible assumption) (by k_asm) (by k_asm) (by walk_at "mine ext")))); simp only [List.forall_mem_cons] at fr'; obtain ⟨fr1', fr2', fr3', fr9'⟩ := fr')); (have ap' := New.apart (by k_asm) hW'); (simp only [List.forall_mem_cons] at ap'); (obtain ⟨ap1', ap2', ap3', ap9'⟩ := ap'); (have hF' := Fr.keeps (by k_asm) hE'); (have hN' := back_news (by k_asm) (by k_asm) hE' hW'); (try simp only [List.cons_append, List.nil_append] at hN'); (try k_sweep); (try dsimp only)))
local macro_rules | `(tactic| walk_at "getAttr ref") => `(tactic| ((with_reducible show wpAny _ _ (getAttr (Value.ref _) (PySem.Str.ofString "value") _) _ _ _); (refine get_value (by k_asm) (by assumption) (by k_room) (by k_inst) (by k_handed) ?_); (intro h' tk' hE'); (try dsimp only at hE'); (have hF' := Fr.keeps (by k_asm) hE'); (have hN' := News.grown (by k_asm) hE'); (try k_sweep)))
section
variable {prog : Program} {w : World} {A : Around} {s : Shared} {p : Program} {loose : List Str} {mg mb : Str → Option Value} {R : Result → Shared → Prop}

theorem get_field {b : Heap} {x dx d RL : Addr} {o : Obj} {l r : Int} {tl tr n : Nat} {pv cv : Value} {k1 k2 k3 : Int} {t1 t2 t3 t : Nat} {vs : Array Value} {nv : Nat} (hd : o.IsDictOf (strKind prog w) (docKs l r tl tr RL)) (lo : (d == sysModules) = false)
    (H : Kn w p loose mg mb b s.heap [(x, instObj 209 dx), (dx, dictOf (dEs k1 k2 k3 t1 t2 t3 (.ref d) pv cv) n), (d, o), (RL, { cls := .type "list", data := .seq vs nv })]) (hroom : A.depth + 40 ≤ 900)
    (h : ∀ y dy es f df D fs h' tk, Ext s.heap h' → New s.heap h' [(y, instObj 209 dy), (dy, dictOf es 3), (f, instObj 638 df), (df, dictOf fs 2), (D, { cls := .type "tuple", data := .seq #[.str "row" t] })] →
      (∃ k1 k2 k3 t1 t2 t3, es = dEs k1 k2 k3 t1 t2 t3 (.ref RL) (.ref f) (.ref x)) → R (.ok (.ret (.ref y))) { s with heap := h', toks := tk }) :
    codeAny (model prog w) A (.call (.ref 550) ⟨[.ref x, .str "row" t, .bool false], []⟩) R s := by
  refine enterK H [("datum", .ref x), ("field", .str "row" t), ("create", .bool false)] (by k_room) ?_
  intro g L' h₁ tk B G F N
  have X := G.X
  have T := G.T
  have EB := Ext.refl s.heap
  walk_at "mine walk"
  exact h _ _ _ _ _ _ _ _ _ (B.ext EB (by assumption) (by assumption) (by walk_at "mine ext")) (B.new EB (by assumption) (by assumption) (by walk_at "mine new")) ⟨_, _, _, _, _, _, rfl⟩
end
end

section
local macro_rules | `(tactic| walk_at "mine code") => `(tactic| ((with_reducible show codeAny _ _ (Code.call (Value.ref 158) ⟨[_, Value.ref _], []⟩) _ _); (refine wrap_doc (by assumption) (by walk_at "mine kn") (by k_room) ?_); (intro x' dx' t' dt' es' h' tk'  hE' hW' he'); (obtain ⟨k1', k2', k3', t1', t2', t3', he2'⟩ := he'); (subst he2'); (try dsimp only at  hE' hW'); (try ((first | (have fr' := BlkL.fresh (by with_reducible assumption) (by k_asm) (by k_asm) (by walk_at "mine own") (by walk_at "mine rst") hW') | (have fr' := Blk.fresh (by with_reducible assumption) (by k_asm) (by k_asm) (by walk_at "mine rst") hW') | (have fr' := New.fresh hW' (Back.ext (by with_reducible assumption) (by with_reducible assumption) (by k_asm) (by k_asm) (by walk_at "mine ext")))); simp only [List.forall_mem_cons] at fr'; obtain ⟨fr1', fr2', fr3', fr4', fr9'⟩ := fr')); (have ap' := New.apart (by k_asm) hW'); (simp only [List.forall_mem_cons] at ap'); (obtain ⟨ap1', ap2', ap3', ap4', ap9'⟩ := ap'); (have hF' := Fr.keeps (by k_asm) hE'); (have hN' := back_news (by k_asm) (by k_asm) hE' hW'); (try simp only [List.cons_append, List.nil_append] at hN'); (try k_sweep); (try dsimp only)))
local macro_rules | `(tactic| walk_at "mine code") => `(tactic| ((with_reducible show codeAny _ _ (Code.call (Value.ref 550) _) _ _); (refine get_field (by assumption) (by assumption) (by walk_at "mine kn") (by k_room) ?_); (intro x' dx' es' f' df' D' fs' h' tk'  hE' hW' he'); (obtain ⟨k1', k2', k3', t1', t2', t3', he2'⟩ := he'); (subst he2'); (try dsimp only at  hE' hW'); (try ((first | (have fr' := BlkL.fresh (by with_reducible assumption) (by k_asm) (by k_asm) (by walk_at "mine own") (by walk_at "mine rst") hW') | (have fr' := Blk.fresh (by with_reducible assumption) (by k_asm) (by k_asm) (by walk_at "mine rst") hW') | (have fr' := New.fresh hW' (Back.ext (by with_reducible assumption) (by with_reducible assumption) (by k_asm) (by k_asm) (by walk_at "mine ext")))); simp only [List.forall_mem_cons] at fr'; obtain ⟨fr1', fr2', fr3', fr4', fr5', fr9'⟩ := fr')); (have ap' := New.apart (by k_asm) hW'); (simp only [List.forall_mem_cons] at ap'); (obtain ⟨ap1', ap2', ap3', ap4', ap5', ap9'⟩ := ap'); (have hF' := Fr.keeps (by k_asm) hE'); (have hN' := back_news (by k_asm) (by k_asm) hE' hW'); (try simp only [List.cons_append, List.nil_append] at hN'); (try k_sweep); (try dsimp only)))
local macro_rules | `(tactic| walk_at "getAttr ref") => `(tactic| ((with_reducible show wpAny _ _ (getAttr (Value.ref _) (PySem.Str.ofString "value") _) _ _ _); (refine get_value (by k_asm) (by assumption) (by k_room) (by k_inst) (by k_handed) ?_); (intro h' tk' hE'); (try dsimp only at hE'); (have hF' := Fr.keeps (by k_asm) hE'); (have hN' := News.grown (by k_asm) hE'); (try k_sweep)))
section
variable {prog : Program} {w : World} {A : Around} {s : Shared} {p : Program} {loose : List Str} {mg mb : Str → Option Value} {R : Result → Shared → Prop}

theorem wildcard {b : Heap} {f df D : Addr} {v : Value} {k1 k2 : Int} {t1 t2 n : Nat} (H : Kn w p loose mg mb b s.heap [(f, instObj 638 df), (df, dictOf (fEs k1 k2 t1 t2 D) n)]) (hroom : A.depth + 10 ≤ 900)
    (h : ∀ h' tk, Ext s.heap h' → R (.ok (.ret (.bool false))) { s with heap := h', toks := tk }) :
    codeAny (model prog w) A (.call (.ref 543) ⟨[.ref f, v], []⟩) R s := by
  refine enterK H [("self", .ref f), ("value", v)] (by k_room) ?_
  intro g L' h₁ tk B G F N
  have X := G.X
  have T := G.T
  have EB := Ext.refl s.heap
  walk_at "mine walk"
  exact h _ _ (B.ext EB (by assumption) (by assumption) (by walk_at "mine ext"))
local macro_rules | `(tactic| walk_at "mine code") => `(tactic| ((with_reducible show codeAny _ _ (Code.call (Value.ref 543) _) _ _); (refine wildcard (by walk_at "mine kn") (by k_room) ?_); (intro  h' tk'  hE'  ); (try dsimp only at  hE' ); (have hF' := Fr.keeps (by k_asm) hE'); (have hN' := News.grown (by k_asm) hE'); (try k_sweep); (try dsimp only)))
theorem reified {b : Heap} {f df D : Addr} {v : Value} {k1 k2 : Int} {t1 t2 n : Nat} (H : Kn w p loose mg mb b s.heap [(f, instObj 638 df), (df, dictOf (fEs k1 k2 t1 t2 D) n)]) (hroom : A.depth + 10 ≤ 900)
    (h : ∀ h' tk, Ext s.heap h' → R (.ok (.ret (.ref D))) { s with heap := h', toks := tk }) :
    codeAny (model prog w) A (.call (.ref 560) ⟨[.ref f, v], []⟩) R s := by
  refine enterK H [("self", .ref f), ("datum", v)] (by k_room) ?_
  intro g L' h₁ tk B G F N
  have X := G.X
  have T := G.T
  have EB := Ext.refl s.heap
  walk_at "mine walk"
  exact h _ _ (B.ext EB (by assumption) (by assumption) (by walk_at "mine ext"))
local macro_rules | `(tactic| walk_at "mine code") => `(tactic| ((with_reducible show codeAny _ _ (Code.call (Value.ref 560) _) _ _); (refine reified (by walk_at "mine kn") (by k_room) ?_); (intro  h' tk'  hE'  ); (try dsimp only at  hE' ); (have hF' := Fr.keeps (by k_asm) hE'); (have hN' := News.grown (by k_asm) hE'); (try k_sweep); (try dsimp only)))
theorem find_base {b : Heap} {f df D d RL : Addr} {o : Obj} {l r : Int} {tl tr t : Nat} {k1 k2 : Int} {t1 t2 n : Nat} {vs : Array Value} {nv : Nat} (hd : o.IsDictOf (strKind prog w) (docKs l r tl tr RL)) (lo : (d == sysModules) = false)
    (H : Kn w p loose mg mb b s.heap [(f, instObj 638 df), (df, dictOf (fEs k1 k2 t1 t2 D) n), (D, { cls := .type "tuple", data := .seq #[.str "row" t] }), (d, o), (RL, { cls := .type "list", data := .seq vs nv })]) (hh : A.handled = none) (hroom : A.depth + 60 ≤ 900)
    (h : ∀ l' nl y dy es h' tk, Ext s.heap h' → New s.heap h' [(l', { cls := .type "list", data := .seq #[.ref y] nl }), (y, instObj 209 dy), (dy, dictOf es 3)] →
      (∃ f x k1 k2 k3 t1 t2 t3, es = dEs k1 k2 k3 t1 t2 t3 (.ref RL) (.ref f) (.ref x)) → R (.ok (.ret (.ref l'))) { s with heap := h', toks := tk }) :
    codeAny (model prog w) A (.call (.ref 579) ⟨[.ref f, .ref d], [("create", .bool false)]⟩) R s := by
  refine enterC H [("self", .ref f), ("datum", .ref d), ("create", .bool false)] (by k_room) ?_
  intro g L' h₁ tk cells B G F N Y l1
  simp only [AllLt] at l1
  k_cells Y
  simp only [List.cons_append, List.nil_append] at N
  have X := G.X
  have T := G.T
  have EB := Ext.refl s.heap
  walk_at "mine walk"
  refine lcOne (Or.inl rfl) (fun H ys h => ∃ y dy es, ys = [.ref y] ∧ New H h [(y, instObj 209 dy), (dy, dictOf es 3)] ∧ ∃ f x k1 k2 k3 t1 t2 t3, es = dEs k1 k2 k3 t1 t2 t3 (.ref RL) (.ref f) (.ref x)) ?_ hh (by k_asm) (by k_asm) (by k_memK) ?_ ?_
  · rintro H ys h h' k ⟨y, dy, es, e, N, r⟩
    exact ⟨y, dy, es, e, N.stable k, r⟩
  · intro H C h tk m' hE hn hb F N
    have BL : Blk _ C _ _ := ⟨hb, hn⟩
    simp only [List.cons_append, List.nil_append] at N
    walk_at "mine walk"
    exact BL.good (by k_asm) (by k_asm) (by walk_at "mine rst") ⟨_, _, _, rfl, New.of' (by k_asm) (by walk_at "mine new'"), _, _, _, _, _, _, _, _, rfl⟩
  · rintro H D h' tk' ys k hE hD hHD F' N' hn' ⟨y, dy, es, rfl, W, f', x', k1', k2', k3', t1', t2', t3', rfl⟩
    have EH := (B.ext EB (by k_asm) (by k_asm) (by walk_at "mine ext")).trans hE
    have fr := New.fresh W EH
    simp only [List.forall_mem_cons] at fr
    obtain ⟨fr1, fr2, _⟩ := fr
    have N' := news_add N' (Ext.trans (Fr.keep (by k_asm)) hE) (fr_L (by k_asm) hE) W
    simp only [List.cons_append, List.nil_append] at N'
    walk_at "mine walk"
    refine lcOne (Or.inr rfl) (fun H ys h => ys = [.ref y]) ?_ hh (by k_asm) (by k_asm) (by k_memK) ?_ ?_
    · rintro H ys h h' k e
      exact e
    · intro H C h tk m' hE hn hb F N
      have BL : Blk _ C _ _ := ⟨hb, hn⟩
      simp only [List.cons_append, List.nil_append] at N
      walk_at "mine walk"
      exact BL.good (by k_asm) (by k_asm) (by walk_at "mine rst") rfl
    · rintro H₂ D₂ h₂ tk₂ ys k₂ hE₂ hD₂ hHD₂ F₂ N₂ hn₂ rfl
      have fr3 := none_back (B.ext EB (by k_asm) (by k_asm) (by walk_at "mine ext")) hD₂
      walk_at "mine walk"
      exact h _ _ _ _ _ _ _ (B.ext EB (by assumption) (by assumption) (by walk_at "mine ext")) (B.new EB (by assumption) (by assumption) (by walk_at "mine new")) ⟨_, _, _, _, _, _, _, _, rfl⟩
local macro_rules | `(tactic| walk_at "mine code") => `(tactic| ((with_reducible show codeAny _ _ (Code.call (Value.ref 579) _) _ _); (refine find_base (by assumption) (by assumption) (by walk_at "mine kn") (by with_unfolding_all assumption) (by k_room) ?_); (intro l' nl' y' dy' es' h' tk'  hE' hW' he'); (obtain ⟨f', x', k1', k2', k3', t1', t2', t3', he2'⟩ := he'); (subst he2'); (try dsimp only at  hE' hW'); (try ((first | (have fr' := BlkL.fresh (by with_reducible assumption) (by k_asm) (by k_asm) (by walk_at "mine own") (by walk_at "mine rst") hW') | (have fr' := Blk.fresh (by with_reducible assumption) (by k_asm) (by k_asm) (by walk_at "mine rst") hW') | (have fr' := New.fresh hW' (Back.ext (by with_reducible assumption) (by with_reducible assumption) (by k_asm) (by k_asm) (by walk_at "mine ext")))); simp only [List.forall_mem_cons] at fr'; obtain ⟨fr1', fr2', fr3', fr9'⟩ := fr')); (have ap' := New.apart (by k_asm) hW'); (simp only [List.forall_mem_cons] at ap'); (obtain ⟨ap1', ap2', ap3', ap9'⟩ := ap'); (have hF' := Fr.keeps (by k_asm) hE'); (have hN' := back_news (by k_asm) (by k_asm) hE' hW'); (try simp only [List.cons_append, List.nil_append] at hN'); (try k_sweep); (try dsimp only)))
theorem find_f {b : Heap} {f df D d RL : Addr} {o : Obj} {l r : Int} {tl tr t : Nat} {k1 k2 : Int} {t1 t2 n : Nat} {vs : Array Value} {nv : Nat} (hd : o.IsDictOf (strKind prog w) (docKs l r tl tr RL)) (lo : (d == sysModules) = false)
    (H : Kn w p loose mg mb b s.heap [(f, instObj 638 df), (df, dictOf (fEs k1 k2 t1 t2 D) n), (D, { cls := .type "tuple", data := .seq #[.str "row" t] }), (d, o), (RL, { cls := .type "list", data := .seq vs nv })]) (hh : A.handled = none) (hroom : A.depth + 70 ≤ 900)
    (h : ∀ l' nl y dy es h' tk, Ext s.heap h' → New s.heap h' [(l', { cls := .type "list", data := .seq #[.ref y] nl }), (y, instObj 209 dy), (dy, dictOf es 3)] →
      (∃ f x k1 k2 k3 t1 t2 t3, es = dEs k1 k2 k3 t1 t2 t3 (.ref RL) (.ref f) (.ref x)) → R (.ok (.ret (.ref l'))) { s with heap := h', toks := tk }) :
    codeAny (model prog w) A (.call (.ref 567) ⟨[.ref f, .ref d], []⟩) R s := by
  refine enterK H [("self", .ref f), ("datum", .ref d)] (by k_room) ?_
  intro g L' h₁ tk B G F N
  have X := G.X
  have T := G.T
  have EB := Ext.refl s.heap
  walk_at "mine walk"
  exact h _ _ _ _ _ _ _ (B.ext EB (by assumption) (by assumption) (by walk_at "mine ext")) (B.new EB (by assumption) (by assumption) (by walk_at "mine new")) ⟨_, _, _, _, _, _, _, _, rfl⟩
end
end

section
local macro_rules | `(tactic| walk_at "mine code") => `(tactic| ((with_reducible show codeAny _ _ (Code.call (Value.ref 209) ⟨[_], []⟩) _ _); (refine datum0 (Gd.at (by assumption) (by k_asm)) (by k_room) ?_); (intro x' dx' t' dt' es' h' tk'  hE' hW' he'); (obtain ⟨k1', k2', k3', t1', t2', t3', he2'⟩ := he'); (subst he2'); (try dsimp only at  hE' hW'); (try ((first | (have fr' := BlkL.fresh (by with_reducible assumption) (by k_asm) (by k_asm) (by walk_at "mine own") (by walk_at "mine rst") hW') | (have fr' := Blk.fresh (by with_reducible assumption) (by k_asm) (by k_asm) (by walk_at "mine rst") hW') | (have fr' := New.fresh hW' (Back.ext (by with_reducible assumption) (by with_reducible assumption) (by k_asm) (by k_asm) (by walk_at "mine ext")))); simp only [List.forall_mem_cons] at fr'; obtain ⟨fr1', fr2', fr3', fr4', fr9'⟩ := fr')); (have ap' := New.apart (by k_asm) hW'); (simp only [List.forall_mem_cons] at ap'); (obtain ⟨ap1', ap2', ap3', ap4', ap9'⟩ := ap'); (have hF' := Fr.keeps (by k_asm) hE'); (have hN' := back_news (by k_asm) (by k_asm) hE' hW'); (try simp only [List.cons_append, List.nil_append] at hN'); (try k_sweep); (try dsimp only)))
local macro_rules | `(tactic| walk_at "mine code") => `(tactic| ((with_reducible show codeAny _ _ (Code.call (Value.ref 158) ⟨[_, Value.int _ _], []⟩) _ _); (refine wrap_int (by walk_at "mine kn") (by k_room) ?_); (intro x' dx' t' dt' es' h' tk'  hE' hW' he'); (obtain ⟨k1', k2', k3', t1', t2', t3', he2'⟩ := he'); (subst he2'); (try dsimp only at  hE' hW'); (try ((first | (have fr' := BlkL.fresh (by with_reducible assumption) (by k_asm) (by k_asm) (by walk_at "mine own") (by walk_at "mine rst") hW') | (have fr' := Blk.fresh (by with_reducible assumption) (by k_asm) (by k_asm) (by walk_at "mine rst") hW') | (have fr' := New.fresh hW' (Back.ext (by with_reducible assumption) (by with_reducible assumption) (by k_asm) (by k_asm) (by walk_at "mine ext")))); simp only [List.forall_mem_cons] at fr'; obtain ⟨fr1', fr2', fr3', fr4', fr9'⟩ := fr')); (have ap' := New.apart (by k_asm) hW'); (simp only [List.forall_mem_cons] at ap'); (obtain ⟨ap1', ap2', ap3', ap4', ap9'⟩ := ap'); (have hF' := Fr.keeps (by k_asm) hE'); (have hN' := back_news (by k_asm) (by k_asm) hE' hW'); (try simp only [List.cons_append, List.nil_append] at hN'); (try k_sweep); (try dsimp only)))
local macro_rules | `(tactic| walk_at "mine code") => `(tactic| ((with_reducible show codeAny _ _ (Code.call (Value.ref 158) ⟨[_, Value.ref _], []⟩) _ _); (refine wrap_datum (by walk_at "mine kn") (by k_room) ?_); (intro  h' tk'  hE'  ); (try dsimp only at  hE' ); (have hF' := Fr.keeps (by k_asm) hE'); (have hN' := News.grown (by k_asm) hE'); (try k_sweep); (try dsimp only)))
local macro_rules | `(tactic| walk_at "getAttr ref") => `(tactic| ((with_reducible show wpAny _ _ (getAttr (Value.ref _) (PySem.Str.ofString "value") _) _ _ _); (refine get_value (by k_asm) (by assumption) (by k_room) (by k_inst) (by k_handed) ?_); (intro h' tk' hE'); (try dsimp only at hE'); (have hF' := Fr.keeps (by k_asm) hE'); (have hN' := News.grown (by k_asm) hE'); (try k_sweep)))
local macro_rules | `(tactic| walk_at "pyIter ref") => `(tactic| ((with_reducible show wpAny _ _ (pyIter (Value.ref _)) (fun it s₂ => LoopAtV _ _ _ _ _ _ _ _ _ it s₂) _ _); (refine iter_listUnr (vs := [_]) (by with_unfolding_all assumption) (by k_asm) (by k_asm) (by k_memK) rfl rfl ?_); intro i' l1; (try k_lt l1)))
local macro_rules | `(tactic| walk_at "call builtin:_operator.ge") => `(tactic| refine run_ge ?_)
section
variable {prog : Program} {w : World} {A : Around} {s : Shared} {p : Program} {loose : List Str} {mg mb : Str → Option Value} {R : Result → Shared → Prop}

theorem is_number {b : Heap} {k : Int} {t : Tok} (H : Kn w p loose mg mb b s.heap []) (hroom : A.depth + 10 ≤ 900)
    (h : ∀ h' tk, Ext s.heap h' → R (.ok (.ret (.bool true))) { s with heap := h', toks := tk }) :
    codeAny (model prog w) A (.call (.ref 778) ⟨[.int k t], []⟩) R s := by
  refine enterK H [("value", .int k t)] (by k_room) ?_
  intro g L' h₁ tk B G F N
  have X := G.X
  have T := G.T
  have EB := Ext.refl s.heap
  walk_at "mine walk"
  exact h _ _ (B.ext EB (by assumption) (by assumption) (by walk_at "mine ext"))
local macro_rules | `(tactic| walk_at "mine code") => `(tactic| ((with_reducible show codeAny _ _ (Code.call (Value.ref 778) _) _ _); (refine is_number (by walk_at "mine kn") (by k_room) ?_); (intro  h' tk'  hE'  ); (try dsimp only at  hE' ); (have hF' := Fr.keeps (by k_asm) hE'); (have hN' := News.grown (by k_asm) hE'); (try k_sweep); (try dsimp only)))
theorem compare {b : Heap} {k : Int} {t u v : Tok} (H : Kn w p loose mg mb b s.heap []) (hroom : A.depth + 20 ≤ 900)
    (h : ∀ h' tk, Ext s.heap h' → R (.ok (.ret (.bool (decide (2 ≤ k))))) { s with heap := h', toks := tk }) :
    codeAny (model prog w) A (.call (.ref 792) ⟨[.str ">=" t, .int k u, .int 2 v], []⟩) R s := by
  refine enterK H [("op", .str ">=" t), ("left", .int k u), ("right", .int 2 v)] (by k_room) ?_
  intro g L' h₁ tk B G F N
  have X := G.X
  have T := G.T
  have EB := Ext.refl s.heap
  walk_at "mine walk"
  exact h _ _ (B.ext EB (by assumption) (by assumption) (by walk_at "mine ext"))
theorem this_find {b : Heap} {x dx T : Addr} {v pv cv : Value} {k1 k2 k3 : Int} {t1 t2 t3 n : Nat} (H : Kn w p loose mg mb b s.heap [(x, instObj 209 dx), (dx, dictOf (dEs k1 k2 k3 t1 t2 t3 v pv cv) n)]) (hroom : A.depth + 30 ≤ 900)
    (h : ∀ l' nl h' tk, Ext s.heap h' → New s.heap h' [(l', { cls := .type "list", data := .seq #[.ref x] nl })] → R (.ok (.ret (.ref l'))) { s with heap := h', toks := tk }) :
    codeAny (model prog w) A (.call (.ref 288) ⟨[.ref T, .ref x], []⟩) R s := by
  refine enterK H [("self", .ref T), ("datum", .ref x)] (by k_room) ?_
  intro g L' h₁ tk B G F N
  have X := G.X
  have T := G.T
  have EB := Ext.refl s.heap
  walk_at "mine walk"
  exact h _ _ _ _ (B.ext EB (by assumption) (by assumption) (by walk_at "mine ext")) (B.new EB (by assumption) (by assumption) (by walk_at "mine new"))
local macro_rules | `(tactic| walk_at "mine code") => `(tactic| ((with_reducible show codeAny _ _ (Code.call (Value.ref 792) _) _ _); (refine compare (by walk_at "mine kn") (by k_room) ?_); (intro  h' tk'  hE'  ); (try dsimp only at  hE' ); (have hF' := Fr.keeps (by k_asm) hE'); (have hN' := News.grown (by k_asm) hE'); (try k_sweep); (try dsimp only)))
local macro_rules | `(tactic| walk_at "mine code") => `(tactic| ((with_reducible show codeAny _ _ (Code.call (Value.ref 288) _) _ _); (refine this_find (by walk_at "mine kn") (by k_room) ?_); (intro l' nl' h' tk'  hE' hW' ); (try dsimp only at  hE' hW'); (try ((first | (have fr' := BlkL.fresh (by with_reducible assumption) (by k_asm) (by k_asm) (by walk_at "mine own") (by walk_at "mine rst") hW') | (have fr' := Blk.fresh (by with_reducible assumption) (by k_asm) (by k_asm) (by walk_at "mine rst") hW') | (have fr' := New.fresh hW' (Back.ext (by with_reducible assumption) (by with_reducible assumption) (by k_asm) (by k_asm) (by walk_at "mine ext")))); simp only [List.forall_mem_cons] at fr'; obtain ⟨fr1', fr9'⟩ := fr')); (have ap' := New.apart (by k_asm) hW'); (simp only [List.forall_mem_cons] at ap'); (obtain ⟨ap1', ap9'⟩ := ap'); (have hF' := Fr.keeps (by k_asm) hE'); (have hN' := back_news (by k_asm) (by k_asm) hE' hW'); (try simp only [List.cons_append, List.nil_append] at hN'); (try k_sweep); (try dsimp only)))
theorem expr_find {b : Heap} {e de T dT : Addr} {k : Int} {t : Tok} {k1 k2 k3 : Int} {t1 t2 t3 t4 t5 n : Nat} {bb : Bool} (hk : decide (2 ≤ k) = bb) (hh : A.handled = none)
    (H : Kn w p loose mg mb b s.heap [(e, instObj 943 de), (de, dictOf (eEs k1 k2 k3 t1 t2 t3 t4 t5 T) n), (T, instObj 333 dT), (dT, dictOf [] 0)]) (hroom : A.depth + 60 ≤ 900)
    (h : ∀ l' nl ys h' tk, Ext s.heap h' → New s.heap h' [(l', { cls := .type "list", data := .seq ys nl })] → (bb = true → ys.size = 1) → (bb = false → ys.size = 0) → R (.ok (.ret (.ref l'))) { s with heap := h', toks := tk }) :
    codeAny (model prog w) A (.call (.ref 921) ⟨[.ref e, .int k t], []⟩) R s := by
  refine enterK H [("self", .ref e), ("datum", .int k t)] (by k_room) ?_
  intro g L' h₁ tk B G F N
  have X := G.X
  have T := G.T
  have EB := Ext.refl s.heap
  walk_at "mine walk"
  all_goals exact h _ _ _ _ _ (B.ext EB (by assumption) (by assumption) (by walk_at "mine ext")) (B.new EB (by assumption) (by assumption) (by walk_at "mine new")) (fun e => by first | rfl | (exfalso; simp_all; done) | (exfalso; simp_all; omega)) (fun e => by first | rfl | (exfalso; simp_all; done) | (exfalso; simp_all; omega))
end
end

section
local macro_rules | `(tactic| walk_at "mine code") => `(tactic| ((with_reducible show codeAny _ _ (Code.call (Value.ref 921) _) _ _); (refine expr_find (by with_reducible assumption) (by with_unfolding_all assumption) (by walk_at "mine kn") (by k_room) ?_); (intro l' nl' ys' h' tk'  hE' hW' ); (try dsimp only at  hE' hW'); (try ((first | (have fr' := BlkL.fresh (by with_reducible assumption) (by k_asm) (by k_asm) (by walk_at "mine own") (by walk_at "mine rst") hW') | (have fr' := Blk.fresh (by with_reducible assumption) (by k_asm) (by k_asm) (by walk_at "mine rst") hW') | (have fr' := New.fresh hW' (Back.ext (by with_reducible assumption) (by with_reducible assumption) (by k_asm) (by k_asm) (by walk_at "mine ext")))); simp only [List.forall_mem_cons] at fr'; obtain ⟨fr1', fr9'⟩ := fr')); (have ap' := New.apart (by k_asm) hW'); (simp only [List.forall_mem_cons] at ap'); (obtain ⟨ap1', ap9'⟩ := ap'); (have hF' := Fr.keeps (by k_asm) hE'); (have hN' := back_news (by k_asm) (by k_asm) hE' hW'); (try simp only [List.cons_append, List.nil_append] at hN'); (try k_sweep); (try dsimp only)))
local macro_rules | `(tactic| walk_at "getAttr ref") => `(tactic| ((with_reducible show wpAny _ _ (getAttr (Value.ref _) (PySem.Str.ofString "value") _) _ _ _); (refine get_value (by k_asm) (by assumption) (by k_room) (by k_inst) (by k_handed) ?_); (intro h' tk' hE'); (try dsimp only at hE'); (have hF' := Fr.keeps (by k_asm) hE'); (have hN' := News.grown (by k_asm) hE'); (try k_sweep)))
local macro_rules | `(tactic| walk_at "call builtin:getattr") => `(tactic| ((with_reducible show wpAny _ _ (call (Value.builtin _) [Value.ref _, Value.str _ _, _]) _ _ _); k_dflt (refine' getattr_missD ?k1 ?k2 ?k3 ?k4 ?k5 ?k6 ?k7 ?k8 ?k9 ?k10 ?k11 ?k12 ?k13 ?k14 ?_; (case k1 => k_in); (case k2 => k_inst); (case k3 => k_is); (case k4 => k_is); (case k5 => k_is); (case k6 => decide +kernel); (case k7 => k_get); (case k8 => k_is); (case k9 => decide +kernel); (case k10 => k_is); (case k11 => decide +kernel); (case k12 => (rw [sizeLine_eq]; decide +kernel)); (case k13 => with_unfolding_all assumption); (case k14 => (rw [sizeLine_eq]; decide +kernel)); k_whole); intro h' tk' hE'; (try dsimp only at hE'); (have hF' := Fr.keeps (by k_asm) hE'); (have hN' := News.grown (by k_asm) hE'); (try k_sweep)))
section
variable {prog : Program} {w : World} {A : Around} {s : Shared} {p : Program} {loose : List Str} {mg mb : Str → Option Value} {R : Result → Shared → Prop}
theorem ref_root {b : Heap} {fl dfl XL e de T dT : Addr} {k0 k1 k2 k3 : Int} {t0 t1 t2 t3 t4 t5 n n0 nx : Nat} (hh : A.handled = none)
    (H : Kn w p loose mg mb b s.heap [(fl, instObj 898 dfl), (dfl, dictOf (flEs k0 t0 XL) n0), (XL, { cls := .type "list", data := .seq #[.ref e] nx }), (e, instObj 943 de), (de, dictOf (eEs k1 k2 k3 t1 t2 t3 t4 t5 T) n), (T, instObj 333 dT), (dT, dictOf [] 0)]) (hroom : A.depth + 60 ≤ 900)
    (h : ∀ h' tk, Ext s.heap h' → R (.ok (.ret (.bool false))) { s with heap := h', toks := tk }) :
    codeAny (model prog w) A (.call (.ref 821) ⟨[.ref fl], []⟩) R s := by
  refine enterK H [("self", .ref fl)] (by k_room) ?_
  intro g L' h₁ tk B G F N
  have X := G.X
  have T := G.T
  have EB := Ext.refl s.heap
  walk_at "mine walk"
  exact h _ _ (B.ext EB (by assumption) (by assumption) (by walk_at "mine ext"))
end
end

section
local macro_rules | `(tactic| walk_at "mine code") => `(tactic| ((with_reducible show codeAny _ _ (Code.call (Value.ref 158) ⟨[_, Value.ref _], []⟩) _ _); (refine wrap_datum (by walk_at "mine kn") (by k_room) ?_); (intro  h' tk'  hE'  ); (try dsimp only at  hE' ); (have hF' := Fr.keeps (by k_asm) hE'); (have hN' := News.grown (by k_asm) hE'); (try k_sweep); (try dsimp only)))
local macro_rules | `(tactic| walk_at "mine code") => `(tactic| ((with_reducible show codeAny _ _ (Code.call (Value.ref 921) _) _ _); (refine expr_find (by with_reducible assumption) (by with_unfolding_all assumption) (by walk_at "mine kn") (by k_room) ?_); (intro l' nl' ys' h' tk'  hE' hW' ); (try dsimp only at  hE' hW'); (try ((first | (have fr' := BlkL.fresh (by with_reducible assumption) (by k_asm) (by k_asm) (by walk_at "mine own") (by walk_at "mine rst") hW') | (have fr' := Blk.fresh (by with_reducible assumption) (by k_asm) (by k_asm) (by walk_at "mine rst") hW') | (have fr' := New.fresh hW' (Back.ext (by with_reducible assumption) (by with_reducible assumption) (by k_asm) (by k_asm) (by walk_at "mine ext")))); simp only [List.forall_mem_cons] at fr'; obtain ⟨fr1', fr9'⟩ := fr')); (have ap' := New.apart (by k_asm) hW'); (simp only [List.forall_mem_cons] at ap'); (obtain ⟨ap1', ap9'⟩ := ap'); (have hF' := Fr.keeps (by k_asm) hE'); (have hN' := back_news (by k_asm) (by k_asm) hE' hW'); (try simp only [List.cons_append, List.nil_append] at hN'); (try k_sweep); (try dsimp only)))
local macro_rules | `(tactic| walk_at "mine code") => `(tactic| ((with_reducible show codeAny _ _ (Code.call (Value.ref 821) _) _ _); (refine ref_root (by with_unfolding_all assumption) (by walk_at "mine kn") (by k_room) ?_); (intro  h' tk'  hE'  ); (try dsimp only at  hE' ); (have hF' := Fr.keeps (by k_asm) hE'); (have hN' := News.grown (by k_asm) hE'); (try k_sweep); (try dsimp only)))
local macro_rules | `(tactic| walk_at "mine code") => `(tactic| ((with_reducible show codeAny _ _ (Code.call (Value.ref 737) ⟨[_], []⟩) _ _); (refine index1 (by walk_at "mine kn") (by k_room) ?_); (intro x' dx' D' es' h' tk'  hE' hW' he'); (obtain ⟨k1', t1', he2'⟩ := he'); (subst he2'); (try dsimp only at  hE' hW'); (try ((first | (have fr' := BlkL.fresh (by with_reducible assumption) (by k_asm) (by k_asm) (by walk_at "mine own") (by walk_at "mine rst") hW') | (have fr' := Blk.fresh (by with_reducible assumption) (by k_asm) (by k_asm) (by walk_at "mine rst") hW') | (have fr' := New.fresh hW' (Back.ext (by with_reducible assumption) (by with_reducible assumption) (by k_asm) (by k_asm) (by walk_at "mine ext")))); simp only [List.forall_mem_cons] at fr'; obtain ⟨fr1', fr2', fr3', fr9'⟩ := fr')); (have ap' := New.apart (by k_asm) hW'); (simp only [List.forall_mem_cons] at ap'); (obtain ⟨ap1', ap2', ap3', ap9'⟩ := ap'); (have hF' := Fr.keeps (by k_asm) hE'); (have hN' := back_news (by k_asm) (by k_asm) hE' hW'); (try simp only [List.cons_append, List.nil_append] at hN'); (try k_sweep); (try dsimp only)))
local macro_rules | `(tactic| walk_at "mine code") => `(tactic| ((with_reducible show codeAny _ _ (Code.call (Value.ref 209) ⟨[_], List.zip _ _⟩) _ _); (refine datum2 (Or.inr rfl) (Gd.at (by assumption) (by k_asm)) (by k_room) (News.get (by k_asm) (by k_memK)) (News.get (by k_asm) (by k_memK)) (News.get (by k_asm) (by k_memK)) (News.get (by k_asm) (by k_memK)) ?_); (intro x' dx' es' h' tk'  hE' hW' he'); (obtain ⟨k1', k2', k3', t1', t2', t3', he2'⟩ := he'); (subst he2'); (try dsimp only at  hE' hW'); (try ((first | (have fr' := BlkL.fresh (by with_reducible assumption) (by k_asm) (by k_asm) (by walk_at "mine own") (by walk_at "mine rst") hW') | (have fr' := Blk.fresh (by with_reducible assumption) (by k_asm) (by k_asm) (by walk_at "mine rst") hW') | (have fr' := New.fresh hW' (Back.ext (by with_reducible assumption) (by with_reducible assumption) (by k_asm) (by k_asm) (by walk_at "mine ext")))); simp only [List.forall_mem_cons] at fr'; obtain ⟨fr1', fr2', fr9'⟩ := fr')); (have ap' := New.apart (by k_asm) hW'); (simp only [List.forall_mem_cons] at ap'); (obtain ⟨ap1', ap2', ap9'⟩ := ap'); (have hF' := Fr.keeps (by k_asm) hE'); (have hN' := back_news (by k_asm) (by k_asm) hE' hW'); (try simp only [List.cons_append, List.nil_append] at hN'); (try k_sweep); (try dsimp only)))
local macro_rules | `(tactic| walk_at "getAttr ref") => `(tactic| ((with_reducible show wpAny _ _ (getAttr (Value.ref _) (PySem.Str.ofString "value") _) _ _ _); (refine get_value (by k_asm) (by assumption) (by k_room) (by k_inst) (by k_handed) ?_); (intro h' tk' hE'); (try dsimp only at hE'); (have hF' := Fr.keeps (by k_asm) hE'); (have hN' := News.grown (by k_asm) hE'); (try k_sweep)))
local macro_rules | `(tactic| walk_at "mine ext8") => `(tactic| first | exact List.forall_mem_nil _ | ((refine List.forall_mem_cons.mpr (And.intro ?x ?_)); (case x => first | exact Or.inr rfl | exact Or.inl (by k_memK)); walk_at "mine ext8"))
local macro_rules | `(tactic| walk_at "eval GeneratorExp") => `(tactic| ((with_reducible show wpAny _ _ (eval (Expr.GeneratorExp _ [⟨Expr.Name _ _, _, _, _⟩] _ _) _) _ _ _); refine' blk_genexp ?hco ?hclos ?hcell ?h0 ?hkind ?hroom ?_ ?hs; (case hco => rfl); (case hclos => with_unfolding_all rfl); (case hcell => decide); (case h0 => rfl); (case hkind => rfl); (case hroom => k_room); (case hs => intro _; with_unfolding_all rfl)))
local macro_rules | `(tactic| walk_at "mine ntab") => `(tactic| first | exact List.forall_mem_nil _ | ((refine List.forall_mem_cons.mpr (And.intro ?x ?_)); (case x => first | (intro e; cases e; done) | exact cell_ne (by assumption)); walk_at "mine ntab"))
section
variable {prog : Program} {w : World} {A : Around} {s : Shared} {p : Program} {loose : List Str} {mg mb : Str → Option Value} {R : Result → Shared → Prop}
theorem filter_find {b : Heap} {fl dfl XL e de TT dT y dy RL fy : Addr} {k0 k1 k2 k3 q1 q2 q3 : Int} {t0 t1 t2 t3 t4 t5 n n0 nx u1 u2 u3 nv : Nat} {vs ps : Array Value} {cy : Value} (hh : A.handled = none)
    (H : Kn w p loose mg mb b s.heap [(fl, instObj 898 dfl), (dfl, dictOf (flEs k0 t0 XL) n0), (XL, { cls := .type "list", data := .seq #[.ref e] nx }), (e, instObj 943 de), (de, dictOf (eEs k1 k2 k3 t1 t2 t3 t4 t5 TT) n), (TT, instObj 333 dT), (dT, dictOf [] 0),
      (y, instObj 209 dy), (dy, dictOf (dEs q1 q2 q3 u1 u2 u3 (.ref RL) (.ref fy) cy) 3), (RL, { cls := .type "list", data := .seq vs nv }), (823, tabO ps)]) (htr : TriplesOk ps.toList) (hsz : vs.size ≤ sizeLine) (hint : ∀ (k : Nat) (v : Value), vs[k]? = some v → ∃ n t, v = Value.int n t) (hroom : A.depth + 90 ≤ 900)
    (h : ∀ l' nl ys h' tk gs more, (AllBare s.gens → AllBare gs) → (∀ x o, x ≠ 823 → s.heap.get? x = some o → h'.get? x = some o) → h'.get? 823 = some (tabO (ps ++ more)) → TriplesOk (ps ++ more).toList →
      New s.heap h' [(l', { cls := .type "list", data := .seq ys.toArray nl })] → PySem.Paired (HitN s.heap h') (hits vs vs.size) ys → R (.ok (.ret (.ref l'))) { s with heap := h', toks := tk, gens := gs }) :
    codeAny (model prog w) A (.call (.ref 826) ⟨[.ref fl, .ref y], []⟩) R s := by
  refine enterC H [("self", .ref fl), ("datum", .ref y)] (by k_room) ?_
  intro g L' h₁ tk cells B G F N Y l1
  simp only [AllLt] at l1
  k_cells Y
  simp only [List.cons_append, List.nil_append] at N
  have X := G.X
  have T := G.T
  have EB := Ext.refl s.heap
  walk_at "mine walk"
  have EH0 := B.ext EB (by k_asm) (by k_asm) (by walk_at "mine ext")
  have F0 := fr_id (by k_asm)
  have m0 := News.get (a := 823) (o := tabO ps) (by k_asm) (by k_memK)
  refine lc2_enum (J := Cands vs) (by with_unfolding_all assumption) (by k_asm) (by k_asm) (by k_memK) hsz ?_ ?_ ?_ ?_
  · exact fun H _ => ⟨rfl, fun j y hj => by rw [List.getElem?_nil] at hj; cases hj⟩
  · rintro H i ys h h' st ⟨e, c⟩
    exact ⟨e, fun j y hj => let ⟨v, a, b⟩ := c j y hj; ⟨v, a, b.stable st⟩⟩
  · rintro s₁ eg ed eo up H C i v h₀ h tk gs ys m' cobs mobs hE hkp B hi hle ⟨T, vals, rfl, ⟨t, x, hx, rfl⟩, hT0, oT, hT, hTc, nT, hTd⟩ hn hJ c1 c2 c3 c4 hs F N
    have BL := B
    have c0 : cobs = [] := List.map_eq_nil_iff.mp c1
    subst c0
    have c0 : mobs = [] := List.map_eq_nil_iff.mp c3
    subst c0
    have N : News g C h _ := news_add N (Ext.trans (Fr.keep (by k_asm)) (Ext.trans up hE)) BL.blk (New.cons hT (hn T hT0) New.nil)
    simp only [List.cons_append, List.nil_append] at N
    refine assign_Tuple_tuple (by with_unfolding_all assumption) ⟨oT, hT, hTc, nT, hTd⟩ rfl rfl fun h₅ he => ?_
    have he' : Ext h h₅ := fun b o e => he b o (Nat.ne_of_lt (Heap.lt_size e)) e
    have F := Fr.keeps F he'
    have N := News.grown N he'
    walk_at "mine walk"
    exact BL.good (by k_asm) (by k_asm) (by walk_at "mine own") (by walk_at "mine own") (by walk_at "mine rst") (hJ.snoc (fun a o e1 e2 => BL.off (by k_asm) (by k_asm) (by walk_at "mine rst") e1 e2) hx ⟨_, _, _, _, _, _, _, _, rfl, New.of' (by k_asm) (by walk_at "mine new'")⟩)
  · intro H D h' tk' gs ys k hbare hE hkeep hD hHD F' N' hn hle hJ
    walk_at "mine walk"
    with_reducible rename News _ _ _ _ => NN
    with_reducible rename Ext h' _ => hEE
    have EH := B.ext EB (by k_asm) NN (by walk_at "mine ext")
    have ND := News.of_dropLast NN
    simp only [List.dropLast_cons₂, List.dropLast_singleton] at ND
    refine lc2_list (J := FoundAt vs H h') [823] (fun _ o => ∃ more, o = tabO (ps ++ more) ∧ TriplesOk (ps ++ more).toList) ?_ (Or.inr ⟨_, _, _, rfl⟩) (by with_unfolding_all assumption) (by k_asm) ND (List.Mem.head _) (by rw [List.size_toArray]; omega) ?_ ?_ ?_ ?_
    · intro c hc
      rw [List.mem_singleton.mp hc]
      have m823 := NN.get (a := 823) (o := tabO ps) (by k_memK)
      exact ⟨⟨_, m823, #[], by rw [Array.append_empty], by rw [Array.append_empty]; exact htr⟩, NN.fresh (a := 823) (o := tabO ps) (by k_memK), (NN (823, tabO ps) (by k_memK)).2.1, hn (823, tabO ps) (by k_memK), off_tab ND m823 (by walk_at "mine ntab")⟩
    · exact fun H _ => PySem.Paired.nil
    · exact fun H i ys h h' st f => f.stable st
    · rintro H₂ C i v h₀ h₁' tk₁ gs₁ ys₁ m₁ cobs mobs hE₂ hkp BL hi hle₁ hP _ hf c1 c2 c3 c4 hs F₁ N₁
      obtain ⟨oc, rfl⟩ := one_of (a := C + 1) c1
      obtain ⟨om, rfl⟩ := one_of (a := 823) c3
      obtain ⟨vc, dc⟩ := c2 _ (List.Mem.head _)
      obtain ⟨more, rfl, htr₁⟩ := c4 _ (List.Mem.head _)
      obtain ⟨val, hval, a, P, dP, DD, t₁, t₂, kk, tt, rfl, NC⟩ := hJ.2 i v (by simpa using hP)
      obtain ⟨nn, tn, rfl⟩ := hint i val hval
      obtain ⟨bb, hbb⟩ : ∃ bb, decide (2 ≤ nn) = bb := ⟨_, rfl⟩
      have n9 := allNe_of (a := 823) (fun q hq h8 => by have := (NC q hq).2; rw [h8, hE _ _ m0] at this; cases this)
      have NC₁ : News g C h₁' _ := fun q hq => ⟨hkp _ _ (fun h8 => by have := (NC q hq).2; rw [List.mem_singleton.mp h8, hE _ _ m0] at this; cases this) List.not_mem_nil (hEE _ _ (NC q hq).1), Nat.ne_of_lt (Nat.lt_of_lt_of_le (Heap.lt_size (hEE _ _ (NC q hq).1)) hs), none_back (fun x o e => hE _ _ (Fr.keep (by k_asm) _ _ e)) (NC q hq).2⟩
      have N₁ := news_app NC₁ N₁
      simp only [List.cons_append, List.nil_append] at N₁
      have hTd := NC₁ _ (List.Mem.head _)
      refine assign_Tuple_tuple (by with_unfolding_all assumption) ⟨_, hTd.1, rfl, 0, rfl⟩ rfl rfl fun h₅ he => ?_
      have he' : Ext h₁' h₅ := fun b o e => he b o (Nat.ne_of_lt (Heap.lt_size e)) e
      have F := Fr.keeps F₁ he'
      have N := News.grown N₁ he'
      have lC := allLt_get hs (fun q hq => (NN q hq).1)
      have lC' := allLt_get hs (fun q hq => hEE _ _ (NC q hq).1)
      have n8 := allNe_of (a := 823) (off_tab ND (NN.get (a := 823) (o := tabO ps) (by k_memK)) (by walk_at "mine ntab"))
      have h8C : 823 < C := Nat.lt_of_lt_of_le (Heap.lt_size (NN.get (a := 823) (o := tabO ps) (by k_memK))) hs
      simp only [AllLt] at lC lC'
      simp only [AllNe] at n8 n9
      walk_at "mine walk"
      refine genIter_list (by k_asm) (by k_asm) (by k_memK) (UpdF.tail n9.1 (UpdF.tail n9.2.1 (UpdF.tail n9.2.2.1 (UpdF.tail n9.2.2.2.1 (UpdF.tail (Nat.ne_of_gt (Nat.lt_succ_of_lt h8C)) (UpdF.head ?_)))))) htr₁ X T rfl rfl (by k_is) ?_
      · repeat (refine List.forall_mem_cons.mpr ⟨n8.1, ?_⟩; have n8 := n8.2)
        exact RstL.ne (List.Mem.tail _ (List.mem_append_right _ (List.Mem.head _)))
      have m8 := News.get (a := 823) (o := tabO (ps ++ more)) (by k_asm) (by k_memK)
      have b8 := News.fresh (a := 823) (o := tabO (ps ++ more)) (by k_asm) (by k_memK)
      have mX := News.get (a := XL) (o := { cls := .type "list", data := .seq #[.ref e] nx }) (by k_asm) (by k_memK)
      obtain ⟨oO, dO, NS⟩ := cellPack (v := .int nn tn) (c := C + 1) (l := [(e, instObj 943 de), (de, dictOf (eEs k1 k2 k3 t1 t2 t3 t4 t5 TT) n), (TT, instObj 333 dT), (dT, dictOf [] 0)]) (by k_asm) (by with_reducible assumption) (by k_memK) (by walk_at "mine mem")
      have nS := off_tab NS m8 (by walk_at "mine ntab")
      have FS := fr_id (by k_asm)
      intro ga C' I' gcode h₆ tk₆ more₆ F₆ N₆ htr₆ GR back₆
      walk_at "mine walk"
      have nXI : XL ≠ I' := fun h => by rw [h, GR.nI] at mX; cases mX
      have nXC : XL ≠ C' := fun h => by rw [h, GR.nC] at mX; cases mX
      refine gx_all (tr := bb) (fp := [I', XL]) (wr := [I']) hh (fun A' hA => Walks.list hA I' XL nXI #[.ref e]) (by k_room) rfl rfl rfl ?_ (T.nolimit.keeps F₆.keep) GR.gen (Array.getElem?_push_size ..) GR.aC ?_ ?_ ?_ ?_ ⟨GR.it, ⟨_, N₆.get (by k_memK), rfl, _, rfl⟩⟩ GR.ns ?_
      · intro h
        rcases List.mem_cons.mp h with h | h
        · exact GR.CI h
        · exact nXC (List.mem_singleton.mp h).symm
      · exact fun h => GR.aI (List.mem_singleton.mp h)
      · exact (GR.far FS.keep (X 2 (o2 w.params) rfl)).1
      · exact (GR.far FS.keep (X 2 (o2 w.params) rfl)).2
      · intro A' hA hd v h₇ tk₇ m₇ hv hns hm hoff hst gs₇
        have hv : v = .ref e := (Option.some.inj hv).symm
        subst hv
        have hm : m₇ = _ := funext hm
        subst hm
        obtain ⟨F₇, N₇⟩ := GR.elt FS NS nS b8 hns hoff
        simp only [depth_deeper] at hd
        simp only [List.cons_append, List.nil_append] at N₇
        have B₇ : Blk g C' h₇ h₇ := ⟨F₇.keep, fun _ e => e⟩
        walk_at "mine walk"
        exact B₇.good (by k_asm) (by k_asm) (by walk_at "mine rst") (isLst_of (by assumption) (by assumption) (News.get (by k_asm) (by k_memK)))
      · intro h₇ tk₇ gs₇ hoff hgo
        obtain ⟨F₇, N₇⟩ := back₆ h₇ hoff
        have hbg : AllBare gs₁ → AllBare gs₇ := fun z => (AllBare.push z rfl).moved hgo
        have NP : New H h' [(P, instObj 737 dP), (dP, dictOf [⟨kk, .str "indices" tt, .ref DD⟩] 1), (DD, { cls := .type "tuple", data := .seq #[.int (i : Int) t₂] })] := fun q hq => NC q (List.mem_cons_of_mem _ hq)
        cases bb with
        | true =>
          walk_at "mine walk"
          show GoodL _ _ _ _ _ _ _
          refine BL.good (by k_asm) (by k_asm) (by walk_at "mine own") (fun c hc => by rw [List.mem_singleton.mp hc]; exact ⟨tabO (ps ++ more ++ more₆), by k_memK, more ++ more₆, by rw [Array.append_assoc], by rw [← Array.append_assoc]; exact htr₆⟩) (by walk_at "mine rst") (FoundAt.snoc (hit_of hval hbb) (fun a o e1 e2 => BL.off (by k_asm) (by k_asm) (by walk_at "mine rst") e1 e2) hf (New.of' (by k_asm) (by walk_at "mine new'")) NP) hbg
        | false =>
          walk_at "mine walk"
          refine BL.good (by k_asm) (by k_asm) (by walk_at "mine own") (fun c hc => by rw [List.mem_singleton.mp hc]; exact ⟨tabO (ps ++ more ++ more₆), by k_memK, more ++ more₆, by rw [Array.append_assoc], by rw [← Array.append_assoc]; exact htr₆⟩) (by walk_at "mine rst") (FoundAt.skip (hit_of hval hbb) (fun a o e1 e2 => BL.off (by k_asm) (by k_asm) (by walk_at "mine rst") e1 e2) hf) hbg
    · intro H₃ D₃ h₃ tk₃ gs₃ ys₃ k₃ mobs hm1 hm2 hbare₃ hE₃ hkeep₃ hD₃ hHD₃ F₃ N₃ hn₃ hle₃ hJ₃
      obtain ⟨om, rfl⟩ := one_of (a := 823) hm1
      obtain ⟨more, rfl, htr₃⟩ := hm2 _ (List.Mem.head _)
      walk_at "mine walk"
      have e1 : ys.toArray.size = vs.size := by rw [List.size_toArray]; exact hJ.1
      rw [e1] at hJ₃
      exact h D₃ k₃ ys₃ h₃ _ gs₃ more (fun z => hbare₃ (hbare z)) (B.ext8 F₃ N₃ (by walk_at "mine ext8")) (N₃.get (a := 823) (by k_memK)) htr₃ (New.cons (N₃.get (a := D₃) (by k_memK)) (none_back EH hD₃) New.nil)
        (hJ₃.found (Ext.trans EH0 hE) (Ext.trans EH hE₃) (fun _ _ _ e => e) (fun a o n e => hkeep₃ a o (fun hm => by rw [List.mem_singleton.mp hm, hE _ _ m0] at n; cases n) (fun hm => fr_L F0 hE ((congrArg (H.get? ·) (show a = L' from hm)).symm.trans n)) (hEE _ _ e)))
end
end

section
local macro_rules | `(tactic| walk_at "getAttr ref") => `(tactic| ((with_reducible show wpAny _ _ (getAttr (Value.ref _) (PySem.Str.ofString "value") _) _ _ _); (refine get_value (by k_asm) (by assumption) (by k_room) (by k_inst) (by k_handed) ?_); (intro h' tk' hE'); (try dsimp only at hE'); (have hF' := Fr.keeps (by k_asm) hE'); (have hN' := News.grown (by k_asm) hE'); (try k_sweep)))
local macro_rules | `(tactic| walk_at "exec For Name Attribute cons nil") => `(tactic| (with_unfolding_all refine' For_turns ?F ?_; (case F => k_asm); k_whole))
local macro_rules | `(tactic| walk_at "pyIter ref") => `(tactic| ((with_reducible show wpAny _ _ (pyIter (Value.ref _)) (fun it s₂ => TurnsAt _ _ _ _ _ _ _ _ _ it s₂) _ _); (first | (refine iter_tupTurns (vs := [_]) (by with_unfolding_all assumption) (by k_asm) (by k_asm) (by k_memK) rfl rfl ?_) | (refine iter_tupTurns (vs := [_, _]) (by with_unfolding_all assumption) (by k_asm) (by k_asm) (by k_memK) rfl rfl ?_)); intro i' l1; (try k_lt l1)))
local macro_rules | `(tactic| walk_at "call builtin:callable") => `(tactic| refine run_callable (by k_in) (by first | with_reducible assumption | k_is) ?_)
local macro_rules | `(tactic| walk_at "callWith ref") => `(tactic| (refine' callWith_K ?k1 ?k2 ?_; (case k1 => k_asm); (case k2 => with_reducible assumption); k_whole))
local macro_rules | `(tactic| walk_at "mine extR") => `(tactic| first | exact List.forall_mem_nil _ | ((refine List.forall_mem_cons.mpr (And.intro ?x ?_)); (case x => first | exact Or.inr rfl | exact Or.inl (by k_memK)); walk_at "mine extR"))
section
variable {prog : Program} {w : World} {A : Around} {s : Shared} {p : Program} {loose : List Str} {mg mb : Str → Option Value} {R : Result → Shared → Prop}
theorem law_fn {b : Heap} {fa : Addr} {dl g : Int} {t : Tok} {hv pv : Value} (hf : fa = 1026 ∧ dl = 1 ∨ fa = 1033 ∧ dl = -2) (H : Kn w p loose mg mb b s.heap []) (hroom : A.depth + 10 ≤ 900)
    (h : ∀ t' h' tk, Ext s.heap h' → R (.ok (.ret (.int (g + dl) t'))) { s with heap := h', toks := tk }) :
    codeAny (model prog w) A (.call (.ref fa) ⟨[.int g t, hv, pv], []⟩) R s := by
  rcases hf with ⟨rfl, rfl⟩ | ⟨rfl, rfl⟩
  · refine enterK H [("grains", .int g t), ("holder", hv), ("place", pv)] (by k_room) ?_
    intro g L' h₁ tk B G F N
    have X := G.X
    have T := G.T
    have EB := Ext.refl s.heap
    walk_at "mine walk"
    exact h _ _ _ (B.ext EB (by assumption) (by assumption) (by walk_at "mine ext"))
  · refine enterK H [("grains", .int g t), ("holder", hv), ("place", pv)] (by k_room) ?_
    intro g L' h₁ tk B G F N
    have X := G.X
    have T := G.T
    have EB := Ext.refl s.heap
    walk_at "mine walk"
    exact h _ _ _ (B.ext EB (by assumption) (by assumption) (by walk_at "mine ext"))
local macro_rules | `(tactic| walk_at "mine code") => `(tactic| ((with_reducible show codeAny _ _ (Code.call (Value.ref _) ⟨[_, _, _], []⟩) _ _); (refine law_fn (by first | with_reducible assumption | exact Or.inl ⟨rfl, rfl⟩ | exact Or.inr ⟨rfl, rfl⟩) (by walk_at "mine kn") (by k_room) ?_); (intro t' h' tk'  hE'  ); (try dsimp only at  hE' ); (have hF' := Fr.keeps (by k_asm) hE'); (have hN' := News.grown (by k_asm) hE'); (try k_sweep); (try dsimp only)))
theorem fn_facts {P : Params} {fa : Addr} {dl : Int} (hf : fa = 1026 ∧ dl = 1 ∨ fa = 1033 ∧ dl = -2) : keepIn (K P) (.ref fa) = true ∧ ∃ x, specialIn (K P) (.ref fa) "__call__" = some (some x) := by
  rcases hf with ⟨rfl, _⟩ | ⟨rfl, _⟩
  · exact ⟨by k_is, _, by k_is⟩
  · exact ⟨by k_is, _, by k_is⟩
theorem iub1 {b : Heap} {fa x dx D RL : Addr} {dl a : Int} {ta : Tok} {k1 : Int} {t1 nv : Nat} {vs : List Value} {ns : List Int} (hf : fa = 1026 ∧ dl = 1 ∨ fa = 1033 ∧ dl = -2) (hi : IntsAre vs ns) (h0 : 0 ≤ a) (h1 : a < ns.length) (h8 : ns.length ≤ 8) (hh : A.handled = none)
    (H : Kn w p loose mg mb b s.heap [(x, instObj 737 dx), (dx, dictOf [⟨k1, .str "indices" t1, .ref D⟩] 1), (D, { cls := .type "tuple", data := .seq #[.int a ta] }), (RL, listOf vs.toArray nv)]) (hroom : A.depth + 20 ≤ 900)
    (h : ∀ vs' h' tk, (∀ x o, x ≠ RL → s.heap.get? x = some o → h'.get? x = some o) → h'.get? RL = some (listOf vs'.toArray nv) → IntsAre vs' (ns.set a.toNat (ns.getD a.toNat 0 + dl)) → R (.ok (.ret (.ref RL))) { s with heap := h', toks := tk }) :
    codeAny (model prog w) A (.call (.ref 696) ⟨[.ref x, .ref RL, .ref fa], [("create", .bool false)]⟩) R s := by
  obtain ⟨kf, xc, kc⟩ := fn_facts (P := w.params) hf
  refine enterK H [("self", .ref x), ("data", .ref RL), ("val", .ref fa), ("create", .bool false)] (by k_room) ?_
  intro g L' h₁ tk B G F N
  have X := G.X
  have T := G.T
  have EB := Ext.refl s.heap
  have n1 := ne_of_obj (a := RL) (c := x) N (by k_memK) (by k_memK) ne_inst_seq
  have n2 := ne_of_obj (a := RL) (c := dx) N (by k_memK) (by k_memK) ne_seq_dict
  have n3 := ne_of_obj (a := RL) (c := D) N (by k_memK) (by k_memK) ne_list_tuple
  walk_at "mine walk"
  exact h _ _ _ (B.extR (by k_asm) (by k_asm) (by walk_at "mine extR")) (News.get (by k_asm) (by k_memK)) (by with_reducible assumption)
theorem iub2 {b : Heap} {fa x dx D RL : Addr} {dl a c : Int} {ta tc : Tok} {k1 : Int} {t1 nv : Nat} {vs : List Value} {ns : List Int} (hf : fa = 1026 ∧ dl = 1 ∨ fa = 1033 ∧ dl = -2) (hi : IntsAre vs ns) (h0 : 0 ≤ a) (h1 : a < ns.length) (hc0 : 0 ≤ c) (hc1 : c < ns.length) (h8 : ns.length ≤ 8) (hh : A.handled = none)
    (H : Kn w p loose mg mb b s.heap [(x, instObj 737 dx), (dx, dictOf [⟨k1, .str "indices" t1, .ref D⟩] 1), (D, { cls := .type "tuple", data := .seq #[.int a ta, .int c tc] }), (RL, listOf vs.toArray nv)]) (hroom : A.depth + 20 ≤ 900)
    (h : ∀ vs' h' tk, (∀ x o, x ≠ RL → s.heap.get? x = some o → h'.get? x = some o) → h'.get? RL = some (listOf vs'.toArray nv) → IntsAre vs' ((ns.set a.toNat (ns.getD a.toNat 0 + dl)).set c.toNat ((ns.set a.toNat (ns.getD a.toNat 0 + dl)).getD c.toNat 0 + dl)) → R (.ok (.ret (.ref RL))) { s with heap := h', toks := tk }) :
    codeAny (model prog w) A (.call (.ref 696) ⟨[.ref x, .ref RL, .ref fa], [("create", .bool false)]⟩) R s := by
  obtain ⟨kf, xc, kc⟩ := fn_facts (P := w.params) hf
  refine enterK H [("self", .ref x), ("data", .ref RL), ("val", .ref fa), ("create", .bool false)] (by k_room) ?_
  intro g L' h₁ tk B G F N
  have X := G.X
  have T := G.T
  have EB := Ext.refl s.heap
  have n1 := ne_of_obj (a := RL) (c := x) N (by k_memK) (by k_memK) ne_inst_seq
  have n2 := ne_of_obj (a := RL) (c := dx) N (by k_memK) (by k_memK) ne_seq_dict
  have n3 := ne_of_obj (a := RL) (c := D) N (by k_memK) (by k_memK) ne_list_tuple
  walk_at "mine walk"
  exact h _ _ _ (B.extR (by k_asm) (by k_asm) (by walk_at "mine extR")) (News.get (by k_asm) (by k_memK)) (by with_reducible assumption)
theorem iub {b : Heap} {fa x dx D RL : Addr} {dl : Int} {ix : List (Int × Tok)} {k1 : Int} {t1 nv : Nat} {vs : List Value} {ns : List Int} (hf : fa = 1026 ∧ dl = 1 ∨ fa = 1033 ∧ dl = -2) (hi : IntsAre vs ns) (hx : ix.length = 1 ∨ ix.length = 2) (hb : ∀ q ∈ ix, 0 ≤ q.1 ∧ q.1 < ns.length) (h8 : ns.length ≤ 8) (hh : A.handled = none)
    (H : Kn w p loose mg mb b s.heap [(x, instObj 737 dx), (dx, dictOf [⟨k1, .str "indices" t1, .ref D⟩] 1), (D, tupI ix), (RL, listOf vs.toArray nv)]) (hroom : A.depth + 20 ≤ 900)
    (h : ∀ vs' h' tk, (∀ x o, x ≠ RL → s.heap.get? x = some o → h'.get? x = some o) → h'.get? RL = some (listOf vs'.toArray nv) → IntsAre vs' (bump dl ns (ix.map (·.1))) → R (.ok (.ret (.ref RL))) { s with heap := h', toks := tk }) :
    codeAny (model prog w) A (.call (.ref 696) ⟨[.ref x, .ref RL, .ref fa], [("create", .bool false)]⟩) R s := by
  match ix, hx, hb with
  | [(a, ta)], _, hb => exact iub1 hf hi (hb _ (.head _)).1 (hb _ (.head _)).2 h8 hh H hroom h
  | [(a, ta), (c, tc)], _, hb => exact iub2 hf hi (hb _ (.head _)).1 (hb _ (.head _)).2 (hb _ (.tail _ (.head _))).1 (hb _ (.tail _ (.head _))).2 h8 hh H hroom h
  | [], hx, _ => exact absurd hx (by decide)
  | _ :: _ :: _ :: _, hx, _ => exact absurd hx (by simp only [List.length_cons]; omega)
local macro_rules | `(tactic| walk_at "mine code") => `(tactic| ((with_reducible show codeAny _ _ (Code.call (Value.ref 696) _) _ _); (refine iub (by first | with_reducible assumption | exact Or.inl ⟨rfl, rfl⟩ | exact Or.inr ⟨rfl, rfl⟩) (by with_reducible assumption) (by with_reducible assumption) (by with_reducible assumption) (by with_reducible assumption) (by with_unfolding_all assumption) (by walk_at "mine kn") (by k_room) ?_); (intro vs' h' tk' hK' hG' hI'); (try dsimp only at hK' hG'); (have hF' := fr_upd (by k_asm) (by k_asm) (by k_memK) hK'); (have hN' := news_upd (by k_asm) (by k_upd) hK' hG'); (try dsimp only [List.cons_append, List.nil_append] at hN'); (try k_sweep); (try dsimp only)))
theorem iupd {b : Heap} {fa x dx D RL : Addr} {dl : Int} {ix : List (Int × Tok)} {k1 : Int} {t1 nv : Nat} {vs : List Value} {ns : List Int} (hf : fa = 1026 ∧ dl = 1 ∨ fa = 1033 ∧ dl = -2) (hi : IntsAre vs ns) (hx : ix.length = 1 ∨ ix.length = 2) (hb : ∀ q ∈ ix, 0 ≤ q.1 ∧ q.1 < ns.length) (h8 : ns.length ≤ 8) (hh : A.handled = none)
    (H : Kn w p loose mg mb b s.heap [(x, instObj 737 dx), (dx, dictOf [⟨k1, .str "indices" t1, .ref D⟩] 1), (D, tupI ix), (RL, listOf vs.toArray nv)]) (hroom : A.depth + 30 ≤ 900)
    (h : ∀ vs' h' tk, (∀ x o, x ≠ RL → s.heap.get? x = some o → h'.get? x = some o) → h'.get? RL = some (listOf vs'.toArray nv) → IntsAre vs' (bump dl ns (ix.map (·.1))) → R (.ok (.ret (.ref RL))) { s with heap := h', toks := tk }) :
    codeAny (model prog w) A (.call (.ref 682) ⟨[.ref x, .ref RL, .ref fa], []⟩) R s := by
  refine enterK H [("self", .ref x), ("data", .ref RL), ("val", .ref fa)] (by k_room) ?_
  intro g L' h₁ tk B G F N
  have X := G.X
  have T := G.T
  have EB := Ext.refl s.heap
  have n1 := ne_of_obj (a := RL) (c := x) N (by k_memK) (by k_memK) ne_inst_seq
  have n2 := ne_of_obj (a := RL) (c := dx) N (by k_memK) (by k_memK) ne_seq_dict
  have n3 := ne_of_obj (a := RL) (c := D) N (by k_memK) (by k_memK) ne_list_tuple
  walk_at "mine walk"
  exact h _ _ _ (B.extR (by k_asm) (by k_asm) (by walk_at "mine extR")) (News.get (by k_asm) (by k_memK)) (by with_reducible assumption)
local macro_rules | `(tactic| walk_at "mine code") => `(tactic| ((with_reducible show codeAny _ _ (Code.call (Value.ref 682) _) _ _); (refine iupd (by first | with_reducible assumption | exact Or.inl ⟨rfl, rfl⟩ | exact Or.inr ⟨rfl, rfl⟩) (by with_reducible assumption) (by with_reducible assumption) (by with_reducible assumption) (by with_reducible assumption) (by with_unfolding_all assumption) (by walk_at "mine kn") (by k_room) ?_); (intro vs' h' tk' hK' hG' hI'); (try dsimp only at hK' hG'); (have hF' := fr_upd (by k_asm) (by k_asm) (by k_memK) hK'); (have hN' := news_upd (by k_asm) (by k_upd) hK' hG'); (try dsimp only [List.cons_append, List.nil_append] at hN'); (try k_sweep); (try dsimp only)))
theorem uwr {b : Heap} {fa x dx D RL : Addr} {dl : Int} {ix : List (Int × Tok)} {k1 : Int} {t1 nv : Nat} {vs : List Value} {ns : List Int} {root : Value} (hf : fa = 1026 ∧ dl = 1 ∨ fa = 1033 ∧ dl = -2) (hi : IntsAre vs ns) (hx : ix.length = 1 ∨ ix.length = 2) (hb : ∀ q ∈ ix, 0 ≤ q.1 ∧ q.1 < ns.length) (h8 : ns.length ≤ 8) (hh : A.handled = none)
    (H : Kn w p loose mg mb b s.heap [(x, instObj 737 dx), (dx, dictOf [⟨k1, .str "indices" t1, .ref D⟩] 1), (D, tupI ix), (RL, listOf vs.toArray nv)]) (hroom : A.depth + 40 ≤ 900)
    (h : ∀ vs' h' tk, (∀ x o, x ≠ RL → s.heap.get? x = some o → h'.get? x = some o) → h'.get? RL = some (listOf vs'.toArray nv) → IntsAre vs' (bump dl ns (ix.map (·.1))) → R (.ok (.ret (.ref RL))) { s with heap := h', toks := tk }) :
    codeAny (model prog w) A (.call (.ref 109) ⟨[.ref x, .ref RL, .ref fa, root], []⟩) R s := by
  refine enterK H [("self", .ref x), ("data", .ref RL), ("val", .ref fa), ("root", root)] (by k_room) ?_
  intro g L' h₁ tk B G F N
  have X := G.X
  have T := G.T
  have EB := Ext.refl s.heap
  have n1 := ne_of_obj (a := RL) (c := x) N (by k_memK) (by k_memK) ne_inst_seq
  have n2 := ne_of_obj (a := RL) (c := dx) N (by k_memK) (by k_memK) ne_seq_dict
  have n3 := ne_of_obj (a := RL) (c := D) N (by k_memK) (by k_memK) ne_list_tuple
  walk_at "mine walk"
  exact h _ _ _ (B.extR (by k_asm) (by k_asm) (by walk_at "mine extR")) (News.get (by k_asm) (by k_memK)) (by with_reducible assumption)
end
end

section
local macro_rules | `(tactic| walk_at "mine code") => `(tactic| ((with_reducible show codeAny _ _ (Code.call (Value.ref 567) _) _ _); (refine find_f (by assumption) (by assumption) (by walk_at "mine kn") (by with_unfolding_all assumption) (by k_room) ?_); (intro l' nl' y' dy' es' h' tk'  hE' hW' he'); (obtain ⟨f', x', k1', k2', k3', t1', t2', t3', he2'⟩ := he'); (subst he2'); (try dsimp only at  hE' hW'); (try ((first | (have fr' := BlkL.fresh (by with_reducible assumption) (by k_asm) (by k_asm) (by walk_at "mine own") (by walk_at "mine rst") hW') | (have fr' := Blk.fresh (by with_reducible assumption) (by k_asm) (by k_asm) (by walk_at "mine rst") hW') | (have fr' := New.fresh hW' (Back.ext (by with_reducible assumption) (by with_reducible assumption) (by k_asm) (by k_asm) (by walk_at "mine ext")))); simp only [List.forall_mem_cons] at fr'; obtain ⟨fr1', fr2', fr3', fr9'⟩ := fr')); (have ap' := New.apart (by k_asm) hW'); (simp only [List.forall_mem_cons] at ap'); (obtain ⟨ap1', ap2', ap3', ap9'⟩ := ap'); (have hF' := Fr.keeps (by k_asm) hE'); (have hN' := back_news (by k_asm) (by k_asm) hE' hW'); (try simp only [List.cons_append, List.nil_append] at hN'); (try k_sweep); (try dsimp only)))
local macro_rules | `(tactic| walk_at "mine code") => `(tactic| ((with_reducible show codeAny _ _ (Code.call (Value.ref 109) _) _ _); (refine uwr (by first | with_reducible assumption | exact Or.inl ⟨rfl, rfl⟩ | exact Or.inr ⟨rfl, rfl⟩) (by with_reducible assumption) (by with_reducible assumption) (by with_reducible assumption) (by with_reducible assumption) (by with_unfolding_all assumption) (by walk_at "mine kn") (by k_room) ?_); (intro vs' h' tk' hK' hG' hI'); (try dsimp only at hK' hG'); (have hF' := fr_upd (by k_asm) (by k_asm) (by k_memK) hK'); (have hN' := news_upd (by k_asm) (by k_upd) hK' hG'); (try dsimp only [List.cons_append, List.nil_append] at hN'); (try k_sweep); (try dsimp only)))
local macro_rules | `(tactic| walk_at "getAttr ref") => `(tactic| ((with_reducible show wpAny _ _ (getAttr (Value.ref _) (PySem.Str.ofString "value") _) _ _ _); (refine get_value (by k_asm) (by assumption) (by k_room) (by k_inst) (by k_handed) ?_); (intro h' tk' hE'); (try dsimp only at hE'); (have hF' := Fr.keeps (by k_asm) hE'); (have hN' := News.grown (by k_asm) hE'); (try k_sweep)))
local macro_rules | `(tactic| walk_at "mine extR") => `(tactic| first | exact List.forall_mem_nil _ | ((refine List.forall_mem_cons.mpr (And.intro ?x ?_)); (case x => first | exact Or.inr rfl | exact Or.inl (by k_memK)); walk_at "mine extR"))
local macro_rules | `(tactic| walk_at "exec For Name Call cons nil") => `(tactic| (with_unfolding_all refine' For_turns ?F ?_; (case F => k_asm); k_whole))
local macro_rules | `(tactic| walk_at "pyIter ref") => `(tactic| ((with_reducible show wpAny _ _ (pyIter (Value.ref _)) (fun it s₂ => TurnsAt _ _ _ _ _ _ _ _ _ it s₂) _ _); (refine iter_listTurns (vs := [_]) (by with_unfolding_all assumption) (by k_asm) (by k_asm) (by k_memK) rfl rfl ?_); intro i' l1; (try k_lt l1)))
section
variable {prog : Program} {w : World} {A : Around} {s : Shared} {p : Program} {loose : List Str} {mg mb : Str → Option Value} {R : Result → Shared → Prop}
theorem cuwr {b : Heap} {fa c dc f df Df x dx D d RL : Addr} {dl : Int} {ix : List (Int × Tok)} {k1 k2 k3 k4 k5 l r : Int} {t1 t2 t3 t4 t5 tf n nf nv tl tr : Nat} {o : Obj} {vs : List Value} {ns : List Int} {root : Value} (hf : fa = 1026 ∧ dl = 1 ∨ fa = 1033 ∧ dl = -2) (hi : IntsAre vs ns) (hx : ix.length = 1 ∨ ix.length = 2) (hb : ∀ q ∈ ix, 0 ≤ q.1 ∧ q.1 < ns.length) (h8 : ns.length ≤ 8) (hh : A.handled = none)
    (hd : o.IsDictOf (strKind prog w) (docKs l r tl tr RL)) (lo : (d == sysModules) = false)
    (H : Kn w p loose mg mb b s.heap [(c, instObj 427 dc), (dc, dictOf (cEs k2 k3 t2 t3 f x) n), (f, instObj 638 df), (df, dictOf (fEs k4 k5 t4 t5 Df) nf), (Df, { cls := .type "tuple", data := .seq #[.str "row" tf] }), (x, instObj 737 dx), (dx, dictOf [⟨k1, .str "indices" t1, .ref D⟩] 1), (D, tupI ix), (d, o), (RL, listOf vs.toArray nv)]) (hroom : A.depth + 90 ≤ 900)
    (h : ∀ vs' h' tk, (∀ x o, x ≠ RL → s.heap.get? x = some o → h'.get? x = some o) → h'.get? RL = some (listOf vs'.toArray nv) → IntsAre vs' (bump dl ns (ix.map (·.1))) → R (.ok (.ret (.ref d))) { s with heap := h', toks := tk }) :
    codeAny (model prog w) A (.call (.ref 368) ⟨[.ref c, .ref d, .ref fa, root], []⟩) R s := by
  refine enterK H [("self", .ref c), ("data", .ref d), ("val", .ref fa), ("root", root)] (by k_room) ?_
  intro g L' h₁ tk B G F N
  have X := G.X
  have T := G.T
  have EB := Ext.refl s.heap
  have n1 := ne_of_obj (a := RL) (c := x) N (by k_memK) (by k_memK) ne_inst_seq
  have n2 := ne_of_obj (a := RL) (c := dx) N (by k_memK) (by k_memK) ne_seq_dict
  have n3 := ne_of_obj (a := RL) (c := D) N (by k_memK) (by k_memK) ne_list_tuple
  have n4 := ne_of_obj (a := RL) (c := c) N (by k_memK) (by k_memK) ne_inst_seq
  have n5 := ne_of_obj (a := RL) (c := dc) N (by k_memK) (by k_memK) ne_seq_dict
  have n6 := ne_of_obj (a := RL) (c := f) N (by k_memK) (by k_memK) ne_inst_seq
  have n7 := ne_of_obj (a := RL) (c := df) N (by k_memK) (by k_memK) ne_seq_dict
  have n8 := ne_of_obj (a := RL) (c := Df) N (by k_memK) (by k_memK) ne_list_tuple
  have n9 := ne_of_obj (a := RL) (c := d) N (by k_memK) (by k_memK) (ne_seq_isdict hd)
  walk_at "mine walk"
  exact h _ _ _ (B.extR (by k_asm) (by k_asm) (by walk_at "mine extR")) (News.get (by k_asm) (by k_memK)) (by with_reducible assumption)
local macro_rules | `(tactic| walk_at "mine code") => `(tactic| ((with_reducible show codeAny _ _ (Code.call (Value.ref 368) _) _ _); (refine cuwr (by first | with_reducible assumption | exact Or.inl ⟨rfl, rfl⟩ | exact Or.inr ⟨rfl, rfl⟩) (by with_reducible assumption) (by with_reducible assumption) (by with_reducible assumption) (by with_reducible assumption) (by with_unfolding_all assumption) (by assumption) (by assumption) (by walk_at "mine kn") (by k_room) ?_); (intro vs' h' tk' hK' hG' hI'); (try dsimp only at hK' hG'); (have hF' := fr_upd (by k_asm) (by k_asm) (by k_memK) hK'); (have hN' := news_upd (by k_asm) (by k_upd) hK' hG'); (try dsimp only [List.cons_append, List.nil_append] at hN'); (try k_sweep); (try dsimp only)))
theorem cupd {b : Heap} {fa c dc f df Df x dx D d RL : Addr} {dl : Int} {ix : List (Int × Tok)} {k1 k2 k3 k4 k5 l r : Int} {t1 t2 t3 t4 t5 tf n nf nv tl tr : Nat} {o : Obj} {vs : List Value} {ns : List Int} (hf : fa = 1026 ∧ dl = 1 ∨ fa = 1033 ∧ dl = -2) (hi : IntsAre vs ns) (hx : ix.length = 1 ∨ ix.length = 2) (hb : ∀ q ∈ ix, 0 ≤ q.1 ∧ q.1 < ns.length) (h8 : ns.length ≤ 8) (hh : A.handled = none)
    (hd : o.IsDictOf (strKind prog w) (docKs l r tl tr RL)) (lo : (d == sysModules) = false)
    (H : Kn w p loose mg mb b s.heap [(c, instObj 427 dc), (dc, dictOf (cEs k2 k3 t2 t3 f x) n), (f, instObj 638 df), (df, dictOf (fEs k4 k5 t4 t5 Df) nf), (Df, { cls := .type "tuple", data := .seq #[.str "row" tf] }), (x, instObj 737 dx), (dx, dictOf [⟨k1, .str "indices" t1, .ref D⟩] 1), (D, tupI ix), (d, o), (RL, listOf vs.toArray nv)]) (hroom : A.depth + 100 ≤ 900)
    (h : ∀ vs' h' tk, (∀ x o, x ≠ RL → s.heap.get? x = some o → h'.get? x = some o) → h'.get? RL = some (listOf vs'.toArray nv) → IntsAre vs' (bump dl ns (ix.map (·.1))) → R (.ok (.ret (.ref d))) { s with heap := h', toks := tk }) :
    codeAny (model prog w) A (.call (.ref 361) ⟨[.ref c, .ref d, .ref fa], []⟩) R s := by
  refine enterK H [("self", .ref c), ("data", .ref d), ("val", .ref fa)] (by k_room) ?_
  intro g L' h₁ tk B G F N
  have X := G.X
  have T := G.T
  have EB := Ext.refl s.heap
  have n1 := ne_of_obj (a := RL) (c := x) N (by k_memK) (by k_memK) ne_inst_seq
  have n2 := ne_of_obj (a := RL) (c := dx) N (by k_memK) (by k_memK) ne_seq_dict
  have n3 := ne_of_obj (a := RL) (c := D) N (by k_memK) (by k_memK) ne_list_tuple
  have n4 := ne_of_obj (a := RL) (c := c) N (by k_memK) (by k_memK) ne_inst_seq
  have n5 := ne_of_obj (a := RL) (c := dc) N (by k_memK) (by k_memK) ne_seq_dict
  have n6 := ne_of_obj (a := RL) (c := f) N (by k_memK) (by k_memK) ne_inst_seq
  have n7 := ne_of_obj (a := RL) (c := df) N (by k_memK) (by k_memK) ne_seq_dict
  have n8 := ne_of_obj (a := RL) (c := Df) N (by k_memK) (by k_memK) ne_list_tuple
  have n9 := ne_of_obj (a := RL) (c := d) N (by k_memK) (by k_memK) (ne_seq_isdict hd)
  walk_at "mine walk"
  exact h _ _ _ (B.extR (by k_asm) (by k_asm) (by walk_at "mine extR")) (News.get (by k_asm) (by k_memK)) (by with_reducible assumption)
end
end

section
local macro_rules | `(tactic| walk_at "mine code") => `(tactic| ((with_reducible show codeAny _ _ (Code.call (Value.ref 158) ⟨[_, Value.ref _], []⟩) _ _); (refine wrap_doc (by assumption) (by walk_at "mine kn") (by k_room) ?_); (intro x' dx' t' dt' es' h' tk'  hE' hW' he'); (obtain ⟨k1', k2', k3', t1', t2', t3', he2'⟩ := he'); (subst he2'); (try dsimp only at  hE' hW'); (try ((first | (have fr' := BlkL.fresh (by with_reducible assumption) (by k_asm) (by k_asm) (by walk_at "mine own") (by walk_at "mine rst") hW') | (have fr' := Blk.fresh (by with_reducible assumption) (by k_asm) (by k_asm) (by walk_at "mine rst") hW') | (have fr' := New.fresh hW' (Back.ext (by with_reducible assumption) (by with_reducible assumption) (by k_asm) (by k_asm) (by walk_at "mine ext")))); simp only [List.forall_mem_cons] at fr'; obtain ⟨fr1', fr2', fr3', fr4', fr9'⟩ := fr')); (have ap' := New.apart (by k_asm) hW'); (simp only [List.forall_mem_cons] at ap'); (obtain ⟨ap1', ap2', ap3', ap4', ap9'⟩ := ap'); (have hF' := Fr.keeps (by k_asm) hE'); (have hN' := back_news (by k_asm) (by k_asm) hE' hW'); (try simp only [List.cons_append, List.nil_append] at hN'); (try k_sweep); (try dsimp only)))
local macro_rules | `(tactic| walk_at "mine code") => `(tactic| ((with_reducible show codeAny _ _ (Code.call (Value.ref 560) _) _ _); (refine reified (by walk_at "mine kn") (by k_room) ?_); (intro  h' tk'  hE'  ); (try dsimp only at  hE' ); (have hF' := Fr.keeps (by k_asm) hE'); (have hN' := News.grown (by k_asm) hE'); (try k_sweep); (try dsimp only)))
local macro_rules | `(tactic| walk_at "mine code") => `(tactic| ((with_reducible show codeAny _ _ (Code.call (Value.ref _) ⟨[_, _, _], []⟩) _ _); (refine law_fn (by first | with_reducible assumption | exact Or.inl ⟨rfl, rfl⟩ | exact Or.inr ⟨rfl, rfl⟩) (by walk_at "mine kn") (by k_room) ?_); (intro t' h' tk'  hE'  ); (try dsimp only at  hE' ); (have hF' := Fr.keeps (by k_asm) hE'); (have hN' := News.grown (by k_asm) hE'); (try k_sweep); (try dsimp only)))
local macro_rules | `(tactic| walk_at "getAttr ref") => `(tactic| ((with_reducible show wpAny _ _ (getAttr (Value.ref _) (PySem.Str.ofString "value") _) _ _ _); (refine get_value (by k_asm) (by assumption) (by k_room) (by k_inst) (by k_handed) ?_); (intro h' tk' hE'); (try dsimp only at hE'); (have hF' := Fr.keeps (by k_asm) hE'); (have hN' := News.grown (by k_asm) hE'); (try k_sweep)))
local macro_rules | `(tactic| walk_at "call type:type") => `(tactic| (refine isdict_type (by assumption) (News.get (by k_asm) (by k_memK)) ?_))
local macro_rules | `(tactic| walk_at "mine extR") => `(tactic| first | exact List.forall_mem_nil _ | ((refine List.forall_mem_cons.mpr (And.intro ?x ?_)); (case x => first | exact Or.inr rfl | exact Or.inl (by k_memK)); walk_at "mine extR"))
local macro_rules | `(tactic| walk_at "exec For Name Call cons nil") => `(tactic| (with_unfolding_all refine' For_turns ?F ?_; (case F => k_asm); k_whole))
local macro_rules | `(tactic| walk_at "pyIter ref") => `(tactic| ((with_reducible show wpAny _ _ (pyIter (Value.ref _)) (fun it s₂ => TurnsAt _ _ _ _ _ _ _ _ _ it s₂) _ _); (refine iter_tupTurns (vs := [_]) (by with_unfolding_all assumption) (by k_asm) (by k_asm) (by k_memK) rfl rfl ?_); intro i' l1; (try k_lt l1)))
local macro_rules | `(tactic| walk_at "call builtin:callable") => `(tactic| refine run_callable (by k_in) (by k_is) ?_)
local macro_rules | `(tactic| walk_at "call builtin:hasattr") => `(tactic| ((refine isdict_get (by assumption) (News.get (by k_asm) (by k_memK)) ?_); intro h' tk' hE'; (try dsimp only at hE'); (have hF' := Fr.keeps (by k_asm) hE'); (have hN' := News.grown (by k_asm) hE'); (try k_sweep)))
section
variable {prog : Program} {w : World} {A : Around} {s : Shared} {p : Program} {loose : List Str} {mg mb : Str → Option Value} {R : Result → Shared → Prop}
theorem fubL {b : Heap} {f df Df d RL : Addr} {k4 k5 l r : Int} {t4 t5 tf nf tl tr : Nat} {o : Obj} (hh : A.handled = none) (hd : o.IsDictOf (strKind prog w) (docKs l r tl tr RL)) (lo : (d == sysModules) = false)
    (H : Kn w p loose mg mb b s.heap [(f, instObj 638 df), (df, dictOf (fEs k4 k5 t4 t5 Df) nf), (Df, { cls := .type "tuple", data := .seq #[.str "left" tf] }), (d, o)]) (hne : @Ne Nat d df) (hroom : A.depth + 40 ≤ 900)
    (h : ∀ o' tl' h' tk, (∀ x o, x ≠ d → s.heap.get? x = some o → h'.get? x = some o) → h'.get? d = some o' → o'.IsDictOf (strKind prog w) (docKs (l + 1) r tl' tr RL) → R (.ok (.ret (.ref d))) { s with heap := h', toks := tk }) :
    codeAny (model prog w) A (.call (.ref 600) ⟨[.ref f, .ref d, .ref 1026], [("create", .bool false)]⟩) R s := by
  refine enterK H [("self", .ref f), ("data", .ref d), ("val", .ref 1026), ("create", .bool false)] (by k_room) ?_
  intro g L' h₁ tk B G F N
  have X := G.X
  have T := G.T
  have EB := Ext.refl s.heap
  have n1 := ne_of_obj (a := d) (c := f) N (by k_memK) (by k_memK) (ne_isdict_inst hd)
  have n2 := ne_of_obj (a := d) (c := Df) N (by k_memK) (by k_memK) (ne_isdict_seq hd)
  walk_at "mine walk"
  exact h _ _ _ _ (B.extR (by k_asm) (by k_asm) (by walk_at "mine extR")) (News.get (by k_asm) (by k_memK)) (by assumption)
local macro_rules | `(tactic| walk_at "mine code") => `(tactic| ((with_reducible show codeAny _ _ (Code.call (Value.ref 600) _) _ _); (refine fubL (by with_unfolding_all assumption) (by assumption) (by assumption) (by walk_at "mine kn") (by k_ne) (by k_room) ?_); (intro o' tl' h' tk' hK' hG' hI'); (try dsimp only at hK' hG'); (have hF' := fr_upd (by k_asm) (by k_asm) (by k_memK) hK'); (have hN' := news_upd (by k_asm) (by k_upd) hK' hG'); (try dsimp only [List.cons_append, List.nil_append] at hN'); (try k_sweep); (try dsimp only)))
theorem fupL {b : Heap} {f df Df d RL : Addr} {k4 k5 l r : Int} {t4 t5 tf nf tl tr : Nat} {o : Obj} (hh : A.handled = none) (hd : o.IsDictOf (strKind prog w) (docKs l r tl tr RL)) (lo : (d == sysModules) = false)
    (H : Kn w p loose mg mb b s.heap [(f, instObj 638 df), (df, dictOf (fEs k4 k5 t4 t5 Df) nf), (Df, { cls := .type "tuple", data := .seq #[.str "left" tf] }), (d, o)]) (hne : @Ne Nat d df) (hroom : A.depth + 60 ≤ 900)
    (h : ∀ o' tl' h' tk, (∀ x o, x ≠ d → s.heap.get? x = some o → h'.get? x = some o) → h'.get? d = some o' → o'.IsDictOf (strKind prog w) (docKs (l + 1) r tl' tr RL) → R (.ok (.ret (.ref d))) { s with heap := h', toks := tk }) :
    codeAny (model prog w) A (.call (.ref 586) ⟨[.ref f, .ref d, .ref 1026], []⟩) R s := by
  refine enterK H [("self", .ref f), ("data", .ref d), ("val", .ref 1026)] (by k_room) ?_
  intro g L' h₁ tk B G F N
  have X := G.X
  have T := G.T
  have EB := Ext.refl s.heap
  have n1 := ne_of_obj (a := d) (c := f) N (by k_memK) (by k_memK) (ne_isdict_inst hd)
  have n2 := ne_of_obj (a := d) (c := Df) N (by k_memK) (by k_memK) (ne_isdict_seq hd)
  walk_at "mine walk"
  exact h _ _ _ _ (B.extR (by k_asm) (by k_asm) (by walk_at "mine extR")) (News.get (by k_asm) (by k_memK)) (by assumption)
theorem fubR {b : Heap} {f df Df d RL : Addr} {k4 k5 l r : Int} {t4 t5 tf nf tl tr : Nat} {o : Obj} (hh : A.handled = none) (hd : o.IsDictOf (strKind prog w) (docKs l r tl tr RL)) (lo : (d == sysModules) = false)
    (H : Kn w p loose mg mb b s.heap [(f, instObj 638 df), (df, dictOf (fEs k4 k5 t4 t5 Df) nf), (Df, { cls := .type "tuple", data := .seq #[.str "right" tf] }), (d, o)]) (hne : @Ne Nat d df) (hroom : A.depth + 40 ≤ 900)
    (h : ∀ o' tr' h' tk, (∀ x o, x ≠ d → s.heap.get? x = some o → h'.get? x = some o) → h'.get? d = some o' → o'.IsDictOf (strKind prog w) (docKs l (r + 1) tl tr' RL) → R (.ok (.ret (.ref d))) { s with heap := h', toks := tk }) :
    codeAny (model prog w) A (.call (.ref 600) ⟨[.ref f, .ref d, .ref 1026], [("create", .bool false)]⟩) R s := by
  refine enterK H [("self", .ref f), ("data", .ref d), ("val", .ref 1026), ("create", .bool false)] (by k_room) ?_
  intro g L' h₁ tk B G F N
  have X := G.X
  have T := G.T
  have EB := Ext.refl s.heap
  have n1 := ne_of_obj (a := d) (c := f) N (by k_memK) (by k_memK) (ne_isdict_inst hd)
  have n2 := ne_of_obj (a := d) (c := Df) N (by k_memK) (by k_memK) (ne_isdict_seq hd)
  walk_at "mine walk"
  exact h _ _ _ _ (B.extR (by k_asm) (by k_asm) (by walk_at "mine extR")) (News.get (by k_asm) (by k_memK)) (by assumption)
local macro_rules | `(tactic| walk_at "mine code") => `(tactic| ((with_reducible show codeAny _ _ (Code.call (Value.ref 600) _) _ _); (refine fubR (by with_unfolding_all assumption) (by assumption) (by assumption) (by walk_at "mine kn") (by k_ne) (by k_room) ?_); (intro o' tl' h' tk' hK' hG' hI'); (try dsimp only at hK' hG'); (have hF' := fr_upd (by k_asm) (by k_asm) (by k_memK) hK'); (have hN' := news_upd (by k_asm) (by k_upd) hK' hG'); (try dsimp only [List.cons_append, List.nil_append] at hN'); (try k_sweep); (try dsimp only)))
theorem fupR {b : Heap} {f df Df d RL : Addr} {k4 k5 l r : Int} {t4 t5 tf nf tl tr : Nat} {o : Obj} (hh : A.handled = none) (hd : o.IsDictOf (strKind prog w) (docKs l r tl tr RL)) (lo : (d == sysModules) = false)
    (H : Kn w p loose mg mb b s.heap [(f, instObj 638 df), (df, dictOf (fEs k4 k5 t4 t5 Df) nf), (Df, { cls := .type "tuple", data := .seq #[.str "right" tf] }), (d, o)]) (hne : @Ne Nat d df) (hroom : A.depth + 60 ≤ 900)
    (h : ∀ o' tr' h' tk, (∀ x o, x ≠ d → s.heap.get? x = some o → h'.get? x = some o) → h'.get? d = some o' → o'.IsDictOf (strKind prog w) (docKs l (r + 1) tl tr' RL) → R (.ok (.ret (.ref d))) { s with heap := h', toks := tk }) :
    codeAny (model prog w) A (.call (.ref 586) ⟨[.ref f, .ref d, .ref 1026], []⟩) R s := by
  refine enterK H [("self", .ref f), ("data", .ref d), ("val", .ref 1026)] (by k_room) ?_
  intro g L' h₁ tk B G F N
  have X := G.X
  have T := G.T
  have EB := Ext.refl s.heap
  have n1 := ne_of_obj (a := d) (c := f) N (by k_memK) (by k_memK) (ne_isdict_inst hd)
  have n2 := ne_of_obj (a := d) (c := Df) N (by k_memK) (by k_memK) (ne_isdict_seq hd)
  walk_at "mine walk"
  exact h _ _ _ _ (B.extR (by k_asm) (by k_asm) (by walk_at "mine extR")) (News.get (by k_asm) (by k_memK)) (by assumption)
end
end

section
local macro_rules | `(tactic| walk_at "getAttr ref") => `(tactic| ((with_reducible show wpAny _ _ (getAttr (Value.ref _) (PySem.Str.ofString "value") _) _ _ _); (refine get_value (by k_asm) (by assumption) (by k_room) (by k_inst) (by k_handed) ?_); (intro h' tk' hE'); (try dsimp only at hE'); (have hF' := Fr.keeps (by k_asm) hE'); (have hN' := News.grown (by k_asm) hE'); (try k_sweep)))
section
variable {prog : Program} {w : World} {A : Around} {s : Shared} {p : Program} {loose : List Str} {mg mb : Str → Option Value} {R : Result → Shared → Prop}
theorem child_new {b : Heap} {f q : Addr} (H : Kn w p loose mg mb b s.heap []) (hroom : A.depth + 10 ≤ 900)
    (h : ∀ x dx es h' tk, Ext s.heap h' → New s.heap h' [(x, instObj 427 dx), (dx, dictOf es 2)] →
      (∃ k1 k2 t1 t2, es = cEs k1 k2 t1 t2 f q) → R (.ok (.ret (.ref x))) { s with heap := h', toks := tk }) :
    codeAny (model prog w) A (.call (.ref 427) ⟨[.ref f, .ref q], []⟩) R s := by
  refine makeK H ?_
  intro x dx h' l1 l2 l0 E fx fdx H'
  simp only [AllLt] at l2
  refine enterK H' [("self", .ref x), ("left", .ref f), ("right", .ref q)] (by k_room) ?_
  intro g L' h₁ tk B G F N
  have X := G.X
  have T := G.T
  walk_at "mine walk"
  exact ⟨rfl, h _ _ _ _ _ (B.ext E (by assumption) (by assumption) (by walk_at "mine ext")) (B.new E (by assumption) (by assumption) (by walk_at "mine new")) ⟨_, _, _, _, rfl⟩⟩
theorem expr_new {b : Heap} {T : Addr} {t u : Tok} (H : Kn w p loose mg mb b s.heap []) (hroom : A.depth + 10 ≤ 900)
    (h : ∀ x dx es h' tk, Ext s.heap h' → New s.heap h' [(x, instObj 943 dx), (dx, dictOf es 3)] →
      (∃ k1 k2 k3 t1 t2 t3 t4 t5, es = eEs k1 k2 k3 t1 t2 t3 t4 t5 T) → R (.ok (.ret (.ref x))) { s with heap := h', toks := tk }) :
    codeAny (model prog w) A (.call (.ref 943) ⟨[.ref T, .str ">=" t, .int 2 u], []⟩) R s := by
  refine makeK H ?_
  intro x dx h' l1 l2 l0 E fx fdx H'
  simp only [AllLt] at l2
  refine enterK H' [("self", .ref x), ("target", .ref T), ("op", .str ">=" t), ("value", .int 2 u)] (by k_room) ?_
  intro g L' h₁ tk B G F N
  have X := G.X
  have T := G.T
  walk_at "mine walk"
  exact ⟨rfl, h _ _ _ _ _ (B.ext E (by assumption) (by assumption) (by walk_at "mine ext")) (B.new E (by assumption) (by assumption) (by walk_at "mine new")) ⟨_, _, _, _, _, _, _, _, rfl⟩⟩
theorem filter_new {b : Heap} {l e : Addr} {nl : Nat} (H : Kn w p loose mg mb b s.heap [(l, { cls := .type "list", data := .seq #[.ref e] nl })]) (hroom : A.depth + 10 ≤ 900)
    (h : ∀ x dx XL nx es h' tk, Ext s.heap h' → New s.heap h' [(x, instObj 898 dx), (dx, dictOf es 1), (XL, { cls := .type "list", data := .seq #[.ref e] nx })] →
      (∃ k1 t1, es = flEs k1 t1 XL) → R (.ok (.ret (.ref x))) { s with heap := h', toks := tk }) :
    codeAny (model prog w) A (.call (.ref 898) ⟨[.ref l], []⟩) R s := by
  refine makeK H ?_
  intro x dx h' l1 l2 l0 E fx fdx H'
  simp only [AllLt] at l2
  refine enterK H' [("self", .ref x), ("expressions", .ref l)] (by k_room) ?_
  intro g L' h₁ tk B G F N
  have X := G.X
  have T := G.T
  walk_at "mine walk"
  exact ⟨rfl, h _ _ _ _ _ _ _ (B.ext E (by assumption) (by assumption) (by walk_at "mine ext")) (B.new E (by assumption) (by assumption) (by walk_at "mine new")) ⟨_, _, rfl⟩⟩
end
end

section
local macro_rules | `(tactic| walk_at "getAttr ref") => `(tactic| ((with_reducible show wpAny _ _ (getAttr (Value.ref _) (PySem.Str.ofString "value") _) _ _ _); (refine get_value (by k_asm) (by assumption) (by k_room) (by k_inst) (by k_handed) ?_); (intro h' tk' hE'); (try dsimp only at hE'); (have hF' := Fr.keeps (by k_asm) hE'); (have hN' := News.grown (by k_asm) hE'); (try k_sweep)))
section
variable {prog : Program} {w : World} {A : Around} {s : Shared} {p : Program} {loose : List Str} {mg mb : Str → Option Value} {R : Result → Shared → Prop}
theorem cupd1 {b : Heap} {fa c dc f df Df x dx D d RL : Addr} {dl i : Int} {t : Tok} {k1 k2 k3 k4 k5 l r : Int} {t1 t2 t3 t4 t5 tf n nf nv tl tr : Nat} {o : Obj} {vs : List Value} {ns : List Int} (hf : fa = 1026 ∧ dl = 1 ∨ fa = 1033 ∧ dl = -2) 
    (hd : o.IsDictOf (strKind prog w) (docKs l r tl tr RL)) (lo : (d == sysModules) = false)
    (H : Kn w p loose mg mb b s.heap [(c, instObj 427 dc), (dc, dictOf (cEs k2 k3 t2 t3 f x) n), (f, instObj 638 df), (df, dictOf (fEs k4 k5 t4 t5 Df) nf), (Df, { cls := .type "tuple", data := .seq #[.str "row" tf] }), (x, instObj 737 dx), (dx, dictOf [⟨k1, .str "indices" t1, .ref D⟩] 1), (D, { cls := .type "tuple", data := .seq #[.int i t] }), (d, o), (RL, listOf vs.toArray nv)]) (hroom : A.depth + 100 ≤ 900) (hi : IntsAre vs ns) (hb : 0 ≤ i ∧ i < ns.length) (h8 : ns.length ≤ 8) (hh : A.handled = none)
    (h : ∀ vs' h' tk, (∀ x o, x ≠ RL → s.heap.get? x = some o → h'.get? x = some o) → h'.get? RL = some (listOf vs'.toArray nv) → IntsAre vs' (bump dl ns [i]) → R (.ok (.ret (.ref d))) { s with heap := h', toks := tk }) :
    codeAny (model prog w) A (.call (.ref 361) ⟨[.ref c, .ref d, .ref fa], []⟩) R s :=
  cupd (ix := [(i, t)]) hf hi (Or.inl rfl) (fun q hq => by rw [List.mem_singleton.mp hq]; exact hb) h8 hh hd lo H hroom h
theorem cupd2 {b : Heap} {fa c dc f df Df x dx D d RL : Addr} {dl i j : Int} {t u : Tok} {k1 k2 k3 k4 k5 l r : Int} {t1 t2 t3 t4 t5 tf n nf nv tl tr : Nat} {o : Obj} {vs : List Value} {ns : List Int} (hf : fa = 1026 ∧ dl = 1 ∨ fa = 1033 ∧ dl = -2) 
    (hd : o.IsDictOf (strKind prog w) (docKs l r tl tr RL)) (lo : (d == sysModules) = false)
    (H : Kn w p loose mg mb b s.heap [(c, instObj 427 dc), (dc, dictOf (cEs k2 k3 t2 t3 f x) n), (f, instObj 638 df), (df, dictOf (fEs k4 k5 t4 t5 Df) nf), (Df, { cls := .type "tuple", data := .seq #[.str "row" tf] }), (x, instObj 737 dx), (dx, dictOf [⟨k1, .str "indices" t1, .ref D⟩] 1), (D, { cls := .type "tuple", data := .seq #[.int i t, .int j u] }), (d, o), (RL, listOf vs.toArray nv)]) (hroom : A.depth + 100 ≤ 900) (hi : IntsAre vs ns) (hb : (0 ≤ i ∧ i < ns.length) ∧ 0 ≤ j ∧ j < ns.length) (h8 : ns.length ≤ 8) (hh : A.handled = none)
    (h : ∀ vs' h' tk, (∀ x o, x ≠ RL → s.heap.get? x = some o → h'.get? x = some o) → h'.get? RL = some (listOf vs'.toArray nv) → IntsAre vs' (bump dl ns [i, j]) → R (.ok (.ret (.ref d))) { s with heap := h', toks := tk }) :
    codeAny (model prog w) A (.call (.ref 361) ⟨[.ref c, .ref d, .ref fa], []⟩) R s :=
  cupd (ix := [(i, t), (j, u)]) hf hi (Or.inr rfl) (fun q hq => by
    rcases List.mem_cons.mp hq with rfl | hq
    · exact hb.1
    · rw [List.mem_singleton.mp hq]; exact hb.2) h8 hh hd lo H hroom h
end
end

section
local macro_rules | `(tactic| walk_at "mine code") => `(tactic| ((with_reducible show codeAny _ _ (Code.call (Value.ref 567) _) _ _); (refine find_f (by assumption) (by assumption) (by walk_at "mine kn") (by with_unfolding_all assumption) (by k_room) ?_); (intro l' nl' y' dy' es' h' tk'  hE' hW' he'); (obtain ⟨f', x', k1', k2', k3', t1', t2', t3', he2'⟩ := he'); (subst he2'); (try dsimp only at  hE' hW'); (try ((first | (have fr' := BlkL.fresh (by with_reducible assumption) (by k_asm) (by k_asm) (by walk_at "mine own") (by walk_at "mine rst") hW') | (have fr' := Blk.fresh (by with_reducible assumption) (by k_asm) (by k_asm) (by walk_at "mine rst") hW') | (have fr' := New.fresh hW' (Back.ext (by with_reducible assumption) (by with_reducible assumption) (by k_asm) (by k_asm) (by walk_at "mine ext")))); simp only [List.forall_mem_cons] at fr'; obtain ⟨fr1', fr2', fr3', fr9'⟩ := fr')); (have ap' := New.apart (by k_asm) hW'); (simp only [List.forall_mem_cons] at ap'); (obtain ⟨ap1', ap2', ap3', ap9'⟩ := ap'); (have hF' := Fr.keeps (by k_asm) hE'); (have hN' := back_news (by k_asm) (by k_asm) hE' hW'); (try simp only [List.cons_append, List.nil_append] at hN'); (try k_sweep); (try dsimp only)))
local macro_rules | `(tactic| walk_at "getAttr ref") => `(tactic| ((with_reducible show wpAny _ _ (getAttr (Value.ref _) (PySem.Str.ofString "value") _) _ _ _); (refine get_value (by k_asm) (by assumption) (by k_room) (by k_inst) (by k_handed) ?_); (intro h' tk' hE'); (try dsimp only at hE'); (have hF' := Fr.keeps (by k_asm) hE'); (have hN' := News.grown (by k_asm) hE'); (try k_sweep)))
local macro_rules | `(tactic| walk_at "eval ListComp") => `(tactic| (with_reducible show wpAny _ _ (eval (Expr.ListComp (Expr.Name _ _) [⟨Expr.Name _ _, _, _, _⟩, ⟨Expr.Name _ _, _, _, _⟩] _ _) _) _ _ _; refine' lc3_eval ?hclos ?hcell ?hkind ?hnames ?hx ?hz ?hzd ?hs2 ?_ ?hs; (case hclos => with_unfolding_all rfl); (case hcell => decide); (case hkind => with_unfolding_all rfl); (case hnames => decide); (case hx => rfl); (case hz => rfl); (case hzd => decide); (case hs2 => intro _ _; with_unfolding_all rfl); (case hs => intro _; with_unfolding_all rfl)))
section
variable {prog : Program} {w : World} {A : Around} {s : Shared} {p : Program} {loose : List Str} {mg mb : Str → Option Value} {R : Result → Shared → Prop}
theorem child_find {b : Heap} {c dc f df Df fl dfl XL e de TT dT d RL : Addr} {k0 k1 k2 k3 k4 k5 k6 k7 l r : Int} {t0 t1 t2 t3 t4 t5 t6 t7 t8 t9 tf n n0 n1 nf nx nv tl tr : Nat} {o : Obj} {vs ps : Array Value} (hh : A.handled = none)
    (hd : o.IsDictOf (strKind prog w) (docKs l r tl tr RL)) (lo : (d == sysModules) = false) (htr : TriplesOk ps.toList) (hsz : vs.size ≤ sizeLine) (hint : ∀ (k : Nat) (v : Value), vs[k]? = some v → ∃ n t, v = Value.int n t)
    (H : Kn w p loose mg mb b s.heap [(c, instObj 427 dc), (dc, dictOf (cEs k6 k7 t6 t7 f fl) n1), (f, instObj 638 df), (df, dictOf (fEs k4 k5 t8 t9 Df) nf), (Df, { cls := .type "tuple", data := .seq #[.str "row" tf] }), (fl, instObj 898 dfl), (dfl, dictOf (flEs k0 t0 XL) n0), (XL, { cls := .type "list", data := .seq #[.ref e] nx }), (e, instObj 943 de), (de, dictOf (eEs k1 k2 k3 t1 t2 t3 t4 t5 TT) n), (TT, instObj 333 dT), (dT, dictOf [] 0), (d, o),
      (RL, { cls := .type "list", data := .seq vs nv }), (823, tabO ps)]) (hroom : A.depth + 110 ≤ 900)
    (h : ∀ l' nl ys h' tk gs more, (AllBare s.gens → AllBare gs) → (∀ x o, x ≠ 823 → s.heap.get? x = some o → h'.get? x = some o) → h'.get? 823 = some (tabO (ps ++ more)) → TriplesOk (ps ++ more).toList →
      New s.heap h' [(l', { cls := .type "list", data := .seq ys.toArray nl })] → PySem.Paired (HitN s.heap h') (hits vs vs.size) ys → R (.ok (.ret (.ref l'))) { s with heap := h', toks := tk, gens := gs }) :
    codeAny (model prog w) A (.call (.ref 354) ⟨[.ref c, .ref d], []⟩) R s := by
  refine enterC H [("self", .ref c), ("datum", .ref d)] (by k_room) ?_
  intro g L' h₁ tk cells B G F N Y l1
  simp only [AllLt] at l1
  k_cells Y
  simp only [List.cons_append, List.nil_append] at N
  have X := G.X
  have T := G.T
  have EB := Ext.refl s.heap
  walk_at "mine walk"
  refine' lc3_eval ?hclos ?hcell ?hkind ?hnames ?hx ?hz ?hzd ?hs2 ?_ ?hs
  (case hclos => with_unfolding_all rfl)
  (case hcell => decide)
  (case hkind => with_unfolding_all rfl)
  (case hnames => decide)
  (case hx => rfl)
  (case hz => rfl)
  (case hzd => decide)
  (case hs2 => intro _ _; with_unfolding_all rfl)
  (case hs => intro _; with_unfolding_all rfl)
  walk_at "mine walk"
  have EH := B.ext EB (by k_asm) (by k_asm) (by walk_at "mine ext")
  refine ⟨g, _, _, _, _, _, 823, fun h ys h' gs' => (AllBare s.gens → AllBare gs') ∧ (∃ more, h'.get? 823 = some (tabO (ps ++ more)) ∧ TriplesOk (ps ++ more).toList) ∧ PySem.Paired (HitN h h') (hits vs vs.size) ys, rfl, ⟨hh, by k_asm, by k_asm, by k_memK, News.fresh (a := 823) (o := tabO ps) (by k_asm) (by k_memK), (News.ne (a := 823) (o := tabO ps) (by k_asm) (by k_memK)), ?_, ⟨_, News.get (a := 823) (o := tabO ps) (by k_asm) (by k_memK)⟩, ?_, ?_⟩⟩
  · k_ne
  · intro C hb tk hE hC F N
    have h8C := News.ne (a := 823) (o := tabO ps) N (List.mem_append_left _ (by k_memK))
    have N0 := N
    simp only [List.cons_append, List.nil_append] at N
    walk_at "mine walk"
    refine wpAny_call ?_
    refine filter_find (by with_unfolding_all assumption) (by walk_at "mine kn") htr hsz hint (by k_room) ?_
    intro l₂ nl ys h' tk' gs more hbare hk ht htr' hnew hits
    have nb := fresh_back F.keep (by k_asm) (by k_asm) (by walk_at "mine rst")
    have hoff := off_turn (by k_asm) (by k_asm) F.keep (by walk_at "mine rst")
    refine ⟨l₂, ys, h', _, gs, _, rfl, rfl, ⟨_, (hnew _ (.head _)).1, rfl, _, rfl⟩, nb _ (hnew _ (.head _)).2, ?_, Heap.Ns.at' (Fr.ns (by k_asm)) fun o e => hk _ _ (Ne.symm h8C) e, fun a o h8 ha e => hk _ _ h8 (hoff a o ha e), hbare, ⟨more, ht, htr'⟩, paired_imp (fun k y q => q.back nb fun a o _ e => e) hits⟩
    exact Nat.le_trans (Nat.le_of_eq (PySem.Paired.length hits).symm) (Nat.le_trans (hits_len vs vs.size) hsz)
  · rintro h₂ D ys h' gs' h'' tk k hE hDn hD0 ⟨hb, ⟨more, ht, htr'⟩, hits⟩ st stc keep eD
    walk_at "mine walk"
    exact h D k ys h'' tk gs' more hb (fun x o h8 e => keep x o h8 (EH x o e)) (stc _ ht) htr' (New.cons eD (none_back EH hD0) New.nil) (paired_imp (fun k y q => q.back (fun a n => none_back (Ext.trans EH hE) n) st) hits)
end
end
end Mine

namespace Mine
open PySem PySem.W PyProof.Rows PySem.Calls PySem.Spec
theorem ints_snoc {x : Int} {t : Tok} : ∀ {vs : List Value} {ns : List Int}, IntsAre vs ns → IntsAre (vs ++ [.int x t]) (ns ++ [x])
  | _, _, .nil => .cons x t .nil
  | _, _, .cons i t' h => .cons i t' (ints_snoc h)
theorem len_snoc {α : Type} {l : List α} {x : α} {i : Nat} (h : l.length = i) : (l ++ [x]).length = i + 1 := by rw [List.length_append, h]; rfl
theorem many_of (x : Int) : ∃ n : Nat, 3 + x.fmod 3 = n ∧ 3 ≤ n ∧ n ≤ 5 := by
  rw [Int.fmod_eq_emod_of_nonneg _ (by decide)]
  exact ⟨(3 + x % 3).toNat, by omega, by omega, by omega⟩
theorem row_elt (x e : Int) (h : 0 < e) : 1 ≤ 1 + x.fmod e ∧ 1 + x.fmod e ≤ e := by
  rw [Int.fmod_eq_emod_of_nonneg _ (Int.le_of_lt h)]
  have h1 := Int.emod_nonneg x (Int.ne_of_gt h)
  have h2 := Int.emod_lt_of_pos x h
  omega
theorem snoc_all {P : Int → Prop} {l : List Int} {x : Int} (h : ∀ y ∈ l, P y) (hx : P x) : ∀ y ∈ l ++ [x], P y := fun y hy => by
  rcases List.mem_append.mp hy with hy | hy
  · exact h y hy
  · rw [List.mem_singleton.mp hy]; exact hx
theorem momL_succ (rn : List Int) (i : Nat) : momL rn (i + 1) = momL rn i ++ [((i : Int) + 1) * rn.getD i 0] := by
  unfold momL
  rw [List.range_succ, List.map_append]
  rfl
theorem endL_succ (hole : Int) (i : Nat) : endL hole (i + 1) = endL hole i ++ [if (i : Int) + 1 = hole then (0 : Int) else 1] := by
  unfold endL
  rw [List.range_succ, List.map_append]
  rfl
theorem endL_len (hole : Int) (i : Nat) : (endL hole i).length = i := by unfold endL; rw [List.length_map, List.length_range]
theorem falL_succ (rn en : List Int) (n : Int) (i : Nat) : falL rn en n (i + 1) = falL rn en n i ++ [(rn.getD i 0 - en.getD i 0) * ((i : Int) + 1) * (n - i)] := by
  unfold falL
  rw [List.range_succ, List.map_append]
  rfl
theorem AllNe.get {a c : Nat} {o : Obj} : ∀ {l : List (Addr × Obj)}, AllNe c l → (a, o) ∈ l → @Ne Nat a c
  | [], _, h => absurd h List.not_mem_nil
  | q :: r, hn, h => by
    rcases List.mem_cons.mp h with rfl | h
    · exact hn.1
    · exact AllNe.get hn.2 h
theorem ints_small {vs : List Value} {ns : List Int} (hi : IntsAre vs ns) (h : ns.length ≤ 100000) : vs.toArray.size ≤ sizeLine := by
  rw [List.size_toArray, hi.length, sizeLine_eq]
  omega
theorem sumN {prog : Program} {w : World} {A : Around} {E : Value → Shared → Prop} {s : Shared} {h₀ : Heap} {L : Addr} {m : Str → Option Value} {news : List (Addr × Obj)} {l : Addr} {k : Nat} {vs : List Value} {ns : List Int} {Q : Value → Shared → Prop} (hh : A.handled = none) (F : Fr h₀ L s.heap m) (N : News h₀ L s.heap news) (hm : (l, listOf vs.toArray k) ∈ news) (hi : IntsAre vs ns)
    (h : ∀ h' tk t', Fr h₀ L h' m → News h₀ L h' news → Q (.int ns.sum t') { s with heap := h', toks := tk }) :
    wpAny (model prog w) A (call (.builtin "sum") [.ref l]) Q E s := sumK hh F N ⟨_, (N _ hm).1, rfl, _, rfl⟩ hi h
end Mine
namespace Mine
open PySem PySem.W PyProof.Rows PySem.Calls PySem.Spec
def dueL (ns : List Int) (i : Nat) : List Int := ((List.range i).filter fun k => decide (1 < ns.getD k 0)).map fun (k : Nat) => (k : Int)
theorem dueL_succ (ns : List Int) (i : Nat) : dueL ns (i + 1) = dueL ns i ++ (if 1 < ns.getD i 0 then [(i : Int)] else []) := by
  unfold dueL
  rw [List.range_succ, List.filter_append, List.map_append]
  congr 1
  by_cases h : 1 < ns.getD i 0
  · rw [if_pos h, List.filter_cons_of_pos (by simpa using h)]; rfl
  · rw [if_neg h, List.filter_cons_of_neg (by simpa using h)]; rfl
theorem ints_hint {vs : List Value} {ns : List Int} (hi : IntsAre vs ns) : ∀ (k : Nat) (v : Value), vs.toArray[k]? = some v → ∃ n t, v = Value.int n t := fun k v h => by
  have h : vs[k]? = some v := by simpa using h
  have hk : k < ns.length := by
    rw [← hi.length]
    exact (List.getElem?_eq_some_iff.mp h).1
  obtain ⟨t, hx⟩ := hi.get k ns[k] (by simp [hk])
  rw [hx] at h
  exact ⟨_, _, (Option.some.inj h).symm⟩
theorem isdict_ne_tab {prog : Program} {w : World} {kvs : List (Str × Value)} {o : Obj} {ps : Array Value} (hd : o.IsDictOf (strKind prog w) kvs) : o ≠ tabO ps := by
  rintro rfl
  obtain ⟨es, n, _, e, _⟩ := hd
  cases e
/-- the code table has grown, nothing else -/
theorem news_tab {b h h' : Heap} {L : Addr} {l : List (Addr × Obj)} {ps ps' : Array Value} (N : News b L h l) (hm : (823, tabO ps) ∈ l) (hne : ∀ q ∈ l.dropLast, q.2 ≠ tabO ps) (hK : ∀ x o, x ≠ 823 → h.get? x = some o → h'.get? x = some o) (ht : h'.get? 823 = some (tabO ps')) : News b L h' (l.dropLast ++ [(823, tabO ps')]) := fun q hq => by
  rcases List.mem_append.mp hq with hq | hq
  · have hn := N q (List.dropLast_subset _ hq)
    exact ⟨hK _ _ (off_tab (fun x hx => N x (List.dropLast_subset _ hx)) (N _ hm).1 hne q hq) hn.1, hn.2⟩
  · rw [List.mem_singleton.mp hq]
    exact ⟨ht, (N _ hm).2⟩
theorem back_news8 {b h h' : Heap} {L : Addr} {m : Str → Option Value} {news l : List (Addr × Obj)} (N : News b L h' news) (F : Fr b L h m) (W : New h h' l) : News b L h' (l ++ news) := fun q hq => by
  rcases List.mem_append.mp hq with hq | hq
  · refine ⟨(W q hq).1, fun e => ?_, none_back F.keep (W q hq).2⟩
    obtain ⟨oL, _, _, hL, _⟩ := F.ns
    have := (W q hq).2
    rw [e, hL] at this; cases this
  · exact N q hq
theorem paired_get {α β : Type} {F : α → β → Prop} : ∀ {l : List α} {r : List β}, PySem.Paired F l r → ∀ {j : Nat} {b : β}, r[j]? = some b → ∃ a, l[j]? = some a ∧ F a b
  | _, _, .nil, _, _, h => by cases h
  | _, _, .cons hf t, 0, _, h => ⟨_, rfl, Option.some.inj h ▸ hf⟩
  | _, _, .cons hf t, j + 1, _, h => paired_get t h
theorem hits_due {vs : List Value} {ns : List Int} {n : Nat} (hi : IntsAre vs ns) (hn : ns.length = n) : (hits vs.toArray vs.toArray.size).map (fun (k : Nat) => (k : Int)) = dueL ns n := by
  unfold hits dueL
  rw [List.size_toArray, hi.length, hn]
  congr 1
  apply List.filter_congr
  intro k hk
  have hk : k < ns.length := by rw [hn]; exact List.mem_range.mp hk
  obtain ⟨t, hx⟩ := hi.get k ns[k] (by simp [hk])
  unfold hit
  rw [show vs.toArray[k]? = some (.int ns[k] t) by simpa using hx]
  rw [List.getD_eq_getElem?_getD, List.getElem?_eq_getElem hk]
  show decide (2 ≤ ns[k]) = decide (1 < ns[k])
  congr 1
abbrev frHeap {b h : Heap} {L : Addr} {m : Str → Option Value} (_ : Fr b L h m) : Heap := h
theorem News.off {b h : Heap} {L I : Addr} {l : List (Addr × Obj)} (N : News b L h l) (e : I = h.objs.size) : ∀ q ∈ l, q.1 ≠ I := fun q hq hI => by have := Heap.lt_size (N q hq).1; rw [hI, e] at this; exact Nat.lt_irrefl _ this
theorem News.tail {b h : Heap} {L : Addr} {q : Addr × Obj} {l : List (Addr × Obj)} (N : News b L h (q :: l)) : News b L h l := fun x hx => N x (List.mem_cons_of_mem _ hx)
theorem news_consI {b h : Heap} {L I : Addr} {o : Obj} {l : List (Addr × Obj)} (e : h.get? I = some o) (h1 : I ≠ L) (h2 : b.get? I = none) (N : News b L h l) : News b L h ((I, o) :: l) := fun q hq => by
  rcases List.mem_cons.mp hq with rfl | hq
  · exact ⟨e, h1, h2⟩
  · exact N q hq
theorem ne_same {prog : Program} {w : World} {A : Around} {E : Value → Shared → Prop} {s : Shared} {a b : Addr} {vs us : List Value} {ns : List Int} {Q : Value → Shared → Prop} (hl : s.heap.IsList a vs.toArray) (hi : IntsAre vs ns) (hl' : s.heap.IsList b us.toArray) (hi' : IntsAre us ns) (hu : A.units + 64 < cLine)
    (h : Q (.bool false) s) : wpAny (model prog w) A (compareOp .NotEq (.ref a) (.ref b)) Q E s :=
  ne_intsK hl hi hl' hi' hu (by rw [decide_eq_true rfl]; exact h)
end Mine
namespace Mine
/-- the places at either side that stand in the row -/
def sidesL (n p : Nat) : List Int := [(p : Int) - 1, (p : Int) + 1].filter fun k => decide (0 ≤ k) && decide (k < (n : Int))
theorem bump_topple {ns : List Int} {n p : Nat} (hl : ns.length = n) (h3 : 3 ≤ n) (h5 : n ≤ 5) (hp : p < n) : bump 1 (bump (-2) ns [(p : Int)]) (sidesL n p) = topple n ns p := by
  rcases len_cases hl h3 h5 with ⟨a, b, c, rfl, rfl⟩ | ⟨a, b, c, d, rfl, rfl⟩ | ⟨a, b, c, d, e, rfl, rfl⟩
  · rcases (by omega : p = 0 ∨ p = 1 ∨ p = 2) with rfl | rfl | rfl <;> simp [bump, sidesL, topple, List.range_succ] <;> omega
  · rcases (by omega : p = 0 ∨ p = 1 ∨ p = 2 ∨ p = 3) with rfl | rfl | rfl | rfl <;> simp [bump, sidesL, topple, List.range_succ] <;> omega
  · rcases (by omega : p = 0 ∨ p = 1 ∨ p = 2 ∨ p = 3 ∨ p = 4) with rfl | rfl | rfl | rfl | rfl <;> simp [bump, sidesL, topple, List.range_succ] <;> omega
theorem sidesL_len {n p : Nat} (h3 : 3 ≤ n) (h5 : n ≤ 5) (hp : p < n) : (sidesL n p).length = 1 ∨ (sidesL n p).length = 2 := by
  rcases (by omega : n = 3 ∨ n = 4 ∨ n = 5) with rfl | rfl | rfl
  · rcases (by omega : p = 0 ∨ p = 1 ∨ p = 2) with rfl | rfl | rfl <;> decide
  · rcases (by omega : p = 0 ∨ p = 1 ∨ p = 2 ∨ p = 3) with rfl | rfl | rfl | rfl <;> decide
  · rcases (by omega : p = 0 ∨ p = 1 ∨ p = 2 ∨ p = 3 ∨ p = 4) with rfl | rfl | rfl | rfl | rfl <;> decide
theorem sidesL_in {n p : Nat} : ∀ q ∈ sidesL n p, 0 ≤ q ∧ q < (n : Int) := fun q hq => by
  unfold sidesL at hq
  have := (List.mem_filter.mp hq).2
  simp at this
  exact this
theorem due_pos {ns : List Int} {n p : Nat} (hp : p < n) (h2 : 2 ≤ ns.getD p 0) : 0 < (dueL ns n).length := by
  unfold dueL
  rw [List.length_map]
  apply List.length_pos_of_mem (a := p)
  rw [List.mem_filter]
  exact ⟨List.mem_range.mpr hp, decide_eq_true (by omega)⟩
theorem due_get {ns : List Int} {n : Nat} {q : Nat} (hq : q < (dueL ns n).length) : ∃ p : Nat, (dueL ns n).getD q 0 = p ∧ p < n ∧ 2 ≤ ns.getD p 0 := by
  have hm : (dueL ns n).getD q 0 ∈ dueL ns n := by
    rw [List.getD_eq_getElem?_getD, List.getElem?_eq_getElem hq]
    exact List.getElem_mem hq
  unfold dueL at hm
  obtain ⟨p, hp, e⟩ := List.mem_map.mp hm
  rw [List.mem_filter] at hp
  exact ⟨p, e.symm, List.mem_range.mp hp.1, by have := of_decide_eq_true hp.2; omega⟩
theorem due_len (ns : List Int) (n : Nat) : (dueL ns n).length ≤ n := by
  unfold dueL
  rw [List.length_map]
  exact Nat.le_trans (List.length_filter_le _ _) (Nat.le_of_eq List.length_range)
theorem fmod_in (x e : Int) (h : 0 < e) : 0 ≤ x.fmod e ∧ x.fmod e < e := by
  rw [Int.fmod_eq_emod_of_nonneg _ (Int.le_of_lt h)]
  exact ⟨Int.emod_nonneg x (Int.ne_of_gt h), Int.emod_lt_of_pos x h⟩
open PySem PySem.W PyProof.Rows in
theorem ne_cell {o o₂ : Obj} {v : Option Value} (d : o.data = .cell v) (h : ∀ v, o₂.data ≠ .cell v) : o₂ ≠ o := fun e => h v (e ▸ d)
open PySem PySem.W PyProof.Rows in
theorem isdict_ne_cell {prog : Program} {w : World} {kvs : List (Str × Value)} {o o₂ : Obj} {v : Option Value} (hd : o₂.IsDictOf (PySem.strKind prog w) kvs) (d : o.data = .cell v) : o₂ ≠ o := by
  rintro rfl
  obtain ⟨es, n, _, e, _⟩ := hd
  rw [d] at e
  cases e
end Mine
namespace Mine
open PySem PySem.W PyProof.Rows PySem.Calls PySem.Spec
def turnBody : List Stmt → List Stmt
  | .For _ _ b _ _ :: _ => b
  | _ => []
theorem isdict_ne_it {prog : Program} {w : World} {kvs : List (Str × Value)} {o : Obj} {x y : Int} (hd : o.IsDictOf (strKind prog w) kvs) : o ≠ itO x y := by
  rintro rfl
  obtain ⟨es, n, _, e, _⟩ := hd
  cases e
theorem AllNe.sub {a : Nat} {l l' : List (Addr × Obj)} (h : ∀ q ∈ l, q.1 ≠ a) (hs : ∀ q ∈ l', q ∈ l) : AllNe a l' := allNe_of fun q hq => h q (hs q hq)
theorem ints_12 {vs : List Value} {ss : List Int} (h : IntsAre vs ss) (hl : ss.length = 1 ∨ ss.length = 2) : (∃ a t, vs = [.int a t] ∧ ss = [a]) ∨ ∃ a b t u, vs = [.int a t, .int b u] ∧ ss = [a, b] := by
  cases h with
  | nil => simp at hl
  | cons a t h => cases h with
    | nil => exact .inl ⟨a, t, rfl, rfl⟩
    | cons b u h => cases h with
      | nil => exact .inr ⟨a, b, t, u, rfl, rfl⟩
      | cons c v h => simp only [List.length_cons] at hl; omega
theorem sides_mem {n p k : Nat} (hk : k < n) : (sidesL n p).any (· == (k : Int)) = decide (k + 1 = p ∨ k = p + 1) := by
  unfold sidesL
  rw [Bool.eq_iff_iff]
  simp only [List.any_eq_true, List.mem_filter, List.mem_cons, List.not_mem_nil, or_false, Bool.and_eq_true, decide_eq_true_eq, beq_iff_eq]
  constructor
  · rintro ⟨x, ⟨hx | hx, _⟩, rfl⟩ <;> omega
  · rintro (h | h)
    · exact ⟨(k : Int), ⟨by omega, by omega⟩, rfl⟩
    · exact ⟨(k : Int), ⟨by omega, by omega⟩, rfl⟩
theorem bump_len (d : Int) : ∀ (ix ns : List Int), (bump d ns ix).length = ns.length
  | [], _ => rfl
  | a :: r, ns => by rw [bump, bump_len d r, List.length_set]
theorem due_none {ns : List Int} {n : Nat} (h : ∀ k, ns.getD k 0 ≤ 1) : dueL ns n = [] := by
  unfold dueL
  rw [List.map_eq_nil_iff, List.filter_eq_nil_iff]
  intro k _ hk
  have := h k
  have := of_decide_eq_true hk
  omega
theorem end_le {n : Nat} {hole : Int} (k : Nat) : (endOf n hole).getD k 0 ≤ 1 := by
  unfold endOf
  rw [List.getD_eq_getElem?_getD]
  by_cases hk : k < n
  · rw [List.getElem?_map, List.getElem?_range hk]
    show (if _ then _ else _) ≤ _
    split <;> decide
  · rw [List.getElem?_eq_none (by rw [List.length_map, List.length_range]; omega)]
    decide
theorem eq_docs {prog : Program} {w : World} {A : Around} {E : Value → Shared → Prop} {s : Shared} {g : Heap} {L a b RL R2 : Addr} {oa ob : Obj} {l r : Int} {tl tr ul ur k k2 : Nat} {vs us : List Value} {ns : List Int} {news : List (Addr × Obj)} {Q : Value → Shared → Prop} (N : News g L s.heap news) (ma : (a, oa) ∈ news) (mb : (b, ob) ∈ news) (da : oa.IsDictOf (PySem.strKind prog w) (docKs l r tl tr RL)) (db : ob.IsDictOf (PySem.strKind prog w) (docKs l r ul ur R2)) (la : (a == sysModules) = false) (lb : (b == sysModules) = false)
    (m1 : (RL, listOf vs.toArray k) ∈ news) (m2 : (R2, listOf us.toArray k2) ∈ news) (h1 : IntsAre vs ns) (h2 : IntsAre us ns) (hu : A.units + 100 < cLine) (h : Q (.bool true) s) : wpAny (model prog w) A (compareOp .Eq (.ref a) (.ref b)) Q E s := by
  refine keq_eq (r := true) la lb (Heap.dictOf_iff.mpr ⟨_, (N _ ma).1, da⟩) (Heap.dictOf_iff.mpr ⟨_, (N _ mb).1, db⟩) (by omega) (fun _ => ?_) h
  have e1 : true = ((l == l) && (decide (ns = ns) && ((r == r) && true))) := by simp
  rw [e1]
  refine .hit rfl (SeqAt.EqAt.int_int l tl l ul) (.hit rfl (keq_ints (News.isList N m1) h1 (News.isList N m2) h2 ?_) (.hit rfl (SeqAt.EqAt.int_int r tr r ur) .nil))
  simp only [Around.in1_units]; omega
end Mine
namespace Mine
open PySem PySem.W PyProof.Rows PySem.Calls PySem.Spec
example : PySem.Challenge.rw_ae5016_01 = PySem.Challenge.rw_ae5016_01 → K = K → True := by
  k_fill
  intro _ _; trivial
local macro_rules | `(tactic| k_room) => `(tactic| ((try simp only [depth_make, depth_under_make, depth_under_kw, depth_in1, depth_deeper, limit_is]); omega))
local macro_rules | `(tactic| k_inst) => `(tactic| exact inst_of (by k_asm) (by assumption) (by assumption))
local macro_rules | `(tactic| walk_at "mine walk") => `(tactic| ((try dsimp only); (try k_unmd); (try k_fold); repeat' (first | (k_unfold; (try dsimp only)) | walk1 | (dsimp only; walk1))))
local macro_rules | `(tactic| k_ne) => `(tactic| first | (refine neN ?_; (try dsimp only); omega) | exact Apart.ne (by with_reducible assumption) (by k_memK) | exact (Apart.ne (by with_reducible assumption) (by k_memK)).symm)
local macro_rules | `(tactic| k_handed) => `(tactic| first | assumption | rfl)
local macro_rules | `(tactic| walk_at "mine ext") => `(tactic| first | exact List.forall_mem_nil _ | ((refine List.forall_mem_cons.mpr (And.intro ?x ?_)); (case x => first | exact Or.inl (by k_memK) | exact Or.inr (by assumption)); walk_at "mine ext"))
local macro_rules | `(tactic| walk_at "mine ne") => `(tactic| first | exact List.forall_mem_nil _ | ((refine List.forall_mem_cons.mpr (And.intro ?x ?_)); (case x => (dsimp only; omega)); walk_at "mine ne"))
local macro_rules | `(tactic| walk_at "mine new") => `(tactic| first | exact List.forall_mem_nil _ | ((refine List.forall_mem_cons.mpr (And.intro ?x ?_)); (case x => (refine And.intro (by k_memK) ?_; first | exact Or.inl (by assumption) | exact Or.inr (by walk_at "mine ne"))); walk_at "mine new"))
local macro_rules | `(tactic| walk_at "mine kn") => `(tactic| exact Kn.of (by assumption) (by k_asm) (by k_asm) (by walk_at "mine mem"))
local macro_rules | `(tactic| walk_at "mine mem") => `(tactic| first | exact List.forall_mem_nil _ | ((refine List.forall_mem_cons.mpr (And.intro (by k_memK) ?_)); walk_at "mine mem"))
local macro_rules | `(tactic| k_types) => `(tactic| exact looks_dict (by k_asm) (by k_memK) (by assumption))
local macro_rules | `(tactic| walk_at "call builtin:isinstance") => `(tactic| ((with_reducible show wpAny _ _ (call _ [Value.ref _, Value.ref _]) _ _ _); refine' isn_dict ?k1 ?k2 ?k3 ?k4 ?k5 ?_; (case k2 => k_asm); (case k3 => k_memK); (case k4 => assumption); (case k1 => k_in); (case k5 => k_not); k_whole))
local macro_rules | `(tactic| walk_at "eval Name") => `(tactic| ((with_reducible show wpAny _ _ (eval (Expr.Name _ _) (compEnvC _ _ _ _)) _ _ _); k_dflt (first
  | (refine' blk_local ?F ?v ?_ ?a ?b; (case a => rfl); (case b => rfl); (case F => k_asm); (case v => rfl); k_whole)
  | (refine' lcf_cell ?N ?c ?m ?d ?_ ?a ?b; (case a => rfl); (case b => rfl); (case N => k_asm); (case c => rfl); (case m => k_mem); (case d => k_asm); k_whole)
  | (refine' lcf_free ?N ?c ?m ?d ?_ ?a ?b; (case a => rfl); (case b => rfl); (case N => k_asm); (case c => rfl); (case m => k_mem); (case d => k_asm); k_whole)
  | (refine' blk_global ?F ?X ?T ?e ?_ ?g ?a ?b; (case a => rfl); (case b => rfl); (case g => rfl); (case F => k_asm); (case X => k_asm); (case T => k_asm); (case e => k_is); k_whole)
  | (refine' blk_builtin ?F ?X ?T ?e ?v ?n ?_ ?g ?gb ?a ?b; (case a => rfl); (case b => rfl); (case g => rfl); (case gb => rfl); (case F => k_asm); (case X => k_asm); (case T => k_asm); (case e => k_is); (case v => boot_fast); (case n => decide); k_whole))))
local macro_rules | `(tactic| walk_at "storeName") => `(tactic| ((with_reducible show wpAny _ _ (storeName (compEnvC _ _ _ _) _ _) _ _ _); k_dflt (refine' blk_store ?F ?N ?_ ?a ?b; (case F => k_asm); (case N => k_asm); (case a => rfl); (case b => rfl); k_whole; intro h' F' N'; (try k_sweep))))
local macro_rules | `(tactic| k_all) => `(tactic| first | exact RstL.ne (List.Mem.tail _ (List.mem_append_left _ (List.Mem.head _))) | exact RstL.ne (List.Mem.tail _ (List.mem_append_right _ (List.Mem.head _))))
local macro_rules | `(tactic| walk_at "storeName") => `(tactic| ((with_reducible show wpAny _ _ (storeName (compEnvC _ _ _ _) _ _) _ _ _); k_dflt (refine' blk_storeC ?F ?N ?c ?U ?d ?_ ?a ?b; (case a => rfl); (case b => rfl); (case F => k_asm); (case N => k_asm); (case c => rfl); (case U => k_updF); (case d => k_asm); k_whole; intro h' o' F' N' d'; (try dsimp only at N'); (try k_sweep))))
local macro_rules | `(tactic| walk_at "eval Name") => `(tactic| ((with_reducible show wpAny _ _ (eval (Expr.Name _ _) (genEnv _ _ _ _ _ _)) _ _ _); k_dflt (first
  | (refine' gen_local ?F ?v ?_ ?a ?b; (case a => rfl); (case b => rfl); (case F => k_asm); (case v => rfl); k_whole)
  | (refine' gen_free ?N ?c ?m ?d ?_ ?a ?b; (case a => rfl); (case b => rfl); (case N => k_asm); (case c => rfl); (case m => k_mem); (case d => k_asm); k_whole))))
local macro_rules | `(tactic| walk_at "mine own") => `(tactic| first | exact (fun _ h => absurd h List.not_mem_nil) | (intro c hc; rw [List.mem_singleton.mp hc]; exact ⟨_, by k_memK⟩) | (intro c hc; rw [List.mem_singleton.mp hc]; exact ⟨_, _, by k_memK, by with_reducible assumption⟩) | (intro c hc; rcases List.mem_cons.mp hc with hc | hc; (rw [hc]; exact ⟨_, by k_memK⟩); (rw [List.mem_singleton.mp hc]; exact ⟨_, by k_memK⟩)))
local macro_rules | `(tactic| walk_at "mine rst") => `(tactic| (intro q hq; repeat (first | exact hq | refine List.Mem.tail _ ?_)))
local macro_rules | `(tactic| walk_at "mine last") => `(tactic| first | with_reducible assumption | (with_reducible apply And.right; first | with_reducible assumption | (with_reducible apply And.right; first | with_reducible assumption | (with_reducible apply And.right; first | with_reducible assumption | (with_reducible apply And.right; first | with_reducible assumption | (with_reducible apply And.right; first | with_reducible assumption | (with_reducible apply And.right; first | with_reducible assumption | (with_reducible apply And.right; first | with_reducible assumption | (with_reducible apply And.right; first | with_reducible assumption | (with_reducible apply And.right; first | with_reducible assumption | (with_reducible apply And.right; first | with_reducible assumption | (with_reducible apply And.right; first | with_reducible assumption | (with_reducible apply And.right; first | with_reducible assumption | (with_reducible apply And.right; first | with_reducible assumption | (with_reducible apply And.right; first | with_reducible assumption | (with_reducible apply And.right; first | with_reducible assumption | (with_reducible apply And.right; first | with_reducible assumption | (with_reducible apply And.right; first | with_reducible assumption | (with_reducible apply And.right; first | with_reducible assumption | (with_reducible apply And.right; first | with_reducible assumption | (with_reducible apply And.right; first | with_reducible assumption | (with_reducible apply And.right; first | with_reducible assumption | (with_reducible apply And.right; first | with_reducible assumption | (with_reducible apply And.right; first | with_reducible assumption | (with_reducible apply And.right; first | with_reducible assumption | (with_reducible apply And.right; first | with_reducible assumption | (with_reducible apply And.right; first | with_reducible assumption | (with_reducible apply And.right; first | with_reducible assumption | (with_reducible apply And.right; first | with_reducible assumption | (with_reducible apply And.right; with_reducible assumption))))))))))))))))))))))))))))))
local macro_rules | `(tactic| walk_at "mine cne") => `(tactic| first | exact (fun _ h => absurd h List.not_mem_nil) | (intro c hc; rw [List.mem_singleton.mp hc]; k_ne))
local macro_rules | `(tactic| walk_at "mine new'") => `(tactic| first | exact List.forall_mem_nil _ | ((refine List.forall_mem_cons.mpr (And.intro (And.intro (by k_memK) (by first | assumption | exact BlkL.push (by with_reducible assumption) (by k_asm) (by k_memK) (by walk_at "mine last") (by walk_at "mine cne"))) ?_)); walk_at "mine new'"))
local macro_rules | `(tactic| walk_at "exec Assign cons ListComp") => `(tactic| (with_reducible show wpAny _ _ (exec (Stmt.Assign _ (Expr.ListComp _ [⟨Expr.Tuple _ _ _, _, _, _⟩] _ _) _) _) _ _ _; refine' lc2_assign ?hsw ?hclos ?hkind ?hnames ?hy ?hp ?_ ?hs; (case hsw => with_unfolding_all rfl); (case hclos => with_unfolding_all rfl); (case hkind => with_unfolding_all rfl); (case hnames => decide); (case hy => with_unfolding_all rfl); (case hp => with_unfolding_all rfl); (case hs => intro _; with_unfolding_all rfl)))
local macro_rules | `(tactic| walk_at "eval ListComp") => `(tactic| (with_reducible show wpAny _ _ (eval (Expr.ListComp _ [⟨Expr.Tuple _ _ _, _, _, _⟩] _ _) _) _ _ _; refine' lc2_eval ?hclos ?hkind ?hnames ?_ ?hs; (case hclos => with_unfolding_all rfl); (case hkind => with_unfolding_all rfl); (case hnames => decide); (case hs => intro _; with_unfolding_all rfl)))
local macro_rules | `(tactic| walk_at "exec Assign cons ListComp") => `(tactic| (with_reducible show wpAny _ _ (exec (Stmt.Assign _ (Expr.ListComp _ [⟨Expr.Name _ _, _, _, _⟩] _ _) _) _) _ _ _; refine' lc_assign ?hsw ?hclos ?hcell ?hkind ?hnames ?hy ?hp ?_ ?hs; (case hsw => with_unfolding_all rfl); (case hclos => with_unfolding_all rfl); (case hcell => decide); (case hkind => with_unfolding_all rfl); (case hnames => decide); (case hy => with_unfolding_all rfl); (case hp => with_unfolding_all rfl); (case hs => intro _; with_unfolding_all rfl)))
local macro_rules | `(tactic| walk_at "eval ListComp") => `(tactic| (with_reducible show wpAny _ _ (eval (Expr.ListComp _ [⟨Expr.Name _ _, _, _, _⟩] _ _) _) _ _ _; refine' lc_eval ?hclos ?hcell ?hkind ?hnames ?_ ?hs; (case hclos => with_unfolding_all rfl); (case hcell => decide); (case hkind => with_unfolding_all rfl); (case hnames => decide); (case hs => intro _; with_unfolding_all rfl)))
local macro_rules | `(tactic| walk_at "call ref") => `(tactic| (first | (refine wpAny_call ?_; walk_at "mine code") | (refine' call_meth ?N ?q ?_; (case N => k_asm); (case q => k_mem); walk_at "mine code")))
section
local macro_rules | `(tactic| walk_at "mine code") => `(tactic| ((with_reducible show codeAny _ _ (Code.call (Value.ref 638) _) _ _); (refine fields_new (by first | assumption | exact Or.inl rfl | exact Or.inr (Or.inl rfl) | exact Or.inr (Or.inr rfl)) (by walk_at "mine kn") (by k_room) ?_); (intro x' dx' D' es' h' tk' lo1' lo2' lo3' hE' hW' he'); (obtain ⟨k1', k2', t1', t2', he2'⟩ := he'); (subst he2'); (try dsimp only at lo1' lo2' lo3' hE' hW'); (have hl' := news_lt (by with_reducible assumption)); (try simp only [AllLt] at hl'); (try ((first | (have fr' := BlkL.fresh (by with_reducible assumption) (by k_asm) (by k_asm) (by walk_at "mine own") (by walk_at "mine rst") hW') | (have fr' := Blk.fresh (by with_reducible assumption) (by k_asm) (by k_asm) (by walk_at "mine rst") hW') | (have fr' := New.fresh hW' (Back.ext (by with_reducible assumption) (by with_reducible assumption) (by k_asm) (by k_asm) (by walk_at "mine ext")))); simp only [List.forall_mem_cons] at fr'; obtain ⟨fr1', fr2', fr3', fr9'⟩ := fr')); (have ap' := New.apart (by k_asm) hW'); (simp only [List.forall_mem_cons] at ap'); (obtain ⟨ap1', ap2', ap3', ap9'⟩ := ap'); (have hF' := Fr.keeps (by k_asm) hE'); (have hN' := back_news (by k_asm) (by k_asm) hE' hW'); (try simp only [List.cons_append, List.nil_append] at hN'); (try k_sweep); (try dsimp only)))
local macro_rules | `(tactic| walk_at "mine code") => `(tactic| ((with_reducible show codeAny _ _ (Code.call (Value.ref 737) ⟨[_], []⟩) _ _); (refine index1 (by walk_at "mine kn") (by k_room) ?_); (intro x' dx' D' es' h' tk'  hE' hW' he'); (obtain ⟨k1', t1', he2'⟩ := he'); (subst he2'); (try dsimp only at  hE' hW'); (try ((first | (have fr' := BlkL.fresh (by with_reducible assumption) (by k_asm) (by k_asm) (by walk_at "mine own") (by walk_at "mine rst") hW') | (have fr' := Blk.fresh (by with_reducible assumption) (by k_asm) (by k_asm) (by walk_at "mine rst") hW') | (have fr' := New.fresh hW' (Back.ext (by with_reducible assumption) (by with_reducible assumption) (by k_asm) (by k_asm) (by walk_at "mine ext")))); simp only [List.forall_mem_cons] at fr'; obtain ⟨fr1', fr2', fr3', fr9'⟩ := fr')); (have ap' := New.apart (by k_asm) hW'); (simp only [List.forall_mem_cons] at ap'); (obtain ⟨ap1', ap2', ap3', ap9'⟩ := ap'); (have hF' := Fr.keeps (by k_asm) hE'); (have hN' := back_news (by k_asm) (by k_asm) hE' hW'); (try simp only [List.cons_append, List.nil_append] at hN'); (try k_sweep); (try dsimp only)))
local macro_rules | `(tactic| walk_at "mine code") => `(tactic| ((with_reducible show codeAny _ _ (Code.call (Value.ref 737) ⟨[_, _], []⟩) _ _); (refine index2 (by walk_at "mine kn") (by k_room) ?_); (intro x' dx' D' es' h' tk'  hE' hW' he'); (obtain ⟨k1', t1', he2'⟩ := he'); (subst he2'); (try dsimp only at  hE' hW'); (try ((first | (have fr' := BlkL.fresh (by with_reducible assumption) (by k_asm) (by k_asm) (by walk_at "mine own") (by walk_at "mine rst") hW') | (have fr' := Blk.fresh (by with_reducible assumption) (by k_asm) (by k_asm) (by walk_at "mine rst") hW') | (have fr' := New.fresh hW' (Back.ext (by with_reducible assumption) (by with_reducible assumption) (by k_asm) (by k_asm) (by walk_at "mine ext")))); simp only [List.forall_mem_cons] at fr'; obtain ⟨fr1', fr2', fr3', fr9'⟩ := fr')); (have ap' := New.apart (by k_asm) hW'); (simp only [List.forall_mem_cons] at ap'); (obtain ⟨ap1', ap2', ap3', ap9'⟩ := ap'); (have hF' := Fr.keeps (by k_asm) hE'); (have hN' := back_news (by k_asm) (by k_asm) hE' hW'); (try simp only [List.cons_append, List.nil_append] at hN'); (try k_sweep); (try dsimp only)))
local macro_rules | `(tactic| walk_at "mine code") => `(tactic| ((with_reducible show codeAny _ _ (Code.call (Value.ref 427) _) _ _); (refine child_new (by walk_at "mine kn") (by k_room) ?_); (intro x' dx' es' h' tk'  hE' hW' he'); (obtain ⟨k1', k2', t1', t2', he2'⟩ := he'); (subst he2'); (try dsimp only at  hE' hW'); (try ((first | (have fr' := BlkL.fresh (by with_reducible assumption) (by k_asm) (by k_asm) (by walk_at "mine own") (by walk_at "mine rst") hW') | (have fr' := Blk.fresh (by with_reducible assumption) (by k_asm) (by k_asm) (by walk_at "mine rst") hW') | (have fr' := New.fresh hW' (Back.ext (by with_reducible assumption) (by with_reducible assumption) (by k_asm) (by k_asm) (by walk_at "mine ext")))); simp only [List.forall_mem_cons] at fr'; obtain ⟨fr1', fr2', fr9'⟩ := fr')); (have ap' := New.apart (by k_asm) hW'); (simp only [List.forall_mem_cons] at ap'); (obtain ⟨ap1', ap2', ap9'⟩ := ap'); (have hF' := Fr.keeps (by k_asm) hE'); (have hN' := back_news (by k_asm) (by k_asm) hE' hW'); (try simp only [List.cons_append, List.nil_append] at hN'); (try k_sweep); (try dsimp only)))
local macro_rules | `(tactic| walk_at "mine code") => `(tactic| ((with_reducible show codeAny _ _ (Code.call (Value.ref 361) _) _ _); (refine cupd1 (by first | with_reducible assumption | exact Or.inl ⟨rfl, rfl⟩ | exact Or.inr ⟨rfl, rfl⟩) (by assumption) (by assumption) (by walk_at "mine kn") (by k_room) (by with_reducible assumption) (by with_reducible assumption) (by with_reducible assumption) (by with_unfolding_all assumption) ?_); (intro vs' h' tk' hK' hG' hI'); (try dsimp only at hK' hG'); (have hF' := fr_upd (by k_asm) (by k_asm) (by k_memK) hK'); (have hN' := news_upd (by k_asm) (by k_upd) hK' hG'); (try dsimp only [List.cons_append, List.nil_append] at hN'); (try k_sweep); (try dsimp only)))
local macro_rules | `(tactic| walk_at "mine code") => `(tactic| ((with_reducible show codeAny _ _ (Code.call (Value.ref 361) _) _ _); (refine cupd2 (by first | with_reducible assumption | exact Or.inl ⟨rfl, rfl⟩ | exact Or.inr ⟨rfl, rfl⟩) (by assumption) (by assumption) (by walk_at "mine kn") (by k_room) (by with_reducible assumption) (by with_reducible assumption) (by with_reducible assumption) (by with_unfolding_all assumption) ?_); (intro vs' h' tk' hK' hG' hI'); (try dsimp only at hK' hG'); (have hF' := fr_upd (by k_asm) (by k_asm) (by k_memK) hK'); (have hN' := news_upd (by k_asm) (by k_upd) hK' hG'); (try dsimp only [List.cons_append, List.nil_append] at hN'); (try k_sweep); (try dsimp only)))
local macro_rules | `(tactic| walk_at "mine code") => `(tactic| ((with_reducible show codeAny _ _ (Code.call (Value.ref 586) _) _ _); (refine fupL (by with_unfolding_all assumption) (by assumption) (by assumption) (by walk_at "mine kn") (by k_ne) (by k_room) ?_); (intro o' tl' h' tk' hK' hG' hI'); (try dsimp only at hK' hG'); (have hF' := fr_upd (by k_asm) (by k_asm) (by k_memK) hK'); (have hN' := news_upd (by k_asm) (by k_upd) hK' hG'); (try dsimp only [List.cons_append, List.nil_append] at hN'); (try k_sweep); (try dsimp only)))
local macro_rules | `(tactic| walk_at "mine code") => `(tactic| ((with_reducible show codeAny _ _ (Code.call (Value.ref 586) _) _ _); (refine fupR (by with_unfolding_all assumption) (by assumption) (by assumption) (by walk_at "mine kn") (by k_ne) (by k_room) ?_); (intro o' tl' h' tk' hK' hG' hI'); (try dsimp only at hK' hG'); (have hF' := fr_upd (by k_asm) (by k_asm) (by k_memK) hK'); (have hN' := news_upd (by k_asm) (by k_upd) hK' hG'); (try dsimp only [List.cons_append, List.nil_append] at hN'); (try k_sweep); (try dsimp only)))
local macro_rules | `(tactic| walk_at "getAttr ref") => `(tactic| ((with_reducible show wpAny _ _ (getAttr (Value.ref _) (PySem.Str.ofString "value") _) _ _ _); (refine get_value (by k_asm) (by assumption) (by k_room) (by k_inst) (by k_handed) ?_); (intro h' tk' hE'); (try dsimp only at hE'); (have hF' := Fr.keeps (by k_asm) hE'); (have hN' := News.grown (by k_asm) hE'); (try k_sweep)))
local macro_rules | `(tactic| walk_at "eval Name") => `(tactic| ((with_reducible show wpAny _ _ (eval (Expr.Name _ _) (envOfC _ _ _ _ _)) _ _ _); k_dflt (first
  | (refine' nameX_C ?N ?c ?m ?d ?_ ?a ?b; (case a => rfl); (case b => rfl); (case N => k_asm); (case c => rfl); (case m => k_memK); (case d => with_reducible assumption); k_whole)
  | (refine' nameX_L ?F ?v ?_ ?a ?b; (case a => rfl); (case b => rfl); (case F => k_asm); (case v => first | rfl | assumption); k_whole)
  | (refine' nameX_K ?F ?X ?T ?e ?_ ?a ?b; (case a => rfl); (case b => rfl); (case F => k_asm); (case X => k_asm); (case T => k_asm); (case e => k_is); k_whole))))
local macro_rules | `(tactic| walk_at "mine nobj") => `(tactic| first | exact ne_cell (by with_reducible assumption) (fun v e => by cases e) | exact (ne_cell (by with_reducible assumption) (fun v e => by cases e)).symm | exact isdict_ne_cell (by assumption) (by with_reducible assumption) | exact (isdict_ne_cell (by assumption) (by with_reducible assumption)).symm | exact ne_inst_seq | exact ne_inst_seq.symm | exact ne_seq_dict | exact ne_seq_dict.symm | exact ne_list_tuple | exact ne_list_tuple.symm | exact ne_seq_isdict (by assumption) | exact (ne_seq_isdict (by assumption)).symm | exact isdict_ne_tab (by assumption) | exact (isdict_ne_tab (by assumption)).symm | exact ne_isdict_inst (by assumption) | exact (ne_isdict_inst (by assumption)).symm | exact isdict_ne_it (by assumption) | exact (isdict_ne_it (by assumption)).symm | exact (fun e => by have := congrArg Obj.data e; cases this))
local macro_rules | `(tactic| k_ne) => `(tactic| first | exact AllNe.get (by with_reducible assumption) (by k_memK) | exact (AllNe.get (by with_reducible assumption) (by k_memK)).symm | exact ne_of_obj (by k_asm) (by k_memK) (by k_memK) (by walk_at "mine nobj") | (refine neN ?_; (try dsimp only); omega) | exact Apart.ne (by with_reducible assumption) (by k_memK) | exact (Apart.ne (by with_reducible assumption) (by k_memK)).symm)
local macro_rules | `(tactic| walk_at "compareOp In int ref") => `(tactic| (refine in_list_ints (News.isList (by k_asm) (by k_memK)) (by with_reducible assumption) ?_))
local macro_rules | `(tactic| walk_at "StarOf ref") => `(tactic| ((refine' star_seq ?k1 ?k2 ?m ?c ?d ?T ?e ?z ?_; (case k1 => k_asm); (case k2 => k_asm); (case m => k_memK); (case c => exact rfl); (case d => exact rfl); (case T => first | exact .inl rfl | exact .inr rfl); (case e => rfl); (case z => (rw [sizeLine_eq]; exact Nat.le_of_ble_eq_true rfl))); intro h' F' N'; (try k_sweep); try dsimp only [List.nil_append, List.cons_append]))
local macro_rules | `(tactic| walk_at "mine setL") => `(tactic| (refine And.intro ?_ ?_))
section
variable {prog : Program} {w : World} {A : Around} {s : Shared} {p : Program} {loose : List Str} {mg mb : Str → Option Value} {Q : Flow → Shared → Prop}
theorem law_T1 {g : Heap} {L' I D₁ D₄ Dr Sd c dc f df Df fl dfl XL e de TT dT d RL : Addr} {o oS oF oE oR oM oD : Obj} {k0 k1 k2 k3 k4 k5 k6 k7 x₁ x₂ l r : Int} {t0 t1 t2 t3 t4 t5 t6 t7 t8 t9 tf nx tl tr kR k₁ k₄ kr kS n pp : Nat} {tn tp : Tok} {drv rv ev dv sv : List Value} {ns ss : List Int} {pt : Array Value} {m : Str → Option Value} {vS : Option Value} {body rest : List Stmt} {scope : Scope}
    (hb : List.take 2 (List.drop 3 (turnBody (List.drop 10 (fnBody PySem.Challenge.pw_ae5016_01.main.body 36)))) = body) (hs : fnScope PySem.Challenge.pw_ae5016_01.main.body 36 = scope) (hh : A.handled = none) (hroom : A.depth + 120 ≤ 900) (G : Gd w p loose mg mb g) (h8L : @LT.lt Nat _ 823 L') (n3 : 3 ≤ n) (n5 : n ≤ 5) (hpp : pp < n)
    (F : Fr g L' s.heap m) (N : News g L' s.heap [(I, itO x₁ x₂), (c, instObj 427 dc), (dc, dictOf (cEs k6 k7 t6 t7 f fl) 2), (f, instObj 638 df), (df, dictOf (fEs k4 k5 t8 t9 Df) 2), (Df, { cls := .type "tuple", data := .seq #[.str "row" tf] }), (fl, instObj 898 dfl), (dfl, dictOf (flEs k0 t0 XL) 1), (XL, { cls := .type "list", data := .seq #[.ref e] nx }), (e, instObj 943 de), (de, dictOf (eEs k1 k2 k3 t1 t2 t3 t4 t5 TT) 3), (TT, instObj 333 dT), (dT, dictOf [] 0), (d, o), (RL, listOf dv.toArray kR), (D₄, listOf ev.toArray k₄), (Dr, listOf rv.toArray kr), (D₁, listOf drv.toArray k₁), (L' + 1 + 1 + 1 + 1 + 1 + 1 + 1 + 1, oS), (L' + 1 + 1 + 1 + 1 + 1 + 1 + 1, oF), (L' + 1 + 1 + 1 + 1 + 1 + 1, oE), (L' + 1 + 1 + 1 + 1, oR), (L' + 1 + 1 + 1, oM), (L' + 1 + 1, oD), (823, tabO pt)])
    (hd : o.IsDictOf (strKind prog w) (docKs l r tl tr RL)) (lo : (d == sysModules) = false) (mD : m "document" = some (.ref d)) (nX : AllNe RL [(XL, tabO #[]), (D₁, tabO #[]), (Dr, tabO #[]), (D₄, tabO #[])]) (ndd : AllNe d [(dc, tabO #[]), (df, tabO #[]), (dfl, tabO #[]), (de, tabO #[]), (dT, tabO #[])])
    (hF : oF.data = .cell (some (.int pp tp))) (hE : oE.data = .cell (some (.ref D₄))) (hR : oR.data = .cell (some (.ref Dr))) (hM : oM.data = .cell (some (.int n tn))) (hD : oD.data = .cell (some (.ref D₁))) (hnl : ns.length = n)
    (hS : oS.data = .cell vS) (hdv : IntsAre dv ns)
    (h : ∀ (Sd : Addr) (sv dv' : List Value) (kS : Nat) (oS' : Obj) (h' : Heap) (tk : Nat), Fr g L' h' m → News g L' h' [(Sd, listOf sv.toArray kS), (I, itO x₁ x₂), (c, instObj 427 dc), (dc, dictOf (cEs k6 k7 t6 t7 f fl) 2), (f, instObj 638 df), (df, dictOf (fEs k4 k5 t8 t9 Df) 2), (Df, { cls := .type "tuple", data := .seq #[.str "row" tf] }), (fl, instObj 898 dfl), (dfl, dictOf (flEs k0 t0 XL) 1), (XL, { cls := .type "list", data := .seq #[.ref e] nx }), (e, instObj 943 de), (de, dictOf (eEs k1 k2 k3 t1 t2 t3 t4 t5 TT) 3), (TT, instObj 333 dT), (dT, dictOf [] 0), (d, o), (RL, listOf dv'.toArray kR), (D₄, listOf ev.toArray k₄), (Dr, listOf rv.toArray kr), (D₁, listOf drv.toArray k₁), (L' + 1 + 1 + 1 + 1 + 1 + 1 + 1 + 1, oS'), (L' + 1 + 1 + 1 + 1 + 1 + 1 + 1, oF), (L' + 1 + 1 + 1 + 1 + 1 + 1, oE), (L' + 1 + 1 + 1 + 1, oR), (L' + 1 + 1 + 1, oM), (L' + 1 + 1, oD), (823, tabO pt)] → oS'.data = .cell (some (.ref Sd)) → IntsAre sv (sidesL n pp) → IntsAre dv' (bump (-2) ns [(pp : Int)]) → AllNe Sd [(I, itO x₁ x₂), (c, instObj 427 dc), (dc, dictOf (cEs k6 k7 t6 t7 f fl) 2), (f, instObj 638 df), (df, dictOf (fEs k4 k5 t8 t9 Df) 2), (Df, { cls := .type "tuple", data := .seq #[.str "row" tf] }), (fl, instObj 898 dfl), (dfl, dictOf (flEs k0 t0 XL) 1), (XL, { cls := .type "list", data := .seq #[.ref e] nx }), (e, instObj 943 de), (de, dictOf (eEs k1 k2 k3 t1 t2 t3 t4 t5 TT) 3), (TT, instObj 333 dT), (dT, dictOf [] 0), (d, o), (RL, listOf dv.toArray kR), (D₄, listOf ev.toArray k₄), (Dr, listOf rv.toArray kr), (D₁, listOf drv.toArray k₁), (L' + 1 + 1 + 1 + 1 + 1 + 1 + 1 + 1, oS), (L' + 1 + 1 + 1 + 1 + 1 + 1 + 1, oF), (L' + 1 + 1 + 1 + 1 + 1 + 1, oE), (L' + 1 + 1 + 1 + 1, oR), (L' + 1 + 1 + 1, oM), (L' + 1 + 1, oD), (823, tabO pt)] → wpAny (model prog w) A (execs rest (envOfC "law" scope L' 1038 (.ref 1037))) Q (fun _ _ => False) { s with heap := h', toks := tk }) :
    wpAny (model prog w) A (execs (body ++ rest) (envOfC "law" scope L' 1038 (.ref 1037))) Q (fun _ _ => False) s := by
  conv at hb => lhs; whnf
  conv at hs => lhs; whnf
  subst hb hs
  (try simp only [List.cons_append, List.nil_append])
  have X := G.X
  have T := G.T
  walk_at "mine walk"
  refine lc_tup (fun H j ys h => IntsAre ys (([(pp : Int) - 1, (pp : Int) + 1].take j).filter fun k => decide (0 ≤ k) && decide (k < (n : Int)))) ⟨_, _, rfl⟩ (by with_unfolding_all assumption) (by k_asm) (by k_asm) (by k_memK) (by rw [sizeLine_eq]; exact Nat.le_of_ble_eq_true rfl) ?_ ?_ ?_ ?_
  · exact fun H _ => .nil
  · exact fun H i ys h h' k e => e
  · intro H C j v h tk ys m' hE hn' hb hj hP hJ F N
    have BL : Blk _ C _ _ := ⟨hb, hn'⟩
    simp only [List.cons_append, List.nil_append] at N
    obtain ⟨x, t, rfl, hx⟩ : ∃ x t, v = .int x t ∧ [(pp : Int) - 1, (pp : Int) + 1][j]? = some x := by
      match j, hP with
      | 0, hP => exact ⟨_, _, (Option.some.inj hP).symm, rfl⟩
      | 1, hP => exact ⟨_, _, (Option.some.inj hP).symm, rfl⟩
      | j + 2, hP => cases hP
    walk_at "mine walk"
    all_goals (
      refine BL.good (by k_asm) (by k_asm) (by walk_at "mine rst") ?_
      rw [List.take_add_one, hx, List.filter_append]
      first | (rw [show List.filter (fun k => decide (0 ≤ k) && decide (k < (n : Int))) (some x).toList = [x] from List.filter_cons_of_pos (by simp only [Bool.and_eq_true, decide_eq_true_eq]; omega)]; exact ints_snoc hJ) | (rw [show List.filter (fun k => decide (0 ≤ k) && decide (k < (n : Int))) (some x).toList = [] from List.filter_cons_of_neg (by simp only [Bool.and_eq_true, decide_eq_true_eq]; omega), List.append_nil]; exact hJ))
  · intro H Sd h₄ tk₄ ys₄ k₄' hE₄ hSd hHSd F N hnSd hsd
    have nSd := allNe_of hnSd
    have hb1 : 0 ≤ (pp : Int) ∧ (pp : Int) < ns.length := by omega
    have h8 : ns.length ≤ 8 := by omega
    walk_at "mine walk"
    exact h _ _ _ _ _ _ _ (by k_asm) (News.sub (by k_asm) (by walk_at "mine mem")) (by with_reducible assumption) hsd (by with_reducible assumption) (AllNe.sub hnSd (by walk_at "mine mem"))
end
end

section
local macro_rules | `(tactic| walk_at "mine code") => `(tactic| ((with_reducible show codeAny _ _ (Code.call (Value.ref 638) _) _ _); (refine fields_new (by first | assumption | exact Or.inl rfl | exact Or.inr (Or.inl rfl) | exact Or.inr (Or.inr rfl)) (by walk_at "mine kn") (by k_room) ?_); (intro x' dx' D' es' h' tk' lo1' lo2' lo3' hE' hW' he'); (obtain ⟨k1', k2', t1', t2', he2'⟩ := he'); (subst he2'); (try dsimp only at lo1' lo2' lo3' hE' hW'); (have hl' := news_lt (by with_reducible assumption)); (try simp only [AllLt] at hl'); (try ((first | (have fr' := BlkL.fresh (by with_reducible assumption) (by k_asm) (by k_asm) (by walk_at "mine own") (by walk_at "mine rst") hW') | (have fr' := Blk.fresh (by with_reducible assumption) (by k_asm) (by k_asm) (by walk_at "mine rst") hW') | (have fr' := New.fresh hW' (Back.ext (by with_reducible assumption) (by with_reducible assumption) (by k_asm) (by k_asm) (by walk_at "mine ext")))); simp only [List.forall_mem_cons] at fr'; obtain ⟨fr1', fr2', fr3', fr9'⟩ := fr')); (have ap' := New.apart (by k_asm) hW'); (simp only [List.forall_mem_cons] at ap'); (obtain ⟨ap1', ap2', ap3', ap9'⟩ := ap'); (have hF' := Fr.keeps (by k_asm) hE'); (have hN' := back_news (by k_asm) (by k_asm) hE' hW'); (try simp only [List.cons_append, List.nil_append] at hN'); (try k_sweep); (try dsimp only)))
local macro_rules | `(tactic| walk_at "mine code") => `(tactic| ((with_reducible show codeAny _ _ (Code.call (Value.ref 737) ⟨[_], []⟩) _ _); (refine index1 (by walk_at "mine kn") (by k_room) ?_); (intro x' dx' D' es' h' tk'  hE' hW' he'); (obtain ⟨k1', t1', he2'⟩ := he'); (subst he2'); (try dsimp only at  hE' hW'); (try ((first | (have fr' := BlkL.fresh (by with_reducible assumption) (by k_asm) (by k_asm) (by walk_at "mine own") (by walk_at "mine rst") hW') | (have fr' := Blk.fresh (by with_reducible assumption) (by k_asm) (by k_asm) (by walk_at "mine rst") hW') | (have fr' := New.fresh hW' (Back.ext (by with_reducible assumption) (by with_reducible assumption) (by k_asm) (by k_asm) (by walk_at "mine ext")))); simp only [List.forall_mem_cons] at fr'; obtain ⟨fr1', fr2', fr3', fr9'⟩ := fr')); (have ap' := New.apart (by k_asm) hW'); (simp only [List.forall_mem_cons] at ap'); (obtain ⟨ap1', ap2', ap3', ap9'⟩ := ap'); (have hF' := Fr.keeps (by k_asm) hE'); (have hN' := back_news (by k_asm) (by k_asm) hE' hW'); (try simp only [List.cons_append, List.nil_append] at hN'); (try k_sweep); (try dsimp only)))
local macro_rules | `(tactic| walk_at "mine code") => `(tactic| ((with_reducible show codeAny _ _ (Code.call (Value.ref 737) ⟨[_, _], []⟩) _ _); (refine index2 (by walk_at "mine kn") (by k_room) ?_); (intro x' dx' D' es' h' tk'  hE' hW' he'); (obtain ⟨k1', t1', he2'⟩ := he'); (subst he2'); (try dsimp only at  hE' hW'); (try ((first | (have fr' := BlkL.fresh (by with_reducible assumption) (by k_asm) (by k_asm) (by walk_at "mine own") (by walk_at "mine rst") hW') | (have fr' := Blk.fresh (by with_reducible assumption) (by k_asm) (by k_asm) (by walk_at "mine rst") hW') | (have fr' := New.fresh hW' (Back.ext (by with_reducible assumption) (by with_reducible assumption) (by k_asm) (by k_asm) (by walk_at "mine ext")))); simp only [List.forall_mem_cons] at fr'; obtain ⟨fr1', fr2', fr3', fr9'⟩ := fr')); (have ap' := New.apart (by k_asm) hW'); (simp only [List.forall_mem_cons] at ap'); (obtain ⟨ap1', ap2', ap3', ap9'⟩ := ap'); (have hF' := Fr.keeps (by k_asm) hE'); (have hN' := back_news (by k_asm) (by k_asm) hE' hW'); (try simp only [List.cons_append, List.nil_append] at hN'); (try k_sweep); (try dsimp only)))
local macro_rules | `(tactic| walk_at "mine code") => `(tactic| ((with_reducible show codeAny _ _ (Code.call (Value.ref 427) _) _ _); (refine child_new (by walk_at "mine kn") (by k_room) ?_); (intro x' dx' es' h' tk'  hE' hW' he'); (obtain ⟨k1', k2', t1', t2', he2'⟩ := he'); (subst he2'); (try dsimp only at  hE' hW'); (try ((first | (have fr' := BlkL.fresh (by with_reducible assumption) (by k_asm) (by k_asm) (by walk_at "mine own") (by walk_at "mine rst") hW') | (have fr' := Blk.fresh (by with_reducible assumption) (by k_asm) (by k_asm) (by walk_at "mine rst") hW') | (have fr' := New.fresh hW' (Back.ext (by with_reducible assumption) (by with_reducible assumption) (by k_asm) (by k_asm) (by walk_at "mine ext")))); simp only [List.forall_mem_cons] at fr'; obtain ⟨fr1', fr2', fr9'⟩ := fr')); (have ap' := New.apart (by k_asm) hW'); (simp only [List.forall_mem_cons] at ap'); (obtain ⟨ap1', ap2', ap9'⟩ := ap'); (have hF' := Fr.keeps (by k_asm) hE'); (have hN' := back_news (by k_asm) (by k_asm) hE' hW'); (try simp only [List.cons_append, List.nil_append] at hN'); (try k_sweep); (try dsimp only)))
local macro_rules | `(tactic| walk_at "mine code") => `(tactic| ((with_reducible show codeAny _ _ (Code.call (Value.ref 361) _) _ _); (refine cupd1 (by first | with_reducible assumption | exact Or.inl ⟨rfl, rfl⟩ | exact Or.inr ⟨rfl, rfl⟩) (by assumption) (by assumption) (by walk_at "mine kn") (by k_room) (by with_reducible assumption) (by with_reducible assumption) (by with_reducible assumption) (by with_unfolding_all assumption) ?_); (intro vs' h' tk' hK' hG' hI'); (try dsimp only at hK' hG'); (have hF' := fr_upd (by k_asm) (by k_asm) (by k_memK) hK'); (have hN' := news_upd (by k_asm) (by k_upd) hK' hG'); (try dsimp only [List.cons_append, List.nil_append] at hN'); (try k_sweep); (try dsimp only)))
local macro_rules | `(tactic| walk_at "mine code") => `(tactic| ((with_reducible show codeAny _ _ (Code.call (Value.ref 361) _) _ _); (refine cupd2 (by first | with_reducible assumption | exact Or.inl ⟨rfl, rfl⟩ | exact Or.inr ⟨rfl, rfl⟩) (by assumption) (by assumption) (by walk_at "mine kn") (by k_room) (by with_reducible assumption) (by with_reducible assumption) (by with_reducible assumption) (by with_unfolding_all assumption) ?_); (intro vs' h' tk' hK' hG' hI'); (try dsimp only at hK' hG'); (have hF' := fr_upd (by k_asm) (by k_asm) (by k_memK) hK'); (have hN' := news_upd (by k_asm) (by k_upd) hK' hG'); (try dsimp only [List.cons_append, List.nil_append] at hN'); (try k_sweep); (try dsimp only)))
local macro_rules | `(tactic| walk_at "mine code") => `(tactic| ((with_reducible show codeAny _ _ (Code.call (Value.ref 586) _) _ _); (refine fupL (by with_unfolding_all assumption) (by assumption) (by assumption) (by walk_at "mine kn") (by k_ne) (by k_room) ?_); (intro o' tl' h' tk' hK' hG' hI'); (try dsimp only at hK' hG'); (have hF' := fr_upd (by k_asm) (by k_asm) (by k_memK) hK'); (have hN' := news_upd (by k_asm) (by k_upd) hK' hG'); (try dsimp only [List.cons_append, List.nil_append] at hN'); (try k_sweep); (try dsimp only)))
local macro_rules | `(tactic| walk_at "mine code") => `(tactic| ((with_reducible show codeAny _ _ (Code.call (Value.ref 586) _) _ _); (refine fupR (by with_unfolding_all assumption) (by assumption) (by assumption) (by walk_at "mine kn") (by k_ne) (by k_room) ?_); (intro o' tl' h' tk' hK' hG' hI'); (try dsimp only at hK' hG'); (have hF' := fr_upd (by k_asm) (by k_asm) (by k_memK) hK'); (have hN' := news_upd (by k_asm) (by k_upd) hK' hG'); (try dsimp only [List.cons_append, List.nil_append] at hN'); (try k_sweep); (try dsimp only)))
local macro_rules | `(tactic| walk_at "getAttr ref") => `(tactic| ((with_reducible show wpAny _ _ (getAttr (Value.ref _) (PySem.Str.ofString "value") _) _ _ _); (refine get_value (by k_asm) (by assumption) (by k_room) (by k_inst) (by k_handed) ?_); (intro h' tk' hE'); (try dsimp only at hE'); (have hF' := Fr.keeps (by k_asm) hE'); (have hN' := News.grown (by k_asm) hE'); (try k_sweep)))
local macro_rules | `(tactic| walk_at "eval Name") => `(tactic| ((with_reducible show wpAny _ _ (eval (Expr.Name _ _) (envOfC _ _ _ _ _)) _ _ _); k_dflt (first
  | (refine' nameX_C ?N ?c ?m ?d ?_ ?a ?b; (case a => rfl); (case b => rfl); (case N => k_asm); (case c => rfl); (case m => k_memK); (case d => with_reducible assumption); k_whole)
  | (refine' nameX_L ?F ?v ?_ ?a ?b; (case a => rfl); (case b => rfl); (case F => k_asm); (case v => first | rfl | assumption); k_whole)
  | (refine' nameX_K ?F ?X ?T ?e ?_ ?a ?b; (case a => rfl); (case b => rfl); (case F => k_asm); (case X => k_asm); (case T => k_asm); (case e => k_is); k_whole))))
local macro_rules | `(tactic| walk_at "mine nobj") => `(tactic| first | exact ne_cell (by with_reducible assumption) (fun v e => by cases e) | exact (ne_cell (by with_reducible assumption) (fun v e => by cases e)).symm | exact isdict_ne_cell (by assumption) (by with_reducible assumption) | exact (isdict_ne_cell (by assumption) (by with_reducible assumption)).symm | exact ne_inst_seq | exact ne_inst_seq.symm | exact ne_seq_dict | exact ne_seq_dict.symm | exact ne_list_tuple | exact ne_list_tuple.symm | exact ne_seq_isdict (by assumption) | exact (ne_seq_isdict (by assumption)).symm | exact isdict_ne_tab (by assumption) | exact (isdict_ne_tab (by assumption)).symm | exact ne_isdict_inst (by assumption) | exact (ne_isdict_inst (by assumption)).symm | exact isdict_ne_it (by assumption) | exact (isdict_ne_it (by assumption)).symm | exact (fun e => by have := congrArg Obj.data e; cases this))
local macro_rules | `(tactic| k_ne) => `(tactic| first | exact AllNe.get (by with_reducible assumption) (by k_memK) | exact (AllNe.get (by with_reducible assumption) (by k_memK)).symm | exact ne_of_obj (by k_asm) (by k_memK) (by k_memK) (by walk_at "mine nobj") | (refine neN ?_; (try dsimp only); omega) | exact Apart.ne (by with_reducible assumption) (by k_memK) | exact (Apart.ne (by with_reducible assumption) (by k_memK)).symm)
local macro_rules | `(tactic| walk_at "compareOp In int ref") => `(tactic| (refine in_list_ints (News.isList (by k_asm) (by k_memK)) (by with_reducible assumption) ?_))
local macro_rules | `(tactic| walk_at "StarOf ref") => `(tactic| ((refine' star_seq ?k1 ?k2 ?m ?c ?d ?T ?e ?z ?_; (case k1 => k_asm); (case k2 => k_asm); (case m => k_memK); (case c => exact rfl); (case d => exact rfl); (case T => first | exact .inl rfl | exact .inr rfl); (case e => rfl); (case z => (rw [sizeLine_eq]; exact Nat.le_of_ble_eq_true rfl))); intro h' F' N'; (try k_sweep); try dsimp only [List.nil_append, List.cons_append]))
local macro_rules | `(tactic| walk_at "mine setL") => `(tactic| (refine And.intro ?_ ?_))
section
variable {prog : Program} {w : World} {A : Around} {s : Shared} {p : Program} {loose : List Str} {mg mb : Str → Option Value} {Q : Flow → Shared → Prop}
theorem law_T2 {g : Heap} {L' I D₁ D₄ Dr Sd c dc f df Df fl dfl XL e de TT dT d RL : Addr} {o oS oF oE oR oM oD : Obj} {k0 k1 k2 k3 k4 k5 k6 k7 x₁ x₂ l r : Int} {t0 t1 t2 t3 t4 t5 t6 t7 t8 t9 tf nx tl tr kR k₁ k₄ kr kS n pp : Nat} {tn tp : Tok} {drv rv ev dv sv : List Value} {ns ss : List Int} {pt : Array Value} {m : Str → Option Value} {vS : Option Value} {body rest : List Stmt} {scope : Scope}
    (hb : List.take 1 (List.drop 5 (turnBody (List.drop 10 (fnBody PySem.Challenge.pw_ae5016_01.main.body 36)))) = body) (hs : fnScope PySem.Challenge.pw_ae5016_01.main.body 36 = scope) (hh : A.handled = none) (hroom : A.depth + 120 ≤ 900) (G : Gd w p loose mg mb g) (h8L : @LT.lt Nat _ 823 L') (n3 : 3 ≤ n) (n5 : n ≤ 5) (hpp : pp < n)
    (F : Fr g L' s.heap m) (N : News g L' s.heap [(Sd, listOf sv.toArray kS), (I, itO x₁ x₂), (c, instObj 427 dc), (dc, dictOf (cEs k6 k7 t6 t7 f fl) 2), (f, instObj 638 df), (df, dictOf (fEs k4 k5 t8 t9 Df) 2), (Df, { cls := .type "tuple", data := .seq #[.str "row" tf] }), (fl, instObj 898 dfl), (dfl, dictOf (flEs k0 t0 XL) 1), (XL, { cls := .type "list", data := .seq #[.ref e] nx }), (e, instObj 943 de), (de, dictOf (eEs k1 k2 k3 t1 t2 t3 t4 t5 TT) 3), (TT, instObj 333 dT), (dT, dictOf [] 0), (d, o), (RL, listOf dv.toArray kR), (D₄, listOf ev.toArray k₄), (Dr, listOf rv.toArray kr), (D₁, listOf drv.toArray k₁), (L' + 1 + 1 + 1 + 1 + 1 + 1 + 1 + 1, oS), (L' + 1 + 1 + 1 + 1 + 1 + 1 + 1, oF), (L' + 1 + 1 + 1 + 1 + 1 + 1, oE), (L' + 1 + 1 + 1 + 1, oR), (L' + 1 + 1 + 1, oM), (L' + 1 + 1, oD), (823, tabO pt)])
    (hd : o.IsDictOf (strKind prog w) (docKs l r tl tr RL)) (lo : (d == sysModules) = false) (mD : m "document" = some (.ref d)) (nX : AllNe RL [(XL, tabO #[]), (D₁, tabO #[]), (Dr, tabO #[]), (D₄, tabO #[])]) (ndd : AllNe d [(dc, tabO #[]), (df, tabO #[]), (dfl, tabO #[]), (de, tabO #[]), (dT, tabO #[])])
    (hF : oF.data = .cell (some (.int pp tp))) (hE : oE.data = .cell (some (.ref D₄))) (hR : oR.data = .cell (some (.ref Dr))) (hM : oM.data = .cell (some (.int n tn))) (hD : oD.data = .cell (some (.ref D₁))) (hnl : ns.length = n)
    (hS : oS.data = .cell (some (.ref Sd))) (hsv : IntsAre sv ss) (hdv : IntsAre dv ns) (hsl : ss.length = 1 ∨ ss.length = 2) (hsb : ∀ q ∈ ss, 0 ≤ q ∧ q < (n : Int)) (nSd : AllNe Sd [(I, itO x₁ x₂), (c, instObj 427 dc), (dc, dictOf (cEs k6 k7 t6 t7 f fl) 2), (f, instObj 638 df), (df, dictOf (fEs k4 k5 t8 t9 Df) 2), (Df, { cls := .type "tuple", data := .seq #[.str "row" tf] }), (fl, instObj 898 dfl), (dfl, dictOf (flEs k0 t0 XL) 1), (XL, { cls := .type "list", data := .seq #[.ref e] nx }), (e, instObj 943 de), (de, dictOf (eEs k1 k2 k3 t1 t2 t3 t4 t5 TT) 3), (TT, instObj 333 dT), (dT, dictOf [] 0), (d, o), (RL, listOf dv.toArray kR), (D₄, listOf ev.toArray k₄), (Dr, listOf rv.toArray kr), (D₁, listOf drv.toArray k₁), (L' + 1 + 1 + 1 + 1 + 1 + 1 + 1 + 1, oS), (L' + 1 + 1 + 1 + 1 + 1 + 1 + 1, oF), (L' + 1 + 1 + 1 + 1 + 1 + 1, oE), (L' + 1 + 1 + 1 + 1, oR), (L' + 1 + 1 + 1, oM), (L' + 1 + 1, oD), (823, tabO pt)])
    (h : ∀ (dv' : List Value) (h' : Heap) (tk : Nat), Fr g L' h' m → News g L' h' [(Sd, listOf sv.toArray kS), (I, itO x₁ x₂), (c, instObj 427 dc), (dc, dictOf (cEs k6 k7 t6 t7 f fl) 2), (f, instObj 638 df), (df, dictOf (fEs k4 k5 t8 t9 Df) 2), (Df, { cls := .type "tuple", data := .seq #[.str "row" tf] }), (fl, instObj 898 dfl), (dfl, dictOf (flEs k0 t0 XL) 1), (XL, { cls := .type "list", data := .seq #[.ref e] nx }), (e, instObj 943 de), (de, dictOf (eEs k1 k2 k3 t1 t2 t3 t4 t5 TT) 3), (TT, instObj 333 dT), (dT, dictOf [] 0), (d, o), (RL, listOf dv'.toArray kR), (D₄, listOf ev.toArray k₄), (Dr, listOf rv.toArray kr), (D₁, listOf drv.toArray k₁), (L' + 1 + 1 + 1 + 1 + 1 + 1 + 1 + 1, oS), (L' + 1 + 1 + 1 + 1 + 1 + 1 + 1, oF), (L' + 1 + 1 + 1 + 1 + 1 + 1, oE), (L' + 1 + 1 + 1 + 1, oR), (L' + 1 + 1 + 1, oM), (L' + 1 + 1, oD), (823, tabO pt)] → IntsAre dv' (bump 1 ns ss) → wpAny (model prog w) A (execs rest (envOfC "law" scope L' 1038 (.ref 1037))) Q (fun _ _ => False) { s with heap := h', toks := tk }) :
    wpAny (model prog w) A (execs (body ++ rest) (envOfC "law" scope L' 1038 (.ref 1037))) Q (fun _ _ => False) s := by
  conv at hb => lhs; whnf
  conv at hs => lhs; whnf
  subst hb hs
  (try simp only [List.cons_append, List.nil_append])
  have X := G.X
  have T := G.T
  have h8 : ns.length ≤ 8 := by omega
  rcases ints_12 hsv hsl with ⟨a, ta, rfl, rfl⟩ | ⟨a, a', ta, ta', rfl, rfl⟩
  · have hb1 : 0 ≤ a ∧ a < ns.length := by rw [hnl]; exact hsb a (.head _)
    walk_at "mine walk"
    exact h _ _ _ (by k_asm) (News.sub (by k_asm) (by walk_at "mine mem")) (by with_reducible assumption)
  · have hb1 : (0 ≤ a ∧ a < ns.length) ∧ 0 ≤ a' ∧ a' < ns.length := by rw [hnl]; exact ⟨hsb a (.head _), hsb a' (.tail _ (.head _))⟩
    walk_at "mine walk"
    exact h _ _ _ (by k_asm) (News.sub (by k_asm) (by walk_at "mine mem")) (by with_reducible assumption)
end
end

section
local macro_rules | `(tactic| walk_at "mine code") => `(tactic| ((with_reducible show codeAny _ _ (Code.call (Value.ref 638) _) _ _); (refine fields_new (by first | assumption | exact Or.inl rfl | exact Or.inr (Or.inl rfl) | exact Or.inr (Or.inr rfl)) (by walk_at "mine kn") (by k_room) ?_); (intro x' dx' D' es' h' tk' lo1' lo2' lo3' hE' hW' he'); (obtain ⟨k1', k2', t1', t2', he2'⟩ := he'); (subst he2'); (try dsimp only at lo1' lo2' lo3' hE' hW'); (have hl' := news_lt (by with_reducible assumption)); (try simp only [AllLt] at hl'); (try ((first | (have fr' := BlkL.fresh (by with_reducible assumption) (by k_asm) (by k_asm) (by walk_at "mine own") (by walk_at "mine rst") hW') | (have fr' := Blk.fresh (by with_reducible assumption) (by k_asm) (by k_asm) (by walk_at "mine rst") hW') | (have fr' := New.fresh hW' (Back.ext (by with_reducible assumption) (by with_reducible assumption) (by k_asm) (by k_asm) (by walk_at "mine ext")))); simp only [List.forall_mem_cons] at fr'; obtain ⟨fr1', fr2', fr3', fr9'⟩ := fr')); (have ap' := New.apart (by k_asm) hW'); (simp only [List.forall_mem_cons] at ap'); (obtain ⟨ap1', ap2', ap3', ap9'⟩ := ap'); (have hF' := Fr.keeps (by k_asm) hE'); (have hN' := back_news (by k_asm) (by k_asm) hE' hW'); (try simp only [List.cons_append, List.nil_append] at hN'); (try k_sweep); (try dsimp only)))
local macro_rules | `(tactic| walk_at "mine code") => `(tactic| ((with_reducible show codeAny _ _ (Code.call (Value.ref 737) ⟨[_], []⟩) _ _); (refine index1 (by walk_at "mine kn") (by k_room) ?_); (intro x' dx' D' es' h' tk'  hE' hW' he'); (obtain ⟨k1', t1', he2'⟩ := he'); (subst he2'); (try dsimp only at  hE' hW'); (try ((first | (have fr' := BlkL.fresh (by with_reducible assumption) (by k_asm) (by k_asm) (by walk_at "mine own") (by walk_at "mine rst") hW') | (have fr' := Blk.fresh (by with_reducible assumption) (by k_asm) (by k_asm) (by walk_at "mine rst") hW') | (have fr' := New.fresh hW' (Back.ext (by with_reducible assumption) (by with_reducible assumption) (by k_asm) (by k_asm) (by walk_at "mine ext")))); simp only [List.forall_mem_cons] at fr'; obtain ⟨fr1', fr2', fr3', fr9'⟩ := fr')); (have ap' := New.apart (by k_asm) hW'); (simp only [List.forall_mem_cons] at ap'); (obtain ⟨ap1', ap2', ap3', ap9'⟩ := ap'); (have hF' := Fr.keeps (by k_asm) hE'); (have hN' := back_news (by k_asm) (by k_asm) hE' hW'); (try simp only [List.cons_append, List.nil_append] at hN'); (try k_sweep); (try dsimp only)))
local macro_rules | `(tactic| walk_at "mine code") => `(tactic| ((with_reducible show codeAny _ _ (Code.call (Value.ref 737) ⟨[_, _], []⟩) _ _); (refine index2 (by walk_at "mine kn") (by k_room) ?_); (intro x' dx' D' es' h' tk'  hE' hW' he'); (obtain ⟨k1', t1', he2'⟩ := he'); (subst he2'); (try dsimp only at  hE' hW'); (try ((first | (have fr' := BlkL.fresh (by with_reducible assumption) (by k_asm) (by k_asm) (by walk_at "mine own") (by walk_at "mine rst") hW') | (have fr' := Blk.fresh (by with_reducible assumption) (by k_asm) (by k_asm) (by walk_at "mine rst") hW') | (have fr' := New.fresh hW' (Back.ext (by with_reducible assumption) (by with_reducible assumption) (by k_asm) (by k_asm) (by walk_at "mine ext")))); simp only [List.forall_mem_cons] at fr'; obtain ⟨fr1', fr2', fr3', fr9'⟩ := fr')); (have ap' := New.apart (by k_asm) hW'); (simp only [List.forall_mem_cons] at ap'); (obtain ⟨ap1', ap2', ap3', ap9'⟩ := ap'); (have hF' := Fr.keeps (by k_asm) hE'); (have hN' := back_news (by k_asm) (by k_asm) hE' hW'); (try simp only [List.cons_append, List.nil_append] at hN'); (try k_sweep); (try dsimp only)))
local macro_rules | `(tactic| walk_at "mine code") => `(tactic| ((with_reducible show codeAny _ _ (Code.call (Value.ref 427) _) _ _); (refine child_new (by walk_at "mine kn") (by k_room) ?_); (intro x' dx' es' h' tk'  hE' hW' he'); (obtain ⟨k1', k2', t1', t2', he2'⟩ := he'); (subst he2'); (try dsimp only at  hE' hW'); (try ((first | (have fr' := BlkL.fresh (by with_reducible assumption) (by k_asm) (by k_asm) (by walk_at "mine own") (by walk_at "mine rst") hW') | (have fr' := Blk.fresh (by with_reducible assumption) (by k_asm) (by k_asm) (by walk_at "mine rst") hW') | (have fr' := New.fresh hW' (Back.ext (by with_reducible assumption) (by with_reducible assumption) (by k_asm) (by k_asm) (by walk_at "mine ext")))); simp only [List.forall_mem_cons] at fr'; obtain ⟨fr1', fr2', fr9'⟩ := fr')); (have ap' := New.apart (by k_asm) hW'); (simp only [List.forall_mem_cons] at ap'); (obtain ⟨ap1', ap2', ap9'⟩ := ap'); (have hF' := Fr.keeps (by k_asm) hE'); (have hN' := back_news (by k_asm) (by k_asm) hE' hW'); (try simp only [List.cons_append, List.nil_append] at hN'); (try k_sweep); (try dsimp only)))
local macro_rules | `(tactic| walk_at "mine code") => `(tactic| ((with_reducible show codeAny _ _ (Code.call (Value.ref 361) _) _ _); (refine cupd1 (by first | with_reducible assumption | exact Or.inl ⟨rfl, rfl⟩ | exact Or.inr ⟨rfl, rfl⟩) (by assumption) (by assumption) (by walk_at "mine kn") (by k_room) (by with_reducible assumption) (by with_reducible assumption) (by with_reducible assumption) (by with_unfolding_all assumption) ?_); (intro vs' h' tk' hK' hG' hI'); (try dsimp only at hK' hG'); (have hF' := fr_upd (by k_asm) (by k_asm) (by k_memK) hK'); (have hN' := news_upd (by k_asm) (by k_upd) hK' hG'); (try dsimp only [List.cons_append, List.nil_append] at hN'); (try k_sweep); (try dsimp only)))
local macro_rules | `(tactic| walk_at "mine code") => `(tactic| ((with_reducible show codeAny _ _ (Code.call (Value.ref 361) _) _ _); (refine cupd2 (by first | with_reducible assumption | exact Or.inl ⟨rfl, rfl⟩ | exact Or.inr ⟨rfl, rfl⟩) (by assumption) (by assumption) (by walk_at "mine kn") (by k_room) (by with_reducible assumption) (by with_reducible assumption) (by with_reducible assumption) (by with_unfolding_all assumption) ?_); (intro vs' h' tk' hK' hG' hI'); (try dsimp only at hK' hG'); (have hF' := fr_upd (by k_asm) (by k_asm) (by k_memK) hK'); (have hN' := news_upd (by k_asm) (by k_upd) hK' hG'); (try dsimp only [List.cons_append, List.nil_append] at hN'); (try k_sweep); (try dsimp only)))
local macro_rules | `(tactic| walk_at "mine code") => `(tactic| ((with_reducible show codeAny _ _ (Code.call (Value.ref 586) _) _ _); (refine fupL (by with_unfolding_all assumption) (by assumption) (by assumption) (by walk_at "mine kn") (by k_ne) (by k_room) ?_); (intro o' tl' h' tk' hK' hG' hI'); (try dsimp only at hK' hG'); (have hF' := fr_upd (by k_asm) (by k_asm) (by k_memK) hK'); (have hN' := news_upd (by k_asm) (by k_upd) hK' hG'); (try dsimp only [List.cons_append, List.nil_append] at hN'); (try k_sweep); (try dsimp only)))
local macro_rules | `(tactic| walk_at "mine code") => `(tactic| ((with_reducible show codeAny _ _ (Code.call (Value.ref 586) _) _ _); (refine fupR (by with_unfolding_all assumption) (by assumption) (by assumption) (by walk_at "mine kn") (by k_ne) (by k_room) ?_); (intro o' tl' h' tk' hK' hG' hI'); (try dsimp only at hK' hG'); (have hF' := fr_upd (by k_asm) (by k_asm) (by k_memK) hK'); (have hN' := news_upd (by k_asm) (by k_upd) hK' hG'); (try dsimp only [List.cons_append, List.nil_append] at hN'); (try k_sweep); (try dsimp only)))
local macro_rules | `(tactic| walk_at "getAttr ref") => `(tactic| ((with_reducible show wpAny _ _ (getAttr (Value.ref _) (PySem.Str.ofString "value") _) _ _ _); (refine get_value (by k_asm) (by assumption) (by k_room) (by k_inst) (by k_handed) ?_); (intro h' tk' hE'); (try dsimp only at hE'); (have hF' := Fr.keeps (by k_asm) hE'); (have hN' := News.grown (by k_asm) hE'); (try k_sweep)))
local macro_rules | `(tactic| walk_at "eval Name") => `(tactic| ((with_reducible show wpAny _ _ (eval (Expr.Name _ _) (envOfC _ _ _ _ _)) _ _ _); k_dflt (first
  | (refine' nameX_C ?N ?c ?m ?d ?_ ?a ?b; (case a => rfl); (case b => rfl); (case N => k_asm); (case c => rfl); (case m => k_memK); (case d => with_reducible assumption); k_whole)
  | (refine' nameX_L ?F ?v ?_ ?a ?b; (case a => rfl); (case b => rfl); (case F => k_asm); (case v => first | rfl | assumption); k_whole)
  | (refine' nameX_K ?F ?X ?T ?e ?_ ?a ?b; (case a => rfl); (case b => rfl); (case F => k_asm); (case X => k_asm); (case T => k_asm); (case e => k_is); k_whole))))
local macro_rules | `(tactic| walk_at "mine nobj") => `(tactic| first | exact ne_cell (by with_reducible assumption) (fun v e => by cases e) | exact (ne_cell (by with_reducible assumption) (fun v e => by cases e)).symm | exact isdict_ne_cell (by assumption) (by with_reducible assumption) | exact (isdict_ne_cell (by assumption) (by with_reducible assumption)).symm | exact ne_inst_seq | exact ne_inst_seq.symm | exact ne_seq_dict | exact ne_seq_dict.symm | exact ne_list_tuple | exact ne_list_tuple.symm | exact ne_seq_isdict (by assumption) | exact (ne_seq_isdict (by assumption)).symm | exact isdict_ne_tab (by assumption) | exact (isdict_ne_tab (by assumption)).symm | exact ne_isdict_inst (by assumption) | exact (ne_isdict_inst (by assumption)).symm | exact isdict_ne_it (by assumption) | exact (isdict_ne_it (by assumption)).symm | exact (fun e => by have := congrArg Obj.data e; cases this))
local macro_rules | `(tactic| k_ne) => `(tactic| first | exact AllNe.get (by with_reducible assumption) (by k_memK) | exact (AllNe.get (by with_reducible assumption) (by k_memK)).symm | exact ne_of_obj (by k_asm) (by k_memK) (by k_memK) (by walk_at "mine nobj") | (refine neN ?_; (try dsimp only); omega) | exact Apart.ne (by with_reducible assumption) (by k_memK) | exact (Apart.ne (by with_reducible assumption) (by k_memK)).symm)
local macro_rules | `(tactic| walk_at "compareOp In int ref") => `(tactic| (refine in_list_ints (News.isList (by k_asm) (by k_memK)) (by with_reducible assumption) ?_))
local macro_rules | `(tactic| walk_at "StarOf ref") => `(tactic| ((refine' star_seq ?k1 ?k2 ?m ?c ?d ?T ?e ?z ?_; (case k1 => k_asm); (case k2 => k_asm); (case m => k_memK); (case c => exact rfl); (case d => exact rfl); (case T => first | exact .inl rfl | exact .inr rfl); (case e => rfl); (case z => (rw [sizeLine_eq]; exact Nat.le_of_ble_eq_true rfl))); intro h' F' N'; (try k_sweep); try dsimp only [List.nil_append, List.cons_append]))
local macro_rules | `(tactic| walk_at "mine setL") => `(tactic| (refine And.intro ?_ ?_))
section
variable {prog : Program} {w : World} {A : Around} {s : Shared} {p : Program} {loose : List Str} {mg mb : Str → Option Value} {Q : Flow → Shared → Prop}
theorem law_T3 {g : Heap} {L' I D₁ D₄ Dr Sd c dc f df Df fl dfl XL e de TT dT d RL : Addr} {o oS oF oE oR oM oD : Obj} {k0 k1 k2 k3 k4 k5 k6 k7 x₁ x₂ l r : Int} {t0 t1 t2 t3 t4 t5 t6 t7 t8 t9 tf nx tl tr kR k₁ k₄ kr kS n pp : Nat} {tn tp : Tok} {drv rv ev dv sv : List Value} {ns ss : List Int} {pt : Array Value} {m : Str → Option Value} {vS : Option Value} {body rest : List Stmt} {scope : Scope}
    (hb : List.take 2 (List.drop 6 (turnBody (List.drop 10 (fnBody PySem.Challenge.pw_ae5016_01.main.body 36)))) = body) (hs : fnScope PySem.Challenge.pw_ae5016_01.main.body 36 = scope) (hh : A.handled = none) (hroom : A.depth + 120 ≤ 900) (G : Gd w p loose mg mb g) (h8L : @LT.lt Nat _ 823 L') (n3 : 3 ≤ n) (n5 : n ≤ 5) (hpp : pp < n)
    (F : Fr g L' s.heap m) (N : News g L' s.heap [(Sd, listOf sv.toArray kS), (I, itO x₁ x₂), (c, instObj 427 dc), (dc, dictOf (cEs k6 k7 t6 t7 f fl) 2), (f, instObj 638 df), (df, dictOf (fEs k4 k5 t8 t9 Df) 2), (Df, { cls := .type "tuple", data := .seq #[.str "row" tf] }), (fl, instObj 898 dfl), (dfl, dictOf (flEs k0 t0 XL) 1), (XL, { cls := .type "list", data := .seq #[.ref e] nx }), (e, instObj 943 de), (de, dictOf (eEs k1 k2 k3 t1 t2 t3 t4 t5 TT) 3), (TT, instObj 333 dT), (dT, dictOf [] 0), (d, o), (RL, listOf dv.toArray kR), (D₄, listOf ev.toArray k₄), (Dr, listOf rv.toArray kr), (D₁, listOf drv.toArray k₁), (L' + 1 + 1 + 1 + 1 + 1 + 1 + 1 + 1, oS), (L' + 1 + 1 + 1 + 1 + 1 + 1 + 1, oF), (L' + 1 + 1 + 1 + 1 + 1 + 1, oE), (L' + 1 + 1 + 1 + 1, oR), (L' + 1 + 1 + 1, oM), (L' + 1 + 1, oD), (823, tabO pt)])
    (hd : o.IsDictOf (strKind prog w) (docKs l r tl tr RL)) (lo : (d == sysModules) = false) (mD : m "document" = some (.ref d)) (nX : AllNe RL [(XL, tabO #[]), (D₁, tabO #[]), (Dr, tabO #[]), (D₄, tabO #[])]) (ndd : AllNe d [(dc, tabO #[]), (df, tabO #[]), (dfl, tabO #[]), (de, tabO #[]), (dT, tabO #[])])
    (hF : oF.data = .cell (some (.int pp tp))) (hE : oE.data = .cell (some (.ref D₄))) (hR : oR.data = .cell (some (.ref Dr))) (hM : oM.data = .cell (some (.int n tn))) (hD : oD.data = .cell (some (.ref D₁))) (hnl : ns.length = n)
    (hS : oS.data = .cell (some (.ref Sd))) (nSd : AllNe Sd [(I, itO x₁ x₂), (c, instObj 427 dc), (dc, dictOf (cEs k6 k7 t6 t7 f fl) 2), (f, instObj 638 df), (df, dictOf (fEs k4 k5 t8 t9 Df) 2), (Df, { cls := .type "tuple", data := .seq #[.str "row" tf] }), (fl, instObj 898 dfl), (dfl, dictOf (flEs k0 t0 XL) 1), (XL, { cls := .type "list", data := .seq #[.ref e] nx }), (e, instObj 943 de), (de, dictOf (eEs k1 k2 k3 t1 t2 t3 t4 t5 TT) 3), (TT, instObj 333 dT), (dT, dictOf [] 0), (d, o), (RL, listOf dv.toArray kR), (D₄, listOf ev.toArray k₄), (Dr, listOf rv.toArray kr), (D₁, listOf drv.toArray k₁), (L' + 1 + 1 + 1 + 1 + 1 + 1 + 1 + 1, oS), (L' + 1 + 1 + 1 + 1 + 1 + 1 + 1, oF), (L' + 1 + 1 + 1 + 1 + 1 + 1, oE), (L' + 1 + 1 + 1 + 1, oR), (L' + 1 + 1 + 1, oM), (L' + 1 + 1, oD), (823, tabO pt)])
    (h : ∀ (o' : Obj) (tl' tr' : Nat) (h' : Heap) (tk : Nat), Fr g L' h' m → News g L' h' [(Sd, listOf sv.toArray kS), (I, itO x₁ x₂), (c, instObj 427 dc), (dc, dictOf (cEs k6 k7 t6 t7 f fl) 2), (f, instObj 638 df), (df, dictOf (fEs k4 k5 t8 t9 Df) 2), (Df, { cls := .type "tuple", data := .seq #[.str "row" tf] }), (fl, instObj 898 dfl), (dfl, dictOf (flEs k0 t0 XL) 1), (XL, { cls := .type "list", data := .seq #[.ref e] nx }), (e, instObj 943 de), (de, dictOf (eEs k1 k2 k3 t1 t2 t3 t4 t5 TT) 3), (TT, instObj 333 dT), (dT, dictOf [] 0), (d, o'), (RL, listOf dv.toArray kR), (D₄, listOf ev.toArray k₄), (Dr, listOf rv.toArray kr), (D₁, listOf drv.toArray k₁), (L' + 1 + 1 + 1 + 1 + 1 + 1 + 1 + 1, oS), (L' + 1 + 1 + 1 + 1 + 1 + 1 + 1, oF), (L' + 1 + 1 + 1 + 1 + 1 + 1, oE), (L' + 1 + 1 + 1 + 1, oR), (L' + 1 + 1 + 1, oM), (L' + 1 + 1, oD), (823, tabO pt)] → o'.IsDictOf (strKind prog w) (docKs (l + if pp = 0 then 1 else 0) (r + if pp + 1 = n then 1 else 0) tl' tr' RL) → wpAny (model prog w) A (execs rest (envOfC "law" scope L' 1038 (.ref 1037))) Q (fun _ _ => False) { s with heap := h', toks := tk }) :
    wpAny (model prog w) A (execs (body ++ rest) (envOfC "law" scope L' 1038 (.ref 1037))) Q (fun _ _ => False) s := by
  conv at hb => lhs; whnf
  conv at hs => lhs; whnf
  subst hb hs
  (try simp only [List.cons_append, List.nil_append])
  have X := G.X
  have T := G.T
  walk_at "mine walk"
  all_goals (
    first | (have e1 : (if pp = 0 then (1 : Int) else 0) = 1 := if_pos (by omega)) | (have e1 : (if pp = 0 then (1 : Int) else 0) = 0 := if_neg (by omega))
    first | (have e2 : (if pp + 1 = n then (1 : Int) else 0) = 1 := if_pos (by omega)) | (have e2 : (if pp + 1 = n then (1 : Int) else 0) = 0 := if_neg (by omega))
    rw [e1, e2] at h
    (try simp only [Int.add_zero] at h)
    exact h _ _ _ _ _ (by k_asm) (News.sub (by k_asm) (by walk_at "mine mem")) (by assumption))
end
end

section
local macro_rules | `(tactic| walk_at "mine code") => `(tactic| ((with_reducible show codeAny _ _ (Code.call (Value.ref 638) _) _ _); (refine fields_new (by first | assumption | exact Or.inl rfl | exact Or.inr (Or.inl rfl) | exact Or.inr (Or.inr rfl)) (by walk_at "mine kn") (by k_room) ?_); (intro x' dx' D' es' h' tk' lo1' lo2' lo3' hE' hW' he'); (obtain ⟨k1', k2', t1', t2', he2'⟩ := he'); (subst he2'); (try dsimp only at lo1' lo2' lo3' hE' hW'); (have hl' := news_lt (by with_reducible assumption)); (try simp only [AllLt] at hl'); (try ((first | (have fr' := BlkL.fresh (by with_reducible assumption) (by k_asm) (by k_asm) (by walk_at "mine own") (by walk_at "mine rst") hW') | (have fr' := Blk.fresh (by with_reducible assumption) (by k_asm) (by k_asm) (by walk_at "mine rst") hW') | (have fr' := New.fresh hW' (Back.ext (by with_reducible assumption) (by with_reducible assumption) (by k_asm) (by k_asm) (by walk_at "mine ext")))); simp only [List.forall_mem_cons] at fr'; obtain ⟨fr1', fr2', fr3', fr9'⟩ := fr')); (have ap' := New.apart (by k_asm) hW'); (simp only [List.forall_mem_cons] at ap'); (obtain ⟨ap1', ap2', ap3', ap9'⟩ := ap'); (have hF' := Fr.keeps (by k_asm) hE'); (have hN' := back_news (by k_asm) (by k_asm) hE' hW'); (try simp only [List.cons_append, List.nil_append] at hN'); (try k_sweep); (try dsimp only)))
local macro_rules | `(tactic| walk_at "mine code") => `(tactic| ((with_reducible show codeAny _ _ (Code.call (Value.ref 737) ⟨[_], []⟩) _ _); (refine index1 (by walk_at "mine kn") (by k_room) ?_); (intro x' dx' D' es' h' tk'  hE' hW' he'); (obtain ⟨k1', t1', he2'⟩ := he'); (subst he2'); (try dsimp only at  hE' hW'); (try ((first | (have fr' := BlkL.fresh (by with_reducible assumption) (by k_asm) (by k_asm) (by walk_at "mine own") (by walk_at "mine rst") hW') | (have fr' := Blk.fresh (by with_reducible assumption) (by k_asm) (by k_asm) (by walk_at "mine rst") hW') | (have fr' := New.fresh hW' (Back.ext (by with_reducible assumption) (by with_reducible assumption) (by k_asm) (by k_asm) (by walk_at "mine ext")))); simp only [List.forall_mem_cons] at fr'; obtain ⟨fr1', fr2', fr3', fr9'⟩ := fr')); (have ap' := New.apart (by k_asm) hW'); (simp only [List.forall_mem_cons] at ap'); (obtain ⟨ap1', ap2', ap3', ap9'⟩ := ap'); (have hF' := Fr.keeps (by k_asm) hE'); (have hN' := back_news (by k_asm) (by k_asm) hE' hW'); (try simp only [List.cons_append, List.nil_append] at hN'); (try k_sweep); (try dsimp only)))
local macro_rules | `(tactic| walk_at "mine code") => `(tactic| ((with_reducible show codeAny _ _ (Code.call (Value.ref 737) ⟨[_, _], []⟩) _ _); (refine index2 (by walk_at "mine kn") (by k_room) ?_); (intro x' dx' D' es' h' tk'  hE' hW' he'); (obtain ⟨k1', t1', he2'⟩ := he'); (subst he2'); (try dsimp only at  hE' hW'); (try ((first | (have fr' := BlkL.fresh (by with_reducible assumption) (by k_asm) (by k_asm) (by walk_at "mine own") (by walk_at "mine rst") hW') | (have fr' := Blk.fresh (by with_reducible assumption) (by k_asm) (by k_asm) (by walk_at "mine rst") hW') | (have fr' := New.fresh hW' (Back.ext (by with_reducible assumption) (by with_reducible assumption) (by k_asm) (by k_asm) (by walk_at "mine ext")))); simp only [List.forall_mem_cons] at fr'; obtain ⟨fr1', fr2', fr3', fr9'⟩ := fr')); (have ap' := New.apart (by k_asm) hW'); (simp only [List.forall_mem_cons] at ap'); (obtain ⟨ap1', ap2', ap3', ap9'⟩ := ap'); (have hF' := Fr.keeps (by k_asm) hE'); (have hN' := back_news (by k_asm) (by k_asm) hE' hW'); (try simp only [List.cons_append, List.nil_append] at hN'); (try k_sweep); (try dsimp only)))
local macro_rules | `(tactic| walk_at "mine code") => `(tactic| ((with_reducible show codeAny _ _ (Code.call (Value.ref 427) _) _ _); (refine child_new (by walk_at "mine kn") (by k_room) ?_); (intro x' dx' es' h' tk'  hE' hW' he'); (obtain ⟨k1', k2', t1', t2', he2'⟩ := he'); (subst he2'); (try dsimp only at  hE' hW'); (try ((first | (have fr' := BlkL.fresh (by with_reducible assumption) (by k_asm) (by k_asm) (by walk_at "mine own") (by walk_at "mine rst") hW') | (have fr' := Blk.fresh (by with_reducible assumption) (by k_asm) (by k_asm) (by walk_at "mine rst") hW') | (have fr' := New.fresh hW' (Back.ext (by with_reducible assumption) (by with_reducible assumption) (by k_asm) (by k_asm) (by walk_at "mine ext")))); simp only [List.forall_mem_cons] at fr'; obtain ⟨fr1', fr2', fr9'⟩ := fr')); (have ap' := New.apart (by k_asm) hW'); (simp only [List.forall_mem_cons] at ap'); (obtain ⟨ap1', ap2', ap9'⟩ := ap'); (have hF' := Fr.keeps (by k_asm) hE'); (have hN' := back_news (by k_asm) (by k_asm) hE' hW'); (try simp only [List.cons_append, List.nil_append] at hN'); (try k_sweep); (try dsimp only)))
local macro_rules | `(tactic| walk_at "mine code") => `(tactic| ((with_reducible show codeAny _ _ (Code.call (Value.ref 361) _) _ _); (refine cupd1 (by first | with_reducible assumption | exact Or.inl ⟨rfl, rfl⟩ | exact Or.inr ⟨rfl, rfl⟩) (by assumption) (by assumption) (by walk_at "mine kn") (by k_room) (by with_reducible assumption) (by with_reducible assumption) (by with_reducible assumption) (by with_unfolding_all assumption) ?_); (intro vs' h' tk' hK' hG' hI'); (try dsimp only at hK' hG'); (have hF' := fr_upd (by k_asm) (by k_asm) (by k_memK) hK'); (have hN' := news_upd (by k_asm) (by k_upd) hK' hG'); (try dsimp only [List.cons_append, List.nil_append] at hN'); (try k_sweep); (try dsimp only)))
local macro_rules | `(tactic| walk_at "mine code") => `(tactic| ((with_reducible show codeAny _ _ (Code.call (Value.ref 361) _) _ _); (refine cupd2 (by first | with_reducible assumption | exact Or.inl ⟨rfl, rfl⟩ | exact Or.inr ⟨rfl, rfl⟩) (by assumption) (by assumption) (by walk_at "mine kn") (by k_room) (by with_reducible assumption) (by with_reducible assumption) (by with_reducible assumption) (by with_unfolding_all assumption) ?_); (intro vs' h' tk' hK' hG' hI'); (try dsimp only at hK' hG'); (have hF' := fr_upd (by k_asm) (by k_asm) (by k_memK) hK'); (have hN' := news_upd (by k_asm) (by k_upd) hK' hG'); (try dsimp only [List.cons_append, List.nil_append] at hN'); (try k_sweep); (try dsimp only)))
local macro_rules | `(tactic| walk_at "mine code") => `(tactic| ((with_reducible show codeAny _ _ (Code.call (Value.ref 586) _) _ _); (refine fupL (by with_unfolding_all assumption) (by assumption) (by assumption) (by walk_at "mine kn") (by k_ne) (by k_room) ?_); (intro o' tl' h' tk' hK' hG' hI'); (try dsimp only at hK' hG'); (have hF' := fr_upd (by k_asm) (by k_asm) (by k_memK) hK'); (have hN' := news_upd (by k_asm) (by k_upd) hK' hG'); (try dsimp only [List.cons_append, List.nil_append] at hN'); (try k_sweep); (try dsimp only)))
local macro_rules | `(tactic| walk_at "mine code") => `(tactic| ((with_reducible show codeAny _ _ (Code.call (Value.ref 586) _) _ _); (refine fupR (by with_unfolding_all assumption) (by assumption) (by assumption) (by walk_at "mine kn") (by k_ne) (by k_room) ?_); (intro o' tl' h' tk' hK' hG' hI'); (try dsimp only at hK' hG'); (have hF' := fr_upd (by k_asm) (by k_asm) (by k_memK) hK'); (have hN' := news_upd (by k_asm) (by k_upd) hK' hG'); (try dsimp only [List.cons_append, List.nil_append] at hN'); (try k_sweep); (try dsimp only)))
local macro_rules | `(tactic| walk_at "getAttr ref") => `(tactic| ((with_reducible show wpAny _ _ (getAttr (Value.ref _) (PySem.Str.ofString "value") _) _ _ _); (refine get_value (by k_asm) (by assumption) (by k_room) (by k_inst) (by k_handed) ?_); (intro h' tk' hE'); (try dsimp only at hE'); (have hF' := Fr.keeps (by k_asm) hE'); (have hN' := News.grown (by k_asm) hE'); (try k_sweep)))
local macro_rules | `(tactic| walk_at "eval Name") => `(tactic| ((with_reducible show wpAny _ _ (eval (Expr.Name _ _) (envOfC _ _ _ _ _)) _ _ _); k_dflt (first
  | (refine' nameX_C ?N ?c ?m ?d ?_ ?a ?b; (case a => rfl); (case b => rfl); (case N => k_asm); (case c => rfl); (case m => k_memK); (case d => with_reducible assumption); k_whole)
  | (refine' nameX_L ?F ?v ?_ ?a ?b; (case a => rfl); (case b => rfl); (case F => k_asm); (case v => first | rfl | assumption); k_whole)
  | (refine' nameX_K ?F ?X ?T ?e ?_ ?a ?b; (case a => rfl); (case b => rfl); (case F => k_asm); (case X => k_asm); (case T => k_asm); (case e => k_is); k_whole))))
local macro_rules | `(tactic| walk_at "mine nobj") => `(tactic| first | exact ne_cell (by with_reducible assumption) (fun v e => by cases e) | exact (ne_cell (by with_reducible assumption) (fun v e => by cases e)).symm | exact isdict_ne_cell (by assumption) (by with_reducible assumption) | exact (isdict_ne_cell (by assumption) (by with_reducible assumption)).symm | exact ne_inst_seq | exact ne_inst_seq.symm | exact ne_seq_dict | exact ne_seq_dict.symm | exact ne_list_tuple | exact ne_list_tuple.symm | exact ne_seq_isdict (by assumption) | exact (ne_seq_isdict (by assumption)).symm | exact isdict_ne_tab (by assumption) | exact (isdict_ne_tab (by assumption)).symm | exact ne_isdict_inst (by assumption) | exact (ne_isdict_inst (by assumption)).symm | exact isdict_ne_it (by assumption) | exact (isdict_ne_it (by assumption)).symm | exact (fun e => by have := congrArg Obj.data e; cases this))
local macro_rules | `(tactic| k_ne) => `(tactic| first | exact AllNe.get (by with_reducible assumption) (by k_memK) | exact (AllNe.get (by with_reducible assumption) (by k_memK)).symm | exact ne_of_obj (by k_asm) (by k_memK) (by k_memK) (by walk_at "mine nobj") | (refine neN ?_; (try dsimp only); omega) | exact Apart.ne (by with_reducible assumption) (by k_memK) | exact (Apart.ne (by with_reducible assumption) (by k_memK)).symm)
local macro_rules | `(tactic| walk_at "compareOp In int ref") => `(tactic| (refine in_list_ints (News.isList (by k_asm) (by k_memK)) (by with_reducible assumption) ?_))
local macro_rules | `(tactic| walk_at "StarOf ref") => `(tactic| ((refine' star_seq ?k1 ?k2 ?m ?c ?d ?T ?e ?z ?_; (case k1 => k_asm); (case k2 => k_asm); (case m => k_memK); (case c => exact rfl); (case d => exact rfl); (case T => first | exact .inl rfl | exact .inr rfl); (case e => rfl); (case z => (rw [sizeLine_eq]; exact Nat.le_of_ble_eq_true rfl))); intro h' F' N'; (try k_sweep); try dsimp only [List.nil_append, List.cons_append]))
local macro_rules | `(tactic| walk_at "mine setL") => `(tactic| (refine And.intro ?_ ?_))
section
variable {prog : Program} {w : World} {A : Around} {s : Shared} {p : Program} {loose : List Str} {mg mb : Str → Option Value} {Q : Flow → Shared → Prop}
theorem law_T4 {g : Heap} {L' I D₁ D₄ Dr Sd c dc f df Df fl dfl XL e de TT dT d RL : Addr} {o oS oF oE oR oM oD : Obj} {k0 k1 k2 k3 k4 k5 k6 k7 x₁ x₂ l r : Int} {t0 t1 t2 t3 t4 t5 t6 t7 t8 t9 tf nx tl tr kR k₁ k₄ kr kS n pp : Nat} {tn tp : Tok} {drv rv ev dv sv : List Value} {ns ss : List Int} {pt : Array Value} {m : Str → Option Value} {vS : Option Value} {body rest : List Stmt} {scope : Scope}
    (hb : List.drop 8 (turnBody (List.drop 10 (fnBody PySem.Challenge.pw_ae5016_01.main.body 36))) = body) (hs : fnScope PySem.Challenge.pw_ae5016_01.main.body 36 = scope) (hh : A.handled = none) (hroom : A.depth + 120 ≤ 900) (G : Gd w p loose mg mb g) (h8L : @LT.lt Nat _ 823 L') (n3 : 3 ≤ n) (n5 : n ≤ 5) (hpp : pp < n)
    (F : Fr g L' s.heap m) (N : News g L' s.heap [(Sd, listOf sv.toArray kS), (I, itO x₁ x₂), (c, instObj 427 dc), (dc, dictOf (cEs k6 k7 t6 t7 f fl) 2), (f, instObj 638 df), (df, dictOf (fEs k4 k5 t8 t9 Df) 2), (Df, { cls := .type "tuple", data := .seq #[.str "row" tf] }), (fl, instObj 898 dfl), (dfl, dictOf (flEs k0 t0 XL) 1), (XL, { cls := .type "list", data := .seq #[.ref e] nx }), (e, instObj 943 de), (de, dictOf (eEs k1 k2 k3 t1 t2 t3 t4 t5 TT) 3), (TT, instObj 333 dT), (dT, dictOf [] 0), (d, o), (RL, listOf dv.toArray kR), (D₄, listOf ev.toArray k₄), (Dr, listOf rv.toArray kr), (D₁, listOf drv.toArray k₁), (L' + 1 + 1 + 1 + 1 + 1 + 1 + 1 + 1, oS), (L' + 1 + 1 + 1 + 1 + 1 + 1 + 1, oF), (L' + 1 + 1 + 1 + 1 + 1 + 1, oE), (L' + 1 + 1 + 1 + 1, oR), (L' + 1 + 1 + 1, oM), (L' + 1 + 1, oD), (823, tabO pt)])
    (hd : o.IsDictOf (strKind prog w) (docKs l r tl tr RL)) (lo : (d == sysModules) = false) (mD : m "document" = some (.ref d)) (nX : AllNe RL [(XL, tabO #[]), (D₁, tabO #[]), (Dr, tabO #[]), (D₄, tabO #[])]) (ndd : AllNe d [(dc, tabO #[]), (df, tabO #[]), (dfl, tabO #[]), (de, tabO #[]), (dT, tabO #[])])
    (hF : oF.data = .cell (some (.int pp tp))) (hE : oE.data = .cell (some (.ref D₄))) (hR : oR.data = .cell (some (.ref Dr))) (hM : oM.data = .cell (some (.int n tn))) (hD : oD.data = .cell (some (.ref D₁))) (hnl : ns.length = n)
    (hS : oS.data = .cell (some (.ref Sd))) (hsv : IntsAre sv (sidesL n pp)) (hrv : IntsAre rv ns) (nSd : AllNe Sd [(I, itO x₁ x₂), (c, instObj 427 dc), (dc, dictOf (cEs k6 k7 t6 t7 f fl) 2), (f, instObj 638 df), (df, dictOf (fEs k4 k5 t8 t9 Df) 2), (Df, { cls := .type "tuple", data := .seq #[.str "row" tf] }), (fl, instObj 898 dfl), (dfl, dictOf (flEs k0 t0 XL) 1), (XL, { cls := .type "list", data := .seq #[.ref e] nx }), (e, instObj 943 de), (de, dictOf (eEs k1 k2 k3 t1 t2 t3 t4 t5 TT) 3), (TT, instObj 333 dT), (dT, dictOf [] 0), (d, o), (RL, listOf dv.toArray kR), (D₄, listOf ev.toArray k₄), (Dr, listOf rv.toArray kr), (D₁, listOf drv.toArray k₁), (L' + 1 + 1 + 1 + 1 + 1 + 1 + 1 + 1, oS), (L' + 1 + 1 + 1 + 1 + 1 + 1 + 1, oF), (L' + 1 + 1 + 1 + 1 + 1 + 1, oE), (L' + 1 + 1 + 1 + 1, oR), (L' + 1 + 1 + 1, oM), (L' + 1 + 1, oD), (823, tabO pt)])
    (h : ∀ (Dr' : Addr) (rv' : List Value) (kr' : Nat) (oR' : Obj) (h' : Heap) (tk : Nat), Fr g L' h' m → News g L' h' [(I, itO x₁ x₂), (c, instObj 427 dc), (dc, dictOf (cEs k6 k7 t6 t7 f fl) 2), (f, instObj 638 df), (df, dictOf (fEs k4 k5 t8 t9 Df) 2), (Df, { cls := .type "tuple", data := .seq #[.str "row" tf] }), (fl, instObj 898 dfl), (dfl, dictOf (flEs k0 t0 XL) 1), (XL, { cls := .type "list", data := .seq #[.ref e] nx }), (e, instObj 943 de), (de, dictOf (eEs k1 k2 k3 t1 t2 t3 t4 t5 TT) 3), (TT, instObj 333 dT), (dT, dictOf [] 0), (d, o), (RL, listOf dv.toArray kR), (D₄, listOf ev.toArray k₄), (Dr', listOf rv'.toArray kr'), (D₁, listOf drv.toArray k₁), (L' + 1 + 1 + 1 + 1 + 1 + 1 + 1 + 1, oS), (L' + 1 + 1 + 1 + 1 + 1 + 1 + 1, oF), (L' + 1 + 1 + 1 + 1 + 1 + 1, oE), (L' + 1 + 1 + 1 + 1, oR'), (L' + 1 + 1 + 1, oM), (L' + 1 + 1, oD), (823, tabO pt)] → oR'.data = .cell (some (.ref Dr')) → IntsAre rv' (topple n ns pp) → AllNe Dr' [(I, itO x₁ x₂), (c, instObj 427 dc), (dc, dictOf (cEs k6 k7 t6 t7 f fl) 2), (f, instObj 638 df), (df, dictOf (fEs k4 k5 t8 t9 Df) 2), (Df, { cls := .type "tuple", data := .seq #[.str "row" tf] }), (fl, instObj 898 dfl), (dfl, dictOf (flEs k0 t0 XL) 1), (XL, { cls := .type "list", data := .seq #[.ref e] nx }), (e, instObj 943 de), (de, dictOf (eEs k1 k2 k3 t1 t2 t3 t4 t5 TT) 3), (TT, instObj 333 dT), (dT, dictOf [] 0), (d, o), (RL, listOf dv.toArray kR), (D₄, listOf ev.toArray k₄), (Dr, listOf rv.toArray kr), (D₁, listOf drv.toArray k₁), (L' + 1 + 1 + 1 + 1 + 1 + 1 + 1 + 1, oS), (L' + 1 + 1 + 1 + 1 + 1 + 1 + 1, oF), (L' + 1 + 1 + 1 + 1 + 1 + 1, oE), (L' + 1 + 1 + 1 + 1, oR), (L' + 1 + 1 + 1, oM), (L' + 1 + 1, oD), (823, tabO pt)] → Q .next { s with heap := h', toks := tk }) :
    wpAny (model prog w) A (execs body (envOfC "law" scope L' 1038 (.ref 1037))) Q (fun _ _ => False) s := by
  conv at hb => lhs; whnf
  conv at hs => lhs; whnf
  subst hb hs
  (try simp only [List.cons_append, List.nil_append])
  have X := G.X
  have T := G.T
  walk_at "mine walk"
  refine lc_range n (fun H i ys h => IntsAre ys ((List.range i).map fun k => if k = pp then ns.getD k 0 - 2 else if k + 1 = pp ∨ k = pp + 1 then ns.getD k 0 + 1 else ns.getD k 0)) (by assumption) rfl (by omega) ⟨_, _, rfl⟩ (by with_unfolding_all assumption) (by k_asm) (by k_asm) ?_ ?_ ?_ ?_
  · exact fun H _ => .nil
  · exact fun H i ys h h' k e => e
  · intro H C j hq t tk ys m' hE hn' hb hjn hJ F N
    have BL : Blk _ C _ _ := ⟨hb, hn'⟩
    simp only [List.cons_append, List.nil_append] at N
    have i0 : 0 ≤ (j : Int) := Int.natCast_nonneg j
    have i5 : (j : Int) < 5 := by omega
    walk_at "mine walk"
    · have e : j = pp := by omega
      refine BL.good (by k_asm) (by k_asm) (by walk_at "mine rst") ?_
      rw [List.range_succ, List.map_append, List.map_singleton, if_pos e]
      exact ints_snoc hJ
    · have e : ¬ j = pp := by omega
      have e1 := (sides_mem (p := pp) hjn).symm.trans (by assumption)
      refine BL.good (by k_asm) (by k_asm) (by walk_at "mine rst") ?_
      rw [List.range_succ, List.map_append, List.map_singleton, if_neg e, if_pos (of_decide_eq_true e1)]
      exact ints_snoc hJ
    · have e : ¬ j = pp := by omega
      have e1 := (sides_mem (p := pp) hjn).symm.trans (by assumption)
      refine BL.good (by k_asm) (by k_asm) (by walk_at "mine rst") ?_
      rw [List.range_succ, List.map_append, List.map_singleton, if_neg e, if_neg (of_decide_eq_false e1)]
      exact ints_snoc hJ
  · intro H Dr' h₄ tk₄ ys₄ kr' hE₄ hDr hHDr F N hnDr hJ
    have nDr := allNe_of hnDr
    walk_at "mine walk"
    exact h _ _ _ _ _ _ (by k_asm) (News.sub (by k_asm) (by walk_at "mine mem")) (by with_reducible assumption) hJ (AllNe.sub hnDr (by walk_at "mine mem"))
end
end

section
local macro_rules | `(tactic| walk_at "getAttr ref") => `(tactic| ((with_reducible show wpAny _ _ (getAttr (Value.ref _) (PySem.Str.ofString "value") _) _ _ _); (refine get_value (by k_asm) (by assumption) (by k_room) (by k_inst) (by k_handed) ?_); (intro h' tk' hE'); (try dsimp only at hE'); (have hF' := Fr.keeps (by k_asm) hE'); (have hN' := News.grown (by k_asm) hE'); (try k_sweep)))
local macro_rules | `(tactic| walk_at "eval Name") => `(tactic| ((with_reducible show wpAny _ _ (eval (Expr.Name _ _) (envOfC _ _ _ _ _)) _ _ _); k_dflt (first
  | (refine' nameX_C ?N ?c ?m ?d ?_ ?a ?b; (case a => rfl); (case b => rfl); (case N => k_asm); (case c => rfl); (case m => k_memK); (case d => with_reducible assumption); k_whole)
  | (refine' nameX_L ?F ?v ?_ ?a ?b; (case a => rfl); (case b => rfl); (case F => k_asm); (case v => first | rfl | assumption); k_whole)
  | (refine' nameX_K ?F ?X ?T ?e ?_ ?a ?b; (case a => rfl); (case b => rfl); (case F => k_asm); (case X => k_asm); (case T => k_asm); (case e => k_is); k_whole))))
local macro_rules | `(tactic| walk_at "mine nobj") => `(tactic| first | exact ne_cell (by with_reducible assumption) (fun v e => by cases e) | exact (ne_cell (by with_reducible assumption) (fun v e => by cases e)).symm | exact isdict_ne_cell (by assumption) (by with_reducible assumption) | exact (isdict_ne_cell (by assumption) (by with_reducible assumption)).symm | exact ne_inst_seq | exact ne_inst_seq.symm | exact ne_seq_dict | exact ne_seq_dict.symm | exact ne_list_tuple | exact ne_list_tuple.symm | exact ne_seq_isdict (by assumption) | exact (ne_seq_isdict (by assumption)).symm | exact isdict_ne_tab (by assumption) | exact (isdict_ne_tab (by assumption)).symm | exact ne_isdict_inst (by assumption) | exact (ne_isdict_inst (by assumption)).symm | exact isdict_ne_it (by assumption) | exact (isdict_ne_it (by assumption)).symm | exact (fun e => by have := congrArg Obj.data e; cases this))
local macro_rules | `(tactic| k_ne) => `(tactic| first | exact AllNe.get (by with_reducible assumption) (by k_memK) | exact (AllNe.get (by with_reducible assumption) (by k_memK)).symm | exact ne_of_obj (by k_asm) (by k_memK) (by k_memK) (by walk_at "mine nobj") | (refine neN ?_; (try dsimp only); omega) | exact Apart.ne (by with_reducible assumption) (by k_memK) | exact (Apart.ne (by with_reducible assumption) (by k_memK)).symm)
local macro_rules | `(tactic| walk_at "compareOp In int ref") => `(tactic| (refine in_list_ints (News.isList (by k_asm) (by k_memK)) (by with_reducible assumption) ?_))
local macro_rules | `(tactic| walk_at "StarOf ref") => `(tactic| ((refine' star_seq ?k1 ?k2 ?m ?c ?d ?T ?e ?z ?_; (case k1 => k_asm); (case k2 => k_asm); (case m => k_memK); (case c => exact rfl); (case d => exact rfl); (case T => first | exact .inl rfl | exact .inr rfl); (case e => rfl); (case z => (rw [sizeLine_eq]; exact Nat.le_of_ble_eq_true rfl))); intro h' F' N'; (try k_sweep); try dsimp only [List.nil_append, List.cons_append]))
local macro_rules | `(tactic| walk_at "mine setL") => `(tactic| (refine And.intro ?_ ?_))
section
variable {prog : Program} {w : World} {A : Around} {s : Shared} {p : Program} {loose : List Str} {mg mb : Str → Option Value} {Q : Flow → Shared → Prop}
theorem law_T {g : Heap} {L' I D₁ D₄ Dr c dc f df Df fl dfl XL e de TT dT d RL : Addr} {o oS oF oE oR oM oD : Obj} {k0 k1 k2 k3 k4 k5 k6 k7 x₁ x₂ l r : Int} {t0 t1 t2 t3 t4 t5 t6 t7 t8 t9 tf nx tl tr kR k₁ k₄ kr n pp : Nat} {tn tp : Tok} {drv rv ev dv : List Value} {ns : List Int} {pt : Array Value} {m : Str → Option Value} {vS : Option Value} {body : List Stmt} {scope : Scope}
    (hb : List.drop 3 (turnBody (List.drop 10 (fnBody PySem.Challenge.pw_ae5016_01.main.body 36))) = body) (hs : fnScope PySem.Challenge.pw_ae5016_01.main.body 36 = scope) (hh : A.handled = none) (hroom : A.depth + 120 ≤ 900) (G : Gd w p loose mg mb g) (h8L : @LT.lt Nat _ 823 L') (n3 : 3 ≤ n) (n5 : n ≤ 5) (hpp : pp < n)
    (F : Fr g L' s.heap m) (N : News g L' s.heap [(I, itO x₁ x₂), (c, instObj 427 dc), (dc, dictOf (cEs k6 k7 t6 t7 f fl) 2), (f, instObj 638 df), (df, dictOf (fEs k4 k5 t8 t9 Df) 2), (Df, { cls := .type "tuple", data := .seq #[.str "row" tf] }), (fl, instObj 898 dfl), (dfl, dictOf (flEs k0 t0 XL) 1), (XL, { cls := .type "list", data := .seq #[.ref e] nx }), (e, instObj 943 de), (de, dictOf (eEs k1 k2 k3 t1 t2 t3 t4 t5 TT) 3), (TT, instObj 333 dT), (dT, dictOf [] 0), (d, o), (RL, listOf dv.toArray kR), (D₄, listOf ev.toArray k₄), (Dr, listOf rv.toArray kr), (D₁, listOf drv.toArray k₁), (L' + 1 + 1 + 1 + 1 + 1 + 1 + 1 + 1, oS), (L' + 1 + 1 + 1 + 1 + 1 + 1 + 1, oF), (L' + 1 + 1 + 1 + 1 + 1 + 1, oE), (L' + 1 + 1 + 1 + 1, oR), (L' + 1 + 1 + 1, oM), (L' + 1 + 1, oD), (823, tabO pt)])
    (hd : o.IsDictOf (strKind prog w) (docKs l r tl tr RL)) (lo : (d == sysModules) = false) (mD : m "document" = some (.ref d)) (nX : AllNe RL [(XL, tabO #[]), (D₁, tabO #[]), (Dr, tabO #[]), (D₄, tabO #[])]) (ndd : AllNe d [(dc, tabO #[]), (df, tabO #[]), (dfl, tabO #[]), (de, tabO #[]), (dT, tabO #[])])
    (hF : oF.data = .cell (some (.int pp tp))) (hE : oE.data = .cell (some (.ref D₄))) (hR : oR.data = .cell (some (.ref Dr))) (hM : oM.data = .cell (some (.int n tn))) (hD : oD.data = .cell (some (.ref D₁))) (hnl : ns.length = n)
    (hS : oS.data = .cell vS) (hdv : IntsAre dv ns) (hrv : IntsAre rv ns)
    (h : ∀ (o' oS' oR' : Obj) (Dr' : Addr) (dv' rv' : List Value) (kr' tl' tr' : Nat) (vS' : Option Value) (h' : Heap) (tk : Nat), Fr g L' h' m → News g L' h' [(I, itO x₁ x₂), (c, instObj 427 dc), (dc, dictOf (cEs k6 k7 t6 t7 f fl) 2), (f, instObj 638 df), (df, dictOf (fEs k4 k5 t8 t9 Df) 2), (Df, { cls := .type "tuple", data := .seq #[.str "row" tf] }), (fl, instObj 898 dfl), (dfl, dictOf (flEs k0 t0 XL) 1), (XL, { cls := .type "list", data := .seq #[.ref e] nx }), (e, instObj 943 de), (de, dictOf (eEs k1 k2 k3 t1 t2 t3 t4 t5 TT) 3), (TT, instObj 333 dT), (dT, dictOf [] 0), (d, o'), (RL, listOf dv'.toArray kR), (D₄, listOf ev.toArray k₄), (Dr', listOf rv'.toArray kr'), (D₁, listOf drv.toArray k₁), (L' + 1 + 1 + 1 + 1 + 1 + 1 + 1 + 1, oS'), (L' + 1 + 1 + 1 + 1 + 1 + 1 + 1, oF), (L' + 1 + 1 + 1 + 1 + 1 + 1, oE), (L' + 1 + 1 + 1 + 1, oR'), (L' + 1 + 1 + 1, oM), (L' + 1 + 1, oD), (823, tabO pt)] →
      o'.IsDictOf (strKind prog w) (docKs (l + if pp = 0 then 1 else 0) (r + if pp + 1 = n then 1 else 0) tl' tr' RL) → oS'.data = .cell vS' → oR'.data = .cell (some (.ref Dr')) → IntsAre dv' (topple n ns pp) → IntsAre rv' (topple n ns pp) → AllNe Dr' [(I, itO x₁ x₂), (c, instObj 427 dc), (dc, dictOf (cEs k6 k7 t6 t7 f fl) 2), (f, instObj 638 df), (df, dictOf (fEs k4 k5 t8 t9 Df) 2), (Df, { cls := .type "tuple", data := .seq #[.str "row" tf] }), (fl, instObj 898 dfl), (dfl, dictOf (flEs k0 t0 XL) 1), (XL, { cls := .type "list", data := .seq #[.ref e] nx }), (e, instObj 943 de), (de, dictOf (eEs k1 k2 k3 t1 t2 t3 t4 t5 TT) 3), (TT, instObj 333 dT), (dT, dictOf [] 0), (d, o), (RL, listOf dv.toArray kR), (D₄, listOf ev.toArray k₄), (Dr, listOf rv.toArray kr), (D₁, listOf drv.toArray k₁), (L' + 1 + 1 + 1 + 1 + 1 + 1 + 1 + 1, oS), (L' + 1 + 1 + 1 + 1 + 1 + 1 + 1, oF), (L' + 1 + 1 + 1 + 1 + 1 + 1, oE), (L' + 1 + 1 + 1 + 1, oR), (L' + 1 + 1 + 1, oM), (L' + 1 + 1, oD), (823, tabO pt)] → Q .next { s with heap := h', toks := tk }) :
    wpAny (model prog w) A (execs body (envOfC "law" scope L' 1038 (.ref 1037))) Q (fun _ _ => False) s := by
  have e1 : List.drop 3 (turnBody (List.drop 10 (fnBody PySem.Challenge.pw_ae5016_01.main.body 36))) = List.take 2 (List.drop 3 (turnBody (List.drop 10 (fnBody PySem.Challenge.pw_ae5016_01.main.body 36)))) ++ List.drop 5 (turnBody (List.drop 10 (fnBody PySem.Challenge.pw_ae5016_01.main.body 36))) := (List.take_append_drop 2 _).symm.trans (congrArg _ List.drop_drop)
  have e2 : List.drop 5 (turnBody (List.drop 10 (fnBody PySem.Challenge.pw_ae5016_01.main.body 36))) = List.take 1 (List.drop 5 (turnBody (List.drop 10 (fnBody PySem.Challenge.pw_ae5016_01.main.body 36)))) ++ List.drop 6 (turnBody (List.drop 10 (fnBody PySem.Challenge.pw_ae5016_01.main.body 36))) := (List.take_append_drop 1 _).symm.trans (congrArg _ List.drop_drop)
  have e3 : List.drop 6 (turnBody (List.drop 10 (fnBody PySem.Challenge.pw_ae5016_01.main.body 36))) = List.take 2 (List.drop 6 (turnBody (List.drop 10 (fnBody PySem.Challenge.pw_ae5016_01.main.body 36)))) ++ List.drop 8 (turnBody (List.drop 10 (fnBody PySem.Challenge.pw_ae5016_01.main.body 36))) := (List.take_append_drop 2 _).symm.trans (congrArg _ List.drop_drop)
  rw [← hb, e1]
  refine law_T1 (Sd := 0) (kS := 0) (sv := []) (ss := []) rfl hs hh hroom G h8L n3 n5 hpp F N hd lo mD nX ndd hF hE hR hM hD hnl hS hdv ?_
  intro Sd sv dv₁ kS oS₁ h₁ tk₁ F₁ N₁ hS₁ hsv hdv₁ nSd
  rw [e2]
  refine law_T2 (vS := none) rfl hs hh hroom G h8L n3 n5 hpp F₁ N₁ hd lo mD nX ndd hF hE hR hM hD ((bump_len _ _ _).trans hnl) hS₁ hsv hdv₁ (sidesL_len n3 n5 hpp) sidesL_in nSd ?_
  intro dv₂ h₂ tk₂ F₂ N₂ hdv₂
  rw [bump_topple hnl n3 n5 hpp] at hdv₂
  rw [e3]
  refine law_T3 (vS := none) (ss := []) rfl hs hh hroom G h8L n3 n5 hpp F₂ N₂ hd lo mD nX ndd hF hE hR hM hD hnl hS₁ nSd ?_
  intro o₃ tl₃ tr₃ h₃ tk₃ F₃ N₃ hd₃
  refine law_T4 (vS := none) (ss := []) (rest := []) rfl hs hh hroom G h8L n3 n5 hpp F₃ N₃ hd₃ lo mD nX ndd hF hE hR hM hD hnl hS₁ hsv hrv nSd ?_
  intro Dr₄ rv₄ kr₄ oR₄ h₄ tk₄ F₄ N₄ hR₄ hrv₄ nDr
  exact h _ _ _ _ _ _ _ _ _ _ _ _ F₄ N₄ hd₃ hS₁ hR₄ hdv₂ hrv₄ nDr
end
end

section
local macro_rules | `(tactic| walk_at "mine code") => `(tactic| ((with_reducible show codeAny _ _ (Code.call (Value.ref 638) _) _ _); (refine fields_new (by first | assumption | exact Or.inl rfl | exact Or.inr (Or.inl rfl) | exact Or.inr (Or.inr rfl)) (by walk_at "mine kn") (by k_room) ?_); (intro x' dx' D' es' h' tk' lo1' lo2' lo3' hE' hW' he'); (obtain ⟨k1', k2', t1', t2', he2'⟩ := he'); (subst he2'); (try dsimp only at lo1' lo2' lo3' hE' hW'); (have hl' := news_lt (by with_reducible assumption)); (try simp only [AllLt] at hl'); (try ((first | (have fr' := BlkL.fresh (by with_reducible assumption) (by k_asm) (by k_asm) (by walk_at "mine own") (by walk_at "mine rst") hW') | (have fr' := Blk.fresh (by with_reducible assumption) (by k_asm) (by k_asm) (by walk_at "mine rst") hW') | (have fr' := New.fresh hW' (Back.ext (by with_reducible assumption) (by with_reducible assumption) (by k_asm) (by k_asm) (by walk_at "mine ext")))); simp only [List.forall_mem_cons] at fr'; obtain ⟨fr1', fr2', fr3', fr9'⟩ := fr')); (have ap' := New.apart (by k_asm) hW'); (simp only [List.forall_mem_cons] at ap'); (obtain ⟨ap1', ap2', ap3', ap9'⟩ := ap'); (have hF' := Fr.keeps (by k_asm) hE'); (have hN' := back_news (by k_asm) (by k_asm) hE' hW'); (try simp only [List.cons_append, List.nil_append] at hN'); (try k_sweep); (try dsimp only)))
local macro_rules | `(tactic| walk_at "mine code") => `(tactic| ((with_reducible show codeAny _ _ (Code.call (Value.ref 737) ⟨[_], []⟩) _ _); (refine index1 (by walk_at "mine kn") (by k_room) ?_); (intro x' dx' D' es' h' tk'  hE' hW' he'); (obtain ⟨k1', t1', he2'⟩ := he'); (subst he2'); (try dsimp only at  hE' hW'); (try ((first | (have fr' := BlkL.fresh (by with_reducible assumption) (by k_asm) (by k_asm) (by walk_at "mine own") (by walk_at "mine rst") hW') | (have fr' := Blk.fresh (by with_reducible assumption) (by k_asm) (by k_asm) (by walk_at "mine rst") hW') | (have fr' := New.fresh hW' (Back.ext (by with_reducible assumption) (by with_reducible assumption) (by k_asm) (by k_asm) (by walk_at "mine ext")))); simp only [List.forall_mem_cons] at fr'; obtain ⟨fr1', fr2', fr3', fr9'⟩ := fr')); (have ap' := New.apart (by k_asm) hW'); (simp only [List.forall_mem_cons] at ap'); (obtain ⟨ap1', ap2', ap3', ap9'⟩ := ap'); (have hF' := Fr.keeps (by k_asm) hE'); (have hN' := back_news (by k_asm) (by k_asm) hE' hW'); (try simp only [List.cons_append, List.nil_append] at hN'); (try k_sweep); (try dsimp only)))
local macro_rules | `(tactic| walk_at "mine code") => `(tactic| ((with_reducible show codeAny _ _ (Code.call (Value.ref 737) ⟨[_, _], []⟩) _ _); (refine index2 (by walk_at "mine kn") (by k_room) ?_); (intro x' dx' D' es' h' tk'  hE' hW' he'); (obtain ⟨k1', t1', he2'⟩ := he'); (subst he2'); (try dsimp only at  hE' hW'); (try ((first | (have fr' := BlkL.fresh (by with_reducible assumption) (by k_asm) (by k_asm) (by walk_at "mine own") (by walk_at "mine rst") hW') | (have fr' := Blk.fresh (by with_reducible assumption) (by k_asm) (by k_asm) (by walk_at "mine rst") hW') | (have fr' := New.fresh hW' (Back.ext (by with_reducible assumption) (by with_reducible assumption) (by k_asm) (by k_asm) (by walk_at "mine ext")))); simp only [List.forall_mem_cons] at fr'; obtain ⟨fr1', fr2', fr3', fr9'⟩ := fr')); (have ap' := New.apart (by k_asm) hW'); (simp only [List.forall_mem_cons] at ap'); (obtain ⟨ap1', ap2', ap3', ap9'⟩ := ap'); (have hF' := Fr.keeps (by k_asm) hE'); (have hN' := back_news (by k_asm) (by k_asm) hE' hW'); (try simp only [List.cons_append, List.nil_append] at hN'); (try k_sweep); (try dsimp only)))
local macro_rules | `(tactic| walk_at "mine code") => `(tactic| ((with_reducible show codeAny _ _ (Code.call (Value.ref 427) _) _ _); (refine child_new (by walk_at "mine kn") (by k_room) ?_); (intro x' dx' es' h' tk'  hE' hW' he'); (obtain ⟨k1', k2', t1', t2', he2'⟩ := he'); (subst he2'); (try dsimp only at  hE' hW'); (try ((first | (have fr' := BlkL.fresh (by with_reducible assumption) (by k_asm) (by k_asm) (by walk_at "mine own") (by walk_at "mine rst") hW') | (have fr' := Blk.fresh (by with_reducible assumption) (by k_asm) (by k_asm) (by walk_at "mine rst") hW') | (have fr' := New.fresh hW' (Back.ext (by with_reducible assumption) (by with_reducible assumption) (by k_asm) (by k_asm) (by walk_at "mine ext")))); simp only [List.forall_mem_cons] at fr'; obtain ⟨fr1', fr2', fr9'⟩ := fr')); (have ap' := New.apart (by k_asm) hW'); (simp only [List.forall_mem_cons] at ap'); (obtain ⟨ap1', ap2', ap9'⟩ := ap'); (have hF' := Fr.keeps (by k_asm) hE'); (have hN' := back_news (by k_asm) (by k_asm) hE' hW'); (try simp only [List.cons_append, List.nil_append] at hN'); (try k_sweep); (try dsimp only)))
local macro_rules | `(tactic| walk_at "mine code") => `(tactic| ((with_reducible show codeAny _ _ (Code.call (Value.ref 361) _) _ _); (refine cupd1 (by first | with_reducible assumption | exact Or.inl ⟨rfl, rfl⟩ | exact Or.inr ⟨rfl, rfl⟩) (by assumption) (by assumption) (by walk_at "mine kn") (by k_room) (by with_reducible assumption) (by with_reducible assumption) (by with_reducible assumption) (by with_unfolding_all assumption) ?_); (intro vs' h' tk' hK' hG' hI'); (try dsimp only at hK' hG'); (have hF' := fr_upd (by k_asm) (by k_asm) (by k_memK) hK'); (have hN' := news_upd (by k_asm) (by k_upd) hK' hG'); (try dsimp only [List.cons_append, List.nil_append] at hN'); (try k_sweep); (try dsimp only)))
local macro_rules | `(tactic| walk_at "mine code") => `(tactic| ((with_reducible show codeAny _ _ (Code.call (Value.ref 361) _) _ _); (refine cupd2 (by first | with_reducible assumption | exact Or.inl ⟨rfl, rfl⟩ | exact Or.inr ⟨rfl, rfl⟩) (by assumption) (by assumption) (by walk_at "mine kn") (by k_room) (by with_reducible assumption) (by with_reducible assumption) (by with_reducible assumption) (by with_unfolding_all assumption) ?_); (intro vs' h' tk' hK' hG' hI'); (try dsimp only at hK' hG'); (have hF' := fr_upd (by k_asm) (by k_asm) (by k_memK) hK'); (have hN' := news_upd (by k_asm) (by k_upd) hK' hG'); (try dsimp only [List.cons_append, List.nil_append] at hN'); (try k_sweep); (try dsimp only)))
local macro_rules | `(tactic| walk_at "mine code") => `(tactic| ((with_reducible show codeAny _ _ (Code.call (Value.ref 586) _) _ _); (refine fupL (by with_unfolding_all assumption) (by assumption) (by assumption) (by walk_at "mine kn") (by k_ne) (by k_room) ?_); (intro o' tl' h' tk' hK' hG' hI'); (try dsimp only at hK' hG'); (have hF' := fr_upd (by k_asm) (by k_asm) (by k_memK) hK'); (have hN' := news_upd (by k_asm) (by k_upd) hK' hG'); (try dsimp only [List.cons_append, List.nil_append] at hN'); (try k_sweep); (try dsimp only)))
local macro_rules | `(tactic| walk_at "mine code") => `(tactic| ((with_reducible show codeAny _ _ (Code.call (Value.ref 586) _) _ _); (refine fupR (by with_unfolding_all assumption) (by assumption) (by assumption) (by walk_at "mine kn") (by k_ne) (by k_room) ?_); (intro o' tl' h' tk' hK' hG' hI'); (try dsimp only at hK' hG'); (have hF' := fr_upd (by k_asm) (by k_asm) (by k_memK) hK'); (have hN' := news_upd (by k_asm) (by k_upd) hK' hG'); (try dsimp only [List.cons_append, List.nil_append] at hN'); (try k_sweep); (try dsimp only)))
local macro_rules | `(tactic| walk_at "getAttr ref") => `(tactic| ((with_reducible show wpAny _ _ (getAttr (Value.ref _) (PySem.Str.ofString "value") _) _ _ _); (refine get_value (by k_asm) (by assumption) (by k_room) (by k_inst) (by k_handed) ?_); (intro h' tk' hE'); (try dsimp only at hE'); (have hF' := Fr.keeps (by k_asm) hE'); (have hN' := News.grown (by k_asm) hE'); (try k_sweep)))
local macro_rules | `(tactic| walk_at "eval Name") => `(tactic| ((with_reducible show wpAny _ _ (eval (Expr.Name _ _) (envOfC _ _ _ _ _)) _ _ _); k_dflt (first
  | (refine' nameX_C ?N ?c ?m ?d ?_ ?a ?b; (case a => rfl); (case b => rfl); (case N => k_asm); (case c => rfl); (case m => k_memK); (case d => with_reducible assumption); k_whole)
  | (refine' nameX_L ?F ?v ?_ ?a ?b; (case a => rfl); (case b => rfl); (case F => k_asm); (case v => first | rfl | assumption); k_whole)
  | (refine' nameX_K ?F ?X ?T ?e ?_ ?a ?b; (case a => rfl); (case b => rfl); (case F => k_asm); (case X => k_asm); (case T => k_asm); (case e => k_is); k_whole))))
local macro_rules | `(tactic| walk_at "mine nobj") => `(tactic| first | exact ne_cell (by with_reducible assumption) (fun v e => by cases e) | exact (ne_cell (by with_reducible assumption) (fun v e => by cases e)).symm | exact isdict_ne_cell (by assumption) (by with_reducible assumption) | exact (isdict_ne_cell (by assumption) (by with_reducible assumption)).symm | exact ne_inst_seq | exact ne_inst_seq.symm | exact ne_seq_dict | exact ne_seq_dict.symm | exact ne_list_tuple | exact ne_list_tuple.symm | exact ne_seq_isdict (by assumption) | exact (ne_seq_isdict (by assumption)).symm | exact isdict_ne_tab (by assumption) | exact (isdict_ne_tab (by assumption)).symm | exact ne_isdict_inst (by assumption) | exact (ne_isdict_inst (by assumption)).symm | exact isdict_ne_it (by assumption) | exact (isdict_ne_it (by assumption)).symm | exact (fun e => by have := congrArg Obj.data e; cases this))
local macro_rules | `(tactic| k_ne) => `(tactic| first | exact AllNe.get (by with_reducible assumption) (by k_memK) | exact (AllNe.get (by with_reducible assumption) (by k_memK)).symm | exact ne_of_obj (by k_asm) (by k_memK) (by k_memK) (by walk_at "mine nobj") | (refine neN ?_; (try dsimp only); omega) | exact Apart.ne (by with_reducible assumption) (by k_memK) | exact (Apart.ne (by with_reducible assumption) (by k_memK)).symm)
local macro_rules | `(tactic| walk_at "compareOp In int ref") => `(tactic| (refine in_list_ints (News.isList (by k_asm) (by k_memK)) (by with_reducible assumption) ?_))
local macro_rules | `(tactic| walk_at "StarOf ref") => `(tactic| ((refine' star_seq ?k1 ?k2 ?m ?c ?d ?T ?e ?z ?_; (case k1 => k_asm); (case k2 => k_asm); (case m => k_memK); (case c => exact rfl); (case d => exact rfl); (case T => first | exact .inl rfl | exact .inr rfl); (case e => rfl); (case z => (rw [sizeLine_eq]; exact Nat.le_of_ble_eq_true rfl))); intro h' F' N'; (try k_sweep); try dsimp only [List.nil_append, List.cons_append]))
local macro_rules | `(tactic| walk_at "mine setL") => `(tactic| (refine And.intro ?_ ?_))
local macro_rules | `(tactic| walk_at "mine walkD") => `(tactic| ((try dsimp only); (try k_unmd); (try k_fold); repeat' ((fail_if_success (with_reducible show wpAny _ _ (eval (Expr.Dict ..) _) _ _ _)); first | (k_unfold; (try dsimp only)) | walk1 | (dsimp only; walk1))))
local macro_rules | `(tactic| walk_at "call builtin:sum") => `(tactic| ((with_reducible show wpAny _ _ (call (Value.builtin "sum") [Value.ref _]) _ _ _); refine sumN (by with_unfolding_all assumption) (by k_asm) (by k_asm) (by k_memK) (by with_reducible assumption) ?_; intro h' tk' t' F' N'))
local macro_rules | `(tactic| walk_at "mine ntab") => `(tactic| first | exact List.forall_mem_nil _ | ((refine List.forall_mem_cons.mpr (And.intro ?x ?_)); (case x => first | (intro e; cases e; done) | exact cell_ne (by assumption) | exact isdict_ne_tab (by assumption)); walk_at "mine ntab"))
local macro_rules | `(tactic| walk_at "compareOp Eq ref ref") => `(tactic| (refine eq_intsK (ns := []) (ms := []) (vs := []) (us := []) (News.isList (by k_asm) (by k_memK)) .nil (News.isList (by k_asm) (by k_memK)) .nil (by omega) ?_; (try dsimp only [decide])))
section
variable {prog : Program} {w : World} {A : Around} {s : Shared} {p : Program} {loose : List Str} {mg mb : Str → Option Value} {Q : Flow → Shared → Prop}
theorem law_E {g : Heap} {L' D₁ D₄ Dr c dc f df Df fl dfl XL e de TT dT d RL : Addr} {o oS oF oE oR oM oD : Obj} {k0 k1 k2 k3 k4 k5 k6 k7 l r : Int} {t0 t1 t2 t3 t4 t5 t6 t7 t8 t9 tf nx tl tr kR k₁ k₄ kr n : Nat} {tn tg tri : Tok} {gr : Int} {drv rv ev dv : List Value} {ns : List Int} {pt : Array Value} {m : Str → Option Value} {vS vF : Option Value} {body : List Stmt} {scope : Scope}
    (hb : List.drop 11 (fnBody PySem.Challenge.pw_ae5016_01.main.body 36) = body) (hs : fnScope PySem.Challenge.pw_ae5016_01.main.body 36 = scope) (hh : A.handled = none) (hroom : A.depth + 120 ≤ 900) (hu : A.units + 100 < cLine) (G : Gd w p loose mg mb g) (h8L : @LT.lt Nat _ 823 L') (n3 : 3 ≤ n) (n5 : n ≤ 5)
    (F : Fr g L' s.heap m) (N : News g L' s.heap [(c, instObj 427 dc), (dc, dictOf (cEs k6 k7 t6 t7 f fl) 2), (f, instObj 638 df), (df, dictOf (fEs k4 k5 t8 t9 Df) 2), (Df, { cls := .type "tuple", data := .seq #[.str "row" tf] }), (fl, instObj 898 dfl), (dfl, dictOf (flEs k0 t0 XL) 1), (XL, { cls := .type "list", data := .seq #[.ref e] nx }), (e, instObj 943 de), (de, dictOf (eEs k1 k2 k3 t1 t2 t3 t4 t5 TT) 3), (TT, instObj 333 dT), (dT, dictOf [] 0), (d, o), (RL, listOf dv.toArray kR), (D₄, listOf ev.toArray k₄), (Dr, listOf rv.toArray kr), (D₁, listOf drv.toArray k₁), (L' + 1 + 1 + 1 + 1 + 1 + 1 + 1 + 1, oS), (L' + 1 + 1 + 1 + 1 + 1 + 1 + 1, oF), (L' + 1 + 1 + 1 + 1 + 1 + 1, oE), (L' + 1 + 1 + 1 + 1, oR), (L' + 1 + 1 + 1, oM), (L' + 1 + 1, oD), (823, tabO pt)])
    (hd : o.IsDictOf (strKind prog w) (docKs l r tl tr RL)) (lo : (d == sysModules) = false) (mD : m "document" = some (.ref d)) (mF : m "full" = some (.ref c)) (mG : m "grains" = some (.int gr tg)) (mr : m "right" = some (.int r tri)) (nX : AllNe RL [(XL, tabO #[]), (D₁, tabO #[]), (Dr, tabO #[]), (D₄, tabO #[])]) (ndd : AllNe d [(dc, tabO #[]), (df, tabO #[]), (dfl, tabO #[]), (de, tabO #[]), (dT, tabO #[])])
    (hS : oS.data = .cell vS) (hF : oF.data = .cell vF) (hE : oE.data = .cell (some (.ref D₄))) (hR : oR.data = .cell (some (.ref Dr))) (hM : oM.data = .cell (some (.int n tn))) (hD : oD.data = .cell (some (.ref D₁))) (hnl : ns.length = n)
    (hdv : IntsAre dv ns) (hend : IntsAre ev ns) (h1 : ∀ k, ns.getD k 0 ≤ 1) (hl : l = gr - ns.sum - r) (htr : TriplesOk pt.toList)
    (h : ∀ (h' : Heap) (tk : Nat) (gs : Array GenState) (more : Array Value), (AllBare s.gens → AllBare gs) → Fr g L' h' m → News g L' h' [(823, tabO (pt ++ more))] → TriplesOk (pt ++ more).toList → Q (.ret (.bool true)) { s with heap := h', toks := tk, gens := gs }) :
    wpAny (model prog w) A (execs body (envOfC "law" scope L' 1038 (.ref 1037))) Q (fun _ _ => False) s := by
  conv at hb => lhs; whnf
  conv at hs => lhs; whnf
  subst hb hs
  have X := G.X
  have T := G.T
  walk_at "mine walk"
  with_reducible rename News _ _ _ _ => NA
  with_reducible rename Fr _ _ _ _ => FA
  refine wpAny_call ?_
  refine child_find (by with_unfolding_all assumption) hd lo htr (ints_small hdv (by omega)) (ints_hint hdv) (by walk_at "mine kn") (by k_room) ?_
  intro l₂ nl ys₂ h₂ tk₂ gs₂ more hb₂ hk₂ ht₂ htr₂ hnew hits₂
  (try dsimp only at hk₂ hnew hits₂)
  have FB := fr_upd FA NA (by k_memK) hk₂
  have NB := news_tab NA (by k_memK) (by simp only [List.dropLast_cons_cons, List.dropLast_singleton]; walk_at "mine ntab") hk₂ ht₂
  simp only [List.dropLast_cons_cons, List.dropLast_singleton, List.cons_append, List.nil_append] at NB
  have NB := back_news8 NB FA hnew
  simp only [List.cons_append, List.nil_append] at NB
  have e0 : hits dv.toArray dv.toArray.size = [] := List.map_eq_nil_iff.mp ((hits_due hdv hnl).trans (due_none h1))
  rw [e0] at hits₂
  cases hits₂
  walk_at "mine walkD"
  (try dsimp only)
  refine kdn_str (by rfl) (by k_asm) (by k_asm) (TopRead.nolimit (by assumption)) (by rfl) (by rfl) (by intro h; cases h) (by decide) ?_
  intro d' h' o' F' N' l1 lo' hd'
  (try k_lt l1)
  (try k_sweep)
  walk_at "mine walk"
  subst hl
  refine eq_docs (by k_asm) (by k_memK) (by k_memK) hd (by assumption) lo lo' (by k_memK) (by k_memK) hdv hend hu ?_
  exact h _ _ _ _ hb₂ (by k_asm) (News.sub (by k_asm) (by walk_at "mine mem")) htr₂
end
end

section
local macro_rules | `(tactic| walk_at "mine code") => `(tactic| ((with_reducible show codeAny _ _ (Code.call (Value.ref 638) _) _ _); (refine fields_new (by first | assumption | exact Or.inl rfl | exact Or.inr (Or.inl rfl) | exact Or.inr (Or.inr rfl)) (by walk_at "mine kn") (by k_room) ?_); (intro x' dx' D' es' h' tk' lo1' lo2' lo3' hE' hW' he'); (obtain ⟨k1', k2', t1', t2', he2'⟩ := he'); (subst he2'); (try dsimp only at lo1' lo2' lo3' hE' hW'); (have hl' := news_lt (by with_reducible assumption)); (try simp only [AllLt] at hl'); (try ((first | (have fr' := BlkL.fresh (by with_reducible assumption) (by k_asm) (by k_asm) (by walk_at "mine own") (by walk_at "mine rst") hW') | (have fr' := Blk.fresh (by with_reducible assumption) (by k_asm) (by k_asm) (by walk_at "mine rst") hW') | (have fr' := New.fresh hW' (Back.ext (by with_reducible assumption) (by with_reducible assumption) (by k_asm) (by k_asm) (by walk_at "mine ext")))); simp only [List.forall_mem_cons] at fr'; obtain ⟨fr1', fr2', fr3', fr9'⟩ := fr')); (have ap' := New.apart (by k_asm) hW'); (simp only [List.forall_mem_cons] at ap'); (obtain ⟨ap1', ap2', ap3', ap9'⟩ := ap'); (have hF' := Fr.keeps (by k_asm) hE'); (have hN' := back_news (by k_asm) (by k_asm) hE' hW'); (try simp only [List.cons_append, List.nil_append] at hN'); (try k_sweep); (try dsimp only)))
local macro_rules | `(tactic| walk_at "mine code") => `(tactic| ((with_reducible show codeAny _ _ (Code.call (Value.ref 737) ⟨[_], []⟩) _ _); (refine index1 (by walk_at "mine kn") (by k_room) ?_); (intro x' dx' D' es' h' tk'  hE' hW' he'); (obtain ⟨k1', t1', he2'⟩ := he'); (subst he2'); (try dsimp only at  hE' hW'); (try ((first | (have fr' := BlkL.fresh (by with_reducible assumption) (by k_asm) (by k_asm) (by walk_at "mine own") (by walk_at "mine rst") hW') | (have fr' := Blk.fresh (by with_reducible assumption) (by k_asm) (by k_asm) (by walk_at "mine rst") hW') | (have fr' := New.fresh hW' (Back.ext (by with_reducible assumption) (by with_reducible assumption) (by k_asm) (by k_asm) (by walk_at "mine ext")))); simp only [List.forall_mem_cons] at fr'; obtain ⟨fr1', fr2', fr3', fr9'⟩ := fr')); (have ap' := New.apart (by k_asm) hW'); (simp only [List.forall_mem_cons] at ap'); (obtain ⟨ap1', ap2', ap3', ap9'⟩ := ap'); (have hF' := Fr.keeps (by k_asm) hE'); (have hN' := back_news (by k_asm) (by k_asm) hE' hW'); (try simp only [List.cons_append, List.nil_append] at hN'); (try k_sweep); (try dsimp only)))
local macro_rules | `(tactic| walk_at "mine code") => `(tactic| ((with_reducible show codeAny _ _ (Code.call (Value.ref 427) _) _ _); (refine child_new (by walk_at "mine kn") (by k_room) ?_); (intro x' dx' es' h' tk'  hE' hW' he'); (obtain ⟨k1', k2', t1', t2', he2'⟩ := he'); (subst he2'); (try dsimp only at  hE' hW'); (try ((first | (have fr' := BlkL.fresh (by with_reducible assumption) (by k_asm) (by k_asm) (by walk_at "mine own") (by walk_at "mine rst") hW') | (have fr' := Blk.fresh (by with_reducible assumption) (by k_asm) (by k_asm) (by walk_at "mine rst") hW') | (have fr' := New.fresh hW' (Back.ext (by with_reducible assumption) (by with_reducible assumption) (by k_asm) (by k_asm) (by walk_at "mine ext")))); simp only [List.forall_mem_cons] at fr'; obtain ⟨fr1', fr2', fr9'⟩ := fr')); (have ap' := New.apart (by k_asm) hW'); (simp only [List.forall_mem_cons] at ap'); (obtain ⟨ap1', ap2', ap9'⟩ := ap'); (have hF' := Fr.keeps (by k_asm) hE'); (have hN' := back_news (by k_asm) (by k_asm) hE' hW'); (try simp only [List.cons_append, List.nil_append] at hN'); (try k_sweep); (try dsimp only)))
local macro_rules | `(tactic| walk_at "mine code") => `(tactic| ((with_reducible show codeAny _ _ (Code.call (Value.ref 943) _) _ _); (refine expr_new (by walk_at "mine kn") (by k_room) ?_); (intro x' dx' es' h' tk'  hE' hW' he'); (obtain ⟨k1', k2', k3', t1', t2', t3', t4', t5', he2'⟩ := he'); (subst he2'); (try dsimp only at  hE' hW'); (try ((first | (have fr' := BlkL.fresh (by with_reducible assumption) (by k_asm) (by k_asm) (by walk_at "mine own") (by walk_at "mine rst") hW') | (have fr' := Blk.fresh (by with_reducible assumption) (by k_asm) (by k_asm) (by walk_at "mine rst") hW') | (have fr' := New.fresh hW' (Back.ext (by with_reducible assumption) (by with_reducible assumption) (by k_asm) (by k_asm) (by walk_at "mine ext")))); simp only [List.forall_mem_cons] at fr'; obtain ⟨fr1', fr2', fr9'⟩ := fr')); (have ap' := New.apart (by k_asm) hW'); (simp only [List.forall_mem_cons] at ap'); (obtain ⟨ap1', ap2', ap9'⟩ := ap'); (have hF' := Fr.keeps (by k_asm) hE'); (have hN' := back_news (by k_asm) (by k_asm) hE' hW'); (try simp only [List.cons_append, List.nil_append] at hN'); (try k_sweep); (try dsimp only)))
local macro_rules | `(tactic| walk_at "mine code") => `(tactic| ((with_reducible show codeAny _ _ (Code.call (Value.ref 898) _) _ _); (refine filter_new (by walk_at "mine kn") (by k_room) ?_); (intro x' dx' XL' nx' es' h' tk'  hE' hW' he'); (obtain ⟨k1', t1', he2'⟩ := he'); (subst he2'); (try dsimp only at  hE' hW'); (try ((first | (have fr' := BlkL.fresh (by with_reducible assumption) (by k_asm) (by k_asm) (by walk_at "mine own") (by walk_at "mine rst") hW') | (have fr' := Blk.fresh (by with_reducible assumption) (by k_asm) (by k_asm) (by walk_at "mine rst") hW') | (have fr' := New.fresh hW' (Back.ext (by with_reducible assumption) (by with_reducible assumption) (by k_asm) (by k_asm) (by walk_at "mine ext")))); simp only [List.forall_mem_cons] at fr'; obtain ⟨fr1', fr2', fr3', fr9'⟩ := fr')); (have ap' := New.apart (by k_asm) hW'); (simp only [List.forall_mem_cons] at ap'); (obtain ⟨ap1', ap2', ap3', ap9'⟩ := ap'); (have hF' := Fr.keeps (by k_asm) hE'); (have hN' := back_news (by k_asm) (by k_asm) hE' hW'); (try simp only [List.cons_append, List.nil_append] at hN'); (try k_sweep); (try dsimp only)))
local macro_rules | `(tactic| walk_at "getAttr ref") => `(tactic| ((with_reducible show wpAny _ _ (getAttr (Value.ref _) (PySem.Str.ofString "value") _) _ _ _); (refine get_value (by k_asm) (by assumption) (by k_room) (by k_inst) (by k_handed) ?_); (intro h' tk' hE'); (try dsimp only at hE'); (have hF' := Fr.keeps (by k_asm) hE'); (have hN' := News.grown (by k_asm) hE'); (try k_sweep)))
local macro_rules | `(tactic| k_ne) => `(tactic| first | exact AllNe.get (by with_reducible assumption) (by k_memK) | exact (AllNe.get (by with_reducible assumption) (by k_memK)).symm | (refine neN ?_; (try dsimp only); omega) | exact Apart.ne (by with_reducible assumption) (by k_memK) | exact (Apart.ne (by with_reducible assumption) (by k_memK)).symm)
local macro_rules | `(tactic| walk_at "exec For Name Call cons nil") => `(tactic| (refine for_range ?_ ?hs; (case hs => intro _; with_unfolding_all rfl)))
local macro_rules | `(tactic| walk_at "mine setL") => `(tactic| (refine And.intro ?_ ?_))
local macro_rules | `(tactic| walk_at "eval Name") => `(tactic| ((with_reducible show wpAny _ _ (eval (Expr.Name _ _) (envOfC _ _ _ _ _)) _ _ _); k_dflt (first
  | (refine' nameX_C ?N ?c ?m ?d ?_ ?a ?b; (case a => rfl); (case b => rfl); (case N => k_asm); (case c => rfl); (case m => k_memK); (case d => with_reducible assumption); k_whole)
  | (refine' nameX_L ?F ?v ?_ ?a ?b; (case a => rfl); (case b => rfl); (case F => k_asm); (case v => first | rfl | assumption); k_whole)
  | (refine' nameX_K ?F ?X ?T ?e ?_ ?a ?b; (case a => rfl); (case b => rfl); (case F => k_asm); (case X => k_asm); (case T => k_asm); (case e => k_is); k_whole))))
local macro_rules | `(tactic| walk_at "eval Dict") => `(tactic| ((try dsimp only); refine kdn_str (by rfl) (by k_asm) (by k_asm) (TopRead.nolimit (by assumption)) (by rfl) (by rfl) (by intro h; cases h) (by decide) ?_; intro d' h' o' F' N' l1 lo' hd'; (try k_lt l1); (try k_sweep)))
local macro_rules | `(tactic| walk_at "call type:list") => `(tactic| (refine list_copyK (by k_asm) (by k_asm) (News.isList (by k_asm) (by k_memK)) ?_ (ints_small (by with_reducible assumption) (by omega)); intro D' c' h' F' N' l1; (try k_lt l1); (try k_sweep)))
local macro_rules | `(tactic| walk_at "unpackItems ref") => `(tactic| (refine unpackItemsN_ (by k_asm) (by k_asm) (News.isTup (by k_asm) (by k_memK)) (by with_unfolding_all assumption) (by rfl) ?_; intro h' F' N'; (try k_sweep)))
local macro_rules | `(tactic| walk_at "call builtin:sum") => `(tactic| ((with_reducible show wpAny _ _ (call (Value.builtin "sum") [Value.ref _]) _ _ _); refine sumN (by with_unfolding_all assumption) (by k_asm) (by k_asm) (by k_memK) (by with_reducible assumption) ?_; intro h' tk' t' F' N'))
local macro_rules | `(tactic| walk_at "mine nobj") => `(tactic| first | exact ne_cell (by with_reducible assumption) (fun v e => by cases e) | exact isdict_ne_cell (by assumption) (by with_reducible assumption))
local macro_rules | `(tactic| k_ne) => `(tactic| first | exact AllNe.get (by with_reducible assumption) (by k_memK) | exact (AllNe.get (by with_reducible assumption) (by k_memK)).symm | exact ne_of_obj (by k_asm) (by k_memK) (by k_memK) (by walk_at "mine nobj") | (refine neN ?_; (try dsimp only); omega) | exact Apart.ne (by with_reducible assumption) (by k_memK) | exact (Apart.ne (by with_reducible assumption) (by k_memK)).symm)
local macro_rules | `(tactic| walk_at "compareOp NotEq") => `(tactic| (refine ne_same (News.isList (by k_asm) (by k_memK)) (by with_reducible assumption) (News.isList (by k_asm) (by k_memK)) (by with_reducible assumption) (by assumption) ?_))
local macro_rules | `(tactic| walk_at "mine ntab") => `(tactic| first | exact List.forall_mem_nil _ | ((refine List.forall_mem_cons.mpr (And.intro ?x ?_)); (case x => first | (intro e; cases e; done) | exact cell_ne (by assumption) | exact isdict_ne_tab (by assumption)); walk_at "mine ntab"))
local macro_rules | `(tactic| walk_at "eval ListComp") => `(tactic| (with_reducible show wpAny _ _ (eval (Expr.ListComp _ [⟨Expr.Name _ _, Expr.Call (Expr.Attribute _ _ _) _ _ _, _, _⟩] _ _) _) _ _ _; refine' lc2_eval ?hclos ?hkind ?hnames ?_ ?hs; (case hclos => with_unfolding_all rfl); (case hkind => with_unfolding_all rfl); (case hnames => decide); (case hs => intro _; with_unfolding_all rfl)))
local macro_rules | `(tactic| walk_at "mine allne") => `(tactic| first | exact List.forall_mem_nil _ | ((refine List.forall_mem_cons.mpr (And.intro ?x ?_)); (case x => (dsimp only; k_ne)); walk_at "mine allne"))
local macro_rules | `(tactic| walk_at "mine walkS") => `(tactic| ((try dsimp only); (try k_unmd); (try k_fold); repeat' ((fail_if_success (with_reducible show wpAny _ _ (execs (Stmt.Assign [Expr.Name (Str.ofString "sides") _] _ _ :: _) _) _ _ _)); first | (k_unfold; (try dsimp only)) | walk1 | (dsimp only; walk1))))
section
variable {prog : Program} {w : World} {A : Around} {s : Shared} {p : Program} {loose : List Str} {mg mb : Str → Option Value} {Q : Flow → Shared → Prop}
theorem law_C {g : Heap} {L' D₁ D₂ D₄ c dc f df Df fl dfl XL e de TT dT d RL : Addr} {oS oF oE oR oM oD o : Obj} {k0 k1 k2 k3 k4 k5 k6 k7 hole : Int} {t0 t1 t2 t3 t4 t5 t6 t7 t8 t9 tf nx tl tr kR k₁ k₂ k₄ n M : Nat} {tn tg tfa tri : Tok} {drv rv ev : List Value} {dn rn : List Int} {pt : Array Value} {m : Str → Option Value} {vS vF : Option Value} {body : List Stmt} {scope : Scope}
    (hb : List.drop 10 (fnBody PySem.Challenge.pw_ae5016_01.main.body 36) = body) (hs : fnScope PySem.Challenge.pw_ae5016_01.main.body 36 = scope) (hh : A.handled = none) (hroom : A.depth + 120 ≤ 900) (hu : A.units + 100 < cLine) (G : Gd w p loose mg mb g) (h8L : @LT.lt Nat _ 823 L') (n3 : 3 ≤ n) (n5 : n ≤ 5)
    (F : Fr g L' s.heap m) (N : News g L' s.heap [(c, instObj 427 dc), (dc, dictOf (cEs k6 k7 t6 t7 f fl) 2), (f, instObj 638 df), (df, dictOf (fEs k4 k5 t8 t9 Df) 2), (Df, { cls := .type "tuple", data := .seq #[.str "row" tf] }), (fl, instObj 898 dfl), (dfl, dictOf (flEs k0 t0 XL) 1), (XL, { cls := .type "list", data := .seq #[.ref e] nx }), (e, instObj 943 de), (de, dictOf (eEs k1 k2 k3 t1 t2 t3 t4 t5 TT) 3), (TT, instObj 333 dT), (dT, dictOf [] 0), (d, o), (RL, listOf rv.toArray kR), (D₄, listOf ev.toArray k₄), (D₂, listOf rv.toArray k₂), (D₁, listOf drv.toArray k₁), (L' + 1 + 1 + 1 + 1 + 1 + 1 + 1 + 1, oS), (L' + 1 + 1 + 1 + 1 + 1 + 1 + 1, oF), (L' + 1 + 1 + 1 + 1 + 1 + 1, oE), (L' + 1 + 1 + 1 + 1, oR), (L' + 1 + 1 + 1, oM), (L' + 1 + 1, oD), (823, tabO pt)])
    (hd : o.IsDictOf (strKind prog w) (docKs 0 0 tl tr RL)) (lo : (d == sysModules) = false) (mD : m "document" = some (.ref d)) (mF : m "full" = some (.ref c)) (mG : m "grains" = some (.int rn.sum tg)) (mf : m "falls" = some (.int (M : Int) tfa)) (mr : m "right" = some (.int (((momL rn n).sum - (momL (endL hole n) n).sum).fdiv (n + 1)) tri))
    (hS : oS.data = .cell vS) (hF : oF.data = .cell vF) (hE : oE.data = .cell (some (.ref D₄))) (hR : oR.data = .cell (some (.ref D₂))) (hM : oM.data = .cell (some (.int n tn))) (hD : oD.data = .cell (some (.ref D₁)))
    (hdn : IntsAre drv dn) (hdl : dn.length = 16) (hrn : IntsAre rv rn) (hrl : rn.length = n) (hr7 : ∀ x ∈ rn, 1 ≤ x ∧ x ≤ 7 - (n : Int)) (hend : IntsAre ev (endL hole n)) (hM5 : M ≤ 100000) (hEne : eneF n 1 rn = eneF n 1 (endL hole n) + 2 * M) (hHole : holeOf n (momF 1 rn) = hole) (htr : TriplesOk pt.toList)
    (ndd : AllNe d [(dc, tabO #[]), (df, tabO #[]), (dfl, tabO #[]), (de, tabO #[]), (dT, tabO #[])]) (nRL : AllNe RL [(XL, tabO #[]), (D₁, tabO #[]), (D₂, tabO #[]), (D₄, tabO #[])])
    (h : ∀ (h' : Heap) (tk : Nat) (gs : Array GenState) (more : Array Value) (m' : Str → Option Value), (AllBare s.gens → AllBare gs) → Fr g L' h' m' → News g L' h' [(823, tabO (pt ++ more))] → Q (.ret (.bool true)) { s with heap := h', toks := tk, gens := gs }) :
    wpAny (model prog w) A (execs body (envOfC "law" scope L' 1038 (.ref 1037))) Q (fun _ _ => False) s := by
  conv at hb => lhs; whnf
  conv at hs => lhs; whnf
  subst hb hs
  have hu64 : A.units + 64 < cLine := by omega
  have X := G.X
  have T := G.T
  walk_at "mine walk"
  with_reducible rename News _ _ _ _ => NN
  with_reducible rename Fr _ _ _ _ => FF
  have NS := News.sub (l := [(c, instObj 427 dc), (dc, dictOf (cEs k6 k7 t6 t7 f fl) 2), (f, instObj 638 df), (df, dictOf (fEs k4 k5 t8 t9 Df) 2), (Df, { cls := .type "tuple", data := .seq #[.str "row" tf] }), (fl, instObj 898 dfl), (dfl, dictOf (flEs k0 t0 XL) 1), (XL, { cls := .type "list", data := .seq #[.ref e] nx }), (e, instObj 943 de), (de, dictOf (eEs k1 k2 k3 t1 t2 t3 t4 t5 TT) 3), (TT, instObj 333 dT), (dT, dictOf [] 0), (d, o), (RL, listOf rv.toArray kR), (D₄, listOf ev.toArray k₄), (D₂, listOf rv.toArray k₂), (D₁, listOf drv.toArray k₁), (L' + 1 + 1 + 1 + 1 + 1 + 1 + 1 + 1, oS), (L' + 1 + 1 + 1 + 1 + 1 + 1 + 1, oF), (L' + 1 + 1 + 1 + 1 + 1 + 1, oE), (L' + 1 + 1 + 1 + 1, oR), (L' + 1 + 1 + 1, oM), (L' + 1 + 1, oD), (823, tabO pt)]) NN (by walk_at "mine mem")
  have NM := News.push FF NS (itO 0 M)
  obtain ⟨I, eI⟩ : ∃ I : Addr, I = (frHeap FF).objs.size := ⟨_, rfl⟩
  have hIL : I ≠ L' := fun h => by have := FF.ns.lt; rw [← h, eI] at this; exact Nat.lt_irrefl _ this
  have hIg : g.get? I = none := by rw [eI]; exact none_back FF.keep (fresh_of (Nat.le_refl _))
  have hIN := News.off NS eI
  refine ⟨_, M, _, _, _, fun i s' => ∃ (h : Heap) (tk : Nat) (gs : Array GenState) (m' : Str → Option Value) (o' oS' oF' oR' : Obj) (l r : Int) (tl' tr' kr : Nat) (Dr : Addr) (dv rv' : List Value) (ns : List Int) (ps : Array Value) (vS' vF' : Option Value),
    s' = { s with heap := h, toks := tk, gens := gs } ∧ (AllBare s.gens → AllBare gs) ∧ Fr g L' h m' ∧ News g L' h [(c, instObj 427 dc), (dc, dictOf (cEs k6 k7 t6 t7 f fl) 2), (f, instObj 638 df), (df, dictOf (fEs k4 k5 t8 t9 Df) 2), (Df, { cls := .type "tuple", data := .seq #[.str "row" tf] }), (fl, instObj 898 dfl), (dfl, dictOf (flEs k0 t0 XL) 1), (XL, { cls := .type "list", data := .seq #[.ref e] nx }), (e, instObj 943 de), (de, dictOf (eEs k1 k2 k3 t1 t2 t3 t4 t5 TT) 3), (TT, instObj 333 dT), (dT, dictOf [] 0), (d, o'), (RL, listOf dv.toArray kR), (D₄, listOf ev.toArray k₄), (Dr, listOf rv'.toArray kr), (D₁, listOf drv.toArray k₁), (L' + 1 + 1 + 1 + 1 + 1 + 1 + 1 + 1, oS'), (L' + 1 + 1 + 1 + 1 + 1 + 1 + 1, oF'), (L' + 1 + 1 + 1 + 1 + 1 + 1, oE), (L' + 1 + 1 + 1 + 1, oR'), (L' + 1 + 1 + 1, oM), (L' + 1 + 1, oD), (823, tabO ps)] ∧ (∀ q ∈ [(c, instObj 427 dc), (dc, dictOf (cEs k6 k7 t6 t7 f fl) 2), (f, instObj 638 df), (df, dictOf (fEs k4 k5 t8 t9 Df) 2), (Df, { cls := .type "tuple", data := .seq #[.str "row" tf] }), (fl, instObj 898 dfl), (dfl, dictOf (flEs k0 t0 XL) 1), (XL, { cls := .type "list", data := .seq #[.ref e] nx }), (e, instObj 943 de), (de, dictOf (eEs k1 k2 k3 t1 t2 t3 t4 t5 TT) 3), (TT, instObj 333 dT), (dT, dictOf [] 0), (d, o'), (RL, listOf dv.toArray kR), (D₄, listOf ev.toArray k₄), (Dr, listOf rv'.toArray kr), (D₁, listOf drv.toArray k₁), (L' + 1 + 1 + 1 + 1 + 1 + 1 + 1 + 1, oS'), (L' + 1 + 1 + 1 + 1 + 1 + 1 + 1, oF'), (L' + 1 + 1 + 1 + 1 + 1 + 1, oE), (L' + 1 + 1 + 1 + 1, oR'), (L' + 1 + 1 + 1, oM), (L' + 1 + 1, oD), (823, tabO ps)], q.1 ≠ I) ∧
    o'.IsDictOf (strKind prog w) (docKs l r tl' tr' RL) ∧ m' "document" = some (.ref d) ∧ m' "full" = some (.ref c) ∧ m' "grains" = some (.int rn.sum tg) ∧ m' "right" = some (.int (((momL rn n).sum - (momL (endL hole n) n).sum).fdiv (n + 1)) tri) ∧ oS'.data = .cell vS' ∧ oF'.data = .cell vF' ∧ oR'.data = .cell (some (.ref Dr)) ∧
    IntsAre dv ns ∧ IntsAre rv' ns ∧ SpAt n (momF 1 rn) rn.sum (eneF n 1 rn) i ns l r ∧ TriplesOk ps.toList ∧ @Ne Nat RL Dr ∧ ∃ mo, ps = pt ++ mo, rfl, by assumption, hM5, by with_unfolding_all assumption, ?_, ?_, ?_, ?_⟩
  · exact ⟨_, _, _, _, _, _, _, _, _, _, _, _, _, _, _, _, _, _, _, _, rfl, id, FF.push _, News.tail NM, hIN, hd, mD, mF, mG, mr, hS, hF, hR, hrn, hrn, SpAt.start hrl n3 n5 hr7, htr, (nRL.get (.tail _ (.tail _ (.head _)))).symm, #[], Array.append_empty.symm⟩
  · rintro i s' h' tk ⟨h, tk₀, gs, m', o', oS', oF', oR', l, r, tl', tr', kr, Dr, dv, rv', ns, ps, vS', vF', rfl, hb, F, N, hN, rest⟩ hk
    rw [← eI] at hk
    exact ⟨h', tk, gs, m', o', oS', oF', oR', l, r, tl', tr', kr, Dr, dv, rv', ns, ps, vS', vF', rfl, hb, ⟨F.ns.at' fun o e => hk _ _ (Ne.symm hIL) e, fun x o e => hk x o (fun hx => by rw [hx, hIg] at e; cases e) (F.keep x o e), F.above⟩, fun q hq => ⟨hk _ _ (hN q hq) (N q hq).1, (N q hq).2⟩, hN, rest⟩
  · rintro i t s' hiM ⟨h, tk₀, gs, m', o', oS', oF', oR', l, r, tl', tr', kr, Dr, dv, rv', ns, ps, vS', vF', rfl, hbare, F, N, hN, hd', mD', mF', mG', mr', hS', hF', hR', hdv, hrv, S, htr', hRD, mo, hmo⟩ hit
    rw [← eI] at hit
    have N : News g L' h _ := news_consI hit hIL hIg N
    clear hIN NS NM NN
    walk1
    walk_at "mine walk"
    refine lc_range n (fun H i ys h => IntsAre ys (dueL ns i)) (by assumption) rfl (by omega) ⟨_, _, rfl⟩ (by with_unfolding_all assumption) (by k_asm) (by k_asm) ?_ ?_ ?_ ?_
    · exact fun H _ => .nil
    · exact fun H i ys h h' k e => e
    · intro H C j hq t tk ys m' hE₁ hn' hb hjn hJ F N
      have BL : Blk _ C _ _ := ⟨hb, hn'⟩
      simp only [List.cons_append, List.nil_append] at N
      have i0 : 0 ≤ (j : Int) := Int.natCast_nonneg j
      have i5 : (j : Int) < 5 := by omega
      have hnl := S.len
      walk_at "mine walk"
      all_goals (
        refine BL.good (by k_asm) (by k_asm) (by walk_at "mine rst") ?_
        rw [dueL_succ]
        first | (rw [if_pos (by assumption)]; exact ints_snoc hJ) | (rw [if_neg (by assumption), List.append_nil]; exact hJ))
    · intro H Du hq tk ys k hE₁ hDu hHDu F N hnDu hdue
      have nD := allNe_of hnDu
      walk_at "mine walk"
      with_reducible rename News _ _ _ _ => NA
      with_reducible rename Fr _ _ _ _ => FA
      refine wpAny_call ?_
      refine child_find (by with_unfolding_all assumption) hd' lo htr' (ints_small hdv (by have := S.len; omega)) (ints_hint hdv) (by walk_at "mine kn") (by k_room) ?_
      intro l₂ nl ys₂ h₂ tk₂ gs₂ more hb₂ hk₂ ht₂ htr₂ hnew hits₂
      (try dsimp only at hk₂ hnew hits₂)
      have FB := fr_upd FA NA (by k_memK) hk₂
      have NB := news_tab NA (by k_memK) (by simp only [List.dropLast_cons_cons, List.dropLast_singleton]; walk_at "mine ntab") hk₂ ht₂
      simp only [List.dropLast_cons_cons, List.dropLast_singleton, List.cons_append, List.nil_append] at NB
      have NB := back_news8 NB FA hnew
      simp only [List.cons_append, List.nil_append] at NB
      show LcIter2 prog w A _ _ _ _ _ _ _ _ _ _
      have hz : ys₂.length ≤ 5 := by
        have e1 := PySem.Paired.length hits₂
        have e2 := hits_len dv.toArray dv.toArray.size
        have e3 : dv.toArray.size = n := by rw [List.size_toArray, hdv.length, S.len]
        omega
      refine lc2_list (J := fun H i ys h => IntsAre ys (((hits dv.toArray dv.toArray.size).take i).map (fun (k : Nat) => (k : Int)))) [] (fun _ _ => True) (fun c hc => absurd hc List.not_mem_nil) (Or.inl ⟨_, _, rfl⟩) (by with_unfolding_all assumption) FB NB (List.Mem.head _) (by rw [List.size_toArray, sizeLine_eq]; omega) ?_ ?_ ?_ ?_
      · exact fun H _ => .nil
      · exact fun H i ys h h' k e => e
      · rintro H C j v h₀ h₃ tk₃ gs₃ ys₃ m₃ cobs mobs hE₃ hkp BL hj hle hP hn₃ hJ c1 c2 c3 c4 hs₃ F N
        have c0 : cobs = [] := List.map_eq_nil_iff.mp c1
        subst c0
        have c0 : mobs = [] := List.map_eq_nil_iff.mp c3
        subst c0
        obtain ⟨kq, hkq, hit₂⟩ := paired_get hits₂ (show ys₂[j]? = some v by simpa using hP)
        obtain ⟨x₂, dx₂, P₂, dP₂, E₂, a1, a2, a3, a4, a5, a6, a7, a8, a9, a10, a11, rfl, W⟩ := hit₂
        have NC : News g C h₃ _ := fun q hq => ⟨hkp _ _ List.not_mem_nil List.not_mem_nil (W q hq).1, Nat.ne_of_lt (Nat.lt_of_lt_of_le (Heap.lt_size (W q hq).1) hs₃), none_back FA.keep (W q hq).2⟩
        have N := news_app NC N
        simp only [List.cons_append, List.nil_append] at N
        walk_at "mine walk"
        refine BL.good (by k_asm) (by k_asm) (by walk_at "mine own") (fun c hc => absurd hc List.not_mem_nil) (by walk_at "mine rst") ?_
        rw [List.take_add_one, hkq, List.map_append]
        exact ints_snoc hJ
      · intro H Dh h₃ tk₃ gs₃ ys₃ k₃ mobs hm1 hm2 hb₃ hE₃ hkeep₃ hDh hHDh F N hnDh hle₃ hJ
        have c0 : mobs = [] := List.map_eq_nil_iff.mp hm1
        subst c0
        simp only [List.nil_append] at N hnDh
        have nDh := allNe_of hnDh
        have hJ : IntsAre ys₃ (dueL ns n) := by
          rw [List.size_toArray, ← PySem.Paired.length hits₂, List.take_length] at hJ
          rw [hits_due hdv S.len] at hJ
          exact hJ
        obtain ⟨pd, hpd, hpd2⟩ := (S.left (by rw [hHole]; exact hEne)).1 hiM
        have hdp := due_pos hpd hpd2
        have hdl5 := due_len ns n
        have hif := fmod_in (i : Int) 10 (by decide)
        have hqf := fmod_in (dn.getD (Int.toNat (6 + (i : Int).fmod 10)) 0) ((dueL ns n).length : Int) (by omega)
        have nI := allNe_of hN
        walk_at "mine walkS"
        obtain ⟨pp, epp, hpp, hpp2⟩ := due_get (ns := ns) (n := n) (q := Int.toNat ((dn.getD (Int.toNat (6 + (i : Int).fmod 10)) 0).fmod ((dueL ns n).length : Int))) (by omega)
        clear hqf hif
        rename (_ = Data.cell (some (Value.int ((dueL _ _).getD _ _) _))) => hFv
        rw [epp] at hFv
        have NX : AllNe RL [(XL, tabO #[]), (D₁, tabO #[]), (Dr, tabO #[]), (D₄, tabO #[])] := ⟨nRL.1, nRL.2.1, hRD.symm, nRL.2.2.2.1, trivial⟩
        refine law_T rfl rfl hh hroom G h8L n3 n5 hpp (by k_asm) (News.sub (by k_asm) (by walk_at "mine mem")) hd' lo ?hm NX ndd hFv hE hR' hM hD S.len hS' hdv hrv ?_
        case hm => exact mD'
        intro o₄ oS₄ oR₄ Dr₄ dv₄ rv₄ kr₄ tl₄ tr₄ vS₄ h₅ tk₅ F₅ N₅ hd₅ hS₅ hR₅ hdv₅ hrv₅ nDr₅
        refine ⟨⟨h₅, tk₅, _, _, o₄, oS₄, _, oR₄, _, _, tl₄, tr₄, kr₄, Dr₄, dv₄, rv₄, topple n ns pp, _, vS₄, _, rfl, fun x => hb₃ (hb₂ (hbare x)), F₅, News.tail N₅, ?_, hd₅, mD', mF', mG', mr', hS₅, hFv, hR₅, hdv₅, hrv₅, S.fall hpp hpp2, htr₂, AllNe.get nDr₅ (by k_memK), mo ++ more, by rw [hmo, Array.append_assoc]⟩, by rw [← eI]; exact (N₅ _ (.head _)).1⟩
        walk_at "mine allne"
  · rintro s' ⟨h₀, tk₀, gs, m', o', oS', oF', oR', l, r, tl', tr', kr, Dr, dv, rv', ns, ps, vS', vF', rfl, hbare, F, N, hN, hd', mD', mF', mG', mr', hS', hF', hR', hdv, hrv, S, htr', hRD, mo, hmo⟩
    have e := (S.left (by rw [hHole]; exact hEne)).2 rfl
    rw [hHole] at e
    have er := right_eq S n3 n5
    rw [e, ← momL_sum hrl n3 n5] at er
    have NX : AllNe RL [(XL, tabO #[]), (D₁, tabO #[]), (Dr, tabO #[]), (D₄, tabO #[])] := ⟨nRL.1, nRL.2.1, hRD.symm, nRL.2.2.2.1, trivial⟩
    refine law_E rfl rfl hh hroom hu G h8L n3 n5 F N hd' lo mD' mF' mG' (mr'.trans (by rw [er]; rfl)) NX ndd hS' hF' hE hR' hM hD S.len hdv (by rw [e]; exact hend) (fun k => by rw [e]; exact end_le k) (by have := S.mass; omega) htr' ?_
    intro h' tk gs' more hb' F' N' ht'
    rw [hmo, Array.append_assoc] at N'
    exact h h' tk gs' _ _ (fun x => hb' (hbare x)) F' N'
end
end

section
local macro_rules | `(tactic| walk_at "mine code") => `(tactic| ((with_reducible show codeAny _ _ (Code.call (Value.ref 638) _) _ _); (refine fields_new (by first | assumption | exact Or.inl rfl | exact Or.inr (Or.inl rfl) | exact Or.inr (Or.inr rfl)) (by walk_at "mine kn") (by k_room) ?_); (intro x' dx' D' es' h' tk' lo1' lo2' lo3' hE' hW' he'); (obtain ⟨k1', k2', t1', t2', he2'⟩ := he'); (subst he2'); (try dsimp only at lo1' lo2' lo3' hE' hW'); (have hl' := news_lt (by with_reducible assumption)); (try simp only [AllLt] at hl'); (try ((first | (have fr' := BlkL.fresh (by with_reducible assumption) (by k_asm) (by k_asm) (by walk_at "mine own") (by walk_at "mine rst") hW') | (have fr' := Blk.fresh (by with_reducible assumption) (by k_asm) (by k_asm) (by walk_at "mine rst") hW') | (have fr' := New.fresh hW' (Back.ext (by with_reducible assumption) (by with_reducible assumption) (by k_asm) (by k_asm) (by walk_at "mine ext")))); simp only [List.forall_mem_cons] at fr'; obtain ⟨fr1', fr2', fr3', fr9'⟩ := fr')); (have ap' := New.apart (by k_asm) hW'); (simp only [List.forall_mem_cons] at ap'); (obtain ⟨ap1', ap2', ap3', ap9'⟩ := ap'); (have hF' := Fr.keeps (by k_asm) hE'); (have hN' := back_news (by k_asm) (by k_asm) hE' hW'); (try simp only [List.cons_append, List.nil_append] at hN'); (try k_sweep); (try dsimp only)))
local macro_rules | `(tactic| walk_at "mine code") => `(tactic| ((with_reducible show codeAny _ _ (Code.call (Value.ref 737) ⟨[_], []⟩) _ _); (refine index1 (by walk_at "mine kn") (by k_room) ?_); (intro x' dx' D' es' h' tk'  hE' hW' he'); (obtain ⟨k1', t1', he2'⟩ := he'); (subst he2'); (try dsimp only at  hE' hW'); (try ((first | (have fr' := BlkL.fresh (by with_reducible assumption) (by k_asm) (by k_asm) (by walk_at "mine own") (by walk_at "mine rst") hW') | (have fr' := Blk.fresh (by with_reducible assumption) (by k_asm) (by k_asm) (by walk_at "mine rst") hW') | (have fr' := New.fresh hW' (Back.ext (by with_reducible assumption) (by with_reducible assumption) (by k_asm) (by k_asm) (by walk_at "mine ext")))); simp only [List.forall_mem_cons] at fr'; obtain ⟨fr1', fr2', fr3', fr9'⟩ := fr')); (have ap' := New.apart (by k_asm) hW'); (simp only [List.forall_mem_cons] at ap'); (obtain ⟨ap1', ap2', ap3', ap9'⟩ := ap'); (have hF' := Fr.keeps (by k_asm) hE'); (have hN' := back_news (by k_asm) (by k_asm) hE' hW'); (try simp only [List.cons_append, List.nil_append] at hN'); (try k_sweep); (try dsimp only)))
local macro_rules | `(tactic| walk_at "mine code") => `(tactic| ((with_reducible show codeAny _ _ (Code.call (Value.ref 427) _) _ _); (refine child_new (by walk_at "mine kn") (by k_room) ?_); (intro x' dx' es' h' tk'  hE' hW' he'); (obtain ⟨k1', k2', t1', t2', he2'⟩ := he'); (subst he2'); (try dsimp only at  hE' hW'); (try ((first | (have fr' := BlkL.fresh (by with_reducible assumption) (by k_asm) (by k_asm) (by walk_at "mine own") (by walk_at "mine rst") hW') | (have fr' := Blk.fresh (by with_reducible assumption) (by k_asm) (by k_asm) (by walk_at "mine rst") hW') | (have fr' := New.fresh hW' (Back.ext (by with_reducible assumption) (by with_reducible assumption) (by k_asm) (by k_asm) (by walk_at "mine ext")))); simp only [List.forall_mem_cons] at fr'; obtain ⟨fr1', fr2', fr9'⟩ := fr')); (have ap' := New.apart (by k_asm) hW'); (simp only [List.forall_mem_cons] at ap'); (obtain ⟨ap1', ap2', ap9'⟩ := ap'); (have hF' := Fr.keeps (by k_asm) hE'); (have hN' := back_news (by k_asm) (by k_asm) hE' hW'); (try simp only [List.cons_append, List.nil_append] at hN'); (try k_sweep); (try dsimp only)))
local macro_rules | `(tactic| walk_at "mine code") => `(tactic| ((with_reducible show codeAny _ _ (Code.call (Value.ref 943) _) _ _); (refine expr_new (by walk_at "mine kn") (by k_room) ?_); (intro x' dx' es' h' tk'  hE' hW' he'); (obtain ⟨k1', k2', k3', t1', t2', t3', t4', t5', he2'⟩ := he'); (subst he2'); (try dsimp only at  hE' hW'); (try ((first | (have fr' := BlkL.fresh (by with_reducible assumption) (by k_asm) (by k_asm) (by walk_at "mine own") (by walk_at "mine rst") hW') | (have fr' := Blk.fresh (by with_reducible assumption) (by k_asm) (by k_asm) (by walk_at "mine rst") hW') | (have fr' := New.fresh hW' (Back.ext (by with_reducible assumption) (by with_reducible assumption) (by k_asm) (by k_asm) (by walk_at "mine ext")))); simp only [List.forall_mem_cons] at fr'; obtain ⟨fr1', fr2', fr9'⟩ := fr')); (have ap' := New.apart (by k_asm) hW'); (simp only [List.forall_mem_cons] at ap'); (obtain ⟨ap1', ap2', ap9'⟩ := ap'); (have hF' := Fr.keeps (by k_asm) hE'); (have hN' := back_news (by k_asm) (by k_asm) hE' hW'); (try simp only [List.cons_append, List.nil_append] at hN'); (try k_sweep); (try dsimp only)))
local macro_rules | `(tactic| walk_at "mine code") => `(tactic| ((with_reducible show codeAny _ _ (Code.call (Value.ref 898) _) _ _); (refine filter_new (by walk_at "mine kn") (by k_room) ?_); (intro x' dx' XL' nx' es' h' tk'  hE' hW' he'); (obtain ⟨k1', t1', he2'⟩ := he'); (subst he2'); (try dsimp only at  hE' hW'); (try ((first | (have fr' := BlkL.fresh (by with_reducible assumption) (by k_asm) (by k_asm) (by walk_at "mine own") (by walk_at "mine rst") hW') | (have fr' := Blk.fresh (by with_reducible assumption) (by k_asm) (by k_asm) (by walk_at "mine rst") hW') | (have fr' := New.fresh hW' (Back.ext (by with_reducible assumption) (by with_reducible assumption) (by k_asm) (by k_asm) (by walk_at "mine ext")))); simp only [List.forall_mem_cons] at fr'; obtain ⟨fr1', fr2', fr3', fr9'⟩ := fr')); (have ap' := New.apart (by k_asm) hW'); (simp only [List.forall_mem_cons] at ap'); (obtain ⟨ap1', ap2', ap3', ap9'⟩ := ap'); (have hF' := Fr.keeps (by k_asm) hE'); (have hN' := back_news (by k_asm) (by k_asm) hE' hW'); (try simp only [List.cons_append, List.nil_append] at hN'); (try k_sweep); (try dsimp only)))
local macro_rules | `(tactic| walk_at "getAttr ref") => `(tactic| ((with_reducible show wpAny _ _ (getAttr (Value.ref _) (PySem.Str.ofString "value") _) _ _ _); (refine get_value (by k_asm) (by assumption) (by k_room) (by k_inst) (by k_handed) ?_); (intro h' tk' hE'); (try dsimp only at hE'); (have hF' := Fr.keeps (by k_asm) hE'); (have hN' := News.grown (by k_asm) hE'); (try k_sweep)))
local macro_rules | `(tactic| k_ne) => `(tactic| first | exact AllNe.get (by with_reducible assumption) (by k_memK) | exact (AllNe.get (by with_reducible assumption) (by k_memK)).symm | (refine neN ?_; (try dsimp only); omega) | exact Apart.ne (by with_reducible assumption) (by k_memK) | exact (Apart.ne (by with_reducible assumption) (by k_memK)).symm)
local macro_rules | `(tactic| walk_at "exec For Name Call cons nil") => `(tactic| (refine for_range ?_ ?hs; (case hs => intro _; with_unfolding_all rfl)))
local macro_rules | `(tactic| walk_at "mine setL") => `(tactic| (refine And.intro ?_ ?_))
local macro_rules | `(tactic| walk_at "eval Name") => `(tactic| ((with_reducible show wpAny _ _ (eval (Expr.Name _ _) (envOfC _ _ _ _ _)) _ _ _); k_dflt (first
  | (refine' nameX_C ?N ?c ?m ?d ?_ ?a ?b; (case a => rfl); (case b => rfl); (case N => k_asm); (case c => rfl); (case m => k_memK); (case d => with_reducible assumption); k_whole)
  | (refine' nameX_L ?F ?v ?_ ?a ?b; (case a => rfl); (case b => rfl); (case F => k_asm); (case v => rfl); k_whole)
  | (refine' nameX_K ?F ?X ?T ?e ?_ ?a ?b; (case a => rfl); (case b => rfl); (case F => k_asm); (case X => k_asm); (case T => k_asm); (case e => k_is); k_whole))))
local macro_rules | `(tactic| walk_at "eval Dict") => `(tactic| ((try dsimp only); refine kdn_str (by rfl) (by k_asm) (by k_asm) (TopRead.nolimit (by assumption)) (by rfl) (by rfl) (by intro h; cases h) (by decide) ?_; intro d' h' o' F' N' l1 lo' hd'; (try k_lt l1); (try k_sweep)))
local macro_rules | `(tactic| walk_at "call type:list") => `(tactic| (refine list_copyK (by k_asm) (by k_asm) (News.isList (by k_asm) (by k_memK)) ?_ (ints_small (by with_reducible assumption) (by omega)); intro D' c' h' F' N' l1; (try k_lt l1); (try k_sweep)))
local macro_rules | `(tactic| walk_at "unpackItems ref") => `(tactic| (refine unpackItemsN_ (by k_asm) (by k_asm) (News.isTup (by k_asm) (by k_memK)) (by with_unfolding_all assumption) (by rfl) ?_; intro h' F' N'; (try k_sweep)))
local macro_rules | `(tactic| walk_at "call builtin:sum") => `(tactic| ((with_reducible show wpAny _ _ (call (Value.builtin "sum") [Value.ref _]) _ _ _); refine sumN (by with_unfolding_all assumption) (by k_asm) (by k_asm) (by k_memK) (by with_reducible assumption) ?_; intro h' tk' t' F' N'))
/-- a closed box: whnf does not look into it -/
structure Go (p : Prop) : Prop where
  go : p
abbrev cellA (L : Nat) : List (Addr × Obj) := [(L + 1 + 1 + 1 + 1 + 1 + 1 + 1 + 1, tabO #[]), (L + 1 + 1 + 1 + 1 + 1 + 1 + 1, tabO #[]), (L + 1 + 1 + 1 + 1 + 1 + 1, tabO #[]), (L + 1 + 1 + 1 + 1, tabO #[]), (L + 1 + 1 + 1, tabO #[]), (L + 1 + 1, tabO #[]), (823, tabO #[])]
section
variable {prog : Program} {w : World} {A : Around} {s : Shared} {p : Program} {loose : List Str} {mg mb : Str → Option Value} {R : Result → Shared → Prop}
theorem law_A {b : Heap} {sl : Addr} {sv : List Value} {sn : List Int} {pt : Array Value} {body' : List Stmt} {scope' : Scope} (hb' : List.drop 8 (fnBody PySem.Challenge.pw_ae5016_01.main.body 36) = body') (hs' : fnScope PySem.Challenge.pw_ae5016_01.main.body 36 = scope') (hh : A.handled = none) (htr : TriplesOk pt.toList) (hs : b.IsList sl sv.toArray) (hi : IntsAre sv sn) (hz : sn.length ≤ 63)
    (H : Kn w p loose mg mb b s.heap [(823, tabO pt)]) (hroom : A.depth + 130 ≤ 900)
    (h : ∀ (g : Heap) (L' D₁ D₂ D₄ : Addr) (oS oF oE oR oM oD : Obj) (k₁ k₂ k₄ n : Nat) (drv rv ev : List Value) (dn rn : List Int) (hole : Int) (vS vF : Option Value) (tn tg tf tr : Tok) (m : Str → Option Value) (h' : Heap) (tk : Nat),
      Back g s.heap [(823, tabO pt)] → Gd w p loose mg mb g → (@LT.lt Nat _ 823 L') → 3 ≤ n → n ≤ 5 → Fr g L' h' m →
      News g L' h' [(D₄, listOf ev.toArray k₄), (D₂, listOf rv.toArray k₂), (D₁, listOf drv.toArray k₁), (L' + 1 + 1 + 1 + 1 + 1 + 1 + 1 + 1, oS), (L' + 1 + 1 + 1 + 1 + 1 + 1 + 1, oF), (L' + 1 + 1 + 1 + 1 + 1 + 1, oE), (L' + 1 + 1 + 1 + 1, oR), (L' + 1 + 1 + 1, oM), (L' + 1 + 1, oD), (823, tabO pt)] →
      oS.data = .cell vS → oF.data = .cell vF → oE.data = .cell (some (.ref D₄)) → oR.data = .cell (some (.ref D₂)) → oM.data = .cell (some (.int n tn)) → oD.data = .cell (some (.ref D₁)) →
      IntsAre drv dn → dn.length = 16 → IntsAre rv rn → rn.length = n → (∀ x ∈ rn, 1 ≤ x ∧ x ≤ 7 - (n : Int)) → IntsAre ev (endL hole n) → (((n : Int) * (n + 1)).fdiv 2 - (momL rn n).sum).fmod (n + 1) = hole →
      m "grains" = some (.int rn.sum tg) → m "falls" = some (.int ((falL rn (endL hole n) n n).sum.fdiv 2) tf) → m "right" = some (.int (((momL rn n).sum - (momL (endL hole n) n).sum).fdiv (n + 1)) tr) →
      Go (wpAny (model prog w) (A.deeper (envOfC "law" scope' L' 1038 (.ref 1037))) (execs body' (envOfC "law" scope' L' 1038 (.ref 1037)))
        (fun fl s' => R (.ok (.ret (match fl with | .ret v => v | _ => .none))) s') (fun _ _ => False) { s with heap := h', toks := tk })) :
    codeAny (model prog w) A (.call (.ref 1038) ⟨[.ref sl], []⟩) R s := by
  conv at hb' => lhs; whnf
  conv at hs' => lhs; whnf
  subst hb' hs'
  have hsb : (hideAll s.heap ([(823, tabO pt)].map (·.1))).IsList sl sv.toArray := hs.at fun o e => H.base _ _ e
  refine enterC H [("script", .ref sl)] (by k_room) ?_
  intro g L' h₁ tk cells B G F N Y l1
  obtain ⟨hgB, hBN⟩ := id B
  rw [← hgB] at hsb
  simp only [AllLt] at l1
  k_cells Y
  simp only [List.cons_append, List.nil_append] at N
  have X := G.X
  have T := G.T
  have EB := Ext.refl s.heap
  walk_at "mine walk"
  refine lc_range 16 (fun H i ys h => ∃ ns, IntsAre ys ns ∧ ns.length = i) (by assumption) rfl (by decide) ⟨_, _, rfl⟩ (by with_unfolding_all assumption) (by k_asm) (by k_asm) ?_ ?_ ?_ ?_
  · exact fun H _ => ⟨[], .nil, rfl⟩
  · exact fun H i ys h h' k e => e
  · intro H C i hq t tk ys m' hE hn hb hi16 hJ F N
    have BL : Blk _ C _ _ := ⟨hb, hn⟩
    simp only [List.cons_append, List.nil_append] at N
    have i0 : 0 ≤ (i : Int) := Int.natCast_nonneg i
    have i16 : (i : Int) < 16 := by omega
    walk_at "mine walk"
    all_goals (
      obtain ⟨ns, j1, j2⟩ := hJ
      exact BL.good (by k_asm) (by k_asm) (by walk_at "mine rst") ⟨_, ints_snoc j1, len_snoc j2⟩)
  · intro H D hq tk ys k hE hD hHD F N hnD ⟨dn, hdn, hdl⟩
    have nD := allNe_of hnD
    walk_at "mine walk"
    obtain ⟨n, hn, n3, n5⟩ := many_of (dn.getD (Int.toNat 0) 0)
    simp only [hn] at *
    refine lc_range n (fun H i ys h => ∃ ns, IntsAre ys ns ∧ ns.length = i ∧ ∀ x ∈ ns, 1 ≤ x ∧ x ≤ 7 - (n : Int)) (by assumption) rfl (by omega) ⟨_, _, rfl⟩ (by with_unfolding_all assumption) (by k_asm) (by k_asm) ?_ ?_ ?_ ?_
    · exact fun H _ => ⟨[], .nil, rfl, fun _ h => absurd h List.not_mem_nil⟩
    · exact fun H i ys h h' k e => e
    · intro H C i hq t tk ys m' hE hn' hb hin hJ F N
      have BL : Blk _ C _ _ := ⟨hb, hn'⟩
      simp only [List.cons_append, List.nil_append] at N
      have i0 : 0 ≤ (i : Int) := Int.natCast_nonneg i
      have i5 : (i : Int) < 5 := by omega
      walk_at "mine walk"
      obtain ⟨ns, j1, j2, j3⟩ := hJ
      refine BL.good (by k_asm) (by k_asm) (by walk_at "mine rst") ⟨_, ints_snoc j1, len_snoc j2, snoc_all j3 ?_⟩
      exact row_elt _ _ (by omega)
    · intro H D₂ hq tk ys k hE hD hHD F N hnD ⟨rn, hrn, hrl, hr7⟩
      have nD := allNe_of hnD
      walk_at "mine walk"
      refine lc_range n (fun H i ys h => IntsAre ys (momL rn i)) (by assumption) rfl (by omega) ⟨_, _, rfl⟩ (by with_unfolding_all assumption) (by k_asm) (by k_asm) ?_ ?_ ?_ ?_
      · exact fun H _ => .nil
      · exact fun H i ys h h' k e => e
      · intro H C i hq t tk ys m' hE hn' hb hin hJ F N
        have BL : Blk _ C _ _ := ⟨hb, hn'⟩
        simp only [List.cons_append, List.nil_append] at N
        have i0 : 0 ≤ (i : Int) := Int.natCast_nonneg i
        have i5 : (i : Int) < 5 := by omega
        walk_at "mine walk"
        refine BL.good (by k_asm) (by k_asm) (by walk_at "mine rst") ?_
        rw [momL_succ]
        exact ints_snoc hJ
      · intro H D₃ hq tk ys k hE hD hHD F N hnD hmom
        have nD := allNe_of hnD
        walk_at "mine walk"
        generalize hHole : Int.fmod (Int.fdiv _ 2 - List.sum _) _ = hole at *
        refine lc_range n (fun H i ys h => IntsAre ys (endL hole i)) (by assumption) rfl (by omega) ⟨_, _, rfl⟩ (by with_unfolding_all assumption) (by k_asm) (by k_asm) ?_ ?_ ?_ ?_
        · exact fun H _ => .nil
        · exact fun H i ys h h' k e => e
        · intro H C i hq t tk ys m' hE hn' hb hin hJ F N
          have BL : Blk _ C _ _ := ⟨hb, hn'⟩
          simp only [List.cons_append, List.nil_append] at N
          have i0 : 0 ≤ (i : Int) := Int.natCast_nonneg i
          have i5 : (i : Int) < 5 := by omega
          walk_at "mine walk"
          all_goals (
            refine BL.good (by k_asm) (by k_asm) (by walk_at "mine rst") ?_
            rw [endL_succ]
            first | rw [if_pos (by assumption)] | rw [if_neg (by assumption)]
            exact ints_snoc hJ)
        · intro H D₄ hq tk ys k hE hD hHD F N hnD hend
          have nD := allNe_of hnD
          walk_at "mine walk"
          have hel := endL_len hole n
          refine lc_range n (fun H i ys h => IntsAre ys (falL rn (endL hole n) n i)) (by assumption) rfl (by omega) ⟨_, _, rfl⟩ (by with_unfolding_all assumption) (by k_asm) (by k_asm) ?_ ?_ ?_ ?_
          · exact fun H _ => .nil
          · exact fun H i ys h h' k e => e
          · intro H C i hq t tk ys m' hE hn' hb hin hJ F N
            have BL : Blk _ C _ _ := ⟨hb, hn'⟩
            simp only [List.cons_append, List.nil_append] at N
            have i0 : 0 ≤ (i : Int) := Int.natCast_nonneg i
            have i5 : (i : Int) < 5 := by omega
            walk_at "mine walk"
            all_goals (
              refine BL.good (by k_asm) (by k_asm) (by walk_at "mine rst") ?_
              rw [falL_succ]
              exact ints_snoc hJ)
          · intro H D₅ hq tk ys k hE hD hHD F N hnD hfal
            have nD := allNe_of hnD
            walk_at "mine walk"
            refine lc_range n (fun H i ys h => IntsAre ys (momL (endL hole n) i)) (by assumption) rfl (by omega) ⟨_, _, rfl⟩ (by with_unfolding_all assumption) (by k_asm) (by k_asm) ?_ ?_ ?_ ?_
            · exact fun H _ => .nil
            · exact fun H i ys h h' k e => e
            · intro H C i hq t tk ys m' hE hn' hb hin hJ F N
              have BL : Blk _ C _ _ := ⟨hb, hn'⟩
              simp only [List.cons_append, List.nil_append] at N
              have i0 : 0 ≤ (i : Int) := Int.natCast_nonneg i
              have i5 : (i : Int) < 5 := by omega
              walk_at "mine walk"
              all_goals (
                refine BL.good (by k_asm) (by k_asm) (by walk_at "mine rst") ?_
                rw [momL_succ]
                exact ints_snoc hJ)
            · intro H D₆ hq tk ys k hE hD hHD F N hnD hmoe
              have nD := allNe_of hnD
              (try dsimp only)
              (try k_unmd)
              (try k_fold)
              iterate 12 (first | (k_unfold; (try dsimp only)) | walk1 | (dsimp only; walk1))
              (try dsimp only)
              with_reducible rename News _ _ _ _ => NN
              with_reducible rename Fr _ _ _ _ => FF
              refine Go.go (h _ _ D D₂ D₄ _ _ _ _ _ _ _ _ _ n _ _ _ dn rn hole _ _ _ _ _ _ _ _ _ B G l1.1 n3 n5 FF (News.sub NN (by walk_at "mine mem"))
                (by with_reducible assumption) (by with_reducible assumption) (by with_reducible assumption) (by with_reducible assumption) (by with_reducible assumption) (by with_reducible assumption) hdn hdl hrn hrl hr7 hend hHole rfl rfl rfl)
end
end

section
local macro_rules | `(tactic| walk_at "mine code") => `(tactic| ((with_reducible show codeAny _ _ (Code.call (Value.ref 638) _) _ _); (refine fields_new (by first | assumption | exact Or.inl rfl | exact Or.inr (Or.inl rfl) | exact Or.inr (Or.inr rfl)) (by walk_at "mine kn") (by k_room) ?_); (intro x' dx' D' es' h' tk' lo1' lo2' lo3' hE' hW' he'); (obtain ⟨k1', k2', t1', t2', he2'⟩ := he'); (subst he2'); (try dsimp only at lo1' lo2' lo3' hE' hW'); (have hl' := news_lt (by with_reducible assumption)); (try simp only [AllLt] at hl'); (try ((first | (have fr' := BlkL.fresh (by with_reducible assumption) (by k_asm) (by k_asm) (by walk_at "mine own") (by walk_at "mine rst") hW') | (have fr' := Blk.fresh (by with_reducible assumption) (by k_asm) (by k_asm) (by walk_at "mine rst") hW') | (have fr' := New.fresh hW' (Back.ext (by with_reducible assumption) (by with_reducible assumption) (by k_asm) (by k_asm) (by walk_at "mine ext")))); simp only [List.forall_mem_cons] at fr'; obtain ⟨fr1', fr2', fr3', fr9'⟩ := fr')); (have ap' := New.apart (by k_asm) hW'); (simp only [List.forall_mem_cons] at ap'); (obtain ⟨ap1', ap2', ap3', ap9'⟩ := ap'); (have hF' := Fr.keeps (by k_asm) hE'); (have hN' := back_news (by k_asm) (by k_asm) hE' hW'); (try simp only [List.cons_append, List.nil_append] at hN'); (try k_sweep); (try dsimp only)))
local macro_rules | `(tactic| walk_at "mine code") => `(tactic| ((with_reducible show codeAny _ _ (Code.call (Value.ref 737) ⟨[_], []⟩) _ _); (refine index1 (by walk_at "mine kn") (by k_room) ?_); (intro x' dx' D' es' h' tk'  hE' hW' he'); (obtain ⟨k1', t1', he2'⟩ := he'); (subst he2'); (try dsimp only at  hE' hW'); (try ((first | (have fr' := BlkL.fresh (by with_reducible assumption) (by k_asm) (by k_asm) (by walk_at "mine own") (by walk_at "mine rst") hW') | (have fr' := Blk.fresh (by with_reducible assumption) (by k_asm) (by k_asm) (by walk_at "mine rst") hW') | (have fr' := New.fresh hW' (Back.ext (by with_reducible assumption) (by with_reducible assumption) (by k_asm) (by k_asm) (by walk_at "mine ext")))); simp only [List.forall_mem_cons] at fr'; obtain ⟨fr1', fr2', fr3', fr9'⟩ := fr')); (have ap' := New.apart (by k_asm) hW'); (simp only [List.forall_mem_cons] at ap'); (obtain ⟨ap1', ap2', ap3', ap9'⟩ := ap'); (have hF' := Fr.keeps (by k_asm) hE'); (have hN' := back_news (by k_asm) (by k_asm) hE' hW'); (try simp only [List.cons_append, List.nil_append] at hN'); (try k_sweep); (try dsimp only)))
local macro_rules | `(tactic| walk_at "mine code") => `(tactic| ((with_reducible show codeAny _ _ (Code.call (Value.ref 427) _) _ _); (refine child_new (by walk_at "mine kn") (by k_room) ?_); (intro x' dx' es' h' tk'  hE' hW' he'); (obtain ⟨k1', k2', t1', t2', he2'⟩ := he'); (subst he2'); (try dsimp only at  hE' hW'); (try ((first | (have fr' := BlkL.fresh (by with_reducible assumption) (by k_asm) (by k_asm) (by walk_at "mine own") (by walk_at "mine rst") hW') | (have fr' := Blk.fresh (by with_reducible assumption) (by k_asm) (by k_asm) (by walk_at "mine rst") hW') | (have fr' := New.fresh hW' (Back.ext (by with_reducible assumption) (by with_reducible assumption) (by k_asm) (by k_asm) (by walk_at "mine ext")))); simp only [List.forall_mem_cons] at fr'; obtain ⟨fr1', fr2', fr9'⟩ := fr')); (have ap' := New.apart (by k_asm) hW'); (simp only [List.forall_mem_cons] at ap'); (obtain ⟨ap1', ap2', ap9'⟩ := ap'); (have hF' := Fr.keeps (by k_asm) hE'); (have hN' := back_news (by k_asm) (by k_asm) hE' hW'); (try simp only [List.cons_append, List.nil_append] at hN'); (try k_sweep); (try dsimp only)))
local macro_rules | `(tactic| walk_at "mine code") => `(tactic| ((with_reducible show codeAny _ _ (Code.call (Value.ref 943) _) _ _); (refine expr_new (by walk_at "mine kn") (by k_room) ?_); (intro x' dx' es' h' tk'  hE' hW' he'); (obtain ⟨k1', k2', k3', t1', t2', t3', t4', t5', he2'⟩ := he'); (subst he2'); (try dsimp only at  hE' hW'); (try ((first | (have fr' := BlkL.fresh (by with_reducible assumption) (by k_asm) (by k_asm) (by walk_at "mine own") (by walk_at "mine rst") hW') | (have fr' := Blk.fresh (by with_reducible assumption) (by k_asm) (by k_asm) (by walk_at "mine rst") hW') | (have fr' := New.fresh hW' (Back.ext (by with_reducible assumption) (by with_reducible assumption) (by k_asm) (by k_asm) (by walk_at "mine ext")))); simp only [List.forall_mem_cons] at fr'; obtain ⟨fr1', fr2', fr9'⟩ := fr')); (have ap' := New.apart (by k_asm) hW'); (simp only [List.forall_mem_cons] at ap'); (obtain ⟨ap1', ap2', ap9'⟩ := ap'); (have hF' := Fr.keeps (by k_asm) hE'); (have hN' := back_news (by k_asm) (by k_asm) hE' hW'); (try simp only [List.cons_append, List.nil_append] at hN'); (try k_sweep); (try dsimp only)))
local macro_rules | `(tactic| walk_at "mine code") => `(tactic| ((with_reducible show codeAny _ _ (Code.call (Value.ref 898) _) _ _); (refine filter_new (by walk_at "mine kn") (by k_room) ?_); (intro x' dx' XL' nx' es' h' tk'  hE' hW' he'); (obtain ⟨k1', t1', he2'⟩ := he'); (subst he2'); (try dsimp only at  hE' hW'); (try ((first | (have fr' := BlkL.fresh (by with_reducible assumption) (by k_asm) (by k_asm) (by walk_at "mine own") (by walk_at "mine rst") hW') | (have fr' := Blk.fresh (by with_reducible assumption) (by k_asm) (by k_asm) (by walk_at "mine rst") hW') | (have fr' := New.fresh hW' (Back.ext (by with_reducible assumption) (by with_reducible assumption) (by k_asm) (by k_asm) (by walk_at "mine ext")))); simp only [List.forall_mem_cons] at fr'; obtain ⟨fr1', fr2', fr3', fr9'⟩ := fr')); (have ap' := New.apart (by k_asm) hW'); (simp only [List.forall_mem_cons] at ap'); (obtain ⟨ap1', ap2', ap3', ap9'⟩ := ap'); (have hF' := Fr.keeps (by k_asm) hE'); (have hN' := back_news (by k_asm) (by k_asm) hE' hW'); (try simp only [List.cons_append, List.nil_append] at hN'); (try k_sweep); (try dsimp only)))
local macro_rules | `(tactic| walk_at "getAttr ref") => `(tactic| ((with_reducible show wpAny _ _ (getAttr (Value.ref _) (PySem.Str.ofString "value") _) _ _ _); (refine get_value (by k_asm) (by assumption) (by k_room) (by k_inst) (by k_handed) ?_); (intro h' tk' hE'); (try dsimp only at hE'); (have hF' := Fr.keeps (by k_asm) hE'); (have hN' := News.grown (by k_asm) hE'); (try k_sweep)))
local macro_rules | `(tactic| k_ne) => `(tactic| first | exact AllNe.get (by with_reducible assumption) (by k_memK) | exact (AllNe.get (by with_reducible assumption) (by k_memK)).symm | exact Apart.ne (by with_reducible assumption) (by k_memK) | exact (Apart.ne (by with_reducible assumption) (by k_memK)).symm | (refine neN ?_; (try dsimp only); omega))
local macro_rules | `(tactic| walk_at "exec For Name Call cons nil") => `(tactic| (refine for_range ?_ ?hs; (case hs => intro _; with_unfolding_all rfl)))
local macro_rules | `(tactic| walk_at "mine setL") => `(tactic| (refine And.intro ?_ ?_))
local macro_rules | `(tactic| walk_at "eval Name") => `(tactic| ((with_reducible show wpAny _ _ (eval (Expr.Name _ _) (envOfC _ _ _ _ _)) _ _ _); k_dflt (first
  | (refine' nameX_C ?N ?c ?m ?d ?_ ?a ?b; (case a => rfl); (case b => rfl); (case N => k_asm); (case c => rfl); (case m => k_memK); (case d => with_reducible assumption); k_whole)
  | (refine' nameX_L ?F ?v ?_ ?a ?b; (case a => rfl); (case b => rfl); (case F => k_asm); (case v => first | rfl | assumption); k_whole)
  | (refine' nameX_K ?F ?X ?T ?e ?_ ?a ?b; (case a => rfl); (case b => rfl); (case F => k_asm); (case X => k_asm); (case T => k_asm); (case e => k_is); k_whole))))
local macro_rules | `(tactic| walk_at "eval Dict") => `(tactic| ((try dsimp only); refine kdn_str (by rfl) (by k_asm) (by k_asm) (TopRead.nolimit (by assumption)) (by rfl) (by rfl) (by intro h; cases h) (by decide) ?_; intro d' h' o' F' N' l1 lo' hd'; (try k_lt l1); (try k_sweep)))
local macro_rules | `(tactic| walk_at "call type:list") => `(tactic| (refine list_copyK (by k_asm) (by k_asm) (News.isList (by k_asm) (by k_memK)) ?_ (ints_small (by with_reducible assumption) (by omega)); intro D' c' h' F' N' l1; (try k_lt l1); (try k_sweep)))
local macro_rules | `(tactic| walk_at "unpackItems ref") => `(tactic| (refine unpackItemsN_ (by k_asm) (by k_asm) (News.isTup (by k_asm) (by k_memK)) (by with_unfolding_all assumption) (by rfl) ?_; intro h' F' N'; (try k_sweep)))
local macro_rules | `(tactic| walk_at "call builtin:sum") => `(tactic| ((with_reducible show wpAny _ _ (call (Value.builtin "sum") [Value.ref _]) _ _ _); refine sumN (by with_unfolding_all assumption) (by k_asm) (by k_asm) (by k_memK) (by with_reducible assumption) ?_; intro h' tk' t' F' N'))
section
variable {prog : Program} {w : World} {A : Around} {s : Shared} {p : Program} {loose : List Str} {mg mb : Str → Option Value} {Q : Flow → Shared → Prop}
theorem law_B {g : Heap} {L' D₁ D₂ D₄ : Addr} {oS oF oE oR oM oD : Obj} {k₁ k₂ k₄ : Nat} {drv rv ev : List Value} {rn : List Int} {pt : Array Value} {m : Str → Option Value} {body : List Stmt} {scope : Scope}
    (hb : List.drop 8 (fnBody PySem.Challenge.pw_ae5016_01.main.body 36) = body) (hs : fnScope PySem.Challenge.pw_ae5016_01.main.body 36 = scope) (hh : A.handled = none) (hroom : A.depth + 120 ≤ 900) (G : Gd w p loose mg mb g) (h8L : @LT.lt Nat _ 823 L')
    (F : Fr g L' s.heap m) (N : News g L' s.heap [(D₄, listOf ev.toArray k₄), (D₂, listOf rv.toArray k₂), (D₁, listOf drv.toArray k₁), (L' + 1 + 1 + 1 + 1 + 1 + 1 + 1 + 1, oS), (L' + 1 + 1 + 1 + 1 + 1 + 1 + 1, oF), (L' + 1 + 1 + 1 + 1 + 1 + 1, oE), (L' + 1 + 1 + 1 + 1, oR), (L' + 1 + 1 + 1, oM), (L' + 1 + 1, oD), (823, tabO pt)])
    (dR : oR.data = .cell (some (.ref D₂))) (hi : IntsAre rv rn) (h8 : rn.length ≤ 8)
    (h : ∀ (c dc f df Df fl dfl XL e de TT dT d RL : Addr) (k0 k1 k2 k3 k4 k5 k6 k7 : Int) (t0 t1 t2 t3 t4 t5 t6 t7 t8 t9 tf nx tl tr kR : Nat) (o : Obj) (m' : Str → Option Value) (h' : Heap) (tk : Nat),
      Fr g L' h' m' → News g L' h' [(c, instObj 427 dc), (dc, dictOf (cEs k6 k7 t6 t7 f fl) 2), (f, instObj 638 df), (df, dictOf (fEs k4 k5 t8 t9 Df) 2), (Df, { cls := .type "tuple", data := .seq #[.str "row" tf] }), (fl, instObj 898 dfl), (dfl, dictOf (flEs k0 t0 XL) 1), (XL, { cls := .type "list", data := .seq #[.ref e] nx }), (e, instObj 943 de), (de, dictOf (eEs k1 k2 k3 t1 t2 t3 t4 t5 TT) 3), (TT, instObj 333 dT), (dT, dictOf [] 0), (d, o),
        (RL, listOf rv.toArray kR), (D₄, listOf ev.toArray k₄), (D₂, listOf rv.toArray k₂), (D₁, listOf drv.toArray k₁), (L' + 1 + 1 + 1 + 1 + 1 + 1 + 1 + 1, oS), (L' + 1 + 1 + 1 + 1 + 1 + 1 + 1, oF), (L' + 1 + 1 + 1 + 1 + 1 + 1, oE), (L' + 1 + 1 + 1 + 1, oR), (L' + 1 + 1 + 1, oM), (L' + 1 + 1, oD), (823, tabO pt)] →
      o.IsDictOf (strKind prog w) (docKs 0 0 tl tr RL) → (d == sysModules) = false → m' "document" = some (.ref d) → m' "full" = some (.ref c) → (∀ x : Str, x ≠ "document" → x ≠ "full" → m' x = m x) → AllNe d [(dc, tabO #[]), (df, tabO #[]), (dfl, tabO #[]), (de, tabO #[]), (dT, tabO #[])] → AllNe RL [(XL, tabO #[]), (D₁, tabO #[]), (D₂, tabO #[]), (D₄, tabO #[])] →
      wpAny (model prog w) A (execs (List.drop 10 (fnBody PySem.Challenge.pw_ae5016_01.main.body 36)) (envOfC "law" (fnScope PySem.Challenge.pw_ae5016_01.main.body 36) L' 1038 (.ref 1037))) Q (fun _ _ => False) { s with heap := h', toks := tk }) :
    wpAny (model prog w) A (execs body (envOfC "law" scope L' 1038 (.ref 1037))) Q (fun _ _ => False) s := by
  conv at hb => lhs; whnf
  conv at hs => lhs; whnf
  subst hb hs
  have X := G.X
  have T := G.T
  (try dsimp only)
  (try k_unmd)
  (try k_fold)
  iterate 2 (first | (k_unfold; (try dsimp only)) | walk1 | (dsimp only; walk1))
  (try dsimp only)
  refine kdn_str (by rfl) (by k_asm) (by k_asm) (TopRead.nolimit (by assumption)) (by rfl) (by rfl) (by intro h; cases h) (by decide) ?_
  intro d' h' o' F' N' l1 lo' hd'
  (try k_lt l1)
  (try k_sweep)
  (try dsimp only)
  iterate 65 (first | (k_unfold; (try dsimp only)) | walk1 | (dsimp only; walk1))
  (try dsimp only)
  with_reducible rename News _ _ _ _ => NN
  with_reducible rename Fr _ _ _ _ => FF
  with_reducible rename Obj.IsDictOf _ _ _ => hdd
  exact h _ _ _ _ _ _ _ _ _ _ _ _ d' _ _ _ _ _ _ _ _ _ _ _ _ _ _ _ _ _ _ _ _ _ _ _ _ _ _ _ _ FF (News.sub NN (by walk_at "mine mem")) hdd lo' rfl rfl (fun x h1 h2 => (if_neg h2).trans (if_neg h1)) ⟨by k_ne, by k_ne, by k_ne, by k_ne, by k_ne, trivial⟩ ⟨by k_ne, by k_ne, by k_ne, by k_ne, trivial⟩
end
end
end Mine

namespace Mine
open PySem PySem.W PyProof.Rows PySem.Calls PySem.Spec
section
variable {prog : Program} {w : World} {A : Around} {s : Shared} {p : Program} {loose : List Str} {mg mb : Str → Option Value} {R : Result → Shared → Prop}
theorem law_whole {b : Heap} {sl : Addr} {sv : List Value} {sn : List Int} {pt : Array Value} (hh : A.handled = none) (hu : A.units + 200 < cLine) (htr : TriplesOk pt.toList) (hs : b.IsList sl sv.toArray) (hi : IntsAre sv sn) (hz : sn.length ≤ 63)
    (H : Kn w p loose mg mb b s.heap [(823, tabO pt)]) (hroom : A.depth + 130 ≤ 900)
    (h : ∀ (h' : Heap) (tk : Nat) (gs : Array GenState) (more : Array Value), (AllBare s.gens → AllBare gs) → (∀ x o, x ≠ 823 → s.heap.get? x = some o → h'.get? x = some o) → h'.get? 823 = some (tabO (pt ++ more)) → R (.ok (.ret (.bool true))) { s with heap := h', toks := tk, gens := gs }) :
    codeAny (model prog w) A (.call (.ref 1038) ⟨[.ref sl], []⟩) R s := by
  refine law_A rfl rfl hh htr hs hi hz H hroom ?_
  intro g L' D₁ D₂ D₄ oS oF oE oR oM oD k₁ k₂ k₄ n drv rv ev dn rn hole vS vF tn tg tf tr m h' tk B G h8L n3 n5 F N hS hF hE hR hM hD hdn hdl hrn hrl hr7 hend hHole mg' mf mr
  have hr' : (A.deeper (envOfC "law" (fnScope PySem.Challenge.pw_ae5016_01.main.body 36) L' 1038 (.ref 1037))).depth + 120 ≤ 900 := by simp only [depth_deeper]; omega
  have hu' : (A.deeper (envOfC "law" (fnScope PySem.Challenge.pw_ae5016_01.main.body 36) L' 1038 (.ref 1037))).units + 100 < cLine := by simp only [Around.deeper_units]; omega
  obtain ⟨M, eM, hM5, hEne⟩ := falls_eq hrl n3 n5 hr7 hHole
  rw [momL_sum hrl n3 n5, hole_eq] at hHole
  refine ⟨?_⟩
  refine law_B rfl rfl hh hr' G h8L F N hR hrn (by omega) ?_
  intro c dc f df Df fl dfl XL e de TT dT d RL k0 k1 k2 k3 k4 k5 k6 k7 t0 t1 t2 t3 t4 t5 t6 t7 t8 t9 tf nx tl tr kR o m' h'' tk' F' N' hd lo mD mFull hm ndd nRL
  refine law_C rfl rfl hh hr' hu' G h8L n3 n5 F' N' hd lo mD mFull ((hm _ (by decide) (by decide)).trans mg') ((hm _ (by decide) (by decide)).trans (mf.trans (by rw [eM]))) ((hm _ (by decide) (by decide)).trans mr) hS hF hE hR hM hD hdn hdl hrn hrl hr7 hend hM5 hEne hHole htr ndd nRL ?_
  intro h3 tk3 gs more m3 hb3 F3 N3
  exact h h3 tk3 gs more hb3 (B.extR F3 N3 fun q hq => .inr (by rw [List.mem_singleton.mp hq])) (N3 _ (.head _)).1
end
end Mine
namespace Mine
open PySem PySem.W PyProof.Rows PySem.Calls PySem.Spec
theorem noTab (P : Params) : (K P).lookup 823 = none := by kernel_rfl
theorem lawAt (P : Params) : nsIn (K P) mainGlobals "law" = some (some (.ref 1038)) := by kernel_rfl
theorem tabHolder (P : Params) : ∃ o vs, (K P).lookup 825 = some o ∧ o.cls = .type "code" ∧ o.data = .fields vs ∧ vs[11]? = some (.ref 823) := ⟨o825 P, _, by kernel_rfl, rfl, rfl, by kernel_rfl⟩
theorem in_tail {w : World} {h : Heap} (X : (KH w.params).In h) : (K w.params).In h := fun a o e => X a o (by
  unfold KH
  rw [List.lookup_cons]
  split
  · rename_i q
    rw [beq_iff_eq.mp q, noTab] at e
    cases e
  · exact e)
/-- the head's end: what the walk of the law gives is what the form asks -/
theorem close {prog : Program} {w : World} {p : Program} {loose : List Str} {mg mb : Str → Option Value} {mean : ExcName → Option Value} {s₁ : Shared} {fa sl : Addr} {vs : List Value} {ns : List Int} {R : Result → Shared → Prop}
    (KX : (KH w.params).In s₁.heap) (T : Top p loose mean mg mb s₁.heap) (hmg : mg "law" = some (.ref fa)) (hg : s₁.gens = #[]) (hL : s₁.heap.IsList sl vs.toArray) (hI : IntsAre vs ns) (hz : ¬ (63 : Int) < ns.length)
    (h : ∀ s', s'.os = s₁.os → OldK s₁.heap s'.heap → AllBare s'.gens → R (.ok (.ret (.bool true))) s') :
    codeAny (model prog w) callerA (.call (.ref fa) ⟨[.ref sl], []⟩) R s₁ := by
  have X := in_tail KX
  have e8 : s₁.heap.get? 823 = some (tabO #[]) := KX 823 o823 rfl
  have ef : fa = 1038 := Value.ref.inj (Option.some.inj (hmg.symm.trans (mg_of X T.g (lawAt _))))
  subst ef
  have up : ∀ a o, a ≠ 823 → s₁.heap.get? a = some o → (hideAll s₁.heap [823]).get? a = some o := fun a o n e => hideAll_get _ e (fun hm => n (List.mem_singleton.mp hm))
  have n8 : ∀ o, (K w.params).lookup 823 = some o → False := fun o e => by rw [noTab] at e; cases e
  have G : Gd w p loose mg mb (hideAll s₁.heap [823]) :=
    ⟨fun a o e => up a o (fun ea => n8 o (ea ▸ e)) (X a o e),
     ⟨T.g.at' fun o e => up _ o (by decide) e, T.b.at' fun o e => up _ o (by decide) e, (let ⟨mc, h1, h2⟩ := T.nolimit; ⟨mc, h1.at' fun o e => up _ o (by decide) e, h2⟩), T.builtins, T.free⟩⟩
  have sl8 : sl ≠ 823 := fun e => by
    obtain ⟨o, h1, h2, _⟩ := hL
    rw [e, e8] at h1
    rw [← Option.some.inj h1] at h2
    cases h2
  refine law_whole (b := hideAll s₁.heap [823]) (pt := #[]) rfl (by decide) trivial ?_ hI (by omega) ⟨G, fun a o e => of_hideAll _ e, fun q hq => ?_⟩ (by decide) ?_
  · obtain ⟨o, h1, h2⟩ := hL
    exact ⟨o, up _ _ sl8 h1, h2⟩
  · rw [List.mem_singleton.mp hq]
    exact ⟨e8, hideAll_none _ (List.mem_singleton.mpr rfl)⟩
  · intro h' tk gs more hb hk ht
    obtain ⟨oc, cs, c1, c2, c3, c4⟩ := tabHolder w.params
    have t₀ : s₁.heap.TableAt 825 823 #[] := ⟨⟨oc, cs, X _ _ c1, c2, c3, c4⟩, e8⟩
    refine h _ rfl ?_ (hb (hg ▸ AllBare.of_eq rfl))
    exact (OldK.of_keep fun _ _ e => e).step_table t₀ t₀ ⟨⟨oc, cs, hk _ _ (by decide) (X _ _ c1), c2, c3, c4⟩, ht⟩ (fun b o n e => hk b o n e) (by decide)
theorem law_good {s₀ s₁ s' : Shared} {ns : List Int} (hos : s'.os = s₁.os) (hK : OldK s₁.heap s'.heap) (hG : AllBare s'.gens) :
    GoodWG PySem.Challenge.rw_ae5016_01.row.claim (classAt s₀.heap) (ExcName.means s₀.heap) [ofPy (PyData.list (List.map PyData.int ns))] s₁ (.ok (.ret (.bool true))) s' :=
  ⟨.inl ⟨.bool true, .bool true, [], rfl, fun _ => rfl, .bool true, postW_of (by wrow_shape) (by wtm_val) (by first | rfl | (str_meet; done)), fun _ => ⟨List.nodup_nil, fun _ h => absurd h List.not_mem_nil⟩⟩, hK, hos, hG⟩
end Mine
theorem Mine.top.tw4002441696211005659 : True := True.intro
theorem Mine.top.tw7830913209206220567 : True := True.intro
theorem Mine.top.tw13500427573557490136 : True := True.intro
theorem Mine.top.tw8529706226740600733 : True := True.intro
theorem Mine.top.tw8372035913837991250 : True := True.intro
theorem Mine.top.tw9332579688445097367 : True := True.intro
theorem Mine.top.tw2822501910515967889 : True := True.intro
theorem Mine.top.tw5088376156974544275 : True := True.intro
theorem Mine.top.tw3254097082911018636 : True := True.intro
theorem Mine.top.tw9259421805112917234 : True := True.intro
theorem Mine.top.tw4671429814451907529 : True := True.intro
theorem Mine.top.tw12318557346453588183 : True := True.intro
theorem Mine.top.tw5536038536531405202 : True := True.intro
theorem Mine.top.tw3561193834555079511 : True := True.intro
theorem Mine.top.tw3033006917804047512 : True := True.intro
theorem Mine.top.tw14214845130331304391 : True := True.intro
theorem Mine.top.tw15740948416001004644 : True := True.intro
theorem Mine.top.tw11377482038585738817 : True := True.intro
theorem Mine.top.tw2988451766255067171 : True := True.intro
theorem Mine.top.tw405421117753717134 : True := True.intro
theorem Mine.top.tw12376051458212225564 : True := True.intro
theorem Mine.top.tw16258771989139608452 : True := True.intro
theorem Mine.top.tw15240379268576122478 : True := True.intro
theorem Mine.top.tw6459276657848829223 : True := True.intro
theorem Mine.top.tw2422214840401454511 : True := True.intro
theorem Mine.top.tw14319750081657075607 : True := True.intro
theorem Mine.top.tw14399976873020721970 : True := True.intro
theorem Mine.top.tw10617020205504526918 : True := True.intro
theorem Mine.top.tw9743097575036673082 : True := True.intro
theorem Mine.top.tw16674975167109581930 : True := True.intro
theorem Mine.top.tw9835852885743449411 : True := True.intro
theorem Mine.top.tw12762922103008790111 : True := True.intro
theorem Mine.top.tw13326734554550294991 : True := True.intro
theorem Mine.top.tw3473093325804163894 : True := True.intro
theorem Mine.top.tw17470836177267949868 : True := True.intro
theorem Mine.top.tw17346259052997144950 : True := True.intro
theorem Mine.top.tw8321918168302905379 : True := True.intro
theorem Mine.top.tw13501252493785611398 : True := True.intro
theorem Mine.top.tw2686433634493928565 : True := True.intro
theorem Mine.top.tw3715792687998586317 : True := True.intro
theorem Mine.top.tw9962302188120564619 : True := True.intro
theorem Mine.top.tw16166457384891526456 : True := True.intro
theorem Mine.top.tw6619077023068780702 : True := True.intro
theorem Mine.top.tw3901323768455840569 : True := True.intro
theorem Mine.top.tw13370750898655102155 : True := True.intro
theorem Mine.top.tw13385996262653078937 : True := True.intro
theorem Mine.top.tw15286249088069653756 : True := True.intro
theorem Mine.top.tw11470690223818410786 : True := True.intro
theorem Mine.top.tw17103585973383926153 : True := True.intro
theorem Mine.top.tw2502181453436431679 : True := True.intro
theorem Mine.top.tw11173010173815179391 : True := True.intro
theorem Mine.top.tw4269943819458244956 : True := True.intro
theorem Mine.top.tw1754339480302792767 : True := True.intro
theorem Mine.top.tw18085771088847121727 : True := True.intro
theorem Mine.top.tw7855079511596107753 : True := True.intro
theorem Mine.top.tw9631074621892390191 : True := True.intro
theorem Mine.top.tw443688265066261825 : True := True.intro
theorem Mine.top.tw9908339238214195531 : True := True.intro
theorem Mine.top.tw6662652255960138227 : True := True.intro
theorem Mine.top.tw17586783052614405119 : True := True.intro
theorem Mine.top.tw5078243831526850631 : True := True.intro
theorem Mine.top.tw18394268562011335289 : True := True.intro
theorem Mine.top.tw9843447840031818808 : True := True.intro
theorem Mine.top.tw3603051052118289896 : True := True.intro
theorem Mine.top.tw6211089042160764376 : True := True.intro
theorem Mine.top.tw146815374380898660 : True := True.intro
theorem Mine.top.tw15360274220829721888 : True := True.intro
theorem Mine.top.tw17795014544551873601 : True := True.intro
theorem Mine.top.tw2731995056826638727 : True := True.intro
theorem Mine.top.tw3087888393795971977 : True := True.intro
theorem Mine.top.tw18236624570336363585 : True := True.intro
theorem Mine.top.tw3874152929960365753 : True := True.intro
theorem Mine.top.tw7702549930194098719 : True := True.intro
theorem Mine.top.tw13706816188851595723 : True := True.intro
theorem Mine.top.tw15438179002428589006 : True := True.intro
theorem Mine.top.tw12443789822770055382 : True := True.intro
theorem Mine.top.tw16753658254399821694 : True := True.intro
theorem Mine.top.tw3422688185749166683 : True := True.intro
theorem Mine.top.tw18201758440048473509 : True := True.intro
theorem Mine.top.tw9682687983338836895 : True := True.intro
theorem Mine.top.tw14762295962024373759 : True := True.intro
theorem Mine.top.tw12894197372075662830 : True := True.intro
theorem Mine.top.tw1169771345039838236 : True := True.intro
theorem Mine.top.tw8628236747792435071 : True := True.intro
theorem Mine.top.tw2529601377429677153 : True := True.intro
theorem Mine.top.tw17258124492514966302 : True := True.intro
theorem Mine.top.tw9759319705405543751 : True := True.intro
theorem Mine.top.tw14502225709538309166 : True := True.intro
theorem Mine.top.tw11240886729373846589 : True := True.intro
theorem Mine.top.tw10328360990557673835 : True := True.intro
theorem Mine.top.tw9776112803966576748 : True := True.intro
theorem Mine.top.tw672699306608606093 : True := True.intro
theorem Mine.top.tw16739174306508632950 : True := True.intro
theorem Mine.top.tw16533540343700365917 : True := True.intro
theorem Mine.top.tw6431110157172167083 : True := True.intro
theorem Mine.top.tw11423202765487971197 : True := True.intro
theorem Mine.top.tw7557910624720293991 : True := True.intro
theorem Mine.top.tw1990408344712342385 : True := True.intro
theorem Mine.top.tw16128028805679967097 : True := True.intro
theorem Mine.top.tw10801874191123338550 : True := True.intro
theorem Mine.top.tw16770000883354449096 : True := True.intro
theorem Mine.top.tw5868845118606482295 : True := True.intro
theorem Mine.top.tw14751435942891637570 : True := True.intro
theorem Mine.top.tw9486757043174368735 : True := True.intro
theorem Mine.top.tw2248615004971204189 : True := True.intro
theorem Mine.top.tw3843465024185675410 : True := True.intro
theorem Mine.top.tw1137235612907882162 : True := True.intro
theorem Mine.top.tw2741389259953327712 : True := True.intro
theorem Mine.top.tw2581206410525282061 : True := True.intro
theorem Mine.top.tw1584292188352093569 : True := True.intro
theorem Mine.top.tw995497684801637723 : True := True.intro
theorem Mine.top.tw682014064893787789 : True := True.intro
theorem Mine.top.tw13922054642007902626 : True := True.intro
theorem Mine.top.tw6460121766331871944 : True := True.intro
theorem Mine.top.tw216529984938456764 : True := True.intro
theorem Mine.top.tw681777741448182936 : True := True.intro
theorem Mine.top.tw9694206877528517478 : True := True.intro
theorem Mine.top.tw9666326922614434849 : True := True.intro
theorem Mine.top.tw1717825165581474212 : True := True.intro
theorem Mine.top.tw2544169868661182894 : True := True.intro
theorem Mine.top.tw17033825039287860005 : True := True.intro
theorem Mine.top.tw11334350811105764591 : True := True.intro
theorem Mine.top.tw3315250197877816394 : True := True.intro
theorem Mine.top.tw12094960947251128927 : True := True.intro
theorem Mine.top.tw47109162367338493 : True := True.intro
theorem Mine.top.tw9366391650621772374 : True := True.intro
theorem Mine.top.tw13762209637798829341 : True := True.intro
theorem Mine.top.tw11520865232209809239 : True := True.intro
theorem Mine.top.tw16866024460163772082 : True := True.intro
theorem Mine.top.tw8297286125493194097 : True := True.intro
theorem Mine.top.tw3061314461118691792 : True := True.intro
theorem Mine.top.tw5568030912866071158 : True := True.intro
theorem Mine.top.tw7892811243723596987 : True := True.intro
theorem Mine.top.tw2220570432770164149 : True := True.intro
theorem Mine.top.tw16352630495959832749 : True := True.intro
theorem Mine.top.tw3479634599624807885 : True := True.intro
theorem Mine.top.tw2737145857125637188 : True := True.intro
theorem Mine.top.tw13261893007816960818 : True := True.intro
theorem Mine.top.tw1007256952997204316 : True := True.intro
theorem Mine.top.tw17176153746220573435 : True := True.intro
theorem Mine.top.tw10001883323181062329 : True := True.intro
theorem Mine.top.tw16273406610938067001 : True := True.intro
theorem Mine.top.tw650146959520709813 : True := True.intro
theorem Mine.top.tw9990226795618131978 : True := True.intro
theorem Mine.top.tw15262977503361262276 : True := True.intro
theorem Mine.top.tw2630061898475652689 : True := True.intro
theorem Mine.top.tw15092371282622821202 : True := True.intro
theorem Mine.top.tw14042817526060737062 : True := True.intro
theorem Mine.top.tw5571243529121415630 : True := True.intro
theorem Mine.top.tw13759081321499198575 : True := True.intro
theorem Mine.top.tw6292954644110606532 : True := True.intro
theorem Mine.top.tw12193372218175167114 : True := True.intro
theorem Mine.top.tw479018264907363369 : True := True.intro
theorem Mine.top.tw6383614241601562808 : True := True.intro
theorem Mine.top.tw9635476784945057844 : True := True.intro
theorem Mine.top.tw661290744650703789 : True := True.intro
theorem Mine.top.tw3796891538752321733 : True := True.intro
theorem Mine.top.tw2907113945770861938 : True := True.intro
theorem Mine.top.tw12157284967251751451 : True := True.intro
theorem Mine.top.tw3644161924160858147 : True := True.intro
theorem Mine.top.tw7737320934136571279 : True := True.intro
theorem Mine.top.tw12841572728458906558 : True := True.intro
theorem Mine.top.tw1601500998369573665 : True := True.intro
theorem Mine.top.tw516228168201391017 : True := True.intro
theorem Mine.top.tw18245740138792012028 : True := True.intro
theorem Mine.top.tw12960919825447276754 : True := True.intro
theorem Mine.top.tw8069049012094873728 : True := True.intro
theorem Mine.top.tw5590232498371695878 : True := True.intro
theorem Mine.top.tw3846862658102513837 : True := True.intro
theorem Mine.top.tw7280543176740627685 : True := True.intro
theorem Mine.top.tw16663787254893796032 : True := True.intro
theorem Mine.top.tw12777601194060584777 : True := True.intro
theorem Mine.top.tw8566151710794823266 : True := True.intro
theorem Mine.top.tw2972514686349903234 : True := True.intro
theorem Mine.top.tw14771320824794740959 : True := True.intro
theorem Mine.top.tw1047907039808853306 : True := True.intro
theorem Mine.top.tw11762496359356365647 : True := True.intro
theorem Mine.top.tw620129878449983639 : True := True.intro
theorem Mine.top.tw8107780213005350392 : True := True.intro
theorem Mine.top.tw11145643937294416527 : True := True.intro
theorem Mine.top.tw9059672392935016618 : True := True.intro
theorem Mine.top.tw12033610942823940228 : True := True.intro
theorem Mine.top.tw2924597203103170677 : True := True.intro
theorem Mine.top.tw3207569582813703071 : True := True.intro
theorem Mine.top.tw1368107221856924347 : True := True.intro
theorem Mine.top.tw3261557481417251176 : True := True.intro
theorem Mine.top.tw10596656941412748465 : True := True.intro
theorem Mine.top.tw381845443943030031 : True := True.intro
theorem Mine.top.tw9777375502002234229 : True := True.intro
theorem Mine.top.tw14120148312427719287 : True := True.intro
theorem Mine.top.tw18164388396756303480 : True := True.intro
theorem Mine.top.tw10915162052029792233 : True := True.intro
theorem Mine.top.tw7188692134583612594 : True := True.intro
theorem Mine.top.tw17103177528636943170 : True := True.intro
theorem Mine.top.tw12819366960792805191 : True := True.intro
theorem Mine.top.tw5240389563564037448 : True := True.intro
theorem Mine.top.tw668136137496459709 : True := True.intro
theorem Mine.top.tw13178059906610389163 : True := True.intro
theorem Mine.top.tw8376602336982375544 : True := True.intro
theorem Mine.top.tw9229161468869434483 : True := True.intro
theorem Mine.top.tw1291508964198565346 : True := True.intro
theorem Mine.top.tw4597200072644226624 : True := True.intro
theorem Mine.top.tw10774637447528242797 : True := True.intro
theorem Mine.top.tw9287724387753133302 : True := True.intro
theorem Mine.top.tw15073315481182737699 : True := True.intro
theorem Mine.top.tw5225153198818245361 : True := True.intro
theorem Mine.top.tw6520327441239513222 : True := True.intro
theorem Mine.top.tw4586369020291528013 : True := True.intro
theorem Mine.top.tw7817637940432870852 : True := True.intro
theorem Mine.top.tw8170299122808406783 : True := True.intro
theorem Mine.top.tw12625694945159114441 : True := True.intro
theorem Mine.top.tw16196420915677631385 : True := True.intro
theorem Mine.top.tw15361541807878343388 : True := True.intro
theorem Mine.top.tw2405475915293451298 : True := True.intro
theorem Mine.top.tw2601905985415302144 : True := True.intro
theorem Mine.top.tw13896958669275611876 : True := True.intro
theorem Mine.top.tw17565814175750979855 : True := True.intro
theorem Mine.top.tw14466935161476858967 : True := True.intro
theorem Mine.top.tw7108139096449030536 : True := True.intro
theorem Mine.top.tw7908083297732987344 : True := True.intro
theorem Mine.top.tw11961350612320602522 : True := True.intro
theorem Mine.top.tw4571971715460732019 : True := True.intro
theorem Mine.top.tw3712731000106771831 : True := True.intro
theorem Mine.top.tw350670483859837877 : True := True.intro
theorem Mine.top.tw99440450732166138 : True := True.intro
theorem Mine.top.tw7386116660499605909 : True := True.intro
theorem Mine.top.tw15277652076535365695 : True := True.intro
theorem Mine.top.tw12559286593441436923 : True := True.intro
theorem Mine.top.tw9326722878772556681 : True := True.intro
theorem Mine.top.tw6345181382737326586 : True := True.intro
theorem Mine.top.tw4321519831107876412 : True := True.intro
theorem Mine.top.tw16550210197400561554 : True := True.intro
theorem Mine.top.tw16659674399394625376 : True := True.intro
theorem Mine.top.tw9684699057600944294 : True := True.intro
theorem Mine.top.tw3548060758652744671 : True := True.intro
theorem Mine.top.tw17788931634197215145 : True := True.intro
theorem Mine.top.tw372964977893139469 : True := True.intro
theorem Mine.top.tw9195894827357321740 : True := True.intro
theorem Mine.top.tw9622763587122877835 : True := True.intro
theorem Mine.top.tw6930518751129746686 : True := True.intro
theorem Mine.top.tw4501217679856968648 : True := True.intro
theorem Mine.top.tw8472579005086612782 : True := True.intro
theorem Mine.top.tw11443710868159068359 : True := True.intro
theorem Mine.top.tw2685012915969955173 : True := True.intro
theorem Mine.top.tw15330153412207162294 : True := True.intro
theorem Mine.top.tw13915387964903991752 : True := True.intro
theorem Mine.top.tw8817415213059835157 : True := True.intro
theorem Mine.top.tw6042063481754889096 : True := True.intro
theorem Mine.top.tw12540527436937284434 : True := True.intro
theorem Mine.top.tw6265701101103706036 : True := True.intro
theorem Mine.top.tw9149571693438533347 : True := True.intro
theorem Mine.top.tw6468107147075657394 : True := True.intro
theorem Mine.top.tw4159251561096739476 : True := True.intro
theorem Mine.top.tw6912233166142098652 : True := True.intro
theorem Mine.top.tw14705559076539443318 : True := True.intro
theorem Mine.top.tw5244899138074338376 : True := True.intro
theorem Mine.top.tw15985961358823992270 : True := True.intro
theorem Mine.top.tw17469865338272021226 : True := True.intro
theorem Mine.top.tw7358114872323791358 : True := True.intro
theorem Mine.top.tw3378803678994701225 : True := True.intro
theorem Mine.top.tw15743347864482560488 : True := True.intro
theorem Mine.top.tw9487724021038755048 : True := True.intro
theorem Mine.top.tw4010397242664982755 : True := True.intro
theorem Mine.top.tw4566856676736034171 : True := True.intro
theorem Mine.top.tw15873491276070852124 : True := True.intro
theorem Mine.top.tw14459580976405569124 : True := True.intro
theorem Mine.top.tw16441578918305252802 : True := True.intro
theorem Mine.top.tw17355269125676882429 : True := True.intro
theorem Mine.top.tw11593399256984752444 : True := True.intro
theorem Mine.top.tw339143206060000330 : True := True.intro
theorem Mine.top.tw7675417749720738473 : True := True.intro
theorem Mine.top.tw65929781887070819 : True := True.intro
theorem Mine.top.tw10783980745131425670 : True := True.intro
theorem Mine.top.tw15755962551988530747 : True := True.intro
theorem Mine.top.tw9503340733035011235 : True := True.intro
theorem Mine.top.tw2722852734226103192 : True := True.intro
theorem Mine.top.tw1123975283337734383 : True := True.intro
theorem Mine.top.tw6240597372359344220 : True := True.intro
theorem Mine.top.tw6287420888163001789 : True := True.intro
theorem Mine.top.tw14114763150826241340 : True := True.intro
theorem Mine.top.tw7297446738713254254 : True := True.intro
theorem Mine.top.tw15823732540823425666 : True := True.intro
theorem Mine.top.tw13820912127525551613 : True := True.intro
theorem Mine.top.tw2985252069258134486 : True := True.intro
theorem Mine.top.tw17735899436944072409 : True := True.intro
theorem Mine.top.tw1655259298481077034 : True := True.intro
theorem Mine.top.tw9919435345466941130 : True := True.intro
theorem Mine.top.tw17545328352263074274 : True := True.intro
theorem Mine.top.tw2968346561183084112 : True := True.intro
theorem Mine.top.tw15516308363225789855 : True := True.intro
theorem Mine.top.tw12783364522390391256 : True := True.intro
theorem Mine.top.tw9075757514644619006 : True := True.intro
theorem Mine.top.tw12622177474791663080 : True := True.intro
theorem Mine.top.tw7436774141650363327 : True := True.intro
theorem Mine.top.tw956942650209027819 : True := True.intro
theorem Mine.top.tw16809779246217341487 : True := True.intro
theorem Mine.top.tw16174758807025615021 : True := True.intro
theorem Mine.top.tw11735923915801401282 : True := True.intro
theorem Mine.top.tw2619622883677149074 : True := True.intro
theorem Mine.top.tw5235370132326077648 : True := True.intro
theorem Mine.top.tw17555251805378815213 : True := True.intro
theorem Mine.top.tw5983031951866500094 : True := True.intro
theorem Mine.top.tw3331421620988305804 : True := True.intro
theorem Mine.top.tw9833397302626899308 : True := True.intro
theorem Mine.top.tw15506382734810221985 : True := True.intro
theorem Mine.top.tw8237333600419904120 : True := True.intro
theorem Mine.top.tw987869383939708018 : True := True.intro
theorem Mine.top.tw6898770573198911631 : True := True.intro
theorem Mine.top.tw5728218623943512802 : True := True.intro
theorem Mine.top.tw13303987763403120937 : True := True.intro
theorem Mine.top.tw1814787853859245837 : True := True.intro
theorem Mine.top.tw8054331753737935190 : True := True.intro
theorem Mine.top.tw12521587561680038787 : True := True.intro
theorem Mine.top.tw17089494485692210459 : True := True.intro
theorem Mine.top.tw17785818512168800811 : True := True.intro
theorem Mine.top.tw16007503158450755388 : True := True.intro
theorem Mine.top.tw3347922821702440152 : True := True.intro
theorem Mine.top.tw8823455108540655025 : True := True.intro
theorem Mine.top.tw953821971998124167 : True := True.intro
theorem Mine.top.tw13990698242589431971 : True := True.intro
theorem Mine.top.tw2683898200743741643 : True := True.intro
theorem Mine.top.tw14166325574356235509 : True := True.intro
theorem Mine.top.tw7230903212357928904 : True := True.intro
theorem Mine.top.tw15687709949711836451 : True := True.intro
theorem Mine.top.tw6381231289166406305 : True := True.intro
theorem Mine.top.tw16262243036561855896 : True := True.intro
theorem Mine.top.tw10577272966987657301 : True := True.intro
theorem Mine.top.tw705360758644809490 : True := True.intro
theorem Mine.top.tw2170277104671012619 : True := True.intro
theorem Mine.top.tw17009415399725018624 : True := True.intro
theorem Mine.top.tw18016941796951652274 : True := True.intro
theorem Mine.top.tw8720027088463671890 : True := True.intro
theorem Mine.top.tw15095372191486117680 : True := True.intro
theorem Mine.top.tw6664487174759623829 : True := True.intro
theorem Mine.top.tw2047080938173012442 : True := True.intro
theorem Mine.top.tw17576949682797635024 : True := True.intro
theorem Mine.top.tw1551491737661789689 : True := True.intro
theorem Mine.top.tw13090165191389475591 : True := True.intro
theorem Mine.top.tw11093206078495630212 : True := True.intro
theorem Mine.top.tw14996135249977892343 : True := True.intro
theorem Mine.top.tw7671549972530922468 : True := True.intro
theorem Mine.top.tw3474246075231452896 : True := True.intro
theorem Mine.top.tw4951766788466123468 : True := True.intro
theorem Mine.top.tw9111341701214203307 : True := True.intro
theorem Mine.top.tw3695669965767098725 : True := True.intro
theorem Mine.top.tw8722410040271553984 : True := True.intro
theorem Mine.top.tw3664424711883983056 : True := True.intro
theorem Mine.top.tw4181406029030974548 : True := True.intro
theorem Mine.top.tw9305691244287143441 : True := True.intro
theorem Mine.top.tw6203543418390704334 : True := True.intro
theorem Mine.top.tw46980244435833615 : True := True.intro
theorem Mine.top.tw7522852383072776753 : True := True.intro
theorem Mine.top.tw9227057690007400460 : True := True.intro
theorem Mine.top.tw3698484244233388692 : True := True.intro
theorem Mine.top.tw14390669486469195807 : True := True.intro
theorem Mine.top.tw11828478481110319688 : True := True.intro
theorem Mine.top.tw12718909917080609646 : True := True.intro
theorem Mine.top.tw1676862907878916244 : True := True.intro
theorem Mine.top.tw16982378080980825192 : True := True.intro
theorem Mine.top.tw5938710623178642122 : True := True.intro
theorem Mine.top.tw6185767955086497853 : True := True.intro
theorem Mine.top.tw304654302220672320 : True := True.intro
theorem Mine.top.tw8410488445778877200 : True := True.intro
theorem Mine.top.tw10892192912376451201 : True := True.intro
theorem Mine.top.tw17566744294597663674 : True := True.intro
theorem Mine.top.tw3704924817259034979 : True := True.intro
theorem Mine.top.tw16615598289260009181 : True := True.intro
theorem Mine.top.tw2307138979858485370 : True := True.intro
theorem Mine.top.tw4131498621145694574 : True := True.intro
theorem Mine.top.tw5290597957214086601 : True := True.intro
theorem Mine.top.tw4076138812419527698 : True := True.intro
theorem Mine.top.tw12031303853943761323 : True := True.intro
theorem Mine.top.tw10864713392326063847 : True := True.intro
theorem Mine.top.tw7079599612431449588 : True := True.intro
theorem Mine.top.tw6487610083215253720 : True := True.intro
theorem Mine.top.tw16713831800681072344 : True := True.intro
theorem Mine.top.tw15245507539482535896 : True := True.intro
theorem Mine.top.tw8013090884974467112 : True := True.intro
theorem Mine.top.tw4827538265410502810 : True := True.intro
theorem Mine.top.tw10008474027749305400 : True := True.intro
theorem Mine.top.tw2926424126403749041 : True := True.intro
theorem Mine.top.tw14724332232928298890 : True := True.intro
theorem Mine.top.tw11803689641445798100 : True := True.intro
theorem Mine.top.tw2424727229257130912 : True := True.intro
theorem Mine.top.tw17085176360113175178 : True := True.intro
theorem Mine.top.tw14747140909534839006 : True := True.intro
theorem Mine.top.tw1297684725254868899 : True := True.intro
theorem Mine.top.tw427269002284569659 : True := True.intro
theorem Mine.top.tw16525863338940772298 : True := True.intro
theorem Mine.top.tw3486219094355674750 : True := True.intro
theorem Mine.top.tw17781115878593249900 : True := True.intro
theorem Mine.top.tw1706793611546318481 : True := True.intro
theorem Mine.top.tw12734148187753135964 : True := True.intro
theorem Mine.top.tw6973401727384321114 : True := True.intro
theorem Mine.top.tw4498253355057717688 : True := True.intro
theorem Mine.top.tw5535988348211436712 : True := True.intro
theorem Mine.top.tw11153979150802330146 : True := True.intro
theorem Mine.top.tw16878204669230926818 : True := True.intro
theorem Mine.top.tw13852830345959847167 : True := True.intro
theorem Mine.top.tw462939625794472801 : True := True.intro
theorem Mine.top.tw870079450109401425 : True := True.intro
theorem Mine.top.tw16123964013534891561 : True := True.intro
theorem Mine.top.tw15166127791298437107 : True := True.intro
theorem Mine.top.tw283044589724301 : True := True.intro
theorem Mine.top.tw6786057226368545225 : True := True.intro
theorem Mine.top.tw1638113669730673903 : True := True.intro
theorem Mine.top.tw14235281626263879747 : True := True.intro
theorem Mine.top.tw1559226430018442191 : True := True.intro
theorem Mine.top.tw14428541309147478210 : True := True.intro
theorem Mine.top.tw15996449679401966620 : True := True.intro
theorem Mine.top.tw3657543652526465285 : True := True.intro
theorem Mine.top.tw16800595933775061595 : True := True.intro
theorem Mine.top.tw6124053682588569230 : True := True.intro
theorem Mine.top.tw3389129807090800087 : True := True.intro
theorem Mine.top.tw2249405535684624136 : True := True.intro
theorem Mine.top.tw11840804652615492782 : True := True.intro
theorem Mine.top.tw5702910450625016506 : True := True.intro
theorem Mine.top.tw6065713072024180384 : True := True.intro
theorem Mine.top.tw8523463495250067690 : True := True.intro
theorem Mine.top.tw1186331607622873149 : True := True.intro
theorem Mine.top.tw2007660962349395123 : True := True.intro
theorem Mine.top.tw17794366733547915435 : True := True.intro
theorem Mine.top.tw1483126911874232274 : True := True.intro
theorem Mine.top.tw9854310039474760501 : True := True.intro
theorem Mine.top.tw6276886402236213621 : True := True.intro
theorem Mine.top.tw6883741973766446791 : True := True.intro
theorem Mine.top.tw9930815651645962114 : True := True.intro
theorem Mine.top.tw15169761463676818070 : True := True.intro
theorem Mine.top.tw17683472795295644477 : True := True.intro
theorem Mine.top.tw16509065781470453940 : True := True.intro
theorem Mine.top.tw17964300760807480141 : True := True.intro
theorem Mine.top.tw2312856594315299383 : True := True.intro
theorem Mine.top.tw14402358008270493973 : True := True.intro
theorem Mine.top.tw17046948494117081484 : True := True.intro
theorem Mine.top.tw4885547446624616799 : True := True.intro
theorem Mine.top.tw10548783162686979305 : True := True.intro
theorem Mine.top.tw4111001743050654279 : True := True.intro
theorem Mine.top.tw5609151216138764652 : True := True.intro
theorem Mine.top.tw2700199365505918788 : True := True.intro
theorem Mine.top.tw17395277212465857529 : True := True.intro
theorem Mine.top.tw1054488965285714247 : True := True.intro
theorem Mine.top.tw1970226141267450039 : True := True.intro
theorem Mine.top.tw10836530967397901330 : True := True.intro
theorem Mine.top.tw7215319984434753242 : True := True.intro
theorem Mine.top.tw2104741419117168686 : True := True.intro
theorem Mine.top.tw8679839319945467846 : True := True.intro
theorem Mine.top.tw314455870634268127 : True := True.intro
theorem Mine.top.tw2446586112883488508 : True := True.intro
theorem Mine.top.tw7990429038631628895 : True := True.intro
theorem Mine.top.tw6220391956798857122 : True := True.intro
theorem Mine.top.tw10577396366154187472 : True := True.intro
theorem Mine.top.tw4250876409542091131 : True := True.intro
theorem Mine.top.tw7847650389618582240 : True := True.intro
theorem Mine.top.tw2580922434103091657 : True := True.intro
theorem Mine.top.tw9442318146202087700 : True := True.intro
theorem Mine.top.tw8025738503920905074 : True := True.intro
theorem Mine.top.tw6908635100366463001 : True := True.intro
theorem Mine.top.tw13799840507378627052 : True := True.intro
theorem Mine.top.tw9589608677651300831 : True := True.intro
theorem Mine.top.tw5786237608948540331 : True := True.intro
theorem Mine.top.tw8393700709775954928 : True := True.intro
theorem Mine.top.tw12322150652039217950 : True := True.intro
theorem Mine.top.tw12725264436868645240 : True := True.intro
theorem Mine.top.tw6572447435987645144 : True := True.intro
theorem Mine.top.tw7538252964068480738 : True := True.intro
theorem Mine.top.tw81815255157605957 : True := True.intro
theorem Mine.top.tw7387763944681370771 : True := True.intro
theorem Mine.top.tw11141966352661209427 : True := True.intro
theorem Mine.top.tw16104615914030681952 : True := True.intro
theorem Mine.top.tw15877122091014420850 : True := True.intro
theorem Mine.top.tw6286779285267259847 : True := True.intro
theorem Mine.top.tw17337222044243258637 : True := True.intro
theorem Mine.top.tw7033079012710635876 : True := True.intro
theorem Mine.top.tw5938664839603501006 : True := True.intro
theorem Mine.top.tw10361075674979980167 : True := True.intro
theorem Mine.top.tw17474498911051797155 : True := True.intro
theorem Mine.top.tw9227541089923242437 : True := True.intro
theorem Mine.top.tw6916252892733821390 : True := True.intro
theorem Mine.top.tw4547018644641229820 : True := True.intro
theorem Mine.top.tw4058662728301269685 : True := True.intro
theorem Mine.top.tw2377541652452675900 : True := True.intro
theorem Mine.top.tw6699709698940308603 : True := True.intro
theorem Mine.top.tw16354691339474908690 : True := True.intro
theorem Mine.top.tw12483720753089274532 : True := True.intro
theorem Mine.top.tw10341860258655708415 : True := True.intro
theorem Mine.top.tw12564220515667953714 : True := True.intro
theorem Mine.top.tw16004416686337608138 : True := True.intro
theorem Mine.top.tw4468942710605802240 : True := True.intro
theorem Mine.top.tw4052878762203253943 : True := True.intro
theorem Mine.top.tw13629508380711501469 : True := True.intro
theorem Mine.top.tw2910609919460849807 : True := True.intro
theorem Mine.top.tw7325726471975496349 : True := True.intro
theorem Mine.top.tw6749217079512962374 : True := True.intro
theorem Mine.top.tw6187478851450931391 : True := True.intro
theorem Mine.top.tw9936536881743500907 : True := True.intro
theorem Mine.top.tw12012865196380796599 : True := True.intro
theorem Mine.top.tw5251713544086459897 : True := True.intro
theorem Mine.top.tw657111498738832265 : True := True.intro
theorem Mine.top.tw9165953624949470791 : True := True.intro
theorem Mine.top.tw679676368844127653 : True := True.intro
theorem Mine.top.tw8345894832289464959 : True := True.intro
theorem Mine.top.tw5444345374180229054 : True := True.intro
theorem Mine.top.tw6505410396798821541 : True := True.intro
theorem Mine.top.tw1617357707322924660 : True := True.intro
theorem Mine.top.tw16326585352142918636 : True := True.intro
theorem Mine.top.tw11384800866962632227 : True := True.intro
theorem Mine.top.tw8716659796364181309 : True := True.intro
theorem Mine.top.tw2867133514656366558 : True := True.intro
theorem Mine.top.tw9854493187847425173 : True := True.intro
theorem Mine.top.tw2665807947273092163 : True := True.intro
theorem Mine.top.tw1867163669062818997 : True := True.intro
theorem Mine.top.tw342308947776675178 : True := True.intro
theorem Mine.top.tw5196900775432865589 : True := True.intro
theorem Mine.top.tw3820434133910038737 : True := True.intro
theorem Mine.top.tw8922926602274725614 : True := True.intro
theorem Mine.top.tw11760055953109336660 : True := True.intro
theorem Mine.top.tw9358617607463016204 : True := True.intro
theorem Mine.top.tw14282377253939248939 : True := True.intro
theorem Mine.top.tw16736118626332596326 : True := True.intro
theorem Mine.top.tw4526881389914513428 : True := True.intro
theorem Mine.top.tw12931362102233154023 : True := True.intro
theorem Mine.top.tw17709558473723601244 : True := True.intro
theorem Mine.top.tw13987285891283452908 : True := True.intro
theorem Mine.top.tw9233715247699887402 : True := True.intro
theorem Mine.top.tw12342655685612074800 : True := True.intro
theorem Mine.top.tw18330144715369815205 : True := True.intro
theorem Mine.top.tw11053662475850362967 : True := True.intro
theorem Mine.top.tw14214649769353832295 : True := True.intro
theorem Mine.top.tw8779778587388263019 : True := True.intro
theorem Mine.top.tw11203750815551599093 : True := True.intro
theorem Mine.top.tw5692499903750754813 : True := True.intro
theorem Mine.top.tw14510474431719978317 : True := True.intro
theorem Mine.top.tw6503730183909636620 : True := True.intro
theorem Mine.top.tw8746941081350896204 : True := True.intro
theorem Mine.top.tw3484022092364678248 : True := True.intro
theorem Mine.top.tw9673933992889287130 : True := True.intro
theorem Mine.top.tw2758071753971750899 : True := True.intro
theorem Mine.top.tw5523086135645875356 : True := True.intro
theorem Mine.top.tw4205137553216949640 : True := True.intro
theorem Mine.top.tw9723989250521069032 : True := True.intro
theorem Mine.top.tw18177719399980262173 : True := True.intro
theorem Mine.top.tw17391775962083533515 : True := True.intro
theorem Mine.top.tw12218787953657430602 : True := True.intro
theorem Mine.top.tw9989051494896439582 : True := True.intro
theorem Mine.top.tw8500458220134822360 : True := True.intro
theorem Mine.top.tw12643491718579748851 : True := True.intro
theorem Mine.top.tw10936122117785486979 : True := True.intro
theorem Mine.top.tw16307090917165222298 : True := True.intro
theorem Mine.top.tw13983857475226248213 : True := True.intro
theorem Mine.top.tw8903290554218469011 : True := True.intro
theorem Mine.top.tw14810493832863049995 : True := True.intro
theorem Mine.top.tw16420938139371093754 : True := True.intro
theorem Mine.top.tw1697544655201012999 : True := True.intro
theorem Mine.top.tw12256363837256957063 : True := True.intro
theorem Mine.top.tw4023782888421380502 : True := True.intro
theorem Mine.top.tw832561496525075734 : True := True.intro
theorem Mine.top.tw12488038555639769405 : True := True.intro
theorem Mine.top.tw14372152842798730730 : True := True.intro
theorem Mine.top.tw11459358961799972967 : True := True.intro
theorem Mine.top.tw6448850889433096767 : True := True.intro
theorem Mine.top.tw8693662901424576113 : True := True.intro
theorem Mine.top.tw11889597043561437815 : True := True.intro
theorem Mine.top.tw6659320528611288953 : True := True.intro
theorem Mine.top.tw15503665604740900718 : True := True.intro
theorem Mine.top.tw5005317128667965579 : True := True.intro
theorem Mine.top.tw13307591127769906961 : True := True.intro
theorem Mine.top.tw5240762971458559404 : True := True.intro
theorem Mine.top.tw13068111086705522682 : True := True.intro
theorem Mine.top.tw15918733279669447828 : True := True.intro
theorem Mine.top.tw17774833976778514315 : True := True.intro
theorem Mine.top.tw2680655200719965100 : True := True.intro
theorem Mine.top.tw17157282023139344501 : True := True.intro
theorem Mine.top.tw12379415707883124570 : True := True.intro
theorem Mine.top.tw1522322319653140107 : True := True.intro
theorem Mine.top.tw4292522238394942308 : True := True.intro
theorem Mine.top.tw8235891563360409721 : True := True.intro
theorem Mine.top.tw8455645898260960030 : True := True.intro
theorem Mine.top.tw17226846203573267761 : True := True.intro
theorem Mine.top.tw13474863142627684814 : True := True.intro
theorem Mine.top.tw3995942328266245912 : True := True.intro
theorem Mine.top.tw7743179893348639699 : True := True.intro
theorem Mine.top.tw13710211086531791108 : True := True.intro
theorem Mine.top.tw8637452081102412489 : True := True.intro
theorem Mine.top.tw10773188271377071773 : True := True.intro
theorem Mine.top.tw3392894077380570524 : True := True.intro
theorem Mine.top.tw16414630628198896168 : True := True.intro
theorem Mine.top.tw4258143625173308034 : True := True.intro
theorem Mine.top.tw13432635357386499347 : True := True.intro
theorem Mine.top.tw7669972870368051581 : True := True.intro
theorem Mine.top.tw3002795768020413707 : True := True.intro
theorem Mine.top.tw2564807258711394888 : True := True.intro
theorem Mine.top.tw8150499350492408157 : True := True.intro
theorem Mine.top.tw14558130701515357843 : True := True.intro
theorem Mine.top.tw11561827921928013385 : True := True.intro
theorem Mine.top.tw7673058066778466091 : True := True.intro
theorem Mine.top.tw13012589842206080548 : True := True.intro
theorem Mine.top.tw13830271770371739309 : True := True.intro
theorem Mine.top.tw13576654369662418201 : True := True.intro
theorem Mine.top.tw13985988839938425345 : True := True.intro
theorem Mine.top.tw7414872774492366064 : True := True.intro
theorem Mine.top.tw12507017104952529904 : True := True.intro
theorem Mine.top.tw11592465598724292549 : True := True.intro
theorem Mine.top.tw3776753064480771068 : True := True.intro
theorem Mine.top.tw6333448901615975916 : True := True.intro
theorem Mine.top.tw13223034962123697568 : True := True.intro
theorem Mine.top.tw18404935858338921730 : True := True.intro
theorem Mine.top.tw1209819496270969543 : True := True.intro
theorem Mine.top.tw16994376123345812558 : True := True.intro
theorem Mine.top.tw4870201379501977574 : True := True.intro
theorem Mine.top.tw2727672472851901052 : True := True.intro
theorem Mine.top.tw53344730913325255 : True := True.intro
theorem Mine.top.tw4713442408853163898 : True := True.intro
theorem Mine.top.tw15271675978053873483 : True := True.intro
theorem Mine.top.tw9429129263215473398 : True := True.intro
theorem Mine.top.tw1112988674713690477 : True := True.intro
theorem Mine.top.tw4047667213573674445 : True := True.intro
theorem Mine.top.tw5790966258338625528 : True := True.intro
theorem Mine.top.tw427420600052151026 : True := True.intro
theorem Mine.top.tw13822267516522204269 : True := True.intro
theorem Mine.top.tw16345600495311464638 : True := True.intro
theorem Mine.top.tw5184316447030610940 : True := True.intro
theorem Mine.top.tw12385144161495827662 : True := True.intro
theorem Mine.top.tw7475746777092488413 : True := True.intro
theorem Mine.top.tw6900192571869012848 : True := True.intro
theorem Mine.top.tw5513142621748847562 : True := True.intro
theorem Mine.top.tw8507776931139520737 : True := True.intro
theorem Mine.top.tw3969286963782609292 : True := True.intro
theorem Mine.top.tw1585457916280141200 : True := True.intro
theorem Mine.top.tw14597223018079223185 : True := True.intro
theorem Mine.top.tw3855276242980373810 : True := True.intro
theorem Mine.top.tw10579768621468169598 : True := True.intro
theorem Mine.top.tw9806617501295524395 : True := True.intro
theorem Mine.top.tw1833847959688406909 : True := True.intro
theorem Mine.top.tw12317137736924338119 : True := True.intro
theorem Mine.top.tw1950521091445644615 : True := True.intro
theorem Mine.top.tw17576975557295073227 : True := True.intro
theorem Mine.top.tw4656485037274611717 : True := True.intro
theorem Mine.top.tw2417791160451022400 : True := True.intro
theorem Mine.top.tw2555065506035805374 : True := True.intro
theorem Mine.top.tw7761843605638006849 : True := True.intro
theorem Mine.top.tw7600245330811189008 : True := True.intro
theorem Mine.top.tw16068562728529669930 : True := True.intro
theorem Mine.top.tw17494340499879156831 : True := True.intro
theorem Mine.top.tw1068965626710143233 : True := True.intro
theorem Mine.top.tw2047500489365003465 : True := True.intro
theorem Mine.top.tw6933892841690572062 : True := True.intro
theorem Mine.top.tw1124271682379634556 : True := True.intro
theorem Mine.top.tw10558761922227201614 : True := True.intro
theorem Mine.top.tw16453443671601555132 : True := True.intro
theorem Mine.top.tw5398424786039705171 : True := True.intro
theorem Mine.top.tw4626048006780466326 : True := True.intro
theorem Mine.top.tw18134043772397237400 : True := True.intro
theorem Mine.top.tw8420165910927482534 : True := True.intro
theorem Mine.top.tw4555866861457887817 : True := True.intro
theorem Mine.top.tw8694864300669457046 : True := True.intro
theorem Mine.top.tw17253974145678602553 : True := True.intro
theorem Mine.top.tw1040915598704419856 : True := True.intro
theorem Mine.top.tw1880918794155911695 : True := True.intro
theorem Mine.top.tw10768140376307724812 : True := True.intro
theorem Mine.top.tw17366924284538989914 : True := True.intro
theorem Mine.top.tw2506305409684761478 : True := True.intro
theorem Mine.top.tw15638586536077026902 : True := True.intro
theorem Mine.top.tw11045010717311733409 : True := True.intro
theorem Mine.top.tw8735323631387419056 : True := True.intro
theorem Mine.top.tw6893477703608230032 : True := True.intro
theorem Mine.top.tw15451780782824253742 : True := True.intro
theorem Mine.top.tw4395346232132896567 : True := True.intro
theorem Mine.top.tw17377934564383891116 : True := True.intro
theorem Mine.top.tw1492452104121835379 : True := True.intro
theorem Mine.top.tw8374938949443298174 : True := True.intro
theorem Mine.top.tw9851269098105209369 : True := True.intro
theorem Mine.top.tw17542608870123051758 : True := True.intro
theorem Mine.top.tw5151264090131730833 : True := True.intro
theorem Mine.top.tw2896640688883821729 : True := True.intro
theorem Mine.top.tw8139039716903228087 : True := True.intro
theorem Mine.top.tw7458633546980236471 : True := True.intro
theorem Mine.top.tw13549259019975226677 : True := True.intro
theorem Mine.top.tw12904532413392791838 : True := True.intro
theorem Mine.top.tw9590619109379692515 : True := True.intro
theorem Mine.top.tw16821654228018055803 : True := True.intro
theorem Mine.top.tw2029088862249889922 : True := True.intro
theorem Mine.top.tw10317287140990440334 : True := True.intro
theorem Mine.top.tw6196800358849779857 : True := True.intro
theorem Mine.top.tw439095664309466517 : True := True.intro
theorem Mine.top.tw3976154599441133093 : True := True.intro
theorem Mine.top.tw492879137614061493 : True := True.intro
theorem Mine.top.tw1142415686869020238 : True := True.intro
theorem Mine.top.tw231919175587332662 : True := True.intro
theorem Mine.top.tw9908739903337578654 : True := True.intro
theorem Mine.top.tw16342770487823414484 : True := True.intro
theorem Mine.top.tw17595191090738125544 : True := True.intro
theorem Mine.top.tw7847352863974893604 : True := True.intro
theorem Mine.top.tw887695700811335699 : True := True.intro
theorem Mine.top.tw1516213087968936877 : True := True.intro
theorem Mine.top.tw9361663168868926718 : True := True.intro
theorem Mine.top.tw4186445540838780016 : True := True.intro
theorem Mine.top.tw84136930442132756 : True := True.intro
theorem Mine.top.tw12554540806306477360 : True := True.intro
theorem Mine.top.tw3696473221133414273 : True := True.intro
theorem Mine.top.tw2365566498512967660 : True := True.intro
theorem Mine.top.tw1670607248958778201 : True := True.intro
theorem Mine.top.tw7204998973626084599 : True := True.intro
theorem Mine.top.tw15242500199121756853 : True := True.intro
theorem Mine.top.tw17810072253543177317 : True := True.intro
theorem Mine.top.tw5581607755468803823 : True := True.intro
theorem Mine.top.tw4736427724481360342 : True := True.intro
theorem Mine.top.tw6906291655842520137 : True := True.intro
theorem Mine.top.tw16793365374058956912 : True := True.intro
theorem Mine.top.tw4778504736273101941 : True := True.intro
theorem Mine.top.tw3217022616335106338 : True := True.intro
theorem Mine.top.tw17444329988762607307 : True := True.intro
theorem Mine.top.tw5648408011753718230 : True := True.intro
theorem Mine.top.tw401921906979044612 : True := True.intro
theorem Mine.top.tw378458367893578143 : True := True.intro
theorem Mine.top.tw18062624165398249997 : True := True.intro
theorem Mine.top.tw15690355392615275366 : True := True.intro
theorem Mine.top.tw55027467381167213 : True := True.intro
theorem Mine.top.tw11982747722937265360 : True := True.intro
theorem Mine.top.tw4791253341166991637 : True := True.intro
theorem Mine.top.tw16844067456194695469 : True := True.intro
theorem Mine.top.tw9685713192446186341 : True := True.intro
theorem Mine.top.tw17315540178315561739 : True := True.intro
theorem Mine.top.tw15212760480394562756 : True := True.intro
theorem Mine.top.tw10987319290404115282 : True := True.intro
theorem Mine.top.tw1886144042066472794 : True := True.intro
theorem Mine.top.tw11845233108574324481 : True := True.intro
theorem Mine.top.tw12415523145999629524 : True := True.intro
theorem Mine.top.tw5958459099580689026 : True := True.intro
theorem Mine.top.tw18185382058313985135 : True := True.intro
theorem Mine.top.tw2095105360761779985 : True := True.intro
theorem Mine.top.tw11584198869435930015 : True := True.intro
theorem Mine.top.tw10350142207108426684 : True := True.intro
theorem Mine.top.tw984902984118615328 : True := True.intro
theorem Mine.top.tw6885214360128481674 : True := True.intro
theorem Mine.top.tw6240723676877644813 : True := True.intro
theorem Mine.top.tw2103985501979894447 : True := True.intro
theorem Mine.top.tw2105017259488925948 : True := True.intro
theorem Mine.top.tw908825868028484722 : True := True.intro
theorem Mine.top.tw2685745773621513544 : True := True.intro
theorem Mine.top.tw9238823003894178615 : True := True.intro
theorem Mine.top.tw7059692629156357883 : True := True.intro
theorem Mine.top.tw10574840078274726829 : True := True.intro
theorem Mine.top.tw13305523845174962083 : True := True.intro
theorem Mine.top.tw2369445192022557226 : True := True.intro
theorem Mine.top.tw5507162329139097715 : True := True.intro
theorem Mine.top.tw3570499242123996262 : True := True.intro
theorem Mine.top.tw9590735534726013551 : True := True.intro
theorem Mine.top.tw6821124136996835843 : True := True.intro
theorem Mine.top.tw15508944514630427714 : True := True.intro
theorem Mine.top.tw5245862010334584759 : True := True.intro
theorem Mine.top.tw14983691940233647259 : True := True.intro
theorem Mine.top.tw12117888159696746259 : True := True.intro
theorem Mine.top.tw6432616177841060128 : True := True.intro
theorem Mine.top.tw14317375437502057738 : True := True.intro
theorem Mine.top.tw11620634932572840514 : True := True.intro
theorem Mine.top.tw3909029901177050473 : True := True.intro
theorem Mine.top.tw17958866498819703998 : True := True.intro
theorem Mine.top.tw1974259917200649262 : True := True.intro
theorem Mine.top.tw8450641986135516787 : True := True.intro
theorem Mine.top.tw17783859843131274014 : True := True.intro
theorem Mine.top.tw1016984595167383106 : True := True.intro
theorem Mine.top.tw7008692893051332821 : True := True.intro
theorem Mine.top.tw11134249225346278790 : True := True.intro
theorem Mine.top.tw10512489437642701289 : True := True.intro
theorem Mine.top.tw3423177367516475676 : True := True.intro
theorem Mine.top.tw4134505453457115739 : True := True.intro
theorem Mine.top.tw2411195145006440666 : True := True.intro
theorem Mine.top.tw6480638250107114081 : True := True.intro
theorem Mine.top.tw15569959144833144457 : True := True.intro
theorem Mine.top.tw4158126171336067921 : True := True.intro
theorem Mine.top.tw11131206648525784891 : True := True.intro
theorem Mine.top.tw6919701780365589675 : True := True.intro
theorem Mine.top.tw13318506193475082254 : True := True.intro
theorem Mine.top.tw11072019736110318841 : True := True.intro
theorem Mine.top.tw3302753350502126306 : True := True.intro
theorem Mine.top.tw7204493036743257322 : True := True.intro
theorem Mine.top.tw17160434163424456010 : True := True.intro
theorem Mine.top.tw16034636559557993077 : True := True.intro
theorem Mine.top.tw8163011886388404031 : True := True.intro
theorem Mine.top.tw15799541711010589177 : True := True.intro
theorem Mine.top.tw5225916559131626549 : True := True.intro
theorem Mine.top.tw15722756333993289495 : True := True.intro
theorem Mine.top.tw14823308797102314842 : True := True.intro
theorem Mine.top.tw9407396174263392564 : True := True.intro
theorem Mine.top.tw9953747333497923681 : True := True.intro
theorem Mine.top.tw9831455883205970180 : True := True.intro
theorem Mine.top.tw3831216023754155268 : True := True.intro
theorem Mine.top.tw7444641836354208208 : True := True.intro
theorem Mine.top.tw14608685727046917156 : True := True.intro
theorem Mine.top.tw10367675484739944270 : True := True.intro
theorem Mine.top.tw1088946173253831356 : True := True.intro
theorem Mine.top.tw2770563814800254177 : True := True.intro
theorem Mine.top.tw1843344800811705456 : True := True.intro
theorem Mine.top.tw14537839394382259888 : True := True.intro
theorem Mine.top.tw965346924571166687 : True := True.intro
theorem Mine.top.tw4392038535549328194 : True := True.intro
theorem Mine.top.tw16719718919923625709 : True := True.intro
theorem Mine.top.tw3465488137227279516 : True := True.intro
theorem Mine.top.tw7715697345341360870 : True := True.intro
theorem Mine.top.tw1595350964381101642 : True := True.intro
theorem Mine.top.tw15151295755643613229 : True := True.intro
theorem Mine.top.tw2878843996050045342 : True := True.intro
theorem Mine.top.tw12392516345856041104 : True := True.intro
theorem Mine.top.tw2617181576586992344 : True := True.intro
theorem Mine.top.tw4758991174889311326 : True := True.intro
theorem Mine.top.tw16325430554902658873 : True := True.intro
theorem Mine.top.tw408693308722189009 : True := True.intro
theorem Mine.top.tw3669314199184481253 : True := True.intro
theorem Mine.top.tw1139600151236580504 : True := True.intro
theorem Mine.top.tw10187724287525710026 : True := True.intro
theorem Mine.top.tw2446451932059125521 : True := True.intro
theorem Mine.top.tw2165817408578904141 : True := True.intro
theorem Mine.top.tw12865423146811077096 : True := True.intro
theorem Mine.top.tw13167462122316868159 : True := True.intro
theorem Mine.top.tw12209182163369298222 : True := True.intro
theorem Mine.top.tw7249705126575804556 : True := True.intro
theorem Mine.top.tw17921175469725437805 : True := True.intro
theorem Mine.top.tw8874702517807110003 : True := True.intro
theorem Mine.top.tw8912170899635468890 : True := True.intro
theorem Mine.top.tw9961057766049560675 : True := True.intro
theorem Mine.top.tw7198060816514059695 : True := True.intro
theorem Mine.top.tw15542334942015070624 : True := True.intro
theorem Mine.top.tw18371284783138465269 : True := True.intro
theorem Mine.top.tw7138430578808182737 : True := True.intro
theorem Mine.top.tw3195968871104189447 : True := True.intro
theorem Mine.top.tw14065501367340364311 : True := True.intro
theorem Mine.top.tw6754034310392073148 : True := True.intro
theorem Mine.top.tw5380135791562185454 : True := True.intro
theorem Mine.top.tw10871174231137468428 : True := True.intro
theorem Mine.top.tw602653604445443664 : True := True.intro
theorem Mine.top.tw15878805988109762761 : True := True.intro
theorem Mine.top.tw10219655510578893393 : True := True.intro
theorem Mine.top.tw12545222027267286695 : True := True.intro
theorem Mine.top.tw4691186174975459493 : True := True.intro
theorem Mine.top.tw1486479319815781832 : True := True.intro
theorem Mine.top.tw390997316461189296 : True := True.intro
theorem Mine.top.tw1536312445118062077 : True := True.intro
theorem Mine.top.tw14349089067433371257 : True := True.intro
theorem Mine.top.tw6370870915552960936 : True := True.intro
open PySem PySem.W PyProof.Rows
set_option Elab.async true
theorem Mine.top : PySem.Challenge.rw_ae5016_01.Holds := by
  (w_on; o_law; o_head (kHook Mine.KH Mine.asH (fun _ => by kernel_rfl)); (case hw => w_witness2))
  intro w s₀ s₁ mg mb G Y fa o pm cd doc dV kV ho hd hcd hD hmg hg args vals as hpre hlay hrd hwl hlo
  have KX := kIn_of Y
  have X := (Ground.X G).1
  have V := (Ground.X G).2
  refine Ground.open G ?_
  intro T B D TE TW
  wrow_args hpre hlay hrd hwl hlo
  all_goals (
    refine enter_call ?_
    refine Mine.close KX T hmg hg (by assumption) (by assumption) (by first | omega | assumption) ?_
    intro s' hos hK hG
    exact Mine.law_good hos hK hG)
set_option Elab.async false
theorem PySem.Challenge.cw_ae5016_01_holds : PySem.Challenge.rw_ae5016_01.Holds :=
  Mine.top

